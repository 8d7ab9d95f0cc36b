import JvmDerived
import JvmDerived.Pilot.@@N@@Statement
import JvmDerived.Pilot.@@N@@Code
set_option linter.unusedVariables false
set_option linter.unusedSimpArgs false
namespace Jvm.Own
open Sem ClassFile Op Lib Bundle Jvm.Stand Jvm.Free Jvm.LawKit Jvm.RoadKit
/-- from this frame the walk ends, and ends well -/
def Go (p : Program) (e : Env) (below : List Frame) (Q : Outcome → State → Prop) (T : State) (g : JFrame) : Prop :=
  ∃ s₂ o, Steps p.tables e below (T.setTop g) s₂ ∧ s₂.status = .running ∧ Ended s₂ below o ∧ Q o s₂
/-- where a walk stands; the tables at hand are hidden -/
def Cx (p : Program) (l : Launch) (e : Env) (R : Room) (s : State) (m : MethodId) (args : Array Value) (below : List Frame) (meth : Method) (c : Code)
    (Z : State) (EL : List (String × Nat)) (kn : Prop) (y : MethodName) (bytes : ByteArray) (maxL : Nat) (ret : Option FieldType)
    (ws : List Addr) (T : State) (h : Heap) (k n : Nat) : Prop :=
  (p.tables.exec = Jvm.exec ∧ c.code = bytes ∧ c.maxLocals = maxL ∧ meth.sig.returnType = ret ∧ meth.locks = false ∧ meth.name = y.name ∧ Ext Z.heap s.heap) ∧
  ∃ (vm0 : Vm) (k0 : Nat) (locs : List Loc), Stand p l e R (s.setVm vm0) m args below meth c T locs k n ∧ T.heap = h ∧ Z.Warmed39 vm0 ∧ vm0.findClass y.cls = some m.cls ∧ s.Since vm0 k0 ∧ k0 ≤ h.size ∧
    Fr Z.heap.size locs ∧ CHr Z EL s.vm s.heap vm0 h ∧ (∀ x ∈ ws, Safe Z EL vm0 h x ∧ x < h.size) ∧ Ext Z.heap h ∧ (kn → vm0.MethodsKnown ∧ vm0.FramesKnown below)
section Own
variable {p : Program} {l : Launch} {e : Env} {R : Room} {s : State} {m : MethodId} {args : Array Value} {below : List Frame} {meth : Method} {c : Code} {Z : State} {a0 : Array Value} {EL : List (String × Nat)} {kn : Prop} {y : MethodName} {bytes : ByteArray} {maxL : Nat} {ret : Option FieldType}
  {ws : List Addr} {T T' : State} {h h' : Heap} {k n : Nat} {Q : Outcome → State → Prop} {g g' : JFrame} {pc pc' : Nat} {L L' : Array Slot} {S : List Value}
theorem Go.of (st : ∀ t, Steps p.tables e below (T'.setTop g') t → Steps p.tables e below (T.setTop g) t) (K : Go p e below Q T' g') : Go p e below Q T g := by
  obtain ⟨s2, o, h1, h2⟩ := K; exact ⟨s2, o, st _ h1, h2⟩
theorem Cx.exec (X : Cx p l e R s m args below meth c Z EL kn y bytes maxL ret ws T h k n) : p.tables.exec = Jvm.exec := X.1.1
theorem Cx.code (X : Cx p l e R s m args below meth c Z EL kn y bytes maxL ret ws T h k n) : c.code = bytes := X.1.2.1
theorem Cx.at (X : Cx p l e R s m args below meth c Z EL kn y bytes maxL ret ws T h k n) : At T m c below := by obtain ⟨-, vm0, k0, locs, S, -⟩ := X; exact S.here
theorem Cx.old (X : Cx p l e R s m args below meth c Z EL kn y bytes maxL ret ws T h k n) : Ext Z.heap h := by obtain ⟨-, vm0, k0, locs, -, -, -, -, -, -, -, -, -, E, -⟩ := X; exact E
theorem Cx.lt (X : Cx p l e R s m args below meth c Z EL kn y bytes maxL ret ws T h k n) : Z.heap.size ≤ h.size := X.old.1
theorem s_iload (X : Cx p l e R s m args below meth c Z EL kn y bytes maxL ret ws T h k n) {j : Nat} {v : Int32} (hd : decode bytes pc = .ok (.iload j, 2)) (hl : L[j]? = some (.val (.int v))) (hp : pc + 2 = pc') (K : Go p e below Q T (mkF m pc' L (.int v :: S))) : Go p e below Q T (mkF m pc L (S)) := by
  subst hp
  exact Go.of (fun t q => XS.iload X.at X.exec rfl (hb X.code hd) hl q) K
theorem s_iloadN (X : Cx p l e R s m args below meth c Z EL kn y bytes maxL ret ws T h k n) {j : Fin 4} {v : Int32} (hd : decode bytes pc = .ok (.iload_n j, 1)) (hl : L[j.val]? = some (.val (.int v))) (hp : pc + 1 = pc') (K : Go p e below Q T (mkF m pc' L (.int v :: S))) : Go p e below Q T (mkF m pc L (S)) := by
  subst hp
  exact Go.of (fun t q => XS.iloadN X.at X.exec rfl (hb X.code hd) hl q) K
theorem s_lload (X : Cx p l e R s m args below meth c Z EL kn y bytes maxL ret ws T h k n) {j : Nat} {v : Int64} (hd : decode bytes pc = .ok (.lload j, 2)) (hl : L[j]? = some (.val (.long v))) (hp : pc + 2 = pc') (K : Go p e below Q T (mkF m pc' L (.long v :: S))) : Go p e below Q T (mkF m pc L (S)) := by
  subst hp
  exact Go.of (fun t q => XS.lload X.at X.exec rfl (hb X.code hd) hl q) K
theorem s_lloadN (X : Cx p l e R s m args below meth c Z EL kn y bytes maxL ret ws T h k n) {j : Fin 4} {v : Int64} (hd : decode bytes pc = .ok (.lload_n j, 1)) (hl : L[j.val]? = some (.val (.long v))) (hp : pc + 1 = pc') (K : Go p e below Q T (mkF m pc' L (.long v :: S))) : Go p e below Q T (mkF m pc L (S)) := by
  subst hp
  exact Go.of (fun t q => XS.lloadN X.at X.exec rfl (hb X.code hd) hl q) K
theorem s_aload (X : Cx p l e R s m args below meth c Z EL kn y bytes maxL ret ws T h k n) {j : Nat} {v : Value} (hd : decode bytes pc = .ok (.aload j, 2)) (hl : L[j]? = some (.val v)) (hv : v.isRef = true) (hp : pc + 2 = pc') (K : Go p e below Q T (mkF m pc' L (v :: S))) : Go p e below Q T (mkF m pc L (S)) := by
  subst hp
  exact Go.of (fun t q => XS.aload X.at X.exec rfl (hb X.code hd) hl hv q) K
theorem s_aloadN (X : Cx p l e R s m args below meth c Z EL kn y bytes maxL ret ws T h k n) {j : Fin 4} {v : Value} (hd : decode bytes pc = .ok (.aload_n j, 1)) (hl : L[j.val]? = some (.val v)) (hv : v.isRef = true) (hp : pc + 1 = pc') (K : Go p e below Q T (mkF m pc' L (v :: S))) : Go p e below Q T (mkF m pc L (S)) := by
  subst hp
  exact Go.of (fun t q => XS.aloadN X.at X.exec rfl (hb X.code hd) hl hv q) K
theorem s_istore (X : Cx p l e R s m args below meth c Z EL kn y bytes maxL ret ws T h k n) {j : Nat} {v : Int32} (hd : decode bytes pc = .ok (.istore j, 2)) (hl : storeLocals L j (.int v) = some L') (hp : pc + 2 = pc') (K : Go p e below Q T (mkF m pc' L' (S))) : Go p e below Q T (mkF m pc L (.int v :: S)) := by
  subst hp
  exact Go.of (fun t q => XS.istore X.at X.exec rfl (hb X.code hd) rfl hl q) K
theorem s_istoreN (X : Cx p l e R s m args below meth c Z EL kn y bytes maxL ret ws T h k n) {j : Fin 4} {v : Int32} (hd : decode bytes pc = .ok (.istore_n j, 1)) (hl : storeLocals L j.val (.int v) = some L') (hp : pc + 1 = pc') (K : Go p e below Q T (mkF m pc' L' (S))) : Go p e below Q T (mkF m pc L (.int v :: S)) := by
  subst hp
  exact Go.of (fun t q => XS.istoreN X.at X.exec rfl (hb X.code hd) rfl hl q) K
theorem s_lstore (X : Cx p l e R s m args below meth c Z EL kn y bytes maxL ret ws T h k n) {j : Nat} {v : Int64} (hd : decode bytes pc = .ok (.lstore j, 2)) (hl : storeLocals L j (.long v) = some L') (hp : pc + 2 = pc') (K : Go p e below Q T (mkF m pc' L' (S))) : Go p e below Q T (mkF m pc L (.long v :: S)) := by
  subst hp
  exact Go.of (fun t q => XS.lstore X.at X.exec rfl (hb X.code hd) rfl hl q) K
theorem s_lstoreN (X : Cx p l e R s m args below meth c Z EL kn y bytes maxL ret ws T h k n) {j : Fin 4} {v : Int64} (hd : decode bytes pc = .ok (.lstore_n j, 1)) (hl : storeLocals L j.val (.long v) = some L') (hp : pc + 1 = pc') (K : Go p e below Q T (mkF m pc' L' (S))) : Go p e below Q T (mkF m pc L (.long v :: S)) := by
  subst hp
  exact Go.of (fun t q => XS.lstoreN X.at X.exec rfl (hb X.code hd) rfl hl q) K
theorem s_astore (X : Cx p l e R s m args below meth c Z EL kn y bytes maxL ret ws T h k n) {j : Nat} {v : Value} (hd : decode bytes pc = .ok (.astore j, 2)) (hv : v.isRef = true) (hl : storeLocals L j v = some L') (hp : pc + 2 = pc') (K : Go p e below Q T (mkF m pc' L' (S))) : Go p e below Q T (mkF m pc L (v :: S)) := by
  subst hp
  exact Go.of (fun t q => XS.astore X.at X.exec rfl (hb X.code hd) rfl hv hl q) K
theorem s_astoreN (X : Cx p l e R s m args below meth c Z EL kn y bytes maxL ret ws T h k n) {j : Fin 4} {v : Value} (hd : decode bytes pc = .ok (.astore_n j, 1)) (hv : v.isRef = true) (hl : storeLocals L j.val v = some L') (hp : pc + 1 = pc') (K : Go p e below Q T (mkF m pc' L' (S))) : Go p e below Q T (mkF m pc L (v :: S)) := by
  subst hp
  exact Go.of (fun t q => XS.astoreN X.at X.exec rfl (hb X.code hd) rfl hv hl q) K
theorem s_iconst (X : Cx p l e R s m args below meth c Z EL kn y bytes maxL ret ws T h k n) {i : Int} {v : Int32} (hd : decode bytes pc = .ok (.iconst i, 1)) (hv : Int32.ofInt i = v) (hp : pc + 1 = pc') (K : Go p e below Q T (mkF m pc' L (.int v :: S))) : Go p e below Q T (mkF m pc L (S)) := by
  subst hp
  exact Go.of (fun t q => XT.iconstV X.at X.exec rfl v (hb X.code hd) hv q) K
theorem s_bipush (X : Cx p l e R s m args below meth c Z EL kn y bytes maxL ret ws T h k n) {i : Int} {v : Int32} (hd : decode bytes pc = .ok (.bipush i, 2)) (hv : (Int8.ofInt i).toInt32 = v) (hp : pc + 2 = pc') (K : Go p e below Q T (mkF m pc' L (.int v :: S))) : Go p e below Q T (mkF m pc L (S)) := by
  subst hp
  exact Go.of (fun t q => XT.bipushV X.at X.exec rfl v (hb X.code hd) hv q) K
theorem s_sipush (X : Cx p l e R s m args below meth c Z EL kn y bytes maxL ret ws T h k n) {i : Int} {v : Int32} (hd : decode bytes pc = .ok (.sipush i, 3)) (hv : (Int16.ofInt i).toInt32 = v) (hp : pc + 3 = pc') (K : Go p e below Q T (mkF m pc' L (.int v :: S))) : Go p e below Q T (mkF m pc L (S)) := by
  subst hp
  exact Go.of (fun t q => XT.sipushV X.at X.exec rfl v (hb X.code hd) hv q) K
theorem s_lconst (X : Cx p l e R s m args below meth c Z EL kn y bytes maxL ret ws T h k n) {i : Fin 2} {v : Int64} (hd : decode bytes pc = .ok (.lconst i, 1)) (hv : Int64.ofNat i = v) (hp : pc + 1 = pc') (K : Go p e below Q T (mkF m pc' L (.long v :: S))) : Go p e below Q T (mkF m pc L (S)) := by
  subst hp
  exact Go.of (fun t q => XT.lconstV X.at X.exec rfl v (hb X.code hd) hv q) K
theorem s_aconst (X : Cx p l e R s m args below meth c Z EL kn y bytes maxL ret ws T h k n)  (hd : decode bytes pc = .ok (.aconst_null, 1)) (hp : pc + 1 = pc') (K : Go p e below Q T (mkF m pc' L (.null :: S))) : Go p e below Q T (mkF m pc L (S)) := by
  subst hp
  exact Go.of (fun t q => XS.aconstNull X.at X.exec rfl (hb X.code hd) q) K
theorem s_dup (X : Cx p l e R s m args below meth c Z EL kn y bytes maxL ret ws T h k n) {v : Value} (hd : decode bytes pc = .ok (.dup, 1)) (hc : v.category = 1) (hp : pc + 1 = pc') (K : Go p e below Q T (mkF m pc' L (v :: v :: S))) : Go p e below Q T (mkF m pc L (v :: S)) := by
  subst hp
  exact Go.of (fun t q => XS.dup X.at X.exec rfl (hb X.code hd) rfl hc q) K
theorem s_pop (X : Cx p l e R s m args below meth c Z EL kn y bytes maxL ret ws T h k n) {v : Value} (hd : decode bytes pc = .ok (.pop, 1)) (hc : v.category = 1) (hp : pc + 1 = pc') (K : Go p e below Q T (mkF m pc' L (S))) : Go p e below Q T (mkF m pc L (v :: S)) := by
  subst hp
  exact Go.of (fun t q => XS.pop X.at X.exec rfl (hb X.code hd) rfl hc q) K
theorem s_iadd (X : Cx p l e R s m args below meth c Z EL kn y bytes maxL ret ws T h k n) {x z : Int32} (hd : decode bytes pc = .ok (.iadd, 1)) (hp : pc + 1 = pc') (K : Go p e below Q T (mkF m pc' L (.int (x + z) :: S))) : Go p e below Q T (mkF m pc L (.int z :: .int x :: S)) := by
  subst hp
  exact Go.of (fun t q => XS.iadd X.at X.exec rfl (hb X.code hd) rfl q) K
theorem s_isub (X : Cx p l e R s m args below meth c Z EL kn y bytes maxL ret ws T h k n) {x z : Int32} (hd : decode bytes pc = .ok (.isub, 1)) (hp : pc + 1 = pc') (K : Go p e below Q T (mkF m pc' L (.int (x - z) :: S))) : Go p e below Q T (mkF m pc L (.int z :: .int x :: S)) := by
  subst hp
  exact Go.of (fun t q => XS.isub X.at X.exec rfl (hb X.code hd) rfl q) K
theorem s_imul (X : Cx p l e R s m args below meth c Z EL kn y bytes maxL ret ws T h k n) {x z : Int32} (hd : decode bytes pc = .ok (.imul, 1)) (hp : pc + 1 = pc') (K : Go p e below Q T (mkF m pc' L (.int (x * z) :: S))) : Go p e below Q T (mkF m pc L (.int z :: .int x :: S)) := by
  subst hp
  exact Go.of (fun t q => XS.imul X.at X.exec rfl (hb X.code hd) rfl q) K
theorem s_iand (X : Cx p l e R s m args below meth c Z EL kn y bytes maxL ret ws T h k n) {x z : Int32} (hd : decode bytes pc = .ok (.iand, 1)) (hp : pc + 1 = pc') (K : Go p e below Q T (mkF m pc' L (.int (x &&& z) :: S))) : Go p e below Q T (mkF m pc L (.int z :: .int x :: S)) := by
  subst hp
  exact Go.of (fun t q => XS.iand X.at X.exec rfl (hb X.code hd) rfl q) K
theorem s_ior (X : Cx p l e R s m args below meth c Z EL kn y bytes maxL ret ws T h k n) {x z : Int32} (hd : decode bytes pc = .ok (.ior, 1)) (hp : pc + 1 = pc') (K : Go p e below Q T (mkF m pc' L (.int (x ||| z) :: S))) : Go p e below Q T (mkF m pc L (.int z :: .int x :: S)) := by
  subst hp
  exact Go.of (fun t q => XS.ior X.at X.exec rfl (hb X.code hd) rfl q) K
theorem s_ixor (X : Cx p l e R s m args below meth c Z EL kn y bytes maxL ret ws T h k n) {x z : Int32} (hd : decode bytes pc = .ok (.ixor, 1)) (hp : pc + 1 = pc') (K : Go p e below Q T (mkF m pc' L (.int (x ^^^ z) :: S))) : Go p e below Q T (mkF m pc L (.int z :: .int x :: S)) := by
  subst hp
  exact Go.of (fun t q => XS.ixor X.at X.exec rfl (hb X.code hd) rfl q) K
theorem s_ishl (X : Cx p l e R s m args below meth c Z EL kn y bytes maxL ret ws T h k n) {x z : Int32} (hd : decode bytes pc = .ok (.ishl, 1)) (hp : pc + 1 = pc') (K : Go p e below Q T (mkF m pc' L (.int (x <<< (z &&& 31)) :: S))) : Go p e below Q T (mkF m pc L (.int z :: .int x :: S)) := by
  subst hp
  exact Go.of (fun t q => XS.ishl X.at X.exec rfl (hb X.code hd) rfl q) K
theorem s_ishr (X : Cx p l e R s m args below meth c Z EL kn y bytes maxL ret ws T h k n) {x z : Int32} (hd : decode bytes pc = .ok (.ishr, 1)) (hp : pc + 1 = pc') (K : Go p e below Q T (mkF m pc' L (.int (x >>> (z &&& 31)) :: S))) : Go p e below Q T (mkF m pc L (.int z :: .int x :: S)) := by
  subst hp
  exact Go.of (fun t q => XS.ishr X.at X.exec rfl (hb X.code hd) rfl q) K
theorem s_iushr (X : Cx p l e R s m args below meth c Z EL kn y bytes maxL ret ws T h k n) {x z : Int32} (hd : decode bytes pc = .ok (.iushr, 1)) (hp : pc + 1 = pc') (K : Go p e below Q T (mkF m pc' L (.int ((x.toUInt32 >>> (z &&& 31).toUInt32).toInt32) :: S))) : Go p e below Q T (mkF m pc L (.int z :: .int x :: S)) := by
  subst hp
  exact Go.of (fun t q => XS.iushr X.at X.exec rfl (hb X.code hd) rfl q) K
theorem s_idiv (X : Cx p l e R s m args below meth c Z EL kn y bytes maxL ret ws T h k n) {x z : Int32} (hd : decode bytes pc = .ok (.idiv, 1)) (hz : z ≠ 0) (hp : pc + 1 = pc') (K : Go p e below Q T (mkF m pc' L (.int (x / z) :: S))) : Go p e below Q T (mkF m pc L (.int z :: .int x :: S)) := by
  subst hp
  exact Go.of (fun t q => XS.idiv X.at X.exec rfl (hb X.code hd) rfl hz q) K
theorem s_irem (X : Cx p l e R s m args below meth c Z EL kn y bytes maxL ret ws T h k n) {x z : Int32} (hd : decode bytes pc = .ok (.irem, 1)) (hz : z ≠ 0) (hp : pc + 1 = pc') (K : Go p e below Q T (mkF m pc' L (.int (x % z) :: S))) : Go p e below Q T (mkF m pc L (.int z :: .int x :: S)) := by
  subst hp
  obtain ⟨-, vm0, k0, locs, St, -⟩ := id X
  exact Go.of (fun t q => iremM St X.exec rfl (hb X.code hd) rfl hz q) K
theorem s_ineg (X : Cx p l e R s m args below meth c Z EL kn y bytes maxL ret ws T h k n) {x : Int32} (hd : decode bytes pc = .ok (.ineg, 1)) (hp : pc + 1 = pc') (K : Go p e below Q T (mkF m pc' L (.int (-x) :: S))) : Go p e below Q T (mkF m pc L (.int x :: S)) := by
  subst hp
  exact Go.of (fun t q => XS.ineg X.at X.exec rfl (hb X.code hd) rfl q) K
theorem s_ladd (X : Cx p l e R s m args below meth c Z EL kn y bytes maxL ret ws T h k n) {x z : Int64} (hd : decode bytes pc = .ok (.ladd, 1)) (hp : pc + 1 = pc') (K : Go p e below Q T (mkF m pc' L (.long (x + z) :: S))) : Go p e below Q T (mkF m pc L (.long z :: .long x :: S)) := by
  subst hp
  exact Go.of (fun t q => XS.ladd X.at X.exec rfl (hb X.code hd) rfl q) K
theorem s_lsub (X : Cx p l e R s m args below meth c Z EL kn y bytes maxL ret ws T h k n) {x z : Int64} (hd : decode bytes pc = .ok (.lsub, 1)) (hp : pc + 1 = pc') (K : Go p e below Q T (mkF m pc' L (.long (x - z) :: S))) : Go p e below Q T (mkF m pc L (.long z :: .long x :: S)) := by
  subst hp
  exact Go.of (fun t q => XS.lsub X.at X.exec rfl (hb X.code hd) rfl q) K
theorem s_land (X : Cx p l e R s m args below meth c Z EL kn y bytes maxL ret ws T h k n) {x z : Int64} (hd : decode bytes pc = .ok (.land, 1)) (hp : pc + 1 = pc') (K : Go p e below Q T (mkF m pc' L (.long (x &&& z) :: S))) : Go p e below Q T (mkF m pc L (.long z :: .long x :: S)) := by
  subst hp
  exact Go.of (fun t q => XS.land X.at X.exec rfl (hb X.code hd) rfl q) K
theorem s_lrem (X : Cx p l e R s m args below meth c Z EL kn y bytes maxL ret ws T h k n) {x z : Int64} (hd : decode bytes pc = .ok (.lrem, 1)) (hz : z ≠ 0) (hp : pc + 1 = pc') (K : Go p e below Q T (mkF m pc' L (.long (x - (x / z) * z) :: S))) : Go p e below Q T (mkF m pc L (.long z :: .long x :: S)) := by
  subst hp
  exact Go.of (fun t q => XS.lrem X.at X.exec rfl (hb X.code hd) rfl hz q) K
theorem s_lneg (X : Cx p l e R s m args below meth c Z EL kn y bytes maxL ret ws T h k n) {x : Int64} (hd : decode bytes pc = .ok (.lneg, 1)) (hp : pc + 1 = pc') (K : Go p e below Q T (mkF m pc' L (.long (-x) :: S))) : Go p e below Q T (mkF m pc L (.long x :: S)) := by
  subst hp
  exact Go.of (fun t q => XS.lneg X.at X.exec rfl (hb X.code hd) rfl q) K
theorem s_lushr (X : Cx p l e R s m args below meth c Z EL kn y bytes maxL ret ws T h k n) {x : Int64} {z : Int32} (hd : decode bytes pc = .ok (.lushr, 1)) (hp : pc + 1 = pc') (K : Go p e below Q T (mkF m pc' L (.long ((x.toUInt64 >>> (z &&& 0x3f).toInt64.toUInt64).toInt64) :: S))) : Go p e below Q T (mkF m pc L (.int z :: .long x :: S)) := by
  subst hp
  exact Go.of (fun t q => XS.lushr X.at X.exec rfl (hb X.code hd) rfl q) K
theorem s_lcmp (X : Cx p l e R s m args below meth c Z EL kn y bytes maxL ret ws T h k n) {x z : Int64} (hd : decode bytes pc = .ok (.lcmp, 1)) (hp : pc + 1 = pc') (K : Go p e below Q T (mkF m pc' L (.int (lcmpW x z) :: S))) : Go p e below Q T (mkF m pc L (.long z :: .long x :: S)) := by
  subst hp
  exact Go.of (fun t q => XS.lcmp X.at X.exec rfl (hb X.code hd) rfl q) K
theorem s_i2c (X : Cx p l e R s m args below meth c Z EL kn y bytes maxL ret ws T h k n) {x : Int32} (hd : decode bytes pc = .ok (.i2c, 1)) (hp : pc + 1 = pc') (K : Go p e below Q T (mkF m pc' L (.int (x.toUInt32.toUInt16.toUInt32.toInt32) :: S))) : Go p e below Q T (mkF m pc L (.int x :: S)) := by
  subst hp
  exact Go.of (fun t q => XS.i2c X.at X.exec rfl (hb X.code hd) rfl q) K
theorem s_i2b (X : Cx p l e R s m args below meth c Z EL kn y bytes maxL ret ws T h k n) {x : Int32} (hd : decode bytes pc = .ok (.i2b, 1)) (hp : pc + 1 = pc') (K : Go p e below Q T (mkF m pc' L (.int (x.toInt8.toInt32) :: S))) : Go p e below Q T (mkF m pc L (.int x :: S)) := by
  subst hp
  exact Go.of (fun t q => XS.i2b X.at X.exec rfl (hb X.code hd) rfl q) K
theorem s_i2l (X : Cx p l e R s m args below meth c Z EL kn y bytes maxL ret ws T h k n) {x : Int32} (hd : decode bytes pc = .ok (.i2l, 1)) (hp : pc + 1 = pc') (K : Go p e below Q T (mkF m pc' L (.long (x.toInt64) :: S))) : Go p e below Q T (mkF m pc L (.int x :: S)) := by
  subst hp
  exact Go.of (fun t q => XS.i2l X.at X.exec rfl (hb X.code hd) rfl q) K
theorem s_l2i (X : Cx p l e R s m args below meth c Z EL kn y bytes maxL ret ws T h k n) {x : Int64} (hd : decode bytes pc = .ok (.l2i, 1)) (hp : pc + 1 = pc') (K : Go p e below Q T (mkF m pc' L (.int (x.toInt32) :: S))) : Go p e below Q T (mkF m pc L (.long x :: S)) := by
  subst hp
  exact Go.of (fun t q => XS.l2i X.at X.exec rfl (hb X.code hd) rfl q) K
theorem s_iinc (X : Cx p l e R s m args below meth c Z EL kn y bytes maxL ret ws T h k n) {j : Nat} {i : Int} {x v : Int32} (hd : decode bytes pc = .ok (.iinc j i, 3)) (hv : Int32.ofInt i = v) (hl : L[j]? = some (.val (.int x))) (hl' : storeLocals L j (.int (x + v)) = some L') (hp : pc + 3 = pc') (K : Go p e below Q T (mkF m pc' L' (S))) : Go p e below Q T (mkF m pc L (S)) := by
  subst hp
  exact Go.of (fun t q => XT.iincV X.at X.exec rfl v (hb X.code hd) hv hl hl' q) K
theorem s_goto (X : Cx p l e R s m args below meth c Z EL kn y bytes maxL ret ws T h k n) {o : Int} (hd : decode bytes pc = .ok (.goto o, 3)) (ho : 0 ≤ (pc : Int) + o) (hp : ((pc : Int) + o).toNat = pc') (K : Go p e below Q T (mkF m pc' L S)) : Go p e below Q T (mkF m pc L S) :=
  Go.of (fun t q => XS.goto X.at X.exec rfl (pc0 := pc) rfl (hb X.code hd) ho hp q) K
/-- a comparison, said plainly -/
def tst : ClassFile.Cond → Int32 → Int32 → Prop
  | .eq, x, z => x = z
  | .ne, x, z => ¬ x = z
  | .lt, x, z => x < z
  | .ge, x, z => ¬ x < z
  | .gt, x, z => z < x
  | .le, x, z => ¬ z < x
/-- .. and its contrary -/
def nts : ClassFile.Cond → Int32 → Int32 → Prop
  | .eq, x, z => ¬ x = z
  | .ne, x, z => x = z
  | .lt, x, z => ¬ x < z
  | .ge, x, z => x < z
  | .gt, x, z => ¬ z < x
  | .le, x, z => z < x
theorem tst_t {cd : ClassFile.Cond} {x z : Int32} (q : tst cd x z) : if_icmp.holds cd x z = true := by
  cases cd
  · exact XT.ii_eq_t q
  · exact XT.ii_ne_t q
  · exact XT.ii_lt_t q
  · exact XT.ii_ge_t q
  · exact XT.ii_gt_t q
  · exact XT.ii_le_t q
theorem nts_f {cd : ClassFile.Cond} {x z : Int32} (q : nts cd x z) : if_icmp.holds cd x z = false := by
  cases cd
  · exact XT.ii_eq_f q
  · exact XT.ii_ne_f q
  · exact XT.ii_lt_f q
  · exact XT.ii_ge_f q
  · exact XT.ii_gt_f q
  · exact XT.ii_le_f q
theorem tst_or (cd : ClassFile.Cond) (x z : Int32) : tst cd x z ∨ nts cd x z := by
  cases cd
  · exact Classical.em (x = z)
  · exact (Classical.em (x = z)).symm
  · exact Classical.em (x < z)
  · exact (Classical.em (x < z)).symm
  · exact Classical.em (z < x)
  · exact (Classical.em (z < x)).symm
theorem s_icmpT (X : Cx p l e R s m args below meth c Z EL kn y bytes maxL ret ws T h k n) {cd : ClassFile.Cond} {x z : Int32} {o : Int} (hd : decode bytes pc = .ok (.if_icmp cd o, 3)) (q : tst cd x z) (ho : 0 ≤ (pc : Int) + o) (hp : ((pc : Int) + o).toNat = pc') (K : Go p e below Q T (mkF m pc' L S)) : Go p e below Q T (mkF m pc L (.int z :: .int x :: S)) :=
  Go.of (fun t r => XS.icmpYes X.at X.exec rfl (pc0 := pc) rfl (hb X.code hd) rfl (tst_t q) ho hp r) K
theorem s_icmpF (X : Cx p l e R s m args below meth c Z EL kn y bytes maxL ret ws T h k n) {cd : ClassFile.Cond} {x z : Int32} {o : Int} (hd : decode bytes pc = .ok (.if_icmp cd o, 3)) (q : nts cd x z) (hp : pc + 3 = pc') (K : Go p e below Q T (mkF m pc' L S)) : Go p e below Q T (mkF m pc L (.int z :: .int x :: S)) := by
  subst hp
  exact Go.of (fun t r => XS.icmpNo X.at X.exec rfl (hb X.code hd) rfl (nts_f q) r) K
theorem s_ifT (X : Cx p l e R s m args below meth c Z EL kn y bytes maxL ret ws T h k n) {cd : ClassFile.Cond} {x : Int32} {o : Int} (hd : decode bytes pc = .ok (.ifCond cd o, 3)) (q : tst cd x 0) (ho : 0 ≤ (pc : Int) + o) (hp : ((pc : Int) + o).toNat = pc') (K : Go p e below Q T (mkF m pc' L S)) : Go p e below Q T (mkF m pc L (.int x :: S)) :=
  Go.of (fun t r => XS.ifYes X.at X.exec rfl (pc0 := pc) rfl (hb X.code hd) rfl ((if0 _ _).trans (tst_t q)) ho hp r) K
theorem s_ifF (X : Cx p l e R s m args below meth c Z EL kn y bytes maxL ret ws T h k n) {cd : ClassFile.Cond} {x : Int32} {o : Int} (hd : decode bytes pc = .ok (.ifCond cd o, 3)) (q : nts cd x 0) (hp : pc + 3 = pc') (K : Go p e below Q T (mkF m pc' L S)) : Go p e below Q T (mkF m pc L (.int x :: S)) := by
  subst hp
  exact Go.of (fun t r => XS.ifNo X.at X.exec rfl (hb X.code hd) rfl ((if0 _ _).trans (nts_f q)) r) K
theorem s_icmp (X : Cx p l e R s m args below meth c Z EL kn y bytes maxL ret ws T h k n) {cd : ClassFile.Cond} {x z : Int32} {o : Int} {pcF : Nat} (hd : decode bytes pc = .ok (.if_icmp cd o, 3)) (ho : 0 ≤ (pc : Int) + o) (hp : ((pc : Int) + o).toNat = pc') (hf : pc + 3 = pcF) (K : tst cd x z → Go p e below Q T (mkF m pc' L S)) (K' : nts cd x z → Go p e below Q T (mkF m pcF L S)) : Go p e below Q T (mkF m pc L (.int z :: .int x :: S)) :=
  (tst_or cd x z).elim (fun q => s_icmpT X hd q ho hp (K q)) (fun q => s_icmpF X hd q hf (K' q))
theorem s_if (X : Cx p l e R s m args below meth c Z EL kn y bytes maxL ret ws T h k n) {cd : ClassFile.Cond} {x : Int32} {o : Int} {pcF : Nat} (hd : decode bytes pc = .ok (.ifCond cd o, 3)) (ho : 0 ≤ (pc : Int) + o) (hp : ((pc : Int) + o).toNat = pc') (hf : pc + 3 = pcF) (K : tst cd x 0 → Go p e below Q T (mkF m pc' L S)) (K' : nts cd x 0 → Go p e below Q T (mkF m pcF L S)) : Go p e below Q T (mkF m pc L (.int x :: S)) :=
  (tst_or cd x 0).elim (fun q => s_ifT X hd q ho hp (K q)) (fun q => s_ifF X hd q hf (K' q))
theorem s_acmpT (X : Cx p l e R s m args below meth c Z EL kn y bytes maxL ret ws T h k n) {cd : ClassFile.ACond} {x z : Value} {o : Int} (hd : decode bytes pc = .ok (.if_acmp cd o, 3)) (hx' : x.isRef = true) (hz' : z.isRef = true) (q : XT.acmp cd x z = true) (ho : 0 ≤ (pc : Int) + o) (hp : ((pc : Int) + o).toNat = pc') (K : Go p e below Q T (mkF m pc' L S)) : Go p e below Q T (mkF m pc L (z :: x :: S)) :=
  Go.of (fun t r => XT.acmpYes X.at X.exec rfl (pc0 := pc) rfl (hb X.code hd) rfl hx' hz' q ho hp r) K
theorem s_acmpF (X : Cx p l e R s m args below meth c Z EL kn y bytes maxL ret ws T h k n) {cd : ClassFile.ACond} {x z : Value} {o : Int} (hd : decode bytes pc = .ok (.if_acmp cd o, 3)) (hx' : x.isRef = true) (hz' : z.isRef = true) (q : XT.acmp cd x z = false) (hp : pc + 3 = pc') (K : Go p e below Q T (mkF m pc' L S)) : Go p e below Q T (mkF m pc L (z :: x :: S)) := by
  subst hp
  exact Go.of (fun t r => XT.acmpNo X.at X.exec rfl (hb X.code hd) rfl hx' hz' q r) K
theorem s_ifnullT (X : Cx p l e R s m args below meth c Z EL kn y bytes maxL ret ws T h k n) {b : Addr} {o : Int} (hd : decode bytes pc = .ok (.ifnull o, 3)) (ho : 0 ≤ (pc : Int) + o) (hp : ((pc : Int) + o).toNat = pc') (K : Go p e below Q T (mkF m pc' L S)) : Go p e below Q T (mkF m pc L (.null :: S)) :=
  Go.of (fun t r => XS.ifnullYes X.at X.exec rfl (pc0 := pc) rfl (hb X.code hd) rfl ho hp r) K
theorem s_ifnullF (X : Cx p l e R s m args below meth c Z EL kn y bytes maxL ret ws T h k n) {b : Addr} {o : Int} (hd : decode bytes pc = .ok (.ifnull o, 3)) (hp : pc + 3 = pc') (K : Go p e below Q T (mkF m pc' L S)) : Go p e below Q T (mkF m pc L (.ref b :: S)) := by
  subst hp
  exact Go.of (fun t r => XS.ifnullNo X.at X.exec rfl (hb X.code hd) rfl r) K
theorem s_ifnonnullT (X : Cx p l e R s m args below meth c Z EL kn y bytes maxL ret ws T h k n) {b : Addr} {o : Int} (hd : decode bytes pc = .ok (.ifnonnull o, 3)) (ho : 0 ≤ (pc : Int) + o) (hp : ((pc : Int) + o).toNat = pc') (K : Go p e below Q T (mkF m pc' L S)) : Go p e below Q T (mkF m pc L (.ref b :: S)) :=
  Go.of (fun t r => XS.ifnonnullYes X.at X.exec rfl (pc0 := pc) rfl (hb X.code hd) rfl ho hp r) K
theorem s_ifnonnullF (X : Cx p l e R s m args below meth c Z EL kn y bytes maxL ret ws T h k n) {b : Addr} {o : Int} (hd : decode bytes pc = .ok (.ifnonnull o, 3)) (hp : pc + 3 = pc') (K : Go p e below Q T (mkF m pc' L S)) : Go p e below Q T (mkF m pc L (.null :: S)) := by
  subst hp
  exact Go.of (fun t r => XS.ifnonnullNo X.at X.exec rfl (hb X.code hd) rfl r) K
theorem go_int {x z : Int32} (q : x = z) (K : Go p e below Q T (mkF m pc L (.int z :: S))) : Go p e below Q T (mkF m pc L (.int x :: S)) := by subst q; exact K
theorem Cx.more (X : Cx p l e R s m args below meth c Z EL kn y bytes maxL ret ws T h k n) {k' n' : Nat} (hk : k ≤ k') (hn : n ≤ n') : Cx p l e R s m args below meth c Z EL kn y bytes maxL ret ws T h k' n' := by
  obtain ⟨c0, vm0, k0, locs, St, r⟩ := X
  exact ⟨c0, vm0, k0, locs, St.mono hk hn, r⟩
theorem Cx.sub (X : Cx p l e R s m args below meth c Z EL kn y bytes maxL ret ws T h k n) {ws' : List Addr} (hs : ∀ x ∈ ws', x ∈ ws) : Cx p l e R s m args below meth c Z EL kn y bytes maxL ret ws' T h k n := by
  obtain ⟨c0, vm0, k0, locs, St, eT, hZ, hown, hS, hk, N, H, hsf, E, hkn⟩ := X
  exact ⟨c0, vm0, k0, locs, St, eT, hZ, hown, hS, hk, N, H, fun x q => hsf x (hs x q), E, hkn⟩
theorem Cx.wlt (X : Cx p l e R s m args below meth c Z EL kn y bytes maxL ret ws T h k n) {x : Addr} (q : x ∈ ws) : x < h.size := by
  obtain ⟨c0, vm0, k0, locs, St, eT, hZ, hown, hS, hk, N, H, hsf, E, hkn⟩ := X
  exact (hsf x q).2
theorem ext_refl (h : Heap) : Ext h h := ⟨Nat.le_refl _, fun _ _ q => q⟩
theorem ext_trans {h1 h2 h3 : Heap} (E : Ext h1 h2) (F : Ext h2 h3) : Ext h1 h3 := ⟨Nat.le_trans E.1 F.1, fun a c q => F.2 a c (E.2 a c q)⟩
theorem ext_keep {h1 h2 h3 : Heap} {ws : List Addr} (E : Ext h1 h2) (K : Keep h2 h3 ws) (q : ∀ x ∈ ws, h1.size ≤ x) : Ext h1 h3 :=
  ⟨Nat.le_trans E.1 K.1, fun a c r => K.2.1 a c (E.2 a c r) fun z => absurd (Array.getElem?_eq_some_iff.mp r).1 (Nat.not_lt.mpr (q a z))⟩
theorem ext_wr {h1 h2 h3 : Heap} {a : Addr} {sl : Nat} {v : Value} (E : Ext h1 h2) (W : Wr h2 h3 a sl v) (q : h1.size ≤ a) : Ext h1 h3 := ext_keep E (Keep.of_wr W) (allS q all0)
theorem s_getf (X : Cx p l e R s m args below meth c Z EL kn y bytes maxL ret ws T h k n) {index : Nat} {R0 O nm d : String} {a : Addr} {v : Value} (hd : decode bytes pc = .ok (.getfield index, 3)) (w : (Cond.fieldLink y.cls index R0 nm d).before a0 Z = true) (via : Via Z R0 O nm d) (F : Fld Z h a O nm d v) (hp : pc + 3 = pc')
    (K : ∀ T', Cx p l e R s m args below meth c Z EL kn y bytes maxL ret ws T' h k n → Go p e below Q T' (mkF m pc' L (v :: S))) : Go p e below Q T (mkF m pc L (.ref a :: S)) := by
  subst hp
  obtain ⟨c0, vm0, k0, locs, St, eT, hZ, hown, hS, hk, N, H, hsf, E, hkn⟩ := X
  obtain ⟨T', X', e', st⟩ := getF St c0.1 hZ hown (host := "") (Or.inl w) via eT F (g := mkF m pc L (.ref a :: S)) rfl rfl (hb c0.2.1 hd)
  exact Go.of st (K T' ⟨c0, vm0, k0, locs, X', e', hZ, hown, hS, hk, N, H, hsf, E, hkn⟩)
theorem s_getfN (X : Cx p l e R s m args below meth c Z EL kn y bytes maxL ret ws T h k n) {index : Nat} {R0 O nm d host : String} {a : Addr} {v : Value} (hd : decode bytes pc = .ok (.getfield index, 3)) (w : (Cond.fieldLinkNest y.cls index R0 nm d host).before a0 Z = true) (via : Via Z R0 O nm d) (F : Fld Z h a O nm d v) (hp : pc + 3 = pc')
    (K : ∀ T', Cx p l e R s m args below meth c Z EL kn y bytes maxL ret ws T' h k n → Go p e below Q T' (mkF m pc' L (v :: S))) : Go p e below Q T (mkF m pc L (.ref a :: S)) := by
  subst hp
  obtain ⟨c0, vm0, k0, locs, St, eT, hZ, hown, hS, hk, N, H, hsf, E, hkn⟩ := X
  obtain ⟨T', X', e', st⟩ := getF St c0.1 hZ hown (host := host) (Or.inr w) via eT F (g := mkF m pc L (.ref a :: S)) rfl rfl (hb c0.2.1 hd)
  exact Go.of st (K T' ⟨c0, vm0, k0, locs, X', e', hZ, hown, hS, hk, N, H, hsf, E, hkn⟩)
theorem s_gets (X : Cx p l e R s m args below meth c Z EL kn y bytes maxL ret ws T h k n) {index : Nat} {R0 O nm d : String} {v : Value} (hd : decode bytes pc = .ok (.getstatic index, 3)) (w : (Cond.fieldLink y.cls index R0 nm d).before a0 Z = true) (via : Via Z R0 O nm d) (F : Sta Z Z.heap O nm d v) (hp : pc + 3 = pc')
    (K : ∀ T', Cx p l e R s m args below meth c Z EL kn y bytes maxL ret ws T' h k n → Go p e below Q T' (mkF m pc' L (v :: S))) : Go p e below Q T (mkF m pc L S) := by
  subst hp
  obtain ⟨c0, vm0, k0, locs, St, eT, hZ, hown, hS, hk, N, H, hsf, E, hkn⟩ := X
  obtain ⟨T', X', e', st⟩ := getS St c0.1 hZ hown (host := "") w via eT (F.ext E) (g := mkF m pc L S) rfl (hb c0.2.1 hd)
  exact Go.of st (K T' ⟨c0, vm0, k0, locs, X', e', hZ, hown, hS, hk, N, H, hsf, E, hkn⟩)
theorem s_putf (X : Cx p l e R s m args below meth c Z EL kn y bytes maxL ret ws T h k n) {index kk : Nat} {R0 O nm d C : String} {ty : FieldType} {a : Addr} {v old : Value} (hd : decode bytes pc = .ok (.putfield index, 3)) (w : (Cond.fieldLink y.cls index R0 nm d).before a0 Z = true) (via : Via Z R0 O nm d) (F : Fld Z h a O nm d old) (E0 : Exa Z h a C)
    (Lf : (Cond.lays C O nm d).before a0 Z = true ∨ ((Cond.laysFinal C O nm d).before a0 Z = true ∧ y.cls = O ∧ y.name = "<init>")) (wi : (Cond.instantiable C kk).before a0 Z = true) (hty : parseFieldDescriptor d = some ty) (hn : narrow ty v = v) (hf : fits ty v = true) (ha : Z.heap.size ≤ a) (hm : a ∈ ws) (hp : pc + 3 = pc')
    (K : ∀ T' h', Cx p l e R s m args below meth c Z EL kn y bytes maxL ret ws T' h' k n → Wr h h' a (RoadKit.slotOf Z O nm d) v → Go p e below Q T' (mkF m pc' L S)) : Go p e below Q T (mkF m pc L (v :: .ref a :: S)) := by
  subst hp
  obtain ⟨c0, vm0, k0, locs, St, eT, hZ, hown, hS, hk, N, H, hsf, E, hkn⟩ := X
  obtain ⟨T', h', X', e', W, st⟩ := putF St c0.1 hZ hown (host := "") (Or.inl w) via eT F E0 (Lf.imp id fun q => ⟨q.1, q.2.1, c0.2.2.2.2.2.1.trans q.2.2⟩) wi hty hn hf (g := mkF m pc L (v :: .ref a :: S)) rfl rfl (hb c0.2.1 hd)
  have Sa := (hsf a hm).1
  exact Go.of st (K T' h' ⟨c0, vm0, k0, _, X', e', hZ, hown, hS, by rw [W.size]; exact hk, Fr.snoc X' N ha, H.trans (CHr.wr W Sa H.1), fun x q => ⟨Safe.wr W Sa H.1 (hsf x q).1, by rw [W.size]; exact (hsf x q).2⟩, ext_wr E W ha, hkn⟩ W)
theorem s_new (X : Cx p l e R s m args below meth c Z EL kn y bytes maxL ret ws T h k n) {index nn : Nat} {C : String} {k' n' : Nat} (hd : decode bytes pc = .ok (.new index, 3)) (w : (Cond.classLink y.cls index C).before a0 Z = true) (wi : (Cond.instantiable C nn).before a0 Z = true) (wz : (Cond.initialized C).before a0 Z = true)
    (hk' : k + 1 ≤ k') (hn' : n + nn ≤ n') (hkR : k' ≤ R.cells) (hnR : n' ≤ R.slots) (hp : pc + 3 = pc')
    (K : ∀ (T' : State) (h' : Heap) (a : Addr), a = h.size → Cx p l e R s m args below meth c Z EL kn y bytes maxL ret (a :: ws) T' h' k' n' → Ext h h' → Exa Z h' a C → (∀ {O nm d : String} {ty : FieldType}, Laid Z a0 C O nm d → parseFieldDescriptor d = some ty → Fld Z h' a O nm d (defaultValue ty)) → Unt h' a → Go p e below Q T' (mkF m pc' L (.ref a :: S))) : Go p e below Q T (mkF m pc L S) := by
  subst hp
  obtain ⟨c0, vm0, k0, locs, St, eT, hZ, hown, hS, hk, N, H, hsf, E, hkn⟩ := X
  obtain ⟨T', h', X', e', E', A, D, U, st⟩ := newO St c0.1 hZ hown w wi wz eT (g := mkF m pc L S) rfl (hb c0.2.1 hd) (Nat.le_trans hk' hkR) (Nat.le_trans hn' hnR)
  refine Go.of st (K T' h' h.size rfl ⟨c0, vm0, k0, _, X'.mono hk' hn', e', hZ, hown, hS, Nat.le_trans hk E'.1, N, H.trans (CHr.ext E' H.1), fun x q => ?_, ext_trans E E', hkn⟩ E' A D U)
  rcases List.mem_cons.mp q with rfl | q
  · exact ⟨Safe.ext E' H.1 (Safe.new (Nat.le_refl _)), A.lt⟩
  · exact ⟨Safe.ext E' H.1 (hsf x q).1, Nat.lt_of_lt_of_le (hsf x q).2 E'.1⟩
/-- an array: what she holds, whole -/
def Ary (Z : State) (h : Heap) (a : Addr) (ty : FieldType) (vs : List Value) : Prop := ∃ cl : Cell, RoadKit.Arr Z h a cl ty ∧ cl.slots.toList = vs ∧ vs.length < 2 ^ 31 ∧ ∀ v ∈ vs, fits ty v = true
theorem Ary.ext {a : Addr} {ty : FieldType} {vs : List Value} (A : Ary Z h a ty vs) (E : Ext h h') : Ary Z h' a ty vs := by obtain ⟨cl, q, r⟩ := A; exact ⟨cl, q.ext E, r⟩
theorem Ary.keep {a : Addr} {ty : FieldType} {vs : List Value} {wr : List Addr} (A : Ary Z h a ty vs) (K : Keep h h' wr) (q : a ∉ wr) : Ary Z h' a ty vs := by obtain ⟨cl, r1, r⟩ := A; exact ⟨cl, ⟨K.2.1 a cl r1.1 q, r1.2⟩, r⟩
theorem Ary.other {a b : Addr} {sl : Nat} {v : Value} {ty : FieldType} {vs : List Value} (A : Ary Z h a ty vs) (W : Wr h h' b sl v) (q : a ≠ b) : Ary Z h' a ty vs := by obtain ⟨cl, r1, r⟩ := A; exact ⟨cl, r1.other W q, r⟩
theorem Ary.lt {a : Addr} {ty : FieldType} {vs : List Value} (A : Ary Z h a ty vs) : a < h.size := by obtain ⟨cl, q, r⟩ := A; exact q.lt
theorem n32 {N : Nat} (q : N < 2 ^ 31) : (Int32.ofNat N).toNatClampNeg = N := by
  have e : (Int32.ofNat N).toInt = N := Int32.toInt_ofNat_of_lt (by omega)
  simp [Int32.toNatClampNeg, e]
theorem nn32 {N : Nat} (q : N < 2 ^ 31) : ¬ Int32.ofNat N < 0 := by
  have e : (Int32.ofNat N).toInt = N := Int32.toInt_ofNat_of_lt (by omega)
  rw [Int32.lt_iff_toInt_lt, e]; show ¬ (N : Int) < 0; omega
theorem Ary.arv {a : Addr} {ty : FieldType} {vs : List Value} (A : Ary Z h a ty vs) (dv : Value) : ∃ kc, Arv Z h a kc ty (Int32.ofNat vs.length) vs dv := by
  obtain ⟨cl, q, r1, r2, r3⟩ := A
  have sz : cl.slots.size = vs.length := by rw [← r1]; simp
  have ga : ∀ i, i < vs.length → vs.getD i dv = vs[i]! := fun i hi => by simp [List.getD_eq_getElem?_getD, hi]
  refine ⟨cl.cls, cl, q, rfl, by rw [sz, n32 r2], nn32 r2, fun i hi => ?_, fun i hi => ?_⟩
  · have hi' : i < vs.length := sz ▸ hi
    rw [← Array.getElem?_toList, r1, List.getElem?_eq_getElem hi']; simp [List.getD_eq_getElem?_getD, hi']
  · have hi' : i < vs.length := sz ▸ hi
    have : vs.getD i dv = vs[i] := by simp [List.getD_eq_getElem?_getD, hi']
    rw [this]; exact r3 _ (List.getElem_mem _)
theorem Ary.of_arv {a : Addr} {ty : FieldType} {vs : List Value} {kc : ClassId} {z : Int32} {dv : Value} (A : Arv Z h a kc ty z vs dv) (hl : z.toNatClampNeg = vs.length) (hb : vs.length < 2 ^ 31) : Ary Z h a ty vs := by
  obtain ⟨cl, q, r1, r2, r3, r4, r5⟩ := A
  have sz : cl.slots.size = vs.length := r2.trans hl
  refine ⟨cl, q, List.ext_getElem? fun i => ?_, hb, fun v hv => ?_⟩
  · rw [Array.getElem?_toList]
    rcases Nat.lt_or_ge i cl.slots.size with hi | hi
    · have hi' : i < vs.length := sz ▸ hi
      rw [r4 i hi, List.getElem?_eq_getElem hi']; simp [List.getD_eq_getElem?_getD, hi']
    · rw [Array.getElem?_eq_none hi, List.getElem?_eq_none (by omega)]
  · obtain ⟨i, hi, rfl⟩ := List.mem_iff_getElem.mp hv
    have := r5 i (by omega)
    simpa [List.getD_eq_getElem?_getD, hi] using this
theorem s_newarr (X : Cx p l e R s m args below meth c Z EL kn y bytes maxL ret ws T h k n) {aty : ArrayType} {z : Int32} {N : Nat} {k' n' : Nat} (hd : decode bytes pc = .ok (.newarray aty, 2)) (w : (Cond.arrayClass (newarray.typeOf aty)).before a0 Z = true) (hz : z = Int32.ofNat N) (hN : N ≤ 67108864)
    (hk' : k + 1 ≤ k') (hn' : n + N ≤ n') (hkR : k' ≤ R.cells) (hnR : n' ≤ R.slots) (hp : pc + 2 = pc')
    (K : ∀ (T' : State) (h' : Heap) (a : Addr), a = h.size → Cx p l e R s m args below meth c Z EL kn y bytes maxL ret (a :: ws) T' h' k' n' → Ext h h' → Ary Z h' a (newarray.typeOf aty) (List.replicate N (defaultValue (newarray.typeOf aty))) → Go p e below Q T' (mkF m pc' L (.ref a :: S))) : Go p e below Q T (mkF m pc L (.int z :: S)) := by
  subst hp; subst hz
  have hN' : N < 2 ^ 31 := by omega
  obtain ⟨c0, vm0, k0, locs, St, eT, hZ, hown, hS, hk, N0, H, hsf, E, hkn⟩ := X
  obtain ⟨T', h', cA, X', e', E', A, st⟩ := newP St c0.1 hZ w eT (g := mkF m pc L (.int (Int32.ofNat N) :: S)) rfl (hb c0.2.1 hd) rfl (nn32 hN') (cap := N) (Nat.le_of_eq (n32 hN')) (by omega) (Nat.le_trans hk' hkR) (Nat.le_trans hn' hnR)
  refine Go.of st (K T' h' h.size rfl ⟨c0, vm0, k0, _, X'.mono hk' hn', e', hZ, hown, hS, Nat.le_trans hk E'.1, N0, H.trans (CHr.ext E' H.1), fun x q => ?_, ext_trans E E', hkn⟩ E' ⟨_, A, ?_, by simpa using hN', ?_⟩)
  · rcases List.mem_cons.mp q with rfl | q
    · exact ⟨Safe.ext E' H.1 (Safe.new (Nat.le_refl _)), A.lt⟩
    · exact ⟨Safe.ext E' H.1 (hsf x q).1, Nat.lt_of_lt_of_le (hsf x q).2 E'.1⟩
  · simp [newA, n32 hN']
  · intro v hv
    rw [(List.mem_replicate.mp hv).2]
    cases aty <;> rfl
theorem Ary.set {a : Addr} {ty : FieldType} {vs : List Value} {i : Nat} {v : Value} {cl : Cell} (A : RoadKit.Arr Z h a cl ty) (q1 : cl.slots.toList = vs) (q2 : vs.length < 2 ^ 31) (q3 : ∀ v ∈ vs, fits ty v = true) (hv : fits ty v = true) (W : Wr h h' a i v) : Ary Z h' a ty (vs.set i v) := by
  refine ⟨_, A.same W, ?_, by simpa using q2, fun x hx => ?_⟩
  · show (cl.slots.setIfInBounds i v).toList = _
    rw [Array.toList_setIfInBounds, q1]
  · rcases List.mem_or_eq_of_mem_set hx with r | rfl
    · exact q3 x r
    · exact hv
theorem s_castore (X : Cx p l e R s m args below meth c Z EL kn y bytes maxL ret ws T h k n) {a : Addr} {vs : List Value} {i : Nat} {j x : Int32} (hd : decode bytes pc = .ok (.castore, 1)) (A : Ary Z h a .char vs) (hj : j = Int32.ofNat i) (hi : i < vs.length) (ha : Z.heap.size ≤ a) (hm : a ∈ ws) (hp : pc + 1 = pc')
    (K : ∀ T' h', Cx p l e R s m args below meth c Z EL kn y bytes maxL ret ws T' h' k n → Wr h h' a i (.int (nar .char x)) → Ary Z h' a .char (vs.set i (.int (nar .char x))) → Go p e below Q T' (mkF m pc' L S)) : Go p e below Q T (mkF m pc L (.int x :: .int j :: .ref a :: S)) := by
  subst hp; subst hj
  obtain ⟨cl, q, r1, r2, r3⟩ := A
  have sz : cl.slots.size = vs.length := by rw [← r1]; simp
  have hi2 : i < 2 ^ 31 := Nat.lt_trans hi r2
  obtain ⟨c0, vm0, k0, locs, St, eT, hZ, hown, hS, hk, N, H, hsf, E, hkn⟩ := X
  obtain ⟨T', h', X', e', W, st⟩ := stC St c0.1 hZ eT q (j := Int32.ofNat i) (x := x) (fun z => z.elim (nn32 hi2) (fun z => by rw [n32 hi2] at z; omega)) (g := mkF m pc L (.int x :: .int (Int32.ofNat i) :: .ref a :: S)) rfl rfl (hb c0.2.1 hd)
  rw [n32 hi2] at W X'
  have Sa := (hsf a hm).1
  exact Go.of st (K T' h' ⟨c0, vm0, k0, _, X', e', hZ, hown, hS, by rw [W.size]; exact hk, Fr.snoc X' N ha, H.trans (CHr.wr W Sa H.1), fun x q => ⟨Safe.wr W Sa H.1 (hsf x q).1, by rw [W.size]; exact (hsf x q).2⟩, ext_wr E W ha, hkn⟩ W (Ary.set q r1 r2 r3 (fits_nar_char x) W))
theorem fits_nar_byte (x : Int32) : fits .byte (.int (nar .byte x)) = true := by
  have h1 := c_i2b x
  show fits .byte (.int x.toInt8.toInt32) = true
  simp only [fits, Bool.and_eq_true, decide_eq_true_eq, Int32.le_iff_toInt_le]
  exact ⟨by show (-128 : Int) ≤ _; omega, by show _ ≤ (127 : Int); omega⟩
theorem s_bastore (X : Cx p l e R s m args below meth c Z EL kn y bytes maxL ret ws T h k n) {a : Addr} {vs : List Value} {i : Nat} {j x : Int32} (hd : decode bytes pc = .ok (.bastore, 1)) (A : Ary Z h a .byte vs) (hj : j = Int32.ofNat i) (hi : i < vs.length) (ha : Z.heap.size ≤ a) (hm : a ∈ ws) (hp : pc + 1 = pc')
    (K : ∀ T' h', Cx p l e R s m args below meth c Z EL kn y bytes maxL ret ws T' h' k n → Wr h h' a i (.int (nar .byte x)) → Ary Z h' a .byte (vs.set i (.int (nar .byte x))) → Go p e below Q T' (mkF m pc' L S)) : Go p e below Q T (mkF m pc L (.int x :: .int j :: .ref a :: S)) := by
  subst hp; subst hj
  obtain ⟨cl, q, r1, r2, r3⟩ := A
  have sz : cl.slots.size = vs.length := by rw [← r1]; simp
  have hi2 : i < 2 ^ 31 := Nat.lt_trans hi r2
  obtain ⟨c0, vm0, k0, locs, St, eT, hZ, hown, hS, hk, N, H, hsf, E, hkn⟩ := X
  obtain ⟨T', h', X', e', W, st⟩ := stB St c0.1 hZ eT q (j := Int32.ofNat i) (x := x) (fun z => z.elim (nn32 hi2) (fun z => by rw [n32 hi2] at z; omega)) (g := mkF m pc L (.int x :: .int (Int32.ofNat i) :: .ref a :: S)) rfl rfl (hb c0.2.1 hd)
  rw [n32 hi2] at W X'
  have Sa := (hsf a hm).1
  exact Go.of st (K T' h' ⟨c0, vm0, k0, _, X', e', hZ, hown, hS, by rw [W.size]; exact hk, Fr.snoc X' N ha, H.trans (CHr.wr W Sa H.1), fun x q => ⟨Safe.wr W Sa H.1 (hsf x q).1, by rw [W.size]; exact (hsf x q).2⟩, ext_wr E W ha, hkn⟩ W (Ary.set q r1 r2 r3 (fits_nar_byte x) W))
theorem ary_at {cl : Cell} {vs : List Value} {i : Nat} {v : Value} (r1 : cl.slots.toList = vs) (r2 : vs.length < 2 ^ 31) (hv : vs[i]? = some v) : ¬ (Int32.ofNat i < 0 ∨ cl.slots.size ≤ (Int32.ofNat i).toNatClampNeg) ∧ cl.slots[(Int32.ofNat i).toNatClampNeg]? = some v := by
  have hi : i < vs.length := by
    rcases Nat.lt_or_ge i vs.length with q | q
    · exact q
    · rw [List.getElem?_eq_none q] at hv; cases hv
  have sz : cl.slots.size = vs.length := by rw [← r1]; simp
  have hi2 : i < 2 ^ 31 := Nat.lt_trans hi r2
  refine ⟨fun z => z.elim (nn32 hi2) (fun z => by rw [n32 hi2] at z; omega), ?_⟩
  rw [n32 hi2, ← Array.getElem?_toList, r1]; exact hv
theorem s_caload (X : Cx p l e R s m args below meth c Z EL kn y bytes maxL ret ws T h k n) {a : Addr} {vs : List Value} {i : Nat} {j : Int32} {v : Value} (hd : decode bytes pc = .ok (.caload, 1)) (A : Ary Z h a .char vs) (hj : j = Int32.ofNat i) (hv : vs[i]? = some v) (hp : pc + 1 = pc')
    (K : Go p e below Q T (mkF m pc' L (v :: S))) : Go p e below Q T (mkF m pc L (.int j :: .ref a :: S)) := by
  subst hp; subst hj
  obtain ⟨cl, q, r1, r2, r3⟩ := A
  obtain ⟨i1, i2⟩ := ary_at r1 r2 hv
  obtain ⟨c0, vm0, k0, locs, St, eT, hZ, r⟩ := X
  exact Go.of (St.caload c0.1 (by rw [eT]; exact q.1) (State.isArrayOf_alike hZ.alike q.2.1) q.2.2 i1 i2 (g := mkF m pc L (.int (Int32.ofNat i) :: .ref a :: S)) rfl rfl (hb c0.2.1 hd)) K
theorem s_baload (X : Cx p l e R s m args below meth c Z EL kn y bytes maxL ret ws T h k n) {a : Addr} {vs : List Value} {i : Nat} {j : Int32} {v : Value} (hd : decode bytes pc = .ok (.baload, 1)) (A : Ary Z h a .byte vs) (hj : j = Int32.ofNat i) (hv : vs[i]? = some v) (hp : pc + 1 = pc')
    (K : Go p e below Q T (mkF m pc' L (v :: S))) : Go p e below Q T (mkF m pc L (.int j :: .ref a :: S)) := by
  subst hp; subst hj
  obtain ⟨cl, q, r1, r2, r3⟩ := A
  obtain ⟨i1, i2⟩ := ary_at r1 r2 hv
  obtain ⟨c0, vm0, k0, locs, St, eT, hZ, r⟩ := X
  exact Go.of (St.baloadBytes c0.1 (by rw [eT]; exact q.1) (State.isArrayOf_alike hZ.alike q.2.1) q.2.2 i1 i2 (g := mkF m pc L (.int (Int32.ofNat i) :: .ref a :: S)) rfl rfl (hb c0.2.1 hd)) K
theorem s_aaload (X : Cx p l e R s m args below meth c Z EL kn y bytes maxL ret ws T h k n) {a : Addr} {vs : List Value} {i : Nat} {j : Int32} {v : Value} {ty : FieldType} (hd : decode bytes pc = .ok (.aaload, 1)) (A : Ary Z h a ty vs) (hty : ty.isReference = true) (hj : j = Int32.ofNat i) (hv : vs[i]? = some v) (hp : pc + 1 = pc')
    (K : Go p e below Q T (mkF m pc' L (v :: S))) : Go p e below Q T (mkF m pc L (.int j :: .ref a :: S)) := by
  subst hp; subst hj
  obtain ⟨cl, q, r1, r2, r3⟩ := A
  obtain ⟨i1, i2⟩ := ary_at r1 r2 hv
  obtain ⟨c0, vm0, k0, locs, St, eT, hZ, r⟩ := X
  exact Go.of (St.aaload c0.1 (by rw [eT]; exact q.1) (State.isArrayOf_alike hZ.alike q.2.1) hty q.2.2 i1 i2 (g := mkF m pc L (.int (Int32.ofNat i) :: .ref a :: S)) rfl rfl (hb c0.2.1 hd)) K
theorem s_alen (X : Cx p l e R s m args below meth c Z EL kn y bytes maxL ret ws T h k n) {a : Addr} {vs : List Value} {ty : FieldType} {z : Int32} (hd : decode bytes pc = .ok (.arraylength, 1)) (A : Ary Z h a ty vs) (hz : Int32.ofNat vs.length = z) (hp : pc + 1 = pc')
    (K : Go p e below Q T (mkF m pc' L (.int z :: S))) : Go p e below Q T (mkF m pc L (.ref a :: S)) := by
  subst hp; subst hz
  obtain ⟨cl, q, r1, r2, r3⟩ := A
  have sz : cl.slots.size = vs.length := by rw [← r1]; simp
  obtain ⟨c0, vm0, k0, locs, St, eT, hZ, r⟩ := X
  rw [← sz] at K
  exact Go.of (St.arraylength c0.1 (by rw [eT]; exact q.1) (State.isArrayOf_alike hZ.alike q.2.1) (g := mkF m pc L (.ref a :: S)) rfl rfl (hb c0.2.1 hd)) K
theorem s_ldcI (X : Cx p l e R s m args below meth c Z EL kn y bytes maxL ret ws T h k n) {index : Nat} {v : Int32} (hd : decode bytes pc = .ok (.ldc index, 2)) (w : (Cond.constant y.cls index v).before a0 Z = true) (hp : pc + 2 = pc') (K : Go p e below Q T (mkF m pc' L (.int v :: S))) : Go p e below Q T (mkF m pc L S) := by
  subst hp
  obtain ⟨c0, vm0, k0, locs, St, eT, hZ, hown, r⟩ := X
  exact Go.of (fun t q => Jvm.Stand.ldcI St c0.1 hown (mvT hZ w) (g := mkF m pc L S) rfl (hb c0.2.1 hd) q) K
theorem s_ldc2J (X : Cx p l e R s m args below meth c Z EL kn y bytes maxL ret ws T h k n) {index : Nat} {v : Int64} (hd : decode bytes pc = .ok (.ldc2_w index, 3)) (w : (Cond.constantLong y.cls index v).before a0 Z = true) (hp : pc + 3 = pc') (K : Go p e below Q T (mkF m pc' L (.long v :: S))) : Go p e below Q T (mkF m pc L S) := by
  subst hp
  obtain ⟨c0, vm0, k0, locs, St, eT, hZ, hown, r⟩ := X
  exact Go.of (fun t q => Jvm.Stand.ldc2J St c0.1 hown (mvT hZ w) (g := mkF m pc L S) rfl (hb c0.2.1 hd) q) K
theorem s_instY (X : Cx p l e R s m args below meth c Z EL kn y bytes maxL ret ws T h k n) {index : Nat} {K0 : String} {a : Addr} (hd : decode bytes pc = .ok (.instanceof index, 3)) (w : (Cond.classLink y.cls index K0).before a0 Z = true) (F : Ins Z h a K0 true) (hp : pc + 3 = pc')
    (K : ∀ T', Cx p l e R s m args below meth c Z EL kn y bytes maxL ret ws T' h k n → Go p e below Q T' (mkF m pc' L (.int 1 :: S))) : Go p e below Q T (mkF m pc L (.ref a :: S)) := by
  subst hp
  obtain ⟨c0, vm0, k0, locs, St, eT, hZ, hown, hS, hk, N, H, hsf, E, hkn⟩ := X
  obtain ⟨T', X', e', st⟩ := instY St c0.1 hZ hown w eT F (g := mkF m pc L (.ref a :: S)) rfl rfl (hb c0.2.1 hd)
  exact Go.of st (K T' ⟨c0, vm0, k0, locs, X', e', hZ, hown, hS, hk, N, H, hsf, E, hkn⟩)
theorem s_instN (X : Cx p l e R s m args below meth c Z EL kn y bytes maxL ret ws T h k n) {index : Nat} {K0 C : String} {a : Addr} (hd : decode bytes pc = .ok (.instanceof index, 3)) (w : (Cond.classLink y.cls index K0).before a0 Z = true) (E0 : Exa Z h a C) (F : Ins Z h a K0 false) (hp : pc + 3 = pc')
    (K : ∀ T', Cx p l e R s m args below meth c Z EL kn y bytes maxL ret ws T' h k n → Go p e below Q T' (mkF m pc' L (.int 0 :: S))) : Go p e below Q T (mkF m pc L (.ref a :: S)) := by
  subst hp
  obtain ⟨c0, vm0, k0, locs, St, eT, hZ, hown, hS, hk, N, H, hsf, E, hkn⟩ := X
  obtain ⟨cell, cT, h1, h2, h3⟩ := F
  obtain ⟨cell', kk, e1, -, e3, e4, -⟩ := E0
  cases h1.symm.trans e1
  have hZ' : Z.Warmed39 (s.setVm vm0).vm := hZ
  obtain ⟨k', q, -⟩ := hZ'.alike.2.2 _ _ e3
  obtain ⟨vm', X', st⟩ := Jvm.Sym.instanceofNoAt St c0.1 hown (mv hZ w) (by rw [eT]; exact h1) e4 q (by rw [hZ'.alike.findClass]; exact h2) (by rw [hZ'.alike.assignable]; simpa [e4] using h3) (g := mkF m pc L (.ref a :: S)) rfl rfl (hb c0.2.1 hd)
  exact Go.of st (K _ ⟨c0, vm0, k0, locs, X', eT, hZ, hown, hS, hk, N, H, hsf, E, hkn⟩)
theorem s_instNull (X : Cx p l e R s m args below meth c Z EL kn y bytes maxL ret ws T h k n) {index : Nat} (hd : decode bytes pc = .ok (.instanceof index, 3)) (hp : pc + 3 = pc') (K : Go p e below Q T (mkF m pc' L (.int 0 :: S))) : Go p e below Q T (mkF m pc L (.null :: S)) := by
  subst hp
  obtain ⟨c0, vm0, k0, locs, St, r⟩ := X
  exact Go.of (St.instanceofNull c0.1 (g := mkF m pc L (.null :: S)) rfl rfl (hb c0.2.1 hd)) K
theorem s_castY (X : Cx p l e R s m args below meth c Z EL kn y bytes maxL ret ws T h k n) {index : Nat} {K0 : String} {a : Addr} (hd : decode bytes pc = .ok (.checkcast index, 3)) (w : (Cond.classLink y.cls index K0).before a0 Z = true) (F : Ins Z h a K0 true) (hp : pc + 3 = pc')
    (K : ∀ T', Cx p l e R s m args below meth c Z EL kn y bytes maxL ret ws T' h k n → Go p e below Q T' (mkF m pc' L (.ref a :: S))) : Go p e below Q T (mkF m pc L (.ref a :: S)) := by
  subst hp
  obtain ⟨c0, vm0, k0, locs, St, eT, hZ, hown, hS, hk, N, H, hsf, E, hkn⟩ := X
  obtain ⟨T', X', e', st⟩ := castY St c0.1 hZ hown w eT F (g := mkF m pc L (.ref a :: S)) rfl rfl (hb c0.2.1 hd)
  exact Go.of st (K T' ⟨c0, vm0, k0, locs, X', e', hZ, hown, hS, hk, N, H, hsf, E, hkn⟩)
/-- the end of a walk -/
def Post (Z : State) (EL : List (String × Nat)) (U : State) (rm : Room) (Qc : Option Value → Heap → List Addr → Prop) (o : Outcome) (U' : State) : Prop :=
  ∃ v L ws', o = .returned v ∧ Qc v U'.heap ws' ∧ Fr Z.heap.size L ∧ Ext Z.heap U'.heap ∧ CHr Z EL U.vm U.heap U'.vm U'.heap ∧ (∀ x ∈ ws', Safe Z EL U'.vm U'.heap x ∧ x < U'.heap.size) ∧ ReturnedEndW U o U' L rm.cells rm.slots
/-- a body's contract -/
def Con (l : Launch) (Z : State) (EL : List (String × Nat)) (kn : Prop) (y : MethodName) (bytes : ByteArray) (maxL : Nat) (ret : Option FieldType) (rm : Room) (ws : List Addr) (as' : Array Value) (h : Heap) (Qc : Option Value → Heap → List Addr → Prop) : Prop :=
  ∀ wds : List Jvm.Cond, MetFree l y (head1 (Jvm.Cond.code y bytes maxL ret :: wds) rm) (fun a U => a = as' ∧ Z.Warmed39 U.vm ∧ U.heap = h ∧ CHv Z EL U.vm h ∧ (∀ x ∈ ws, Safe Z EL U.vm h x ∧ x < h.size) ∧ Ext Z.heap h) (fun _ _ bl U _ => kn → U.vm.MethodsKnown ∧ U.vm.FramesKnown bl) (fun _ U o U' => Post Z EL U rm Qc o U')
theorem Con.intro {rm : Room} {as' : Array Value} {Qc : Option Value → Heap → List Addr → Prop} (pn : plainFor y = true)
    (body : ∀ p e s m below meth c T, Cx p l e rm s m as' below meth c Z EL kn y bytes maxL ret ws T h 0 0 → Go p e below (Post Z EL s rm Qc) T (entryFrame m as' maxL)) : Con l Z EL kn y bytes maxL ret rm ws as' h Qc := by
  intro wds
  refine MetFree.of_bodySF pn hisR ?_
  intro p e s m args below meth c s₁ Bd hml0 hP hK
  obtain ⟨rfl, hZ, hh, hCH, hsf, hE⟩ := hP
  have St : Stand p l e rm s m args below meth c s₁ [] 0 0 := Stand.of_body Bd
  have e0 : s₁.heap = h := by rw [← hh, Bd.state]; rfl
  have hown : s.vm.findClass y.cls = some m.cls := findClass_of_methodNamed Bd.named
  have hnm := (name_of_methodNamed Bd.named Bd.method).1
  exact body p e s m below meth c s₁ ⟨⟨Bd.exec, Bd.bytes, hml0, Bd.returns, Bd.notSynchronized, hnm, by rw [hh]; exact hE⟩, s.vm, 0, [], St, e0, hZ, hown, (State.WarmedH.refl s).since 0, Nat.zero_le _, Fr.nil _, by rw [← hh] at hCH ⊢; exact CHr.refl hCH, hsf, hE, hK⟩
theorem rew_mono {U U' : State} {o : Outcome} {Lc : List Loc} {k1 n1 k2 n2 : Nat} (q : ReturnedEndW U o U' Lc k1 n1) (hk : k1 ≤ k2) (hn : n1 ≤ n2) : ReturnedEndW U o U' Lc k2 n2 := ⟨q.1, q.2.1, q.2.2.1, q.2.2.2.mono hk hn⟩
theorem Cx.fin (X : Cx p l e R s m args below meth c Z EL kn y bytes maxL ret ws T h k n) (hEL : EW Z a0 EL) {rm : Room} {Qc : Option Value → Heap → List Addr → Prop} {v : Option Value} {ws' : List Addr} (hv : ret = none → v = none) (hk : k ≤ rm.cells) (hn : n ≤ rm.slots) (hQ : Qc v h ws') (hws : ∀ x ∈ ws', x ∈ ws) {gf : JFrame}
    (st : ∀ fs, (∀ (f : JFrame) (acts : List Action), f.method = m → f.locked = none → f.entered = [] → (doReturn e (T.setTop f) acts v).1 = T.setFrames fs) → Steps p.tables e below (T.setTop gf) (T.setFrames fs)) : Go p e below (Post Z EL s rm Qc) T gf := by
  obtain ⟨c0, vm0, k0, locs, St, eT, hZ, hown, hS, hk0, N, H, hsf, E, hkn⟩ := X
  obtain ⟨fs, h1, h2, h3, h4⟩ := St.leaveW hS (by rw [eT]; exact hk0) (v := v) (fun q => hv (c0.2.2.2.1.symm.trans q)) (hlocks := c0.2.2.2.2.1)
  have C := CHv.at St hZ hEL H.1
  refine ⟨T.setFrames fs, .returned v, st fs h1, h2, h3, v, locs, ws', rfl, ?_, N, ?_, ?_, fun x q => ?_, rew_mono h4 hk hn⟩
  · show Qc v T.heap ws'; rw [eT]; exact hQ
  · show Ext Z.heap T.heap; rw [eT]; exact E
  · show CHr Z EL s.vm s.heap T.vm T.heap; rw [eT]; exact H.trans C
  · show Safe Z EL T.vm T.heap x ∧ x < T.heap.size
    rw [eT]; exact ⟨C.safe (hsf x (hws x q)).2 (hsf x (hws x q)).1, (hsf x (hws x q)).2⟩
theorem Cx.stand (X : Cx p l e R s m args below meth c Z EL kn y bytes maxL ret ws T h k n) : ∃ vm0 locs, Stand p l e R (s.setVm vm0) m args below meth c T locs k n := by obtain ⟨c0, vm0, k0, locs, St, -⟩ := X; exact ⟨vm0, locs, St⟩
theorem s_ret (X : Cx p l e R s m args below meth c Z EL kn y bytes maxL none ws T h k n) (hEL : EW Z a0 EL) {rm : Room} {Qc : Option Value → Heap → List Addr → Prop} {ws' : List Addr} (hd : decode bytes pc = .ok (.return_, 1)) (hk : k ≤ rm.cells) (hn : n ≤ rm.slots) (hws : ∀ x ∈ ws', x ∈ ws) (hQ : Qc none h ws') : Go p e below (Post Z EL s rm Qc) T (mkF m pc L []) := by
  obtain ⟨vm0, locs, St⟩ := X.stand
  exact X.fin hEL (fun _ => rfl) hk hn hQ hws fun fs q => St.returnOut X.exec X.1.2.2.2.1 (hb X.code hd) q
theorem s_iretN (X : Cx p l e R s m args below meth c Z EL kn y bytes maxL ret ws T h k n) (hEL : EW Z a0 EL) {rm : Room} {Qc : Option Value → Heap → List Addr → Prop} {ws' : List Addr} {t : FieldType} {z : Int32} (hd : decode bytes pc = .ok (.ireturn, 1)) (hr : ret = some t) (ht : t = .boolean ∨ t = .byte ∨ t = .char ∨ t = .short) (hk : k ≤ rm.cells) (hn : n ≤ rm.slots) (hws : ∀ x ∈ ws', x ∈ ws) (hQ : Qc (some (.int (nar t z))) h ws') : Go p e below (Post Z EL s rm Qc) T (mkF m pc L (.int z :: S)) := by
  obtain ⟨vm0, locs, St⟩ := X.stand
  exact X.fin hEL (fun q => by rw [hr] at q; cases q) hk hn hQ hws fun fs q => retN St X.exec (X.1.2.2.2.1.trans hr) ht (hb X.code hd) q
theorem s_iret (X : Cx p l e R s m args below meth c Z EL kn y bytes maxL (some .int) ws T h k n) (hEL : EW Z a0 EL) {rm : Room} {Qc : Option Value → Heap → List Addr → Prop} {ws' : List Addr} {z : Int32} (hd : decode bytes pc = .ok (.ireturn, 1)) (hk : k ≤ rm.cells) (hn : n ≤ rm.slots) (hws : ∀ x ∈ ws', x ∈ ws) (hQ : Qc (some (.int z)) h ws') : Go p e below (Post Z EL s rm Qc) T (mkF m pc L (.int z :: S)) := by
  obtain ⟨vm0, locs, St⟩ := X.stand
  exact X.fin hEL (fun q => by cases q) hk hn hQ hws fun fs q => retOut St X.exec X.1.2.2.2.1 rfl (Or.inl ⟨rfl, Or.inl rfl, _, rfl⟩) (hb X.code hd) q
theorem s_aret (X : Cx p l e R s m args below meth c Z EL kn y bytes maxL ret ws T h k n) (hEL : EW Z a0 EL) {rm : Room} {Qc : Option Value → Heap → List Addr → Prop} {ws' : List Addr} {t : FieldType} {v : Value} (hd : decode bytes pc = .ok (.areturn, 1)) (hr : ret = some t) (ht : t.isReference = true) (hnr : narrow t v = v) (hv : v.isRef = true) (hk : k ≤ rm.cells) (hn : n ≤ rm.slots) (hws : ∀ x ∈ ws', x ∈ ws) (hQ : Qc (some v) h ws') : Go p e below (Post Z EL s rm Qc) T (mkF m pc L (v :: S)) := by
  obtain ⟨vm0, locs, St⟩ := X.stand
  exact X.fin hEL (fun q => by rw [hr] at q; cases q) hk hn hQ hws fun fs q => retOut St X.exec (X.1.2.2.2.1.trans hr) hnr (Or.inr (Or.inr (Or.inr (Or.inr ⟨rfl, ht, hv⟩)))) (hb X.code hd) q
/-- who pays a call -/
def Pay (l : Launch) (R : Room) (p : Program) (e : Env) (below : List Frame) (s : State) (args : Array Value) (Z : State) (EL : List (String × Nat)) (kn : Prop) (ws : List Addr) (y : MethodName) (len W ck sk : Nat) (as' : Array Value) (h : Heap) (Qc : Option Value → Heap → List Addr → Prop) : Prop :=
  ∀ vm0 : Vm, Z.Warmed39 vm0 → CHv Z EL vm0 h → (∀ x ∈ ws, Safe Z EL vm0 h x ∧ x < h.size) → Ext Z.heap h → (kn → vm0.MethodsKnown ∧ vm0.FramesKnown below) →
    BackS l R p e below (s.setVm vm0) args y len W (fun A a => a = as' ∧ A.U.heap = h ∧ A.cells + ck ≤ R.cells ∧ A.slots + sk ≤ R.slots)
      (fun A _ v B => ∃ L ws', Qc v B.U.heap ws' ∧ Fr Z.heap.size L ∧ Ext Z.heap B.U.heap ∧ B.locs = A.locs ++ L ∧ B.cells = A.cells + ck ∧ B.slots = A.slots + sk ∧ CHr Z EL vm0 h B.U.vm B.U.heap ∧ ∀ x ∈ ws', Safe Z EL B.U.vm B.U.heap x ∧ x < B.U.heap.size)
theorem safe_at {vm0 : Vm} {locs : List Loc} (St : Stand p l e R (s.setVm vm0) m args below meth c T locs k n) (hZ : Z.Warmed39 vm0) (hEL : EW Z a0 EL) (H : CHv Z EL vm0 h) (hsf : ∀ x ∈ ws, Safe Z EL vm0 h x ∧ x < h.size) : ∀ x ∈ ws, Safe Z EL T.vm h x ∧ x < h.size := fun x q => ⟨(CHv.at St hZ hEL H).safe (hsf x q).2 (hsf x q).1, (hsf x q).2⟩
theorem Con.pay {z : MethodName} {b' : ByteArray} {mL' : Nat} {r' : Option FieldType} {rm : Room} {as' : Array Value} {Qc : Option Value → Heap → List Addr → Prop} {len W : Nat} (C : Con l Z EL kn z b' mL' r' rm ws as' h Qc) (wc : (Jvm.Cond.code z b' mL' r').before a0 Z = true) (wz : (Jvm.Cond.initialized z.cls).before a0 Z = true) (hEL : EW Z a0 EL) (hf : rm.frames + 1 ≤ R.frames) (hl : W + (mL' + 11) + rm.locals ≤ R.locals) :
    Pay l R p e below s args Z EL kn ws z len W rm.cells rm.slots as' h Qc := by
  intro vm0 hZ H hsf hE hkn
  refine BackS.of_freeWG (bytes := b') (maxL := mL') (ret := r') (E := fun _ first o t L k n => k = rm.cells ∧ n = rm.slots ∧ (∃ v ws', o = .returned v ∧ Qc v t.heap ws' ∧ Fr Z.heap.size L ∧ Ext Z.heap t.heap ∧ ∀ x ∈ ws', Safe Z EL t.vm t.heap x ∧ x < t.heap.size) ∧ CHr Z EL first.vm first.heap t.vm t.heap) (C []) hf hl
    (fun m meth c A a Y hp => have hU : Z.Warmed39 A.U.vm := wtrans (s := s.setVm vm0) hZ Y.warmed
      ⟨by show (Jvm.Cond.and _ .tt).before a A.U = true; rw [Cond.before_and, mv hU wc]; rfl, mv hU wc, mv hU wz, hp.2.2.1, hp.2.2.2⟩)
    (fun m meth c A a g mk Y hp => ⟨hp.1, wtrans (s := s.setVm vm0) hZ Y.warmed, hp.2.1, (CHv.at Y hZ hEL H).1, safe_at (T := A.U) Y hZ hEL H hsf, hE⟩)
    (fun m meth c A a g mk Y _ hg hk => known_frames Y hg (hkn hk).1 (hkn hk).2)
    (fun _ _ _ _ ⟨v, L, ws', h1, h2, h3, h4, h5, h6, h7⟩ => ⟨L, _, _, h7, rfl, rfl, ⟨v, ws', h1, h2, h3, h4, h6⟩, h5⟩) ?_
  intro m meth c A a g mk v t L k n Y hp _ _ hE'
  obtain ⟨e1, e2, ⟨v', ws', e3, e4, e5, e6, e7⟩, e8⟩ := hE'
  cases e3; subst e1 e2
  refine ⟨L, ws', e4, e5, e6, rfl, rfl, rfl, (CHv.at Y hZ hEL H).trans ?_, e7⟩
  rw [← hp.2.1]; exact e8
theorem Pay.sub {z : MethodName} {as' : Array Value} {Qc : Option Value → Heap → List Addr → Prop} {len W ck sk : Nat} {ws0 : List Addr} (P : Pay l R p e below s args Z EL kn ws0 z len W ck sk as' h Qc) (hs : ∀ x ∈ ws0, x ∈ ws) : Pay l R p e below s args Z EL kn ws z len W ck sk as' h Qc :=
  fun vm0 hZ H hsf hE hkn => P vm0 hZ H (fun x q => hsf x (hs x q)) hE hkn
theorem Con.payS {z : MethodName} {b' : ByteArray} {mL' : Nat} {r' : Option FieldType} {rm : Room} {as' : Array Value} {Qc : Option Value → Heap → List Addr → Prop} {len W : Nat} {ws0 : List Addr} (C : Con l Z EL kn z b' mL' r' rm ws0 as' h Qc) (hs : ∀ x ∈ ws0, x ∈ ws) (wc : (Jvm.Cond.code z b' mL' r').before a0 Z = true) (wz : (Jvm.Cond.initialized z.cls).before a0 Z = true) (hEL : EW Z a0 EL) (hf : rm.frames + 1 ≤ R.frames) (hl : W + (mL' + 11) + rm.locals ≤ R.locals) :
    Pay l R p e below s args Z EL kn ws z len W rm.cells rm.slots as' h Qc := (C.pay wc wz hEL hf hl).sub hs
theorem Pay.of_back {z : MethodName} {as' : Array Value} {Q0 : Option Value → Heap → List Loc → Prop} {Qc : Option Value → Heap → List Addr → Prop} {len W ck sk : Nat} (hEL : EW Z a0 EL)
    (B : ∀ vm0 : Vm, Z.Warmed39 vm0 → Back l R p e below (s.setVm vm0) args z len W (fun P a => a = as' ∧ P.U.heap = h ∧ P.cells + ck ≤ R.cells ∧ P.slots + sk ≤ R.slots) (fun P _ v B => ∃ L, Q0 v B.U.heap L ∧ B.locs = P.locs ++ L ∧ B.cells = P.cells + ck ∧ B.slots = P.slots + sk))
    (hq : ∀ v h' L, Q0 v h' L → ∃ wr ws', Keep h h' wr ∧ (∀ x ∈ wr, x ∈ ws ∧ Z.heap.size ≤ x) ∧ Fr Z.heap.size L ∧ Qc v h' ws' ∧ ∀ x ∈ ws', x ∈ ws ∨ (h.size ≤ x ∧ x < h'.size)) : Pay l R p e below s args Z EL kn ws z len W ck sk as' h Qc := by
  intro vm0 hZ H hsf hE hkn m meth c A g ig mk a X hg hsize hdg hW hn hp
  obtain ⟨v, B1, X', ⟨L, q0, r1, r2, r3⟩, st⟩ := B vm0 hZ m meth c A g ig mk a X hg hsize hdg hW hn hp
  obtain ⟨wr, ws', K, k1, k2, k3, k4⟩ := hq _ _ _ q0
  have sw : ∀ x ∈ wr, Safe Z EL vm0 h x := fun x q => (hsf x (k1 x q).1).1
  have C1 : CHr Z EL vm0 h vm0 B1.U.heap := CHr.keep K sw H
  have C2 := CHv.at X' hZ hEL C1.1
  refine ⟨v, B1, X'.retabled X'.warmed.wide, X'.warmed.since _, by rw [hp.2.1]; exact K.1, ⟨L, ws', k3, k2, ext_keep hE K fun x q => (k1 x q).2, r1, r2, r3, C1.trans C2, fun x q => ?_⟩, st⟩
  have lt : x < B1.U.heap.size := (k4 x q).elim (fun r => Nat.lt_of_lt_of_le (hsf x r).2 K.1) (fun r => r.2)
  refine ⟨C2.safe lt ?_, lt⟩
  exact Safe.keep K sw H ((k4 x q).elim (fun r => (hsf x r).1) (fun r => Safe.new r.1))
theorem after {vm0 : Vm} {k0 : Nat} {locs L' : List Loc} {ws' : List Addr} {ck sk : Nat} {U : State} (c0 : p.tables.exec = Jvm.exec ∧ c.code = bytes ∧ c.maxLocals = maxL ∧ meth.sig.returnType = ret ∧ meth.locks = false ∧ meth.name = y.name ∧ Ext Z.heap s.heap)
    (X' : Stand p l e R ((s.setVm vm0).setVm U.vm) m args below meth c U (locs ++ L') (k + ck) (n + sk)) (hZ : Z.Warmed39 vm0) (hown : vm0.findClass y.cls = some m.cls) (hS : s.Since vm0 k0) (hk : k0 ≤ h.size) (N : Fr Z.heap.size locs) (H : CHr Z EL s.vm s.heap vm0 h) (hsf : ∀ x ∈ ws, Safe Z EL vm0 h x ∧ x < h.size) (hkn : kn → vm0.MethodsKnown ∧ vm0.FramesKnown below)
    (h2 : (s.setVm vm0).Since U.vm U.heap.size) (hgr : h.size ≤ U.heap.size) (N' : Fr Z.heap.size L') (E' : Ext Z.heap U.heap) (H' : CHr Z EL vm0 h U.vm U.heap) (hsf' : ∀ x ∈ ws', Safe Z EL U.vm U.heap x ∧ x < U.heap.size) :
    Cx p l e R s m args below meth c Z EL kn y bytes maxL ret (ws' ++ ws) U U.heap (k + ck) (n + sk) := by
  have al : vm0.Alike U.vm := h2.1.alike
  refine ⟨c0, U.vm, _, _, X', rfl, State.Warmed39.trans (t := s.setVm vm0) hZ h2.1, (al.findClass _ _).trans hown, hS.trans h2 (Nat.le_trans hk hgr), Nat.le_refl _, N.app N', H.trans H', fun x q => ?_, E', fun q => ⟨Vm.MethodsKnown.alikeC al (hkn q).1, fun fr hfr m' hm' => knowsMethod_alike al ((hkn q).2 fr hfr m' hm')⟩⟩
  rcases List.mem_append.mp q with q | q
  · exact hsf' x q
  · exact ⟨H'.safe (hsf x q).2 (hsf x q).1, Nat.lt_of_lt_of_le (hsf x q).2 hgr⟩
theorem s_static (X : Cx p l e R s m args below meth c Z EL kn y bytes maxL ret ws T h k n) {index : Nat} {z : MethodName} {b' : ByteArray} {mL' : Nat} {r' : Option FieldType} {W ck sk : Nat} {as' : List Value} {Qc : Option Value → Heap → List Addr → Prop} {ps : List FieldType} {rr : Option FieldType} {stk : List Value} {k' n' : Nat} (hd : decode bytes pc = .ok (.invokestatic index, 3))
    (w1 : (Jvm.Cond.methodLink y.cls index z).before a0 Z = true) (w2 : (Jvm.Cond.static z).before a0 Z = true) (w3 : (Jvm.Cond.initialized z.cls).before a0 Z = true) (w4 : (Jvm.Cond.code z b' mL' r').before a0 Z = true) (hz : z.cls ≠ "java/lang/invoke/MethodHandle" ∧ z.cls ≠ "java/lang/invoke/VarHandle") (hpd : parseMethodDescriptor z.desc = some ⟨ps, rr⟩) (hlen : as'.length = ps.length)
    (P : Pay l R p e below s args Z EL kn ws z 3 W ck sk as'.toArray h Qc) (hW : (S.map fun v => v.category).sum ≤ W) (hsz : L.size = maxL) (hst : stk = as'.reverse ++ S) (hk' : k + ck ≤ k') (hn' : n + sk ≤ n') (hkR : k' ≤ R.cells) (hnR : n' ≤ R.slots) (hp : pc + 3 = pc')
    (K : ∀ T' h' v ws', Cx p l e R s m args below meth c Z EL kn y bytes maxL ret (ws' ++ ws) T' h' k' n' → h.size ≤ h'.size → Qc v h' ws' → Go p e below Q T' (mkF m pc' L (v.toList ++ S))) : Go p e below Q T (mkF m pc L stk) := by
  subst hp; subst hst
  obtain ⟨c0, vm0, k0, locs, St, eT, hZ, hown, hS, hk, N, H, hsf, E, hkn⟩ := X
  have hP := P vm0 hZ H.1 hsf E hkn
  obtain ⟨v, vm₁, B, hw, X', h2, hgr, ⟨L', ws', q1, q2, q3, q4, q5, q6, q7, q8⟩, st⟩ := callSS St c0.1 hown (mvT hZ w1) (mvT hZ w2) (mvT hZ w3) (mvT hZ w4) hz hP (g := mkF m pc L (as'.reverse ++ S)) rfl (hsz.trans c0.2.2.1.symm) (lenOf hpd hlen) rfl (by show 2 * 0 + _ ≤ _; omega) (hb c0.2.1 hd) (fun _ _ => ⟨rfl, eT, Nat.le_trans hk' hkR, Nat.le_trans hn' hnR⟩)
  obtain ⟨U, Lb, kb, nb⟩ := B
  dsimp only [Pt.U, Pt.locs, Pt.cells, Pt.slots] at X' h2 hgr q1 q2 q3 q4 q5 q6 q7 q8 st
  subst q4 q5 q6
  rw [eT] at hgr
  exact Go.of (fun t q => st.trans q) (K U U.heap v ws' ((after c0 X' hZ hown hS hk N H hsf hkn h2 hgr q2 q3 q7 q8).more hk' hn') hgr q1)
theorem s_special (X : Cx p l e R s m args below meth c Z EL kn y bytes maxL ret ws T h k n) {index : Nat} {z : MethodName} {b' : ByteArray} {mL' : Nat} {W ck sk : Nat} {a : Addr} {as' : List Value} {Qc : Option Value → Heap → List Addr → Prop} {ps : List FieldType} {rr : Option FieldType} {stk : List Value} {k' n' : Nat} (hd : decode bytes pc = .ok (.invokespecial index, 3)) (hz1 : z.name = "<init>")
    (w1 : (Jvm.Cond.methodLink y.cls index z).before a0 Z = true) (w2 : (Jvm.Cond.instanceMethod z).before a0 Z = true) (w4 : (Jvm.Cond.code z b' mL' none).before a0 Z = true) (hz : z.cls ≠ "java/lang/invoke/MethodHandle" ∧ z.cls ≠ "java/lang/invoke/VarHandle") (hpd : parseMethodDescriptor z.desc = some ⟨ps, rr⟩) (hlen : as'.length = ps.length)
    (P : Pay l R p e below s args Z EL kn ws z 3 W ck sk (.ref a :: as').toArray h Qc) (hW : (S.map fun v => v.category).sum ≤ W) (hsz : L.size = maxL) (hst : stk = as'.reverse ++ .ref a :: S) (hk' : k + ck ≤ k') (hn' : n + sk ≤ n') (hkR : k' ≤ R.cells) (hnR : n' ≤ R.slots) (hp : pc + 3 = pc')
    (K : ∀ T' h' v ws', Cx p l e R s m args below meth c Z EL kn y bytes maxL ret (ws' ++ ws) T' h' k' n' → h.size ≤ h'.size → Qc v h' ws' → Go p e below Q T' (mkF m pc' L (v.toList ++ S))) : Go p e below Q T (mkF m pc L stk) := by
  subst hp; subst hst
  obtain ⟨c0, vm0, k0, locs, St, eT, hZ, hown, hS, hk, N, H, hsf, E, hkn⟩ := X
  have hP := P vm0 hZ H.1 hsf E hkn
  obtain ⟨v, vm₁, B, hw, X', h2, hgr, ⟨L', ws', q1, q2, q3, q4, q5, q6, q7, q8⟩, st⟩ := St.specialBackS c0.1 hz1 hown (mvT hZ w1) (mvT hZ w2) (mvT hZ w4) hz hP (g := mkF m pc L (as'.reverse ++ .ref a :: S)) rfl (hsz.trans c0.2.2.1.symm) (Steps.refl _) (lenOf hpd hlen) rfl (by show 2 * 0 + _ ≤ _; omega) (hb c0.2.1 hd) (fun _ _ => ⟨rfl, eT, Nat.le_trans hk' hkR, Nat.le_trans hn' hnR⟩)
  obtain ⟨U, Lb, kb, nb⟩ := B
  dsimp only [Pt.U, Pt.locs, Pt.cells, Pt.slots] at X' h2 hgr q1 q2 q3 q4 q5 q6 q7 q8 st
  subst q4 q5 q6
  rw [eT] at hgr
  exact Go.of (fun t q => st.trans q) (K U U.heap v ws' ((after c0 X' hZ hown hS hk N H hsf hkn h2 hgr q2 q3 q7 q8).more hk' hn') hgr q1)
theorem nface {C : String} {z : MethodName} (w : (Jvm.Cond.selects C z z).before a0 Z = true) : ∀ s : State, Z.Warmed39 s.vm → NotFace s z := fun s hZ => notFace_of_selects (args := #[]) (mvT hZ w)
theorem s_virtual (X : Cx p l e R s m args below meth c Z EL kn y bytes maxL ret ws T h k n) {index : Nat} {C : String} {z z' : MethodName} {W ck sk : Nat} {a : Addr} {as' : List Value} {Qc : Option Value → Heap → List Addr → Prop} {ps : List FieldType} {rr : Option FieldType} {stk : List Value} {k' n' : Nat} (hd : decode bytes pc = .ok (.invokevirtual index, 3))
    (w1 : (Jvm.Cond.methodLink y.cls index z).before a0 Z = true) (w2 : (Jvm.Cond.declares z).before a0 Z = true) (w3 : (Jvm.Cond.selects C z z').before a0 Z = true) (w4 : (Jvm.Cond.instanceMethod z').before a0 Z = true) (nf : ∀ s : State, Z.Warmed39 s.vm → NotFace s z) (hz : z.cls ≠ "java/lang/invoke/MethodHandle" ∧ z.cls ≠ "java/lang/invoke/VarHandle") (hpd : parseMethodDescriptor z.desc = some ⟨ps, rr⟩) (hlen : as'.length = ps.length) (E0 : Exa Z h a C)
    (P : Pay l R p e below s args Z EL kn ws z' 3 W ck sk (.ref a :: as').toArray h Qc) (hW : (S.map fun v => v.category).sum ≤ W) (hsz : L.size = maxL) (hst : stk = as'.reverse ++ .ref a :: S) (hk' : k + ck ≤ k') (hn' : n + sk ≤ n') (hkR : k' ≤ R.cells) (hnR : n' ≤ R.slots) (hp : pc + 3 = pc')
    (K : ∀ T' h' v ws', Cx p l e R s m args below meth c Z EL kn y bytes maxL ret (ws' ++ ws) T' h' k' n' → h.size ≤ h'.size → Qc v h' ws' → Go p e below Q T' (mkF m pc' L (v.toList ++ S))) : Go p e below Q T (mkF m pc L stk) := by
  subst hp; subst hst
  obtain ⟨c0, vm0, k0, locs, St, eT, hZ, hown, hS, hk, N, H, hsf, E, hkn⟩ := X
  have hP := P vm0 hZ H.1 hsf E hkn
  have hZ' : Z.Warmed39 (s.setVm vm0).vm := hZ
  obtain ⟨cq, kq, qa, qb, qc⟩ := isOf hZ' eT E0
  obtain ⟨v, vm₁, B, hw, X', h2, hgr, ⟨L', ws', q1, q2, q3, q4, q5, q6, q7, q8⟩, st⟩ := St.virtualBackS c0.1 hown (mvT hZ w1) (mvT hZ w2) (nf (s.setVm vm0) hZ) (mvT hZ w3) (mvT hZ w4) hz hP qa qc (g := mkF m pc L (as'.reverse ++ .ref a :: S)) rfl (hsz.trans c0.2.2.1.symm) (Steps.refl _) (lenOf hpd hlen) rfl (by show 2 * 0 + _ ≤ _; omega) (hb c0.2.1 hd) (fun _ _ => ⟨rfl, eT, Nat.le_trans hk' hkR, Nat.le_trans hn' hnR⟩)
  obtain ⟨U, Lb, kb, nb⟩ := B
  dsimp only [Pt.U, Pt.locs, Pt.cells, Pt.slots] at X' h2 hgr q1 q2 q3 q4 q5 q6 q7 q8 st
  subst q4 q5 q6
  rw [eT] at hgr
  exact Go.of (fun t q => st.trans q) (K U U.heap v ws' ((after c0 X' hZ hown hS hk N H hsf hkn h2 hgr q2 q3 q7 q8).more hk' hn') hgr q1)
theorem s_initO (X : Cx p l e R s m args below meth c Z EL kn y bytes maxL ret ws T h k n) {index : Nat} {a : Addr} (hd : decode bytes pc = .ok (.invokespecial index, 3))
    (w1 : (Jvm.Cond.methodLink y.cls index ⟨"java/lang/Object", "<init>", "()V"⟩).before a0 Z = true) (w2 : (Jvm.Cond.instanceMethod ⟨"java/lang/Object", "<init>", "()V"⟩).before a0 Z = true) {b' : ByteArray} (hb0 : b' = ⟨#[0xb1]⟩) (w4 : (Jvm.Cond.code ⟨"java/lang/Object", "<init>", "()V"⟩ b' 1 none).before a0 Z = true)
    {W : Nat} (hW : (S.map fun v => v.category).sum ≤ W) (hfr : 1 ≤ R.frames) (hlo : W + 12 ≤ R.locals) (hsz : L.size = maxL) (hp : pc + 3 = pc')
    (K : ∀ T', Cx p l e R s m args below meth c Z EL kn y bytes maxL ret ws T' h k n → Go p e below Q T' (mkF m pc' L S)) : Go p e below Q T (mkF m pc L (.ref a :: S)) := by
  subst hp; subst hb0
  obtain ⟨c0, vm0, k0, locs, St, eT, hZ, hown, hS, hk, N, H, hsf, E, hkn⟩ := X
  obtain ⟨T', X', e', st⟩ := initO St c0.1 hZ hown w1 w2 w4 eT (g := mkF m pc L (.ref a :: S)) rfl (hsz.trans c0.2.2.1.symm) rfl (hb c0.2.1 hd) hfr (W := W) (by show 2 * 0 + _ ≤ _; omega) hlo
  exact Go.of st (K T' ⟨c0, vm0, k0, locs, X', e', hZ, hown, hS, hk, N, H, hsf, E, hkn⟩)
/-- ldc of a String constant that is held: the text read -/
theorem s_ldcS (X : Cx p l e R s m args below meth c Z EL kn y bytes maxL ret ws T h k n) {index : Nat} {text : String} (hEL : EW Z a0 EL) (hd : decode bytes pc = .ok (.ldc index, 2)) (w : (Jvm.Cond.stringLink y.cls index text).before a0 Z = true) (wS : ∀ a ∈ Bundle.stringAtoms, a.before a0 Z = true) (hmem : (y.cls, index) ∈ EL)
    {vs : List Value} {z : Int32} (ht : (∀ c ∈ text.toList, c.toNat < 256) ∧ text.toList.map (fun c => Value.int (Jvm.Lit.byteI c.toNat.toUInt16)) = vs) (hz : ¬ z < 0) (hl : z.toNatClampNeg = vs.length) {nn k' n' : Nat} (hnn : 4 * text.toList.length ≤ nn) (hbig : nn ≤ 536870912) (hk' : k + 2 ≤ k') (hn' : n + (nn + 4) ≤ n') (hkR : k' ≤ R.cells) (hnR : n' ≤ R.slots) (hp : pc + 2 = pc')
    (K : ∀ T' h' (a b : Addr) (kc : ClassId), Cx p l e R s m args below meth c Z EL kn y bytes maxL ret ws T' h' k' n' → Ext h h' → Exa Z h' a "java/lang/String" → Fld Z h' a "java/lang/String" "coder" "B" (.int 0) → Fld Z h' a "java/lang/String" "value" "[B" (.ref b) → Arv Z h' b kc .byte z vs (.int 0) → (∀ x ∈ ws, x ≠ a ∧ x ≠ b) → Go p e below Q T' (mkF m pc' L (.ref a :: S))) : Go p e below Q T (mkF m pc L S) := by
  subst hp
  obtain ⟨c0, vm0, k0, locs, St, eT, hZ, hown, hS, hk, N, H, hsf, E, hkn⟩ := X
  obtain ⟨a, T', h', k1, b, kc, X', e', E', hS', hk1, hZ', hown', A1, A2, A3, A4, l1, l2, C, -, sf, st⟩ := ldcCH St c0.1 hZ hown w wS eT hS hk hEL hmem H.1 ht hz hl (g := mkF m pc L S) rfl (hb c0.2.1 hd) hnn hbig (Nat.le_trans hk' hkR) (Nat.le_trans hn' hnR)
  have al : vm0.Alike T'.vm := hS.1.alike.symm.trans hS'.1.alike
  exact Go.of st (K T' h' a b kc ⟨c0, T'.vm, k1, _, X'.mono hk' hn', e', hZ', hown', hS', hk1, N, H.trans C, fun x q => ⟨C.safe (hsf x q).2 (hsf x q).1, Nat.lt_of_lt_of_le (hsf x q).2 E'.1⟩, ext_trans E E', fun q => ⟨Vm.MethodsKnown.alikeC al (hkn q).1, fun fr hfr m' hm' => knowsMethod_alike al ((hkn q).2 fr hfr m' hm')⟩⟩ E' A1 A2 A3 A4 (fun x q => sf x (C.safe (hsf x q).2 (hsf x q).1)))
/-- an array's clone -/
theorem s_clone (X : Cx p l e R s m args below meth c Z EL kn y bytes maxL ret ws T h k n) {index : Nat} {ad : String} {a : Addr} {ty : FieldType} {vs : List Value} {W k' n' : Nat} (hd : decode bytes pc = .ok (.invokevirtual index, 3))
    (w1 : (Cond.methodLink y.cls index ⟨ad, "clone", "()Ljava/lang/Object;"⟩).before a0 Z = true) (w2 : (Cond.sameMethod ad "java/lang/Object" "clone" "()Ljava/lang/Object;").before a0 Z = true) (w3 : (Cond.native ⟨"java/lang/Object", "clone", "()Ljava/lang/Object;"⟩).before a0 Z = true)
    (w4 : (Cond.instanceMethod ⟨"java/lang/Object", "clone", "()Ljava/lang/Object;"⟩).before a0 Z = true) (w5 : (Cond.selects ad ⟨ad, "clone", "()Ljava/lang/Object;"⟩ ⟨"java/lang/Object", "clone", "()Ljava/lang/Object;"⟩).before a0 Z = true) (w6 : (Cond.castable ad "java/lang/Cloneable").before a0 Z = true)
    (A : Ary Z h a ty vs) (E0 : Exa Z h a ad) (hsz : L.size = maxL) (hW : (S.map fun v => v.category).sum ≤ W) (hf : 1 ≤ R.frames) (hl : W + 14 ≤ R.locals) (hk' : k + 1 ≤ k') (hn' : n + vs.length ≤ n') (hkR : k' ≤ R.cells) (hnR : n' ≤ R.slots) (hp : pc + 3 = pc')
    (K : ∀ (T' : State) (h' : Heap) (b : Addr), b = h.size → Cx p l e R s m args below meth c Z EL kn y bytes maxL ret (b :: ws) T' h' k' n' → Ext h h' → Ary Z h' b ty vs → Exa Z h' b ad → Go p e below Q T' (mkF m pc' L (.ref b :: S))) : Go p e below Q T (mkF m pc L (.ref a :: S)) := by
  subst hp
  have hv : vs.length < 2 ^ 31 := by obtain ⟨_, _, _, q, _⟩ := A; exact q
  obtain ⟨kc, F⟩ := A.arv .null
  obtain ⟨c0, vm0, k0, locs, St, eT, hZ, hown, hS, hk, N0, H, hsf, E, hkn⟩ := X
  obtain ⟨T', h', X', e', E', F', E1, st⟩ := cloneH St c0.1 hZ hown w1 w2 w3 w4 w5 w6 eT F.arh E0 (g := mkF m pc L (.ref a :: S)) rfl (hsz.trans c0.2.2.1.symm) rfl (hb c0.2.1 hd) hf (by show 2 * 0 + _ ≤ _; omega) hl (cap := vs.length) (Nat.le_of_eq (n32 hv)) (Nat.le_trans hk' hkR) (Nat.le_trans hn' hnR)
  have A' : Ary Z h' h.size ty vs := Ary.of_arv (show Arv Z h' h.size kc ty _ vs .null from F') (n32 hv) hv
  refine Go.of st (K T' h' h.size rfl ⟨c0, vm0, k0, _, X'.mono hk' hn', e', hZ, hown, hS, Nat.le_trans hk E'.1, N0, H.trans (CHr.ext E' H.1), fun x q => ?_, ext_trans E E', hkn⟩ E' A' E1)
  rcases List.mem_cons.mp q with rfl | q
  · exact ⟨Safe.ext E' H.1 (Safe.new (Nat.le_refl _)), A'.lt⟩
  · exact ⟨Safe.ext E' H.1 (hsf x q).1, Nat.lt_of_lt_of_le (hsf x q).2 E'.1⟩
/-- what the elements of an array are worth at the start -/
def ElemsL (a1 : Array Value) (Z : State) (t : Term) : Nat → List Value → Prop
  | _, [] => True
  | i, v :: r => (Term.elem t (.int (Int32.ofNat i))).eval a1 Z none [] Z = some v ∧ ElemsL a1 Z t (i + 1) r
theorem ElemsL.has {a1 : Array Value} {t : Term} {a : Addr} {cl : Cell} (ev : t.eval a1 Z none [] Z = some (.ref a)) (hc : Z.heap[a]? = some cl) : ∀ (vs : List Value) (i : Nat), i + vs.length < 2 ^ 31 → ElemsL a1 Z t i vs → HasL cl i vs
  | [], _, _, _ => trivial
  | v :: r, i, hi, q => by
    have hi' : i + (r.length + 1) < 2 ^ 31 := hi
    have z := (elem_in q.1 ev (Term.int_eval _) hc).2
    rw [n32 (by omega)] at z
    exact ⟨z, ElemsL.has ev hc r (i + 1) (by omega) q.2⟩
theorem ary_start {a1 : Array Value} {t : Term} {a : Addr} {ty : FieldType} {z : Int32} {vs : List Value} (hf : Fit Z) (ev : t.eval a1 Z none [] Z = some (.ref a)) (hA : (Jvm.Cond.arrayOf t ty).value a1 Z none Z [] = some true) (hl : (Jvm.Cond.eq (Term.length t) (.int z)).value a1 Z none Z [] = some true) (hz : z = Int32.ofNat vs.length) (hv : vs.length < 2 ^ 31) (he : ElemsL a1 Z t 0 vs) : Ary Z Z.heap a ty vs := by
  obtain ⟨cl, A⟩ := Arr.start ev hA
  obtain ⟨v, h1, h2⟩ := Cond.eq_worth hl
  cases (Term.int_eval (args := a1) (first := Z) (o := none) (idx := []) (s := Z) z).symm.trans h2
  have hs : cl.slots.size < 2 ^ 31 ∧ cl.slots.size.toInt32 = z := by
    simp only [Term.eval, Option.bind_eq_bind, ev, Option.bind_some] at h1
    obtain ⟨cell, hcell, h1⟩ := Option.bind_eq_some_iff.mp h1
    cases A.1.symm.trans (State.arrayAt?_spec hcell).1
    by_cases hn : cl.slots.size < 2147483648
    · rw [if_pos hn] at h1; injection h1 with h1; injection h1 with h1; exact ⟨hn, h1⟩
    · rw [if_neg hn] at h1; cases h1
  subst hz
  exact Ary.of_arv (Arv.start (dv := .null) hf A hs.1 hs.2 (nn32 hv) (n32 hv) (ElemsL.has ev A.1 vs 0 (by omega) he)) (n32 hv) hv
theorem same_of {yy y' : MethodName} {C : String} (w : (Cond.declares yy).before a0 Z = true) (ws' : (Cond.selects C y' y').before a0 Z = true) (hc : y'.cls = yy.cls) (hy : yy.cls ≠ "java/lang/invoke/MethodHandle" ∧ yy.cls ≠ "java/lang/invoke/VarHandle") : (Cond.sameMethod yy.cls yy.cls yy.name yy.desc).before a0 Z = true := by
  obtain ⟨r0, r, hn, -⟩ := Cond.declares_spec w
  obtain ⟨c2, r2, m2, -, -, q3, -, kP, hkP, hkPi⟩ := Cond.selects_spec ws'
  have e1 := findClass_of_methodNamed hn
  have e2 := findClass_of_methodNamed q3
  rw [hc] at e2
  have e3 := State.methodFound?_of_named hn hy
  have hcl : r0.cls = m2.cls := Option.some.inj (e1.symm.trans e2)
  have hn' : Z.methodNamed? ⟨yy.cls, yy.name, yy.desc⟩ = some r0 := hn
  simp [Cond.before, Cond.holds, Cond.value, e1, e3, hn', hcl, hkP, hkPi]
/-- a method of the superclass, called by 'super.' -/
theorem s_super (X : Cx p l e R s m args below meth c Z EL kn y bytes maxL ret ws T h k n) {index : Nat} {K0 : String} {z : MethodName} {b' : ByteArray} {mL' : Nat} {r' : Option FieldType} {W ck sk : Nat} {a : Addr} {as' : List Value} {Qc : Option Value → Heap → List Addr → Prop} {ps : List FieldType} {rr : Option FieldType} {stk : List Value} {k' n' : Nat} (hd : decode bytes pc = .ok (.invokespecial index, 3))
    (w1 : (Jvm.Cond.methodLink y.cls index z).before a0 Z = true) (w2 : (Jvm.Cond.sameMethod z.cls z.cls z.name z.desc).before a0 Z = true) (w3 : (Jvm.Cond.instanceMethod z).before a0 Z = true) (w4 : (Jvm.Cond.superclass y.cls z.cls).before a0 Z = true) (w5 : (Jvm.Cond.code z b' mL' r').before a0 Z = true) (hz : z.name ≠ "<init>") (hpd : parseMethodDescriptor z.desc = some ⟨ps, rr⟩) (hlen : as'.length = ps.length) (F : Ins Z h a K0 true)
    (P : Pay l R p e below s args Z EL kn ws z 3 W ck sk (.ref a :: as').toArray h Qc) (hW : (S.map fun v => v.category).sum ≤ W) (hsz : L.size = maxL) (hst : stk = as'.reverse ++ .ref a :: S) (hk' : k + ck ≤ k') (hn' : n + sk ≤ n') (hkR : k' ≤ R.cells) (hnR : n' ≤ R.slots) (hp : pc + 3 = pc')
    (K : ∀ T' h' v ws', Cx p l e R s m args below meth c Z EL kn y bytes maxL ret (ws' ++ ws) T' h' k' n' → h.size ≤ h'.size → Qc v h' ws' → Go p e below Q T' (mkF m pc' L (v.toList ++ S))) : Go p e below Q T (mkF m pc L stk) := by
  subst hp; subst hst
  obtain ⟨c0, vm0, k0, locs, St, eT, hZ, hown, hS, hk, N, H, hsf, E, hkn⟩ := X
  have hP := P vm0 hZ H.1 hsf E hkn
  obtain ⟨v, vm₁, B, hw, X', h2, hgr, ⟨L', ws', q1, q2, q3, q4, q5, q6, q7, q8⟩, st⟩ := superBackS (Z := Z) (K := K0) St c0.1 hZ hown w1 w2 w3 w4 hz hP eT F (g := mkF m pc L (as'.reverse ++ .ref a :: S)) rfl (hsz.trans c0.2.2.1.symm) w5 (lenOf hpd hlen) rfl (by show 2 * 0 + _ ≤ _; omega) (hb c0.2.1 hd) (fun _ _ => ⟨rfl, eT, Nat.le_trans hk' hkR, Nat.le_trans hn' hnR⟩)
  obtain ⟨U, Lb, kb, nb⟩ := B
  dsimp only [Pt.U, Pt.locs, Pt.cells, Pt.slots] at X' h2 hgr q1 q2 q3 q4 q5 q6 q7 q8 st
  subst q4 q5 q6
  rw [eT] at hgr
  exact Go.of (fun t q => st.trans q) (K U U.heap v ws' ((after c0 X' hZ hown hS hk N H hsf hkn h2 hgr q2 q3 q7 q8).more hk' hn') hgr q1)
theorem privBackS' {locs : List Loc} {cells slots : Nat} (X : Stand p l e R s m args below meth c T locs cells slots) (hexec : p.tables.exec = Jvm.exec) {own : String} {index : Nat} {yy : MethodName} {by' : ByteArray} {mL' : Nat} {r' : Option FieldType}
    (hown : s.vm.findClass own = some m.cls) (hlink : (Cond.methodLink own index yy).before args s = true) (hinst : (Cond.instanceMethod yy).before args s = true) (hnf : NotFace s yy)
    (hpriv : s.PrivateAt yy) (hcode : (Cond.code yy by' mL' r').before args s = true) (hy : yy.cls ≠ "java/lang/invoke/MethodHandle" ∧ yy.cls ≠ "java/lang/invoke/VarHandle")
    {W : Nat} {Pre : Free.Pt → Array Value → Prop} {Post : Free.Pt → Array Value → Option Value → Free.Pt → Prop} (hK : Free.BackS l R p e below s args yy 3 W Pre Post)
    {g : JFrame} (hg : g.method = m) (hsize : g.locals.size = c.maxLocals) {a : Addr} {cell : Cell} (hcell : T.heap[a]? = some cell) (hobj : ∀ q, cell.vm ≠ .statics q)
    {argsL rest : List Value} (hlen : ∀ sig, parseMethodDescriptor yy.desc = some sig → argsL.length = sig.parameters.length)
    (hstack : g.stack = argsL.reverse ++ .ref a :: rest) (hW : 2 * g.monitorRoom + (rest.map fun v => v.category).sum ≤ W) (hdg : decode c.code g.pc = .ok (.invokevirtual index, 3))
    (hpre : ∀ vm₁, s.WarmedH vm₁ → Pre ⟨T.setVm vm₁, locs, cells, slots⟩ (.ref a :: argsL).toArray) :
    ∃ (v : Option Value) (vm₁ : Vm) (B : Free.Pt), s.WarmedH vm₁ ∧ Stand p l e R (s.setVm B.U.vm) m args below meth c B.U B.locs B.cells B.slots ∧ s.Since B.U.vm B.U.heap.size ∧ T.heap.size ≤ B.U.heap.size ∧ Post ⟨T.setVm vm₁, locs, cells, slots⟩ (.ref a :: argsL).toArray v B ∧
      Steps p.tables e below (T.setTop g) (B.U.setTop { g with pc := g.pc + 3, stack := v.toList ++ rest }) := by
  obtain ⟨mk, methM, hnamed, hmethM, hstM, habM⟩ := Cond.instanceMethod_spec hinst
  obtain ⟨methM', cM, hmethM', -, -, -, -, -, -, hsigM⟩ := Cond.code_spec hnamed hcode
  cases hmethM.symm.trans hmethM'
  obtain ⟨kP, hkP, hkPi⟩ := hnf mk hnamed
  have hselP : selectMethod e.platform s.vm cell.cls mk = .method mk := selectMethod_private hmethM (hpriv mk methM hnamed hmethM)
  obtain ⟨vm₁, X₁, hstep₁⟩ := X.invokevirtual hexec hown hlink hnamed hmethM hstM hkP hkPi hy (a := a) (cell := cell) hcell hobj hselP hmethM habM hkP hkPi (g := g) hg (argsL := argsL) (rest := rest) (hlen _ hsigM) hstack hdg
  obtain ⟨v, B, X', hS, hgr, hpost, hsteps⟩ := hK m meth c ⟨T.setVm vm₁, locs, cells, slots⟩ { g with stack := rest } (.invokevirtual index) mk (.ref a :: argsL).toArray X₁ hg hsize hdg hW (X₁.named hnamed) (hpre vm₁ X₁.warmed)
  exact ⟨v, vm₁, B, X₁.warmed, X', hS, hgr, hpost, (hstep₁ _ fun acts => by rw [doInvoke_state]; exact Steps.refl _).trans hsteps⟩
/-- a private method, called by 'invokevirtual' -/
theorem s_priv (X : Cx p l e R s m args below meth c Z EL kn y bytes maxL ret ws T h k n) {index : Nat} {C' : String} {z : MethodName} {b' : ByteArray} {mL' : Nat} {r' : Option FieldType} {W ck sk : Nat} {a : Addr} {as' : List Value} {Qc : Option Value → Heap → List Addr → Prop} {ps : List FieldType} {rr : Option FieldType} {stk : List Value} {k' n' : Nat} (hd : decode bytes pc = .ok (.invokevirtual index, 3))
    (w1 : (Jvm.Cond.methodLink y.cls index z).before a0 Z = true) (w2 : (Jvm.Cond.privateMethod z).before a0 Z = true) (nf : ∀ s : State, Z.Warmed39 s.vm → NotFace s z) (w4 : (Jvm.Cond.instanceMethod z).before a0 Z = true) (w5 : (Jvm.Cond.code z b' mL' r').before a0 Z = true) (hz : z.cls ≠ "java/lang/invoke/MethodHandle" ∧ z.cls ≠ "java/lang/invoke/VarHandle") (hpd : parseMethodDescriptor z.desc = some ⟨ps, rr⟩) (hlen : as'.length = ps.length) (E0 : Exa Z h a C')
    (P : Pay l R p e below s args Z EL kn ws z 3 W ck sk (.ref a :: as').toArray h Qc) (hW : (S.map fun v => v.category).sum ≤ W) (hsz : L.size = maxL) (hst : stk = as'.reverse ++ .ref a :: S) (hk' : k + ck ≤ k') (hn' : n + sk ≤ n') (hkR : k' ≤ R.cells) (hnR : n' ≤ R.slots) (hp : pc + 3 = pc')
    (K : ∀ T' h' v ws', Cx p l e R s m args below meth c Z EL kn y bytes maxL ret (ws' ++ ws) T' h' k' n' → h.size ≤ h'.size → Qc v h' ws' → Go p e below Q T' (mkF m pc' L (v.toList ++ S))) : Go p e below Q T (mkF m pc L stk) := by
  subst hp; subst hst
  obtain ⟨c0, vm0, k0, locs, St, eT, hZ, hown, hS, hk, N, H, hsf, E, hkn⟩ := X
  have hP := P vm0 hZ H.1 hsf E hkn
  have hZ' : Z.Warmed39 (s.setVm vm0).vm := hZ
  obtain ⟨cq, kq, qa, -, cl, qb, -, qd⟩ := isOf hZ' eT E0
  obtain ⟨v, vm₁, B, hw, X', h2, hgr, ⟨L', ws', q1, q2, q3, q4, q5, q6, q7, q8⟩, st⟩ := privBackS' St c0.1 hown (mvT hZ w1) (mvT hZ w4) (nf (s.setVm vm0) hZ) (Cond.privateMethod_at (mvP (args := args) hZ' w2)) (mvT hZ w5) hz hP (g := mkF m pc L (as'.reverse ++ .ref a :: S)) rfl (hsz.trans c0.2.2.1.symm) qb (fun z h => by rw [h] at qd; cases qd) (lenOf hpd hlen) rfl (by show 2 * 0 + _ ≤ _; omega) (hb c0.2.1 hd) (fun _ _ => ⟨rfl, eT, Nat.le_trans hk' hkR, Nat.le_trans hn' hnR⟩)
  obtain ⟨U, Lb, kb, nb⟩ := B
  dsimp only [Pt.U, Pt.locs, Pt.cells, Pt.slots] at X' h2 hgr q1 q2 q3 q4 q5 q6 q7 q8 st
  subst q4 q5 q6
  rw [eT] at hgr
  exact Go.of (fun t q => st.trans q) (K U U.heap v ws' ((after c0 X' hZ hown hS hk N H hsf hkn h2 hgr q2 q3 q7 q8).more hk' hn') hgr q1)
/-- System.arraycopy between two arrays of one primitive kind -/
theorem s_acopy (X : Cx p l e R s m args below meth c Z EL kn y bytes maxL ret ws T h k n) {index : Nat} {a b : Addr} {ty : FieldType} {vs vd : List Value} {sp dp nn : Nat} {zs zd zn : Int32} {W : Nat} (hd : decode bytes pc = .ok (.invokestatic index, 3))
    (w1 : (Cond.methodLink y.cls index Jvm.Stand.acN).before a0 Z = true) (w2 : (Cond.native Jvm.Stand.acN).before a0 Z = true) (w3 : (Cond.static Jvm.Stand.acN).before a0 Z = true) (w4 : (Cond.initialized "java/lang/System").before a0 Z = true)
    (A : Ary Z h a ty vs) (B : Ary Z h b ty vd) (hty : refKind ty = false) (hs1 : zs = Int32.ofNat sp) (hs2 : zd = Int32.ofNat dp) (hs3 : zn = Int32.ofNat nn) (h4 : sp + nn ≤ vs.length) (h5 : dp + nn ≤ vd.length) (ge : Z.heap.size ≤ b) (hm : b ∈ ws)
    (hsz : L.size = maxL) (hW : (S.map fun v => v.category).sum ≤ W) (hf : 1 ≤ R.frames) (hlo : W + 18 ≤ R.locals) (hp : pc + 3 = pc')
    (K : ∀ (T' : State) (h' : Heap), Cx p l e R s m args below meth c Z EL kn y bytes maxL ret ws T' h' k n → Keep h h' [b] → Ary Z h' b ty (vd.take dp ++ (vs.drop sp).take nn ++ vd.drop (dp + nn)) → Go p e below Q T' (mkF m pc' L S)) : Go p e below Q T (mkF m pc L (.int zn :: .int zd :: .ref b :: .int zs :: .ref a :: S)) := by
  subst hp; subst hs1; subst hs2; subst hs3
  have hv : vs.length < 2 ^ 31 := by obtain ⟨_, _, _, q, _⟩ := A; exact q
  have hvd : vd.length < 2 ^ 31 := by obtain ⟨_, _, _, q, _⟩ := B; exact q
  obtain ⟨kc, FA⟩ := A.arv .null
  obtain ⟨kd, FB⟩ := B.arv .null
  have eus : (vs.drop sp).take nn = (List.range nn).map fun i => vs.getD (sp + i) .null := by
    apply List.ext_getElem?
    intro i
    by_cases q : i < nn
    · rw [List.getElem?_take_of_lt q, List.getElem?_drop, List.getElem?_map, List.getElem?_range q]
      have q2 : sp + i < vs.length := by omega
      simp [List.getElem?_eq_getElem q2, List.getD_eq_getElem?_getD]
    · rw [List.getElem?_eq_none (by rw [List.length_take]; omega), List.getElem?_eq_none (by simp; omega)]
  obtain ⟨c0, vm0, k0, locs, St, eT, hZ, hown, hS, hk, N, H, hsf, E, hkn⟩ := X
  have n1 := n32 (N := sp) (by omega); have n2 := n32 (N := dp) (by omega); have n3 := n32 (N := nn) (by omega); have n4 := n32 hv; have n5 := n32 hvd
  obtain ⟨T', h', L', X', e', N', K', B', st⟩ := cpA St c0.1 hZ hown w1 w2 w3 w4 eT FA FB (us := (vs.drop sp).take nn) (sp := Int32.ofNat sp) (dp := Int32.ofNat dp) (nn := Int32.ofNat nn) (Or.inl ⟨rfl, hty⟩) (nn32 (by omega)) (nn32 (by omega)) (nn32 (by omega)) (by rw [n1, n3, n4]; exact h4) (by rw [n2, n3, n5]; exact h5) (by rw [n1, n3]; exact eus) (by rw [n2, n3]; exact h5) N ge (g := mkF m pc L (.int (Int32.ofNat nn) :: .int (Int32.ofNat dp) :: .ref b :: .int (Int32.ofNat sp) :: .ref a :: S)) rfl (hsz.trans c0.2.2.1.symm) rfl (hb c0.2.1 hd) hf (W := W) (by show 2 * 0 + _ ≤ _; omega) (by exact hlo)
  rw [n2, n3] at B'
  have Sa : ∀ x ∈ [b], Safe Z EL vm0 h x := fun x hx => by rw [List.mem_singleton.mp hx]; exact (hsf b hm).1
  have ul : (vd.take dp ++ (vs.drop sp).take nn ++ vd.drop (dp + nn)).length = vd.length := by simp; omega
  refine Go.of st (K T' h' ⟨c0, vm0, k0, _, X', e', hZ, hown, hS, Nat.le_trans hk K'.1, N', H.trans (CHr.keep K' Sa H.1), fun x q => ⟨Safe.keep K' Sa H.1 (hsf x q).1, Nat.lt_of_lt_of_le (hsf x q).2 K'.1⟩, ext_keep E K' (allS ge all0), hkn⟩ K' (Ary.of_arv B' (by rw [n5]; exact ul.symm) (by rw [ul]; exact hvd)))
theorem nfaceC {C : String} {z y' : MethodName} (w : (Jvm.Cond.selects C y' y').before a0 Z = true) (hc : y'.cls = z.cls) : ∀ s : State, Z.Warmed39 s.vm → NotFace s z := fun s hZ mk hn => by
  obtain ⟨c2, r2, m2, -, -, q3, -, kP, hkP, hkPi⟩ := Cond.selects_spec (mvT (args := #[]) hZ w)
  have e1 := findClass_of_methodNamed hn
  have e2 := findClass_of_methodNamed q3
  rw [hc] at e2
  have hcl : mk.cls = m2.cls := Option.some.inj (e1.symm.trans e2)
  exact ⟨kP, by rw [hcl]; exact hkP, hkPi⟩
/-- an exception's constructor (message): the JDK's chain, by the library's law -/
theorem s_exc1 (X : Cx p l e R s m args below meth c Z EL kn y bytes maxL ret ws T h k n) (hkk : kn) (hl : l.stackTraces = true) {rc : String} {links : List Jvm.Free.Exc.Link} {ic ni : Nat} {a : Addr} {msg : Value} {k' n' : Nat} (hok : Jvm.Free.Exc.linksOk 1 links = true) (hd : decode bytes pc = .ok (.invokespecial ic, 3))
    (w1 : (Cond.methodLink y.cls ic (Jvm.Free.Exc.ctor 1 (Jvm.Free.Exc.headName links))).before a0 Z = true) (w2 : (Cond.instanceMethod (Jvm.Free.Exc.ctor 1 (Jvm.Free.Exc.headName links))).before a0 Z = true) (wT : (Jvm.Free.Exc.chainTab 1 rc links).before a0 Z = true) (wi : (Cond.instantiable rc ni).before a0 Z = true) (r : ∀ d ∈ twoRefs, d.before a0 Z = true)
    (E0 : Exa Z h a rc) (N0 : Unt h a) (B : Fld Z h a Bundle.tN "backtrace" Jvm.Free.Exc.obD .null) (B2 : Fld Z h a Bundle.tN "detailMessage" Jvm.Free.Exc.msgD .null) (hmsg : msg.isRef = true) (ge : Z.heap.size ≤ a) (hm : a ∈ ws)
    (hsz : L.size = maxL) (hf : 4 + links.length ≤ R.frames) (hlo : (S.map fun v => v.category).sum + (56 + 14 * links.length) ≤ R.locals) (hk' : k + 1 ≤ k') (hn' : n + 2752 ≤ n') (hkR : k' ≤ R.cells) (hnR : n' ≤ R.slots) (hp : pc + 3 = pc')
    (K : ∀ (T' : State) (h' : Heap), Cx p l e R s m args below meth c Z EL kn y bytes maxL ret ws T' h' k' n' → Kp Z h h' a → Exa Z h' a rc → Unt h' a → Fld Z h' a Bundle.tN "detailMessage" Jvm.Free.Exc.msgD msg → Fld Z h' a Bundle.tN "cause" Jvm.Free.Exc.thD (.ref a) → Go p e below Q T' (mkF m pc' L S)) : Go p e below Q T (mkF m pc L (msg :: .ref a :: S)) := by
  subst hp
  obtain ⟨c0, vm0, k0, locs, St, eT, hZ, hown, hS, hk, N, H, hsf, E, hkn⟩ := X
  obtain ⟨T', h', X', e', K', E1, N1, F1, F2, -, st⟩ := excL1 St c0.1 hl hZ hown hok w1 w2 wT wi r (ThS.start.ext c0.2.2.2.2.2.2) (ThS.start.ext E) (hkn hkk).1 (hkn hkk).2 eT E0 N0 B B2 hmsg (g := mkF m pc L (msg :: .ref a :: S)) rfl (hsz.trans c0.2.2.1.symm) rfl (hb c0.2.1 hd) hf (by show 2 * 0 + _ + _ ≤ _; omega) (Nat.le_trans hk' hkR) (Nat.le_trans hn' hnR)
  have Kk := keep_of_kp K'
  have Sa : ∀ x ∈ [a], Safe Z EL vm0 h x := fun x hx => by rw [List.mem_singleton.mp hx]; exact (hsf a hm).1
  exact Go.of st (K T' h' ⟨c0, vm0, k0, _, X'.mono hk' hn', e', hZ, hown, hS, Nat.le_trans hk Kk.1, Fr.six N ge, H.trans (CHr.keep Kk Sa H.1), fun x q => ⟨Safe.keep Kk Sa H.1 (hsf x q).1, Nat.lt_of_lt_of_le (hsf x q).2 Kk.1⟩, ext_keep E Kk (allS ge all0), hkn⟩ K' E1 N1 F1 F2)
/-- an exception's constructor (message, cause) -/
theorem s_exc2 (X : Cx p l e R s m args below meth c Z EL kn y bytes maxL ret ws T h k n) (hkk : kn) (hl : l.stackTraces = true) {rc : String} {links : List Jvm.Free.Exc.Link} {ic ni : Nat} {a : Addr} {msg cz : Value} {k' n' : Nat} (hok : Jvm.Free.Exc.linksOk 2 links = true) (hd : decode bytes pc = .ok (.invokespecial ic, 3))
    (w1 : (Cond.methodLink y.cls ic (Jvm.Free.Exc.ctor 2 (Jvm.Free.Exc.headName links))).before a0 Z = true) (w2 : (Cond.instanceMethod (Jvm.Free.Exc.ctor 2 (Jvm.Free.Exc.headName links))).before a0 Z = true) (wT : (Jvm.Free.Exc.chainTab 2 rc links).before a0 Z = true) (wi : (Cond.instantiable rc ni).before a0 Z = true) (r : ∀ d ∈ twoRefs, d.before a0 Z = true)
    (E0 : Exa Z h a rc) (N0 : Unt h a) (B : Fld Z h a Bundle.tN "backtrace" Jvm.Free.Exc.obD .null) (B2 : Fld Z h a Bundle.tN "detailMessage" Jvm.Free.Exc.msgD .null) (hmsg : msg.isRef = true) (hcz : cz.isRef = true) (ge : Z.heap.size ≤ a) (hm : a ∈ ws)
    (hsz : L.size = maxL) (hf : 4 + links.length ≤ R.frames) (hlo : (S.map fun v => v.category).sum + (56 + 14 * links.length) ≤ R.locals) (hk' : k + 1 ≤ k') (hn' : n + 2752 ≤ n') (hkR : k' ≤ R.cells) (hnR : n' ≤ R.slots) (hp : pc + 3 = pc')
    (K : ∀ (T' : State) (h' : Heap), Cx p l e R s m args below meth c Z EL kn y bytes maxL ret ws T' h' k' n' → Kp Z h h' a → Exa Z h' a rc → Unt h' a → Fld Z h' a Bundle.tN "detailMessage" Jvm.Free.Exc.msgD msg → Fld Z h' a Bundle.tN "cause" Jvm.Free.Exc.thD cz → Go p e below Q T' (mkF m pc' L S)) : Go p e below Q T (mkF m pc L (cz :: msg :: .ref a :: S)) := by
  subst hp
  obtain ⟨c0, vm0, k0, locs, St, eT, hZ, hown, hS, hk, N, H, hsf, E, hkn⟩ := X
  obtain ⟨T', h', X', e', K', E1, N1, F1, F2, -, st⟩ := excL2 St c0.1 hl hZ hown hok w1 w2 wT wi r (ThS.start.ext c0.2.2.2.2.2.2) (ThS.start.ext E) (hkn hkk).1 (hkn hkk).2 eT E0 N0 B B2 hmsg hcz (g := mkF m pc L (cz :: msg :: .ref a :: S)) rfl (hsz.trans c0.2.2.1.symm) rfl (hb c0.2.1 hd) hf (by show 2 * 0 + _ + _ ≤ _; omega) (Nat.le_trans hk' hkR) (Nat.le_trans hn' hnR)
  have Kk := keep_of_kp K'
  have Sa : ∀ x ∈ [a], Safe Z EL vm0 h x := fun x hx => by rw [List.mem_singleton.mp hx]; exact (hsf a hm).1
  exact Go.of st (K T' h' ⟨c0, vm0, k0, _, X'.mono hk' hn', e', hZ, hown, hS, Nat.le_trans hk Kk.1, Fr.six N ge, H.trans (CHr.keep Kk Sa H.1), fun x q => ⟨Safe.keep Kk Sa H.1 (hsf x q).1, Nat.lt_of_lt_of_le (hsf x q).2 Kk.1⟩, ext_keep E Kk (allS ge all0), hkn⟩ K' E1 N1 F1 F2)
/-- a new array of a primitive kind, its class said -/
theorem s_newarrE (X : Cx p l e R s m args below meth c Z EL kn y bytes maxL ret ws T h k n) {aty : ArrayType} {z : Int32} {N : Nat} {k' n' : Nat} {ad : String} (hd : decode bytes pc = .ok (.newarray aty, 2)) (w : (Cond.arrayClass (newarray.typeOf aty)).before a0 Z = true) (hz : z = Int32.ofNat N) (hN : N ≤ 67108864) (had : "[" ++ (newarray.typeOf aty).toString = ad)
    (hk' : k + 1 ≤ k') (hn' : n + N ≤ n') (hkR : k' ≤ R.cells) (hnR : n' ≤ R.slots) (hp : pc + 2 = pc')
    (K : ∀ (T' : State) (h' : Heap) (a : Addr), a = h.size → Cx p l e R s m args below meth c Z EL kn y bytes maxL ret (a :: ws) T' h' k' n' → Ext h h' → Ary Z h' a (newarray.typeOf aty) (List.replicate N (defaultValue (newarray.typeOf aty))) → Exa Z h' a ad → Go p e below Q T' (mkF m pc' L (.ref a :: S))) : Go p e below Q T (mkF m pc L (.int z :: S)) := by
  subst hp; subst hz
  have hN' : N < 2 ^ 31 := by omega
  obtain ⟨c0, vm0, k0, locs, St, eT, hZ, hown, hS, hk, N0, H, hsf, E, hkn⟩ := X
  obtain ⟨T', h', cA, X', e', E', A, Ex, st⟩ := newPE St c0.1 hZ w eT (g := mkF m pc L (.int (Int32.ofNat N) :: S)) rfl (hb c0.2.1 hd) rfl (nn32 hN') (cap := N) (Nat.le_of_eq (n32 hN')) (by omega) (Nat.le_trans hk' hkR) (Nat.le_trans hn' hnR) had
  refine Go.of st (K T' h' h.size rfl ⟨c0, vm0, k0, _, X'.mono hk' hn', e', hZ, hown, hS, Nat.le_trans hk E'.1, N0, H.trans (CHr.ext E' H.1), fun x q => ?_, ext_trans E E', hkn⟩ E' ⟨_, A, ?_, by simpa using hN', ?_⟩ Ex)
  · rcases List.mem_cons.mp q with rfl | q
    · exact ⟨Safe.ext E' H.1 (Safe.new (Nat.le_refl _)), A.lt⟩
    · exact ⟨Safe.ext E' H.1 (hsf x q).1, Nat.lt_of_lt_of_le (hsf x q).2 E'.1⟩
  · simp [newA, n32 hN']
  · intro v hv
    rw [(List.mem_replicate.mp hv).2]
    cases aty <;> rfl
/-- an array at the start, her contents unsaid -/
theorem ary_any {a1 : Array Value} {t : Term} {a : Addr} {ty : FieldType} {z : Int32} {N : Nat} (hf : Fit Z) (ev : t.eval a1 Z none [] Z = some (.ref a)) (hA : ∃ cl, RoadKit.Arr Z Z.heap a cl ty) (hl : (Jvm.Cond.eq (Term.length t) (.int z)).value a1 Z none Z [] = some true) (hz : z = Int32.ofNat N) (hN : N < 2 ^ 31) : ∃ vs, Ary Z Z.heap a ty vs ∧ vs.length = N := by
  obtain ⟨cl, A⟩ := hA
  obtain ⟨v, h1, h2⟩ := Cond.eq_worth hl
  cases (Term.int_eval (args := a1) (first := Z) (o := none) (idx := []) (s := Z) z).symm.trans h2
  have hs : cl.slots.size < 2 ^ 31 ∧ cl.slots.size.toInt32 = z := by
    simp only [Term.eval, Option.bind_eq_bind, ev, Option.bind_some] at h1
    obtain ⟨cell, hcell, h1⟩ := Option.bind_eq_some_iff.mp h1
    cases A.1.symm.trans (State.arrayAt?_spec hcell).1
    by_cases hn : cl.slots.size < 2147483648
    · rw [if_pos hn] at h1; injection h1 with h1; injection h1 with h1; exact ⟨hn, h1⟩
    · rw [if_neg hn] at h1; cases h1
  have hsz : cl.slots.size = N := by
    have e1 : cl.slots.size.toInt32.toInt = cl.slots.size := len_toInt hs.1
    have e2 : (Int32.ofNat N).toInt = N := Int32.toInt_ofNat_of_lt (by omega)
    rw [hs.2, hz, e2] at e1
    omega
  refine ⟨cl.slots.toList, ⟨cl, A, rfl, by simpa using hs.1, fun v hv => ?_⟩, by simpa using hsz⟩
  obtain ⟨i, hi, hv⟩ := List.getElem_of_mem hv
  have hi' : i < cl.slots.size := by simpa using hi
  have e1 : (Nat.toInt32 i).toNatClampNeg = i := by simp only [Int32.toNatClampNeg, len_toInt (Nat.lt_trans hi' hs.1)]; rfl
  exact elem_fits (j := Nat.toInt32 i) hf A (idx_in hi' hs.1) (by rw [e1, ← hv]; simp [hi'])
section Thr
open Bundle Jvm.Free.Exc LibCode.Throwable
/-- Throwable's words as the sheets of k581 give them: all of the library's but 'lays' of suppressedExceptions in Throwable itself -/
def thrWords : List Jvm.Cond := throwableAtoms.eraseIdx 18
theorem thrLinks {a1 : Array Value} {s : State} {pl : Platform} {rc : String} (howns : pl.frameOwnsMonitors = true) (hfin : pl.finalization = false) (hpl : pl.magicAccessors = ({} : Platform).magicAccessors)
    (h : ∀ w ∈ thrWords, w.before a1 s = true) (hs : (Jvm.Cond.lays rc tN "suppressedExceptions" listD).before a1 s = true) (hst : (Jvm.Cond.lays rc tN "stackTrace" steD).before a1 s = true) :
    ∃ T : ThrowableC, T.Links pl s ∧ s.vm.findClass tN = some T.cT ∧ s.methodNamed? tFill = some T.fill ∧ s.methodNamed? tFill0 = some T.fill0 ∧ (∃ i, s.fieldFound? tN "stackTrace" steD = some (T.cT, T.kT, i, T.fStack)) ∧ (∃ i, s.fieldFound? tN "UNASSIGNED_STACK" steD = some (T.cT, T.kT, i, T.fUnassigned)) ∧ (∃ cell, s.heap[T.aS]? = some cell ∧ cell.vm.isStatics = true) := by
  have hh : ∀ w, w ∈ thrWords → w.holds a1 s none s [] = true := fun w q => h w q
  -- the class
  obtain ⟨⟨ct, j0⟩, mN, nN, vN, natN, cdN, lkN, sgN⟩ := Cond.native_spec (hh (.native tFill0) (by simp [thrWords, throwableAtoms]))
  have fc : s.vm.findClass tN = some ct := findClass_of_methodNamed nN
  obtain ⟨kt, fk, nameT⟩ := Vm.findClass_spec fc
  have ini := Cond.initialized_spec fc fk (hh (.initialized tN) (by simp [thrWords, throwableAtoms]))
  obtain ⟨_, kt', _, _, fk', _, _, ordT, _, niT⟩ := Cond.superclass_spec fc (hh (.superclass tN "java/lang/Object") (by simp [thrWords, throwableAtoms]))
  cases fk.symm.trans fk'
  -- its methods
  obtain ⟨jF, mF, nF, vF, atF, stF, abF, -, -⟩ := Cond.ownMethod (x := tFill) fc fk (hh (.instanceMethod tFill) (by simp [thrWords, throwableAtoms]))
  obtain ⟨mF', cF, vF', cdF, byF, loF, reF, lkF, -, sgF⟩ := Cond.codeSync_spec nF (hh (.codeSync tFill Fill.code 1 (some (.object tN))) (by simp [thrWords, throwableAtoms]))
  cases vF.symm.trans vF'
  obtain ⟨j0', mN', nN', vN', atN, stN, abN, nmN, dsN⟩ := Cond.ownMethod (x := tFill0) fc fk (hh (.instanceMethod tFill0) (by simp [thrWords, throwableAtoms]))
  obtain rfl : j0 = j0' := by have := Option.some.inj (nN.symm.trans nN'); simpa using this
  cases vN.symm.trans vN'
  obtain ⟨jZ, mZ, nZ, vZ, atZ, -, -, -, -⟩ := Cond.ownMethod (x := tInit0) fc fk (hh (.instanceMethod tInit0) (by simp [thrWords, throwableAtoms]))
  obtain ⟨mZ', cZ, vZ', cdZ, -⟩ := Cond.code_spec nZ (hh (.code tInit0 Init0.code 1 none) (by simp [thrWords, throwableAtoms]))
  cases vZ.symm.trans vZ'
  obtain ⟨mi, mO, nO, vO, stO, abO⟩ := Cond.instanceMethod_spec (hh (.instanceMethod oInit) (by simp [thrWords, throwableAtoms]))
  obtain ⟨mO', cO, vO', cdO, byO, loO, -, lkO, -, sgO⟩ := Cond.code_spec nO (hh (.code oInit ⟨#[0xb1]⟩ 1 none) (by simp [thrWords, throwableAtoms]))
  cases vO.symm.trans vO'
  obtain ⟨kO, fkO, nameO⟩ := Vm.findClass_spec (findClass_of_methodNamed nO)
  obtain ⟨nmO, dsO⟩ := name_of_methodNamed nO vO
  -- its links
  obtain ⟨ci1, n1, cf, l1, r1, hcf, p1⟩ := Cond.linkedMethod fc fk nO (hh (.methodLink tN 1 oInit) (by simp [thrWords, throwableAtoms])) pl hpl
  obtain ⟨ci27, n27, cf', l27, r27, hcf', p27⟩ := Cond.linkedMethod fc fk nF (hh (.methodLink tN 27 tFill) (by simp [thrWords, throwableAtoms])) pl hpl
  cases hcf.symm.trans hcf'
  obtain ⟨ci202, n202, cf'', l202, r202, hcf'', p202⟩ := Cond.linkedMethod fc fk nN (hh (.methodLink tN 202 tFill0) (by simp [thrWords, throwableAtoms])) pl hpl
  cases hcf.symm.trans hcf''
  -- its fields; suppressedExceptions by the subclass's word
  obtain ⟨ci7, i7, f7, k7, g7, at7, s7, fi7, -, -, ff7⟩ := Cond.ownField (t := .object tN) fc fk (by decide +kernel) (hh (.fieldLink tN 7 tN "cause" "Ljava/lang/Throwable;") (by simp [thrWords, throwableAtoms])) (hh (.lays tN tN "cause" "Ljava/lang/Throwable;") (by simp [thrWords, throwableAtoms])) pl hpl
  obtain ⟨ci17, i17, f17, k17, g17, at17, s17, fi17, -, -, ff17⟩ := Cond.ownField (t := .array (.object "java/lang/StackTraceElement")) fc fk (by decide +kernel) (hh (.fieldLink tN 17 tN "stackTrace" steD) (by simp [thrWords, throwableAtoms])) (hh (.lays tN tN "stackTrace" steD) (by simp [thrWords, throwableAtoms])) pl hpl
  obtain ⟨ci24, i24, f24, k24, g24, at24, s24, fi24, -, -, ff24⟩ := Cond.ownField (C' := rc) (t := .object "java/util/List") fc fk (by decide +kernel) (hh (.fieldLink tN 24 tN "suppressedExceptions" listD) (by simp [thrWords, throwableAtoms])) hs pl hpl
  obtain ⟨ci13, i13, f13, aS, cS, k13, g13, at13, s13, -, -, hsta, hcS, isS, -, -, ff13⟩ := Cond.ownStatic (t := .array (.object "java/lang/StackTraceElement")) fc fk (by decide +kernel) (hh (.fieldLink tN 13 tN "UNASSIGNED_STACK" steD) (by simp [thrWords, throwableAtoms])) (hh (.laysStatic tN "UNASSIGNED_STACK" steD) (by simp [thrWords, throwableAtoms])) pl hpl
  obtain ⟨ci20, i20, f20, _, _, k20, g20, at20, s20, -⟩ := Cond.ownStatic (t := .object "java/util/List") fc fk (by decide +kernel) (hh (.fieldLink tN 20 tN "SUPPRESSED_SENTINEL" listD) (by simp [thrWords, throwableAtoms])) (hh (.laysStatic tN "SUPPRESSED_SENTINEL" listD) (by simp [thrWords, throwableAtoms])) pl hpl
  obtain ⟨_, _, cM, kM, iM, fM, _, _, ffM, sM, fiM, _⟩ := Cond.lays_spec (hh (.lays tN tN "detailMessage" "Ljava/lang/String;") (by simp [thrWords, throwableAtoms]))
  -- two of them apart: seen in the subclass
  have apart : f17.slot ≠ f24.slot := fun q => by
    have e := slot_ne (Z := s) (a0 := a1) (Or.inl hst) (Or.inl hs) (t := .array (.object "java/lang/StackTraceElement")) (t' := .object "java/util/List") (by decide) (by decide) (by decide)
    apply e
    simp only [RoadKit.slotOf, ff17, ff24]
    first | exact q | (simp [q]; done)
  have pF : mF.sig.parameters = [] := by
    have e : (parseMethodDescriptor tFill.desc).map (·.parameters) = some [] := by decide +kernel
    rw [sgF] at e; simpa using e
  have pN : mN.sig.parameters = [.int] := by
    have e : (parseMethodDescriptor tFill0.desc).map (·.parameters) = some [.int] := by decide +kernel
    rw [sgN] at e; simpa using e
  have pO : mO.sig.parameters.length = 0 := by
    have e : (parseMethodDescriptor oInit.desc).map (·.parameters.length) = some 0 := by decide +kernel
    rw [sgO] at e; simpa using e
  refine ⟨{ cT := ct, kT := kt, cO := ct, aS := aS, fillIdx := jF, fill0Idx := j0, initSIdx := jZ, obj := mi, kObj := kO, methFill := mF, methFill0 := mN, methInitS := mZ, methObj := mO, codeFill := cF, codeInitS := cZ, codeObj := cO, fBack := f7, fDepth := f7, fStack := f17, fCause := f7, fSupp := f24, fMsg := fM, fUnassigned := f13, fSentinel := f20, cfT := cf, ci1 := ci1, n1 := n1, ci27 := ci27, n27 := n27, ci202 := ci202, n202 := n202, ci7 := ci7, i7 := i7, ci13 := ci13, i13 := i13, ci17 := ci17, i17 := i17, ci20 := ci20, i20 := i20, ci24 := ci24, i24 := i24 }, ?_, fc, nF, nN, ⟨i17, ff17⟩, ⟨i13, ff13⟩, cS, hcS, isS⟩
  constructor <;> first | assumption | exact Vm.findClass_boot fc fk | exact apart | (rw [dsO]; exact lookupSpecial_of_named nO vO stO)
end Thr
section Fill
open Bundle Jvm.Free.Exc LibCode.Throwable
variable {p : Program} {l : Launch} {e : Env} {R : Room} {s : State} {m : MethodId} {args : Array Value} {below : List Frame} {meth : Method} {c : Code} {Z : State} {a0 : Array Value} {EL : List (String × Nat)} {kn : Prop} {y : MethodName} {bytes : ByteArray} {maxL : Nat} {ret : Option FieldType}
  {ws : List Addr} {T T' : State} {h h' : Heap} {k n : Nat} {Q : Outcome → State → Prop} {g g' : JFrame} {pc pc' : Nat} {L L' : Array Slot} {S : List Value}
/-- the exception words that the sheets of k581 give: the library's, but for one -/
def excW (rc : String) : List Jvm.Cond := thrWords ++ (excAtoms rc).drop throwableAtoms.length
theorem excW_ok {rc : String} : (excW rc).all xOk = true := rfl
theorem slot_at {s0 : State} (hal : Z.vm.Alike s0.vm) {C nm d : String} {f : Field} (q : ∃ c k i, s0.fieldFound? C nm d = some (c, k, i, f)) : RoadKit.slotOf Z C nm d = f.slot := by
  obtain ⟨c5, k5, i5, g5⟩ := Jvm.Free.BdW.found_ride (U := s0) (U' := Z) hal.symm q
  simp [RoadKit.slotOf, g5]
set_option maxHeartbeats 4000000 in
/-- fillInStackTrace() on an object that the walk has made, in one of Throwable's constructors -/
theorem s_fill (X : Cx p l e R s m args below meth c Z EL kn y bytes maxL ret ws T h k n) (hkk : kn) (hl : l.stackTraces = true) {rc : String} {ni : Nat} {a u : Addr} {k' n' : Nat} (hd : decode bytes pc = .ok (.invokevirtual 27, 3)) (hy : y.cls = tN)
    (wW : ∀ d ∈ excW rc, d.before a0 Z = true) (wi : (Jvm.Cond.instantiable rc ni).before a0 Z = true) (U0 : Sta Z Z.heap tN "UNASSIGNED_STACK" steD (.ref u))
    (E0 : Exa Z h a rc) (N0 : Unt h a) (F1 : Fld Z h a tN "stackTrace" steD (.ref u)) (F2 : Fld Z h a tN "backtrace" obD .null) (ge : Z.heap.size ≤ a) (hm : a ∈ ws)
    (hsz : L.size = maxL) (hf : 3 ≤ R.frames) (hlo : (S.map fun v => v.category).sum + 42 ≤ R.locals) (hk' : k + 1 ≤ k') (hn' : n + 2752 ≤ n') (hkR : k' ≤ R.cells) (hnR : n' ≤ R.slots) (hp : pc + 3 = pc')
    (K : ∀ (T' : State) (h' : Heap), Cx p l e R s m args below meth c Z EL kn y bytes maxL ret ws T' h' k' n' → Kp Z h h' a → Exa Z h' a rc → Unt h' a →
      (∀ {O nm d : String} {v : Value}, Fld Z h a O nm d v → RoadKit.slotOf Z tN "backtrace" obD ≠ RoadKit.slotOf Z O nm d → RoadKit.slotOf Z tN "depth" "I" ≠ RoadKit.slotOf Z O nm d → RoadKit.slotOf Z tN "stackTrace" steD ≠ RoadKit.slotOf Z O nm d → Fld Z h' a O nm d v) →
      Go p e below Q T' (mkF m pc' L (.ref a :: S))) : Go p e below Q T (mkF m pc L (.ref a :: S)) := by
  subst hp
  obtain ⟨c0, vm0, k0, locs, St, eT, hZ, hown, hS, hk, N, H, hsf, E, hkn⟩ := X
  have hZs : Z.Warmed39 (s.setVm vm0).vm := hZ
  have hT0 : ThS Z (s.setVm vm0).heap := ThS.start.ext c0.2.2.2.2.2.2
  have hal : Z.vm.Alike (s.setVm vm0).vm := hZs.alike
  have aw : ∀ x, x ∈ excW rc → x.before args (s.setVm vm0) = true := fun x hx => mvX hT0 hZs (List.all_eq_true.mp excW_ok x hx) (wW x hx)
  have a' : ∀ x, x ∈ excW rc → x.holds args (s.setVm vm0) none (s.setVm vm0) [] = true := fun x hx => aw x hx
  have htr : e.platform.stackTraces = true := by rw [St.admits.platform]; exact hl
  have howns : e.platform.frameOwnsMonitors = true := by rw [St.admits.platform]
  have hfin : e.platform.finalization = false := by rw [St.admits.platform]
  have hpl : e.platform.magicAccessors = ({} : Platform).magicAccessors := by rw [St.admits.platform]
  have inW : ∀ {x : Jvm.Cond}, x ∈ thrWords → x ∈ excW rc := fun hx => List.mem_append_left _ hx
  obtain ⟨Th, Lk, hfc, hnF, hn0, ⟨iS, hffS⟩, ⟨iU, hffU⟩, -⟩ := thrLinks (rc := rc) howns hfin hpl (fun w q => aw w (inW q)) (aw _ (by simp [excW, excAtoms])) (aw _ (by simp [excW, excAtoms]))
  have hown' : (s.setVm vm0).vm.findClass tN = some m.cls := hy ▸ hown
  -- the cell
  have E0' := E0
  have N0' := N0
  obtain ⟨cell, kc, h1, h2, h3, h4, h5⟩ := E0
  obtain ⟨_, u1, u2, u3⟩ := N0
  cases h1.symm.trans u1
  obtain ⟨_, _, i1, i2, i3, -⟩ := Cond.instantiable_spec wi
  cases h2.symm.trans i1
  cases h3.symm.trans i2
  obtain ⟨kX, hkX, ekX⟩ := hal.2.2 _ _ h3
  have hfound : (s.setVm vm0).vm.findClass rc = some cell.cls := by rw [hal.findClass]; exact h2
  have hord : kX.kind = .ordinary := by rw [ekX]; exact i3
  have hszc : cell.slots.size = kX.instanceTypes.size := by rw [ekX]; exact h5 i3
  -- its fields
  obtain ⟨_, _, _, _, fS, f1, f2, -, -, -, -, f7⟩ := F1
  cases h1.symm.trans f1
  obtain ⟨_, q3, -⟩ := State.fieldFound?_setVm (s := Z) hal f2
  cases (show (s.setVm vm0).fieldFound? tN "stackTrace" steD = _ from q3).symm.trans hffS
  obtain ⟨ci198, i198, fB, hk198, hg198, ha198, hsB, -, hnB, htB, hffB⟩ := Cond.ownField (t := .object "java/lang/Object") hfc Lk.cls (by decide +kernel) (a' (.fieldLink tN 198 tN "backtrace" obD) (by simp [excW, excAtoms])) (a' (.lays tN tN "backtrace" obD) (by simp [excW, excAtoms])) e.platform hpl
  obtain ⟨_, _, _, _, fB', b1, b2, -, -, -, -, b7⟩ := F2
  cases h1.symm.trans b1
  obtain ⟨_, q4, -⟩ := State.fieldFound?_setVm (s := Z) hal b2
  cases (show (s.setVm vm0).fieldFound? tN "backtrace" obD = _ from q4).symm.trans hffB
  obtain ⟨cD1, kD1, cD, kD, iD, fD, -, -, hffD, hstD, -, -, -, -⟩ := Cond.lays_spec (a' (.lays rc tN "depth" "I") (by simp [excW, excAtoms]))
  cases Option.some.inj ((Cond.lays_declared (a' (.lays rc tN "depth" "I") (by simp [excW, excAtoms])) hffD).symm.trans hfc)
  obtain ⟨hkD, hatD⟩ := State.fieldFound?_spec hffD
  cases Option.some.inj (hkD.symm.trans Lk.cls)
  obtain ⟨hnD, htD⟩ := State.fieldFound?_type hffD (t := .int) (by decide +kernel)
  obtain ⟨hnS, htS⟩ := State.fieldFound?_type hffS (t := .array (.object "java/lang/StackTraceElement")) (by decide +kernel)
  have hfb := Cond.soleField_find hfc Lk.cls (a' (.soleField tN "backtrace") (by simp [excW, excAtoms])) ha198 hnB hsB
  have hfd := Cond.soleField_find hfc Lk.cls (a' (.soleField tN "depth") (by simp [excW, excAtoms])) hatD hnD hstD
  obtain ⟨comp, cO, kO, -, -, hkO, hkindO, hO⟩ := Cond.arrayOver_spec (aw (.arrayOver (.object "java/lang/Object")) (by simp [excW, excAtoms]))
  obtain ⟨tyS, dS, hdS, hdnS⟩ := Cond.laysAt hfound hkX hffS (a' (.lays rc tN "stackTrace" steD) (by simp [excW, excAtoms]))
  obtain ⟨tyB, dB, hdB, hdnB⟩ := Cond.laysAt hfound hkX hffB (a' (.lays rc tN "backtrace" obD) (by simp [excW, excAtoms]))
  obtain ⟨tyD, dD, hdD, hdnD⟩ := Cond.laysAt hfound hkX hffD (a' (.lays rc tN "depth" "I") (by simp [excW, excAtoms]))
  have tk : ∀ {f : Field} {v : Value}, kX.instanceTypes[f.slot]? = some f.type → fits f.type v = true → Jvm.Takes (s.setVm vm0) cell f v := fun {f v} h1 h2 => by
    obtain ⟨q1, q2⟩ := Takes.of_laid (v := v) hkX hord h1 h2
    exact ⟨by rw [hszc]; simpa using q1, by rw [u2]; exact q2⟩
  -- UNASSIGNED_STACK
  obtain ⟨_, _, kU, fU, stU, cellS, g1, -, -, g4, g5, g6, g7⟩ := U0
  obtain ⟨kU', q5, eU⟩ := State.fieldFound?_setVm (s := Z) hal g1
  have q5' := (show (s.setVm vm0).fieldFound? tN "UNASSIGNED_STACK" steD = _ from q5).symm.trans hffU
  simp only [Option.some.injEq, Prod.mk.injEq] at q5'
  obtain ⟨-, eK, -, eF⟩ := q5'
  have hst : stU = Th.aS := Option.some.inj (g4.symm.trans ((by rw [← eK, eU] : kU.statics = Th.kT.statics).trans Lk.statics))
  subst hst
  subst eF
  have hneS : Th.aS ≠ a := fun z => by
    have := E.2 _ _ g5
    rw [z, h1] at this
    rw [← Option.some.inj this, u2] at g6
    cases g6
  have hknS : cellS.vm ≠ .unknown := fun z => by rw [z] at g6; cases g6
  have hsel0 : selectMethod e.platform (s.setVm vm0).vm cell.cls Th.fill0 = .method Th.fill0 := by
    obtain ⟨c2, r2, m2, q1, q2, q3, q4, -⟩ := Cond.selects_spec (a' (.selects rc tFill0 tFill0) (by simp [excW, excAtoms]))
    cases Option.some.inj (q1.symm.trans hfound)
    cases Option.some.inj (q2.symm.trans (State.methodFound?_of_named hn0 (by decide)))
    cases Option.some.inj (q3.symm.trans hn0)
    rw [Launch.admits_selectMethod St.admits]; exact q4
  have hSE := aw (.selects rc tFill tFill) (by simp [excW, excAtoms])
  obtain ⟨v6, vm6, ⟨T6, L6, c6, n6⟩, hW6, X6, ⟨hv6, vm', lines, hlines, hWv, hU6, hL6, hc6, hn6⟩, st⟩ := St.virtualBack c0.1 (own := tN) (C := rc) (index := 27) (y := tFill) (z := tFill) hown' (aw (.methodLink tN 27 tFill) (inW (by simp [thrWords, throwableAtoms]))) (aw (.declares tFill) (by simp [excW, excAtoms])) (notFace_of_selects hSE) hSE (aw (.instanceMethod tFill) (inW (by simp [thrWords, throwableAtoms]))) (by decide)
    (Jvm.Free.Str.fillPays (l := l) (W := (S.map fun v => v.category).sum) c0.1 htr Th Lk hnF (u0 := ⟨.ref u, rfl⟩) (by simp) (self := a) (cell := cell) (cellS := cellS) (fun _ => by rw [u2]; simp) (by rw [u2]; simp) (by rw [u3]) (by rw [u3]) f7 hsel0 hneS hknS g7 (tk tyS (by rw [htS]; rfl))
      ⟨{ ci198 := ci198, i198 := i198, fBack := fB }, ⟨hk198, hg198, ha198, hsB⟩, b7⟩ (hkn hkk).1 (hkn hkk).2 hfc hO hkO hkindO hfb hfd
      (fun x => tk tyB (by rw [htB]; rfl)) (fun x => tk tyD (by rw [htD]; rfl)) (by omega) (by omega))
    (b := a) (cB := cell.cls) hfound ⟨cell, by rw [eT]; exact h1, rfl, h4⟩ (g := mkF m pc L (.ref a :: S)) rfl (hsz.trans c0.2.2.1.symm) (Steps.refl _) (argsL := []) (rest := S)
    (fun sig h => by rw [show parseMethodDescriptor tFill.desc = some ⟨[], some (.object tN)⟩ from by decide +kernel] at h; rw [← Option.some.inj h]; rfl) rfl (by show 2 * 0 + _ ≤ _; omega) (hb c0.2.1 hd)
    (fun vmx hWx => ⟨rfl, by show k + 1 ≤ R.cells; omega, by show n + 2752 ≤ R.slots; omega, by show T.heap[a]? = _; rw [eT]; exact h1, by show T.heap[_]? = _; rw [eT]; exact E.2 _ _ g5⟩)
  dsimp only [Pt.U, Pt.locs, Pt.cells, Pt.slots] at X6 hU6 hL6 hc6 hn6 st
  subst hv6 hL6 hc6 hn6
  have hsize : (Jvm.traceHolder cO lines).slots.size ≤ 2752 := Jvm.traceHolder_size_le cO hlines
  have hlt : a < h.size := (Array.getElem?_eq_some_iff.mp h1).1
  obtain ⟨C6, eC6⟩ : ∃ z, z = Jvm.Free.Str.filledOn Th.toThrowableT fB fD cell ⟨.ref u, rfl⟩ T.heap.size lines.length.toInt32 := ⟨_, rfl⟩
  have hh6 : T6.heap = (h.push (Jvm.traceHolder cO lines)).setIfInBounds a C6 := by rw [hU6, eC6, ← eT]; rfl
  have at6 : T6.heap[a]? = some C6 := by rw [hh6]; simp [Array.getElem?_setIfInBounds, hlt, Nat.lt_succ_of_lt hlt]
  have oth : ∀ (x : Addr) (cx : Cell), h[x]? = some cx → x ≠ a → T6.heap[x]? = some cx := fun x cx q ne => by
    rw [hh6, Array.getElem?_setIfInBounds_ne ne.symm, Array.getElem?_push_lt (Array.getElem?_eq_some_iff.mp q).1]
    exact congrArg some (Array.getElem?_eq_some_iff.mp q).2
  have c6s : C6 = { cell with slots := C6.slots } := by rw [eC6]; rfl
  have c6z : C6.slots.size = cell.slots.size := by rw [eC6]; simp [Jvm.Free.Str.filledOn, Cell.setSlot]
  have eB := slot_at hal ⟨_, _, _, hffB⟩
  have eD := slot_at hal ⟨_, _, _, hffD⟩
  have eS := slot_at hal ⟨_, _, _, hffS⟩
  have c6i : ∀ i, RoadKit.slotOf Z tN "backtrace" obD ≠ i → RoadKit.slotOf Z tN "depth" "I" ≠ i → RoadKit.slotOf Z tN "stackTrace" steD ≠ i → C6.slots[i]? = cell.slots[i]? := fun i q1 q2 q3 => by
    rw [eB] at q1; rw [eD] at q2; rw [eS] at q3
    rw [eC6]; simp [Jvm.Free.Str.filledOn, Cell.setSlot, Array.getElem?_setIfInBounds, q1, q2, q3]
  have KP : Kp Z h T6.heap a := by
    refine ⟨by rw [hh6]; simp, fun x cx q => ?_⟩
    by_cases z : x = a
    · subst z; cases h1.symm.trans q
      exact ⟨C6, at6, c6s, c6z, fun q => absurd rfl q, fun i hi => c6i i (hi ("backtrace", obD) (by simp [sixNames])) (hi ("depth", "I") (by simp [sixNames])) (hi ("stackTrace", steD) (by simp [sixNames]))⟩
    · exact ⟨cx, oth x cx q z, rfl, rfl, fun _ => rfl, fun _ _ => rfl⟩
  have Kk := keep_of_kp KP
  have Sa : ∀ x ∈ [a], Safe Z EL vm0 h x := fun x hx => by rw [List.mem_singleton.mp hx]; exact (hsf a hm).1
  refine Go.of (fun t q => st.trans q) (K T6 T6.heap ⟨c0, vm0, k0, _, X6.mono (by omega) (by omega), rfl, hZ, hown, hS, Nat.le_trans hk Kk.1, N.app fun z hz => ?_, H.trans (CHr.keep Kk Sa H.1), fun x q => ⟨Safe.keep Kk Sa H.1 (hsf x q).1, Nat.lt_of_lt_of_le (hsf x q).2 Kk.1⟩, ext_keep E Kk (allS ge all0), hkn⟩ KP (E0'.kp KP) (N0'.kp KP) ?_)
  · simp only [List.mem_cons, List.not_mem_nil, or_false] at hz
    rcases hz with rfl | rfl | rfl <;> exact ge
  · intro O nm d v F q1 q2 q3
    obtain ⟨cl, cf, kf, i, f, e1, e2, e3, e4, e5, e6, e7⟩ := F
    cases h1.symm.trans e1
    have es : RoadKit.slotOf Z O nm d = f.slot := by simp [RoadKit.slotOf, e2]
    rw [es] at q1 q2 q3
    exact ⟨C6, cf, kf, i, f, at6, e2, e3, by rw [c6s]; exact e4, by rw [c6s]; exact e5, by rw [c6s]; exact e6, by rw [c6i _ q1 q2 q3]; exact e7⟩
theorem kp_refl (a : Addr) : Kp Z h h a := ⟨Nat.le_refl _, fun y cy q => ⟨cy, q, rfl, rfl, fun _ => rfl, fun _ _ => rfl⟩⟩
theorem kp_trans {h1 h2 h3 : Heap} {a : Addr} (K : Kp Z h1 h2 a) (K' : Kp Z h2 h3 a) : Kp Z h1 h3 a := by
  refine ⟨Nat.le_trans K.1 K'.1, fun y cy q => ?_⟩
  obtain ⟨c1, q1, q2, q3, q4, q5⟩ := K.2 y cy q
  obtain ⟨c2, r1, r2, r3, r4, r5⟩ := K'.2 y c1 q1
  refine ⟨c2, r1, ?_, r3.trans q3, fun ne => (r4 ne).trans (q4 ne), fun i hi => (r5 i hi).trans (q5 i hi)⟩
  rw [r2, q2]
theorem kp_wr {h1 h2 h3 : Heap} {a : Addr} {nm d : String} {v : Value} (K : Kp Z h1 h2 a) (W : Wr h2 h3 a (RoadKit.slotOf Z tN nm d) v) (hin : (nm, d) ∈ sixNames) : Kp Z h1 h3 a := by
  refine kp_trans K ?_
  obtain ⟨cell, w1, w2, w3, rfl⟩ := W
  refine ⟨by simp, fun y cy q => ?_⟩
  by_cases z : y = a
  · subst z; cases w1.symm.trans q
    have hlt := (Array.getElem?_eq_some_iff.mp w1).1
    refine ⟨cell.setSlot (RoadKit.slotOf Z tN nm d) v, by simp [Array.getElem?_setIfInBounds, hlt], rfl, by simp [Cell.setSlot], fun ne => absurd rfl ne, fun i hi => ?_⟩
    have := hi _ hin
    simp [Cell.setSlot, Array.getElem?_setIfInBounds, this]
  · exact ⟨cy, by rw [Array.getElem?_setIfInBounds_ne (Ne.symm z)]; exact q, rfl, rfl, fun _ => rfl, fun _ _ => rfl⟩
end Fill
section Up
open Bundle Jvm.Free.Exc
variable {p : Program} {l : Launch} {e : Env} {R : Room} {s : State} {m : MethodId} {args : Array Value} {below : List Frame} {meth : Method} {c : Code} {Z : State} {a0 : Array Value} {EL : List (String × Nat)} {kn : Prop} {y : MethodName} {bytes : ByteArray} {maxL : Nat} {ret : Option FieldType}
  {ws : List Addr} {T T' : State} {h h' : Heap} {k n : Nat} {Q : Outcome → State → Prop} {g g' : JFrame} {pc pc' : Nat} {L L' : Array Slot} {S : List Value}
/-- 'invokevirtual' of a method that the named class inherits -/
theorem upBackS {locs : List Loc} {cells slots : Nat} (X : Stand p l e R s m args below meth c T locs cells slots) (hexec : p.tables.exec = Jvm.exec) {own C owner : String} {index : Nat} {xx z : MethodName}
    (hown : s.vm.findClass own = some m.cls) (hlink : (Jvm.Cond.methodLink own index xx).before args s = true) (hsame : (Jvm.Cond.sameMethod xx.cls owner xx.name xx.desc).before args s = true)
    (hdecl : (Jvm.Cond.declares ⟨owner, xx.name, xx.desc⟩).before args s = true) (howner : owner ≠ "java/lang/invoke/MethodHandle" ∧ owner ≠ "java/lang/invoke/VarHandle")
    (hsel : (Jvm.Cond.selects C xx z).before args s = true) (hinst : (Jvm.Cond.instanceMethod z).before args s = true)
    {W : Nat} {Pre : Free.Pt → Array Value → Prop} {Post : Free.Pt → Array Value → Option Value → Free.Pt → Prop} (hK : Free.BackS l R p e below s args z 3 W Pre Post)
    {b : Addr} {cell : Cell} {cB : ClassId} (hcB : s.vm.findClass C = some cB) (hcell : T.heap[b]? = some cell) (hcls : cell.cls = cB) (hobj : ∀ q, cell.vm ≠ .statics q)
    {g : JFrame} (hg : g.method = m) (hsize : g.locals.size = c.maxLocals)
    {argsL rest : List Value} (hlen : ∀ sig, parseMethodDescriptor xx.desc = some sig → argsL.length = sig.parameters.length)
    (hstack : g.stack = argsL.reverse ++ .ref b :: rest) (hW : 2 * g.monitorRoom + (rest.map fun v => v.category).sum ≤ W) (hdg : decode c.code g.pc = .ok (.invokevirtual index, 3))
    (hpre : ∀ vm₁, s.WarmedH vm₁ → Pre ⟨T.setVm vm₁, locs, cells, slots⟩ (.ref b :: argsL).toArray) :
    ∃ (v : Option Value) (vm₁ : Vm) (B : Free.Pt), s.WarmedH vm₁ ∧ Stand p l e R (s.setVm B.U.vm) m args below meth c B.U B.locs B.cells B.slots ∧ s.Since B.U.vm B.U.heap.size ∧ T.heap.size ≤ B.U.heap.size ∧ Post ⟨T.setVm vm₁, locs, cells, slots⟩ (.ref b :: argsL).toArray v B ∧
      Steps p.tables e below (T.setTop g) (B.U.setTop { g with pc := g.pc + 3, stack := v.toList ++ rest }) := by
  obtain ⟨r0, r, hn, hrm, hstR, hsigR⟩ := Cond.declares_spec hdecl
  obtain ⟨cn, ck, r1, hcn, hck, hni, hf, hn1⟩ := Cond.sameMethod_found hsame
  cases hn.symm.trans hn1
  obtain ⟨mk, methM, hnamed, hmethM, -, habM⟩ := Cond.instanceMethod_spec hinst
  obtain ⟨c2, r2, m2, q1, q2, q3, q4, kP, hkP, hkPi⟩ := Cond.selects_spec hsel
  cases hcB.symm.trans q1
  cases hf.symm.trans q2
  cases hnamed.symm.trans q3
  have hselP : selectMethod e.platform s.vm cell.cls r0 = .method mk := by rw [Launch.admits_selectMethod X.admits, hcls]; exact q4
  obtain ⟨vm₁, X₁, hstep₁⟩ := X.invokevirtualUp hexec hown hlink hsame howner hn hrm hstR (a := b) (cell := cell) hcell hobj hselP hmethM habM hkP hkPi (g := g) hg (argsL := argsL) (rest := rest) (hlen _ hsigR) hstack hdg
  obtain ⟨v, B, X', hS, hgr, hpost, hsteps⟩ := hK m meth c ⟨T.setVm vm₁, locs, cells, slots⟩ { g with stack := rest } (.invokevirtual index) mk (.ref b :: argsL).toArray X₁ hg hsize hdg hW (X₁.named hnamed) (hpre vm₁ X₁.warmed)
  exact ⟨v, vm₁, B, X₁.warmed, X', hS, hgr, hpost, (hstep₁ _ fun acts => by rw [doInvoke_state]; exact Steps.refl _).trans hsteps⟩
theorem s_up (X : Cx p l e R s m args below meth c Z EL kn y bytes maxL ret ws T h k n) {index : Nat} {C owner : String} {xx z : MethodName} {W ck sk : Nat} {a : Addr} {as' : List Value} {Qc : Option Value → Heap → List Addr → Prop} {ps : List FieldType} {rr : Option FieldType} {stk : List Value} {k' n' : Nat} (hd : decode bytes pc = .ok (.invokevirtual index, 3))
    (w1 : (Jvm.Cond.methodLink y.cls index xx).before a0 Z = true) (w2 : (Jvm.Cond.sameMethod xx.cls owner xx.name xx.desc).before a0 Z = true) (w3 : (Jvm.Cond.declares ⟨owner, xx.name, xx.desc⟩).before a0 Z = true) (w4 : (Jvm.Cond.selects C xx z).before a0 Z = true) (w5 : (Jvm.Cond.instanceMethod z).before a0 Z = true) (ho : owner ≠ "java/lang/invoke/MethodHandle" ∧ owner ≠ "java/lang/invoke/VarHandle") (hpd : parseMethodDescriptor xx.desc = some ⟨ps, rr⟩) (hlen : as'.length = ps.length) (E0 : Exa Z h a C)
    (P : Pay l R p e below s args Z EL kn ws z 3 W ck sk (.ref a :: as').toArray h Qc) (hW : (S.map fun v => v.category).sum ≤ W) (hsz : L.size = maxL) (hst : stk = as'.reverse ++ .ref a :: S) (hk' : k + ck ≤ k') (hn' : n + sk ≤ n') (hkR : k' ≤ R.cells) (hnR : n' ≤ R.slots) (hp : pc + 3 = pc')
    (K : ∀ T' h' v ws', Cx p l e R s m args below meth c Z EL kn y bytes maxL ret (ws' ++ ws) T' h' k' n' → h.size ≤ h'.size → Qc v h' ws' → Go p e below Q T' (mkF m pc' L (v.toList ++ S))) : Go p e below Q T (mkF m pc L stk) := by
  subst hp; subst hst
  obtain ⟨c0, vm0, k0, locs, St, eT, hZ, hown, hS, hk, N, H, hsf, E, hkn⟩ := X
  have hP := P vm0 hZ H.1 hsf E hkn
  have hZ' : Z.Warmed39 (s.setVm vm0).vm := hZ
  obtain ⟨cell, kc, h1, h2, h3, h4, -⟩ := E0
  obtain ⟨v, vm₁, B, hw, X', h2, hgr, ⟨L', ws', q1, q2, q3, q4, q5, q6, q7, q8⟩, st⟩ := upBackS St c0.1 hown (mvT hZ w1) (mvT hZ w2) (mvT hZ w3) ho (mvT hZ w4) (mvT hZ w5) hP (b := a) (cell := cell) (by rw [hZ'.alike.findClass]; exact h2) (by rw [eT]; exact h1) rfl (fun z h => by rw [h] at h4; cases h4) (g := mkF m pc L (as'.reverse ++ .ref a :: S)) rfl (hsz.trans c0.2.2.1.symm) (lenOf hpd hlen) rfl (by show 2 * 0 + _ ≤ _; omega) (hb c0.2.1 hd) (fun _ _ => ⟨rfl, eT, Nat.le_trans hk' hkR, Nat.le_trans hn' hnR⟩)
  obtain ⟨U, Lb, kb, nb⟩ := B
  dsimp only [Pt.U, Pt.locs, Pt.cells, Pt.slots] at X' h2 hgr q1 q2 q3 q4 q5 q6 q7 q8 st
  subst q4 q5 q6
  rw [eT] at hgr
  exact Go.of (fun t q => st.trans q) (K U U.heap v ws' ((after c0 X' hZ hown hS hk N H hsf hkn h2 hgr q2 q3 q7 q8).more hk' hn') hgr q1)
/-- Throwable.getCause() on an object that the walk has made -/
theorem gcPay {W : Nat} {a : Addr} {v0 : Value} (hEL : EW Z a0 EL) (wc : (Jvm.Cond.codeSync RoadKit.gcN RoadKit.gcB 1 (some (.object tN))).before a0 Z = true) (wi : (Jvm.Cond.instanceMethod RoadKit.gcN).before a0 Z = true) (wz : (Jvm.Cond.initialized tN).before a0 Z = true) (wf : (Jvm.Cond.fieldLink tN 7 tN "cause" thD).before a0 Z = true)
    (N : Unt h a) (F : Fld Z h a tN "cause" thD v0) (hv0 : v0.isRef = true) (hne : v0 ≠ .ref a) (hf : 1 ≤ R.frames) (hl : W + 12 ≤ R.locals) :
    Pay l R p e below s args Z EL kn ws RoadKit.gcN 3 W 0 0 #[.ref a] h (fun v h' ws' => v = some v0 ∧ h' = h ∧ ws' = []) := by
  have e0 : RoadKit.gcV a v0 = v0 := by rw [RoadKit.gcV, if_neg hne]
  refine Pay.of_back hEL (Q0 := fun v h' L => v = some v0 ∧ h' = h ∧ L = []) (fun vm0 hZ => ?_) (fun v h' L q => ?_)
  · refine Back.mono (RoadKit.gcBackPure (rm := { frames := 0, cells := 0, slots := 0, locals := 0 }) (s := s.setVm vm0) hZ wc wi wz wf N F hv0 (by show 0 + 1 ≤ _; omega) (by show W + (1 + 11) + 0 ≤ _; omega)) (fun A q r => r) ?_
    rintro A q v B - ⟨h1, h2, h3, h4, h5⟩
    rw [e0] at h1
    exact ⟨[], ⟨h1, h2, rfl⟩, by rw [h3, List.append_nil], h4, h5⟩
  · obtain ⟨rfl, rfl, rfl⟩ := q
    exact ⟨[], [], Keep.refl _ _, (fun x q => nomatch q), Fr.nil _, ⟨rfl, rfl, rfl⟩, fun x q => nomatch q⟩
end Up
end Own
end Jvm.Own
/- laws to paste: Road.backV, Road.lenW, Road.chN, Road.codOf (cut by pick.py; bodies as the Statement names them) -/
namespace Jvm.Pilot.@@N@@
namespace StrChars
open Jvm Sem ClassFile Op Lib Jvm.Stand Jvm.Free.XT Jvm.Free.ALB Jvm.Free.JM Jvm.Free
open Jvm.Lib.Cold (StaticIs)
/-- a char array whose places are chars -/
def Ch (a : Addr) (A : Cell) (U : State) : Prop := Arr .char a A U ∧ Typed .char A
theorem Ch.mv {a : Addr} {A : Cell} {U U' : State} (h : Ch a A U) (hal : U.vm.Alike U'.vm) (hh : U'.heap = U.heap) : Ch a A U' := ⟨h.1.mv hal hh, h.2⟩
theorem Ch.keep {a : Addr} {A : Cell} {U U' : State} (h : Ch a A U) (hal : U.vm.Alike U'.vm) (hk : U'.heap[a]? = some A) : Ch a A U' := ⟨h.1.keep hal hk, h.2⟩
/-- what place i of a char[]'s cell holds -/
def cv (A : Cell) (i : Nat) : Int32 := match A.slots[i]? with | some (.int x) => x | _ => 0
theorem Ch.get {a : Addr} {A : Cell} {U : State} (h : Ch a A U) {i : Nat} (hi : i < A.slots.size) : A.slots[i]? = some (.int (cv A i)) := by
  have e := Array.getElem?_eq_getElem hi
  have f := h.2 i _ e
  unfold cv; rw [e]
  generalize A.slots[i] = v at f
  cases v <;> simp [fits] at f ⊢
/-- the byte that i2b leaves of a char -/
def lo8 (x : Int32) : Int32 := x.toInt8.toInt32
theorem fits_lo8 (y : Int32) : fits .byte (.int (lo8 y)) = true := by
  have h1 := y.toInt8.le_toInt
  have h2 := y.toInt8.toInt_lt
  simp only [lo8, fits, Bool.and_eq_true, decide_eq_true_eq, Int32.le_iff_toInt_le, Int8.toInt_toInt32, show (-128 : Int32).toInt = -128 from by decide, show (127 : Int32).toInt = 127 from by decide]
  omega
/-- A' is A but that each place j of lo .. hi - 1 holds f j -/
def Laid (A A' : Cell) (lo hi : Nat) (f : Nat → Value) : Prop := A'.cls = A.cls ∧ A'.vm = A.vm ∧ A'.slots.size = A.slots.size ∧ ∀ i, A'.slots[i]? = if lo ≤ i ∧ i < hi then some (f i) else A.slots[i]?
theorem Laid.zero (A : Cell) (lo : Nat) (f : Nat → Value) : Laid A A lo (lo + 0) f := ⟨rfl, rfl, rfl, fun i => by rw [if_neg (by omega)]⟩
theorem Laid.step {A Ak : Cell} {lo k : Nat} {f : Nat → Value} {v : Value} (h : Laid A Ak lo k f) (hlo : lo ≤ k) (hk : k < Ak.slots.size) (hv : v = f k) : Laid A (Ak.setSlot k v) lo (k + 1) f := by
  refine ⟨h.1, h.2.1, by simpa [Cell.setSlot] using h.2.2.1, fun i => ?_⟩
  by_cases e : k = i
  · subst e; rw [Cell.slots_setSlot_self v hk, if_pos (by omega), hv]
  · rw [Cell.slots_setSlot_ne v e, h.2.2.2 i]
    by_cases q : lo ≤ i ∧ i < k
    · rw [if_pos q, if_pos (by omega)]
    · rw [if_neg q, if_neg (by omega)]
def U16 : String := "java/lang/StringUTF16"
namespace Cmp5
def yN : MethodName := ⟨"java/lang/StringUTF16", "compress", "([CI[BII)I"⟩
abbrev yB : ByteArray := jdk_52_method_21_code
theorem d0 : decode yB 0 = .ok (.iconst 0, 1) := by decide +kernel
theorem d1 : decode yB 1 = .ok (.istore 5, 2) := by decide +kernel
theorem d3 : decode yB 3 = .ok (.iload 5, 2) := by decide +kernel
theorem d5 : decode yB 5 = .ok (.iload 4, 2) := by decide +kernel
theorem d7 : decode yB 7 = .ok (.if_icmp (.ge) 37, 3) := by decide +kernel
theorem d10 : decode yB 10 = .ok (.aload_n 0, 1) := by decide +kernel
theorem d11 : decode yB 11 = .ok (.iload_n 1, 1) := by decide +kernel
theorem d12 : decode yB 12 = .ok (.caload, 1) := by decide +kernel
theorem d13 : decode yB 13 = .ok (.istore 6, 2) := by decide +kernel
theorem d15 : decode yB 15 = .ok (.iload 6, 2) := by decide +kernel
theorem d17 : decode yB 17 = .ok (.sipush 255, 3) := by decide +kernel
theorem d20 : decode yB 20 = .ok (.if_icmp (.le) 6, 3) := by decide +kernel
theorem d26 : decode yB 26 = .ok (.aload_n 2, 1) := by decide +kernel
theorem d27 : decode yB 27 = .ok (.iload_n 3, 1) := by decide +kernel
theorem d28 : decode yB 28 = .ok (.iload 6, 2) := by decide +kernel
theorem d30 : decode yB 30 = .ok (.i2b, 1) := by decide +kernel
theorem d31 : decode yB 31 = .ok (.bastore, 1) := by decide +kernel
theorem d32 : decode yB 32 = .ok (.iinc 1 1, 3) := by decide +kernel
theorem d35 : decode yB 35 = .ok (.iinc 3 1, 3) := by decide +kernel
theorem d38 : decode yB 38 = .ok (.iinc 5 1, 3) := by decide +kernel
theorem d41 : decode yB 41 = .ok (.goto (-38), 3) := by decide +kernel
theorem d44 : decode yB 44 = .ok (.iload 4, 2) := by decide +kernel
theorem d46 : decode yB 46 = .ok (.ireturn, 1) := by decide +kernel
def site : List Cond := []
def tab : Cond := tabOf yN yB 7 (some .int) site
def P (b : Addr) (A : Cell) (d : Addr) (B : Cell) (o q len : Nat) (args : Array Value) (s : State) : Prop := args = #[.ref b, .int (Int32.ofNat o), .ref d, .int (Int32.ofNat q), .int (Int32.ofNat len)] ∧ Ch b A s ∧ Arr .byte d B s ∧ b ≠ d ∧ o + len ≤ A.slots.size ∧ q + len ≤ B.slots.size ∧ ∀ i, i < len → ¬ 255 < cv A (o + i)
def E (b : Addr) (A : Cell) (d : Addr) (B : Cell) (o q len : Nat) (r : Option Value) (s u : State) : Prop := r = some (.int (Int32.ofNat len)) ∧ ∃ B', Put d B' s u ∧ Laid B B' q (q + len) (fun j => Value.int (lo8 (cv A (o + (j - q)))))
/-- no char of the range above 255: len; the places written hold each char's low byte -/
theorem law (l : Launch) (b : Addr) (A : Cell) (d : Addr) (B : Cell) (o q len : Nat) : Law l yN 5 5 0 0 yB 7 (some .int) site (P b A d B o q len) (E b A d B o q len) (copyLocs d q len) 0 0 := by
  refine Law.of_walk (plainFor_of_name (by decide +kernel)) (by decide +kernel) (by decide +kernel) (by decide) (fun _ _ h => by rw [h.1]; rfl) (fun _ U U' hal hh h => ⟨h.1, h.2.1.mv hal hh, h.2.2.1.mv hal hh, h.2.2.2⟩) (fun r U U' V V' h1 hal h2 h => ⟨h.1, h.2.elim fun B' q => ⟨B', q.1.mv h1 h2, q.2⟩⟩) ?_
  intro p e s m args below meth c s₁ X0 hexec hbytes hml hret hlk hnm hown hh0 W hP
  obtain ⟨rfl, hA, hB, hne, l1, l2, hp⟩ := hP
  have c1 : Steps p.tables e below (s₁.setTop (entryFrame m #[.ref b, .int (Int32.ofNat o), .ref d, .int (Int32.ofNat q), .int (Int32.ofNat len)] 7)) (s₁.setTop (mkF m 0 #[.val (.ref b), .val (.int (Int32.ofNat o)), .val (.ref d), .val (.int (Int32.ofNat q)), .val (.int (Int32.ofNat len)), .unset, .unset] [])) := entry rfl
  have hA0 := hA.1.mv X0.warmed.alike hh0
  have hB0 := hB.mv X0.warmed.alike hh0
  have a31 := hA.1.2.2.2
  have c2 : Steps p.tables e below (s₁.setTop (entryFrame m #[.ref b, .int (Int32.ofNat o), .ref d, .int (Int32.ofNat q), .int (Int32.ofNat len)] 7)) (s₁.setTop (mkF m 3 #[.val (.ref b), .val (.int (Int32.ofNat o)), .val (.ref d), .val (.int (Int32.ofNat q)), .val (.int (Int32.ofNat len)), .val (.int 0), .unset] [])) := c1.trans (by
    refine iconstV X0.here hexec rfl 0 (hb hbytes d0) (by decide) ?_
    refine XS.istore X0.here hexec rfl (hb hbytes d1) rfl rfl ?_
    exact Steps.refl _)
  have loop : ∀ (r i : Nat), i + r = len → ∀ (z : Slot), (z = .unset ∨ ∃ w, z = .val w ∧ w.category = 1) → ∀ (Tl : State) (Bk : Cell), Stand p l e { frames := 0, locals := 0, cells := 0, slots := 0 } s m #[.ref b, .int (Int32.ofNat o), .ref d, .int (Int32.ofNat q), .int (Int32.ofNat len)] below meth c Tl ([] ++ copyLocs d q i) 0 0 → Put d Bk s₁ Tl → Laid B Bk q (q + i) (fun j => Value.int (lo8 (cv A (o + (j - q))))) →
      Steps p.tables e below (s₁.setTop (entryFrame m #[.ref b, .int (Int32.ofNat o), .ref d, .int (Int32.ofNat q), .int (Int32.ofNat len)] 7)) (Tl.setTop (mkF m 3 #[.val (.ref b), .val (.int (Int32.ofNat (o + i))), .val (.ref d), .val (.int (Int32.ofNat (q + i))), .val (.int (Int32.ofNat len)), .val (.int (Int32.ofNat i)), z] [])) → ∃ (T' : State) (B' : Cell) (z' : Slot), Stand p l e { frames := 0, locals := 0, cells := 0, slots := 0 } s m #[.ref b, .int (Int32.ofNat o), .ref d, .int (Int32.ofNat q), .int (Int32.ofNat len)] below meth c T' ([] ++ copyLocs d q len) 0 0 ∧ Put d B' s₁ T' ∧ Laid B B' q (q + len) (fun j => Value.int (lo8 (cv A (o + (j - q))))) ∧
      Steps p.tables e below (s₁.setTop (entryFrame m #[.ref b, .int (Int32.ofNat o), .ref d, .int (Int32.ofNat q), .int (Int32.ofNat len)] 7)) (T'.setTop (mkF m 3 #[.val (.ref b), .val (.int (Int32.ofNat (o + len))), .val (.ref d), .val (.int (Int32.ofNat (q + len))), .val (.int (Int32.ofNat len)), .val (.int (Int32.ofNat len)), z'] [])) := by
    intro r
    induction r with
    | zero =>
      intro i hi z hz Tl Bk Xl pl fl cl
      have hil : i = len := by omega
      rw [hil] at Xl fl cl
      exact ⟨Tl, Bk, z, Xl, pl, fl, cl⟩
    | succ r ih =>
      intro i hi z hz Tl Bk Xl pl fl cl
      have all := X0.warmed.alike.symm.trans Xl.warmed.alike
      have hAl := hA0.keep all (pl.other hne hA0.1)
      have hBk := hB0.like all pl.1 fl.1 fl.2.1 fl.2.2.1
      have hlt : q + i < Bk.slots.size := by rw [fl.2.2.1]; omega
      have c3 : Steps p.tables e below (s₁.setTop (entryFrame m #[.ref b, .int (Int32.ofNat o), .ref d, .int (Int32.ofNat q), .int (Int32.ofNat len)] 7)) (Tl.setTop (mkF m 12 #[.val (.ref b), .val (.int (Int32.ofNat (o + i))), .val (.ref d), .val (.int (Int32.ofNat (q + i))), .val (.int (Int32.ofNat len)), .val (.int (Int32.ofNat i)), z] [.int (Int32.ofNat (o + i)), .ref b])) := cl.trans (by
        refine XS.iload Xl.here hexec rfl (hb hbytes d3) rfl ?_
        refine XS.iload Xl.here hexec rfl (hb hbytes d5) rfl ?_
        refine XS.icmpNo Xl.here hexec rfl (hb hbytes d7) rfl (ii_ge_f (lt32 (by omega) (by omega))) ?_
        refine XS.aloadN Xl.here hexec rfl (hb hbytes d10) rfl rfl ?_
        refine XS.iloadN Xl.here hexec rfl (hb hbytes d11) rfl ?_
        exact Steps.refl _)
      have c4 : Steps p.tables e below (s₁.setTop (entryFrame m #[.ref b, .int (Int32.ofNat o), .ref d, .int (Int32.ofNat q), .int (Int32.ofNat len)] 7)) (Tl.setTop (mkF m 13 #[.val (.ref b), .val (.int (Int32.ofNat (o + i))), .val (.ref d), .val (.int (Int32.ofNat (q + i))), .val (.int (Int32.ofNat len)), .val (.int (Int32.ofNat i)), z] [.int (cv A (o + i))])) := c3.trans (by
        refine Xl.aget hexec hAl rfl (hA.get (i := o + i) (by omega)) rfl rfl (hb hbytes d12) ?_
        exact Steps.refl _)
      have c5 : Steps p.tables e below (s₁.setTop (entryFrame m #[.ref b, .int (Int32.ofNat o), .ref d, .int (Int32.ofNat q), .int (Int32.ofNat len)] 7)) (Tl.setTop (mkF m 15 #[.val (.ref b), .val (.int (Int32.ofNat (o + i))), .val (.ref d), .val (.int (Int32.ofNat (q + i))), .val (.int (Int32.ofNat len)), .val (.int (Int32.ofNat i)), .val (.int (cv A (o + i)))] [])) := c4.trans (by
        refine XS.istoreS Xl.here hexec rfl (hb hbytes d13) rfl rfl hz ?_
        exact Steps.refl _)
      have c6 : Steps p.tables e below (s₁.setTop (entryFrame m #[.ref b, .int (Int32.ofNat o), .ref d, .int (Int32.ofNat q), .int (Int32.ofNat len)] 7)) (Tl.setTop (mkF m 31 #[.val (.ref b), .val (.int (Int32.ofNat (o + i))), .val (.ref d), .val (.int (Int32.ofNat (q + i))), .val (.int (Int32.ofNat len)), .val (.int (Int32.ofNat i)), .val (.int (cv A (o + i)))] [.int (lo8 (cv A (o + i))), .int (Int32.ofNat (q + i)), .ref d])) := c5.trans (by
        refine XS.iload Xl.here hexec rfl (hb hbytes d15) rfl ?_
        refine sipushV Xl.here hexec rfl 255 (hb hbytes d17) (by decide) ?_
        refine XS.icmpYes Xl.here hexec rfl (pc0 := 20) rfl (hb hbytes d20) rfl (ii_le_t (hp i (by omega))) (by decide) rfl ?_
        refine XS.aloadN Xl.here hexec rfl (hb hbytes d26) rfl rfl ?_
        refine XS.iloadN Xl.here hexec rfl (hb hbytes d27) rfl ?_
        refine XS.iload Xl.here hexec rfl (hb hbytes d28) rfl ?_
        refine i2b Xl.here hexec rfl (hb hbytes d30) rfl ?_
        exact Steps.refl _)
      obtain ⟨T7, X7, p7, st7⟩ := Xl.aput hexec hBk rfl hlt rfl (fits_lo8 (cv A (o + i))) (g := (mkF m 31 #[.val (.ref b), .val (.int (Int32.ofNat (o + i))), .val (.ref d), .val (.int (Int32.ofNat (q + i))), .val (.int (Int32.ofNat len)), .val (.int (Int32.ofNat i)), .val (.int (cv A (o + i)))] [.int (lo8 (cv A (o + i))), .int (Int32.ofNat (q + i)), .ref d])) rfl (rest := []) rfl (hb hbytes d31)
      have c8 : Steps p.tables e below (s₁.setTop (entryFrame m #[.ref b, .int (Int32.ofNat o), .ref d, .int (Int32.ofNat q), .int (Int32.ofNat len)] 7)) (T7.setTop (mkF m 32 #[.val (.ref b), .val (.int (Int32.ofNat (o + i))), .val (.ref d), .val (.int (Int32.ofNat (q + i))), .val (.int (Int32.ofNat len)), .val (.int (Int32.ofNat i)), .val (.int (cv A (o + i)))] [])) := c6.trans (st7 _ (Steps.refl _))
      have c9 : Steps p.tables e below (s₁.setTop (entryFrame m #[.ref b, .int (Int32.ofNat o), .ref d, .int (Int32.ofNat q), .int (Int32.ofNat len)] 7)) (T7.setTop (mkF m 3 #[.val (.ref b), .val (.int (Int32.ofNat (o + i) + 1)), .val (.ref d), .val (.int (Int32.ofNat (q + i) + 1)), .val (.int (Int32.ofNat len)), .val (.int (Int32.ofNat i + 1)), .val (.int (cv A (o + i)))] [])) := c8.trans (by
        refine iincV X7.here hexec rfl 1 (hb hbytes d32) (by decide) rfl rfl ?_
        refine iincV X7.here hexec rfl 1 (hb hbytes d35) (by decide) rfl rfl ?_
        refine iincV X7.here hexec rfl 1 (hb hbytes d38) (by decide) rfl rfl ?_
        refine XS.goto X7.here hexec rfl (pc0 := 41) rfl (hb hbytes d41) (by decide) rfl ?_
        exact Steps.refl _)
      have c10 : Steps p.tables e below (s₁.setTop (entryFrame m #[.ref b, .int (Int32.ofNat o), .ref d, .int (Int32.ofNat q), .int (Int32.ofNat len)] 7)) (T7.setTop (mkF m 3 #[.val (.ref b), .val (.int (Int32.ofNat (o + (i + 1)))), .val (.ref d), .val (.int (Int32.ofNat (q + (i + 1)))), .val (.int (Int32.ofNat len)), .val (.int (Int32.ofNat (i + 1))), .val (.int (cv A (o + i)))] [])) := by
        have := c9
        rw [succ32, succ32, succ32] at this
        exact this
      exact ih (i + 1) (by omega) _ (Or.inr ⟨_, rfl, rfl⟩) T7 _ (by rw [copyLocs_step, ← List.append_assoc]; exact X7) (pl.trans p7) (fl.step (by omega) hlt (by simp)) c10
  obtain ⟨T9, B9, z9, X9, p9, f9, g9⟩ := loop len 0 (by omega) .unset (Or.inl rfl) s₁ B (by simpa [copyLocs] using X0) ⟨hB0.1, fun _ _ => rfl, rfl⟩ (Laid.zero _ _ _) c2
  have c11 : Steps p.tables e below (s₁.setTop (entryFrame m #[.ref b, .int (Int32.ofNat o), .ref d, .int (Int32.ofNat q), .int (Int32.ofNat len)] 7)) (T9.setTop (mkF m 46 #[.val (.ref b), .val (.int (Int32.ofNat (o + len))), .val (.ref d), .val (.int (Int32.ofNat (q + len))), .val (.int (Int32.ofNat len)), .val (.int (Int32.ofNat len)), z9] [.int (Int32.ofNat len)])) := g9.trans (by
    refine XS.iload X9.here hexec rfl (hb hbytes d3) rfl ?_
    refine XS.iload X9.here hexec rfl (hb hbytes d5) rfl ?_
    refine XS.icmpYes X9.here hexec rfl (pc0 := 7) rfl (hb hbytes d7) rfl (ii_ge_t (nlt32 (by omega) (Nat.le_refl _))) (by decide) rfl ?_
    refine XS.iload X9.here hexec rfl (hb hbytes d44) rfl ?_
    exact Steps.refl _)
  exact ⟨T9, some (.int (Int32.ofNat len)), _, _, _, X9, by simp, rfl, rfl, (fun h => by cases h), ⟨rfl, B9, p9.from hh0, f9⟩, fun fs hl => c11.trans (X9.ireturnOut hexec hret rfl (Or.inl rfl) (hb hbytes d46) hl)⟩
end Cmp5
namespace Cmp3
def yN : MethodName := ⟨"java/lang/StringUTF16", "compress", "([CII)[B"⟩
abbrev yB : ByteArray := jdk_52_method_16_code
theorem d0 : decode yB 0 = .ok (.iload_n 2, 1) := by decide +kernel
theorem d1 : decode yB 1 = .ok (.newarray .byte, 2) := by decide +kernel
theorem d3 : decode yB 3 = .ok (.astore_n 3, 1) := by decide +kernel
theorem d4 : decode yB 4 = .ok (.aload_n 0, 1) := by decide +kernel
theorem d5 : decode yB 5 = .ok (.iload_n 1, 1) := by decide +kernel
theorem d6 : decode yB 6 = .ok (.aload_n 3, 1) := by decide +kernel
theorem d7 : decode yB 7 = .ok (.iconst 0, 1) := by decide +kernel
theorem d8 : decode yB 8 = .ok (.iload_n 2, 1) := by decide +kernel
theorem d9 : decode yB 9 = .ok (.invokestatic 115, 3) := by decide +kernel
theorem d12 : decode yB 12 = .ok (.istore 4, 2) := by decide +kernel
theorem d14 : decode yB 14 = .ok (.iload 4, 2) := by decide +kernel
theorem d16 : decode yB 16 = .ok (.iload_n 2, 1) := by decide +kernel
theorem d17 : decode yB 17 = .ok (.if_icmp (.eq) 40, 3) := by decide +kernel
theorem d57 : decode yB 57 = .ok (.aload_n 3, 1) := by decide +kernel
theorem d58 : decode yB 58 = .ok (.areturn, 1) := by decide +kernel
def site : List Cond := [.arrayClass .byte, Cmp5.tab] ++ staticW U16 115 Cmp5.yN
def tab : Cond := tabOf yN yB 6 (some (.array .byte)) site
def P (b : Addr) (A : Cell) (o len : Nat) (args : Array Value) (s : State) : Prop := args = #[.ref b, .int (Int32.ofNat o), .int (Int32.ofNat len)] ∧ Ch b A s ∧ o + len ≤ A.slots.size ∧ len ≤ 536870912 ∧ ∀ i, i < len → ¬ 255 < cv A (o + i)
def E (b : Addr) (A : Cell) (o len : Nat) (r : Option Value) (s u : State) : Prop := NewArr .byte "[B" len (fun j => .int (lo8 (cv A (o + j)))) r s u ∧ u.heap.size = s.heap.size + 1
/-- no char of the range above 255: a new byte[] of their low bytes -/
theorem law (l : Launch) (b : Addr) (A : Cell) (o len : Nat) : Law l yN 3 3 1 18 yB 6 (some (.array .byte)) site (P b A o len) (E b A o len) [] 1 len := by
  refine Law.of_walk (plainFor_of_name (by decide +kernel)) (by decide +kernel) (by decide +kernel) (by decide) (fun _ _ h => by rw [h.1]; rfl) (fun _ U U' hal hh h => ⟨h.1, h.2.1.mv hal hh, h.2.2⟩) (fun r U U' V V' h1 hal h2 h => ⟨NewArr.mv r U U' V V' h1 hal h2 h.1, by rw [h1, h2]; exact h.2⟩) ?_
  intro p e s m args below meth c s₁ X0 hexec hbytes hml hret hlk hnm hown hh0 W hP
  obtain ⟨rfl, hA, l1, l2, hp⟩ := hP
  have a31 := hA.1.2.2.2
  have c1 : Steps p.tables e below (s₁.setTop (entryFrame m #[.ref b, .int (Int32.ofNat o), .int (Int32.ofNat len)] 6)) (s₁.setTop (mkF m 0 #[.val (.ref b), .val (.int (Int32.ofNat o)), .val (.int (Int32.ofNat len)), .unset, .unset, .unset] [])) := entry rfl
  have c2 : Steps p.tables e below (s₁.setTop (entryFrame m #[.ref b, .int (Int32.ofNat o), .int (Int32.ofNat len)] 6)) (s₁.setTop (mkF m 1 #[.val (.ref b), .val (.int (Int32.ofNat o)), .val (.int (Int32.ofNat len)), .unset, .unset, .unset] [.int (Int32.ofNat len)])) := c1.trans (by
    refine XS.iloadN X0.here hexec rfl (hb hbytes d0) rfl ?_
    exact Steps.refl _)
  obtain ⟨T3, B3, X3, ba3, bs3, bv3, bh3, bf3, st3⟩ := X0.anew hexec (atype := .byte) (wk W (.arrayClass .byte)) rfl (by show len * 1 ≤ _; omega) (by omega) (g := (mkF m 1 #[.val (.ref b), .val (.int (Int32.ofNat o)), .val (.int (Int32.ofNat len)), .unset, .unset, .unset] [.int (Int32.ofNat len)])) rfl (hb hbytes d1) (rest := []) rfl (Nat.le_refl _) (by show 0 + len ≤ len; omega)
  rw [hh0] at ba3 st3
  have kp3 : XT.Kept s T3 := (XT.Kept.of_eq hh0).push bh3
  have hA3 := hA.keep X3.warmed.alike (kp3 _ _ hA.1.1)
  have hne : b ≠ s.heap.size := hA.1.ne
  have c4 : Steps p.tables e below (s₁.setTop (entryFrame m #[.ref b, .int (Int32.ofNat o), .int (Int32.ofNat len)] 6)) (T3.setTop (mkF m 3 #[.val (.ref b), .val (.int (Int32.ofNat o)), .val (.int (Int32.ofNat len)), .unset, .unset, .unset] [.ref s.heap.size])) := c2.trans (st3 _ (Steps.refl _))
  have c5 : Steps p.tables e below (s₁.setTop (entryFrame m #[.ref b, .int (Int32.ofNat o), .int (Int32.ofNat len)] 6)) (T3.setTop (mkF m 9 #[.val (.ref b), .val (.int (Int32.ofNat o)), .val (.int (Int32.ofNat len)), .val (.ref s.heap.size), .unset, .unset] [.int (Int32.ofNat len), .int 0, .ref s.heap.size, .int (Int32.ofNat o), .ref b])) := c4.trans (by
    refine XS.astoreN X3.here hexec rfl (hb hbytes d3) rfl rfl rfl ?_
    refine XS.aloadN X3.here hexec rfl (hb hbytes d4) rfl rfl ?_
    refine XS.iloadN X3.here hexec rfl (hb hbytes d5) rfl ?_
    refine XS.aloadN X3.here hexec rfl (hb hbytes d6) rfl rfl ?_
    refine iconstV X3.here hexec rfl 0 (hb hbytes d7) (by decide) ?_
    refine XS.iloadN X3.here hexec rfl (hb hbytes d8) rfl ?_
    exact Steps.refl _)
  obtain ⟨v6, T6, X6, E6, g6⟩ := X3.callS hexec (Cmp5.law l b A s.heap.size B3 o 0 len) hown (wks W (staticW U16 115 Cmp5.yN)) (wk W Cmp5.tab) (W := 0) (Nat.le_of_ble_eq_true rfl) (Nat.le_of_ble_eq_true rfl) (Nat.le_refl _) (by show 0 + len + 0 ≤ len; omega) (g := (mkF m 9 #[.val (.ref b), .val (.int (Int32.ofNat o)), .val (.int (Int32.ofNat len)), .val (.ref s.heap.size), .unset, .unset] [.int (Int32.ofNat len), .int (Int32.ofNat 0), .ref s.heap.size, .int (Int32.ofNat o), .ref b])) rfl (by rw [hml]; rfl) c5 (argsL := [.ref b, .int (Int32.ofNat o), .ref s.heap.size, .int (Int32.ofNat 0), .int (Int32.ofNat len)]) (rest := []) rfl rfl (by show 2 * 0 + 0 ≤ _; decide) (hb hbytes d9) (⟨rfl, hA3, ba3, hne, l1, by rw [bs3]; simp, hp⟩)
  obtain ⟨rfl, B6, p6, f6⟩ := E6
  have c7 : Steps p.tables e below (s₁.setTop (entryFrame m #[.ref b, .int (Int32.ofNat o), .int (Int32.ofNat len)] 6)) (T6.setTop (mkF m 12 #[.val (.ref b), .val (.int (Int32.ofNat o)), .val (.int (Int32.ofNat len)), .val (.ref s.heap.size), .unset, .unset] [.int (Int32.ofNat len)])) := g6
  have c8 : Steps p.tables e below (s₁.setTop (entryFrame m #[.ref b, .int (Int32.ofNat o), .int (Int32.ofNat len)] 6)) (T6.setTop (mkF m 58 #[.val (.ref b), .val (.int (Int32.ofNat o)), .val (.int (Int32.ofNat len)), .val (.ref s.heap.size), .val (.int (Int32.ofNat len)), .unset] [.ref s.heap.size])) := c7.trans (by
    refine XS.istore X6.here hexec rfl (hb hbytes d12) rfl rfl ?_
    refine XS.iload X6.here hexec rfl (hb hbytes d14) rfl ?_
    refine XS.iloadN X6.here hexec rfl (hb hbytes d16) rfl ?_
    refine XS.icmpYes X6.here hexec rfl (pc0 := 17) rfl (hb hbytes d17) rfl (ii_eq_t rfl) (by decide) rfl ?_
    refine XS.aloadN X6.here hexec rfl (hb hbytes d57) rfl rfl ?_
    exact Steps.refl _)
  have X8 := X6.wide (L' := []) (cells' := 1) (slots' := len) (fun x hx hlt => by
    simp only [List.nil_append, copyLocs, List.mem_map, List.mem_range] at hx
    obtain ⟨i, -, rfl⟩ := hx
    exact absurd hlt (Nat.lt_irrefl _)) (Nat.le_refl _) (by omega)
  exact ⟨T6, some (.ref s.heap.size), _, _, _, X8, rfl, rfl, rfl, (fun h => by cases h), ⟨⟨rfl, B6, ba3.like (X3.warmed.alike.symm.trans X6.warmed.alike) p6.1 f6.1 f6.2.1 f6.2.2.1, f6.2.1.trans bv3, by rw [X6.warmed.alike.findClass, f6.1]; exact bf3, by rw [f6.2.2.1, bs3]; simp, fun j hj => by rw [f6.2.2.2 j, if_pos (by omega)]; rfl, kp3.put p6 (Nat.le_refl _)⟩, by rw [p6.2.2, bh3, hh0]; simp⟩, fun fs hl => c8.trans (X8.areturnOut hexec rfl hret rfl (hb hbytes d58) hl)⟩
end Cmp3
namespace CodL
def yN : MethodName := ⟨"java/lang/StringUTF16", "coderFromArrayLen", "([BI)B"⟩
abbrev yB : ByteArray := jdk_52_method_15_code
theorem d0 : decode yB 0 = .ok (.iload_n 1, 1) := by decide +kernel
theorem d1 : decode yB 1 = .ok (.aload_n 0, 1) := by decide +kernel
theorem d2 : decode yB 2 = .ok (.arraylength, 1) := by decide +kernel
theorem d3 : decode yB 3 = .ok (.isub, 1) := by decide +kernel
theorem d4 : decode yB 4 = .ok (.bipush 31, 2) := by decide +kernel
theorem d6 : decode yB 6 = .ok (.iushr, 1) := by decide +kernel
theorem d7 : decode yB 7 = .ok (.i2b, 1) := by decide +kernel
theorem d8 : decode yB 8 = .ok (.ireturn, 1) := by decide +kernel
def site : List Cond := []
def tab : Cond := tabOf yN yB 2 (some .byte) site
def P (d : Addr) (B : Cell) (args : Array Value) (s : State) : Prop := args = #[.ref d, .int (Int32.ofNat B.slots.size)] ∧ Arr .byte d B s
def E (r : Option Value) (s u : State) : Prop := XT.PureE (some (.int 0)) r s u
/-- an array as long as the number of chars: LATIN1 -/
theorem law (l : Launch) (d : Addr) (B : Cell) : Law l yN 2 2 0 0 yB 2 (some .byte) site (P d B) E [] 0 0 := by
  refine Law.of_walk (plainFor_of_name (by decide +kernel)) (by decide +kernel) (by decide +kernel) (by decide) (fun _ _ h => by rw [h.1]; rfl) (fun _ U U' hal hh h => ⟨h.1, h.2.mv hal hh⟩) (fun r U U' V V' h1 hal h2 h => XT.PureE.mv r U U' V V' h1 hal h2 h) ?_
  intro p e s m args below meth c s₁ X0 hexec hbytes hml hret hlk hnm hown hh0 W hP
  obtain ⟨rfl, hB⟩ := hP
  have hB0 := hB.mv X0.warmed.alike hh0
  have c1 : Steps p.tables e below (s₁.setTop (entryFrame m #[.ref d, .int (Int32.ofNat B.slots.size)] 2)) (s₁.setTop (mkF m 0 #[.val (.ref d), .val (.int (Int32.ofNat B.slots.size))] [])) := entry rfl
  have c2 : Steps p.tables e below (s₁.setTop (entryFrame m #[.ref d, .int (Int32.ofNat B.slots.size)] 2)) (s₁.setTop (mkF m 2 #[.val (.ref d), .val (.int (Int32.ofNat B.slots.size))] [.ref d, .int (Int32.ofNat B.slots.size)])) := c1.trans (by
    refine XS.iloadN X0.here hexec rfl (hb hbytes d0) rfl ?_
    refine XS.aloadN X0.here hexec rfl (hb hbytes d1) rfl rfl ?_
    exact Steps.refl _)
  have c3 : Steps p.tables e below (s₁.setTop (entryFrame m #[.ref d, .int (Int32.ofNat B.slots.size)] 2)) (s₁.setTop (mkF m 8 #[.val (.ref d), .val (.int (Int32.ofNat B.slots.size))] [.int (lo8 (ushr (Int32.ofNat B.slots.size - Int32.ofNat B.slots.size) 31))])) := c2.trans (by
    refine X0.alen hexec hB0 rfl rfl (hb hbytes d2) ?_
    refine XS.isub X0.here hexec rfl (hb hbytes d3) rfl ?_
    refine bipushV X0.here hexec rfl 31 (hb hbytes d4) (by decide) ?_
    refine iushr X0.here hexec rfl (hb hbytes d6) rfl ?_
    refine i2b X0.here hexec rfl (hb hbytes d7) rfl ?_
    exact Steps.refl _)
  have e0 : lo8 (ushr (Int32.ofNat B.slots.size - Int32.ofNat B.slots.size) 31) = 0 := by rw [Int32.sub_self]; decide
  rw [e0] at c3
  exact ⟨s₁, some (.int 0), _, _, _, X0, rfl, rfl, rfl, (fun h => by cases h), ⟨rfl, hh0⟩, fun fs hl => c3.trans (X0.ireturnOut hexec hret rfl (Or.inr (Or.inr (Or.inl rfl))) (hb hbytes d8) hl)⟩
end CodL
/-- the String at a is Latin-1 over a new byte[] (the heap's one new cell): the low bytes of the len chars of A from o on; every cell but a is kept -/
def Got (a : Addr) (D : Cell) (fV fC : Field) (A : Cell) (o len : Nat) (r : Option Value) (s u : State) : Prop := r = none ∧ ∃ D' V : Cell, Blank "java/lang/String" a D' u ∧ Same D D' [fV.slot, fC.slot] ∧ D'.slots[fV.slot]? = some (.ref s.heap.size) ∧ D'.slots[fC.slot]? = some (.int 0) ∧ Arr .byte s.heap.size V u ∧ V.vm = .none ∧ u.vm.findClass "[B" = some V.cls ∧ V.slots.size = len ∧ (∀ j, j < len → V.slots[j]? = some (.int (lo8 (cv A (o + j))))) ∧ (∀ (y : Addr) (c : Cell), y ≠ a → s.heap[y]? = some c → u.heap[y]? = some c) ∧ u.heap.size = s.heap.size + 1
theorem Got.mv {a : Addr} {D A : Cell} {fV fC : Field} {o len : Nat} : ∀ r (U U' V V' : State), U'.heap = U.heap → V.vm.Alike V'.vm → V'.heap = V.heap → Got a D fV fC A o len r U V → Got a D fV fC A o len r U' V' :=
  fun r U U' V V' h1 hal h2 ⟨e0, D', X, a1, a2, a3, a4, a5, a6, a7, a8, a9, a10, a11⟩ => ⟨e0, D', X, a1.mv hal h2, a2, by rw [h1]; exact a3, a4, by rw [h1]; exact a5.mv hal h2, a6, by rw [hal.findClass]; exact a7, a8, a9, by rw [h1, h2]; exact a10, by rw [h1, h2]; exact a11⟩
namespace New4
def yN : MethodName := ⟨"java/lang/String", "<init>", "([CIILjava/lang/Void;)V"⟩
abbrev yB : ByteArray := jdk_42_method_149_code
theorem d0 : decode yB 0 = .ok (.aload_n 0, 1) := by decide +kernel
theorem d1 : decode yB 1 = .ok (.invokespecial 1, 3) := by decide +kernel
theorem d4 : decode yB 4 = .ok (.iload_n 3, 1) := by decide +kernel
theorem d5 : decode yB 5 = .ok (.ifCond (.ne) 22, 3) := by decide +kernel
theorem d27 : decode yB 27 = .ok (.getstatic 38, 3) := by decide +kernel
theorem d30 : decode yB 30 = .ok (.ifCond (.eq) 28, 3) := by decide +kernel
theorem d33 : decode yB 33 = .ok (.aload_n 1, 1) := by decide +kernel
theorem d34 : decode yB 34 = .ok (.iload_n 2, 1) := by decide +kernel
theorem d35 : decode yB 35 = .ok (.iload_n 3, 1) := by decide +kernel
theorem d36 : decode yB 36 = .ok (.invokestatic 177, 3) := by decide +kernel
theorem d39 : decode yB 39 = .ok (.astore 5, 2) := by decide +kernel
theorem d41 : decode yB 41 = .ok (.aload_n 0, 1) := by decide +kernel
theorem d42 : decode yB 42 = .ok (.aload 5, 2) := by decide +kernel
theorem d44 : decode yB 44 = .ok (.iload_n 3, 1) := by decide +kernel
theorem d45 : decode yB 45 = .ok (.invokestatic 47, 3) := by decide +kernel
theorem d48 : decode yB 48 = .ok (.putfield 15, 3) := by decide +kernel
theorem d51 : decode yB 51 = .ok (.aload_n 0, 1) := by decide +kernel
theorem d52 : decode yB 52 = .ok (.aload 5, 2) := by decide +kernel
theorem d54 : decode yB 54 = .ok (.putfield 9, 3) := by decide +kernel
theorem d57 : decode yB 57 = .ok (.return_, 1) := by decide +kernel
def site : List Cond := [.fieldLink "java/lang/String" 38 "java/lang/String" "COMPACT_STRINGS" "Z", Cmp3.tab, CodL.tab, .laysFinal "java/lang/String" "java/lang/String" "value" "[B", .fieldLink "java/lang/String" 9 "java/lang/String" "value" "[B", .laysFinal "java/lang/String" "java/lang/String" "coder" "B", .fieldLink "java/lang/String" 15 "java/lang/String" "coder" "B"] ++ objW "java/lang/String" 1 ++ staticW "java/lang/String" 177 Cmp3.yN ++ staticW "java/lang/String" 47 CodL.yN
def tab : Cond := tabOf yN yB 6 none site
def P (a : Addr) (D : Cell) (fV fC : Field) (b : Addr) (A : Cell) (z : Int32) (o len : Nat) (args : Array Value) (s : State) : Prop := args = #[.ref a, .ref b, .int (Int32.ofNat o), .int (Int32.ofNat len), .null] ∧ Blank "java/lang/String" a D s ∧ Found "java/lang/String" "value" "[B" fV s ∧ Found "java/lang/String" "coder" "B" fC s ∧ Ch b A s ∧ StaticIs s "java/lang/String" "COMPACT_STRINGS" "Z" (.int z) ∧ ¬ z = 0 ∧ 0 < len ∧ o + len ≤ A.slots.size ∧ len ≤ 536870912 ∧ ∀ i, i < len → ¬ 255 < cv A (o + i)
def E (a : Addr) (D : Cell) (fV fC : Field) (A : Cell) (o len : Nat) (r : Option Value) (s u : State) : Prop := Got a D fV fC A o len r s u
/-- len > 0, no char of the range above 255: a Latin-1 String of their low bytes -/
theorem law (l : Launch) (a : Addr) (D : Cell) (fV fC : Field) (b : Addr) (A : Cell) (z : Int32) (o len : Nat) : Law l yN 5 4 2 35 yB 6 none site (P a D fV fC b A z o len) (E a D fV fC A o len) [⟨a, fC.slot⟩, ⟨a, fV.slot⟩] 1 len := by
  refine Law.of_walk (plainFor_of_name (by decide +kernel)) (by decide +kernel) (by decide +kernel) (by decide) (fun _ _ h => by rw [h.1]; rfl) (fun _ U U' hal hh h => ⟨h.1, h.2.1.mv hal hh, h.2.2.1.al hal, h.2.2.2.1.al hal, h.2.2.2.2.1.mv hal hh, h.2.2.2.2.2.1.there hal hh, h.2.2.2.2.2.2⟩) (fun r U U' V V' h1 hal h2 h => Got.mv r U U' V V' h1 hal h2 h) ?_
  intro p e s m args below meth c s₁ X0 hexec hbytes hml hret hlk hnm hown hh0 W hP
  obtain ⟨rfl, hB, f1, f2, hA, s1, hz, l0, l1, l2, hp⟩ := hP
  have a31 := hA.1.2.2.2
  have c1 : Steps p.tables e below (s₁.setTop (entryFrame m #[.ref a, .ref b, .int (Int32.ofNat o), .int (Int32.ofNat len), .null] 6)) (s₁.setTop (mkF m 0 #[.val (.ref a), .val (.ref b), .val (.int (Int32.ofNat o)), .val (.int (Int32.ofNat len)), .val .null, .unset] [])) := entry rfl
  have c2 : Steps p.tables e below (s₁.setTop (entryFrame m #[.ref a, .ref b, .int (Int32.ofNat o), .int (Int32.ofNat len), .null] 6)) (s₁.setTop (mkF m 1 #[.val (.ref a), .val (.ref b), .val (.int (Int32.ofNat o)), .val (.int (Int32.ofNat len)), .val .null, .unset] [.ref a])) := c1.trans (by
    refine XS.aloadN X0.here hexec rfl (hb hbytes d0) rfl rfl ?_
    exact Steps.refl _)
  obtain ⟨T3, X3, q3, st3⟩ := X0.oinit hexec hown (wks W (objW "java/lang/String" 1)) (g := (mkF m 1 #[.val (.ref a), .val (.ref b), .val (.int (Int32.ofNat o)), .val (.int (Int32.ofNat len)), .val .null, .unset] [.ref a])) rfl (by rw [hml]; rfl) (rest := []) rfl (hb hbytes d1) (W := 0) (by show 2 * 0 + 0 ≤ _; decide) (Nat.le_of_ble_eq_true rfl) (Nat.le_of_ble_eq_true rfl)
  have hh3 := q3.trans hh0
  have c4 : Steps p.tables e below (s₁.setTop (entryFrame m #[.ref a, .ref b, .int (Int32.ofNat o), .int (Int32.ofNat len), .null] 6)) (T3.setTop (mkF m 27 #[.val (.ref a), .val (.ref b), .val (.int (Int32.ofNat o)), .val (.int (Int32.ofNat len)), .val .null, .unset] [])) := (c2.trans (st3 _ (Steps.refl _))).trans (by
    refine XS.iloadN X3.here hexec rfl (hb hbytes d4) rfl ?_
    refine XS.ifYes X3.here hexec rfl (pc0 := 5) rfl (hb hbytes d5) rfl (i0_ne_t (nz32 (by omega) l0)) (by decide) rfl ?_
    exact Steps.refl _)
  obtain ⟨T5, X5, q5, st5⟩ := X3.sget hexec hown (wk W (.fieldLink "java/lang/String" 38 "java/lang/String" "COMPACT_STRINGS" "Z")) s1 (fun _ _ h => by rw [hh3]; exact h) (g := (mkF m 27 #[.val (.ref a), .val (.ref b), .val (.int (Int32.ofNat o)), .val (.int (Int32.ofNat len)), .val .null, .unset] [])) rfl (hb hbytes d27)
  have hh5 := q5.trans hh3
  have c6 : Steps p.tables e below (s₁.setTop (entryFrame m #[.ref a, .ref b, .int (Int32.ofNat o), .int (Int32.ofNat len), .null] 6)) (T5.setTop (mkF m 30 #[.val (.ref a), .val (.ref b), .val (.int (Int32.ofNat o)), .val (.int (Int32.ofNat len)), .val .null, .unset] [.int z])) := c4.trans (st5 _ (Steps.refl _))
  have c7 : Steps p.tables e below (s₁.setTop (entryFrame m #[.ref a, .ref b, .int (Int32.ofNat o), .int (Int32.ofNat len), .null] 6)) (T5.setTop (mkF m 36 #[.val (.ref a), .val (.ref b), .val (.int (Int32.ofNat o)), .val (.int (Int32.ofNat len)), .val .null, .unset] [.int (Int32.ofNat len), .int (Int32.ofNat o), .ref b])) := c6.trans (by
    refine XS.ifNo X5.here hexec rfl (hb hbytes d30) rfl (i0_eq_f hz) ?_
    refine XS.aloadN X5.here hexec rfl (hb hbytes d33) rfl rfl ?_
    refine XS.iloadN X5.here hexec rfl (hb hbytes d34) rfl ?_
    refine XS.iloadN X5.here hexec rfl (hb hbytes d35) rfl ?_
    exact Steps.refl _)
  obtain ⟨v8, T8, X8, E8, g8⟩ := X5.callS hexec (Cmp3.law l b A o len) hown (wks W (staticW "java/lang/String" 177 Cmp3.yN)) (wk W Cmp3.tab) (W := 0) (Nat.le_of_ble_eq_true rfl) (Nat.le_of_ble_eq_true rfl) (Nat.le_refl _) (by show 0 + len ≤ len; omega) (g := (mkF m 36 #[.val (.ref a), .val (.ref b), .val (.int (Int32.ofNat o)), .val (.int (Int32.ofNat len)), .val .null, .unset] [.int (Int32.ofNat len), .int (Int32.ofNat o), .ref b])) rfl (by rw [hml]; rfl) c7 (argsL := [.ref b, .int (Int32.ofNat o), .int (Int32.ofNat len)]) (rest := []) rfl rfl (by show 2 * 0 + 0 ≤ _; decide) (hb hbytes d36) (⟨rfl, hA.mv X5.warmed.alike hh5, l1, l2, hp⟩)
  obtain ⟨e8, z8⟩ := E8
  obtain ⟨rfl, N, n1, n2, n3, n4, n5, n6⟩ := NewArr.mv _ T5 s _ _ hh5.symm (Vm.Alike.refl _) rfl e8
  rw [hh5] at z8
  have hB1 := hB.keep X8.warmed.alike (n6 _ _ hB.1)
  have hne : s.heap.size ≠ a := (Nat.ne_of_lt (Array.getElem?_eq_some_iff.mp hB.1).1).symm
  have c9 : Steps p.tables e below (s₁.setTop (entryFrame m #[.ref a, .ref b, .int (Int32.ofNat o), .int (Int32.ofNat len), .null] 6)) (T8.setTop (mkF m 39 #[.val (.ref a), .val (.ref b), .val (.int (Int32.ofNat o)), .val (.int (Int32.ofNat len)), .val .null, .unset] [.ref s.heap.size])) := g8
  have c10 : Steps p.tables e below (s₁.setTop (entryFrame m #[.ref a, .ref b, .int (Int32.ofNat o), .int (Int32.ofNat len), .null] 6)) (T8.setTop (mkF m 45 #[.val (.ref a), .val (.ref b), .val (.int (Int32.ofNat o)), .val (.int (Int32.ofNat len)), .val .null, .val (.ref s.heap.size)] [.int (Int32.ofNat N.slots.size), .ref s.heap.size, .ref a])) := by
    have hc : Steps p.tables e below (s₁.setTop (entryFrame m #[.ref a, .ref b, .int (Int32.ofNat o), .int (Int32.ofNat len), .null] 6)) (T8.setTop (mkF m 45 #[.val (.ref a), .val (.ref b), .val (.int (Int32.ofNat o)), .val (.int (Int32.ofNat len)), .val .null, .val (.ref s.heap.size)] [.int (Int32.ofNat len), .ref s.heap.size, .ref a])) := c9.trans (by
      refine XS.astore X8.here hexec rfl (hb hbytes d39) rfl rfl rfl ?_
      refine XS.aloadN X8.here hexec rfl (hb hbytes d41) rfl rfl ?_
      refine XS.aload X8.here hexec rfl (hb hbytes d42) rfl rfl ?_
      refine XS.iloadN X8.here hexec rfl (hb hbytes d44) rfl ?_
      exact Steps.refl _)
    rw [n4]; exact hc
  obtain ⟨v11, T11, X11, E11, g11⟩ := X8.callS hexec (CodL.law l s.heap.size N) hown (wks W (staticW "java/lang/String" 47 CodL.yN)) (wk W CodL.tab) (W := 1) (Nat.le_of_ble_eq_true rfl) (Nat.le_of_ble_eq_true rfl) (Nat.le_refl _) (by show 0 + len + 0 ≤ len; omega) (g := (mkF m 45 #[.val (.ref a), .val (.ref b), .val (.int (Int32.ofNat o)), .val (.int (Int32.ofNat len)), .val .null, .val (.ref s.heap.size)] [.int (Int32.ofNat N.slots.size), .ref s.heap.size, .ref a])) rfl (by rw [hml]; rfl) c10 (argsL := [.ref s.heap.size, .int (Int32.ofNat N.slots.size)]) (rest := [.ref a]) rfl rfl (by show 2 * 0 + (1 + 0) ≤ _; decide) (hb hbytes d45) (⟨rfl, n1⟩)
  obtain ⟨rfl, q11⟩ := E11
  have hB11 := hB1.mv (X8.warmed.alike.symm.trans X11.warmed.alike) q11
  have c12 : Steps p.tables e below (s₁.setTop (entryFrame m #[.ref a, .ref b, .int (Int32.ofNat o), .int (Int32.ofNat len), .null] 6)) (T11.setTop (mkF m 48 #[.val (.ref a), .val (.ref b), .val (.int (Int32.ofNat o)), .val (.int (Int32.ofNat len)), .val .null, .val (.ref s.heap.size)] [.int 0, .ref a])) := g11
  obtain ⟨T13, X13, p13, bl13, sl13, st13⟩ := X11.finit hexec hown (wk W (.fieldLink "java/lang/String" 15 "java/lang/String" "coder" "B")) (Or.inr ⟨_, (wk W (.laysFinal "java/lang/String" "java/lang/String" "coder" "B"))⟩) (Or.inl ⟨rfl, hnm⟩) f2 (Or.inl rfl) hB11 (t := .byte) (by decide +kernel) rfl (g := (mkF m 48 #[.val (.ref a), .val (.ref b), .val (.int (Int32.ofNat o)), .val (.int (Int32.ofNat len)), .val .null, .val (.ref s.heap.size)] [.int 0, .ref a])) rfl (rest := []) rfl (hb hbytes d48)
  have c14 : Steps p.tables e below (s₁.setTop (entryFrame m #[.ref a, .ref b, .int (Int32.ofNat o), .int (Int32.ofNat len), .null] 6)) (T13.setTop (mkF m 54 #[.val (.ref a), .val (.ref b), .val (.int (Int32.ofNat o)), .val (.int (Int32.ofNat len)), .val .null, .val (.ref s.heap.size)] [.ref s.heap.size, .ref a])) := (c12.trans (st13 _ (Steps.refl _))).trans (by
    refine XS.aloadN X13.here hexec rfl (hb hbytes d51) rfl rfl ?_
    refine XS.aload X13.here hexec rfl (hb hbytes d52) rfl rfl ?_
    exact Steps.refl _)
  obtain ⟨T15, X15, p15, bl15, sl15, st15⟩ := X13.finit hexec hown (wk W (.fieldLink "java/lang/String" 9 "java/lang/String" "value" "[B")) (Or.inr ⟨_, (wk W (.laysFinal "java/lang/String" "java/lang/String" "value" "[B"))⟩) (Or.inl ⟨rfl, hnm⟩) f1 (Or.inl rfl) bl13 (t := (.array .byte)) (by decide +kernel) rfl (g := (mkF m 54 #[.val (.ref a), .val (.ref b), .val (.int (Int32.ofNat o)), .val (.int (Int32.ofNat len)), .val .null, .val (.ref s.heap.size)] [.ref s.heap.size, .ref a])) rfl (rest := []) rfl (hb hbytes d54)
  have c16 : Steps p.tables e below (s₁.setTop (entryFrame m #[.ref a, .ref b, .int (Int32.ofNat o), .int (Int32.ofNat len), .null] 6)) (T15.setTop (mkF m 57 #[.val (.ref a), .val (.ref b), .val (.int (Int32.ofNat o)), .val (.int (Int32.ofNat len)), .val .null, .val (.ref s.heap.size)] [])) := c14.trans (st15 _ (Steps.refl _))
  have ap := apart (Or.inr ⟨_, (wk W (.laysFinal "java/lang/String" "java/lang/String" "value" "[B"))⟩) (Or.inr ⟨_, (wk W (.laysFinal "java/lang/String" "java/lang/String" "coder" "B"))⟩) f1 f2 (t₁ := .array .byte) (t₂ := .byte) (by decide +kernel) (by decide +kernel) (by decide)
  have al := X8.warmed.alike.symm.trans X15.warmed.alike
  have n7 : T11.heap[s.heap.size]? = some N := by rw [q11]; exact n1.1
  exact ⟨T15, none, _, _, _, X15, by simp, rfl, by omega, (fun _ => rfl), ⟨rfl, _, N, bl15, ((Same.refl D _).set _ (by simp)).set _ (by simp), sl15, (Cell.slots_setSlot_ne _ ap).trans sl13, n1.keep al (p15.other hne (p13.other hne n7)), n2, by rw [al.findClass]; exact n3, n4, n5, fun y c h1 h2 => p15.other h1 (p13.other h1 (by rw [q11]; exact n6 y c h2)), by rw [p15.2.2, p13.2.2, q11]; exact z8⟩, fun fs hl => c16.trans (X15.returnOut hexec hret (hb hbytes d57) hl)⟩
end New4
namespace New1
def yN : MethodName := ⟨"java/lang/String", "<init>", "([C)V"⟩
abbrev yB : ByteArray := jdk_42_method_3_code
theorem d0 : decode yB 0 = .ok (.aload_n 0, 1) := by decide +kernel
theorem d1 : decode yB 1 = .ok (.aload_n 1, 1) := by decide +kernel
theorem d2 : decode yB 2 = .ok (.iconst 0, 1) := by decide +kernel
theorem d3 : decode yB 3 = .ok (.aload_n 1, 1) := by decide +kernel
theorem d4 : decode yB 4 = .ok (.arraylength, 1) := by decide +kernel
theorem d5 : decode yB 5 = .ok (.aconst_null, 1) := by decide +kernel
theorem d6 : decode yB 6 = .ok (.invokespecial 27, 3) := by decide +kernel
theorem d9 : decode yB 9 = .ok (.return_, 1) := by decide +kernel
def site : List Cond := [New4.tab] ++ initW "java/lang/String" 27 New4.yN
def tab : Cond := tabOf yN yB 2 none site
def P (a : Addr) (D : Cell) (fV fC : Field) (b : Addr) (A : Cell) (z : Int32) (args : Array Value) (s : State) : Prop := args = #[.ref a, .ref b] ∧ Blank "java/lang/String" a D s ∧ Found "java/lang/String" "value" "[B" fV s ∧ Found "java/lang/String" "coder" "B" fC s ∧ Ch b A s ∧ StaticIs s "java/lang/String" "COMPACT_STRINGS" "Z" (.int z) ∧ ¬ z = 0 ∧ 0 < A.slots.size ∧ A.slots.size ≤ 536870912 ∧ ∀ i, i < A.slots.size → ¬ 255 < cv A i
def E (a : Addr) (D : Cell) (fV fC : Field) (A : Cell) (r : Option Value) (s u : State) : Prop := Got a D fV fC A 0 A.slots.size r s u
/-- new String(chars), not empty, no char above 255: a Latin-1 String of their low bytes -/
theorem law (l : Launch) (a : Addr) (D : Cell) (fV fC : Field) (b : Addr) (A : Cell) (z : Int32) : Law l yN 2 1 3 52 yB 2 none site (P a D fV fC b A z) (E a D fV fC A) [⟨a, fC.slot⟩, ⟨a, fV.slot⟩] 1 A.slots.size := by
  refine Law.of_walk (plainFor_of_name (by decide +kernel)) (by decide +kernel) (by decide +kernel) (by decide) (fun _ _ h => by rw [h.1]; rfl) (fun _ U U' hal hh h => ⟨h.1, h.2.1.mv hal hh, h.2.2.1.al hal, h.2.2.2.1.al hal, h.2.2.2.2.1.mv hal hh, h.2.2.2.2.2.1.there hal hh, h.2.2.2.2.2.2⟩) (fun r U U' V V' h1 hal h2 h => Got.mv r U U' V V' h1 hal h2 h) ?_
  intro p e s m args below meth c s₁ X0 hexec hbytes hml hret hlk hnm hown hh0 W hP
  obtain ⟨rfl, hB, f1, f2, hA, s1, hz, l0, l2, hp⟩ := hP
  have c1 : Steps p.tables e below (s₁.setTop (entryFrame m #[.ref a, .ref b] 2)) (s₁.setTop (mkF m 0 #[.val (.ref a), .val (.ref b)] [])) := entry rfl
  have c2 : Steps p.tables e below (s₁.setTop (entryFrame m #[.ref a, .ref b] 2)) (s₁.setTop (mkF m 6 #[.val (.ref a), .val (.ref b)] [.null, .int (Int32.ofNat A.slots.size), .int 0, .ref b, .ref a])) := c1.trans (by
    refine XS.aloadN X0.here hexec rfl (hb hbytes d0) rfl rfl ?_
    refine XS.aloadN X0.here hexec rfl (hb hbytes d1) rfl rfl ?_
    refine iconstV X0.here hexec rfl 0 (hb hbytes d2) (by decide) ?_
    refine XS.aloadN X0.here hexec rfl (hb hbytes d3) rfl rfl ?_
    refine X0.alen hexec (hA.1.mv X0.warmed.alike hh0) rfl rfl (hb hbytes d4) ?_
    refine XS.aconstNull X0.here hexec rfl (hb hbytes d5) ?_
    exact Steps.refl _)
  obtain ⟨v3, T3, X3, E3, g3⟩ := X0.callN hexec (New4.law l a D fV fC b A z 0 A.slots.size) rfl hown (wks W (initW "java/lang/String" 27 New4.yN)) (W New4.tab (by simp only [site, List.mem_cons, List.mem_append, true_or, or_true])) (W := 0) (Nat.le_of_ble_eq_true rfl) (Nat.le_of_ble_eq_true rfl) (Nat.le_refl _) (by show 0 + A.slots.size ≤ A.slots.size; omega) (g := (mkF m 6 #[.val (.ref a), .val (.ref b)] [.null, .int (Int32.ofNat A.slots.size), .int (Int32.ofNat 0), .ref b, .ref a])) rfl (by rw [hml]; rfl) c2 (argsL := [.ref b, .int (Int32.ofNat 0), .int (Int32.ofNat A.slots.size), .null]) (rest := []) rfl rfl (by show 2 * 0 + 0 ≤ _; decide) (hb hbytes d6) (⟨rfl, hB.mv X0.warmed.alike hh0, f1.al X0.warmed.alike, f2.al X0.warmed.alike, hA.mv X0.warmed.alike hh0, s1.there X0.warmed.alike hh0, hz, l0, by omega, l2, fun i hi => by rw [Nat.zero_add]; exact hp i hi⟩)
  have e0 := Got.mv _ s₁ s _ _ hh0.symm (Vm.Alike.refl _) rfl E3
  obtain rfl := e0.1
  have c4 : Steps p.tables e below (s₁.setTop (entryFrame m #[.ref a, .ref b] 2)) (T3.setTop (mkF m 9 #[.val (.ref a), .val (.ref b)] [])) := g3
  exact ⟨T3, none, _, _, _, X3, by simp, rfl, by omega, (fun _ => rfl), e0, fun fs hl => c4.trans (X3.returnOut hexec hret (hb hbytes d9) hl)⟩
theorem pays {l : Launch} {R : Room} {p : Program} {e : Env} {below : List Frame} {s : State} {sargs : Array Value} {len W : Nat} (a : Addr) (D : Cell) (fV fC : Field) (b : Addr) (A : Cell) (z : Int32) (htab : tab.before sargs s = true) (hfr : 4 ≤ R.frames) (hlo : W + 65 ≤ R.locals) :
    Back l R p e below s sargs yN len W (fun A₁ a₁ => A₁.cells + 1 ≤ R.cells ∧ A₁.slots + A.slots.size ≤ R.slots ∧ P a D fV fC b A z a₁ A₁.U) (fun A₁ _ v₁ B₁ => E a D fV fC A v₁ A₁.U B₁.U ∧ B₁.locs = A₁.locs ++ [⟨a, fC.slot⟩, ⟨a, fV.slot⟩] ∧ B₁.cells = A₁.cells + 1 ∧ B₁.slots = A₁.slots + A.slots.size) :=
  (law l a D fV fC b A z).pays htab hfr (by omega)
end New1
/-- the byte, read back as charAt reads it, is the char -/
theorem lo8_mask {x : Int32} (h0 : ¬ x < 0) (h1 : ¬ 255 < x) : lo8 x &&& 255 = x := by
  have t : ∀ k : Fin 256, lo8 (Int32.ofNat k.val) &&& 255 = Int32.ofNat k.val := by decide +kernel
  rw [Int32.lt_iff_toInt_lt] at h0 h1
  have e0 : (0 : Int32).toInt = 0 := rfl
  have e1 : (255 : Int32).toInt = 255 := rfl
  obtain ⟨k, hk⟩ : ∃ k : Nat, x.toInt = k := ⟨x.toInt.toNat, by omega⟩
  have hx : x = Int32.ofNat k := Int32.toInt_inj.mp (by rw [hk, Int32.toInt_ofNat_small (by omega)])
  rw [hx]
  exact t ⟨k, by omega⟩
end StrChars
namespace StrChars.Road
open Jvm Sem ClassFile Op Lib Jvm.Stand Jvm.Free Jvm.Free.XT
open Jvm.Lib.Cold (StaticIs)
abbrev ST : String := "java/lang/String"
/-- every table word that New1's law asks, flat -/
abbrev words : List Jvm.Cond := [.code New1.yN New1.yB 2 none, .initialized ST, .methodLink ST 27 New4.yN, .instanceMethod New4.yN,
  .code New4.yN New4.yB 6 none, .fieldLink ST 38 ST "COMPACT_STRINGS" "Z", .laysFinal ST ST "value" "[B", .fieldLink ST 9 ST "value" "[B", .laysFinal ST ST "coder" "B", .fieldLink ST 15 ST "coder" "B",
  .methodLink ST 1 Lib.objectInit, .instanceMethod Lib.objectInit, .code Lib.objectInit ⟨#[0xb1]⟩ 1 none, .methodLink ST 177 Cmp3.yN, .static Cmp3.yN, .methodLink ST 47 CodL.yN, .static CodL.yN,
  .code Cmp3.yN Cmp3.yB 6 (some (.array .byte)), .initialized U16, .arrayClass .byte, .methodLink U16 115 Cmp5.yN, .static Cmp5.yN, .code Cmp5.yN Cmp5.yB 7 (some .int), .code CodL.yN CodL.yB 2 (some .byte)]
theorem tab_of {a : Array Value} {s : State} (h : ∀ w ∈ words, w.before a s = true) : New1.tab.before a s = true := by
  have h5 : Cmp5.tab.before a s = true := unparts (wk h (.code Cmp5.yN Cmp5.yB 7 (some .int))) (wks h (.initialized Cmp5.yN.cls :: Cmp5.site))
  have hc : CodL.tab.before a s = true := unparts (wk h (.code CodL.yN CodL.yB 2 (some .byte))) (wks h (.initialized CodL.yN.cls :: CodL.site))
  have q5 : ∀ w ∈ Cmp5.tab :: words, w.before a s = true := fun w hw => (List.mem_cons.mp hw).elim (fun e => e ▸ h5) (h w)
  have h3 : Cmp3.tab.before a s = true := unparts (wk q5 (.code Cmp3.yN Cmp3.yB 6 (some (.array .byte)))) (wks q5 (.initialized Cmp3.yN.cls :: Cmp3.site))
  have q3 : ∀ w ∈ Cmp3.tab :: CodL.tab :: words, w.before a s = true := fun w hw => (List.mem_cons.mp hw).elim (fun e => e ▸ h3) fun hw => (List.mem_cons.mp hw).elim (fun e => e ▸ hc) (h w)
  have h4 : New4.tab.before a s = true := unparts (wk q3 (.code New4.yN New4.yB 6 none)) (wks q3 (.initialized New4.yN.cls :: New4.site))
  have q4 : ∀ w ∈ New4.tab :: words, w.before a s = true := fun w hw => (List.mem_cons.mp hw).elim (fun e => e ▸ h4) (h w)
  exact unparts (wk q4 (.code New1.yN New1.yB 2 none)) (wks q4 (.initialized New1.yN.cls :: New1.site))
/-- the words ride from the start Z to the walk's own state -/
theorem moved {Z s : State} {a0 args : Array Value} (hZ : Z.Warmed39 s.vm) (hw : ∀ d ∈ words, d.before a0 Z = true) : ∀ d ∈ words, d.before args s = true := fun d hd => by
  have q := hw d hd
  have t : ∀ d ∈ words, d = .arrayClass .byte ∨ (d.onTables && d.keepsFace) = true := by decide +kernel
  rcases t d hd with rfl | t
  · exact RoadKit.mvA hZ q
  · exact RoadKit.mv hZ q t
/-- WHAT COMES BACK, over the tables of the start Z: h the heap at the call, h' behind it -/
def Q (Z : State) (x : Addr) (A : Cell) (h : Heap) (v : Option Value) (h' : Heap) (L : List Loc) : Prop := v = none ∧ (∀ y ∈ L, y.base = x) ∧ RoadKit.Keep h h' [x] ∧ h'.size = h.size + 1 ∧ RoadKit.Exa Z h' x ST ∧ RoadKit.Fld Z h' x ST "value" "[B" (.ref h.size) ∧ RoadKit.Fld Z h' x ST "coder" "B" (.int 0) ∧
  (∃ V : Cell, RoadKit.Arr Z h' h.size V .byte ∧ V.vm = .none ∧ Z.vm.findClass "[B" = some V.cls ∧ V.slots.size = A.slots.size ∧ ∀ j, j < A.slots.size → V.slots[j]? = some (.int (lo8 (cv A j)))) ∧
  ∀ (O n d : String) (w : Value), RoadKit.Fld Z h x O n d w → RoadKit.slotOf Z O n d ≠ RoadKit.slotOf Z ST "value" "[B" → RoadKit.slotOf Z O n d ≠ RoadKit.slotOf Z ST "coder" "B" → RoadKit.Fld Z h' x O n d w
/-- **new String(chars) AT A CALL, IN THE ROAD'S FORM**: for specialBack behind newO: x the fresh String, b the char[] with the cell A -/
theorem back {p : Program} {l : Launch} {e : Env} {R : Room} {s : State} {args : Array Value} {below : List Frame} {len W : Nat} {Z : State} {a0 : Array Value} {h : Heap} (hZ : Z.Warmed39 s.vm) (hw : ∀ d ∈ words, d.before a0 Z = true) {kI : Nat} (wi : (Jvm.Cond.instantiable ST kI).before a0 Z = true)
    {x b : Addr} {A : Cell} {z : Int32} {v0 c0 : Value} (E : RoadKit.Exa Z h x ST) (V : RoadKit.Fld Z h x ST "value" "[B" v0) (C : RoadKit.Fld Z h x ST "coder" "B" c0) (K : RoadKit.Arr Z h b A .char) (hty : Typed .char A) (S : RoadKit.Sta Z h ST "COMPACT_STRINGS" "Z" (.int z)) (hz : ¬ z = 0)
    (l0 : 0 < A.slots.size) (l2 : A.slots.size ≤ 536870912) (hp : ∀ i, i < A.slots.size → ¬ 255 < cv A i) (hfr : 4 ≤ R.frames) (hlo : W + 65 ≤ R.locals) :
    Back l R p e below s args New1.yN len W (fun P a => a = #[.ref x, .ref b] ∧ P.U.heap = h ∧ P.cells + 1 ≤ R.cells ∧ P.slots + A.slots.size ≤ R.slots)
      (fun P _ v B => ∃ L, Q Z x A h v B.U.heap L ∧ B.locs = P.locs ++ L ∧ B.cells = P.cells + 1 ∧ B.slots = P.slots + A.slots.size) := by
  intro m meth c P g ig mk a X hg hsize hdg hW hn hp'
  obtain ⟨rfl, rfl, r1, r2⟩ := hp'
  have al : Z.vm.Alike P.U.vm := hZ.alike.trans X.warmed.alike
  obtain ⟨D, cfV, kV, iV, fV, hD, gV, stV, knV, obV, asV, slV⟩ := id V
  obtain ⟨D', cfC, kC, iC, fC, hD', gC, stC, -, -, asC, slC⟩ := id C
  cases hD.symm.trans hD'
  obtain ⟨D2, kD, e1, e2, e3, e4, e5⟩ := id E
  cases hD.symm.trans e1
  obtain ⟨c2, k2, i1, i2, i3, -⟩ := Cond.instantiable_spec wi
  cases e2.symm.trans i1
  cases e3.symm.trans i2
  obtain ⟨kU, u1, u2⟩ := al.2.2 _ _ e3
  have hB : Blank ST x D P.U := ⟨hD, ⟨knV, fun q hq => by rw [hq] at obV; cases obV⟩, by rw [al.findClass]; exact e2, kU, u1, by rw [u2]; exact i3, by rw [u2]; exact e5 i3⟩
  have F1 : Found ST "value" "[B" fV P.U := ⟨SBG.found_only al ⟨cfV, kV, iV, gV⟩, stV⟩
  have F2 : Found ST "coder" "B" fC P.U := ⟨SBG.found_only al ⟨cfC, kC, iC, gC⟩, stC⟩
  have hA : Ch b A P.U := ⟨⟨K.1, State.isArrayOf_alike al K.2.1, K.2.2, by omega⟩, hty⟩
  have hS : StaticIs P.U ST "COMPACT_STRINGS" "Z" (.int z) := by
    obtain ⟨cfS, iS, kS, fS, st, cS, t1, t2, t3, t4, t5, t6, t7⟩ := S
    exact StaticIs.there (s := { Z with heap := P.U.heap }) ⟨cfS, iS, kS, fS, st, cS, t1, t2, t3, t4, t5, (fun q => by rw [q] at t6; cases t6), t7⟩ al rfl
  obtain ⟨v, B, X', ⟨⟨hv, E', V', q1, q2, q3, q4, q5, q6, q7, q8, q9, q10, q11⟩, hl, hc, hs⟩, st⟩ := New1.pays x D fV fC b A z (tab_of (moved hZ hw)) hfr hlo m meth c P g ig mk _ X hg hsize hdg hW hn ⟨r1, r2, rfl, hB, F1, F2, hA, hS, hz, l0, l2, hp⟩
  have al' : Z.vm.Alike B.U.vm := hZ.alike.trans X'.warmed.alike
  have hsz : E'.slots.size = D.slots.size := by
    obtain ⟨-, -, -, kB, w1, w2, w3⟩ := q1
    obtain ⟨kB', y1, y2⟩ := al'.2.2 _ _ e3
    rw [q2.2.1] at w1
    cases w1.symm.trans y1
    rw [w3, e5 i3, y2]
  refine ⟨v, B, X', ⟨_, ⟨hv, ?_, ⟨by omega, fun y cy hy hn' => q10 y cy (by simpa using hn') hy, fun y cy hy => ?_⟩, q11, ⟨E', _, q1.1, by rw [q2.2.1]; exact e2, by rw [q2.2.1]; exact e3, by rw [q2.1]; exact obV, fun _ => by rw [hsz]; exact e5 i3⟩,
    ⟨E', cfV, kV, iV, fV, q1.1, gV, stV, by rw [q2.1]; exact knV, by rw [q2.1]; exact obV, by rw [q2.2.1]; exact asV, q3⟩, ⟨E', cfC, kC, iC, fC, q1.1, gC, stC, by rw [q2.1]; exact knV, by rw [q2.1]; exact obV, by rw [q2.2.1]; exact asC, q4⟩,
    ⟨V', ⟨q5.1, State.isArrayOf_alike al'.symm q5.2.1, q5.2.2.1⟩, q6, by rw [← al'.findClass]; exact q7, q8, fun j hj => by have := q9 j hj; rwa [Nat.zero_add] at this⟩, fun O n d w F n1 n2 => ?_⟩, hl, hc, hs⟩, st⟩
  · intro y hy
    simp only [List.mem_cons, List.not_mem_nil, or_false] at hy
    rcases hy with rfl | rfl <;> rfl
  · by_cases q : y = x
    · subst q
      cases hD.symm.trans hy
      exact ⟨E', q1.1, q2.2.1, q2.1, hsz⟩
    · exact ⟨cy, q10 y cy q hy, rfl, rfl, rfl⟩
  · obtain ⟨D3, cf, k, i, f, g1, g2, g3, g4, g5, g6, g7⟩ := F
    cases hD.symm.trans g1
    simp only [RoadKit.slotOf, g2, gV, gC, Option.map_some, Option.getD_some] at n1 n2
    exact ⟨E', cf, k, i, f, q1.1, g2, g3, by rw [q2.1]; exact g4, by rw [q2.1]; exact g5, by rw [q2.2.1]; exact g6, by rw [q2.2.2 f.slot (by simp [n1, n2])]; exact g7⟩
end StrChars.Road
namespace StrChars.Road
open Jvm Sem ClassFile Op Lib Jvm.Stand Jvm.Free Jvm.Free.XT
/-- WHAT COMES BACK, the byte[] as a list of values -/
def QA (Z : State) (x : Addr) (zn : Int32) (cs : List Int32) (h : Heap) (v : Option Value) (h' : Heap) (L : List Loc) : Prop := v = none ∧ (∀ y ∈ L, y.base = x) ∧ RoadKit.Keep h h' [x] ∧ h'.size = h.size + 1 ∧ RoadKit.Exa Z h' x ST ∧ RoadKit.Fld Z h' x ST "value" "[B" (.ref h.size) ∧ RoadKit.Fld Z h' x ST "coder" "B" (.int 0) ∧
  (∃ kb, Z.vm.findClass "[B" = some kb ∧ RoadKit.Arv Z h' h.size kb .byte zn (cs.map fun c => .int (lo8 c)) (.int 0)) ∧
  ∀ (O n d : String) (w : Value), RoadKit.Fld Z h x O n d w → RoadKit.slotOf Z O n d ≠ RoadKit.slotOf Z ST "value" "[B" → RoadKit.slotOf Z O n d ≠ RoadKit.slotOf Z ST "coder" "B" → RoadKit.Fld Z h' x O n d w
/-- **new String(chars) AT A CALL, THE ARRAYS AS LISTS**: the char[] at b holds cs, not empty, no char above 255 -/
theorem backArv {p : Program} {l : Launch} {e : Env} {R : Room} {s : State} {args : Array Value} {below : List Frame} {len W : Nat} {Z : State} {a0 : Array Value} {h : Heap} (hZ : Z.Warmed39 s.vm) (hw : ∀ d ∈ words, d.before a0 Z = true) {kI : Nat} (wi : (Jvm.Cond.instantiable ST kI).before a0 Z = true)
    {x b : Addr} {k : ClassId} {zn z : Int32} {cs : List Int32} {dv v0 c0 : Value} (E : RoadKit.Exa Z h x ST) (V : RoadKit.Fld Z h x ST "value" "[B" v0) (C : RoadKit.Fld Z h x ST "coder" "B" c0) (K : RoadKit.Arv Z h b k .char zn (cs.map Value.int) dv) (S : RoadKit.Sta Z h ST "COMPACT_STRINGS" "Z" (.int z)) (hz : ¬ z = 0)
    (hlen : zn.toNatClampNeg = cs.length) (h0 : 0 < cs.length) (hbig : cs.length ≤ 536870912) (hall : ∀ c ∈ cs, ¬ 255 < c) (hfr : 4 ≤ R.frames) (hlo : W + 65 ≤ R.locals) :
    Back l R p e below s args New1.yN len W (fun P a => a = #[.ref x, .ref b] ∧ P.U.heap = h ∧ P.cells + 1 ≤ R.cells ∧ P.slots + cs.length ≤ R.slots)
      (fun P _ v B => ∃ L, QA Z x zn cs h v B.U.heap L ∧ B.locs = P.locs ++ L ∧ B.cells = P.cells + 1 ∧ B.slots = P.slots + cs.length) := by
  obtain ⟨A, K1, K2, K3, K4, K5, K6⟩ := K
  have e : A.slots.size = cs.length := K3.trans hlen
  have hat : ∀ (i : Nat) (hi : i < cs.length), A.slots[i]? = some (.int cs[i]) := fun i hi => by rw [K5 i (by omega)]; simp [List.getD_eq_getElem?_getD, hi]
  have hcv : ∀ (i : Nat) (hi : i < cs.length), cv A i = cs[i] := fun i hi => by unfold cv; rw [hat i hi]
  have hty : Typed .char A := fun i v hv => by
    have hi : i < A.slots.size := (Array.getElem?_eq_some_iff.mp hv).1
    have q := K5 i hi
    rw [hv] at q
    rw [Option.some.inj q]
    exact K6 i hi
  refine Back.mono (back hZ hw wi E V C K1 hty S hz (by omega) (by omega) (fun i hi => by rw [hcv i (by omega)]; exact hall _ (List.getElem_mem _)) hfr hlo) (fun P a hp => ⟨hp.1, hp.2.1, hp.2.2.1, by rw [e]; exact hp.2.2.2⟩) (fun P a v B hp hq => ?_)
  obtain ⟨L, ⟨q1, q2, q3, q4, q5, q6, q7, ⟨V', v1, v2, v3, v4, v5⟩, q9⟩, hl, hc, hs⟩ := hq
  refine ⟨L, ⟨q1, q2, q3, q4, q5, q6, q7, ⟨V'.cls, v3, V', v1, rfl, by rw [v4, e, hlen], K4, fun i hi => ?_, fun i hi => ?_⟩, q9⟩, hl, hc, by rw [hs, e]⟩
  · have hi' : i < cs.length := by omega
    rw [v5 i (by omega), hcv i hi']; simp [List.getD_eq_getElem?_getD, hi']
  · have hi' : i < cs.length := by omega
    simp only [List.getD_eq_getElem?_getD, List.getElem?_map, List.getElem?_eq_getElem hi', Option.map_some, Option.getD_some]
    exact fits_lo8 _
end StrChars.Road
namespace StrChars.Road
open Jvm Sem ClassFile Op Lib Jvm.Stand Jvm.Free Jvm.Free.XT
/-- WHAT COMES BACK, in the writer's own shape -/
def QV (Z : State) (x : Addr) (N : Int32) (bs : List Int32) (h : Heap) (n0 : Nat) (v : Option Value) (h' : Heap) (L : List Loc) : Prop := v = none ∧ RoadKit.Fr n0 L ∧ RoadKit.Keep h h' [x] ∧ RoadKit.Exa Z h' x ST ∧ RoadKit.Fld Z h' x ST "coder" "B" (.int 0) ∧
  ∃ (t : Addr) (kb : ClassId), n0 ≤ t ∧ h.size ≤ t ∧ ¬ t = x ∧ RoadKit.Fld Z h' x ST "value" "[B" (.ref t) ∧ RoadKit.Arv Z h' t kb .byte N (bs.map Value.int) (.int 0)
/-- **new String(chars) AT A CALL, FOR THE WRITER**: a char[] of n known ints, each 0 to 255 -/
theorem backV {p : Program} {l : Launch} {e : Env} {R : Room} {s : State} {args : Array Value} {below : List Frame} {len W : Nat} {Z : State} {a0 : Array Value} {h : Heap} (hZ : Z.Warmed39 s.vm) (hw : ∀ d ∈ words, d.before a0 Z = true) {kI : Nat} (wi : (Jvm.Cond.instantiable ST kI).before a0 Z = true)
    {x b : Addr} {kC : ClassId} {cs bs : List Int32} {d v0 c0 : Value} {z N : Int32} {n n0 : Nat} (hx0 : n0 ≤ x) (hh0 : n0 ≤ h.size) (E : RoadKit.Exa Z h x ST) (V : RoadKit.Fld Z h x ST "value" "[B" v0) (C : RoadKit.Fld Z h x ST "coder" "B" c0) (K : RoadKit.Arv Z h b kC .char N (cs.map Value.int) d) (S : RoadKit.Sta Z h ST "COMPACT_STRINGS" "Z" (.int z)) (hz : ¬ z = 0)
    (hn : cs.length = n) (hN : N = Int32.ofNat n) (l0 : 0 < n) (l2 : n ≤ 4000) (hp : ∀ c ∈ cs, ¬ c < 0 ∧ ¬ (255 : Int32) < c) (hb : bs = cs.map (fun c => c.toInt8.toInt32)) (hfr : 4 ≤ R.frames) (hlo : W + 65 ≤ R.locals) :
    Back l R p e below s args (⟨"java/lang/String", "<init>", "([C)V"⟩ : MethodName) len W (fun P a => a = #[.ref x, .ref b] ∧ P.U.heap = h ∧ P.cells + 1 ≤ R.cells ∧ P.slots + n ≤ R.slots)
      (fun P _ v B => ∃ L, QV Z x N bs h n0 v B.U.heap L ∧ B.locs = P.locs ++ L ∧ B.cells = P.cells + 1 ∧ B.slots = P.slots + n) := by
  subst hn hN hb
  refine Back.mono (backArv hZ hw wi E V C K S hz (n32 (by omega)) l0 (by omega) (fun c hc => (hp c hc).2) hfr hlo) (fun P a hp => hp) (fun P a v B hp hq => ?_)
  obtain ⟨L, ⟨q1, q2, q3, q4, q5, q6, q7, ⟨kb, v1, v2⟩, q9⟩, hl, hc, hs⟩ := hq
  exact ⟨L, ⟨q1, fun y hy => by rw [q2 y hy]; exact hx0, q3, q5, q7, h.size, kb, hh0, Nat.le_refl _, Nat.ne_of_gt E.lt, q6, by rw [List.map_map]; exact v2⟩, hl, hc, hs⟩
end StrChars.Road
namespace StrChars
open Jvm Sem ClassFile Op Lib Jvm.Stand Jvm.Free.XT Jvm.Free.ALB Jvm.Free.JM Jvm.Free
open Jvm.Lib.Cold (StaticIs)
def hi8 (x : Int32) : Int32 := lo8 (x >>> ((8 : Int32) &&& 31))
/-- what StringUTF16.getChar makes of two bytes -/
def pairCh (u v : Int32) : Int32 := (((u &&& 255) <<< ((0 : Int32) &&& 31)) ||| ((v &&& 255) <<< ((8 : Int32) &&& 31))).toUInt32.toUInt16.toUInt32.toInt32
theorem shr0 (c : Int32) : c >>> ((0 : Int32) &&& 31) = c := by
  have e : ((0 : Int32) &&& 31) = 0 := by decide
  rw [e]
  apply Int32.toBitVec_inj.mp
  rw [Int32.toBitVec_shiftRight]
  have e1 : ((0 : Int32).toBitVec.smod 32) = 0#32 := by decide
  rw [e1, BitVec.sshiftRight_eq']
  exact BitVec.sshiftRight_zero
theorem lo8_and (x : Int32) : (lo8 x &&& 255).toBitVec.toNat = x.toBitVec.toNat % 256 := by
  have h : (lo8 x).toBitVec = (x.toBitVec.signExtend 8).signExtend 32 := by rw [lo8, Int8.toBitVec_toInt32, Int32.toBitVec_toInt8]
  rw [Int32.toBitVec_and, BitVec.toNat_and, h]
  have e : ((x.toBitVec.signExtend 8).signExtend 32).toNat % 256 = x.toBitVec.toNat % 256 := by
    rw [BitVec.toNat_signExtend]
    have hlt := x.toBitVec.isLt
    simp only [BitVec.toNat_setWidth, BitVec.toNat_signExtend]
    split <;> split <;> omega
  rw [← e]
  exact Nat.and_two_pow_sub_one_eq_mod _ 8
theorem pair_says {c : Int32} (h0 : ¬ c < 0) (h1 : ¬ 65535 < c) : pairCh (lo8 c) (hi8 c) = c := by
  rw [Int32.lt_iff_toInt_lt] at h0 h1
  have e0 : (0 : Int32).toInt = 0 := rfl
  have e1 : (65535 : Int32).toInt = 65535 := rfl
  have hc : c.toInt = c.toBitVec.toNat := by
    have := c.toBitVec.isLt
    have e : c.toInt = c.toBitVec.toInt := rfl
    rw [e] at h0 h1
    rw [e]
    rw [BitVec.toInt_eq_toNat_cond] at h0 h1 ⊢
    split at h0 <;> split <;> omega
  have hn : c.toBitVec.toNat < 65536 := by omega
  have a1 := lo8_and c
  have a2 : (hi8 c &&& 255).toBitVec.toNat = c.toBitVec.toNat / 256 := by
    rw [hi8, lo8_and]
    have e : ((8 : Int32) &&& 31) = 8 := by decide
    rw [e, Int32.toBitVec_shiftRight]
    have e2 : ((8 : Int32).toBitVec.smod 32) = 8#32 := by decide
    rw [e2, BitVec.sshiftRight_eq', BitVec.toNat_sshiftRight_of_msb_false (by rw [BitVec.msb_eq_false_iff_two_mul_lt]; omega)]
    show c.toBitVec.toNat >>> 8 % 256 = _
    rw [Nat.shiftRight_eq_div_pow]
    omega
  unfold pairCh
  apply Int32.toBitVec_inj.mp
  apply BitVec.eq_of_toNat_eq
  have f0 : ((0 : Int32) &&& 31) = 0 := by decide
  have f8 : ((8 : Int32) &&& 31) = 8 := by decide
  rw [f0, f8]
  have g : (((lo8 c &&& 255) <<< (0 : Int32)) ||| ((hi8 c &&& 255) <<< (8 : Int32))).toBitVec.toNat = c.toBitVec.toNat := by
    rw [Int32.toBitVec_or, Int32.toBitVec_shiftLeft, Int32.toBitVec_shiftLeft]
    have s0 : ((0 : Int32).toBitVec.smod 32) = 0#32 := by decide
    have s8 : ((8 : Int32).toBitVec.smod 32) = 8#32 := by decide
    rw [s0, s8, BitVec.toNat_or]
    simp only [BitVec.shiftLeft_eq', BitVec.toNat_shiftLeft, a1, a2]
    show (c.toBitVec.toNat % 256) <<< 0 % 2 ^ 32 ||| (c.toBitVec.toNat / 256) <<< 8 % 2 ^ 32 = _
    rw [Nat.shiftLeft_zero, Nat.mod_eq_of_lt (show c.toBitVec.toNat % 256 < 2 ^ 32 by omega), Nat.mod_eq_of_lt (show (c.toBitVec.toNat / 256) <<< 8 < 2 ^ 32 by rw [Nat.shiftLeft_eq]; omega), Nat.or_comm, ← Nat.shiftLeft_add_eq_or_of_lt (by omega), Nat.shiftLeft_eq]
    omega
  show BitVec.toNat (((((lo8 c &&& 255) <<< (0 : Int32)) ||| ((hi8 c &&& 255) <<< (8 : Int32))).toBitVec.setWidth 16).setWidth 32) = _
  rw [BitVec.toNat_setWidth, BitVec.toNat_setWidth, g]
  omega
end StrChars
namespace StrChars
open Jvm Sem ClassFile Op Lib Jvm.Stand Jvm.Free.XT Jvm.Free.ALB Jvm.Free.JM Jvm.Free
open Jvm.Lib.Cold (StaticIs)
theorem shr1 {n : Nat} (h : 2 * n < 2 ^ 31) : Int32.ofNat (2 * n) >>> ((1 : Int32) &&& 31) = Int32.ofNat n := by
  have e : ((1 : Int32) &&& 31) = 1 := by decide
  rw [e]
  apply Int32.toBitVec_inj.mp
  rw [Int32.toBitVec_shiftRight]
  have e1 : ((1 : Int32).toBitVec.smod 32) = 1#32 := by decide
  have hm : (BitVec.ofNat 32 (2 * n)).toNat = 2 * n := by rw [BitVec.toNat_ofNat, Nat.mod_eq_of_lt (by omega)]
  rw [e1, BitVec.sshiftRight_eq']
  apply BitVec.eq_of_toNat_eq
  show ((BitVec.ofNat 32 (2 * n)).sshiftRight 1).toNat = (BitVec.ofNat 32 n).toNat
  rw [BitVec.toNat_sshiftRight_of_msb_false (by rw [BitVec.msb_eq_false_iff_two_mul_lt, hm]; omega), hm, BitVec.toNat_ofNat, Nat.shiftRight_eq_div_pow]
  omega
/-- charAt's cast of a byte read back -/
def chr8 (u : Int32) : Int32 := (u &&& 255).toUInt32.toUInt16.toUInt32.toInt32
theorem chr8_lo8 {c : Int32} (h0 : ¬ c < 0) (h1 : ¬ 255 < c) : chr8 (lo8 c) = c := by
  have t : ∀ k : Fin 256, (Int32.ofNat k.val).toUInt32.toUInt16.toUInt32.toInt32 = Int32.ofNat k.val := by decide +kernel
  unfold chr8
  rw [lo8_mask h0 h1]
  rw [Int32.lt_iff_toInt_lt] at h0 h1
  have e0 : (0 : Int32).toInt = 0 := rfl
  have e1 : (255 : Int32).toInt = 255 := rfl
  obtain ⟨k, hk⟩ : ∃ k : Nat, c.toInt = k := ⟨c.toInt.toNat, by omega⟩
  have hx : c = Int32.ofNat k := Int32.toInt_inj.mp (by rw [hk, Int32.toInt_ofNat_small (by omega)])
  rw [hx]
  exact t ⟨k, by omega⟩
theorem narrow_ch {c : Int32} (h0 : ¬ c < 0) (h1 : ¬ 65535 < c) : narrow .char (.int c) = .int c := by
  have q : narrow .char (.int (pairCh (lo8 c) (hi8 c))) = .int (pairCh (lo8 c) (hi8 c)) := narrow_c _
  rwa [pair_says h0 h1] at q
/-- the array's cell V codes the n chars f 0 .. f (n - 1) by the coder cd, as the JDK does: coder 1 just where some char is above 255 -/
def Cod (cd : Int32) (n : Nat) (f : Nat → Int32) (V : Cell) : Prop := (cd = 0 ∧ V.slots.size = n ∧ ∀ j, j < n → V.slots[j]? = some (.int (lo8 (f j))) ∧ ¬ 255 < f j) ∨ (cd = 1 ∧ V.slots.size = 2 * n ∧ (∀ j, j < n → V.slots[2 * j]? = some (.int (lo8 (f j))) ∧ V.slots[2 * j + 1]? = some (.int (hi8 (f j)))) ∧ ∃ j, j < n ∧ 255 < f j)
theorem Cod.cd {cd : Int32} {n : Nat} {f : Nat → Int32} {V : Cell} (h : Cod cd n f V) : cd = 0 ∨ cd = 1 := h.imp (fun q => q.1) fun q => q.1
theorem Cod.len {cd : Int32} {n : Nat} {f : Nat → Int32} {V : Cell} (h : Cod cd n f V) (hs : V.slots.size < 2 ^ 31) : Int32.ofNat V.slots.size >>> (cd &&& 31) = Int32.ofNat n := by
  rcases h with ⟨rfl, h, -⟩ | ⟨rfl, h, -⟩
  · rw [shr0, h]
  · rw [h, shr1 (by omega)]
/-- **x is a String of the n chars f 0 .. f (n - 1)**, Latin-1 or UTF-16; its array at t has the cell V -/
def Txt (x t : Addr) (V : Cell) (cd : Int32) (n : Nat) (f : Nat → Int32) (U : State) : Prop := Exact "java/lang/String" x U ∧ Has x "java/lang/String" "value" "[B" (.ref t) U ∧ Has x "java/lang/String" "coder" "B" (.int cd) U ∧ XT.Arr .byte t V U ∧ Cod cd n f V ∧ ∀ j, j < n → ¬ f j < 0 ∧ ¬ 65535 < f j
theorem Txt.mv {x t : Addr} {V : Cell} {cd : Int32} {n : Nat} {f : Nat → Int32} {U U' : State} (h : Txt x t V cd n f U) (hal : U.vm.Alike U'.vm) (hh : U'.heap = U.heap) : Txt x t V cd n f U' := ⟨h.1.mv hal hh, h.2.1.mv hal hh, h.2.2.1.mv hal hh, h.2.2.2.1.mv hal hh, h.2.2.2.2⟩
namespace Cdr
def yN : MethodName := ⟨"java/lang/String", "coder", "()B"⟩
abbrev yB : ByteArray := jdk_42_method_152_code
theorem d0 : decode yB 0 = .ok (.getstatic 38, 3) := by decide +kernel
theorem d3 : decode yB 3 = .ok (.ifCond (.eq) 10, 3) := by decide +kernel
theorem d6 : decode yB 6 = .ok (.aload_n 0, 1) := by decide +kernel
theorem d7 : decode yB 7 = .ok (.getfield 15, 3) := by decide +kernel
theorem d10 : decode yB 10 = .ok (.goto 4, 3) := by decide +kernel
theorem d14 : decode yB 14 = .ok (.ireturn, 1) := by decide +kernel
def site : List Cond := [.fieldLink "java/lang/String" 38 "java/lang/String" "COMPACT_STRINGS" "Z", .fieldLink "java/lang/String" 15 "java/lang/String" "coder" "B"]
def tab : Cond := tabOf yN yB 1 (some .byte) site
def P (x : Addr) (cd z : Int32) (args : Array Value) (s : State) : Prop := args = #[.ref x] ∧ Has x "java/lang/String" "coder" "B" (.int cd) s ∧ (cd = 0 ∨ cd = 1) ∧ StaticIs s "java/lang/String" "COMPACT_STRINGS" "Z" (.int z) ∧ ¬ z = 0
def E (cd : Int32) (r : Option Value) (s u : State) : Prop := XT.PureE (some (.int cd)) r s u
theorem law (l : Launch) (x : Addr) (cd z : Int32) : Law l yN 1 0 0 0 yB 1 (some .byte) site (P x cd z) (E cd) [] 0 0 := by
  refine Law.of_walk (plainFor_of_name (by decide +kernel)) (by decide +kernel) (by decide +kernel) (by decide) (fun _ _ h => by rw [h.1]; rfl) (fun _ U U' hal hh h => ⟨h.1, h.2.1.mv hal hh, h.2.2.1, h.2.2.2.1.there hal hh, h.2.2.2.2⟩) (fun r U U' V V' h1 hal h2 h => XT.PureE.mv r U U' V V' h1 hal h2 h) ?_
  intro p e s m args below meth c s₁ X0 hexec hbytes hml hret hlk hnm hown hh0 W hP
  obtain ⟨rfl, hx, hc, s1, hz⟩ := hP
  have c1 : Steps p.tables e below (s₁.setTop (entryFrame m #[.ref x] 1)) (s₁.setTop (mkF m 0 #[.val (.ref x)] [])) := entry rfl
  obtain ⟨T2, X2, q2, st2⟩ := X0.sget hexec hown (wk W (.fieldLink "java/lang/String" 38 "java/lang/String" "COMPACT_STRINGS" "Z")) s1 (fun _ _ h => by rw [hh0]; exact h) (g := (mkF m 0 #[.val (.ref x)] [])) rfl (hb hbytes d0)
  have hh2 := q2.trans hh0
  have c3 : Steps p.tables e below (s₁.setTop (entryFrame m #[.ref x] 1)) (T2.setTop (mkF m 7 #[.val (.ref x)] [.ref x])) := (c1.trans (st2 _ (Steps.refl _))).trans (by
    refine XS.ifNo X2.here hexec rfl (hb hbytes d3) rfl (i0_eq_f hz) ?_
    refine XS.aloadN X2.here hexec rfl (hb hbytes d6) rfl rfl ?_
    exact Steps.refl _)
  obtain ⟨T4, X4, q4, st4⟩ := X2.hget hexec hown (wk W (.fieldLink "java/lang/String" 15 "java/lang/String" "coder" "B")) (hx.mv X2.warmed.alike hh2) (g := (mkF m 7 #[.val (.ref x)] [.ref x])) rfl (rest := []) rfl (hb hbytes d7)
  have c5 : Steps p.tables e below (s₁.setTop (entryFrame m #[.ref x] 1)) (T4.setTop (mkF m 14 #[.val (.ref x)] [.int cd])) := (c3.trans (st4 _ (Steps.refl _))).trans (by
    refine XS.goto X4.here hexec rfl (pc0 := 10) rfl (hb hbytes d10) (by decide) rfl ?_
    exact Steps.refl _)
  exact ⟨T4, some (.int cd), _, _, _, X4, rfl, rfl, rfl, (fun h => by cases h), ⟨rfl, q4.trans hh2⟩, fun fs hl => c5.trans (X4.ireturnOut hexec hret (by rcases hc with rfl | rfl <;> rfl) (Or.inr (Or.inr (Or.inl rfl))) (hb hbytes d14) hl)⟩
end Cdr
namespace Len
def yN : MethodName := ⟨"java/lang/String", "length", "()I"⟩
abbrev yB : ByteArray := jdk_42_method_54_code
theorem d0 : decode yB 0 = .ok (.aload_n 0, 1) := by decide +kernel
theorem d1 : decode yB 1 = .ok (.getfield 9, 3) := by decide +kernel
theorem d4 : decode yB 4 = .ok (.arraylength, 1) := by decide +kernel
theorem d5 : decode yB 5 = .ok (.aload_n 0, 1) := by decide +kernel
theorem d6 : decode yB 6 = .ok (.invokevirtual 335, 3) := by decide +kernel
theorem d9 : decode yB 9 = .ok (.ishr, 1) := by decide +kernel
theorem d10 : decode yB 10 = .ok (.ireturn, 1) := by decide +kernel
def site : List Cond := [.fieldLink "java/lang/String" 9 "java/lang/String" "value" "[B", Cdr.tab] ++ virtW "java/lang/String" 335 "java/lang/String" Cdr.yN Cdr.yN
def tab : Cond := tabOf yN yB 1 (some .int) site
def P (x t : Addr) (V : Cell) (cd : Int32) (n : Nat) (f : Nat → Int32) (z : Int32) (args : Array Value) (s : State) : Prop := args = #[.ref x] ∧ Txt x t V cd n f s ∧ StaticIs s "java/lang/String" "COMPACT_STRINGS" "Z" (.int z) ∧ ¬ z = 0
def E (n : Nat) (r : Option Value) (s u : State) : Prop := XT.PureE (some (.int (Int32.ofNat n))) r s u
/-- length() of a String of n chars, in either coding -/
theorem law (l : Launch) (x t : Addr) (V : Cell) (cd : Int32) (n : Nat) (f : Nat → Int32) (z : Int32) : Law l yN 1 0 1 13 yB 1 (some .int) site (P x t V cd n f z) (E n) [] 0 0 := by
  refine Law.of_walk (plainFor_of_name (by decide +kernel)) (by decide +kernel) (by decide +kernel) (by decide) (fun _ _ h => by rw [h.1]; rfl) (fun _ U U' hal hh h => ⟨h.1, h.2.1.mv hal hh, h.2.2.1.there hal hh, h.2.2.2⟩) (fun r U U' V V' h1 hal h2 h => XT.PureE.mv r U U' V V' h1 hal h2 h) ?_
  intro p e s m args below meth c s₁ X0 hexec hbytes hml hret hlk hnm hown hh0 W hP
  obtain ⟨rfl, hx, s1, hz⟩ := hP
  have v31 := hx.2.2.2.1.2.2.2
  have c1 : Steps p.tables e below (s₁.setTop (entryFrame m #[.ref x] 1)) (s₁.setTop (mkF m 1 #[.val (.ref x)] [.ref x])) := Steps.trans (entry rfl) (by
    show Steps p.tables e below (s₁.setTop (mkF m 0 #[.val (.ref x)] [])) _
    refine XS.aloadN X0.here hexec rfl (hb hbytes d0) rfl rfl ?_
    exact Steps.refl _)
  obtain ⟨T2, X2, q2, st2⟩ := X0.hget hexec hown (wk W (.fieldLink "java/lang/String" 9 "java/lang/String" "value" "[B")) (hx.mv X0.warmed.alike hh0).2.1 (g := (mkF m 1 #[.val (.ref x)] [.ref x])) rfl (rest := []) rfl (hb hbytes d1)
  have hh2 := q2.trans hh0
  have hx2 := hx.mv X2.warmed.alike hh2
  have c3 : Steps p.tables e below (s₁.setTop (entryFrame m #[.ref x] 1)) (T2.setTop (mkF m 6 #[.val (.ref x)] [.ref x, .int (Int32.ofNat V.slots.size)])) := (c1.trans (st2 _ (Steps.refl _))).trans (by
    refine X2.alen hexec hx2.2.2.2.1 rfl rfl (hb hbytes d4) ?_
    refine XS.aloadN X2.here hexec rfl (hb hbytes d5) rfl rfl ?_
    exact Steps.refl _)
  obtain ⟨v4, T4, X4, E4, g4⟩ := X2.callV hexec (Cdr.law l x cd z) hown (wks W (virtW "java/lang/String" 335 "java/lang/String" Cdr.yN Cdr.yN)) rfl (by decide) (wk W Cdr.tab) (W := 1) (Nat.le_of_ble_eq_true rfl) (Nat.le_of_ble_eq_true rfl) (Nat.le_refl _) (Nat.le_refl _) (hx2.1.fc X2.warmed.alike) hx2.1.is (g := (mkF m 6 #[.val (.ref x)] [.ref x, .int (Int32.ofNat V.slots.size)])) rfl (by rw [hml]; rfl) c3 (argsL := []) (rest := [.int (Int32.ofNat V.slots.size)]) rfl rfl (by show 2 * 0 + (1 + 0) ≤ _; decide) (hb hbytes d6) (⟨rfl, hx2.2.2.1, hx.2.2.2.2.1.cd, s1.there X2.warmed.alike hh2, hz⟩)
  obtain ⟨rfl, q4⟩ := E4
  have c5 : Steps p.tables e below (s₁.setTop (entryFrame m #[.ref x] 1)) (T4.setTop (mkF m 10 #[.val (.ref x)] [.int (Int32.ofNat V.slots.size >>> (cd &&& 31))])) := Steps.trans g4 (by
    refine ishr X4.here hexec rfl (hb hbytes d9) rfl ?_
    exact Steps.refl _)
  rw [hx.2.2.2.2.1.len v31] at c5
  exact ⟨T4, some (.int (Int32.ofNat n)), _, _, _, X4, rfl, rfl, rfl, (fun h => by cases h), ⟨rfl, q4.trans hh2⟩, fun fs hl => c5.trans (X4.ireturnOut hexec hret rfl (Or.inl rfl) (hb hbytes d10) hl)⟩
theorem pays {l : Launch} {R : Room} {p : Program} {e : Env} {below : List Frame} {s : State} {sargs : Array Value} {len W : Nat} (x t : Addr) (V : Cell) (cd : Int32) (n : Nat) (f : Nat → Int32) (z : Int32) (htab : tab.before sargs s = true) (hfr : 2 ≤ R.frames) (hlo : W + 25 ≤ R.locals) :
    Back l R p e below s sargs yN len W (fun A₁ a₁ => A₁.cells + 0 ≤ R.cells ∧ A₁.slots + 0 ≤ R.slots ∧ P x t V cd n f z a₁ A₁.U) (fun A₁ _ v₁ B₁ => E n v₁ A₁.U B₁.U ∧ B₁.locs = A₁.locs ++ [] ∧ B₁.cells = A₁.cells + 0 ∧ B₁.slots = A₁.slots + 0) :=
  (law l x t V cd n f z).pays htab hfr (by omega)
end Len
namespace IsL
def yN : MethodName := ⟨"java/lang/String", "isLatin1", "()Z"⟩
abbrev yB : ByteArray := jdk_42_method_154_code
theorem d0 : decode yB 0 = .ok (.getstatic 38, 3) := by decide +kernel
theorem d3 : decode yB 3 = .ok (.ifCond (.eq) 14, 3) := by decide +kernel
theorem d6 : decode yB 6 = .ok (.aload_n 0, 1) := by decide +kernel
theorem d7 : decode yB 7 = .ok (.getfield 15, 3) := by decide +kernel
theorem d10 : decode yB 10 = .ok (.ifCond (.ne) 7, 3) := by decide +kernel
theorem d13 : decode yB 13 = .ok (.iconst 1, 1) := by decide +kernel
theorem d14 : decode yB 14 = .ok (.goto 4, 3) := by decide +kernel
theorem d17 : decode yB 17 = .ok (.iconst 0, 1) := by decide +kernel
theorem d18 : decode yB 18 = .ok (.ireturn, 1) := by decide +kernel
def site : List Cond := [.fieldLink "java/lang/String" 38 "java/lang/String" "COMPACT_STRINGS" "Z", .fieldLink "java/lang/String" 15 "java/lang/String" "coder" "B"]
def tab : Cond := tabOf yN yB 1 (some .boolean) site
def P (x : Addr) (cd z : Int32) (args : Array Value) (s : State) : Prop := args = #[.ref x] ∧ Has x "java/lang/String" "coder" "B" (.int cd) s ∧ (cd = 0 ∨ cd = 1) ∧ StaticIs s "java/lang/String" "COMPACT_STRINGS" "Z" (.int z) ∧ ¬ z = 0
def E (cd : Int32) (r : Option Value) (s u : State) : Prop := XT.PureE (some (.int (1 - cd))) r s u
theorem law (l : Launch) (x : Addr) (cd z : Int32) : Law l yN 1 0 0 0 yB 1 (some .boolean) site (P x cd z) (E cd) [] 0 0 := by
  refine Law.of_walk (plainFor_of_name (by decide +kernel)) (by decide +kernel) (by decide +kernel) (by decide) (fun _ _ h => by rw [h.1]; rfl) (fun _ U U' hal hh h => ⟨h.1, h.2.1.mv hal hh, h.2.2.1, h.2.2.2.1.there hal hh, h.2.2.2.2⟩) (fun r U U' V V' h1 hal h2 h => XT.PureE.mv r U U' V V' h1 hal h2 h) ?_
  intro p e s m args below meth c s₁ X0 hexec hbytes hml hret hlk hnm hown hh0 W hP
  obtain ⟨rfl, hx, hc, s1, hz⟩ := hP
  have c1 : Steps p.tables e below (s₁.setTop (entryFrame m #[.ref x] 1)) (s₁.setTop (mkF m 0 #[.val (.ref x)] [])) := entry rfl
  obtain ⟨T2, X2, q2, st2⟩ := X0.sget hexec hown (wk W (.fieldLink "java/lang/String" 38 "java/lang/String" "COMPACT_STRINGS" "Z")) s1 (fun _ _ h => by rw [hh0]; exact h) (g := (mkF m 0 #[.val (.ref x)] [])) rfl (hb hbytes d0)
  have hh2 := q2.trans hh0
  have c3 : Steps p.tables e below (s₁.setTop (entryFrame m #[.ref x] 1)) (T2.setTop (mkF m 7 #[.val (.ref x)] [.ref x])) := (c1.trans (st2 _ (Steps.refl _))).trans (by
    refine XS.ifNo X2.here hexec rfl (hb hbytes d3) rfl (i0_eq_f hz) ?_
    refine XS.aloadN X2.here hexec rfl (hb hbytes d6) rfl rfl ?_
    exact Steps.refl _)
  obtain ⟨T4, X4, q4, st4⟩ := X2.hget hexec hown (wk W (.fieldLink "java/lang/String" 15 "java/lang/String" "coder" "B")) (hx.mv X2.warmed.alike hh2) (g := (mkF m 7 #[.val (.ref x)] [.ref x])) rfl (rest := []) rfl (hb hbytes d7)
  have c5 : Steps p.tables e below (s₁.setTop (entryFrame m #[.ref x] 1)) (T4.setTop (mkF m 10 #[.val (.ref x)] [.int cd])) := c3.trans (st4 _ (Steps.refl _))
  have c6 : Steps p.tables e below (s₁.setTop (entryFrame m #[.ref x] 1)) (T4.setTop (mkF m 18 #[.val (.ref x)] [.int (1 - cd)])) := by
    rcases hc with rfl | rfl
    · exact c5.trans (by
        refine XS.ifNo X4.here hexec rfl (hb hbytes d10) rfl (i0_ne_f rfl) ?_
        refine iconstV X4.here hexec rfl 1 (hb hbytes d13) (by decide) ?_
        refine XS.goto X4.here hexec rfl (pc0 := 14) rfl (hb hbytes d14) (by decide) rfl ?_
        exact Steps.refl _)
    · exact c5.trans (by
        refine XS.ifYes X4.here hexec rfl (pc0 := 10) rfl (hb hbytes d10) rfl (i0_ne_t (by decide)) (by decide) rfl ?_
        refine iconstV X4.here hexec rfl 0 (hb hbytes d17) (by decide) ?_
        exact Steps.refl _)
  exact ⟨T4, some (.int (1 - cd)), _, _, _, X4, rfl, rfl, rfl, (fun h => by cases h), ⟨rfl, q4.trans hh2⟩, fun fs hl => c6.trans (X4.ireturnOut hexec hret (by rcases hc with rfl | rfl <;> rfl) (Or.inr (Or.inl rfl)) (hb hbytes d18) hl)⟩
end IsL
namespace LChA
def yN : MethodName := ⟨"java/lang/StringLatin1", "charAt", "([BI)C"⟩
abbrev yB : ByteArray := jdk_43_method_2_code
theorem d0 : decode yB 0 = .ok (.iload_n 1, 1) := by decide +kernel
theorem d1 : decode yB 1 = .ok (.aload_n 0, 1) := by decide +kernel
theorem d2 : decode yB 2 = .ok (.arraylength, 1) := by decide +kernel
theorem d3 : decode yB 3 = .ok (.invokestatic 9, 3) := by decide +kernel
theorem d6 : decode yB 6 = .ok (.aload_n 0, 1) := by decide +kernel
theorem d7 : decode yB 7 = .ok (.iload_n 1, 1) := by decide +kernel
theorem d8 : decode yB 8 = .ok (.baload, 1) := by decide +kernel
theorem d9 : decode yB 9 = .ok (.sipush 255, 3) := by decide +kernel
theorem d12 : decode yB 12 = .ok (.iand, 1) := by decide +kernel
theorem d13 : decode yB 13 = .ok (.i2c, 1) := by decide +kernel
theorem d14 : decode yB 14 = .ok (.ireturn, 1) := by decide +kernel
def site : List Cond := [JO.Str_checkIndex.tab] ++ staticW "java/lang/StringLatin1" 9 JO.Str_checkIndex.yN
def tab : Cond := tabOf yN yB 2 (some .char) site
def P (t : Addr) (V : Cell) (i : Nat) (u : Int32) (fm : Value) (args : Array Value) (s : State) : Prop := args = #[.ref t, .int (Int32.ofNat i)] ∧ XT.Arr .byte t V s ∧ V.slots[i]? = some (.int u) ∧ (StaticIs s "jdk/internal/util/Preconditions" "SIOOBE_FORMATTER" "Ljava/util/function/BiFunction;" fm ∧ fm.isRef = true)
def E (u : Int32) (r : Option Value) (s w : State) : Prop := XT.PureE (some (.int (chr8 u))) r s w
theorem law (l : Launch) (t : Addr) (V : Cell) (i : Nat) (u : Int32) (fm : Value) : Law l yN 2 2 2 27 yB 2 (some .char) site (P t V i u fm) (E u) [] 0 0 := by
  refine Law.of_walk (plainFor_of_name (by decide +kernel)) (by decide +kernel) (by decide +kernel) (by decide) (fun _ _ h => by rw [h.1]; rfl) (fun _ U U' hal hh h => ⟨h.1, h.2.1.mv hal hh, h.2.2.1, h.2.2.2.1.there hal hh, h.2.2.2.2⟩) (fun r U U' V V' h1 hal h2 h => XT.PureE.mv r U U' V V' h1 hal h2 h) ?_
  intro p e s m args below meth c s₁ X0 hexec hbytes hml hret hlk hnm hown hh0 W hP
  obtain ⟨rfl, hV, hu, s1, rf⟩ := hP
  have v31 := hV.2.2.2
  have hi : i < V.slots.size := (Array.getElem?_eq_some_iff.mp hu).1
  have c1 : Steps p.tables e below (s₁.setTop (entryFrame m #[.ref t, .int (Int32.ofNat i)] 2)) (s₁.setTop (mkF m 0 #[.val (.ref t), .val (.int (Int32.ofNat i))] [])) := entry rfl
  have c2 : Steps p.tables e below (s₁.setTop (entryFrame m #[.ref t, .int (Int32.ofNat i)] 2)) (s₁.setTop (mkF m 3 #[.val (.ref t), .val (.int (Int32.ofNat i))] [.int (Int32.ofNat V.slots.size), .int (Int32.ofNat i)])) := c1.trans (by
    refine XS.iloadN X0.here hexec rfl (hb hbytes d0) rfl ?_
    refine XS.aloadN X0.here hexec rfl (hb hbytes d1) rfl rfl ?_
    refine X0.alen hexec (hV.mv X0.warmed.alike hh0) rfl rfl (hb hbytes d2) ?_
    exact Steps.refl _)
  obtain ⟨v3, T3, X3, E3, g3⟩ := X0.callS hexec (JO.Str_checkIndex.law l (Int32.ofNat i) (Int32.ofNat V.slots.size) fm) hown (wks W (staticW "java/lang/StringLatin1" 9 JO.Str_checkIndex.yN)) (wk W JO.Str_checkIndex.tab) (W := 0) (Nat.le_of_ble_eq_true rfl) (Nat.le_of_ble_eq_true rfl) (Nat.le_refl _) (Nat.le_refl _) (g := (mkF m 3 #[.val (.ref t), .val (.int (Int32.ofNat i))] [.int (Int32.ofNat V.slots.size), .int (Int32.ofNat i)])) rfl (by rw [hml]; rfl) c2 (argsL := [.int (Int32.ofNat i), .int (Int32.ofNat V.slots.size)]) (rest := []) rfl rfl (by show 2 * 0 + 0 ≤ _; decide) (hb hbytes d3) (⟨rfl, rf, s1.there X0.warmed.alike hh0, Int32.ofNat_not_neg (by omega), lt32 v31 hi⟩)
  obtain ⟨rfl, q3⟩ := E3
  have hh3 := q3.trans hh0
  have c4 : Steps p.tables e below (s₁.setTop (entryFrame m #[.ref t, .int (Int32.ofNat i)] 2)) (T3.setTop (mkF m 14 #[.val (.ref t), .val (.int (Int32.ofNat i))] [.int (chr8 u)])) := Steps.trans g3 (by
    refine XS.aloadN X3.here hexec rfl (hb hbytes d6) rfl rfl ?_
    refine XS.iloadN X3.here hexec rfl (hb hbytes d7) rfl ?_
    refine X3.aget hexec (hV.mv X3.warmed.alike hh3) rfl hu rfl rfl (hb hbytes d8) ?_
    refine sipushV X3.here hexec rfl 255 (hb hbytes d9) (by decide) ?_
    refine XS.iand X3.here hexec rfl (hb hbytes d12) rfl ?_
    refine i2c X3.here hexec rfl (hb hbytes d13) rfl ?_
    exact Steps.refl _)
  exact ⟨T3, some (.int (chr8 u)), _, _, _, X3, rfl, rfl, rfl, (fun h => by cases h), ⟨rfl, hh3⟩, fun fs hl => c4.trans (X3.ireturnOut hexec hret (narrow_c _) (Or.inr (Or.inr (Or.inr (Or.inl rfl)))) (hb hbytes d14) hl)⟩
end LChA
end StrChars
namespace StrChars.Road
open Jvm Sem ClassFile Op Lib Jvm.Stand Jvm.Free Jvm.Free.XT
open Jvm.Lib.Cold (StaticIs)
theorem consq {a : Array Value} {s : State} {c : Jvm.Cond} {L : List Jvm.Cond} (h0 : c.before a s = true) (h : ∀ w ∈ L, w.before a s = true) : ∀ w ∈ c :: L, w.before a s = true := fun w hw => (List.mem_cons.mp hw).elim (fun e => e ▸ h0) (h w)
/-- the words of String.length(), either coding -/
abbrev wordsLen : List Jvm.Cond := [.code Len.yN Len.yB 1 (some .int), .initialized ST, .fieldLink ST 9 ST "value" "[B", .fieldLink ST 38 ST "COMPACT_STRINGS" "Z", .fieldLink ST 15 ST "coder" "B", .code Cdr.yN Cdr.yB 1 (some .byte), .methodLink ST 335 Cdr.yN, .declares Cdr.yN, .selects ST Cdr.yN Cdr.yN, .instanceMethod Cdr.yN]
theorem tabLen_of {a : Array Value} {s : State} (h : ∀ w ∈ wordsLen, w.before a s = true) : Len.tab.before a s = true := by
  have hc : Cdr.tab.before a s = true := unparts (wk h (.code Cdr.yN Cdr.yB 1 (some .byte))) (wks h (.initialized Cdr.yN.cls :: Cdr.site))
  have q := consq hc h
  exact unparts (wk q (.code Len.yN Len.yB 1 (some .int))) (wks q (.initialized Len.yN.cls :: Len.site))
theorem movedLen {Z s : State} {a0 args : Array Value} (hZ : Z.Warmed39 s.vm) (hw : ∀ d ∈ wordsLen, d.before a0 Z = true) : ∀ d ∈ wordsLen, d.before args s = true := fun d hd => by
  have q := hw d hd
  have t : ∀ d ∈ wordsLen, d = .arrayClass .byte ∨ (d.onTables && d.keepsFace) = true := by decide +kernel
  rcases t d hd with rfl | t
  · exact RoadKit.mvA hZ q
  · exact RoadKit.mv hZ q t
/-- the bytes of the chars cs, low before high -/
def wideBytes : List Int32 → List Value
  | [] => []
  | c :: cs => .int (lo8 c) :: .int (hi8 c) :: wideBytes cs
theorem wide_lo (d : Value) : ∀ (cs : List Int32) (j : Nat), j < cs.length → (wideBytes cs).getD (2 * j) d = .int (lo8 (cs.getD j 0))
  | [], j, h => absurd h (Nat.not_lt_zero j)
  | c :: cs, 0, _ => rfl
  | c :: cs, j + 1, h => by
    have q := wide_lo d cs j (by simpa using h)
    rw [show 2 * (j + 1) = 2 * j + 1 + 1 from by omega]
    simpa [wideBytes] using q
theorem wide_hi (d : Value) : ∀ (cs : List Int32) (j : Nat), j < cs.length → (wideBytes cs).getD (2 * j + 1) d = .int (hi8 (cs.getD j 0))
  | [], j, h => absurd h (Nat.not_lt_zero j)
  | c :: cs, 0, _ => rfl
  | c :: cs, j + 1, h => by
    have q := wide_hi d cs j (by simpa using h)
    rw [show 2 * (j + 1) + 1 = 2 * j + 1 + 1 + 1 from by omega]
    simpa [wideBytes] using q
theorem low_at (d : Value) (cs : List Int32) (j : Nat) (h : j < cs.length) : (cs.map fun c => Value.int (lo8 c)).getD j d = .int (lo8 (cs.getD j 0)) := by
  simp [List.getD_eq_getElem?_getD, h]
/-- an array of N2 bytes vs codes the chars cs by the coder cd -/
def CodA (cs : List Int32) (cd N2 : Int32) (vs : List Value) : Prop := (cd = 0 ∧ N2 = Int32.ofNat cs.length ∧ vs = (cs.map fun c => Value.int (lo8 c)) ∧ ∀ c ∈ cs, ¬ 255 < c) ∨ (cd = 1 ∧ N2 = Int32.ofNat (2 * cs.length) ∧ vs = wideBytes cs ∧ ∃ c ∈ cs, 255 < c)
theorem CodA.cod {cs : List Int32} {cd N2 : Int32} {vs : List Value} {V : Cell} (h : CodA cs cd N2 vs) (hn : 2 * cs.length < 2 ^ 31) (hs : V.slots.size = N2.toNatClampNeg) (hv : RoadKit.Has V vs (.int 0)) : Cod cd cs.length (fun j => cs.getD j 0) V := by
  rcases h with ⟨rfl, rfl, rfl, h⟩ | ⟨rfl, rfl, rfl, c, hc, hw⟩
  · rw [n32 (by omega)] at hs
    exact Or.inl ⟨rfl, hs, fun j hj => ⟨by rw [hv j (by omega), low_at _ _ _ hj], by
      have e : cs.getD j 0 = cs[j] := by simp [List.getD_eq_getElem?_getD, hj]
      show ¬ 255 < cs.getD j 0
      rw [e]; exact h _ (List.getElem_mem _)⟩⟩
  · rw [n32 (by omega)] at hs
    obtain ⟨j, hj, rfl⟩ := List.getElem_of_mem hc
    exact Or.inr ⟨rfl, hs, fun j hj => ⟨by rw [hv _ (by omega), wide_lo _ _ _ hj], by rw [hv _ (by omega), wide_hi _ _ _ hj]⟩, j, hj, by
      have e : cs.getD j 0 = cs[j] := by simp [List.getD_eq_getElem?_getD, hj]
      show 255 < cs.getD j 0
      rw [e]; exact hw⟩
/-- an object of exactly java/lang/String, its two fields found: as the laws ask it -/
theorem strObj {Z U : State} {a0 : Array Value} {kI : Nat} (wi : (Jvm.Cond.instantiable ST kI).before a0 Z = true) (al : Z.vm.Alike U.vm) {x : Addr} {v0 c0 : Value} (E : RoadKit.Exa Z U.heap x ST) (V : RoadKit.Fld Z U.heap x ST "value" "[B" v0) (C : RoadKit.Fld Z U.heap x ST "coder" "B" c0) :
    ∃ (D : Cell) (fV fC : Field), Blank ST x D U ∧ Found ST "value" "[B" fV U ∧ Found ST "coder" "B" fC U ∧ D.slots[fV.slot]? = some v0 ∧ D.slots[fC.slot]? = some c0 ∧ RoadKit.slotOf Z ST "value" "[B" = fV.slot ∧ RoadKit.slotOf Z ST "coder" "B" = fC.slot := by
  obtain ⟨D, cfV, kV, iV, fV, hD, gV, stV, knV, obV, asV, slV⟩ := V
  obtain ⟨D', cfC, kC, iC, fC, hD', gC, stC, -, -, asC, slC⟩ := C
  cases hD.symm.trans hD'
  obtain ⟨D2, kD, e1, e2, e3, e4, e5⟩ := E
  cases hD.symm.trans e1
  obtain ⟨c2, k2, i1, i2, i3, -⟩ := Cond.instantiable_spec wi
  cases e2.symm.trans i1
  cases e3.symm.trans i2
  obtain ⟨kU, u1, u2⟩ := al.2.2 _ _ e3
  exact ⟨D, fV, fC, ⟨hD, ⟨knV, fun q hq => by rw [hq] at obV; cases obV⟩, by rw [al.findClass]; exact e2, kU, u1, by rw [u2]; exact i3, by rw [u2]; exact e5 i3⟩, ⟨SBG.found_only al ⟨cfV, kV, iV, gV⟩, stV⟩, ⟨SBG.found_only al ⟨cfC, kC, iC, gC⟩, stC⟩, slV, slC, by simp [RoadKit.slotOf, gV], by simp [RoadKit.slotOf, gC]⟩
theorem sta_is {Z U : State} (al : Z.vm.Alike U.vm) {C n d : String} {v : Value} (S : RoadKit.Sta Z U.heap C n d v) : StaticIs U C n d v := by
  obtain ⟨cfS, iS, kS, fS, st, cS, t1, t2, t3, t4, t5, t6, t7⟩ := S
  exact StaticIs.there (s := { Z with heap := U.heap }) ⟨cfS, iS, kS, fS, st, cS, t1, t2, t3, t4, t5, (fun q => by rw [q] at t6; cases t6), t7⟩ al rfl
/-- **length() OF SUCH A STRING** -/
theorem lenW {p : Program} {l : Launch} {e : Env} {R : Room} {s : State} {args : Array Value} {below : List Frame} {len W : Nat} {Z : State} {a0 : Array Value} {h : Heap} (hZ : Z.Warmed39 s.vm) (hw : ∀ d ∈ wordsLen, d.before a0 Z = true) {kI : Nat} (wi : (Jvm.Cond.instantiable ST kI).before a0 Z = true)
    {x t : Addr} {kb : ClassId} {cs : List Int32} {cd N2 z : Int32} {vs : List Value} (E : RoadKit.Exa Z h x ST) (V : RoadKit.Fld Z h x ST "value" "[B" (.ref t)) (C : RoadKit.Fld Z h x ST "coder" "B" (.int cd)) (K : RoadKit.Arv Z h t kb .byte N2 vs (.int 0)) (hc : CodA cs cd N2 vs) (hb : ∀ c ∈ cs, ¬ c < 0 ∧ ¬ (65535 : Int32) < c)
    (S : RoadKit.Sta Z h ST "COMPACT_STRINGS" "Z" (.int z)) (hz : ¬ z = 0) (l2 : cs.length ≤ 4000) (hfr : 2 ≤ R.frames) (hlo : W + 25 ≤ R.locals) :
    Back l R p e below s args (⟨"java/lang/String", "length", "()I"⟩ : MethodName) len W (fun P a => a = #[.ref x] ∧ P.U.heap = h ∧ P.cells + 0 ≤ R.cells ∧ P.slots + 0 ≤ R.slots)
      (fun P _ v B => ∃ L, (v = some (.int (Int32.ofNat cs.length)) ∧ L = [] ∧ B.U.heap = h) ∧ B.locs = P.locs ++ L ∧ B.cells = P.cells + 0 ∧ B.slots = P.slots + 0) := by
  obtain ⟨A, K1, K2, K3, K4, K5, K6⟩ := K
  have hcod := hc.cod (by omega) K3 K5
  intro m meth c P g ig mk a X hg hsize hdg hW hn hp'
  obtain ⟨rfl, rfl, r1, r2⟩ := hp'
  have al : Z.vm.Alike P.U.vm := hZ.alike.trans X.warmed.alike
  obtain ⟨D, fV, fC, hB, F1, F2, g1, g2, -, -⟩ := strObj wi al E V C
  have hx : Txt x t A cd cs.length (fun j => cs.getD j 0) P.U := ⟨⟨_, hB.2.2.1, D, hB.1, rfl, by cases q : D.vm <;> first | rfl | exact absurd q (hB.2.1.2 _)⟩, Has.of hB F1 g1, Has.of hB F2 g2, ⟨K1.1, State.isArrayOf_alike al K1.2.1, K1.2.2, by rcases hcod with ⟨-, q, -⟩ | ⟨-, q, -⟩ <;> omega⟩, hcod, fun j hj => by
    have e : cs.getD j 0 = cs[j] := by simp [List.getD_eq_getElem?_getD, hj]
    show ¬ cs.getD j 0 < 0 ∧ ¬ 65535 < cs.getD j 0
    rw [e]; exact hb _ (List.getElem_mem _)⟩
  obtain ⟨v, B, X', ⟨⟨hv, hh⟩, hl, hk, hs⟩, st⟩ := Len.pays x t A cd cs.length (fun j => cs.getD j 0) z (tabLen_of (movedLen hZ hw)) hfr hlo m meth c P g ig mk _ X hg hsize hdg hW hn ⟨r1, r2, rfl, hx, sta_is al S, hz⟩
  exact ⟨v, B, X', ⟨[], ⟨hv, rfl, hh⟩, hl, hk, hs⟩, st⟩
end StrChars.Road
namespace StrChars.Road
open Jvm Sem ClassFile Op Lib Jvm.Stand Jvm.Free Jvm.Free.XT
open Jvm.Lib.Cold (StaticIs)
/-- the road's facts of a String, as the laws ask it -/
theorem txt_of {Z U : State} {a0 : Array Value} {kI : Nat} (wi : (Jvm.Cond.instantiable ST kI).before a0 Z = true) (al : Z.vm.Alike U.vm) {x t : Addr} {kb : ClassId} {cs : List Int32} {cd N2 : Int32} {vs : List Value} (E : RoadKit.Exa Z U.heap x ST) (V : RoadKit.Fld Z U.heap x ST "value" "[B" (.ref t)) (C : RoadKit.Fld Z U.heap x ST "coder" "B" (.int cd)) (K : RoadKit.Arv Z U.heap t kb .byte N2 vs (.int 0)) (hc : CodA cs cd N2 vs) (hb : ∀ c ∈ cs, ¬ c < 0 ∧ ¬ (65535 : Int32) < c) (l2 : cs.length ≤ 4000) :
    ∃ A, Txt x t A cd cs.length (fun j => cs.getD j 0) U := by
  obtain ⟨A, K1, K2, K3, K4, K5, K6⟩ := K
  have hcod := hc.cod (by omega) K3 K5
  obtain ⟨D, fV, fC, hB, F1, F2, g1, g2, -, -⟩ := strObj wi al E V C
  exact ⟨A, ⟨_, hB.2.2.1, D, hB.1, rfl, by cases q : D.vm <;> first | rfl | exact absurd q (hB.2.1.2 _)⟩, Has.of hB F1 g1, Has.of hB F2 g2, ⟨K1.1, State.isArrayOf_alike al K1.2.1, K1.2.2, by rcases hcod with ⟨-, q, -⟩ | ⟨-, q, -⟩ <;> omega⟩, hcod, fun j hj => by
    have e : cs.getD j 0 = cs[j] := by simp [List.getD_eq_getElem?_getD, hj]
    show ¬ cs.getD j 0 < 0 ∧ ¬ 65535 < cs.getD j 0
    rw [e]; exact hb _ (List.getElem_mem _)⟩
end StrChars.Road
namespace StrChars
open Jvm Sem ClassFile Op Lib Jvm.Stand Jvm.Free.XT Jvm.Free.ALB Jvm.Free.JM Jvm.Free
open Jvm.Lib.Cold (StaticIs)
namespace ChN
def yN : MethodName := ⟨"java/lang/String", "charAt", "(I)C"⟩
abbrev yB : ByteArray := jdk_42_method_56_code
theorem d0 : decode yB 0 = .ok (.aload_n 0, 1) := by decide +kernel
theorem d1 : decode yB 1 = .ok (.invokevirtual 492, 3) := by decide +kernel
theorem d4 : decode yB 4 = .ok (.ifCond (.eq) 12, 3) := by decide +kernel
theorem d7 : decode yB 7 = .ok (.aload_n 0, 1) := by decide +kernel
theorem d8 : decode yB 8 = .ok (.getfield 9, 3) := by decide +kernel
theorem d11 : decode yB 11 = .ok (.iload_n 1, 1) := by decide +kernel
theorem d12 : decode yB 12 = .ok (.invokestatic 495, 3) := by decide +kernel
theorem d15 : decode yB 15 = .ok (.ireturn, 1) := by decide +kernel
def site : List Cond := [.fieldLink "java/lang/String" 9 "java/lang/String" "value" "[B", IsL.tab, LChA.tab] ++ virtW "java/lang/String" 492 "java/lang/String" IsL.yN IsL.yN ++ staticW "java/lang/String" 495 LChA.yN
def tab : Cond := tabOf yN yB 2 (some .char) site
def P (x t : Addr) (V : Cell) (n : Nat) (f : Nat → Int32) (z : Int32) (fm : Value) (i : Nat) (args : Array Value) (s : State) : Prop := args = #[.ref x, .int (Int32.ofNat i)] ∧ Txt x t V 0 n f s ∧ i < n ∧ StaticIs s "java/lang/String" "COMPACT_STRINGS" "Z" (.int z) ∧ ¬ z = 0 ∧ StaticIs s "jdk/internal/util/Preconditions" "SIOOBE_FORMATTER" "Ljava/util/function/BiFunction;" fm ∧ fm.isRef = true
def E (f : Nat → Int32) (i : Nat) (r : Option Value) (s u : State) : Prop := XT.PureE (some (.int (f i))) r s u
/-- charAt(i) of a Latin-1 String of n chars, i < n: f i -/
theorem law (l : Launch) (x t : Addr) (V : Cell) (n : Nat) (f : Nat → Int32) (z : Int32) (fm : Value) (i : Nat) : Law l yN 2 1 3 40 yB 2 (some .char) site (P x t V n f z fm i) (E f i) [] 0 0 := by
  refine Law.of_walk (plainFor_of_name (by decide +kernel)) (by decide +kernel) (by decide +kernel) (by decide) (fun _ _ h => by rw [h.1]; rfl) (fun _ U U' hal hh h => ⟨h.1, h.2.1.mv hal hh, h.2.2.1, h.2.2.2.1.there hal hh, h.2.2.2.2.1, h.2.2.2.2.2.1.there hal hh, h.2.2.2.2.2.2⟩) (fun r U U' V V' h1 hal h2 h => XT.PureE.mv r U U' V V' h1 hal h2 h) ?_
  intro p e s m args below meth c s₁ X0 hexec hbytes hml hret hlk hnm hown hh0 W hP
  obtain ⟨rfl, hx, hi, s1, hz, s3, rf⟩ := hP
  have v31 := hx.2.2.2.1.2.2.2
  have hr := hx.2.2.2.2.2 i hi
  have hx0 := hx.mv X0.warmed.alike hh0
  have c1 : Steps p.tables e below (s₁.setTop (entryFrame m #[.ref x, .int (Int32.ofNat i)] 2)) (s₁.setTop (mkF m 1 #[.val (.ref x), .val (.int (Int32.ofNat i))] [.ref x])) := Steps.trans (entry rfl) (by
    show Steps p.tables e below (s₁.setTop (mkF m 0 #[.val (.ref x), .val (.int (Int32.ofNat i))] [])) _
    refine XS.aloadN X0.here hexec rfl (hb hbytes d0) rfl rfl ?_
    exact Steps.refl _)
  obtain ⟨v2, T2, X2, E2, g2⟩ := X0.callV hexec (IsL.law l x 0 z) hown (wks W (virtW "java/lang/String" 492 "java/lang/String" IsL.yN IsL.yN)) rfl (by decide) (wk W IsL.tab) (W := 0) (Nat.le_of_ble_eq_true rfl) (Nat.le_of_ble_eq_true rfl) (Nat.le_refl _) (Nat.le_refl _) (hx0.1.fc X0.warmed.alike) hx0.1.is (g := (mkF m 1 #[.val (.ref x), .val (.int (Int32.ofNat i))] [.ref x])) rfl (by rw [hml]; rfl) c1 (argsL := []) (rest := []) rfl rfl (by show 2 * 0 + 0 ≤ _; decide) (hb hbytes d1) (⟨rfl, hx0.2.2.1, hx.2.2.2.2.1.cd, s1.there X0.warmed.alike hh0, hz⟩)
  obtain ⟨rfl, q2⟩ := E2
  have hh2 := q2.trans hh0
  have hx2 := hx.mv X2.warmed.alike hh2
  obtain ⟨-, k1, k2⟩ | ⟨k0, -⟩ := hx.2.2.2.2.1
  · have c3 : Steps p.tables e below (s₁.setTop (entryFrame m #[.ref x, .int (Int32.ofNat i)] 2)) (T2.setTop (mkF m 8 #[.val (.ref x), .val (.int (Int32.ofNat i))] [.ref x])) := Steps.trans g2 (by
      refine XS.ifNo X2.here hexec rfl (hb hbytes d4) rfl (i0_eq_f (by decide)) ?_
      refine XS.aloadN X2.here hexec rfl (hb hbytes d7) rfl rfl ?_
      exact Steps.refl _)
    obtain ⟨T4, X4, q4, st4⟩ := X2.hget hexec hown (wk W (.fieldLink "java/lang/String" 9 "java/lang/String" "value" "[B")) hx2.2.1 (g := (mkF m 8 #[.val (.ref x), .val (.int (Int32.ofNat i))] [.ref x])) rfl (rest := []) rfl (hb hbytes d8)
    have hh4 := q4.trans hh2
    have c5 : Steps p.tables e below (s₁.setTop (entryFrame m #[.ref x, .int (Int32.ofNat i)] 2)) (T4.setTop (mkF m 12 #[.val (.ref x), .val (.int (Int32.ofNat i))] [.int (Int32.ofNat i), .ref t])) := (c3.trans (st4 _ (Steps.refl _))).trans (by
      refine XS.iloadN X4.here hexec rfl (hb hbytes d11) rfl ?_
      exact Steps.refl _)
    obtain ⟨v6, T6, X6, E6, g6⟩ := X4.callS hexec (LChA.law l t V i (lo8 (f i)) fm) hown (wks W (staticW "java/lang/String" 495 LChA.yN)) (wk W LChA.tab) (W := 0) (Nat.le_of_ble_eq_true rfl) (Nat.le_of_ble_eq_true rfl) (Nat.le_refl _) (Nat.le_refl _) (g := (mkF m 12 #[.val (.ref x), .val (.int (Int32.ofNat i))] [.int (Int32.ofNat i), .ref t])) rfl (by rw [hml]; rfl) c5 (argsL := [.ref t, .int (Int32.ofNat i)]) (rest := []) rfl rfl (by show 2 * 0 + 0 ≤ _; decide) (hb hbytes d12) (⟨rfl, hx.2.2.2.1.mv X4.warmed.alike hh4, (k2 i hi).1, s3.there X4.warmed.alike hh4, rf⟩)
    obtain ⟨rfl, q6⟩ := E6
    rw [chr8_lo8 hr.1 (k2 i hi).2] at g6
    exact ⟨T6, some (.int (f i)), _, _, _, X6, rfl, rfl, rfl, (fun h => by cases h), ⟨rfl, q6.trans hh4⟩, fun fs hl => Steps.trans g6 (X6.ireturnOut hexec hret (narrow_ch hr.1 hr.2) (Or.inr (Or.inr (Or.inr (Or.inl rfl)))) (hb hbytes d15) hl)⟩
  · exact absurd k0 (by decide)
theorem pays {l : Launch} {R : Room} {p : Program} {e : Env} {below : List Frame} {s : State} {sargs : Array Value} {len W : Nat} (x t : Addr) (V : Cell) (n : Nat) (f : Nat → Int32) (z : Int32) (fm : Value) (i : Nat) (htab : tab.before sargs s = true) (hfr : 4 ≤ R.frames) (hlo : W + 53 ≤ R.locals) :
    Back l R p e below s sargs yN len W (fun A₁ a₁ => A₁.cells + 0 ≤ R.cells ∧ A₁.slots + 0 ≤ R.slots ∧ P x t V n f z fm i a₁ A₁.U) (fun A₁ _ v₁ B₁ => E f i v₁ A₁.U B₁.U ∧ B₁.locs = A₁.locs ++ [] ∧ B₁.cells = A₁.cells + 0 ∧ B₁.slots = A₁.slots + 0) :=
  (law l x t V n f z fm i).pays htab hfr (by omega)
end ChN
end StrChars
namespace StrChars.Road
open Jvm Sem ClassFile Op Lib Jvm.Stand Jvm.Free Jvm.Free.XT
open Jvm.Lib.Cold (StaticIs)
/-- the words of String.charAt(int), the Latin-1 road alone -/
abbrev wordsChN : List Jvm.Cond := [.code ChN.yN ChN.yB 2 (some .char), .initialized ST, .fieldLink ST 9 ST "value" "[B", .fieldLink ST 38 ST "COMPACT_STRINGS" "Z", .fieldLink ST 15 ST "coder" "B", .code IsL.yN IsL.yB 1 (some .boolean), .methodLink ST 492 IsL.yN, .declares IsL.yN, .selects ST IsL.yN IsL.yN, .instanceMethod IsL.yN,
  .methodLink ST 495 LChA.yN, .static LChA.yN, .code LChA.yN LChA.yB 2 (some .char), .initialized "java/lang/StringLatin1", .methodLink "java/lang/StringLatin1" 9 JO.Str_checkIndex.yN, .static JO.Str_checkIndex.yN, .code JO.Str_checkIndex.yN JO.Str_checkIndex.yB 2 none,
  .fieldLink ST 1053 "jdk/internal/util/Preconditions" "SIOOBE_FORMATTER" "Ljava/util/function/BiFunction;", .methodLink ST 1059 JC.PreCheck.yN, .static JC.PreCheck.yN, .code JC.PreCheck.yN JC.PreCheck.yB 3 (some .int), .initialized "jdk/internal/util/Preconditions"]
theorem tabChN_of {a : Array Value} {s : State} (h : ∀ w ∈ wordsChN, w.before a s = true) : ChN.tab.before a s = true := by
  have hp : JC.PreCheck.tab.before a s = true := unparts (wk h (.code JC.PreCheck.yN JC.PreCheck.yB 3 (some .int))) (wks h (.initialized JC.PreCheck.yN.cls :: JC.PreCheck.site))
  have qk := consq hp h
  have hk : JO.Str_checkIndex.tab.before a s = true := unparts (wk qk (.code JO.Str_checkIndex.yN JO.Str_checkIndex.yB 2 none)) (wks qk (.initialized JO.Str_checkIndex.yN.cls :: JO.Str_checkIndex.site))
  have ql := consq hk h
  have hl : LChA.tab.before a s = true := unparts (wk ql (.code LChA.yN LChA.yB 2 (some .char))) (wks ql (.initialized LChA.yN.cls :: LChA.site))
  have hi : IsL.tab.before a s = true := unparts (wk h (.code IsL.yN IsL.yB 1 (some .boolean))) (wks h (.initialized IsL.yN.cls :: IsL.site))
  have q := consq hi (consq hl h)
  exact unparts (wk q (.code ChN.yN ChN.yB 2 (some .char))) (wks q (.initialized ChN.yN.cls :: ChN.site))
theorem movedChN {Z s : State} {a0 args : Array Value} (hZ : Z.Warmed39 s.vm) (hw : ∀ d ∈ wordsChN, d.before a0 Z = true) : ∀ d ∈ wordsChN, d.before args s = true := fun d hd => by
  have t : ∀ d ∈ wordsChN, (d.onTables && d.keepsFace) = true := by decide +kernel
  exact RoadKit.mv hZ (hw d hd) (t d hd)
/-- **charAt(i) OF A LATIN-1 STRING**, i < n: the char -/
theorem chN {p : Program} {l : Launch} {e : Env} {R : Room} {s : State} {args : Array Value} {below : List Frame} {len W : Nat} {Z : State} {a0 : Array Value} {h : Heap} (hZ : Z.Warmed39 s.vm) (hw : ∀ d ∈ wordsChN, d.before a0 Z = true) {kI : Nat} (wi : (Jvm.Cond.instantiable ST kI).before a0 Z = true)
    {x t : Addr} {kb : ClassId} {cs : List Int32} {N2 z : Int32} {vs : List Value} {fm : Value} {i : Nat} {j : Int32} (E : RoadKit.Exa Z h x ST) (V : RoadKit.Fld Z h x ST "value" "[B" (.ref t)) (C : RoadKit.Fld Z h x ST "coder" "B" (.int 0)) (K : RoadKit.Arv Z h t kb .byte N2 vs (.int 0)) (hc : CodA cs 0 N2 vs) (hb : ∀ c ∈ cs, ¬ c < 0 ∧ ¬ (65535 : Int32) < c)
    (S : RoadKit.Sta Z h ST "COMPACT_STRINGS" "Z" (.int z)) (hz : ¬ z = 0) (F : RoadKit.Sta Z h "jdk/internal/util/Preconditions" "SIOOBE_FORMATTER" "Ljava/util/function/BiFunction;" fm) (rf : fm.isRef = true) (l2 : cs.length ≤ 4000) (hi : i < cs.length) (hj : j = Int32.ofNat i) (hfr : 4 ≤ R.frames) (hlo : W + 53 ≤ R.locals) :
    Back l R p e below s args (⟨"java/lang/String", "charAt", "(I)C"⟩ : MethodName) len W (fun P a => a = #[.ref x, .int j] ∧ P.U.heap = h ∧ P.cells + 0 ≤ R.cells ∧ P.slots + 0 ≤ R.slots)
      (fun P _ v B => ∃ L, (v = some (.int (cs.getD i 0)) ∧ L = [] ∧ B.U.heap = h) ∧ B.locs = P.locs ++ L ∧ B.cells = P.cells + 0 ∧ B.slots = P.slots + 0) := by
  subst hj
  intro m meth c P g ig mk a X hg hsize hdg hW hn hp'
  obtain ⟨rfl, rfl, r1, r2⟩ := hp'
  have al : Z.vm.Alike P.U.vm := hZ.alike.trans X.warmed.alike
  obtain ⟨A, hx⟩ := txt_of wi al E V C K hc hb l2
  obtain ⟨v, B, X', ⟨⟨hv, hh⟩, hl, hk, hs⟩, st⟩ := ChN.pays x t A cs.length (fun j => cs.getD j 0) z fm i (tabChN_of (movedChN hZ hw)) hfr hlo m meth c P g ig mk _ X hg hsize hdg hW hn ⟨r1, r2, rfl, hx, hi, sta_is al S, hz, sta_is al F, rf⟩
  exact ⟨v, B, X', ⟨[], ⟨hv, rfl, hh⟩, hl, hk, hs⟩, st⟩
/-- what backV says of its String, as the contracts of this text ask it: cs's low bytes, coder 0 -/
theorem codOf {cs : List Int32} {n : Nat} (hn : cs.length = n) (hb : ∀ c ∈ cs, ¬ 255 < c) : CodA cs 0 (Int32.ofNat n) ((cs.map lo8).map Value.int) := Or.inl ⟨rfl, by rw [hn], by simp [List.map_map, Function.comp_def], hb⟩
end StrChars.Road
end Jvm.Pilot.@@N@@
namespace Jvm.Pilot.@@N@@
open Jvm Jvm.ClassFile Sem Op Lib Jvm.Free Jvm.Stand Jvm.LawKit Jvm.RoadKit Bundle Jvm.Own Jvm.Pilot.@@N@@.Jvm.D
theorem own_pd0 : parseMethodDescriptor "()B" = some ⟨[], some .byte⟩ := by decide +kernel
theorem own_pd1 : parseMethodDescriptor "(Ljava/lang/String;)V" = some ⟨[(.object "java/lang/String")], none⟩ := by decide +kernel
theorem own_pd2 : parseMethodDescriptor "([BIB)V" = some ⟨[(.array .byte), .int, .byte], none⟩ := by decide +kernel
theorem own_pd3 : parseMethodDescriptor "(II)I" = some ⟨[.int, .int], some .int⟩ := by decide +kernel
theorem own_pd4 : parseMethodDescriptor "(III)I" = some ⟨[.int, .int, .int], some .int⟩ := by decide +kernel
theorem own_pd5 : parseMethodDescriptor "(I)I" = some ⟨[.int], some .int⟩ := by decide +kernel
theorem own_pd6 : parseMethodDescriptor "([BI)[B" = some ⟨[(.array .byte), .int], some (.array .byte)⟩ := by decide +kernel
theorem own_pd7 : parseMethodDescriptor "()I" = some ⟨[], some .int⟩ := by decide +kernel
theorem own_pd8 : parseMethodDescriptor "(I)V" = some ⟨[.int], none⟩ := by decide +kernel
theorem own_pd9 : parseMethodDescriptor "(ILjava/lang/String;)V" = some ⟨[.int, (.object "java/lang/String")], none⟩ := by decide +kernel
theorem own_pd10 : parseMethodDescriptor "(Ljava/lang/String;)Ljava/lang/AbstractStringBuilder;" = some ⟨[(.object "java/lang/String")], some (.object "java/lang/AbstractStringBuilder")⟩ := by decide +kernel
theorem own_pd11 : parseMethodDescriptor "(II)V" = some ⟨[.int, .int], none⟩ := by decide +kernel
theorem own_pd12 : parseMethodDescriptor "([BII)[B" = some ⟨[(.array .byte), .int, .int], some (.array .byte)⟩ := by decide +kernel
theorem own_pd13 : parseMethodDescriptor "()[B" = some ⟨[], some (.array .byte)⟩ := by decide +kernel
theorem own_pd14 : parseMethodDescriptor "()Z" = some ⟨[], some .boolean⟩ := by decide +kernel
theorem own_pd15 : parseMethodDescriptor "(Ljava/lang/AbstractStringBuilder;Ljava/lang/Void;)V" = some ⟨[(.object "java/lang/AbstractStringBuilder"), (.object "java/lang/Void")], none⟩ := by decide +kernel
theorem own_pd16 : parseMethodDescriptor "(Ljava/lang/StringBuilder;)V" = some ⟨[(.object "java/lang/StringBuilder")], none⟩ := by decide +kernel
theorem own_pd17 : parseMethodDescriptor "(Ljava/lang/String;Ljava/lang/Throwable;)V" = some ⟨[(.object "java/lang/String"), (.object "java/lang/Throwable")], none⟩ := by decide +kernel
theorem own_pd18 : parseMethodDescriptor "()Ljava/lang/String;" = some ⟨[], some (.object "java/lang/String")⟩ := by decide +kernel
theorem own_pd19 : parseMethodDescriptor "(IIILjava/util/function/BiFunction;)I" = some ⟨[.int, .int, .int, (.object "java/util/function/BiFunction")], some .int⟩ := by decide +kernel
theorem own_pd20 : parseMethodDescriptor "()V" = some ⟨[], none⟩ := by decide +kernel
theorem own_pd21 : parseMethodDescriptor "(Ljava/lang/String;)Ljava/lang/StringBuilder;" = some ⟨[(.object "java/lang/String")], some (.object "java/lang/StringBuilder")⟩ := by decide +kernel
theorem own_pd22 : parseMethodDescriptor "(Ljava/lang/String;Ljava/lang/String;)Ljava/lang/String;" = some ⟨[(.object "java/lang/String"), (.object "java/lang/String")], some (.object "java/lang/String")⟩ := by decide +kernel
theorem own_pd23 : parseMethodDescriptor "(Ljava/lang/String;)Ljava/lang/String;" = some ⟨[(.object "java/lang/String")], some (.object "java/lang/String")⟩ := by decide +kernel
theorem own_pd24 : parseMethodDescriptor "(Lcom/example/vestwright/vestwright/run/RunRefusedException$Kind;Ljava/lang/String;Ljava/lang/Exception;)V" = some ⟨[(.object "com/example/vestwright/vestwright/run/RunRefusedException$Kind"), (.object "java/lang/String"), (.object "java/lang/Exception")], none⟩ := by decide +kernel
theorem own_pd25 : parseMethodDescriptor "([C)V" = some ⟨[(.array .char)], none⟩ := by decide +kernel
theorem own_pd26 : parseMethodDescriptor "(Ljava/lang/String;Ljava/lang/String;Z)Lcom/example/vestwright/vestwright/run/RunRefusedException;" = some ⟨[(.object "java/lang/String"), (.object "java/lang/String"), .boolean], some (.object "com/example/vestwright/vestwright/run/RunRefusedException")⟩ := by decide +kernel
theorem own_pd27 : parseMethodDescriptor "()Lcom/example/vestwright/vestwright/run/RunRefusedException$Kind;" = some ⟨[], some (.object "com/example/vestwright/vestwright/run/RunRefusedException$Kind")⟩ := by decide +kernel
theorem own_pd28 : parseMethodDescriptor "(I)C" = some ⟨[.int], some .char⟩ := by decide +kernel
theorem own_pn0 : plainFor (⟨"java/lang/Math", "max", "(II)I"⟩ : MethodName) = true := by first | exact plainFor_of_name (by first | (simp [plainName, overriddenIn, x]; done) | decide +kernel) | decide +kernel
theorem own_pn1 : plainFor (⟨"java/lang/Math", "min", "(II)I"⟩ : MethodName) = true := by first | exact plainFor_of_name (by first | (simp [plainName, overriddenIn, x]; done) | decide +kernel) | decide +kernel
theorem own_pn2 : plainFor (⟨"java/lang/String", "coder", "()B"⟩ : MethodName) = true := by first | exact plainFor_of_name (by first | (simp [plainName, overriddenIn, x]; done) | decide +kernel) | decide +kernel
theorem own_pn3 : plainFor (⟨"java/lang/AbstractStringBuilder", "inflateIfNeededFor", "(Ljava/lang/String;)V"⟩ : MethodName) = true := by first | exact plainFor_of_name (by first | (simp [plainName, overriddenIn, x]; done) | decide +kernel) | decide +kernel
theorem own_pn4 : plainFor (⟨"java/lang/String", "getBytes", "([BIB)V"⟩ : MethodName) = true := by first | exact plainFor_of_name (by first | (simp [plainName, overriddenIn, x]; done) | decide +kernel) | decide +kernel
theorem own_pn5 : plainFor (⟨"java/lang/AbstractStringBuilder", "putStringAt", "(ILjava/lang/String;)V"⟩ : MethodName) = true := by first | exact plainFor_of_name (by first | (simp [plainName, overriddenIn, x]; done) | decide +kernel) | decide +kernel
theorem own_pn6 : plainFor (⟨"jdk/internal/util/ArraysSupport", "newLength", "(III)I"⟩ : MethodName) = true := by first | exact plainFor_of_name (by first | (simp [plainName, overriddenIn, x]; done) | decide +kernel) | decide +kernel
theorem own_pn7 : plainFor (⟨"java/lang/AbstractStringBuilder", "newCapacity", "(I)I"⟩ : MethodName) = true := by first | exact plainFor_of_name (by first | (simp [plainName, overriddenIn, x]; done) | decide +kernel) | decide +kernel
theorem own_pn8 : plainFor (⟨"java/util/Arrays", "copyOf", "([BI)[B"⟩ : MethodName) = true := by first | exact plainFor_of_name (by first | (simp [plainName, overriddenIn, x]; done) | decide +kernel) | decide +kernel
theorem own_pn9 : plainFor (⟨"java/lang/AbstractStringBuilder", "ensureCapacityInternal", "(I)V"⟩ : MethodName) = true := by first | exact plainFor_of_name (by first | (simp [plainName, overriddenIn, x]; done) | decide +kernel) | decide +kernel
theorem own_pn10 : plainFor (⟨"java/lang/AbstractStringBuilder", "append", "(Ljava/lang/String;)Ljava/lang/AbstractStringBuilder;"⟩ : MethodName) = true := by first | exact plainFor_of_name (by first | (simp [plainName, overriddenIn, x]; done) | decide +kernel) | decide +kernel
theorem own_pn11 : plainFor (⟨"java/lang/StringBuilder", "append", "(Ljava/lang/String;)Ljava/lang/StringBuilder;"⟩ : MethodName) = true := by first | exact plainFor_of_name (by first | (simp [plainName, overriddenIn, x]; done) | decide +kernel) | decide +kernel
theorem own_pn12 : plainFor (⟨"java/lang/AbstractStringBuilder", "<init>", "(I)V"⟩ : MethodName) = true := by first | exact plainFor_of_name (by first | (simp [plainName, overriddenIn, x]; done) | decide +kernel) | decide +kernel
theorem own_pn13 : plainFor (⟨"java/lang/StringBuilder", "<init>", "()V"⟩ : MethodName) = true := by first | exact plainFor_of_name (by first | (simp [plainName, overriddenIn, x]; done) | decide +kernel) | decide +kernel
theorem own_pn14 : plainFor (⟨"java/util/Arrays", "checkLength", "(II)V"⟩ : MethodName) = true := by first | exact plainFor_of_name (by first | (simp [plainName, overriddenIn, x]; done) | decide +kernel) | decide +kernel
theorem own_pn15 : plainFor (⟨"java/util/Arrays", "copyOfRangeByte", "([BII)[B"⟩ : MethodName) = true := by first | exact plainFor_of_name (by first | (simp [plainName, overriddenIn, x]; done) | decide +kernel) | decide +kernel
theorem own_pn16 : plainFor (⟨"java/util/Arrays", "copyOfRange", "([BII)[B"⟩ : MethodName) = true := by first | exact plainFor_of_name (by first | (simp [plainName, overriddenIn, x]; done) | decide +kernel) | decide +kernel
theorem own_pn17 : plainFor (⟨"java/lang/AbstractStringBuilder", "getValue", "()[B"⟩ : MethodName) = true := by first | exact plainFor_of_name (by first | (simp [plainName, overriddenIn, x]; done) | decide +kernel) | decide +kernel
theorem own_pn18 : plainFor (⟨"java/lang/AbstractStringBuilder", "length", "()I"⟩ : MethodName) = true := by first | exact plainFor_of_name (by first | (simp [plainName, overriddenIn, x]; done) | decide +kernel) | decide +kernel
theorem own_pn19 : plainFor (⟨"java/lang/StringBuilder", "length", "()I"⟩ : MethodName) = true := by first | exact plainFor_of_name (by first | (simp [plainName, overriddenIn, x]; done) | decide +kernel) | decide +kernel
theorem own_pn20 : plainFor (⟨"java/lang/AbstractStringBuilder", "isLatin1", "()Z"⟩ : MethodName) = true := by first | exact plainFor_of_name (by first | (simp [plainName, overriddenIn, x]; done) | decide +kernel) | decide +kernel
theorem own_pn21 : plainFor (⟨"java/lang/String", "<init>", "(Ljava/lang/AbstractStringBuilder;Ljava/lang/Void;)V"⟩ : MethodName) = true := by first | exact plainFor_of_name (by first | (simp [plainName, overriddenIn, x]; done) | decide +kernel) | decide +kernel
theorem own_pn22 : plainFor (⟨"java/lang/String", "<init>", "(Ljava/lang/StringBuilder;)V"⟩ : MethodName) = true := by first | exact plainFor_of_name (by first | (simp [plainName, overriddenIn, x]; done) | decide +kernel) | decide +kernel
theorem own_pn23 : plainFor (⟨"java/lang/StringBuilder", "toString", "()Ljava/lang/String;"⟩ : MethodName) = true := by first | exact plainFor_of_name (by first | (simp [plainName, overriddenIn, x]; done) | decide +kernel) | decide +kernel
theorem own_pn24 : plainFor (⟨"java/lang/Throwable", "<init>", "(Ljava/lang/String;Ljava/lang/Throwable;)V"⟩ : MethodName) = true := by first | exact plainFor_of_name (by first | (simp [plainName, overriddenIn, x]; done) | decide +kernel) | decide +kernel
theorem own_pn25 : plainFor (⟨"java/lang/Exception", "<init>", "(Ljava/lang/String;Ljava/lang/Throwable;)V"⟩ : MethodName) = true := by first | exact plainFor_of_name (by first | (simp [plainName, overriddenIn, x]; done) | decide +kernel) | decide +kernel
theorem own_pn26 : plainFor (⟨"java/lang/Throwable", "getMessage", "()Ljava/lang/String;"⟩ : MethodName) = true := by first | exact plainFor_of_name (by first | (simp [plainName, overriddenIn, x]; done) | decide +kernel) | decide +kernel
theorem own_pn27 : plainFor (⟨"com/example/vestwright/vestwright/run/RunRefusedException", "kind", "()Lcom/example/vestwright/vestwright/run/RunRefusedException$Kind;"⟩ : MethodName) = true := by first | exact plainFor_of_name (by first | (simp [plainName, overriddenIn, x]; done) | decide +kernel) | decide +kernel
theorem own_pn28 : plainFor (⟨"com/example/vestwright/vestwright/run/RunRefusedException", "<init>", "(Lcom/example/vestwright/vestwright/run/RunRefusedException$Kind;Ljava/lang/String;Ljava/lang/Exception;)V"⟩ : MethodName) = true := by first | exact plainFor_of_name (by first | (simp [plainName, overriddenIn, x]; done) | decide +kernel) | decide +kernel
theorem own_pn29 : plainFor (⟨"com/example/vestwright/vestwright/run/RunRefusedException", "reason", "()Ljava/lang/String;"⟩ : MethodName) = true := by first | exact plainFor_of_name (by first | (simp [plainName, overriddenIn, x]; done) | decide +kernel) | decide +kernel
theorem own_pn30 : plainFor (⟨"jdk/internal/util/Preconditions", "checkFromToIndex", "(IIILjava/util/function/BiFunction;)I"⟩ : MethodName) = true := by first | exact plainFor_of_name (by first | (simp [plainName, overriddenIn, x]; done) | decide +kernel) | decide +kernel
theorem own_pn31 : plainFor (⟨"java/util/Objects", "checkFromToIndex", "(III)I"⟩ : MethodName) = true := by first | exact plainFor_of_name (by first | (simp [plainName, overriddenIn, x]; done) | decide +kernel) | decide +kernel
theorem own_pn32 : plainFor (⟨"java/lang/String", "isLatin1", "()Z"⟩ : MethodName) = true := by first | exact plainFor_of_name (by first | (simp [plainName, overriddenIn, x]; done) | decide +kernel) | decide +kernel
theorem own_pn33 : plainFor (⟨"java/lang/String", "codePointCount", "(II)I"⟩ : MethodName) = true := by first | exact plainFor_of_name (by first | (simp [plainName, overriddenIn, x]; done) | decide +kernel) | decide +kernel
theorem own_pn34 : plainFor (⟨"com/example/vestwright/vestwright/Quote", "bounded", "(Ljava/lang/String;Ljava/lang/String;)Ljava/lang/String;"⟩ : MethodName) = true := by first | exact plainFor_of_name (by first | (simp [plainName, overriddenIn, x]; done) | decide +kernel) | decide +kernel
theorem own_pn35 : plainFor (⟨"com/example/vestwright/vestwright/Quote", "name", "(Ljava/lang/String;)Ljava/lang/String;"⟩ : MethodName) = true := by first | exact plainFor_of_name (by first | (simp [plainName, overriddenIn, x]; done) | decide +kernel) | decide +kernel
theorem own_pn36 : plainFor (⟨"com/example/vestwright/vestwright/run/RunRefusedException", "noElections", "(Ljava/lang/String;Ljava/lang/String;Z)Lcom/example/vestwright/vestwright/run/RunRefusedException;"⟩ : MethodName) = true := by first | exact plainFor_of_name (by first | (simp [plainName, overriddenIn, x]; done) | decide +kernel) | decide +kernel
theorem own_pn37 : plainFor x = true := by first | exact plainFor_of_name (by first | (simp [plainName, overriddenIn, x]; done) | decide +kernel) | decide +kernel
theorem al0 {α : Type} {P : α → Prop} : ∀ c ∈ ([] : List α), P c := fun _ q => nomatch q
theorem alS {α : Type} {P : α → Prop} {a : α} {L : List α} (q : P a) (r : ∀ c ∈ L, P c) : ∀ c ∈ a :: L, P c := fun c z => (List.mem_cons.mp z).elim (fun u => u ▸ q) (r c)
theorem ifc {P Q : Prop} [Decidable P] [Decidable Q] {a b : Int32} (h : P ↔ Q) : (if P then a else b) = (if Q then a else b) := by
  by_cases q : P
  · rw [if_pos q, if_pos (h.mp q)]
  · rw [if_neg q, if_neg (fun z => q (h.mpr z))]
theorem jn {A G : Prop} (h1 : A → G) (h2 : A) : G := h1 h2
/-- C (whose superclass is O, which has none) is no K -/
theorem notSub {Z : State} {a0 : Array Value} {C O K : String} {n : Nat} (w1 : (Jvm.Cond.superclass C O).before a0 Z = true) (w2 : (Jvm.Cond.noSuperclass O).before a0 Z = true) (w3 : (Jvm.Cond.instantiable K n).before a0 Z = true) (h1 : C ≠ K) (h2 : O ≠ K) : ∃ c t, Z.vm.findClass C = some c ∧ Z.vm.findClass K = some t ∧ Z.vm.assignable c t = false := by
  obtain ⟨c, hc⟩ := found_sup w1
  obtain ⟨q, k, kq, a1, a2, a3, a4, a5, a6, a7⟩ := Cond.superclass_spec hc w1
  obtain ⟨q', kq', b1, b2, b3, b4, b5⟩ := Cond.noSuperclass_spec w2
  cases a1.symm.trans b1
  cases a3.symm.trans b2
  obtain ⟨t, kt, d1, d2, d3, d4, -⟩ := Cond.instantiable_spec w3
  have n1 : c ≠ t := ids_ne hc d1 h1
  have n2 : q ≠ t := ids_ne b1 d1 h2
  have d5 : kt.isInterface = false := by
    cases hk : kt.isInterface with
    | false => rfl
    | true => rw [hk] at d4; simp at d4
  have s1 : ∀ fuel, Z.vm.isSubclassAux fuel q t = false := fun fuel => by
    cases fuel with
    | zero => rfl
    | succ f => simp [Vm.isSubclassAux, n2, b2, b3]
  have s2 : ∀ fuel, Z.vm.isSubclassAux fuel c t = false := fun fuel => by
    cases fuel with
    | zero => rfl
    | succ f => simp [Vm.isSubclassAux, n1, a2, a4, s1]
  refine ⟨c, t, hc, d1, ?_⟩
  show Z.vm.assignableAux (255 + 1) c t = false
  simp [Vm.assignableAux, n1, a2, d2, a5, d3, d5, Vm.isSubclass, s2]
theorem insNo {Z : State} {h : Heap} {a : Addr} {C K : String} (E : Exa Z h a C) (q : ∃ c t, Z.vm.findClass C = some c ∧ Z.vm.findClass K = some t ∧ Z.vm.assignable c t = false) : Ins Z h a K false := by
  obtain ⟨c, t, q1, q2, q3⟩ := q
  obtain ⟨cell, k, e1, e2, -⟩ := E
  cases q1.symm.trans e2
  exact ⟨cell, t, e1, q2, by simp [q3]⟩
section StrKit
variable {p : Program} {l : Launch} {e : Env} {R : Room} {s : State} {args : Array Value} {below : List Frame} {Z : State} {a0 : Array Value} {EL : List (String × Nat)} {kn : Prop} {ws : List Addr} {h h' : Heap} {a b x y : Addr} {cs ds : List Int32} {G1 : Int32} {W : Nat}
/-- a String and its chars -/
def Str (Z : State) (h : Heap) (a : Addr) (cs : List Int32) : Prop := ∃ (t : Addr) (kb : ClassId) (cd N : Int32) (vs : List Value), Exa Z h a "java/lang/String" ∧ Fld Z h a "java/lang/String" "value" "[B" (.ref t) ∧ Fld Z h a "java/lang/String" "coder" "B" (.int cd) ∧ Arv Z h t kb .byte N vs (.int 0) ∧ StrChars.Road.CodA cs cd N vs ∧ (∀ c ∈ cs, ¬ c < 0 ∧ ¬ (65535 : Int32) < c) ∧ cs.length ≤ 4000
theorem Str.ext (S : Str Z h a cs) (E : Ext h h') : Str Z h' a cs := by
  obtain ⟨t, kb, cd, N, vs, s1, s2, s3, s4, r⟩ := S
  exact ⟨t, kb, cd, N, vs, s1.ext E, s2.ext E, s3.ext E, s4.ext E, r⟩
theorem Str.exa (S : Str Z h a cs) : Exa Z h a "java/lang/String" := by obtain ⟨t, kb, cd, N, vs, s1, -⟩ := S; exact s1
theorem Str.lt (S : Str Z h a cs) : a < h.size := S.exa.lt
theorem Str.wr {C : String} {kI sl : Nat} {v : Value} (S : Str Z h a cs) (W : Wr h h' b sl v) (E : Exa Z h b C) (hC : C ≠ "java/lang/String") (wi : (Jvm.Cond.instantiable C kI).before a0 Z = true) : Str Z h' a cs := by
  obtain ⟨t, kb, cd, N, vs, s1, s2, s3, s4, r⟩ := S
  have n1 : a ≠ b := Exa.ne s1 E (Ne.symm hC)
  have n2 : t ≠ b := (Exa.neArv E s4 wi).symm
  exact ⟨t, kb, cd, N, vs, s1.wr W, s2.other W (Or.inl n1), s3.other W (Or.inl n1), s4.other W n2, r⟩
theorem arv_ty {t : Addr} {kb : ClassId} {N : Int32} {vs us : List Value} {dv : Value} {ty ty' : FieldType} (F : Arv Z h t kb ty' N vs dv) (A : Own.Ary Z h b ty us) (hty : ty' ≠ ty) : t ≠ b := fun q => by
  subst q
  obtain ⟨c1, ⟨e1, ⟨-, k1, f1, m1, g1⟩, -⟩, -⟩ := F
  obtain ⟨c2, ⟨e2, ⟨-, k2, f2, m2, g2⟩, -⟩, -⟩ := A
  cases e1.symm.trans e2
  cases f1.symm.trans f2
  have := g1.symm.trans g2
  injection this with _ r
  exact hty r
theorem Str.wrA {sl kI : Nat} {v : Value} {us : List Value} {ty : FieldType} (S : Str Z h a cs) (W : Wr h h' b sl v) (A : Own.Ary Z h b ty us) (hty : FieldType.byte ≠ ty) (wi : (Jvm.Cond.instantiable "java/lang/String" kI).before a0 Z = true) : Str Z h' a cs := by
  obtain ⟨t, kb, cd, N, vs, s1, s2, s3, s4, r⟩ := S
  obtain ⟨kc, A'⟩ := A.arv .null
  have n1 : a ≠ b := Exa.neArv s1 A' wi
  have n2 : t ≠ b := arv_ty s4 A hty
  exact ⟨t, kb, cd, N, vs, s1.wr W, s2.other W (Or.inl n1), s3.other W (Or.inl n1), s4.other W n2, r⟩
theorem Str.keep {C : String} {kI : Nat} (S : Str Z h a cs) (K : Keep h h' [b]) (E : Exa Z h b C) (hC : C ≠ "java/lang/String") (wi : (Jvm.Cond.instantiable C kI).before a0 Z = true) : Str Z h' a cs := by
  obtain ⟨t, kb, cd, N, vs, s1, s2, s3, s4, r⟩ := S
  have n1 : a ≠ b := Exa.ne s1 E (Ne.symm hC)
  have n2 : t ≠ b := (Exa.neArv E s4 wi).symm
  exact ⟨t, kb, cd, N, vs, s1.keep K, s2.keep K (ninS n1 nin0), s3.keep K (ninS n1 nin0), s4.keep K (ninS n2 nin0), r⟩
theorem newStrPay (hw : ∀ d ∈ tables_1, d.before a0 Z = true) (hEL : EW Z a0 EL) (O2 : Sta Z Z.heap "java/lang/String" "COMPACT_STRINGS" "Z" (.int G1)) (P5 : ¬ G1 = 0) (hE : Ext Z.heap h) {v0 c0 : Value} (hx0 : Z.heap.size ≤ x) (hx : x ∈ ws) (E : Exa Z h x "java/lang/String") (V : Fld Z h x "java/lang/String" "value" "[B" v0) (C : Fld Z h x "java/lang/String" "coder" "B" c0) {vs : List Value} (hvs : vs = cs.map Value.int) (A : Own.Ary Z h b .char vs)
    {n : Nat} (hn : cs.length = n) (h0 : 0 < n) (h4 : n ≤ 4000) (hp : ∀ c ∈ cs, ¬ c < 0 ∧ ¬ (255 : Int32) < c) (hfr : 4 ≤ R.frames) (hlo : W + 65 ≤ R.locals) :
    Own.Pay l R p e below s args Z EL kn ws ⟨"java/lang/String", "<init>", "([C)V"⟩ 3 W 1 n #[.ref x, .ref b] h (fun v h' ws' => v = none ∧ Keep h h' [x] ∧ Str Z h' x cs ∧ ws' = []) := by
  subst hvs
  obtain ⟨kc, K⟩ := A.arv (.int 0)
  rw [List.length_map] at K
  have hws : ∀ d ∈ StrChars.Road.words, d.before a0 Z = true := fun d hd => hw d ((by decide +kernel : ∀ d ∈ StrChars.Road.words, d ∈ tables_1) d hd)
  refine Own.Pay.of_back (Q0 := fun v h' L => StrChars.Road.QV Z x (Int32.ofNat n) (cs.map fun c => c.toInt8.toInt32) h Z.heap.size v h' L) hEL (fun vm0 hZ => StrChars.Road.backV (s := s.setVm vm0) hZ hws (kI := 4) (hw _ (List.mem_of_getElem? (i := 2) rfl)) (cs := cs) (n := n) hx0 hE.1 E V C (hn ▸ K) (O2.ext hE) P5 hn rfl h0 h4 hp rfl hfr hlo) (fun v h' L q => ?_)
  obtain ⟨q1, q2, q3, q4, q5, t, kb, -, -, -, q6, q7⟩ := q
  refine ⟨[x], [], q3, fun y hy => ?_, q2, ⟨q1, q3, ⟨t, kb, 0, _, _, q4, q6, q5, q7, ?_, fun c hc => ⟨(hp c hc).1, fun r => (hp c hc).2 ?_⟩, by omega⟩, rfl⟩, fun y hy => by cases hy⟩
  · cases List.mem_singleton.mp hy; exact ⟨hx, hx0⟩
  · exact StrChars.Road.codOf hn (fun c hc => (hp c hc).2)
  · rw [Int32.lt_iff_toInt_lt] at r ⊢; have e1 : (65535 : Int32).toInt = 65535 := rfl; have e2 : (255 : Int32).toInt = 255 := rfl; omega
theorem lenPay (hw : ∀ d ∈ tables_1, d.before a0 Z = true) (hEL : EW Z a0 EL) (O2 : Sta Z Z.heap "java/lang/String" "COMPACT_STRINGS" "Z" (.int G1)) (P5 : ¬ G1 = 0) (hE : Ext Z.heap h) (S : Str Z h x cs) (hfr : 2 ≤ R.frames) (hlo : W + 25 ≤ R.locals) :
    Own.Pay l R p e below s args Z EL kn ws ⟨"java/lang/String", "length", "()I"⟩ 3 W 0 0 #[.ref x] h (fun v h' ws' => v = some (.int (Int32.ofNat cs.length)) ∧ h' = h ∧ ws' = []) := by
  obtain ⟨t, kb, cd, N, vs, s1, s2, s3, s4, s5, s6, s7⟩ := S
  have hws : ∀ d ∈ StrChars.Road.wordsLen, d.before a0 Z = true := fun d hd => hw d ((by decide +kernel : ∀ d ∈ StrChars.Road.wordsLen, d ∈ tables_1) d hd)
  refine Own.Pay.of_back (Q0 := fun v h' L => v = some (.int (Int32.ofNat cs.length)) ∧ L = [] ∧ h' = h) hEL (fun vm0 hZ => StrChars.Road.lenW (s := s.setVm vm0) hZ hws (kI := 4) (hw _ (List.mem_of_getElem? (i := 2) rfl)) s1 s2 s3 s4 s5 s6 (O2.ext hE) P5 s7 hfr hlo) (fun v h' L q => ?_)
  obtain ⟨q1, rfl, rfl⟩ := q
  exact ⟨[], [], Keep.refl _ _, fun y hy => (by cases hy), Fr.nil _, ⟨q1, rfl, rfl⟩, fun y hy => by cases hy⟩
end StrKit

/-- (char) ((x >>> k) & 0xff), as it lies in a char[] -/
def chA (x k : Int32) : Int32 := nar .char ((((x.toUInt32 >>> (k &&& 31).toUInt32).toInt32) &&& (255 : Int32)).toUInt32.toUInt16.toUInt32.toInt32)
theorem nar_toInt (y : Int32) (h0 : 0 ≤ y.toInt) (h1 : y.toInt < 65536) : (nar .char y.toUInt32.toUInt16.toUInt32.toInt32).toInt = y.toInt := by
  have q1 := c_i2c y
  have q2 := c_i2c y.toUInt32.toUInt16.toUInt32.toInt32
  show (y.toUInt32.toUInt16.toUInt32.toInt32.toUInt32.toUInt16.toUInt32.toInt32).toInt = _
  omega
theorem chA_toInt (x k : Int32) (n : Nat) (hk : k.toBitVec.toNat % 32 = n) (h0 : 0 < n) : (chA x k).toInt = ((x.toInt % 4294967296) / (2 ^ n : Nat)) % 256 := by
  have q1 := c_mask ((x.toUInt32 >>> (k &&& 31).toUInt32).toInt32) 255 8 (by decide) (by decide)
  have q2 := c_iushr x k n hk h0
  rw [q2] at q1
  have q3 : ((2 ^ 8 : Nat) : Int) = 256 := by decide
  rw [q3] at q1
  unfold chA
  rw [nar_toInt _ (by rw [q1]; omega) (by rw [q1]; omega), q1]
theorem chA_ok (x k : Int32) (n : Nat) (hk : k.toBitVec.toNat % 32 = n) (h0 : 0 < n) : ¬ chA x k < 0 ∧ ¬ (255 : Int32) < chA x k := by
  have q := chA_toInt x k n hk h0
  have e0 : (0 : Int32).toInt = 0 := rfl
  have e1 : (255 : Int32).toInt = 255 := rfl
  rw [Int32.lt_iff_toInt_lt, Int32.lt_iff_toInt_lt, e0, e1, q]
  omega
/-- (char) (x & 0xff), as it lies in a char[] -/
def chB (x : Int32) : Int32 := nar .char ((x &&& (255 : Int32)).toUInt32.toUInt16.toUInt32.toInt32)
theorem chB_toInt (x : Int32) : (chB x).toInt = x.toInt % 256 := by
  have q1 := c_mask x 255 8 (by decide) (by decide)
  have q3 : ((2 ^ 8 : Nat) : Int) = 256 := by decide
  rw [q3] at q1
  unfold chB
  rw [nar_toInt _ (by rw [q1]; omega) (by rw [q1]; omega), q1]
theorem chB_ok (x : Int32) : ¬ chB x < 0 ∧ ¬ (255 : Int32) < chB x := by
  have q := chB_toInt x
  have e0 : (0 : Int32).toInt = 0 := rfl
  have e1 : (255 : Int32).toInt = 255 := rfl
  rw [Int32.lt_iff_toInt_lt, Int32.lt_iff_toInt_lt, e0, e1, q]
  omega
theorem and3_cases (y : Int32) : (y &&& (3 : Int32)) = (0 : Int32) ∨ (y &&& (3 : Int32)) = (1 : Int32) ∨ (y &&& (3 : Int32)) = (2 : Int32) ∨ (y &&& (3 : Int32)) = (3 : Int32) := by
  have q := c_mask y 3 2 (by decide) (by decide)
  simp only [← Int32.toInt_inj]
  have e0 : (0 : Int32).toInt = 0 := rfl
  have e1 : (1 : Int32).toInt = 1 := rfl
  have e2 : (2 : Int32).toInt = 2 := rfl
  have e3 : (3 : Int32).toInt = 3 := rfl
  have q3 : ((2 ^ 2 : Nat) : Int) = 4 := by decide
  rw [e0, e1, e2, e3, q, q3]
  omega

theorem on_lt {a b : Nat} (ha : a < 2 ^ 31) (hb : b < 2 ^ 31) : Int32.ofNat a < Int32.ofNat b ↔ a < b := by
  have e1 : (Int32.ofNat a).toInt = a := Int32.toInt_ofNat_of_lt (by omega)
  have e2 : (Int32.ofNat b).toInt = b := Int32.toInt_ofNat_of_lt (by omega)
  rw [Int32.lt_iff_toInt_lt, e1, e2]; omega
theorem on_eq {a b : Nat} (ha : a < 2 ^ 31) (hb : b < 2 ^ 31) : Int32.ofNat a = Int32.ofNat b ↔ a = b := by
  have e1 : (Int32.ofNat a).toInt = a := Int32.toInt_ofNat_of_lt (by omega)
  have e2 : (Int32.ofNat b).toInt = b := Int32.toInt_ofNat_of_lt (by omega)
  rw [← Int32.toInt_inj, e1, e2]; omega
theorem on_succ (a : Nat) : Int32.ofNat a + (1 : Int32) = Int32.ofNat (a + 1) := by
  rw [Int32.ofNat_add]; rfl
theorem on_nn {a : Nat} (ha : a < 2 ^ 31) : ¬ Int32.ofNat a < 0 := Own.nn32 ha
/-- the first place from i on (in the list that stands at i) where ch stands, or -1 -/
def ixF : List Int32 → Int32 → Nat → Int32
  | [], _, _ => (-1 : Int32)
  | c :: r, ch, i => if c = ch then Int32.ofNat i else ixF r ch (i + 1)
theorem ixF_cases : ∀ (l : List Int32) (ch : Int32) (i : Nat), (ixF l ch i = (-1 : Int32) ∧ ch ∉ l) ∨ ∃ j, j < l.length ∧ ixF l ch i = Int32.ofNat (i + j) ∧ ch ∈ l
  | [], ch, i => Or.inl ⟨rfl, by simp⟩
  | c :: r, ch, i => by
    by_cases q : c = ch
    · exact Or.inr ⟨0, by simp, by simp [ixF, q], by simp [q]⟩
    · rcases ixF_cases r ch (i + 1) with ⟨h1, h2⟩ | ⟨j, h1, h2, h3⟩
      · exact Or.inl ⟨by simp [ixF, q, h1], by simp [h2, Ne.symm q]⟩
      · exact Or.inr ⟨j + 1, by simp [h1], by simp only [ixF, q, if_false, h2]; congr 1; omega, by simp [h3]⟩
/-- where skipFrom comes to -/
def sfV (cs : List Int32) (st : Int32) (i : Nat) : Int32 := if ixF (cs.drop i) st i < 0 then Int32.ofNat cs.length else ixF (cs.drop i) st i
theorem neg1 : (-1 : Int32) < 0 := by decide
theorem sfV_end (cs : List Int32) (st : Int32) (hl : cs.length ≤ 4000) : sfV cs st 0 = Int32.ofNat cs.length ↔ st ∉ cs := by
  unfold sfV
  rw [List.drop_zero]
  rcases ixF_cases cs st 0 with ⟨h1, h2⟩ | ⟨j, h1, h2, h3⟩
  · rw [h1, if_pos neg1]; simp [h2]
  · rw [h2, if_neg (on_nn (by omega)), on_eq (by omega) (by omega)]
    constructor
    · intro z; omega
    · intro z; exact absurd h3 z
/-- how many chars of white space lead -/
def wsL : List Int32 → Nat
  | [] => 0
  | c :: r => if c = (32 : Int32) ∨ c = (9 : Int32) then wsL r + 1 else 0
theorem wsL_le : ∀ l : List Int32, wsL l ≤ l.length
  | [] => Nat.le_refl _
  | c :: r => by
    have := wsL_le r
    unfold wsL; split <;> simp <;> omega
theorem wsL_all : ∀ l : List Int32, wsL l = l.length ↔ ∀ c ∈ l, c = (32 : Int32) ∨ c = (9 : Int32)
  | [] => by simp [wsL]
  | c :: r => by
    have q := wsL_le r
    unfold wsL
    by_cases z : c = (32 : Int32) ∨ c = (9 : Int32)
    · rw [if_pos z]; simp [z, wsL_all r]
    · rw [if_neg z]; simp [z]
theorem drop_at {cs : List Int32} {i : Nat} (h : i < cs.length) : cs.drop i = cs.getD i 0 :: cs.drop (i + 1) := by
  rw [List.drop_eq_getElem_cons h]; simp [List.getD_eq_getElem?_getD, h]
theorem lo8_eq {c ch : Int32} (h1 : ¬ c < 0 ∧ ¬ (255 : Int32) < c) (h2 : ¬ ch < 0 ∧ ¬ (255 : Int32) < ch) : c.toInt8.toInt32 = ch.toInt8.toInt32 ↔ c = ch := by
  have q1 := c_i2b c; have q2 := c_i2b ch
  have e0 : (0 : Int32).toInt = 0 := rfl
  have e1 : (255 : Int32).toInt = 255 := rfl
  rw [Int32.lt_iff_toInt_lt, Int32.lt_iff_toInt_lt, e0, e1] at h1 h2
  rw [← Int32.toInt_inj, ← Int32.toInt_inj]
  omega
theorem nar_id {c : Int32} (h1 : ¬ c < 0 ∧ ¬ (65535 : Int32) < c) : nar .char c = c := by
  have q := c_i2c c
  have e0 : (0 : Int32).toInt = 0 := rfl
  have e1 : (65535 : Int32).toInt = 65535 := rfl
  rw [Int32.lt_iff_toInt_lt, Int32.lt_iff_toInt_lt, e0, e1] at h1
  rw [← Int32.toInt_inj]
  show (c.toUInt32.toUInt16.toUInt32.toInt32).toInt = _
  omega
theorem up16 {c : Int32} (h : ¬ c < 0 ∧ ¬ (255 : Int32) < c) : ¬ c < 0 ∧ ¬ (65535 : Int32) < c := ⟨h.1, fun r => h.2 (by
  rw [Int32.lt_iff_toInt_lt] at r ⊢; have e1 : (65535 : Int32).toInt = 65535 := rfl; have e2 : (255 : Int32).toInt = 255 := rfl; omega)⟩
/-- a String of Latin-1 chars: her bytes -/
theorem Str.latin {Z : State} {h : Heap} {a : Addr} {cs : List Int32} (S : Str Z h a cs) (hl : ∀ c ∈ cs, ¬ (255 : Int32) < c) : ∃ t, Exa Z h a "java/lang/String" ∧ Fld Z h a "java/lang/String" "value" "[B" (.ref t) ∧ Fld Z h a "java/lang/String" "coder" "B" (.int 0) ∧ Own.Ary Z h t .byte (cs.map fun c => Value.int c.toInt8.toInt32) := by
  obtain ⟨t, kb, cd, N, vs, s1, s2, s3, s4, s5, s6, s7⟩ := S
  rcases s5 with ⟨rfl, rfl, rfl, -⟩ | ⟨-, -, -, c, hc, hw⟩
  · refine ⟨t, s1, s2, s3, Own.Ary.of_arv s4 ?_ (by simp; omega)⟩
    rw [Own.n32 (by omega)]; simp
  · exact absurd hw (hl c hc)
theorem i2c_mask (y : Int32) : ¬ (y &&& (255 : Int32)).toUInt32.toUInt16.toUInt32.toInt32 < 0 ∧ ¬ (255 : Int32) < (y &&& (255 : Int32)).toUInt32.toUInt16.toUInt32.toInt32 := by
  have q1 := c_mask y 255 8 (by decide) (by decide)
  have q3 : ((2 ^ 8 : Nat) : Int) = 256 := by decide
  rw [q3] at q1
  have q2 := c_i2c (y &&& (255 : Int32))
  have e0 : (0 : Int32).toInt = 0 := rfl
  have e1 : (255 : Int32).toInt = 255 := rfl
  rw [Int32.lt_iff_toInt_lt, Int32.lt_iff_toInt_lt, e0, e1]
  omega

theorem chPay {p : Program} {l : Launch} {e : Env} {R : Room} {s : State} {args : Array Value} {below : List Frame} {Z : State} {a0 : Array Value} {EL : List (String × Nat)} {kn : Prop} {ws : List Addr} {h : Heap} {x : Addr} {cs : List Int32} {G1 : Int32} {G3 : Value} {W i : Nat} {j : Int32} (hw : ∀ d ∈ tables_1, d.before a0 Z = true) (hEL : EW Z a0 EL) (O2 : Sta Z Z.heap "java/lang/String" "COMPACT_STRINGS" "Z" (.int G1)) (P5 : ¬ G1 = 0) (O4 : Sta Z Z.heap "jdk/internal/util/Preconditions" "SIOOBE_FORMATTER" "Ljava/util/function/BiFunction;" G3) (rG3 : G3.isRef = true) (hE : Ext Z.heap h) (S : Str Z h x cs) (hl : ∀ c ∈ cs, ¬ (255 : Int32) < c) (hi : i < cs.length) (hj : j = Int32.ofNat i) (hfr : 4 ≤ R.frames) (hlo : W + 53 ≤ R.locals) :
    Own.Pay l R p e below s args Z EL kn ws ⟨"java/lang/String", "charAt", "(I)C"⟩ 3 W 0 0 #[.ref x, .int j] h (fun v h' ws' => v = some (.int (cs.getD i 0)) ∧ h' = h ∧ ws' = []) := by
  obtain ⟨t, kb, cd, N, vs, s1, s2, s3, s4, s5, s6, s7⟩ := S
  have hws : ∀ d ∈ StrChars.Road.wordsChN, d.before a0 Z = true := fun d hd => hw d ((by decide +kernel : ∀ d ∈ StrChars.Road.wordsChN, d ∈ tables_1) d hd)
  have hcd : cd = 0 := by
    rcases s5 with ⟨q, -⟩ | ⟨-, -, -, c, hc, hw'⟩
    · exact q
    · exact absurd hw' (hl c hc)
  subst hcd
  refine Own.Pay.of_back (Q0 := fun v h' L => v = some (.int (cs.getD i 0)) ∧ L = [] ∧ h' = h) hEL (fun vm0 hZ => StrChars.Road.chN (s := s.setVm vm0) hZ hws (kI := 4) (hw _ (List.mem_of_getElem? (i := 2) rfl)) s1 s2 s3 s4 s5 s6 (O2.ext hE) P5 (O4.ext hE) rG3 s7 hi hj hfr hlo) (fun v h' L q => ?_)
  obtain ⟨q1, rfl, rfl⟩ := q
  exact ⟨[], [], Keep.refl _ _, fun y hy => (by cases hy), Fr.nil _, ⟨q1, rfl, rfl⟩, fun y hy => by cases hy⟩
theorem d17_0 : decode jdk_29_method_65_code 0 = .ok (.iload_n 0, 1) := by decide +kernel
theorem d17_1 : decode jdk_29_method_65_code 1 = .ok (.iload_n 1, 1) := by decide +kernel
theorem d17_2 : decode jdk_29_method_65_code 2 = .ok (.if_icmp .lt 7, 3) := by decide +kernel
theorem d17_5 : decode jdk_29_method_65_code 5 = .ok (.iload_n 0, 1) := by decide +kernel
theorem d17_6 : decode jdk_29_method_65_code 6 = .ok (.goto 4, 3) := by decide +kernel
theorem d17_9 : decode jdk_29_method_65_code 9 = .ok (.iload_n 1, 1) := by decide +kernel
theorem d17_10 : decode jdk_29_method_65_code 10 = .ok (.ireturn, 1) := by decide +kernel
theorem ef_own_max (m : MethodId) (x : Int32) (y : Int32) : entryFrame m #[(.int x), (.int y)] 2 = mkF m 0 #[.val (.int x), .val (.int y)] [] := by first | (simp [entryFrame, mkF, argsToLocals, Value.category]; done) | rfl
set_option maxRecDepth 65536 in
set_option maxHeartbeats 40000000 in
theorem own_max (l : Launch) (Z : State) (a0 : Array Value) (hw : ∀ d ∈ tables_1, d.before a0 Z = true) (hEL : EW Z a0 consts_1) (x : Int32) (y : Int32) (h : Heap) :
    Con l Z consts_1 True (⟨"java/lang/Math", "max", "(II)I"⟩ : MethodName) jdk_29_method_65_code 2 (some .int) ({ frames := 0, cells := 0, slots := 0, locals := 0 } : Room) [] #[(.int x), (.int y)] h (fun v h' ws' => v = some (.int (if x < y then y else x)) ∧ h' = h ∧ ws' = []) := by
  refine Con.intro own_pn0 (fun p e s m below meth c T X => ?_)
  rw [ef_own_max m x y]
  refine s_iloadN X (pc' := 1) d17_0 rfl rfl ?_
  refine s_iloadN X (pc' := 2) d17_1 rfl rfl ?_
  refine s_icmp X (pc' := 9) (pcF := 5) d17_2 (by decide) (by decide) rfl (fun (q : x < y) => ?_) (fun (q : ¬ x < y) => ?_)
  · refine s_iloadN X (pc' := 10) d17_9 rfl rfl ?_
    exact s_iret X hEL (ws' := []) d17_10 (by decide) (by decide) (fun x q => by simp at q) ⟨by rw [if_pos q], rfl, rfl⟩
  · refine s_iloadN X (pc' := 6) d17_5 rfl rfl ?_
    refine s_goto X (pc' := 10) d17_6 (by decide) (by decide) ?_
    exact s_iret X hEL (ws' := []) d17_10 (by decide) (by decide) (fun x q => by simp at q) ⟨by rw [if_neg q], rfl, rfl⟩
theorem d19_0 : decode jdk_29_method_69_code 0 = .ok (.iload_n 0, 1) := by decide +kernel
theorem d19_1 : decode jdk_29_method_69_code 1 = .ok (.iload_n 1, 1) := by decide +kernel
theorem d19_2 : decode jdk_29_method_69_code 2 = .ok (.if_icmp .gt 7, 3) := by decide +kernel
theorem d19_5 : decode jdk_29_method_69_code 5 = .ok (.iload_n 0, 1) := by decide +kernel
theorem d19_6 : decode jdk_29_method_69_code 6 = .ok (.goto 4, 3) := by decide +kernel
theorem d19_9 : decode jdk_29_method_69_code 9 = .ok (.iload_n 1, 1) := by decide +kernel
theorem d19_10 : decode jdk_29_method_69_code 10 = .ok (.ireturn, 1) := by decide +kernel
theorem ef_own_min (m : MethodId) (x : Int32) (y : Int32) : entryFrame m #[(.int x), (.int y)] 2 = mkF m 0 #[.val (.int x), .val (.int y)] [] := by first | (simp [entryFrame, mkF, argsToLocals, Value.category]; done) | rfl
set_option maxRecDepth 65536 in
set_option maxHeartbeats 40000000 in
theorem own_min (l : Launch) (Z : State) (a0 : Array Value) (hw : ∀ d ∈ tables_1, d.before a0 Z = true) (hEL : EW Z a0 consts_1) (x : Int32) (y : Int32) (h : Heap) :
    Con l Z consts_1 True (⟨"java/lang/Math", "min", "(II)I"⟩ : MethodName) jdk_29_method_69_code 2 (some .int) ({ frames := 0, cells := 0, slots := 0, locals := 0 } : Room) [] #[(.int x), (.int y)] h (fun v h' ws' => v = some (.int (if y < x then y else x)) ∧ h' = h ∧ ws' = []) := by
  refine Con.intro own_pn1 (fun p e s m below meth c T X => ?_)
  rw [ef_own_min m x y]
  refine s_iloadN X (pc' := 1) d19_0 rfl rfl ?_
  refine s_iloadN X (pc' := 2) d19_1 rfl rfl ?_
  refine s_icmp X (pc' := 9) (pcF := 5) d19_2 (by decide) (by decide) rfl (fun (q : y < x) => ?_) (fun (q : ¬ y < x) => ?_)
  · refine s_iloadN X (pc' := 10) d19_9 rfl rfl ?_
    exact s_iret X hEL (ws' := []) d19_10 (by decide) (by decide) (fun x q => by simp at q) ⟨by rw [if_pos q], rfl, rfl⟩
  · refine s_iloadN X (pc' := 6) d19_5 rfl rfl ?_
    refine s_goto X (pc' := 10) d19_6 (by decide) (by decide) ?_
    exact s_iret X hEL (ws' := []) d19_10 (by decide) (by decide) (fun x q => by simp at q) ⟨by rw [if_neg q], rfl, rfl⟩

def bys (cs : List Int32) : List Value := cs.map fun c => Value.int c.toInt8.toInt32
theorem bys_len (cs : List Int32) : (bys cs).length = cs.length := by simp [bys]
theorem bys_app (a b : List Int32) : bys (a ++ b) = bys a ++ bys b := by simp [bys]
def Lat (cs : List Int32) : Prop := ∀ c ∈ cs, ¬ c < 0 ∧ ¬ (255 : Int32) < c
theorem Lat.app {a b : List Int32} (p : Lat a) (q : Lat b) : Lat (a ++ b) := fun c hc => (List.mem_append.mp hc).elim (p c) (q c)
theorem Str.len {Z : State} {h : Heap} {a : Addr} {cs : List Int32} (S : Str Z h a cs) : cs.length ≤ 4000 := by obtain ⟨_, _, _, _, _, _, _, _, _, _, _, q⟩ := S; exact q
theorem Str.ofLatin {Z : State} {h : Heap} {a t : Addr} {cs : List Int32} (s1 : Exa Z h a "java/lang/String") (s2 : Fld Z h a "java/lang/String" "value" "[B" (.ref t)) (s3 : Fld Z h a "java/lang/String" "coder" "B" (.int 0)) (A : Own.Ary Z h t .byte (bys cs)) (q : Lat cs) (s7 : cs.length ≤ 4000) : Str Z h a cs := by
  obtain ⟨kb, A'⟩ := A.arv (.int 0)
  exact ⟨t, kb, 0, _, _, s1, s2, s3, A', Or.inl ⟨rfl, by rw [bys_len], rfl, fun c hc => (q c hc).2⟩, fun c hc => up16 (q c hc), s7⟩
theorem on_add (a b : Nat) : Int32.ofNat a + Int32.ofNat b = Int32.ofNat (a + b) := (Int32.ofNat_add a b).symm
theorem cap16 {m : Nat} (h : m ≤ 16) : ¬ (0 : Int32) < Int32.ofNat m - (16 : Int32) := fun z => by
  have q := c_isub (Int32.ofNat m) 16
  have e1 : (Int32.ofNat m).toInt = m := Int32.toInt_ofNat_of_lt (by omega)
  have e2 : (16 : Int32).toInt = 16 := rfl
  have e0 : (0 : Int32).toInt = 0 := rfl
  have b1 := Int32.toInt_lt (Int32.ofNat m - (16 : Int32))
  have b2 := Int32.le_toInt (Int32.ofNat m - (16 : Int32))
  rw [Int32.lt_iff_toInt_lt, e0] at z
  rw [e1, e2] at q
  omega
theorem shl0 (x : Int32) : x <<< ((0 : Int32) &&& 31) = x := by
  rw [← Int32.toInt_inj]
  have q := c_ishl x 0 0 (by decide)
  have b1 := Int32.toInt_lt (x <<< ((0 : Int32) &&& 31))
  have b2 := Int32.le_toInt (x <<< ((0 : Int32) &&& 31))
  have b3 := Int32.toInt_lt x
  have b4 := Int32.le_toInt x
  have e : ((2 ^ 0 : Nat) : Int) = 1 := by decide
  rw [e] at q
  omega
theorem sub0 (x : Int32) : x - (0 : Int32) = x := by simp

/-- a StringBuilder and her chars; r: what lies behind them in her array -/
def SBD (Z : State) (h : Heap) (k t : Addr) (ds : List Int32) (r : List Value) : Prop := Exa Z h k "java/lang/StringBuilder" ∧ Fld Z h k "java/lang/AbstractStringBuilder" "value" "[B" (.ref t) ∧ Fld Z h k "java/lang/AbstractStringBuilder" "coder" "B" (.int (0 : Int32)) ∧ Fld Z h k "java/lang/AbstractStringBuilder" "count" "I" (.int (Int32.ofNat ds.length)) ∧ Own.Ary Z h t .byte (bys ds ++ r) ∧ Exa Z h t "[B"
theorem SBD.ext {Z : State} {h h' : Heap} {k t : Addr} {ds : List Int32} {r : List Value} (S : SBD Z h k t ds r) (E : Ext h h') : SBD Z h' k t ds r := ⟨S.1.ext E, S.2.1.ext E, S.2.2.1.ext E, S.2.2.2.1.ext E, S.2.2.2.2.1.ext E, S.2.2.2.2.2.ext E⟩
def capN (cap need : Nat) : Nat := if need ≤ cap then cap else max need (2 * cap + 2)
theorem shr0' (x : Int32) : x >>> ((0 : Int32) &&& 31) = x := by
  rw [← Int32.toInt_inj, c_ishr x 0 0 (by decide)]
  have e : ((2 ^ 0 : Nat) : Int) = 1 := by decide
  rw [e]; omega
theorem on_subZ {a b : Nat} (ha : a ≤ 5000) (hb : b ≤ 5000) : (0 : Int32) < Int32.ofNat a - Int32.ofNat b ↔ b < a := by
  have q := c_isub (Int32.ofNat a) (Int32.ofNat b)
  have e1 : (Int32.ofNat a).toInt = a := Int32.toInt_ofNat_of_lt (by omega)
  have e2 : (Int32.ofNat b).toInt = b := Int32.toInt_ofNat_of_lt (by omega)
  have e0 : (0 : Int32).toInt = 0 := rfl
  have b1 := Int32.toInt_lt (Int32.ofNat a - Int32.ofNat b)
  have b2 := Int32.le_toInt (Int32.ofNat a - Int32.ofNat b)
  rw [Int32.lt_iff_toInt_lt, e0]
  rw [e1, e2] at q
  omega
theorem on_subN {a b : Nat} (h : b ≤ a) (ha : a ≤ 5000) : Int32.ofNat a - Int32.ofNat b = Int32.ofNat (a - b) := by
  have q := c_isub (Int32.ofNat a) (Int32.ofNat b)
  have e1 : (Int32.ofNat a).toInt = a := Int32.toInt_ofNat_of_lt (by omega)
  have e2 : (Int32.ofNat b).toInt = b := Int32.toInt_ofNat_of_lt (by omega)
  have e3 : (Int32.ofNat (a - b)).toInt = (a - b : Nat) := Int32.toInt_ofNat_of_lt (by omega)
  have b1 := Int32.toInt_lt (Int32.ofNat a - Int32.ofNat b)
  have b2 := Int32.le_toInt (Int32.ofNat a - Int32.ofNat b)
  rw [← Int32.toInt_inj, e3]
  rw [e1, e2] at q
  omega
theorem on_max {a b : Nat} (ha : a ≤ 5000) (hb : b ≤ 5000) : (if Int32.ofNat a < Int32.ofNat b then Int32.ofNat b else Int32.ofNat a) = Int32.ofNat (max a b) := by
  by_cases q : a < b
  · rw [if_pos ((on_lt (by omega) (by omega)).mpr q)]; congr 1; omega
  · rw [if_neg (fun z => q ((on_lt (by omega) (by omega)).mp z))]; congr 1; omega
theorem on_min {a b : Nat} (ha : a ≤ 5000) (hb : b ≤ 5000) : (if Int32.ofNat b < Int32.ofNat a then Int32.ofNat b else Int32.ofNat a) = Int32.ofNat (min a b) := by
  by_cases q : b < a
  · rw [if_pos ((on_lt (by omega) (by omega)).mpr q)]; congr 1; omega
  · rw [if_neg (fun z => q ((on_lt (by omega) (by omega)).mp z))]; congr 1; omega
theorem small_ne {a : Nat} (ha : a ≤ 5000) : ¬ Int32.ofNat a = (2147483647 : Int32) := fun z => by
  have e1 : (Int32.ofNat a).toInt = a := Int32.toInt_ofNat_of_lt (by omega)
  have e2 : (2147483647 : Int32).toInt = 2147483647 := rfl
  rw [z, e2] at e1; omega
theorem small_le {a : Nat} (ha : a ≤ 5000) : ¬ (2147483639 : Int32) < Int32.ofNat a := fun z => by
  have e1 : (Int32.ofNat a).toInt = a := Int32.toInt_ofNat_of_lt (by omega)
  have e2 : (2147483639 : Int32).toInt = 2147483639 := rfl
  rw [Int32.lt_iff_toInt_lt, e1, e2] at z; omega
theorem d13_0 : decode jdk_42_method_152_code 0 = .ok (.getstatic 38, 3) := by decide +kernel
theorem d13_3 : decode jdk_42_method_152_code 3 = .ok (.ifCond .eq 10, 3) := by decide +kernel
theorem d13_6 : decode jdk_42_method_152_code 6 = .ok (.aload_n 0, 1) := by decide +kernel
theorem d13_7 : decode jdk_42_method_152_code 7 = .ok (.getfield 15, 3) := by decide +kernel
theorem d13_10 : decode jdk_42_method_152_code 10 = .ok (.goto 4, 3) := by decide +kernel
theorem d13_13 : decode jdk_42_method_152_code 13 = .ok (.iconst 1, 1) := by decide +kernel
theorem d13_14 : decode jdk_42_method_152_code 14 = .ok (.ireturn, 1) := by decide +kernel
theorem ef_sb_cod (m : MethodId) (a : Addr) : entryFrame m #[(.ref a)] 1 = mkF m 0 #[.val (.ref a)] [] := by first | (simp [entryFrame, mkF, argsToLocals, Value.category]; done) | rfl
set_option maxRecDepth 65536 in
set_option maxHeartbeats 40000000 in
theorem sb_cod (l : Launch) (Z : State) (a0 : Array Value) (hw : ∀ d ∈ tables_1, d.before a0 Z = true) (hEL : EW Z a0 consts_1) (a : Addr) {G1 : Int32} (h : Heap) (F_a_coder : Fld Z h a "java/lang/String" "coder" "B" (.int (0 : Int32))) (O2 : Sta Z Z.heap "java/lang/String" "COMPACT_STRINGS" "Z" (.int G1)) (P5 : ¬ (G1 = (0 : Int32))) :
    Con l Z consts_1 True (⟨"java/lang/String", "coder", "()B"⟩ : MethodName) jdk_42_method_152_code 1 (some .byte) ({ frames := 0, cells := 0, slots := 0, locals := 0 } : Room) [] #[(.ref a)] h (fun v h' ws' => v = some (.int (0)) ∧ h' = h ∧ ws' = []) := by
  refine Con.intro own_pn2 (fun p e s m below meth c T X => ?_)
  rw [ef_sb_cod m a]
  refine s_gets X (pc' := 3) d13_0 (hw _ (List.mem_of_getElem? (i := 14) rfl)) Via.refl O2 rfl (fun T X => ?_)
  refine s_ifF X (pc' := 6) d13_3 P5 rfl ?_
  refine s_aloadN X (pc' := 7) d13_6 rfl rfl rfl ?_
  refine s_getf X (pc' := 10) d13_7 (hw _ (List.mem_of_getElem? (i := 26) rfl)) Via.refl F_a_coder rfl (fun T X => ?_)
  refine s_goto X (pc' := 14) d13_10 (by decide) (by decide) ?_
  exact s_iretN X hEL (ws' := []) (t := .byte) d13_14 rfl (by simp) (by decide) (by decide) (fun x q => by simp at q) ⟨rfl, rfl, rfl⟩
theorem d21_0 : decode jdk_68_method_71_code 0 = .ok (.getstatic 18, 3) := by decide +kernel
theorem d21_3 : decode jdk_68_method_71_code 3 = .ok (.ifCond .eq 18, 3) := by decide +kernel
theorem d21_6 : decode jdk_68_method_71_code 6 = .ok (.aload_n 0, 1) := by decide +kernel
theorem d21_7 : decode jdk_68_method_71_code 7 = .ok (.getfield 22, 3) := by decide +kernel
theorem d21_10 : decode jdk_68_method_71_code 10 = .ok (.aload_n 1, 1) := by decide +kernel
theorem d21_11 : decode jdk_68_method_71_code 11 = .ok (.invokevirtual 40, 3) := by decide +kernel
theorem d21_14 : decode jdk_68_method_71_code 14 = .ok (.if_icmp .eq 7, 3) := by decide +kernel
theorem d21_21 : decode jdk_68_method_71_code 21 = .ok (.return_, 1) := by decide +kernel
theorem ef_sb_inf (m : MethodId) (k x : Addr) : entryFrame m #[(.ref k), (.ref x)] 2 = mkF m 0 #[.val (.ref k), .val (.ref x)] [] := by first | (simp [entryFrame, mkF, argsToLocals, Value.category]; done) | rfl
set_option maxRecDepth 65536 in
set_option maxHeartbeats 40000000 in
theorem sb_inf (l : Launch) (Z : State) (a0 : Array Value) (hw : ∀ d ∈ tables_1, d.before a0 Z = true) (hEL : EW Z a0 consts_1) (k x : Addr) (h : Heap) {t : Addr} {G1 : Int32} (F_k_value : Fld Z h k "java/lang/AbstractStringBuilder" "value" "[B" (.ref t)) (F_k_coder : Fld Z h k "java/lang/AbstractStringBuilder" "coder" "B" (.int (0 : Int32))) (E_x : Exa Z h x "java/lang/String") (F_x_coder : Fld Z h x "java/lang/String" "coder" "B" (.int (0 : Int32))) (O2 : Sta Z Z.heap "java/lang/String" "COMPACT_STRINGS" "Z" (.int G1)) (P5 : ¬ (G1 = (0 : Int32))) :
    Con l Z consts_1 True (⟨"java/lang/AbstractStringBuilder", "inflateIfNeededFor", "(Ljava/lang/String;)V"⟩ : MethodName) jdk_68_method_71_code 2 none ({ frames := 1, cells := 0, slots := 0, locals := 13 } : Room) [] #[(.ref k), (.ref x)] h (fun v h' ws' => v = none ∧ h' = h ∧ ws' = []) := by
  refine Con.intro own_pn3 (fun p e s m below meth c T X => ?_)
  rw [ef_sb_inf m k x]
  refine s_gets X (pc' := 3) d21_0 (hw _ (List.mem_of_getElem? (i := 47) rfl)) Via.refl O2 rfl (fun T X => ?_)
  refine s_ifF X (pc' := 6) d21_3 P5 rfl ?_
  refine s_aloadN X (pc' := 7) d21_6 rfl rfl rfl ?_
  refine s_getf X (pc' := 10) d21_7 (hw _ (List.mem_of_getElem? (i := 50) rfl)) Via.refl F_k_coder rfl (fun T X => ?_)
  refine s_aloadN X (pc' := 11) d21_10 rfl rfl rfl ?_
  refine s_virtual X (pc' := 14) (W := 1) (as' := []) (S := [(.int (0 : Int32))]) (k' := 0) (n' := 0) d21_11 (hw _ (List.mem_of_getElem? (i := 118) rfl)) (hw _ (List.mem_of_getElem? (i := 71) rfl)) (hw _ (List.mem_of_getElem? (i := 73) rfl)) (hw _ (List.mem_of_getElem? (i := 72) rfl)) (nface (hw _ (List.mem_of_getElem? (i := 73) rfl))) (by decide) own_pd0 rfl E_x ((sb_cod l Z a0 hw hEL x _ F_x_coder O2 P5).payS (by simp) (hw _ (List.mem_of_getElem? (i := 74) rfl)) (hw _ (List.mem_of_getElem? (i := 3) rfl)) hEL (by decide) (by decide)) (Nat.le_of_ble_eq_true rfl) rfl rfl (by decide) (by decide) (by decide) (by decide) rfl (fun T h1 v_ ws_ X hgr_ q2 => ?_)
  obtain ⟨rfl, e_, rfl⟩ := q2
  rw [e_] at X
  show Go p e below _ T (mkF m 14 #[.val (.ref k), .val (.ref x)] [(.int (0 : Int32)), (.int (0 : Int32))])
  replace X := X.sub (ws' := []) (by simp)
  refine s_icmpT X (pc' := 21) d21_14 (show (0 : Int32) = (0 : Int32) by decide) (by decide) (by decide) ?_
  exact s_ret X hEL (ws' := []) d21_21 (by decide) (by decide) (fun x q => by simp at q) ⟨rfl, rfl, rfl⟩
theorem d22_0 : decode jdk_42_method_147_code 0 = .ok (.aload_n 0, 1) := by decide +kernel
theorem d22_1 : decode jdk_42_method_147_code 1 = .ok (.invokevirtual 335, 3) := by decide +kernel
theorem d22_4 : decode jdk_42_method_147_code 4 = .ok (.iload_n 3, 1) := by decide +kernel
theorem d22_5 : decode jdk_42_method_147_code 5 = .ok (.if_icmp .ne 23, 3) := by decide +kernel
theorem d22_8 : decode jdk_42_method_147_code 8 = .ok (.aload_n 0, 1) := by decide +kernel
theorem d22_9 : decode jdk_42_method_147_code 9 = .ok (.getfield 9, 3) := by decide +kernel
theorem d22_12 : decode jdk_42_method_147_code 12 = .ok (.iconst 0, 1) := by decide +kernel
theorem d22_13 : decode jdk_42_method_147_code 13 = .ok (.aload_n 1, 1) := by decide +kernel
theorem d22_14 : decode jdk_42_method_147_code 14 = .ok (.iload_n 2, 1) := by decide +kernel
theorem d22_15 : decode jdk_42_method_147_code 15 = .ok (.iload_n 3, 1) := by decide +kernel
theorem d22_16 : decode jdk_42_method_147_code 16 = .ok (.ishl, 1) := by decide +kernel
theorem d22_17 : decode jdk_42_method_147_code 17 = .ok (.aload_n 0, 1) := by decide +kernel
theorem d22_18 : decode jdk_42_method_147_code 18 = .ok (.getfield 9, 3) := by decide +kernel
theorem d22_21 : decode jdk_42_method_147_code 21 = .ok (.arraylength, 1) := by decide +kernel
theorem d22_22 : decode jdk_42_method_147_code 22 = .ok (.invokestatic 212, 3) := by decide +kernel
theorem d22_25 : decode jdk_42_method_147_code 25 = .ok (.goto 18, 3) := by decide +kernel
theorem d22_43 : decode jdk_42_method_147_code 43 = .ok (.return_, 1) := by decide +kernel
theorem ef_sb_gb (m : MethodId) (x t : Addr) (d : Nat) : entryFrame m #[(.ref x), (.ref t), (.int (Int32.ofNat d)), (.int (0 : Int32))] 4 = mkF m 0 #[.val (.ref x), .val (.ref t), .val (.int (Int32.ofNat d)), .val (.int (0 : Int32))] [] := by first | (simp [entryFrame, mkF, argsToLocals, Value.category]; done) | rfl
set_option maxRecDepth 65536 in
set_option maxHeartbeats 40000000 in
theorem sb_gb (l : Launch) (Z : State) (a0 : Array Value) (hw : ∀ d ∈ tables_1, d.before a0 Z = true) (hEL : EW Z a0 consts_1) (x t : Addr) (d : Nat) (h : Heap) {tx : Addr} {cs : List Int32} {vt : List Value} {G1 : Int32} (E_x : Exa Z h x "java/lang/String") (F_x_value : Fld Z h x "java/lang/String" "value" "[B" (.ref tx)) (F_x_coder : Fld Z h x "java/lang/String" "coder" "B" (.int (0 : Int32))) (A_tx : Ary Z h tx .byte (bys cs)) (hcs : Lat cs) (hcl : cs.length ≤ 4000) (A_t : Ary Z h t .byte vt) (hd : d + cs.length ≤ vt.length) (g_t : Z.heap.size ≤ t) (O2 : Sta Z Z.heap "java/lang/String" "COMPACT_STRINGS" "Z" (.int G1)) (P5 : ¬ (G1 = (0 : Int32))) :
    Con l Z consts_1 True (⟨"java/lang/String", "getBytes", "([BIB)V"⟩ : MethodName) jdk_42_method_147_code 4 none ({ frames := 1, cells := 0, slots := 0, locals := 18 } : Room) [t] #[(.ref x), (.ref t), (.int (Int32.ofNat d)), (.int (0 : Int32))] h (fun v h' ws' => v = none ∧ Keep h h' [t] ∧ Ary Z h' t .byte (vt.take d ++ bys cs ++ vt.drop (d + cs.length)) ∧ ws' = []) := by
  refine Con.intro own_pn4 (fun p e s m below meth c T X => ?_)
  rw [ef_sb_gb m x t d]
  refine s_aloadN X (pc' := 1) d22_0 rfl rfl rfl ?_
  refine s_virtual X (pc' := 4) (W := 0) (as' := []) (S := []) (k' := 0) (n' := 0) d22_1 (hw _ (List.mem_of_getElem? (i := 70) rfl)) (hw _ (List.mem_of_getElem? (i := 71) rfl)) (hw _ (List.mem_of_getElem? (i := 73) rfl)) (hw _ (List.mem_of_getElem? (i := 72) rfl)) (nface (hw _ (List.mem_of_getElem? (i := 73) rfl))) (by decide) own_pd0 rfl E_x ((sb_cod l Z a0 hw hEL x _ F_x_coder O2 P5).payS (by simp) (hw _ (List.mem_of_getElem? (i := 74) rfl)) (hw _ (List.mem_of_getElem? (i := 3) rfl)) hEL (by decide) (by decide)) (Nat.le_of_ble_eq_true rfl) rfl rfl (by decide) (by decide) (by decide) (by decide) rfl (fun T h3 v_ ws_ X hgr_ q4 => ?_)
  obtain ⟨rfl, e_, rfl⟩ := q4
  rw [e_] at X
  show Go p e below _ T (mkF m 4 #[.val (.ref x), .val (.ref t), .val (.int (Int32.ofNat d)), .val (.int (0 : Int32))] [(.int (0 : Int32))])
  replace X := X.sub (ws' := [t]) (by simp)
  refine s_iloadN X (pc' := 5) d22_4 rfl rfl ?_
  refine s_icmpF X (pc' := 8) d22_5 (show (0 : Int32) = (0 : Int32) by decide) rfl ?_
  refine s_aloadN X (pc' := 9) d22_8 rfl rfl rfl ?_
  refine s_getf X (pc' := 12) d22_9 (hw _ (List.mem_of_getElem? (i := 28) rfl)) Via.refl F_x_value rfl (fun T X => ?_)
  refine s_iconst X (pc' := 13) d22_12 (v := (0 : Int32)) rfl rfl ?_
  refine s_aloadN X (pc' := 14) d22_13 rfl rfl rfl ?_
  refine s_iloadN X (pc' := 15) d22_14 rfl rfl ?_
  refine s_iloadN X (pc' := 16) d22_15 rfl rfl ?_
  refine s_ishl X (pc' := 17) d22_16 rfl ?_
  refine go_int (z := (Int32.ofNat d)) (shl0 _) ?_
  refine s_aloadN X (pc' := 18) d22_17 rfl rfl rfl ?_
  refine s_getf X (pc' := 21) d22_18 (hw _ (List.mem_of_getElem? (i := 28) rfl)) Via.refl F_x_value rfl (fun T X => ?_)
  refine s_alen X (pc' := 22) (z := (Int32.ofNat cs.length)) d22_21 A_tx (by rw [bys_len]) rfl ?_
  refine s_acopy X (pc' := 25) (sp := 0) (dp := d) (nn := cs.length) (W := 0) d22_22 (hw _ (List.mem_of_getElem? (i := 124) rfl)) (hw _ (List.mem_of_getElem? (i := 107) rfl)) (hw _ (List.mem_of_getElem? (i := 105) rfl)) (hw _ (List.mem_of_getElem? (i := 106) rfl)) A_tx A_t rfl rfl rfl rfl (by rw [bys_len]; omega) (hd) g_t (by simp) rfl (Nat.le_of_ble_eq_true rfl) (by decide) (by decide) rfl (fun T h1 X K_ A' => ?_)
  have q : ((bys cs).drop 0).take cs.length = bys cs := by rw [List.drop_zero, ← bys_len cs, List.take_length]
  rw [q] at A'
  refine s_goto X (pc' := 43) d22_25 (by decide) (by decide) ?_
  exact s_ret X hEL (ws' := []) d22_43 (by decide) (by decide) (fun x q => by simp at q) ⟨rfl, K_, A', rfl⟩
theorem d20_0 : decode jdk_68_method_73_code 0 = .ok (.aload_n 0, 1) := by decide +kernel
theorem d20_1 : decode jdk_68_method_73_code 1 = .ok (.aload_n 2, 1) := by decide +kernel
theorem d20_2 : decode jdk_68_method_73_code 2 = .ok (.invokevirtual 397, 3) := by decide +kernel
theorem d20_5 : decode jdk_68_method_73_code 5 = .ok (.aload_n 2, 1) := by decide +kernel
theorem d20_6 : decode jdk_68_method_73_code 6 = .ok (.aload_n 0, 1) := by decide +kernel
theorem d20_7 : decode jdk_68_method_73_code 7 = .ok (.getfield 15, 3) := by decide +kernel
theorem d20_10 : decode jdk_68_method_73_code 10 = .ok (.iload_n 1, 1) := by decide +kernel
theorem d20_11 : decode jdk_68_method_73_code 11 = .ok (.aload_n 0, 1) := by decide +kernel
theorem d20_12 : decode jdk_68_method_73_code 12 = .ok (.getfield 22, 3) := by decide +kernel
theorem d20_15 : decode jdk_68_method_73_code 15 = .ok (.invokevirtual 399, 3) := by decide +kernel
theorem d20_18 : decode jdk_68_method_73_code 18 = .ok (.return_, 1) := by decide +kernel
theorem ef_sb_psa (m : MethodId) (k x : Addr) (d : Nat) : entryFrame m #[(.ref k), (.int (Int32.ofNat d)), (.ref x)] 3 = mkF m 0 #[.val (.ref k), .val (.int (Int32.ofNat d)), .val (.ref x)] [] := by first | (simp [entryFrame, mkF, argsToLocals, Value.category]; done) | rfl
set_option maxRecDepth 65536 in
set_option maxHeartbeats 40000000 in
theorem sb_psa (l : Launch) (Z : State) (a0 : Array Value) (hw : ∀ d ∈ tables_1, d.before a0 Z = true) (hEL : EW Z a0 consts_1) (k x : Addr) (d : Nat) (h : Heap) {t tx : Addr} {cs : List Int32} {vt : List Value} {G1 : Int32} (E_k : Exa Z h k "java/lang/StringBuilder") (F_k_value : Fld Z h k "java/lang/AbstractStringBuilder" "value" "[B" (.ref t)) (F_k_coder : Fld Z h k "java/lang/AbstractStringBuilder" "coder" "B" (.int (0 : Int32))) (E_x : Exa Z h x "java/lang/String") (F_x_value : Fld Z h x "java/lang/String" "value" "[B" (.ref tx)) (F_x_coder : Fld Z h x "java/lang/String" "coder" "B" (.int (0 : Int32))) (A_tx : Ary Z h tx .byte (bys cs)) (hcs : Lat cs) (hcl : cs.length ≤ 4000) (A_t : Ary Z h t .byte vt) (hd : d + cs.length ≤ vt.length) (g_t : Z.heap.size ≤ t) (O2 : Sta Z Z.heap "java/lang/String" "COMPACT_STRINGS" "Z" (.int G1)) (P5 : ¬ (G1 = (0 : Int32))) :
    Con l Z consts_1 True (⟨"java/lang/AbstractStringBuilder", "putStringAt", "(ILjava/lang/String;)V"⟩ : MethodName) jdk_68_method_73_code 3 none ({ frames := 2, cells := 0, slots := 0, locals := 33 } : Room) [t] #[(.ref k), (.int (Int32.ofNat d)), (.ref x)] h (fun v h' ws' => v = none ∧ Keep h h' [t] ∧ Ary Z h' t .byte (vt.take d ++ bys cs ++ vt.drop (d + cs.length)) ∧ ws' = []) := by
  refine Con.intro own_pn5 (fun p e s m below meth c T X => ?_)
  rw [ef_sb_psa m k x d]
  refine s_aloadN X (pc' := 1) d20_0 rfl rfl rfl ?_
  refine s_aloadN X (pc' := 2) d20_1 rfl rfl rfl ?_
  refine s_priv X (pc' := 5) (W := 0) (as' := [(.ref x)]) (S := []) (k' := 0) (n' := 0) d20_2 (hw _ (List.mem_of_getElem? (i := 113) rfl)) (hw _ (List.mem_of_getElem? (i := 115) rfl)) (nfaceC (hw _ (List.mem_of_getElem? (i := 80) rfl)) rfl) (hw _ (List.mem_of_getElem? (i := 114) rfl)) (hw _ (List.mem_of_getElem? (i := 117) rfl)) (by decide) own_pd1 rfl E_k ((sb_inf l Z a0 hw hEL k x _ F_k_value F_k_coder E_x F_x_coder O2 P5).payS (by simp) (hw _ (List.mem_of_getElem? (i := 117) rfl)) (hw _ (List.mem_of_getElem? (i := 44) rfl)) hEL (by decide) (by decide)) (Nat.le_of_ble_eq_true rfl) rfl rfl (by decide) (by decide) (by decide) (by decide) rfl (fun T h5 v_ ws_ X hgr_ q6 => ?_)
  obtain ⟨rfl, e_, rfl⟩ := q6
  rw [e_] at X
  show Go p e below _ T (mkF m 5 #[.val (.ref k), .val (.int (Int32.ofNat d)), .val (.ref x)] [])
  replace X := X.sub (ws' := [t]) (by simp)
  refine s_aloadN X (pc' := 6) d20_5 rfl rfl rfl ?_
  refine s_aloadN X (pc' := 7) d20_6 rfl rfl rfl ?_
  refine s_getf X (pc' := 10) d20_7 (hw _ (List.mem_of_getElem? (i := 48) rfl)) Via.refl F_k_value rfl (fun T X => ?_)
  refine s_iloadN X (pc' := 11) d20_10 rfl rfl ?_
  refine s_aloadN X (pc' := 12) d20_11 rfl rfl rfl ?_
  refine s_getf X (pc' := 15) d20_12 (hw _ (List.mem_of_getElem? (i := 50) rfl)) Via.refl F_k_coder rfl (fun T X => ?_)
  refine s_virtual X (pc' := 18) (W := 0) (as' := [(.ref t), (.int (Int32.ofNat d)), (.int (0 : Int32))]) (S := []) (k' := 0) (n' := 0) d20_15 (hw _ (List.mem_of_getElem? (i := 119) rfl)) (hw _ (List.mem_of_getElem? (i := 120) rfl)) (hw _ (List.mem_of_getElem? (i := 122) rfl)) (hw _ (List.mem_of_getElem? (i := 121) rfl)) (nface (hw _ (List.mem_of_getElem? (i := 122) rfl))) (by decide) own_pd2 rfl E_x ((sb_gb l Z a0 hw hEL x t d _ E_x F_x_value F_x_coder A_tx hcs hcl A_t hd g_t O2 P5).payS (by simp) (hw _ (List.mem_of_getElem? (i := 123) rfl)) (hw _ (List.mem_of_getElem? (i := 3) rfl)) hEL (by decide) (by decide)) (Nat.le_of_ble_eq_true rfl) rfl rfl (by decide) (by decide) (by decide) (by decide) rfl (fun T h7 v_ ws_ X hgr_ q8 => ?_)
  obtain ⟨rfl, K_, A', rfl⟩ := q8
  show Go p e below _ T (mkF m 18 #[.val (.ref k), .val (.int (Int32.ofNat d)), .val (.ref x)] [])
  replace X := X.sub (ws' := [t]) (by simp)
  exact s_ret X hEL (ws' := []) d20_18 (by decide) (by decide) (fun x q => by simp at q) ⟨rfl, K_, A', rfl⟩
theorem d16_0 : decode jdk_48_method_27_code 0 = .ok (.iload_n 0, 1) := by decide +kernel
theorem d16_1 : decode jdk_48_method_27_code 1 = .ok (.iload_n 1, 1) := by decide +kernel
theorem d16_2 : decode jdk_48_method_27_code 2 = .ok (.iload_n 2, 1) := by decide +kernel
theorem d16_3 : decode jdk_48_method_27_code 3 = .ok (.invokestatic 194, 3) := by decide +kernel
theorem d16_6 : decode jdk_48_method_27_code 6 = .ok (.iadd, 1) := by decide +kernel
theorem d16_7 : decode jdk_48_method_27_code 7 = .ok (.istore_n 3, 1) := by decide +kernel
theorem d16_8 : decode jdk_48_method_27_code 8 = .ok (.iconst 0, 1) := by decide +kernel
theorem d16_9 : decode jdk_48_method_27_code 9 = .ok (.iload_n 3, 1) := by decide +kernel
theorem d16_10 : decode jdk_48_method_27_code 10 = .ok (.if_icmp .ge 11, 3) := by decide +kernel
theorem d16_13 : decode jdk_48_method_27_code 13 = .ok (.iload_n 3, 1) := by decide +kernel
theorem d16_14 : decode jdk_48_method_27_code 14 = .ok (.ldc 200, 2) := by decide +kernel
theorem d16_16 : decode jdk_48_method_27_code 16 = .ok (.if_icmp .gt 5, 3) := by decide +kernel
theorem d16_19 : decode jdk_48_method_27_code 19 = .ok (.iload_n 3, 1) := by decide +kernel
theorem d16_20 : decode jdk_48_method_27_code 20 = .ok (.ireturn, 1) := by decide +kernel
theorem ef_sb_nl (m : MethodId) (a b d : Nat) : entryFrame m #[(.int (Int32.ofNat a)), (.int (Int32.ofNat b)), (.int (Int32.ofNat d))] 4 = mkF m 0 #[.val (.int (Int32.ofNat a)), .val (.int (Int32.ofNat b)), .val (.int (Int32.ofNat d)), .unset] [] := by first | (simp [entryFrame, mkF, argsToLocals, Value.category]; done) | rfl
set_option maxRecDepth 65536 in
set_option maxHeartbeats 40000000 in
theorem sb_nl (l : Launch) (Z : State) (a0 : Array Value) (hw : ∀ d ∈ tables_1, d.before a0 Z = true) (hEL : EW Z a0 consts_1) (a b d : Nat) (h : Heap) (ha : a ≤ 1000) (hb : b ≤ 1000) (hd : d ≤ 1000) (h0 : 0 < a) :
    Con l Z consts_1 True (⟨"jdk/internal/util/ArraysSupport", "newLength", "(III)I"⟩ : MethodName) jdk_48_method_27_code 4 (some .int) ({ frames := 1, cells := 0, slots := 0, locals := 14 } : Room) [] #[(.int (Int32.ofNat a)), (.int (Int32.ofNat b)), (.int (Int32.ofNat d))] h (fun v h' ws' => v = some (.int (Int32.ofNat (a + max b d))) ∧ h' = h ∧ ws' = []) := by
  refine Con.intro own_pn6 (fun p e s m below meth c T X => ?_)
  rw [ef_sb_nl m a b d]
  refine s_iloadN X (pc' := 1) d16_0 rfl rfl ?_
  refine s_iloadN X (pc' := 2) d16_1 rfl rfl ?_
  refine s_iloadN X (pc' := 3) d16_2 rfl rfl ?_
  refine s_static X (pc' := 6) (W := 1) (as' := [(.int (Int32.ofNat b)), (.int (Int32.ofNat d))]) (S := [(.int (Int32.ofNat a))]) (k' := 0) (n' := 0) d16_3 (hw _ (List.mem_of_getElem? (i := 91) rfl)) (hw _ (List.mem_of_getElem? (i := 92) rfl)) (hw _ (List.mem_of_getElem? (i := 93) rfl)) (hw _ (List.mem_of_getElem? (i := 94) rfl)) (by decide) own_pd3 rfl ((own_max l Z a0 hw hEL (Int32.ofNat b) (Int32.ofNat d) _).payS (by simp) (hw _ (List.mem_of_getElem? (i := 94) rfl)) (hw _ (List.mem_of_getElem? (i := 93) rfl)) hEL (by decide) (by decide)) (Nat.le_of_ble_eq_true rfl) rfl rfl (by decide) (by decide) (by decide) (by decide) rfl (fun T h9 v_ ws_ X hgr_ q10 => ?_)
  obtain ⟨rfl, e_, rfl⟩ := q10
  rw [e_] at X
  show Go p e below _ T (mkF m 6 #[.val (.int (Int32.ofNat a)), .val (.int (Int32.ofNat b)), .val (.int (Int32.ofNat d)), .unset] [(.int (if (Int32.ofNat b) < (Int32.ofNat d) then (Int32.ofNat d) else (Int32.ofNat b))), (.int (Int32.ofNat a))])
  replace X := X.sub (ws' := []) (by simp)
  refine go_int (z := (Int32.ofNat (max b d))) (on_max (by omega) (by omega)) ?_
  refine s_iadd X (pc' := 7) d16_6 rfl ?_
  refine go_int (z := (Int32.ofNat (a + max b d))) (on_add _ _) ?_
  refine s_istoreN X (pc' := 8) (L' := #[.val (.int (Int32.ofNat a)), .val (.int (Int32.ofNat b)), .val (.int (Int32.ofNat d)), .val (.int (Int32.ofNat (a + max b d)))]) d16_7 rfl rfl ?_
  refine s_iconst X (pc' := 9) d16_8 (v := (0 : Int32)) rfl rfl ?_
  refine s_iloadN X (pc' := 10) d16_9 rfl rfl ?_
  refine s_icmpF X (pc' := 13) d16_10 (show (0 : Int32) < Int32.ofNat (a + max b d) from (on_lt (a := 0) (by omega) (by omega)).mpr (by omega)) rfl ?_
  refine s_iloadN X (pc' := 14) d16_13 rfl rfl ?_
  refine s_ldcI X (pc' := 16) d16_14 (hw _ (List.mem_of_getElem? (i := 95) rfl)) rfl ?_
  refine s_icmpF X (pc' := 19) d16_16 (small_le (by omega)) rfl ?_
  refine s_iloadN X (pc' := 20) d16_19 rfl rfl ?_
  exact s_iret X hEL (ws' := []) d16_20 (by decide) (by decide) (fun x q => by simp at q) ⟨rfl, rfl, rfl⟩
theorem d15_0 : decode jdk_68_method_10_code 0 = .ok (.aload_n 0, 1) := by decide +kernel
theorem d15_1 : decode jdk_68_method_10_code 1 = .ok (.getfield 15, 3) := by decide +kernel
theorem d15_4 : decode jdk_68_method_10_code 4 = .ok (.arraylength, 1) := by decide +kernel
theorem d15_5 : decode jdk_68_method_10_code 5 = .ok (.istore_n 2, 1) := by decide +kernel
theorem d15_6 : decode jdk_68_method_10_code 6 = .ok (.iload_n 1, 1) := by decide +kernel
theorem d15_7 : decode jdk_68_method_10_code 7 = .ok (.aload_n 0, 1) := by decide +kernel
theorem d15_8 : decode jdk_68_method_10_code 8 = .ok (.getfield 22, 3) := by decide +kernel
theorem d15_11 : decode jdk_68_method_10_code 11 = .ok (.ishl, 1) := by decide +kernel
theorem d15_12 : decode jdk_68_method_10_code 12 = .ok (.istore_n 3, 1) := by decide +kernel
theorem d15_13 : decode jdk_68_method_10_code 13 = .ok (.iload_n 3, 1) := by decide +kernel
theorem d15_14 : decode jdk_68_method_10_code 14 = .ok (.iload_n 2, 1) := by decide +kernel
theorem d15_15 : decode jdk_68_method_10_code 15 = .ok (.isub, 1) := by decide +kernel
theorem d15_16 : decode jdk_68_method_10_code 16 = .ok (.istore 4, 2) := by decide +kernel
theorem d15_18 : decode jdk_68_method_10_code 18 = .ok (.iload_n 2, 1) := by decide +kernel
theorem d15_19 : decode jdk_68_method_10_code 19 = .ok (.iload 4, 2) := by decide +kernel
theorem d15_21 : decode jdk_68_method_10_code 21 = .ok (.iload_n 2, 1) := by decide +kernel
theorem d15_22 : decode jdk_68_method_10_code 22 = .ok (.iconst 2, 1) := by decide +kernel
theorem d15_23 : decode jdk_68_method_10_code 23 = .ok (.aload_n 0, 1) := by decide +kernel
theorem d15_24 : decode jdk_68_method_10_code 24 = .ok (.getfield 22, 3) := by decide +kernel
theorem d15_27 : decode jdk_68_method_10_code 27 = .ok (.ishl, 1) := by decide +kernel
theorem d15_28 : decode jdk_68_method_10_code 28 = .ok (.iadd, 1) := by decide +kernel
theorem d15_29 : decode jdk_68_method_10_code 29 = .ok (.invokestatic 114, 3) := by decide +kernel
theorem d15_32 : decode jdk_68_method_10_code 32 = .ok (.istore 5, 2) := by decide +kernel
theorem d15_34 : decode jdk_68_method_10_code 34 = .ok (.iload 5, 2) := by decide +kernel
theorem d15_36 : decode jdk_68_method_10_code 36 = .ok (.ldc 39, 2) := by decide +kernel
theorem d15_38 : decode jdk_68_method_10_code 38 = .ok (.if_icmp .ne 13, 3) := by decide +kernel
theorem d15_51 : decode jdk_68_method_10_code 51 = .ok (.iload 5, 2) := by decide +kernel
theorem d15_53 : decode jdk_68_method_10_code 53 = .ok (.aload_n 0, 1) := by decide +kernel
theorem d15_54 : decode jdk_68_method_10_code 54 = .ok (.getfield 22, 3) := by decide +kernel
theorem d15_57 : decode jdk_68_method_10_code 57 = .ok (.ishr, 1) := by decide +kernel
theorem d15_58 : decode jdk_68_method_10_code 58 = .ok (.ireturn, 1) := by decide +kernel
theorem ef_sb_nc (m : MethodId) (k : Addr) (nd : Nat) : entryFrame m #[(.ref k), (.int (Int32.ofNat nd))] 6 = mkF m 0 #[.val (.ref k), .val (.int (Int32.ofNat nd)), .unset, .unset, .unset, .unset] [] := by first | (simp [entryFrame, mkF, argsToLocals, Value.category]; done) | rfl
set_option maxRecDepth 65536 in
set_option maxHeartbeats 40000000 in
theorem sb_nc (l : Launch) (Z : State) (a0 : Array Value) (hw : ∀ d ∈ tables_1, d.before a0 Z = true) (hEL : EW Z a0 consts_1) (k : Addr) (nd : Nat) (h : Heap) {t : Addr} {vt : List Value} (F_k_value : Fld Z h k "java/lang/AbstractStringBuilder" "value" "[B" (.ref t)) (F_k_coder : Fld Z h k "java/lang/AbstractStringBuilder" "coder" "B" (.int (0 : Int32))) (A_t : Ary Z h t .byte vt) (hv : vt.length ≤ 400) (h0 : 0 < vt.length) (hm : nd ≤ 800) (hlt : vt.length < nd) :
    Con l Z consts_1 True (⟨"java/lang/AbstractStringBuilder", "newCapacity", "(I)I"⟩ : MethodName) jdk_68_method_10_code 6 (some .int) ({ frames := 2, cells := 0, slots := 0, locals := 29 } : Room) [] #[(.ref k), (.int (Int32.ofNat nd))] h (fun v h' ws' => v = some (.int (Int32.ofNat (max nd (2 * vt.length + 2)))) ∧ h' = h ∧ ws' = []) := by
  refine Con.intro own_pn7 (fun p e s m below meth c T X => ?_)
  rw [ef_sb_nc m k nd]
  refine s_aloadN X (pc' := 1) d15_0 rfl rfl rfl ?_
  refine s_getf X (pc' := 4) d15_1 (hw _ (List.mem_of_getElem? (i := 48) rfl)) Via.refl F_k_value rfl (fun T X => ?_)
  refine s_alen X (pc' := 5) (z := (Int32.ofNat vt.length)) d15_4 A_t (rfl) rfl ?_
  refine s_istoreN X (pc' := 6) (L' := #[.val (.ref k), .val (.int (Int32.ofNat nd)), .val (.int (Int32.ofNat vt.length)), .unset, .unset, .unset]) d15_5 rfl rfl ?_
  refine s_iloadN X (pc' := 7) d15_6 rfl rfl ?_
  refine s_aloadN X (pc' := 8) d15_7 rfl rfl rfl ?_
  refine s_getf X (pc' := 11) d15_8 (hw _ (List.mem_of_getElem? (i := 50) rfl)) Via.refl F_k_coder rfl (fun T X => ?_)
  refine s_ishl X (pc' := 12) d15_11 rfl ?_
  refine go_int (z := (Int32.ofNat nd)) (shl0 _) ?_
  refine s_istoreN X (pc' := 13) (L' := #[.val (.ref k), .val (.int (Int32.ofNat nd)), .val (.int (Int32.ofNat vt.length)), .val (.int (Int32.ofNat nd)), .unset, .unset]) d15_12 rfl rfl ?_
  refine s_iloadN X (pc' := 14) d15_13 rfl rfl ?_
  refine s_iloadN X (pc' := 15) d15_14 rfl rfl ?_
  refine s_isub X (pc' := 16) d15_15 rfl ?_
  refine go_int (z := (Int32.ofNat (nd - vt.length))) (on_subN (by omega) (by omega)) ?_
  refine s_istore X (pc' := 18) (L' := #[.val (.ref k), .val (.int (Int32.ofNat nd)), .val (.int (Int32.ofNat vt.length)), .val (.int (Int32.ofNat nd)), .val (.int (Int32.ofNat (nd - vt.length))), .unset]) d15_16 rfl rfl ?_
  refine s_iloadN X (pc' := 19) d15_18 rfl rfl ?_
  refine s_iload X (pc' := 21) d15_19 rfl rfl ?_
  refine s_iloadN X (pc' := 22) d15_21 rfl rfl ?_
  refine s_iconst X (pc' := 23) d15_22 (v := (2 : Int32)) rfl rfl ?_
  refine s_aloadN X (pc' := 24) d15_23 rfl rfl rfl ?_
  refine s_getf X (pc' := 27) d15_24 (hw _ (List.mem_of_getElem? (i := 50) rfl)) Via.refl F_k_coder rfl (fun T X => ?_)
  refine s_ishl X (pc' := 28) d15_27 rfl ?_
  refine go_int (z := (2 : Int32)) (by decide) ?_
  refine s_iadd X (pc' := 29) d15_28 rfl ?_
  refine go_int (z := (Int32.ofNat (vt.length + 2))) (on_add vt.length 2) ?_
  refine s_static X (pc' := 32) (W := 0) (as' := [(.int (Int32.ofNat vt.length)), (.int (Int32.ofNat (nd - vt.length))), (.int (Int32.ofNat (vt.length + 2)))]) (S := []) (k' := 0) (n' := 0) d15_29 (hw _ (List.mem_of_getElem? (i := 87) rfl)) (hw _ (List.mem_of_getElem? (i := 88) rfl)) (hw _ (List.mem_of_getElem? (i := 89) rfl)) (hw _ (List.mem_of_getElem? (i := 90) rfl)) (by decide) own_pd4 rfl ((sb_nl l Z a0 hw hEL vt.length (nd - vt.length) (vt.length + 2) _ (by omega) (by omega) (by omega) h0).payS (by simp) (hw _ (List.mem_of_getElem? (i := 90) rfl)) (hw _ (List.mem_of_getElem? (i := 89) rfl)) hEL (by decide) (by decide)) (Nat.le_of_ble_eq_true rfl) rfl rfl (by decide) (by decide) (by decide) (by decide) rfl (fun T h11 v_ ws_ X hgr_ q12 => ?_)
  obtain ⟨rfl, e_, rfl⟩ := q12
  rw [e_] at X
  show Go p e below _ T (mkF m 32 #[.val (.ref k), .val (.int (Int32.ofNat nd)), .val (.int (Int32.ofNat vt.length)), .val (.int (Int32.ofNat nd)), .val (.int (Int32.ofNat (nd - vt.length))), .unset] [(.int (Int32.ofNat (vt.length + max (nd - vt.length) (vt.length + 2))))])
  replace X := X.sub (ws' := []) (by simp)
  refine go_int (z := (Int32.ofNat (max nd (2 * vt.length + 2)))) (by congr 1; omega) ?_
  refine s_istore X (pc' := 34) (L' := #[.val (.ref k), .val (.int (Int32.ofNat nd)), .val (.int (Int32.ofNat vt.length)), .val (.int (Int32.ofNat nd)), .val (.int (Int32.ofNat (nd - vt.length))), .val (.int (Int32.ofNat (max nd (2 * vt.length + 2))))]) d15_32 rfl rfl ?_
  refine s_iload X (pc' := 36) d15_34 rfl rfl ?_
  refine s_ldcI X (pc' := 38) d15_36 (hw _ (List.mem_of_getElem? (i := 96) rfl)) rfl ?_
  refine s_icmpT X (pc' := 51) d15_38 (small_ne (by omega)) (by decide) (by decide) ?_
  refine s_iload X (pc' := 53) d15_51 rfl rfl ?_
  refine s_aloadN X (pc' := 54) d15_53 rfl rfl rfl ?_
  refine s_getf X (pc' := 57) d15_54 (hw _ (List.mem_of_getElem? (i := 50) rfl)) Via.refl F_k_coder rfl (fun T X => ?_)
  refine s_ishr X (pc' := 58) d15_57 rfl ?_
  refine go_int (z := (Int32.ofNat (max nd (2 * vt.length + 2)))) (shr0' _) ?_
  exact s_iret X hEL (ws' := []) d15_58 (by decide) (by decide) (fun x q => by simp at q) ⟨rfl, rfl, rfl⟩
theorem d18_0 : decode jdk_65_method_121_code 0 = .ok (.iload_n 1, 1) := by decide +kernel
theorem d18_1 : decode jdk_65_method_121_code 1 = .ok (.aload_n 0, 1) := by decide +kernel
theorem d18_2 : decode jdk_65_method_121_code 2 = .ok (.arraylength, 1) := by decide +kernel
theorem d18_3 : decode jdk_65_method_121_code 3 = .ok (.if_icmp .ne 11, 3) := by decide +kernel
theorem d18_14 : decode jdk_65_method_121_code 14 = .ok (.iload_n 1, 1) := by decide +kernel
theorem d18_15 : decode jdk_65_method_121_code 15 = .ok (.newarray .byte, 2) := by decide +kernel
theorem d18_17 : decode jdk_65_method_121_code 17 = .ok (.astore_n 2, 1) := by decide +kernel
theorem d18_18 : decode jdk_65_method_121_code 18 = .ok (.aload_n 0, 1) := by decide +kernel
theorem d18_19 : decode jdk_65_method_121_code 19 = .ok (.iconst 0, 1) := by decide +kernel
theorem d18_20 : decode jdk_65_method_121_code 20 = .ok (.aload_n 2, 1) := by decide +kernel
theorem d18_21 : decode jdk_65_method_121_code 21 = .ok (.iconst 0, 1) := by decide +kernel
theorem d18_22 : decode jdk_65_method_121_code 22 = .ok (.aload_n 0, 1) := by decide +kernel
theorem d18_23 : decode jdk_65_method_121_code 23 = .ok (.arraylength, 1) := by decide +kernel
theorem d18_24 : decode jdk_65_method_121_code 24 = .ok (.iload_n 1, 1) := by decide +kernel
theorem d18_25 : decode jdk_65_method_121_code 25 = .ok (.invokestatic 304, 3) := by decide +kernel
theorem d18_28 : decode jdk_65_method_121_code 28 = .ok (.invokestatic 150, 3) := by decide +kernel
theorem d18_31 : decode jdk_65_method_121_code 31 = .ok (.aload_n 2, 1) := by decide +kernel
theorem d18_32 : decode jdk_65_method_121_code 32 = .ok (.areturn, 1) := by decide +kernel
theorem ef_sb_cpy (m : MethodId) (t : Addr) (N : Nat) : entryFrame m #[(.ref t), (.int (Int32.ofNat N))] 3 = mkF m 0 #[.val (.ref t), .val (.int (Int32.ofNat N)), .unset] [] := by first | (simp [entryFrame, mkF, argsToLocals, Value.category]; done) | rfl
set_option maxRecDepth 65536 in
set_option maxHeartbeats 40000000 in
theorem sb_cpy (l : Launch) (Z : State) (a0 : Array Value) (hw : ∀ d ∈ tables_1, d.before a0 Z = true) (hEL : EW Z a0 consts_1) (t : Addr) (N : Nat) (h : Heap) {vt : List Value} (A_t : Ary Z h t .byte vt) (hlt : vt.length < N) (hN : N ≤ 178) :
    Con l Z consts_1 True (⟨"java/util/Arrays", "copyOf", "([BI)[B"⟩ : MethodName) jdk_65_method_121_code 3 (some (.array .byte)) ({ frames := 1, cells := 1, slots := 178, locals := 18 } : Room) [] #[(.ref t), (.int (Int32.ofNat N))] h (fun v h' ws' => ∃ b, v = some (.ref b) ∧ Ext h h' ∧ h.size ≤ b ∧ Ary Z h' b .byte (vt ++ List.replicate (N - vt.length) (.int (0 : Int32))) ∧ Exa Z h' b "[B" ∧ ws' = [b]) := by
  refine Con.intro own_pn8 (fun p e s m below meth c T X => ?_)
  rw [ef_sb_cpy m t N]
  have R_ : Ext h h := ext_refl _
  refine s_iloadN X (pc' := 1) d18_0 rfl rfl ?_
  refine s_aloadN X (pc' := 2) d18_1 rfl rfl rfl ?_
  refine s_alen X (pc' := 3) (z := (Int32.ofNat vt.length)) d18_2 A_t (rfl) rfl ?_
  refine s_icmpT X (pc' := 14) d18_3 (show ¬ Int32.ofNat N = Int32.ofNat vt.length from fun z => Nat.ne_of_gt hlt ((on_eq (by omega) (by omega)).mp z)) (by decide) (by decide) ?_
  refine s_iloadN X (pc' := 15) d18_14 rfl rfl ?_
  refine s_newarrE X (pc' := 17) (k' := 1) (n' := 178) (N := N) (ad := "[B") d18_15 (hw _ (List.mem_of_getElem? (i := 19) rfl)) rfl (by omega) (by decide) (by decide) (by omega) (by decide) (by decide) rfl (fun T h1 b gb_b X' E1 A_b E_b => ?_)
  have g_b : Z.heap.size ≤ b := by rw [gb_b]; exact X.lt
  have ne_t_b : t ≠ b := Nat.ne_of_lt (by rw [gb_b]; exact A_t.lt)
  have sz_R__b : h.size ≤ b := by rw [gb_b]; exact R_.1
  replace A_t := A_t.ext E1
  replace R_ := ext_trans R_ E1
  replace X := X'
  refine s_astoreN X (pc' := 18) (L' := #[.val (.ref t), .val (.int (Int32.ofNat N)), .val (.ref b)]) d18_17 rfl rfl rfl ?_
  refine s_aloadN X (pc' := 19) d18_18 rfl rfl rfl ?_
  refine s_iconst X (pc' := 20) d18_19 (v := (0 : Int32)) rfl rfl ?_
  refine s_aloadN X (pc' := 21) d18_20 rfl rfl rfl ?_
  refine s_iconst X (pc' := 22) d18_21 (v := (0 : Int32)) rfl rfl ?_
  refine s_aloadN X (pc' := 23) d18_22 rfl rfl rfl ?_
  refine s_alen X (pc' := 24) (z := (Int32.ofNat vt.length)) d18_23 A_t (rfl) rfl ?_
  refine s_iloadN X (pc' := 25) d18_24 rfl rfl ?_
  refine s_static X (pc' := 28) (W := 4) (as' := [(.int (Int32.ofNat vt.length)), (.int (Int32.ofNat N))]) (S := [(.int (0 : Int32)), (.ref b), (.int (0 : Int32)), (.ref t)]) (k' := 1) (n' := 178) d18_25 (hw _ (List.mem_of_getElem? (i := 101) rfl)) (hw _ (List.mem_of_getElem? (i := 102) rfl)) (hw _ (List.mem_of_getElem? (i := 93) rfl)) (hw _ (List.mem_of_getElem? (i := 103) rfl)) (by decide) own_pd3 rfl ((own_min l Z a0 hw hEL (Int32.ofNat vt.length) (Int32.ofNat N) _).payS (by simp) (hw _ (List.mem_of_getElem? (i := 103) rfl)) (hw _ (List.mem_of_getElem? (i := 93) rfl)) hEL (by decide) (by decide)) (Nat.le_of_ble_eq_true rfl) rfl rfl (by decide) (by decide) (by decide) (by decide) rfl (fun T h13 v_ ws_ X hgr_ q14 => ?_)
  obtain ⟨rfl, e_, rfl⟩ := q14
  rw [e_] at X
  show Go p e below _ T (mkF m 28 #[.val (.ref t), .val (.int (Int32.ofNat N)), .val (.ref b)] [(.int (if (Int32.ofNat N) < (Int32.ofNat vt.length) then (Int32.ofNat N) else (Int32.ofNat vt.length))), (.int (0 : Int32)), (.ref b), (.int (0 : Int32)), (.ref t)])
  replace X := X.sub (ws' := [b]) (by simp)
  refine go_int (z := (Int32.ofNat vt.length)) ((on_min (by omega) (by omega)).trans (by congr 1; omega)) ?_
  refine s_acopy X (pc' := 31) (sp := 0) (dp := 0) (nn := vt.length) (W := 0) d18_28 (hw _ (List.mem_of_getElem? (i := 104) rfl)) (hw _ (List.mem_of_getElem? (i := 107) rfl)) (hw _ (List.mem_of_getElem? (i := 105) rfl)) (hw _ (List.mem_of_getElem? (i := 106) rfl)) A_t A_b rfl rfl rfl rfl (by omega) (by rw [List.length_replicate]; omega) g_b (by simp) rfl (Nat.le_of_ble_eq_true rfl) (by decide) (by decide) rfl (fun T h2 X K_ A' => ?_)
  replace E_b := E_b.keep K_
  replace R_ := ext_keep R_ K_ (allS sz_R__b all0)
  have A_c : Ary Z h2 b .byte (vt ++ List.replicate (N - vt.length) (.int (0 : Int32))) := by
    rw [List.drop_zero, List.take_length, List.take_zero, List.nil_append, Nat.zero_add, List.drop_replicate] at A'
    exact A'
  refine s_aloadN X (pc' := 32) d18_31 rfl rfl rfl ?_
  exact s_aret X hEL (ws' := [b]) (t := (.array .byte)) d18_32 rfl rfl rfl rfl (by decide) (by decide) (by simp) ⟨b, rfl, R_, sz_R__b, A_c, E_b, rfl⟩
theorem d14_0 : decode jdk_68_method_9_code 0 = .ok (.aload_n 0, 1) := by decide +kernel
theorem d14_1 : decode jdk_68_method_9_code 1 = .ok (.getfield 15, 3) := by decide +kernel
theorem d14_4 : decode jdk_68_method_9_code 4 = .ok (.arraylength, 1) := by decide +kernel
theorem d14_5 : decode jdk_68_method_9_code 5 = .ok (.aload_n 0, 1) := by decide +kernel
theorem d14_6 : decode jdk_68_method_9_code 6 = .ok (.getfield 22, 3) := by decide +kernel
theorem d14_9 : decode jdk_68_method_9_code 9 = .ok (.ishr, 1) := by decide +kernel
theorem d14_10 : decode jdk_68_method_9_code 10 = .ok (.istore_n 2, 1) := by decide +kernel
theorem d14_11 : decode jdk_68_method_9_code 11 = .ok (.iload_n 1, 1) := by decide +kernel
theorem d14_12 : decode jdk_68_method_9_code 12 = .ok (.iload_n 2, 1) := by decide +kernel
theorem d14_13 : decode jdk_68_method_9_code 13 = .ok (.isub, 1) := by decide +kernel
theorem d14_14 : decode jdk_68_method_9_code 14 = .ok (.ifCond .le 24, 3) := by decide +kernel
theorem d14_17 : decode jdk_68_method_9_code 17 = .ok (.aload_n 0, 1) := by decide +kernel
theorem d14_18 : decode jdk_68_method_9_code 18 = .ok (.aload_n 0, 1) := by decide +kernel
theorem d14_19 : decode jdk_68_method_9_code 19 = .ok (.getfield 15, 3) := by decide +kernel
theorem d14_22 : decode jdk_68_method_9_code 22 = .ok (.aload_n 0, 1) := by decide +kernel
theorem d14_23 : decode jdk_68_method_9_code 23 = .ok (.iload_n 1, 1) := by decide +kernel
theorem d14_24 : decode jdk_68_method_9_code 24 = .ok (.invokevirtual 104, 3) := by decide +kernel
theorem d14_27 : decode jdk_68_method_9_code 27 = .ok (.aload_n 0, 1) := by decide +kernel
theorem d14_28 : decode jdk_68_method_9_code 28 = .ok (.getfield 22, 3) := by decide +kernel
theorem d14_31 : decode jdk_68_method_9_code 31 = .ok (.ishl, 1) := by decide +kernel
theorem d14_32 : decode jdk_68_method_9_code 32 = .ok (.invokestatic 108, 3) := by decide +kernel
theorem d14_35 : decode jdk_68_method_9_code 35 = .ok (.putfield 15, 3) := by decide +kernel
theorem d14_38 : decode jdk_68_method_9_code 38 = .ok (.return_, 1) := by decide +kernel
theorem ef_sb_ens (m : MethodId) (k : Addr) (nd : Nat) : entryFrame m #[(.ref k), (.int (Int32.ofNat nd))] 3 = mkF m 0 #[.val (.ref k), .val (.int (Int32.ofNat nd)), .unset] [] := by first | (simp [entryFrame, mkF, argsToLocals, Value.category]; done) | rfl
set_option maxRecDepth 65536 in
set_option maxHeartbeats 40000000 in
theorem sb_ens (l : Launch) (Z : State) (a0 : Array Value) (hw : ∀ d ∈ tables_1, d.before a0 Z = true) (hEL : EW Z a0 consts_1) (k : Addr) (nd : Nat) (h : Heap) {t : Addr} {vt : List Value} {cv : Value} (E_k : Exa Z h k "java/lang/StringBuilder") (g_k : Z.heap.size ≤ k) (F_k_value : Fld Z h k "java/lang/AbstractStringBuilder" "value" "[B" (.ref t)) (F_k_coder : Fld Z h k "java/lang/AbstractStringBuilder" "coder" "B" (.int (0 : Int32))) (F_k_count : Fld Z h k "java/lang/AbstractStringBuilder" "count" "I" cv) (A_t : Ary Z h t .byte vt) (E_t : Exa Z h t "[B") (hv : vt.length ≤ 400) (h0 : 0 < vt.length) (hm : nd ≤ 800) (hS : capN vt.length nd ≤ 178) :
    Con l Z consts_1 True (⟨"java/lang/AbstractStringBuilder", "ensureCapacityInternal", "(I)V"⟩ : MethodName) jdk_68_method_9_code 3 none ({ frames := 3, cells := 1, slots := 178, locals := 48 } : Room) [k, t] #[(.ref k), (.int (Int32.ofNat nd))] h (fun v h' ws' => ∃ t' z, v = none ∧ Keep h h' [k] ∧ Fld Z h' k "java/lang/AbstractStringBuilder" "value" "[B" (.ref t') ∧ Fld Z h' k "java/lang/AbstractStringBuilder" "coder" "B" (.int (0 : Int32)) ∧ Fld Z h' k "java/lang/AbstractStringBuilder" "count" "I" cv ∧ (t' = t ∨ h.size ≤ t') ∧ Ary Z h' t' .byte (vt ++ List.replicate z (.int (0 : Int32))) ∧ Exa Z h' t' "[B" ∧ vt.length + z = capN vt.length nd ∧ ws' = [t']) := by
  refine Con.intro own_pn9 (fun p e s m below meth c T X => ?_)
  rw [ef_sb_ens m k nd]
  have K_ : Keep h h [k] := Keep.refl _ _
  refine s_aloadN X (pc' := 1) d14_0 rfl rfl rfl ?_
  refine s_getf X (pc' := 4) d14_1 (hw _ (List.mem_of_getElem? (i := 48) rfl)) Via.refl F_k_value rfl (fun T X => ?_)
  refine s_alen X (pc' := 5) (z := (Int32.ofNat vt.length)) d14_4 A_t (rfl) rfl ?_
  refine s_aloadN X (pc' := 6) d14_5 rfl rfl rfl ?_
  refine s_getf X (pc' := 9) d14_6 (hw _ (List.mem_of_getElem? (i := 50) rfl)) Via.refl F_k_coder rfl (fun T X => ?_)
  refine s_ishr X (pc' := 10) d14_9 rfl ?_
  refine go_int (z := (Int32.ofNat vt.length)) (shr0' _) ?_
  refine s_istoreN X (pc' := 11) (L' := #[.val (.ref k), .val (.int (Int32.ofNat nd)), .val (.int (Int32.ofNat vt.length))]) d14_10 rfl rfl ?_
  refine s_iloadN X (pc' := 12) d14_11 rfl rfl ?_
  refine s_iloadN X (pc' := 13) d14_12 rfl rfl ?_
  refine s_isub X (pc' := 14) d14_13 rfl ?_
  refine s_if X (pc' := 38) (pcF := 17) d14_14 (by decide) (by decide) rfl (fun (q1 : ¬ (0 : Int32) < ((Int32.ofNat nd) - (Int32.ofNat vt.length))) => ?_) (fun (q1 : (0 : Int32) < ((Int32.ofNat nd) - (Int32.ofNat vt.length))) => ?_)
  · have n1 : nd ≤ vt.length := by
      rcases Nat.lt_or_ge vt.length nd with z | z
      · exact absurd ((on_subZ (by omega) (by omega)).mpr z) q1
      · exact z
    exact s_ret X hEL (ws' := [t]) d14_38 (by decide) (by decide) (by simp) ⟨t, 0, rfl, K_, F_k_value, F_k_coder, F_k_count, Or.inl rfl, (by rw [List.replicate_zero, List.append_nil]; exact A_t), E_t, (by rw [capN, if_pos n1]; omega), rfl⟩
  · have n1 : vt.length < nd := (on_subZ (by omega) (by omega)).mp q1
    have hc : capN vt.length nd = max nd (2 * vt.length + 2) := by rw [capN, if_neg (by omega)]
    refine s_aloadN X (pc' := 18) d14_17 rfl rfl rfl ?_
    refine s_aloadN X (pc' := 19) d14_18 rfl rfl rfl ?_
    refine s_getf X (pc' := 22) d14_19 (hw _ (List.mem_of_getElem? (i := 48) rfl)) Via.refl F_k_value rfl (fun T X => ?_)
    refine s_aloadN X (pc' := 23) d14_22 rfl rfl rfl ?_
    refine s_iloadN X (pc' := 24) d14_23 rfl rfl ?_
    refine s_priv X (pc' := 27) (W := 2) (as' := [(.int (Int32.ofNat nd))]) (S := [(.ref t), (.ref k)]) (k' := 0) (n' := 0) d14_24 (hw _ (List.mem_of_getElem? (i := 82) rfl)) (hw _ (List.mem_of_getElem? (i := 84) rfl)) (nfaceC (hw _ (List.mem_of_getElem? (i := 80) rfl)) rfl) (hw _ (List.mem_of_getElem? (i := 83) rfl)) (hw _ (List.mem_of_getElem? (i := 86) rfl)) (by decide) own_pd5 rfl E_k ((sb_nc l Z a0 hw hEL k nd _ F_k_value F_k_coder A_t hv h0 hm n1).payS (by simp) (hw _ (List.mem_of_getElem? (i := 86) rfl)) (hw _ (List.mem_of_getElem? (i := 44) rfl)) hEL (by decide) (by decide)) (Nat.le_of_ble_eq_true rfl) rfl rfl (by decide) (by decide) (by decide) (by decide) rfl (fun T h15 v_ ws_ X hgr_ q16 => ?_)
    obtain ⟨rfl, e_, rfl⟩ := q16
    rw [e_] at X
    show Go p e below _ T (mkF m 27 #[.val (.ref k), .val (.int (Int32.ofNat nd)), .val (.int (Int32.ofNat vt.length))] [(.int (Int32.ofNat (max nd (2 * vt.length + 2)))), (.ref t), (.ref k)])
    replace X := X.sub (ws' := [k, t]) (by simp)
    refine s_aloadN X (pc' := 28) d14_27 rfl rfl rfl ?_
    refine s_getf X (pc' := 31) d14_28 (hw _ (List.mem_of_getElem? (i := 50) rfl)) Via.refl F_k_coder rfl (fun T X => ?_)
    refine s_ishl X (pc' := 32) d14_31 rfl ?_
    refine go_int (z := (Int32.ofNat (max nd (2 * vt.length + 2)))) (shl0 _) ?_
    refine s_static X (pc' := 35) (W := 1) (as' := [(.ref t), (.int (Int32.ofNat (max nd (2 * vt.length + 2))))]) (S := [(.ref k)]) (k' := 1) (n' := 178) d14_32 (hw _ (List.mem_of_getElem? (i := 97) rfl)) (hw _ (List.mem_of_getElem? (i := 98) rfl)) (hw _ (List.mem_of_getElem? (i := 99) rfl)) (hw _ (List.mem_of_getElem? (i := 100) rfl)) (by decide) own_pd6 rfl ((sb_cpy l Z a0 hw hEL t (max nd (2 * vt.length + 2)) _ A_t (by omega) (by omega)).payS (by simp) (hw _ (List.mem_of_getElem? (i := 100) rfl)) (hw _ (List.mem_of_getElem? (i := 99) rfl)) hEL (by decide) (by decide)) (Nat.le_of_ble_eq_true rfl) rfl rfl (by decide) (by decide) (by decide) (by decide) rfl (fun T h17 v_ ws_ X hgr_ q18 => ?_)
    obtain ⟨b, rfl, E_, hzb, A_b, E_b, rfl⟩ := q18
    show Go p e below _ T (mkF m 35 #[.val (.ref k), .val (.int (Int32.ofNat nd)), .val (.int (Int32.ofNat vt.length))] [(.ref b), (.ref k)])
    replace X := X.sub (ws' := [b, k]) (by simp)
    replace E_k := E_k.ext E_
    replace F_k_value := F_k_value.ext E_
    replace F_k_coder := F_k_coder.ext E_
    replace F_k_count := F_k_count.ext E_
    replace K_ := K_.ext E_
    have ne_b_k : b ≠ k := Exa.ne E_b E_k (by decide)
    refine s_putf X (pc' := 38) d14_35 (hw _ (List.mem_of_getElem? (i := 48) rfl)) Via.refl F_k_value E_k (Or.inl (hw _ (List.mem_of_getElem? (i := 49) rfl))) (hw _ (List.mem_of_getElem? (i := 35) rfl)) (ty := (.array .byte)) (by decide) rfl rfl g_k (by simp) rfl (fun T h19 X W20 => ?_)
    replace F_k_value := F_k_value.same W20
    replace F_k_coder := F_k_coder.other W20 (Or.inr (slot_ne (Or.inl (hw _ (List.mem_of_getElem? (i := 51) rfl))) (Or.inl (hw _ (List.mem_of_getElem? (i := 49) rfl))) (t := .byte) (t' := (.array .byte)) (by decide) (by decide) (by decide)))
    replace F_k_count := F_k_count.other W20 (Or.inr (slot_ne (Or.inl (hw _ (List.mem_of_getElem? (i := 76) rfl))) (Or.inl (hw _ (List.mem_of_getElem? (i := 49) rfl))) (t := .int) (t' := (.array .byte)) (by decide) (by decide) (by decide)))
    replace A_b := A_b.other W20 ne_b_k
    replace E_k := E_k.wr W20
    replace E_b := E_b.wr W20
    replace K_ := K_.wr W20 (Or.inl (by simp))
    exact s_ret X hEL (ws' := [b]) d14_38 (by decide) (by decide) (by simp) ⟨b, _, rfl, K_, F_k_value, F_k_coder, F_k_count, Or.inr hzb, A_b, E_b, (by rw [hc]; omega), rfl⟩
theorem d11_0 : decode jdk_68_method_22_code 0 = .ok (.aload_n 1, 1) := by decide +kernel
theorem d11_1 : decode jdk_68_method_22_code 1 = .ok (.ifnonnull 8, 3) := by decide +kernel
theorem d11_9 : decode jdk_68_method_22_code 9 = .ok (.aload_n 1, 1) := by decide +kernel
theorem d11_10 : decode jdk_68_method_22_code 10 = .ok (.invokevirtual 32, 3) := by decide +kernel
theorem d11_13 : decode jdk_68_method_22_code 13 = .ok (.istore_n 2, 1) := by decide +kernel
theorem d11_14 : decode jdk_68_method_22_code 14 = .ok (.aload_n 0, 1) := by decide +kernel
theorem d11_15 : decode jdk_68_method_22_code 15 = .ok (.aload_n 0, 1) := by decide +kernel
theorem d11_16 : decode jdk_68_method_22_code 16 = .ok (.getfield 79, 3) := by decide +kernel
theorem d11_19 : decode jdk_68_method_22_code 19 = .ok (.iload_n 2, 1) := by decide +kernel
theorem d11_20 : decode jdk_68_method_22_code 20 = .ok (.iadd, 1) := by decide +kernel
theorem d11_21 : decode jdk_68_method_22_code 21 = .ok (.invokevirtual 100, 3) := by decide +kernel
theorem d11_24 : decode jdk_68_method_22_code 24 = .ok (.aload_n 0, 1) := by decide +kernel
theorem d11_25 : decode jdk_68_method_22_code 25 = .ok (.aload_n 0, 1) := by decide +kernel
theorem d11_26 : decode jdk_68_method_22_code 26 = .ok (.getfield 79, 3) := by decide +kernel
theorem d11_29 : decode jdk_68_method_22_code 29 = .ok (.aload_n 1, 1) := by decide +kernel
theorem d11_30 : decode jdk_68_method_22_code 30 = .ok (.invokevirtual 208, 3) := by decide +kernel
theorem d11_33 : decode jdk_68_method_22_code 33 = .ok (.aload_n 0, 1) := by decide +kernel
theorem d11_34 : decode jdk_68_method_22_code 34 = .ok (.dup, 1) := by decide +kernel
theorem d11_35 : decode jdk_68_method_22_code 35 = .ok (.getfield 79, 3) := by decide +kernel
theorem d11_38 : decode jdk_68_method_22_code 38 = .ok (.iload_n 2, 1) := by decide +kernel
theorem d11_39 : decode jdk_68_method_22_code 39 = .ok (.iadd, 1) := by decide +kernel
theorem d11_40 : decode jdk_68_method_22_code 40 = .ok (.putfield 79, 3) := by decide +kernel
theorem d11_43 : decode jdk_68_method_22_code 43 = .ok (.aload_n 0, 1) := by decide +kernel
theorem d11_44 : decode jdk_68_method_22_code 44 = .ok (.areturn, 1) := by decide +kernel
theorem ef_sb_app (m : MethodId) (k x : Addr) : entryFrame m #[(.ref k), (.ref x)] 3 = mkF m 0 #[.val (.ref k), .val (.ref x), .unset] [] := by first | (simp [entryFrame, mkF, argsToLocals, Value.category]; done) | rfl
set_option maxRecDepth 65536 in
set_option maxHeartbeats 40000000 in
theorem sb_app (l : Launch) (Z : State) (a0 : Array Value) (hw : ∀ d ∈ tables_1, d.before a0 Z = true) (hEL : EW Z a0 consts_1) (k x : Addr) (h : Heap) {t tx : Addr} {cs ds : List Int32} {r : List Value} {G1 : Int32} (S_k : SBD Z h k t ds r) (E_x : Exa Z h x "java/lang/String") (F_x_value : Fld Z h x "java/lang/String" "value" "[B" (.ref tx)) (F_x_coder : Fld Z h x "java/lang/String" "coder" "B" (.int (0 : Int32))) (A_tx : Ary Z h tx .byte (bys cs)) (hcs : Lat cs) (hcl : cs.length ≤ 4000) (hv : ds.length + r.length ≤ 400) (h0 : 0 < ds.length + r.length) (hcs4 : cs.length ≤ 400) (hS : capN (ds.length + r.length) (ds.length + cs.length) ≤ 178) (g_k : Z.heap.size ≤ k) (g_t : Z.heap.size ≤ t) (ne_tx_t : tx ≠ t) (O2 : Sta Z Z.heap "java/lang/String" "COMPACT_STRINGS" "Z" (.int G1)) (P5 : ¬ (G1 = (0 : Int32))) :
    Con l Z consts_1 True (⟨"java/lang/AbstractStringBuilder", "append", "(Ljava/lang/String;)Ljava/lang/AbstractStringBuilder;"⟩ : MethodName) jdk_68_method_22_code 3 (some (.object "java/lang/AbstractStringBuilder")) ({ frames := 4, cells := 1, slots := 178, locals := 62 } : Room) [k, t] #[(.ref k), (.ref x)] h (fun v h' ws' => ∃ t' r', v = some (.ref k) ∧ Keep h h' [k, t] ∧ (t' = t ∨ h.size ≤ t') ∧ SBD Z h' k t' (ds ++ cs) r' ∧ ds.length + cs.length + r'.length = capN (ds.length + r.length) (ds.length + cs.length) ∧ ws' = [t']) := by
  refine Con.intro own_pn10 (fun p e s m below meth c T X => ?_)
  rw [ef_sb_app m k x]
  obtain ⟨E_k, F_k_value, F_k_coder, F_k_count, A_t, E_t⟩ := S_k
  have hvt : (bys ds ++ r).length = ds.length + r.length := by rw [List.length_append, bys_len]
  have S_x : Str Z h x cs := Str.ofLatin E_x F_x_value F_x_coder A_tx hcs hcl
  have hz0 := X.old.1
  refine s_aloadN X (pc' := 1) d11_0 rfl rfl rfl ?_
  refine s_ifnonnullT X (pc' := 9) d11_1 (by decide) (by decide) ?_
  refine s_aloadN X (pc' := 10) d11_9 rfl rfl rfl ?_
  refine s_virtual X (pc' := 13) (W := 0) (as' := []) (S := []) (k' := 0) (n' := 0) d11_10 (hw _ (List.mem_of_getElem? (i := 65) rfl)) (hw _ (List.mem_of_getElem? (i := 66) rfl)) (hw _ (List.mem_of_getElem? (i := 68) rfl)) (hw _ (List.mem_of_getElem? (i := 67) rfl)) (nface (hw _ (List.mem_of_getElem? (i := 68) rfl))) (by decide) own_pd7 rfl E_x (lenPay hw hEL O2 P5 X.old S_x (by decide) (by decide)) (Nat.le_of_ble_eq_true rfl) rfl rfl (by decide) (by decide) (by decide) (by decide) rfl (fun T h21 v_ ws_ X hgr_ q22 => ?_)
  obtain ⟨rfl, e_, rfl⟩ := q22
  rw [e_] at X
  show Go p e below _ T (mkF m 13 #[.val (.ref k), .val (.ref x), .unset] [(.int (Int32.ofNat cs.length))])
  replace X := X.sub (ws' := [k, t]) (by simp)
  refine s_istoreN X (pc' := 14) (L' := #[.val (.ref k), .val (.ref x), .val (.int (Int32.ofNat cs.length))]) d11_13 rfl rfl ?_
  refine s_aloadN X (pc' := 15) d11_14 rfl rfl rfl ?_
  refine s_aloadN X (pc' := 16) d11_15 rfl rfl rfl ?_
  refine s_getf X (pc' := 19) d11_16 (hw _ (List.mem_of_getElem? (i := 75) rfl)) Via.refl F_k_count rfl (fun T X => ?_)
  refine s_iloadN X (pc' := 20) d11_19 rfl rfl ?_
  refine s_iadd X (pc' := 21) d11_20 rfl ?_
  refine go_int (z := (Int32.ofNat (ds.length + cs.length))) (on_add _ _) ?_
  have ne_tx_k : tx ≠ k := by obtain ⟨kc, q⟩ := A_tx.arv .null; exact (Exa.neArv E_k q (hw _ (List.mem_of_getElem? (i := 35) rfl))).symm
  have htx := A_tx.lt
  refine s_priv X (pc' := 24) (W := 0) (as' := [(.int (Int32.ofNat (ds.length + cs.length)))]) (S := []) (k' := 1) (n' := 178) d11_21 (hw _ (List.mem_of_getElem? (i := 77) rfl)) (hw _ (List.mem_of_getElem? (i := 79) rfl)) (nfaceC (hw _ (List.mem_of_getElem? (i := 80) rfl)) rfl) (hw _ (List.mem_of_getElem? (i := 78) rfl)) (hw _ (List.mem_of_getElem? (i := 81) rfl)) (by decide) own_pd8 rfl E_k ((sb_ens l Z a0 hw hEL k (ds.length + cs.length) _ E_k g_k F_k_value F_k_coder F_k_count A_t E_t (by rw [hvt]; exact hv) (by rw [hvt]; exact h0) (by omega) (by rw [hvt]; exact hS)).payS (by simp) (hw _ (List.mem_of_getElem? (i := 81) rfl)) (hw _ (List.mem_of_getElem? (i := 44) rfl)) hEL (by decide) (by decide)) (Nat.le_of_ble_eq_true rfl) rfl rfl (by decide) (by decide) (by decide) (by decide) rfl (fun T h23 v_ ws_ X hgr_ q24 => ?_)
  obtain ⟨t', z, rfl, K0_, G1_, G2_, G3_, hT, A_u, E_u, hzc, rfl⟩ := q24
  show Go p e below _ T (mkF m 24 #[.val (.ref k), .val (.ref x), .val (.int (Int32.ofNat cs.length))] [])
  replace X := X.sub (ws' := [t', k, t]) (by simp)
  replace F_x_value := F_x_value.keep K0_ (ninS (Exa.ne E_x E_k (by decide)) nin0)
  replace F_x_coder := F_x_coder.keep K0_ (ninS (Exa.ne E_x E_k (by decide)) nin0)
  replace A_tx := A_tx.keep K0_ (ninS ne_tx_k nin0)
  replace E_k := E_k.keep K0_
  replace E_x := E_x.keep K0_
  rw [hvt] at hzc
  have F_k_value := G1_
  have F_k_coder := G2_
  have F_k_count := G3_
  have g_u : Z.heap.size ≤ t' := hT.elim (fun q => by rw [q]; exact g_t) (fun q => Nat.le_trans hz0 q)
  have ne_tx_u : tx ≠ t' := hT.elim (fun q => by rw [q]; exact ne_tx_t) (fun q => Nat.ne_of_lt (Nat.lt_of_lt_of_le htx q))
  have ne_u_k : t' ≠ k := Exa.ne E_u E_k (by decide)
  have hul : (bys ds ++ r ++ List.replicate z (Value.int (0 : Int32))).length = ds.length + r.length + z := by rw [List.length_append, hvt, List.length_replicate]
  have hneed : ds.length + cs.length ≤ ds.length + r.length + z := by
    rw [hzc, capN]; split <;> omega
  refine s_aloadN X (pc' := 25) d11_24 rfl rfl rfl ?_
  refine s_aloadN X (pc' := 26) d11_25 rfl rfl rfl ?_
  refine s_getf X (pc' := 29) d11_26 (hw _ (List.mem_of_getElem? (i := 75) rfl)) Via.refl F_k_count rfl (fun T X => ?_)
  refine s_aloadN X (pc' := 30) d11_29 rfl rfl rfl ?_
  refine s_priv X (pc' := 33) (W := 0) (as' := [(.int (Int32.ofNat ds.length)), (.ref x)]) (S := []) (k' := 1) (n' := 178) d11_30 (hw _ (List.mem_of_getElem? (i := 108) rfl)) (hw _ (List.mem_of_getElem? (i := 110) rfl)) (nfaceC (hw _ (List.mem_of_getElem? (i := 80) rfl)) rfl) (hw _ (List.mem_of_getElem? (i := 109) rfl)) (hw _ (List.mem_of_getElem? (i := 112) rfl)) (by decide) own_pd9 rfl E_k ((sb_psa l Z a0 hw hEL k x ds.length _ E_k F_k_value F_k_coder E_x F_x_value F_x_coder A_tx hcs hcl A_u (by rw [hul]; exact hneed) g_u O2 P5).payS (by simp) (hw _ (List.mem_of_getElem? (i := 112) rfl)) (hw _ (List.mem_of_getElem? (i := 44) rfl)) hEL (by decide) (by decide)) (Nat.le_of_ble_eq_true rfl) rfl rfl (by decide) (by decide) (by decide) (by decide) rfl (fun T h25 v_ ws_ X hgr_ q26 => ?_)
  obtain ⟨rfl, K1_, A_v, rfl⟩ := q26
  show Go p e below _ T (mkF m 33 #[.val (.ref k), .val (.ref x), .val (.int (Int32.ofNat cs.length))] [])
  replace X := X.sub (ws' := [t', k]) (by simp)
  have ne_k_t' := ne_u_k.symm
  replace E_u := E_u.keep K1_
  replace F_k_value := F_k_value.keep K1_ (ninS ne_k_t' nin0)
  replace F_k_coder := F_k_coder.keep K1_ (ninS ne_k_t' nin0)
  replace F_k_count := F_k_count.keep K1_ (ninS ne_k_t' nin0)
  replace E_k := E_k.keep K1_
  have K_ : Keep h h25 [k, t] := (Keep.refl h [k, t]).trans K0_ (allS (Or.inl (by simp)) all0) |>.trans K1_ (allS (hT.elim (fun q => Or.inl (by rw [q]; simp)) Or.inr) all0)
  have A_t' := A_v
  have ne_t'_k := ne_u_k
  refine s_aloadN X (pc' := 34) d11_33 rfl rfl rfl ?_
  refine s_dup X (pc' := 35) d11_34 rfl rfl ?_
  refine s_getf X (pc' := 38) d11_35 (hw _ (List.mem_of_getElem? (i := 75) rfl)) Via.refl F_k_count rfl (fun T X => ?_)
  refine s_iloadN X (pc' := 39) d11_38 rfl rfl ?_
  refine s_iadd X (pc' := 40) d11_39 rfl ?_
  refine go_int (z := (Int32.ofNat (ds.length + cs.length))) (on_add _ _) ?_
  have E_t' := E_u
  refine s_putf X (pc' := 43) d11_40 (hw _ (List.mem_of_getElem? (i := 75) rfl)) Via.refl F_k_count E_k (Or.inl (hw _ (List.mem_of_getElem? (i := 76) rfl))) (hw _ (List.mem_of_getElem? (i := 35) rfl)) (ty := .int) (by decide) rfl rfl g_k (by simp) rfl (fun T h27 X W28 => ?_)
  replace F_k_value := F_k_value.other W28 (Or.inr (slot_ne (Or.inl (hw _ (List.mem_of_getElem? (i := 49) rfl))) (Or.inl (hw _ (List.mem_of_getElem? (i := 76) rfl))) (t := (.array .byte)) (t' := .int) (by decide) (by decide) (by decide)))
  replace F_k_coder := F_k_coder.other W28 (Or.inr (slot_ne (Or.inl (hw _ (List.mem_of_getElem? (i := 51) rfl))) (Or.inl (hw _ (List.mem_of_getElem? (i := 76) rfl))) (t := .byte) (t' := .int) (by decide) (by decide) (by decide)))
  replace F_k_count := F_k_count.same W28
  replace A_t' := A_t'.other W28 ne_t'_k
  replace E_k := E_k.wr W28
  replace E_t' := E_t'.wr W28
  replace K_ := K_.wr W28 (Or.inl (by simp))
  refine s_aloadN X (pc' := 44) d11_43 rfl rfl rfl ?_
  exact s_aret X hEL (ws' := [t']) (t := (.object "java/lang/AbstractStringBuilder")) d11_44 rfl rfl rfl rfl (by decide) (by decide) (by simp) ⟨t', (r ++ List.replicate z (Value.int (0 : Int32))).drop cs.length, rfl, K_, hT, ⟨E_k, F_k_value, F_k_coder, (by rw [List.length_append]; exact F_k_count), (by
      have q1 : (bys ds ++ r ++ List.replicate z (Value.int (0 : Int32))).take ds.length = bys ds := by rw [List.append_assoc, ← bys_len ds]; exact List.take_left
      have q2 : (bys ds ++ r ++ List.replicate z (Value.int (0 : Int32))).drop (ds.length + cs.length) = (r ++ List.replicate z (Value.int (0 : Int32))).drop cs.length := by rw [List.append_assoc, ← List.drop_drop, ← bys_len ds, List.drop_left]
      rw [q1, q2, ← bys_app] at A_t'; exact A_t'), E_t'⟩, (by rw [List.length_drop, List.length_append, List.length_replicate]; omega), rfl⟩
theorem d10_0 : decode jdk_67_method_7_code 0 = .ok (.aload_n 0, 1) := by decide +kernel
theorem d10_1 : decode jdk_67_method_7_code 1 = .ok (.aload_n 1, 1) := by decide +kernel
theorem d10_2 : decode jdk_67_method_7_code 2 = .ok (.invokespecial 29, 3) := by decide +kernel
theorem d10_5 : decode jdk_67_method_7_code 5 = .ok (.pop, 1) := by decide +kernel
theorem d10_6 : decode jdk_67_method_7_code 6 = .ok (.aload_n 0, 1) := by decide +kernel
theorem d10_7 : decode jdk_67_method_7_code 7 = .ok (.areturn, 1) := by decide +kernel
theorem ef_sb_sapp (m : MethodId) (k x : Addr) : entryFrame m #[(.ref k), (.ref x)] 2 = mkF m 0 #[.val (.ref k), .val (.ref x)] [] := by first | (simp [entryFrame, mkF, argsToLocals, Value.category]; done) | rfl
set_option maxRecDepth 65536 in
set_option maxHeartbeats 40000000 in
theorem sb_sapp (l : Launch) (Z : State) (a0 : Array Value) (hw : ∀ d ∈ tables_1, d.before a0 Z = true) (hEL : EW Z a0 consts_1) (k x : Addr) (h : Heap) {t tx : Addr} {cs ds : List Int32} {r : List Value} {G1 : Int32} (S_k : SBD Z h k t ds r) (E_x : Exa Z h x "java/lang/String") (F_x_value : Fld Z h x "java/lang/String" "value" "[B" (.ref tx)) (F_x_coder : Fld Z h x "java/lang/String" "coder" "B" (.int (0 : Int32))) (A_tx : Ary Z h tx .byte (bys cs)) (hcs : Lat cs) (hcl : cs.length ≤ 4000) (hv : ds.length + r.length ≤ 400) (h0 : 0 < ds.length + r.length) (hcs4 : cs.length ≤ 400) (hS : capN (ds.length + r.length) (ds.length + cs.length) ≤ 178) (g_k : Z.heap.size ≤ k) (g_t : Z.heap.size ≤ t) (ne_tx_t : tx ≠ t) (O2 : Sta Z Z.heap "java/lang/String" "COMPACT_STRINGS" "Z" (.int G1)) (P5 : ¬ (G1 = (0 : Int32))) :
    Con l Z consts_1 True (⟨"java/lang/StringBuilder", "append", "(Ljava/lang/String;)Ljava/lang/StringBuilder;"⟩ : MethodName) jdk_67_method_7_code 2 (some (.object "java/lang/StringBuilder")) ({ frames := 5, cells := 1, slots := 178, locals := 76 } : Room) [k, t] #[(.ref k), (.ref x)] h (fun v h' ws' => ∃ t' r', v = some (.ref k) ∧ Keep h h' [k, t] ∧ (t' = t ∨ h.size ≤ t') ∧ SBD Z h' k t' (ds ++ cs) r' ∧ ds.length + cs.length + r'.length = capN (ds.length + r.length) (ds.length + cs.length) ∧ ws' = [t']) := by
  refine Con.intro own_pn11 (fun p e s m below meth c T X => ?_)
  rw [ef_sb_sapp m k x]
  have E_k := S_k.1
  refine s_aloadN X (pc' := 1) d10_0 rfl rfl rfl ?_
  refine s_aloadN X (pc' := 2) d10_1 rfl rfl rfl ?_
  refine s_super X (pc' := 5) (W := 0) (as' := [(.ref x)]) (S := []) (k' := 1) (n' := 178) d10_2 (hw _ (List.mem_of_getElem? (i := 60) rfl)) (same_of (hw _ (List.mem_of_getElem? (i := 63) rfl)) (hw _ (List.mem_of_getElem? (i := 80) rfl)) rfl (by decide)) (hw _ (List.mem_of_getElem? (i := 61) rfl)) (hw _ (List.mem_of_getElem? (i := 62) rfl)) (hw _ (List.mem_of_getElem? (i := 64) rfl)) (by decide) own_pd10 rfl (Ins.self E_k) ((sb_app l Z a0 hw hEL k x _ S_k E_x F_x_value F_x_coder A_tx hcs hcl hv h0 hcs4 hS g_k g_t ne_tx_t O2 P5).payS (by simp) (hw _ (List.mem_of_getElem? (i := 64) rfl)) (hw _ (List.mem_of_getElem? (i := 44) rfl)) hEL (by decide) (by decide)) (Nat.le_of_ble_eq_true rfl) rfl rfl (by decide) (by decide) (by decide) (by decide) rfl (fun T h29 v_ ws_ X hgr_ q30 => ?_)
  obtain ⟨t', r', rfl, K_, hT, S_k', hr', rfl⟩ := q30
  show Go p e below _ T (mkF m 5 #[.val (.ref k), .val (.ref x)] [(.ref k)])
  replace X := X.sub (ws' := [t']) (by simp)
  refine s_pop X (pc' := 6) d10_5 rfl rfl ?_
  refine s_aloadN X (pc' := 7) d10_6 rfl rfl rfl ?_
  exact s_aret X hEL (ws' := [t']) (t := (.object "java/lang/StringBuilder")) d10_7 rfl rfl rfl rfl (by decide) (by decide) (by simp) ⟨t', r', rfl, K_, hT, S_k', hr', rfl⟩
theorem d9_0 : decode jdk_68_method_2_code 0 = .ok (.aload_n 0, 1) := by decide +kernel
theorem d9_1 : decode jdk_68_method_2_code 1 = .ok (.invokespecial 3, 3) := by decide +kernel
theorem d9_4 : decode jdk_68_method_2_code 4 = .ok (.getstatic 18, 3) := by decide +kernel
theorem d9_7 : decode jdk_68_method_2_code 7 = .ok (.ifCond .eq 18, 3) := by decide +kernel
theorem d9_10 : decode jdk_68_method_2_code 10 = .ok (.aload_n 0, 1) := by decide +kernel
theorem d9_11 : decode jdk_68_method_2_code 11 = .ok (.iload_n 1, 1) := by decide +kernel
theorem d9_12 : decode jdk_68_method_2_code 12 = .ok (.newarray .byte, 2) := by decide +kernel
theorem d9_14 : decode jdk_68_method_2_code 14 = .ok (.putfield 15, 3) := by decide +kernel
theorem d9_17 : decode jdk_68_method_2_code 17 = .ok (.aload_n 0, 1) := by decide +kernel
theorem d9_18 : decode jdk_68_method_2_code 18 = .ok (.iconst 0, 1) := by decide +kernel
theorem d9_19 : decode jdk_68_method_2_code 19 = .ok (.putfield 22, 3) := by decide +kernel
theorem d9_22 : decode jdk_68_method_2_code 22 = .ok (.goto 16, 3) := by decide +kernel
theorem d9_38 : decode jdk_68_method_2_code 38 = .ok (.return_, 1) := by decide +kernel
theorem d8_0 : decode jdk_67_method_1_code 0 = .ok (.aload_n 0, 1) := by decide +kernel
theorem d8_1 : decode jdk_67_method_1_code 1 = .ok (.bipush 16, 2) := by decide +kernel
theorem d8_3 : decode jdk_67_method_1_code 3 = .ok (.invokespecial 1, 3) := by decide +kernel
theorem d8_6 : decode jdk_67_method_1_code 6 = .ok (.return_, 1) := by decide +kernel
theorem ef_sb_aini (m : MethodId) (k : Addr) : entryFrame m #[(.ref k), (.int (16 : Int32))] 2 = mkF m 0 #[.val (.ref k), .val (.int (16 : Int32))] [] := by first | (simp [entryFrame, mkF, argsToLocals, Value.category]; done) | rfl
set_option maxRecDepth 65536 in
set_option maxHeartbeats 40000000 in
theorem sb_aini (l : Launch) (Z : State) (a0 : Array Value) (hw : ∀ d ∈ tables_1, d.before a0 Z = true) (hEL : EW Z a0 consts_1) (k : Addr) (h : Heap) {G1 : Int32} (g_k : Z.heap.size ≤ k) (E_k : Exa Z h k "java/lang/StringBuilder") (F_k_value : Fld Z h k "java/lang/AbstractStringBuilder" "value" "[B" .null) (F_k_coder : Fld Z h k "java/lang/AbstractStringBuilder" "coder" "B" (.int (0 : Int32))) (F_k_count : Fld Z h k "java/lang/AbstractStringBuilder" "count" "I" (.int (0 : Int32))) (O2 : Sta Z Z.heap "java/lang/String" "COMPACT_STRINGS" "Z" (.int G1)) (P5 : ¬ (G1 = (0 : Int32))) :
    Con l Z consts_1 True (⟨"java/lang/AbstractStringBuilder", "<init>", "(I)V"⟩ : MethodName) jdk_68_method_2_code 2 none ({ frames := 1, cells := 1, slots := 16, locals := 12 } : Room) [k] #[(.ref k), (.int (16 : Int32))] h (fun v h' ws' => v = none ∧ Keep h h' [k] ∧ (∃ t, h.size ≤ t ∧ SBD Z h' k t [] (List.replicate 16 (.int (0 : Int32))) ∧ ws' = [t])) := by
  refine Con.intro own_pn12 (fun p e s m below meth c T X => ?_)
  rw [ef_sb_aini m k]
  have K_ : Keep h h [k] := Keep.refl _ _
  refine s_aloadN X (pc' := 1) d9_0 rfl rfl rfl ?_
  refine s_initO X (pc' := 4) (W := 0) d9_1 (hw _ (List.mem_of_getElem? (i := 46) rfl)) (hw _ (List.mem_of_getElem? (i := 12) rfl)) (b' := object_method_1_code) rfl (hw _ (List.mem_of_getElem? (i := 13) rfl)) (Nat.le_of_ble_eq_true rfl) (by decide) (by decide) rfl rfl (fun T X => ?_)
  refine s_gets X (pc' := 7) d9_4 (hw _ (List.mem_of_getElem? (i := 47) rfl)) Via.refl O2 rfl (fun T X => ?_)
  refine s_ifF X (pc' := 10) d9_7 P5 rfl ?_
  refine s_aloadN X (pc' := 11) d9_10 rfl rfl rfl ?_
  refine s_iloadN X (pc' := 12) d9_11 rfl rfl ?_
  refine s_newarrE X (pc' := 14) (k' := 1) (n' := 16) (N := 16) (ad := "[B") d9_12 (hw _ (List.mem_of_getElem? (i := 19) rfl)) rfl (by decide) (by decide) (by decide) (by decide) (by decide) (by decide) rfl (fun T h1 t gb_t X' E1 A_t E_t => ?_)
  have ne_k_t : k ≠ t := Nat.ne_of_lt (by rw [gb_t]; exact E_k.lt)
  have sz_K__t : h.size ≤ t := by rw [gb_t]; exact K_.1
  replace E_k := E_k.ext E1
  replace F_k_value := F_k_value.ext E1
  replace F_k_coder := F_k_coder.ext E1
  replace F_k_count := F_k_count.ext E1
  replace K_ := K_.ext E1
  replace X := X'
  have ne_t_k := ne_k_t.symm
  refine s_putf X (pc' := 17) d9_14 (hw _ (List.mem_of_getElem? (i := 48) rfl)) Via.refl F_k_value E_k (Or.inl (hw _ (List.mem_of_getElem? (i := 49) rfl))) (hw _ (List.mem_of_getElem? (i := 35) rfl)) (ty := (.array .byte)) (by decide) rfl rfl g_k (by simp) rfl (fun T h31 X W32 => ?_)
  replace F_k_value := F_k_value.same W32
  replace F_k_coder := F_k_coder.other W32 (Or.inr (slot_ne (Or.inl (hw _ (List.mem_of_getElem? (i := 51) rfl))) (Or.inl (hw _ (List.mem_of_getElem? (i := 49) rfl))) (t := .byte) (t' := (.array .byte)) (by decide) (by decide) (by decide)))
  replace F_k_count := F_k_count.other W32 (Or.inr (slot_ne (Or.inl (hw _ (List.mem_of_getElem? (i := 76) rfl))) (Or.inl (hw _ (List.mem_of_getElem? (i := 49) rfl))) (t := .int) (t' := (.array .byte)) (by decide) (by decide) (by decide)))
  replace A_t := A_t.other W32 ne_t_k
  replace E_k := E_k.wr W32
  replace E_t := E_t.wr W32
  replace K_ := K_.wr W32 (Or.inl (by simp))
  refine s_aloadN X (pc' := 18) d9_17 rfl rfl rfl ?_
  refine s_iconst X (pc' := 19) d9_18 (v := (0 : Int32)) rfl rfl ?_
  refine s_putf X (pc' := 22) d9_19 (hw _ (List.mem_of_getElem? (i := 50) rfl)) Via.refl F_k_coder E_k (Or.inl (hw _ (List.mem_of_getElem? (i := 51) rfl))) (hw _ (List.mem_of_getElem? (i := 35) rfl)) (ty := .byte) (by decide) rfl rfl g_k (by simp) rfl (fun T h33 X W34 => ?_)
  replace F_k_value := F_k_value.other W34 (Or.inr (slot_ne (Or.inl (hw _ (List.mem_of_getElem? (i := 49) rfl))) (Or.inl (hw _ (List.mem_of_getElem? (i := 51) rfl))) (t := (.array .byte)) (t' := .byte) (by decide) (by decide) (by decide)))
  replace F_k_coder := F_k_coder.same W34
  replace F_k_count := F_k_count.other W34 (Or.inr (slot_ne (Or.inl (hw _ (List.mem_of_getElem? (i := 76) rfl))) (Or.inl (hw _ (List.mem_of_getElem? (i := 51) rfl))) (t := .int) (t' := .byte) (by decide) (by decide) (by decide)))
  replace A_t := A_t.other W34 ne_t_k
  replace E_k := E_k.wr W34
  replace E_t := E_t.wr W34
  replace K_ := K_.wr W34 (Or.inl (by simp))
  refine s_goto X (pc' := 38) d9_22 (by decide) (by decide) ?_
  exact s_ret X hEL (ws' := [t]) d9_38 (by decide) (by decide) (by simp) ⟨rfl, K_, ⟨t, sz_K__t, ⟨E_k, F_k_value, F_k_coder, F_k_count, A_t, E_t⟩, rfl⟩⟩
theorem ef_sb_ini (m : MethodId) (k : Addr) : entryFrame m #[(.ref k)] 1 = mkF m 0 #[.val (.ref k)] [] := by first | (simp [entryFrame, mkF, argsToLocals, Value.category]; done) | rfl
set_option maxRecDepth 65536 in
set_option maxHeartbeats 40000000 in
theorem sb_ini (l : Launch) (Z : State) (a0 : Array Value) (hw : ∀ d ∈ tables_1, d.before a0 Z = true) (hEL : EW Z a0 consts_1) (k : Addr) (h : Heap) {G1 : Int32} (g_k : Z.heap.size ≤ k) (E_k : Exa Z h k "java/lang/StringBuilder") (F_k_value : Fld Z h k "java/lang/AbstractStringBuilder" "value" "[B" .null) (F_k_coder : Fld Z h k "java/lang/AbstractStringBuilder" "coder" "B" (.int (0 : Int32))) (F_k_count : Fld Z h k "java/lang/AbstractStringBuilder" "count" "I" (.int (0 : Int32))) (O2 : Sta Z Z.heap "java/lang/String" "COMPACT_STRINGS" "Z" (.int G1)) (P5 : ¬ (G1 = (0 : Int32))) :
    Con l Z consts_1 True (⟨"java/lang/StringBuilder", "<init>", "()V"⟩ : MethodName) jdk_67_method_1_code 1 none ({ frames := 2, cells := 1, slots := 16, locals := 25 } : Room) [k] #[(.ref k)] h (fun v h' ws' => v = none ∧ Keep h h' [k] ∧ (∃ t, h.size ≤ t ∧ SBD Z h' k t [] (List.replicate 16 (.int (0 : Int32))) ∧ ws' = [t])) := by
  refine Con.intro own_pn13 (fun p e s m below meth c T X => ?_)
  rw [ef_sb_ini m k]
  refine s_aloadN X (pc' := 1) d8_0 rfl rfl rfl ?_
  refine s_bipush X (pc' := 3) d8_1 (v := (16 : Int32)) (by decide) rfl ?_
  refine s_special X (pc' := 6) (W := 0) (as' := [(.int (16 : Int32))]) (S := []) (k' := 1) (n' := 16) d8_3 rfl (hw _ (List.mem_of_getElem? (i := 40) rfl)) (hw _ (List.mem_of_getElem? (i := 41) rfl)) (hw _ (List.mem_of_getElem? (i := 45) rfl)) (by decide) own_pd8 rfl ((sb_aini l Z a0 hw hEL k _ g_k E_k F_k_value F_k_coder F_k_count O2 P5).payS (by simp) (hw _ (List.mem_of_getElem? (i := 45) rfl)) (hw _ (List.mem_of_getElem? (i := 44) rfl)) hEL (by decide) (by decide)) (Nat.le_of_ble_eq_true rfl) rfl rfl (by decide) (by decide) (by decide) (by decide) rfl (fun T h35 v_ ws_ X hgr_ q36 => ?_)
  obtain ⟨rfl, K_, ⟨t, hzt, S_k, rfl⟩⟩ := q36
  show Go p e below _ T (mkF m 6 #[.val (.ref k)] [])
  replace X := X.sub (ws' := [t, k]) (by simp)
  exact s_ret X hEL (ws' := [t]) d8_6 (by decide) (by decide) (by simp) ⟨rfl, K_, ⟨t, hzt, S_k, rfl⟩⟩
theorem d32_0 : decode jdk_65_method_131_code 0 = .ok (.iload_n 1, 1) := by decide +kernel
theorem d32_1 : decode jdk_65_method_131_code 1 = .ok (.iload_n 0, 1) := by decide +kernel
theorem d32_2 : decode jdk_65_method_131_code 2 = .ok (.if_icmp .ge 35, 3) := by decide +kernel
theorem d32_37 : decode jdk_65_method_131_code 37 = .ok (.return_, 1) := by decide +kernel
theorem d31_0 : decode jdk_65_method_133_code 0 = .ok (.iload_n 1, 1) := by decide +kernel
theorem d31_1 : decode jdk_65_method_133_code 1 = .ok (.iload_n 2, 1) := by decide +kernel
theorem d31_2 : decode jdk_65_method_133_code 2 = .ok (.invokestatic 343, 3) := by decide +kernel
theorem d31_5 : decode jdk_65_method_133_code 5 = .ok (.iload_n 2, 1) := by decide +kernel
theorem d31_6 : decode jdk_65_method_133_code 6 = .ok (.iload_n 1, 1) := by decide +kernel
theorem d31_7 : decode jdk_65_method_133_code 7 = .ok (.isub, 1) := by decide +kernel
theorem d31_8 : decode jdk_65_method_133_code 8 = .ok (.istore_n 3, 1) := by decide +kernel
theorem d31_9 : decode jdk_65_method_133_code 9 = .ok (.iload_n 3, 1) := by decide +kernel
theorem d31_10 : decode jdk_65_method_133_code 10 = .ok (.newarray .byte, 2) := by decide +kernel
theorem d31_12 : decode jdk_65_method_133_code 12 = .ok (.astore 4, 2) := by decide +kernel
theorem d31_14 : decode jdk_65_method_133_code 14 = .ok (.aload_n 0, 1) := by decide +kernel
theorem d31_15 : decode jdk_65_method_133_code 15 = .ok (.iload_n 1, 1) := by decide +kernel
theorem d31_16 : decode jdk_65_method_133_code 16 = .ok (.aload 4, 2) := by decide +kernel
theorem d31_18 : decode jdk_65_method_133_code 18 = .ok (.iconst 0, 1) := by decide +kernel
theorem d31_19 : decode jdk_65_method_133_code 19 = .ok (.aload_n 0, 1) := by decide +kernel
theorem d31_20 : decode jdk_65_method_133_code 20 = .ok (.arraylength, 1) := by decide +kernel
theorem d31_21 : decode jdk_65_method_133_code 21 = .ok (.iload_n 1, 1) := by decide +kernel
theorem d31_22 : decode jdk_65_method_133_code 22 = .ok (.isub, 1) := by decide +kernel
theorem d31_23 : decode jdk_65_method_133_code 23 = .ok (.iload_n 3, 1) := by decide +kernel
theorem d31_24 : decode jdk_65_method_133_code 24 = .ok (.invokestatic 304, 3) := by decide +kernel
theorem d31_27 : decode jdk_65_method_133_code 27 = .ok (.invokestatic 150, 3) := by decide +kernel
theorem d31_30 : decode jdk_65_method_133_code 30 = .ok (.aload 4, 2) := by decide +kernel
theorem d31_32 : decode jdk_65_method_133_code 32 = .ok (.areturn, 1) := by decide +kernel
theorem d30_0 : decode jdk_65_method_132_code 0 = .ok (.iload_n 1, 1) := by decide +kernel
theorem d30_1 : decode jdk_65_method_132_code 1 = .ok (.ifCond .ne 9, 3) := by decide +kernel
theorem d30_4 : decode jdk_65_method_132_code 4 = .ok (.iload_n 2, 1) := by decide +kernel
theorem d30_5 : decode jdk_65_method_132_code 5 = .ok (.aload_n 0, 1) := by decide +kernel
theorem d30_6 : decode jdk_65_method_132_code 6 = .ok (.arraylength, 1) := by decide +kernel
theorem d30_7 : decode jdk_65_method_132_code 7 = .ok (.if_icmp .eq 10, 3) := by decide +kernel
theorem d30_10 : decode jdk_65_method_132_code 10 = .ok (.aload_n 0, 1) := by decide +kernel
theorem d30_11 : decode jdk_65_method_132_code 11 = .ok (.iload_n 1, 1) := by decide +kernel
theorem d30_12 : decode jdk_65_method_132_code 12 = .ok (.iload_n 2, 1) := by decide +kernel
theorem d30_13 : decode jdk_65_method_132_code 13 = .ok (.invokestatic 339, 3) := by decide +kernel
theorem d30_16 : decode jdk_65_method_132_code 16 = .ok (.areturn, 1) := by decide +kernel
theorem d30_17 : decode jdk_65_method_132_code 17 = .ok (.aload_n 0, 1) := by decide +kernel
theorem d30_18 : decode jdk_65_method_132_code 18 = .ok (.invokevirtual 310, 3) := by decide +kernel
theorem d30_21 : decode jdk_65_method_132_code 21 = .ok (.checkcast 311, 3) := by decide +kernel
theorem d30_24 : decode jdk_65_method_132_code 24 = .ok (.areturn, 1) := by decide +kernel
theorem ef_sb_chk (m : MethodId) (n : Nat) : entryFrame m #[(.int (0 : Int32)), (.int (Int32.ofNat n))] 2 = mkF m 0 #[.val (.int (0 : Int32)), .val (.int (Int32.ofNat n))] [] := by first | (simp [entryFrame, mkF, argsToLocals, Value.category]; done) | rfl
set_option maxRecDepth 65536 in
set_option maxHeartbeats 40000000 in
theorem sb_chk (l : Launch) (Z : State) (a0 : Array Value) (hw : ∀ d ∈ tables_1, d.before a0 Z = true) (hEL : EW Z a0 consts_1) (n : Nat) (h : Heap) (hn : n ≤ 4000) :
    Con l Z consts_1 True (⟨"java/util/Arrays", "checkLength", "(II)V"⟩ : MethodName) jdk_65_method_131_code 2 none ({ frames := 0, cells := 0, slots := 0, locals := 0 } : Room) [] #[(.int (0 : Int32)), (.int (Int32.ofNat n))] h (fun v h' ws' => v = none ∧ h' = h ∧ ws' = []) := by
  refine Con.intro own_pn14 (fun p e s m below meth c T X => ?_)
  rw [ef_sb_chk m n]
  refine s_iloadN X (pc' := 1) d32_0 rfl rfl ?_
  refine s_iloadN X (pc' := 2) d32_1 rfl rfl ?_
  refine s_icmpT X (pc' := 37) d32_2 (show ¬ Int32.ofNat n < 0 from on_nn (by omega)) (by decide) (by decide) ?_
  exact s_ret X hEL (ws' := []) d32_37 (by decide) (by decide) (fun x q => by simp at q) ⟨rfl, rfl, rfl⟩
theorem ef_sb_cob (m : MethodId) (t : Addr) (ds : List Int32) : entryFrame m #[(.ref t), (.int (0 : Int32)), (.int (Int32.ofNat ds.length))] 5 = mkF m 0 #[.val (.ref t), .val (.int (0 : Int32)), .val (.int (Int32.ofNat ds.length)), .unset, .unset] [] := by first | (simp [entryFrame, mkF, argsToLocals, Value.category]; done) | rfl
set_option maxRecDepth 65536 in
set_option maxHeartbeats 40000000 in
theorem sb_cob (l : Launch) (Z : State) (a0 : Array Value) (hw : ∀ d ∈ tables_1, d.before a0 Z = true) (hEL : EW Z a0 consts_1) (t : Addr) (ds : List Int32) (h : Heap) {r : List Value} (A_t : Ary Z h t .byte (bys ds ++ r)) (hv : ds.length + r.length ≤ 400) (hS : ds.length ≤ 178) :
    Con l Z consts_1 True (⟨"java/util/Arrays", "copyOfRangeByte", "([BII)[B"⟩ : MethodName) jdk_65_method_133_code 5 (some (.array .byte)) ({ frames := 1, cells := 1, slots := 178, locals := 18 } : Room) [] #[(.ref t), (.int (0 : Int32)), (.int (Int32.ofNat ds.length))] h (fun v h' ws' => ∃ b, v = some (.ref b) ∧ Ext h h' ∧ Ary Z h' b .byte (bys ds) ∧ ws' = []) := by
  refine Con.intro own_pn15 (fun p e s m below meth c T X => ?_)
  rw [ef_sb_cob m t ds]
  have hvt : (bys ds ++ r).length = ds.length + r.length := by rw [List.length_append, bys_len]
  have R_ : Ext h h := ext_refl _
  refine s_iloadN X (pc' := 1) d31_0 rfl rfl ?_
  refine s_iloadN X (pc' := 2) d31_1 rfl rfl ?_
  refine s_static X (pc' := 5) (W := 0) (as' := [(.int (0 : Int32)), (.int (Int32.ofNat ds.length))]) (S := []) (k' := 0) (n' := 0) d31_2 (hw _ (List.mem_of_getElem? (i := 162) rfl)) (hw _ (List.mem_of_getElem? (i := 163) rfl)) (hw _ (List.mem_of_getElem? (i := 99) rfl)) (hw _ (List.mem_of_getElem? (i := 164) rfl)) (by decide) own_pd11 rfl ((sb_chk l Z a0 hw hEL ds.length _ (by omega)).payS (by simp) (hw _ (List.mem_of_getElem? (i := 164) rfl)) (hw _ (List.mem_of_getElem? (i := 99) rfl)) hEL (by decide) (by decide)) (Nat.le_of_ble_eq_true rfl) rfl rfl (by decide) (by decide) (by decide) (by decide) rfl (fun T h37 v_ ws_ X hgr_ q38 => ?_)
  obtain ⟨rfl, e_, rfl⟩ := q38
  rw [e_] at X
  show Go p e below _ T (mkF m 5 #[.val (.ref t), .val (.int (0 : Int32)), .val (.int (Int32.ofNat ds.length)), .unset, .unset] [])
  replace X := X.sub (ws' := []) (by simp)
  refine s_iloadN X (pc' := 6) d31_5 rfl rfl ?_
  refine s_iloadN X (pc' := 7) d31_6 rfl rfl ?_
  refine s_isub X (pc' := 8) d31_7 rfl ?_
  refine go_int (z := (Int32.ofNat ds.length)) (sub0 _) ?_
  refine s_istoreN X (pc' := 9) (L' := #[.val (.ref t), .val (.int (0 : Int32)), .val (.int (Int32.ofNat ds.length)), .val (.int (Int32.ofNat ds.length)), .unset]) d31_8 rfl rfl ?_
  refine s_iloadN X (pc' := 10) d31_9 rfl rfl ?_
  refine s_newarr X (pc' := 12) (k' := 1) (n' := 178) (N := ds.length) d31_10 (hw _ (List.mem_of_getElem? (i := 19) rfl)) rfl (by omega) (by decide) (by omega) (by decide) (by decide) rfl (fun T h1 b gb_b X' E1 A_b => ?_)
  have g_b : Z.heap.size ≤ b := by rw [gb_b]; exact X.lt
  have ne_t_b : t ≠ b := Nat.ne_of_lt (by rw [gb_b]; exact A_t.lt)
  have sz_R__b : h.size ≤ b := by rw [gb_b]; exact R_.1
  replace A_t := A_t.ext E1
  replace R_ := ext_trans R_ E1
  replace X := X'
  refine s_astore X (pc' := 14) (L' := #[.val (.ref t), .val (.int (0 : Int32)), .val (.int (Int32.ofNat ds.length)), .val (.int (Int32.ofNat ds.length)), .val (.ref b)]) d31_12 rfl rfl rfl ?_
  refine s_aloadN X (pc' := 15) d31_14 rfl rfl rfl ?_
  refine s_iloadN X (pc' := 16) d31_15 rfl rfl ?_
  refine s_aload X (pc' := 18) d31_16 rfl rfl rfl ?_
  refine s_iconst X (pc' := 19) d31_18 (v := (0 : Int32)) rfl rfl ?_
  refine s_aloadN X (pc' := 20) d31_19 rfl rfl rfl ?_
  refine s_alen X (pc' := 21) (z := (Int32.ofNat (ds.length + r.length))) d31_20 A_t (by rw [hvt]) rfl ?_
  refine s_iloadN X (pc' := 22) d31_21 rfl rfl ?_
  refine s_isub X (pc' := 23) d31_22 rfl ?_
  refine go_int (z := (Int32.ofNat (ds.length + r.length))) (sub0 _) ?_
  refine s_iloadN X (pc' := 24) d31_23 rfl rfl ?_
  refine s_static X (pc' := 27) (W := 4) (as' := [(.int (Int32.ofNat (ds.length + r.length))), (.int (Int32.ofNat ds.length))]) (S := [(.int (0 : Int32)), (.ref b), (.int (0 : Int32)), (.ref t)]) (k' := 1) (n' := 178) d31_24 (hw _ (List.mem_of_getElem? (i := 101) rfl)) (hw _ (List.mem_of_getElem? (i := 102) rfl)) (hw _ (List.mem_of_getElem? (i := 93) rfl)) (hw _ (List.mem_of_getElem? (i := 103) rfl)) (by decide) own_pd3 rfl ((own_min l Z a0 hw hEL (Int32.ofNat (ds.length + r.length)) (Int32.ofNat ds.length) _).payS (by simp) (hw _ (List.mem_of_getElem? (i := 103) rfl)) (hw _ (List.mem_of_getElem? (i := 93) rfl)) hEL (by decide) (by decide)) (Nat.le_of_ble_eq_true rfl) rfl rfl (by decide) (by decide) (by decide) (by decide) rfl (fun T h39 v_ ws_ X hgr_ q40 => ?_)
  obtain ⟨rfl, e_, rfl⟩ := q40
  rw [e_] at X
  show Go p e below _ T (mkF m 27 #[.val (.ref t), .val (.int (0 : Int32)), .val (.int (Int32.ofNat ds.length)), .val (.int (Int32.ofNat ds.length)), .val (.ref b)] [(.int (if (Int32.ofNat ds.length) < (Int32.ofNat (ds.length + r.length)) then (Int32.ofNat ds.length) else (Int32.ofNat (ds.length + r.length)))), (.int (0 : Int32)), (.ref b), (.int (0 : Int32)), (.ref t)])
  replace X := X.sub (ws' := [b]) (by simp)
  refine go_int (z := (Int32.ofNat ds.length)) ((on_min (by omega) (by omega)).trans (by congr 1; omega)) ?_
  refine s_acopy X (pc' := 30) (sp := 0) (dp := 0) (nn := ds.length) (W := 0) d31_27 (hw _ (List.mem_of_getElem? (i := 104) rfl)) (hw _ (List.mem_of_getElem? (i := 107) rfl)) (hw _ (List.mem_of_getElem? (i := 105) rfl)) (hw _ (List.mem_of_getElem? (i := 106) rfl)) A_t A_b rfl rfl rfl rfl (by rw [hvt]; omega) (by simp) g_b (by simp) rfl (Nat.le_of_ble_eq_true rfl) (by decide) (by decide) rfl (fun T h2 X K_ A' => ?_)
  replace R_ := ext_keep R_ K_ (allS sz_R__b all0)
  refine s_aload X (pc' := 32) d31_30 rfl rfl rfl ?_
  exact s_aret X hEL (ws' := []) (t := (.array .byte)) d31_32 rfl rfl rfl rfl (by decide) (by decide) (fun x q => by simp at q) ⟨b, rfl, R_, (by
      have q : ((bys ds ++ r).drop 0).take ds.length = bys ds := by rw [List.drop_zero, ← bys_len ds]; exact List.take_left
      rw [q] at A'; simpa using A'), rfl⟩
theorem ef_sb_cor (m : MethodId) (t : Addr) (ds : List Int32) : entryFrame m #[(.ref t), (.int (0 : Int32)), (.int (Int32.ofNat ds.length))] 3 = mkF m 0 #[.val (.ref t), .val (.int (0 : Int32)), .val (.int (Int32.ofNat ds.length))] [] := by first | (simp [entryFrame, mkF, argsToLocals, Value.category]; done) | rfl
set_option maxRecDepth 65536 in
set_option maxHeartbeats 40000000 in
theorem sb_cor (l : Launch) (Z : State) (a0 : Array Value) (hw : ∀ d ∈ tables_1, d.before a0 Z = true) (hEL : EW Z a0 consts_1) (t : Addr) (ds : List Int32) (h : Heap) {r : List Value} (A_t : Ary Z h t .byte (bys ds ++ r)) (E_t : Exa Z h t "[B") (hv : ds.length + r.length ≤ 400) (hS : ds.length ≤ 178) (hr : r ≠ []) :
    Con l Z consts_1 True (⟨"java/util/Arrays", "copyOfRange", "([BII)[B"⟩ : MethodName) jdk_65_method_132_code 3 (some (.array .byte)) ({ frames := 2, cells := 1, slots := 178, locals := 34 } : Room) [] #[(.ref t), (.int (0 : Int32)), (.int (Int32.ofNat ds.length))] h (fun v h' ws' => ∃ b, v = some (.ref b) ∧ Ext h h' ∧ Ary Z h' b .byte (bys ds) ∧ ws' = []) := by
  refine Con.intro own_pn16 (fun p e s m below meth c T X => ?_)
  rw [ef_sb_cor m t ds]
  have hvt : (bys ds ++ r).length = ds.length + r.length := by rw [List.length_append, bys_len]
  have R_ : Ext h h := ext_refl _
  refine s_iloadN X (pc' := 1) d30_0 rfl rfl ?_
  refine s_ifF X (pc' := 4) d30_1 (show (0 : Int32) = (0 : Int32) by decide) rfl ?_
  refine s_iloadN X (pc' := 5) d30_4 rfl rfl ?_
  refine s_aloadN X (pc' := 6) d30_5 rfl rfl rfl ?_
  refine s_alen X (pc' := 7) (z := (Int32.ofNat (ds.length + r.length))) d30_6 A_t (by rw [hvt]) rfl ?_
  refine s_icmpF X (pc' := 10) d30_7 (show ¬ Int32.ofNat ds.length = Int32.ofNat (ds.length + r.length) from fun z => hr (List.length_eq_zero_iff.mp (by have := (on_eq (by omega) (by omega)).mp z; omega))) rfl ?_
  refine s_aloadN X (pc' := 11) d30_10 rfl rfl rfl ?_
  refine s_iloadN X (pc' := 12) d30_11 rfl rfl ?_
  refine s_iloadN X (pc' := 13) d30_12 rfl rfl ?_
  refine s_static X (pc' := 16) (W := 0) (as' := [(.ref t), (.int (0 : Int32)), (.int (Int32.ofNat ds.length))]) (S := []) (k' := 1) (n' := 178) d30_13 (hw _ (List.mem_of_getElem? (i := 159) rfl)) (hw _ (List.mem_of_getElem? (i := 160) rfl)) (hw _ (List.mem_of_getElem? (i := 99) rfl)) (hw _ (List.mem_of_getElem? (i := 161) rfl)) (by decide) own_pd12 rfl ((sb_cob l Z a0 hw hEL t ds _ A_t hv hS).payS (by simp) (hw _ (List.mem_of_getElem? (i := 161) rfl)) (hw _ (List.mem_of_getElem? (i := 99) rfl)) hEL (by decide) (by decide)) (Nat.le_of_ble_eq_true rfl) rfl rfl (by decide) (by decide) (by decide) (by decide) rfl (fun T h41 v_ ws_ X hgr_ q42 => ?_)
  obtain ⟨b, rfl, E_, A_b, rfl⟩ := q42
  show Go p e below _ T (mkF m 16 #[.val (.ref t), .val (.int (0 : Int32)), .val (.int (Int32.ofNat ds.length))] [(.ref b)])
  replace X := X.sub (ws' := []) (by simp)
  exact s_aret X hEL (ws' := []) (t := (.array .byte)) d30_16 rfl rfl rfl rfl (by decide) (by decide) (fun x q => by simp at q) ⟨b, rfl, E_, A_b, rfl⟩
theorem d26_0 : decode jdk_68_method_64_code 0 = .ok (.aload_n 0, 1) := by decide +kernel
theorem d26_1 : decode jdk_68_method_64_code 1 = .ok (.getfield 15, 3) := by decide +kernel
theorem d26_4 : decode jdk_68_method_64_code 4 = .ok (.areturn, 1) := by decide +kernel
theorem d28_0 : decode jdk_68_method_6_code 0 = .ok (.aload_n 0, 1) := by decide +kernel
theorem d28_1 : decode jdk_68_method_6_code 1 = .ok (.getfield 79, 3) := by decide +kernel
theorem d28_4 : decode jdk_68_method_6_code 4 = .ok (.ireturn, 1) := by decide +kernel
theorem d27_0 : decode jdk_67_method_93_code 0 = .ok (.aload_n 0, 1) := by decide +kernel
theorem d27_1 : decode jdk_67_method_93_code 1 = .ok (.invokespecial 343, 3) := by decide +kernel
theorem d27_4 : decode jdk_67_method_93_code 4 = .ok (.ireturn, 1) := by decide +kernel
theorem ef_sb_gv (m : MethodId) (k : Addr) : entryFrame m #[(.ref k)] 1 = mkF m 0 #[.val (.ref k)] [] := by first | (simp [entryFrame, mkF, argsToLocals, Value.category]; done) | rfl
set_option maxRecDepth 65536 in
set_option maxHeartbeats 40000000 in
theorem sb_gv (l : Launch) (Z : State) (a0 : Array Value) (hw : ∀ d ∈ tables_1, d.before a0 Z = true) (hEL : EW Z a0 consts_1) (k : Addr) (h : Heap) {t : Addr} (F_k_value : Fld Z h k "java/lang/AbstractStringBuilder" "value" "[B" (.ref t)) :
    Con l Z consts_1 True (⟨"java/lang/AbstractStringBuilder", "getValue", "()[B"⟩ : MethodName) jdk_68_method_64_code 1 (some (.array .byte)) ({ frames := 0, cells := 0, slots := 0, locals := 0 } : Room) [] #[(.ref k)] h (fun v h' ws' => v = some (.ref t) ∧ h' = h ∧ ws' = []) := by
  refine Con.intro own_pn17 (fun p e s m below meth c T X => ?_)
  rw [ef_sb_gv m k]
  refine s_aloadN X (pc' := 1) d26_0 rfl rfl rfl ?_
  refine s_getf X (pc' := 4) d26_1 (hw _ (List.mem_of_getElem? (i := 48) rfl)) Via.refl F_k_value rfl (fun T X => ?_)
  exact s_aret X hEL (ws' := []) (t := (.array .byte)) d26_4 rfl rfl rfl rfl (by decide) (by decide) (fun x q => by simp at q) ⟨rfl, rfl, rfl⟩
theorem ef_sb_alen (m : MethodId) (k : Addr) : entryFrame m #[(.ref k)] 1 = mkF m 0 #[.val (.ref k)] [] := by first | (simp [entryFrame, mkF, argsToLocals, Value.category]; done) | rfl
set_option maxRecDepth 65536 in
set_option maxHeartbeats 40000000 in
theorem sb_alen (l : Launch) (Z : State) (a0 : Array Value) (hw : ∀ d ∈ tables_1, d.before a0 Z = true) (hEL : EW Z a0 consts_1) (k : Addr) (h : Heap) {z : Int32} (F_k_count : Fld Z h k "java/lang/AbstractStringBuilder" "count" "I" (.int z)) :
    Con l Z consts_1 True (⟨"java/lang/AbstractStringBuilder", "length", "()I"⟩ : MethodName) jdk_68_method_6_code 1 (some .int) ({ frames := 0, cells := 0, slots := 0, locals := 0 } : Room) [] #[(.ref k)] h (fun v h' ws' => v = some (.int (z)) ∧ h' = h ∧ ws' = []) := by
  refine Con.intro own_pn18 (fun p e s m below meth c T X => ?_)
  rw [ef_sb_alen m k]
  refine s_aloadN X (pc' := 1) d28_0 rfl rfl rfl ?_
  refine s_getf X (pc' := 4) d28_1 (hw _ (List.mem_of_getElem? (i := 75) rfl)) Via.refl F_k_count rfl (fun T X => ?_)
  exact s_iret X hEL (ws' := []) d28_4 (by decide) (by decide) (fun x q => by simp at q) ⟨rfl, rfl, rfl⟩
theorem ef_sb_slen (m : MethodId) (k : Addr) : entryFrame m #[(.ref k)] 1 = mkF m 0 #[.val (.ref k)] [] := by first | (simp [entryFrame, mkF, argsToLocals, Value.category]; done) | rfl
set_option maxRecDepth 65536 in
set_option maxHeartbeats 40000000 in
theorem sb_slen (l : Launch) (Z : State) (a0 : Array Value) (hw : ∀ d ∈ tables_1, d.before a0 Z = true) (hEL : EW Z a0 consts_1) (k : Addr) (h : Heap) {z : Int32} (E_k : Exa Z h k "java/lang/StringBuilder") (F_k_count : Fld Z h k "java/lang/AbstractStringBuilder" "count" "I" (.int z)) :
    Con l Z consts_1 True (⟨"java/lang/StringBuilder", "length", "()I"⟩ : MethodName) jdk_67_method_93_code 1 (some .int) ({ frames := 1, cells := 0, slots := 0, locals := 12 } : Room) [] #[(.ref k)] h (fun v h' ws' => v = some (.int (z)) ∧ h' = h ∧ ws' = []) := by
  refine Con.intro own_pn19 (fun p e s m below meth c T X => ?_)
  rw [ef_sb_slen m k]
  refine s_aloadN X (pc' := 1) d27_0 rfl rfl rfl ?_
  refine s_super X (pc' := 4) (W := 0) (as' := []) (S := []) (k' := 0) (n' := 0) d27_1 (hw _ (List.mem_of_getElem? (i := 149) rfl)) (same_of (hw _ (List.mem_of_getElem? (i := 144) rfl)) (hw _ (List.mem_of_getElem? (i := 80) rfl)) rfl (by decide)) (hw _ (List.mem_of_getElem? (i := 145) rfl)) (hw _ (List.mem_of_getElem? (i := 62) rfl)) (hw _ (List.mem_of_getElem? (i := 150) rfl)) (by decide) own_pd7 rfl (Ins.self E_k) ((sb_alen l Z a0 hw hEL k _ F_k_count).payS (by simp) (hw _ (List.mem_of_getElem? (i := 150) rfl)) (hw _ (List.mem_of_getElem? (i := 44) rfl)) hEL (by decide) (by decide)) (Nat.le_of_ble_eq_true rfl) rfl rfl (by decide) (by decide) (by decide) (by decide) rfl (fun T h43 v_ ws_ X hgr_ q44 => ?_)
  obtain ⟨rfl, e_, rfl⟩ := q44
  rw [e_] at X
  show Go p e below _ T (mkF m 4 #[.val (.ref k)] [(.int z)])
  replace X := X.sub (ws' := []) (by simp)
  exact s_iret X hEL (ws' := []) d27_4 (by decide) (by decide) (fun x q => by simp at q) ⟨rfl, rfl, rfl⟩
theorem d29_0 : decode jdk_68_method_68_code 0 = .ok (.getstatic 18, 3) := by decide +kernel
theorem d29_3 : decode jdk_68_method_68_code 3 = .ok (.ifCond .eq 14, 3) := by decide +kernel
theorem d29_6 : decode jdk_68_method_68_code 6 = .ok (.aload_n 0, 1) := by decide +kernel
theorem d29_7 : decode jdk_68_method_68_code 7 = .ok (.getfield 22, 3) := by decide +kernel
theorem d29_10 : decode jdk_68_method_68_code 10 = .ok (.ifCond .ne 7, 3) := by decide +kernel
theorem d29_13 : decode jdk_68_method_68_code 13 = .ok (.iconst 1, 1) := by decide +kernel
theorem d29_14 : decode jdk_68_method_68_code 14 = .ok (.goto 4, 3) := by decide +kernel
theorem d29_17 : decode jdk_68_method_68_code 17 = .ok (.iconst 0, 1) := by decide +kernel
theorem d29_18 : decode jdk_68_method_68_code 18 = .ok (.ireturn, 1) := by decide +kernel
theorem ef_sb_isl (m : MethodId) (k : Addr) : entryFrame m #[(.ref k)] 1 = mkF m 0 #[.val (.ref k)] [] := by first | (simp [entryFrame, mkF, argsToLocals, Value.category]; done) | rfl
set_option maxRecDepth 65536 in
set_option maxHeartbeats 40000000 in
theorem sb_isl (l : Launch) (Z : State) (a0 : Array Value) (hw : ∀ d ∈ tables_1, d.before a0 Z = true) (hEL : EW Z a0 consts_1) (k : Addr) {G1 : Int32} (h : Heap) (F_k_coder : Fld Z h k "java/lang/AbstractStringBuilder" "coder" "B" (.int (0 : Int32))) (O2 : Sta Z Z.heap "java/lang/String" "COMPACT_STRINGS" "Z" (.int G1)) (P5 : ¬ (G1 = (0 : Int32))) :
    Con l Z consts_1 True (⟨"java/lang/AbstractStringBuilder", "isLatin1", "()Z"⟩ : MethodName) jdk_68_method_68_code 1 (some .boolean) ({ frames := 0, cells := 0, slots := 0, locals := 0 } : Room) [] #[(.ref k)] h (fun v h' ws' => v = some (.int (1)) ∧ h' = h ∧ ws' = []) := by
  refine Con.intro own_pn20 (fun p e s m below meth c T X => ?_)
  rw [ef_sb_isl m k]
  refine s_gets X (pc' := 3) d29_0 (hw _ (List.mem_of_getElem? (i := 47) rfl)) Via.refl O2 rfl (fun T X => ?_)
  refine s_ifF X (pc' := 6) d29_3 P5 rfl ?_
  refine s_aloadN X (pc' := 7) d29_6 rfl rfl rfl ?_
  refine s_getf X (pc' := 10) d29_7 (hw _ (List.mem_of_getElem? (i := 50) rfl)) Via.refl F_k_coder rfl (fun T X => ?_)
  refine s_ifF X (pc' := 13) d29_10 (show (0 : Int32) = (0 : Int32) by decide) rfl ?_
  refine s_iconst X (pc' := 14) d29_13 (v := (1 : Int32)) rfl rfl ?_
  refine s_goto X (pc' := 18) d29_14 (by decide) (by decide) ?_
  exact s_iretN X hEL (ws' := []) (t := .boolean) d29_18 rfl (by simp) (by decide) (by decide) (fun x q => by simp at q) ⟨rfl, rfl, rfl⟩
theorem d25_0 : decode jdk_42_method_150_code 0 = .ok (.aload_n 0, 1) := by decide +kernel
theorem d25_1 : decode jdk_42_method_150_code 1 = .ok (.invokespecial 1, 3) := by decide +kernel
theorem d25_4 : decode jdk_42_method_150_code 4 = .ok (.aload_n 1, 1) := by decide +kernel
theorem d25_5 : decode jdk_42_method_150_code 5 = .ok (.invokevirtual 552, 3) := by decide +kernel
theorem d25_8 : decode jdk_42_method_150_code 8 = .ok (.astore_n 3, 1) := by decide +kernel
theorem d25_9 : decode jdk_42_method_150_code 9 = .ok (.aload_n 1, 1) := by decide +kernel
theorem d25_10 : decode jdk_42_method_150_code 10 = .ok (.invokevirtual 549, 3) := by decide +kernel
theorem d25_13 : decode jdk_42_method_150_code 13 = .ok (.istore 4, 2) := by decide +kernel
theorem d25_15 : decode jdk_42_method_150_code 15 = .ok (.aload_n 1, 1) := by decide +kernel
theorem d25_16 : decode jdk_42_method_150_code 16 = .ok (.invokevirtual 1047, 3) := by decide +kernel
theorem d25_19 : decode jdk_42_method_150_code 19 = .ok (.ifCond .eq 22, 3) := by decide +kernel
theorem d25_22 : decode jdk_42_method_150_code 22 = .ok (.aload_n 0, 1) := by decide +kernel
theorem d25_23 : decode jdk_42_method_150_code 23 = .ok (.iconst 0, 1) := by decide +kernel
theorem d25_24 : decode jdk_42_method_150_code 24 = .ok (.putfield 15, 3) := by decide +kernel
theorem d25_27 : decode jdk_42_method_150_code 27 = .ok (.aload_n 0, 1) := by decide +kernel
theorem d25_28 : decode jdk_42_method_150_code 28 = .ok (.aload_n 3, 1) := by decide +kernel
theorem d25_29 : decode jdk_42_method_150_code 29 = .ok (.iconst 0, 1) := by decide +kernel
theorem d25_30 : decode jdk_42_method_150_code 30 = .ok (.iload 4, 2) := by decide +kernel
theorem d25_32 : decode jdk_42_method_150_code 32 = .ok (.invokestatic 54, 3) := by decide +kernel
theorem d25_35 : decode jdk_42_method_150_code 35 = .ok (.putfield 9, 3) := by decide +kernel
theorem d25_38 : decode jdk_42_method_150_code 38 = .ok (.goto 59, 3) := by decide +kernel
theorem d25_97 : decode jdk_42_method_150_code 97 = .ok (.return_, 1) := by decide +kernel
theorem d24_0 : decode jdk_42_method_53_code 0 = .ok (.aload_n 0, 1) := by decide +kernel
theorem d24_1 : decode jdk_42_method_53_code 1 = .ok (.aload_n 1, 1) := by decide +kernel
theorem d24_2 : decode jdk_42_method_53_code 2 = .ok (.aconst_null, 1) := by decide +kernel
theorem d24_3 : decode jdk_42_method_53_code 3 = .ok (.invokespecial 489, 3) := by decide +kernel
theorem d24_6 : decode jdk_42_method_53_code 6 = .ok (.return_, 1) := by decide +kernel
theorem d23_0 : decode jdk_67_method_42_code 0 = .ok (.new 18, 3) := by decide +kernel
theorem d23_3 : decode jdk_67_method_42_code 3 = .ok (.dup, 1) := by decide +kernel
theorem d23_4 : decode jdk_67_method_42_code 4 = .ok (.aload_n 0, 1) := by decide +kernel
theorem d23_5 : decode jdk_67_method_42_code 5 = .ok (.invokespecial 137, 3) := by decide +kernel
theorem d23_8 : decode jdk_67_method_42_code 8 = .ok (.areturn, 1) := by decide +kernel
theorem ef_sb_s2 (m : MethodId) (x k : Addr) : entryFrame m #[(.ref x), (.ref k), .null] 5 = mkF m 0 #[.val (.ref x), .val (.ref k), .val .null, .unset, .unset] [] := by first | (simp [entryFrame, mkF, argsToLocals, Value.category]; done) | rfl
set_option maxRecDepth 65536 in
set_option maxHeartbeats 40000000 in
theorem sb_s2 (l : Launch) (Z : State) (a0 : Array Value) (hw : ∀ d ∈ tables_1, d.before a0 Z = true) (hEL : EW Z a0 consts_1) (x k : Addr) (h : Heap) {t : Addr} {ds : List Int32} {r : List Value} {G1 : Int32} (S_k : SBD Z h k t ds r) (hv : ds.length + r.length ≤ 400) (hS : ds.length ≤ 178) (hr : r ≠ []) (hds : Lat ds) (g_x : Z.heap.size ≤ x) (E_x : Exa Z h x "java/lang/String") (F_x_value : Fld Z h x "java/lang/String" "value" "[B" .null) (F_x_coder : Fld Z h x "java/lang/String" "coder" "B" (.int (0 : Int32))) (O2 : Sta Z Z.heap "java/lang/String" "COMPACT_STRINGS" "Z" (.int G1)) (P5 : ¬ (G1 = (0 : Int32))) :
    Con l Z consts_1 True (⟨"java/lang/String", "<init>", "(Ljava/lang/AbstractStringBuilder;Ljava/lang/Void;)V"⟩ : MethodName) jdk_42_method_150_code 5 none ({ frames := 3, cells := 1, slots := 178, locals := 49 } : Room) [x] #[(.ref x), (.ref k), .null] h (fun v h' ws' => v = none ∧ Keep h h' [x] ∧ Str Z h' x ds ∧ ws' = []) := by
  refine Con.intro own_pn21 (fun p e s m below meth c T X => ?_)
  rw [ef_sb_s2 m x k]
  obtain ⟨E_k, F_k_value, F_k_coder, F_k_count, A_t, E_t⟩ := S_k
  have K_ : Keep h h [x] := Keep.refl _ _
  have ne_t_x : t ≠ x := by obtain ⟨kc, q⟩ := A_t.arv .null; exact (Exa.neArv E_x q (hw _ (List.mem_of_getElem? (i := 2) rfl))).symm
  refine s_aloadN X (pc' := 1) d25_0 rfl rfl rfl ?_
  refine s_initO X (pc' := 4) (W := 0) d25_1 (hw _ (List.mem_of_getElem? (i := 11) rfl)) (hw _ (List.mem_of_getElem? (i := 12) rfl)) (b' := object_method_1_code) rfl (hw _ (List.mem_of_getElem? (i := 13) rfl)) (Nat.le_of_ble_eq_true rfl) (by decide) (by decide) rfl rfl (fun T X => ?_)
  refine s_aloadN X (pc' := 5) d25_4 rfl rfl rfl ?_
  refine s_virtual X (pc' := 8) (W := 0) (as' := []) (S := []) (k' := 0) (n' := 0) d25_5 (hw _ (List.mem_of_getElem? (i := 138) rfl)) (hw _ (List.mem_of_getElem? (i := 139) rfl)) (hw _ (List.mem_of_getElem? (i := 141) rfl)) (hw _ (List.mem_of_getElem? (i := 140) rfl)) (nface (hw _ (List.mem_of_getElem? (i := 141) rfl))) (by decide) own_pd13 rfl E_k ((sb_gv l Z a0 hw hEL k _ F_k_value).payS (by simp) (hw _ (List.mem_of_getElem? (i := 142) rfl)) (hw _ (List.mem_of_getElem? (i := 44) rfl)) hEL (by decide) (by decide)) (Nat.le_of_ble_eq_true rfl) rfl rfl (by decide) (by decide) (by decide) (by decide) rfl (fun T h45 v_ ws_ X hgr_ q46 => ?_)
  obtain ⟨rfl, e_, rfl⟩ := q46
  rw [e_] at X
  show Go p e below _ T (mkF m 8 #[.val (.ref x), .val (.ref k), .val .null, .unset, .unset] [(.ref t)])
  replace X := X.sub (ws' := [x]) (by simp)
  refine s_astoreN X (pc' := 9) (L' := #[.val (.ref x), .val (.ref k), .val .null, .val (.ref t), .unset]) d25_8 rfl rfl rfl ?_
  refine s_aloadN X (pc' := 10) d25_9 rfl rfl rfl ?_
  refine s_virtual X (pc' := 13) (W := 0) (as' := []) (S := []) (k' := 0) (n' := 0) d25_10 (hw _ (List.mem_of_getElem? (i := 143) rfl)) (hw _ (List.mem_of_getElem? (i := 144) rfl)) (hw _ (List.mem_of_getElem? (i := 146) rfl)) (hw _ (List.mem_of_getElem? (i := 147) rfl)) (nfaceC (hw _ (List.mem_of_getElem? (i := 80) rfl)) rfl) (by decide) own_pd7 rfl E_k ((sb_slen l Z a0 hw hEL k _ E_k F_k_count).payS (by simp) (hw _ (List.mem_of_getElem? (i := 148) rfl)) (hw _ (List.mem_of_getElem? (i := 36) rfl)) hEL (by decide) (by decide)) (Nat.le_of_ble_eq_true rfl) rfl rfl (by decide) (by decide) (by decide) (by decide) rfl (fun T h47 v_ ws_ X hgr_ q48 => ?_)
  obtain ⟨rfl, e_, rfl⟩ := q48
  rw [e_] at X
  show Go p e below _ T (mkF m 13 #[.val (.ref x), .val (.ref k), .val .null, .val (.ref t), .unset] [(.int (Int32.ofNat ds.length))])
  replace X := X.sub (ws' := [x]) (by simp)
  refine s_istore X (pc' := 15) (L' := #[.val (.ref x), .val (.ref k), .val .null, .val (.ref t), .val (.int (Int32.ofNat ds.length))]) d25_13 rfl rfl ?_
  refine s_aloadN X (pc' := 16) d25_15 rfl rfl rfl ?_
  refine s_virtual X (pc' := 19) (W := 0) (as' := []) (S := []) (k' := 0) (n' := 0) d25_16 (hw _ (List.mem_of_getElem? (i := 151) rfl)) (hw _ (List.mem_of_getElem? (i := 152) rfl)) (hw _ (List.mem_of_getElem? (i := 154) rfl)) (hw _ (List.mem_of_getElem? (i := 153) rfl)) (nface (hw _ (List.mem_of_getElem? (i := 154) rfl))) (by decide) own_pd14 rfl E_k ((sb_isl l Z a0 hw hEL k _ F_k_coder O2 P5).payS (by simp) (hw _ (List.mem_of_getElem? (i := 155) rfl)) (hw _ (List.mem_of_getElem? (i := 44) rfl)) hEL (by decide) (by decide)) (Nat.le_of_ble_eq_true rfl) rfl rfl (by decide) (by decide) (by decide) (by decide) rfl (fun T h49 v_ ws_ X hgr_ q50 => ?_)
  obtain ⟨rfl, e_, rfl⟩ := q50
  rw [e_] at X
  show Go p e below _ T (mkF m 19 #[.val (.ref x), .val (.ref k), .val .null, .val (.ref t), .val (.int (Int32.ofNat ds.length))] [(.int (1 : Int32))])
  replace X := X.sub (ws' := [x]) (by simp)
  refine s_ifF X (pc' := 22) d25_19 (show ¬ (1 : Int32) = (0 : Int32) by decide) rfl ?_
  refine s_aloadN X (pc' := 23) d25_22 rfl rfl rfl ?_
  refine s_iconst X (pc' := 24) d25_23 (v := (0 : Int32)) rfl rfl ?_
  refine s_putf X (pc' := 27) d25_24 (hw _ (List.mem_of_getElem? (i := 26) rfl)) Via.refl F_x_coder E_x (Or.inr ⟨(hw _ (List.mem_of_getElem? (i := 27) rfl)), rfl, rfl⟩) (hw _ (List.mem_of_getElem? (i := 2) rfl)) (ty := .byte) (by decide) rfl rfl g_x (by simp) rfl (fun T h51 X W52 => ?_)
  replace F_k_value := F_k_value.other W52 (Or.inl (Exa.ne E_k E_x (by decide)))
  replace F_k_coder := F_k_coder.other W52 (Or.inl (Exa.ne E_k E_x (by decide)))
  replace F_k_count := F_k_count.other W52 (Or.inl (Exa.ne E_k E_x (by decide)))
  replace F_x_value := F_x_value.other W52 (Or.inr (slot_ne (Or.inr (hw _ (List.mem_of_getElem? (i := 29) rfl))) (Or.inr (hw _ (List.mem_of_getElem? (i := 27) rfl))) (t := (.array .byte)) (t' := .byte) (by decide) (by decide) (by decide)))
  replace F_x_coder := F_x_coder.same W52
  replace A_t := A_t.other W52 ne_t_x
  replace E_k := E_k.wr W52
  replace E_x := E_x.wr W52
  replace E_t := E_t.wr W52
  replace K_ := K_.wr W52 (Or.inl (by simp))
  refine s_aloadN X (pc' := 28) d25_27 rfl rfl rfl ?_
  refine s_aloadN X (pc' := 29) d25_28 rfl rfl rfl ?_
  refine s_iconst X (pc' := 30) d25_29 (v := (0 : Int32)) rfl rfl ?_
  refine s_iload X (pc' := 32) d25_30 rfl rfl ?_
  refine s_static X (pc' := 35) (W := 1) (as' := [(.ref t), (.int (0 : Int32)), (.int (Int32.ofNat ds.length))]) (S := [(.ref x)]) (k' := 1) (n' := 178) d25_32 (hw _ (List.mem_of_getElem? (i := 156) rfl)) (hw _ (List.mem_of_getElem? (i := 157) rfl)) (hw _ (List.mem_of_getElem? (i := 99) rfl)) (hw _ (List.mem_of_getElem? (i := 158) rfl)) (by decide) own_pd12 rfl ((sb_cor l Z a0 hw hEL t ds _ A_t E_t hv hS hr).payS (by simp) (hw _ (List.mem_of_getElem? (i := 158) rfl)) (hw _ (List.mem_of_getElem? (i := 99) rfl)) hEL (by decide) (by decide)) (Nat.le_of_ble_eq_true rfl) rfl rfl (by decide) (by decide) (by decide) (by decide) rfl (fun T h53 v_ ws_ X hgr_ q54 => ?_)
  obtain ⟨b, rfl, E_, A_b, rfl⟩ := q54
  show Go p e below _ T (mkF m 35 #[.val (.ref x), .val (.ref k), .val .null, .val (.ref t), .val (.int (Int32.ofNat ds.length))] [(.ref b), (.ref x)])
  replace X := X.sub (ws' := [x]) (by simp)
  replace E_x := E_x.ext E_
  replace F_x_value := F_x_value.ext E_
  replace F_x_coder := F_x_coder.ext E_
  replace K_ := K_.ext E_
  have ne_b_x : b ≠ x := by obtain ⟨kc, q⟩ := A_b.arv .null; exact (Exa.neArv E_x q (hw _ (List.mem_of_getElem? (i := 2) rfl))).symm
  refine s_putf X (pc' := 38) d25_35 (hw _ (List.mem_of_getElem? (i := 28) rfl)) Via.refl F_x_value E_x (Or.inr ⟨(hw _ (List.mem_of_getElem? (i := 29) rfl)), rfl, rfl⟩) (hw _ (List.mem_of_getElem? (i := 2) rfl)) (ty := (.array .byte)) (by decide) rfl rfl g_x (by simp) rfl (fun T h55 X W56 => ?_)
  replace F_x_value := F_x_value.same W56
  replace F_x_coder := F_x_coder.other W56 (Or.inr (slot_ne (Or.inr (hw _ (List.mem_of_getElem? (i := 27) rfl))) (Or.inr (hw _ (List.mem_of_getElem? (i := 29) rfl))) (t := .byte) (t' := (.array .byte)) (by decide) (by decide) (by decide)))
  replace A_b := A_b.other W56 ne_b_x
  replace E_x := E_x.wr W56
  replace K_ := K_.wr W56 (Or.inl (by simp))
  refine s_goto X (pc' := 97) d25_38 (by decide) (by decide) ?_
  exact s_ret X hEL (ws' := []) d25_97 (by decide) (by decide) (fun x q => by simp at q) ⟨rfl, K_, Str.ofLatin E_x F_x_value F_x_coder A_b hds (by omega), rfl⟩
theorem ef_sb_s1 (m : MethodId) (x k : Addr) : entryFrame m #[(.ref x), (.ref k)] 2 = mkF m 0 #[.val (.ref x), .val (.ref k)] [] := by first | (simp [entryFrame, mkF, argsToLocals, Value.category]; done) | rfl
set_option maxRecDepth 65536 in
set_option maxHeartbeats 40000000 in
theorem sb_s1 (l : Launch) (Z : State) (a0 : Array Value) (hw : ∀ d ∈ tables_1, d.before a0 Z = true) (hEL : EW Z a0 consts_1) (x k : Addr) (h : Heap) {t : Addr} {ds : List Int32} {r : List Value} {G1 : Int32} (S_k : SBD Z h k t ds r) (hv : ds.length + r.length ≤ 400) (hS : ds.length ≤ 178) (hr : r ≠ []) (hds : Lat ds) (g_x : Z.heap.size ≤ x) (E_x : Exa Z h x "java/lang/String") (F_x_value : Fld Z h x "java/lang/String" "value" "[B" .null) (F_x_coder : Fld Z h x "java/lang/String" "coder" "B" (.int (0 : Int32))) (O2 : Sta Z Z.heap "java/lang/String" "COMPACT_STRINGS" "Z" (.int G1)) (P5 : ¬ (G1 = (0 : Int32))) :
    Con l Z consts_1 True (⟨"java/lang/String", "<init>", "(Ljava/lang/StringBuilder;)V"⟩ : MethodName) jdk_42_method_53_code 2 none ({ frames := 4, cells := 1, slots := 178, locals := 65 } : Room) [x] #[(.ref x), (.ref k)] h (fun v h' ws' => v = none ∧ Keep h h' [x] ∧ Str Z h' x ds ∧ ws' = []) := by
  refine Con.intro own_pn22 (fun p e s m below meth c T X => ?_)
  rw [ef_sb_s1 m x k]
  refine s_aloadN X (pc' := 1) d24_0 rfl rfl rfl ?_
  refine s_aloadN X (pc' := 2) d24_1 rfl rfl rfl ?_
  refine s_aconst X (pc' := 3) d24_2 rfl ?_
  refine s_special X (pc' := 6) (W := 0) (as' := [(.ref k), .null]) (S := []) (k' := 1) (n' := 178) d24_3 rfl (hw _ (List.mem_of_getElem? (i := 135) rfl)) (hw _ (List.mem_of_getElem? (i := 136) rfl)) (hw _ (List.mem_of_getElem? (i := 137) rfl)) (by decide) own_pd15 rfl ((sb_s2 l Z a0 hw hEL x k _ S_k hv hS hr hds g_x E_x F_x_value F_x_coder O2 P5).payS (by simp) (hw _ (List.mem_of_getElem? (i := 137) rfl)) (hw _ (List.mem_of_getElem? (i := 3) rfl)) hEL (by decide) (by decide)) (Nat.le_of_ble_eq_true rfl) rfl rfl (by decide) (by decide) (by decide) (by decide) rfl (fun T h57 v_ ws_ X hgr_ q58 => ?_)
  obtain ⟨rfl, K_, S_, rfl⟩ := q58
  show Go p e below _ T (mkF m 6 #[.val (.ref x), .val (.ref k)] [])
  replace X := X.sub (ws' := [x]) (by simp)
  exact s_ret X hEL (ws' := []) d24_6 (by decide) (by decide) (fun x q => by simp at q) ⟨rfl, K_, S_, rfl⟩
theorem ef_sb_ts (m : MethodId) (k : Addr) : entryFrame m #[(.ref k)] 1 = mkF m 0 #[.val (.ref k)] [] := by first | (simp [entryFrame, mkF, argsToLocals, Value.category]; done) | rfl
set_option maxRecDepth 65536 in
set_option maxHeartbeats 40000000 in
theorem sb_ts (l : Launch) (Z : State) (a0 : Array Value) (hw : ∀ d ∈ tables_1, d.before a0 Z = true) (hEL : EW Z a0 consts_1) (k : Addr) (h : Heap) {t : Addr} {ds : List Int32} {r : List Value} {G1 : Int32} (S_k : SBD Z h k t ds r) (hv : ds.length + r.length ≤ 400) (hS : ds.length ≤ 178) (hr : r ≠ []) (hds : Lat ds) (O2 : Sta Z Z.heap "java/lang/String" "COMPACT_STRINGS" "Z" (.int G1)) (P5 : ¬ (G1 = (0 : Int32))) :
    Con l Z consts_1 True (⟨"java/lang/StringBuilder", "toString", "()Ljava/lang/String;"⟩ : MethodName) jdk_67_method_42_code 1 (some (.object "java/lang/String")) ({ frames := 5, cells := 2, slots := 182, locals := 79 } : Room) [] #[(.ref k)] h (fun v h' ws' => ∃ x, v = some (.ref x) ∧ Ext h h' ∧ Str Z h' x ds ∧ ws' = []) := by
  refine Con.intro own_pn23 (fun p e s m below meth c T X => ?_)
  rw [ef_sb_ts m k]
  have R_ : Ext h h := ext_refl _
  refine s_new X (pc' := 3) (k' := 1) (n' := 4) d23_0 (hw _ (List.mem_of_getElem? (i := 131) rfl)) (hw _ (List.mem_of_getElem? (i := 2) rfl)) (hw _ (List.mem_of_getElem? (i := 3) rfl)) (by decide) (by decide) (by decide) (by decide) rfl (fun T h60 b59 gb_b59 X' E61 E_b59 D_b59 U_b59 => ?_)
  have g_b59 : Z.heap.size ≤ b59 := by rw [gb_b59]; exact X.lt
  have sz_R__b59 : h.size ≤ b59 := by rw [gb_b59]; exact R_.1
  replace R_ := ext_trans R_ E61
  replace X := X'
  have F_b59_coder : Fld Z h60 b59 "java/lang/String" "coder" "B" (.int (0 : Int32)) := D_b59 (Or.inr (hw _ (List.mem_of_getElem? (i := 27) rfl))) (ty := .byte) (by decide)
  have F_b59_value : Fld Z h60 b59 "java/lang/String" "value" "[B" .null := D_b59 (Or.inr (hw _ (List.mem_of_getElem? (i := 29) rfl))) (ty := (.array .byte)) (by decide)
  refine s_dup X (pc' := 4) d23_3 rfl rfl ?_
  refine s_aloadN X (pc' := 5) d23_4 rfl rfl rfl ?_
  have S_k' : SBD Z h60 k t ds r := S_k.ext E61
  refine s_special X (pc' := 8) (W := 1) (as' := [(.ref k)]) (S := [(.ref b59)]) (k' := 2) (n' := 182) d23_5 rfl (hw _ (List.mem_of_getElem? (i := 132) rfl)) (hw _ (List.mem_of_getElem? (i := 133) rfl)) (hw _ (List.mem_of_getElem? (i := 134) rfl)) (by decide) own_pd16 rfl ((sb_s1 l Z a0 hw hEL b59 k _ S_k' hv hS hr hds g_b59 E_b59 F_b59_value F_b59_coder O2 P5).payS (by simp) (hw _ (List.mem_of_getElem? (i := 134) rfl)) (hw _ (List.mem_of_getElem? (i := 3) rfl)) hEL (by decide) (by decide)) (Nat.le_of_ble_eq_true rfl) rfl rfl (by decide) (by decide) (by decide) (by decide) rfl (fun T h62 v_ ws_ X hgr_ q63 => ?_)
  obtain ⟨rfl, K_, S_, rfl⟩ := q63
  show Go p e below _ T (mkF m 8 #[.val (.ref k)] [(.ref b59)])
  replace X := X.sub (ws' := [b59]) (by simp)
  replace R_ := ext_keep R_ K_ (allS sz_R__b59 all0)
  exact s_aret X hEL (ws' := []) (t := (.object "java/lang/String")) d23_8 rfl rfl rfl rfl (by decide) (by decide) (fun x q => by simp at q) ⟨b59, rfl, R_, S_, rfl⟩
theorem Str.keepS {Z : State} {a0 : Array Value} {h h' : Heap} {a b : Addr} {cs : List Int32} {C : String} {kI : Nat} (S : Str Z h a cs) (K : Keep h h' [b]) (E : Exa Z h b C) (n1 : a ≠ b) (wi : (Jvm.Cond.instantiable C kI).before a0 Z = true) : Str Z h' a cs := by
  obtain ⟨t, kb, cd, N, vs, s1, s2, s3, s4, r⟩ := S
  have n2 : t ≠ b := (Exa.neArv E s4 wi).symm
  exact ⟨t, kb, cd, N, vs, s1.keep K, s2.keep K (ninS n1 nin0), s3.keep K (ninS n1 nin0), s4.keep K (ninS n2 nin0), r⟩

theorem ary_ne {Z : State} {h : Heap} {a b : Addr} {ty ty' : FieldType} {vs vs' : List Value} (A : Own.Ary Z h a ty vs) (B : Own.Ary Z h b ty' vs') (q : vs.length ≠ vs'.length) : a ≠ b := fun e => by
  subst e
  obtain ⟨cl, A1, A2, -⟩ := A
  obtain ⟨cl', B1, B2, -⟩ := B
  cases A1.1.symm.trans B1.1
  exact q (by rw [← A2, ← B2])
def own_x47 : List Int32 := [45, 45, 114, 111, 116, 104, 45, 101, 108, 101, 99, 116, 105, 111, 110, 115, 32, 105, 115, 32, 109, 105, 115, 115, 105, 110, 103, 44, 32, 97, 110, 100, 32]
theorem own_xl47 : Lat own_x47 := (by decide : ∀ c ∈ own_x47, ¬ c < 0 ∧ ¬ (255 : Int32) < c)
def own_x49 : List Int32 := [32, 104, 97, 115, 32, 97, 32, 115, 111, 117, 114, 99, 101, 32, 111, 102, 32, 100, 101, 115, 105, 103, 110, 97, 116, 101, 100, 32, 82, 111, 116, 104, 32, 99, 111, 110, 116, 114, 105, 98, 117, 116, 105, 111, 110, 115]
theorem own_xl49 : Lat own_x49 := (by decide : ∀ c ∈ own_x49, ¬ c < 0 ∧ ¬ (255 : Int32) < c)
def own_x51 : List Int32 := [45, 45, 101, 108, 101, 99, 116, 105, 111, 110, 115, 32, 105, 115, 32, 109, 105, 115, 115, 105, 110, 103, 44, 32, 97, 110, 100, 32]
theorem own_xl51 : Lat own_x51 := (by decide : ∀ c ∈ own_x51, ¬ c < 0 ∧ ¬ (255 : Int32) < c)
def own_x53 : List Int32 := [32, 104, 97, 115, 32, 97, 32, 115, 111, 117, 114, 99, 101]
theorem own_xl53 : Lat own_x53 := (by decide : ∀ c ∈ own_x53, ¬ c < 0 ∧ ¬ (255 : Int32) < c)
def own_x58 : List Int32 := [32, 119, 104, 111, 115, 101, 32, 112, 101, 114, 99, 101, 110, 116, 97, 103, 101, 32, 101, 109, 112, 108, 111, 121, 101, 101, 115, 32, 111, 102, 32, 116, 104, 101, 32, 99, 108, 97, 115, 115, 32]
theorem own_xl58 : Lat own_x58 := (by decide : ∀ c ∈ own_x58, ¬ c < 0 ∧ ¬ (255 : Int32) < c)
def own_x66 : List Int32 := [32, 101, 108, 101, 99, 116]
theorem own_xl66 : Lat own_x66 := (by decide : ∀ c ∈ own_x66, ¬ c < 0 ∧ ¬ (255 : Int32) < c)
def own_msg1 (ps qs : List Int32) : List Int32 := ((([] ++ ((([] ++ own_x47) ++ ps) ++ own_x49)) ++ own_x58) ++ qs) ++ own_x66
def own_msg0 (ps qs : List Int32) : List Int32 := ((([] ++ ((([] ++ own_x51) ++ ps) ++ own_x53)) ++ own_x58) ++ qs) ++ own_x66

theorem own_known {s : State} {m : MethodId} {args : Array Value} {below : List Frame} (hF : framesKnown s = true) (hT : tablesKnown s = true) (hf : s.frames = .invoking m args :: below) : s.vm.MethodsKnown ∧ s.vm.FramesKnown below := by
  have km : ∀ {m' : MethodId}, methodKnown s.vm m' = true → s.vm.knowsMethod m' := fun {m'} q => by
    unfold methodKnown at q
    cases hk : s.vm.classes[m'.cls]? with
    | none => simp [hk] at q
    | some k => exact ⟨k, hk, fun cf hcf => by simpa [hk, hcf] using q⟩
  constructor
  · intro m' xx hm
    obtain ⟨k, hk, hm2⟩ := Option.bind_eq_some_iff.mp hm
    refine ⟨k, hk, fun cf hcf => ?_⟩
    have h1 := (Array.all_eq_true_iff_forall_mem.mp hT) k (Array.mem_of_getElem? hk)
    simp only [hcf, beq_iff_eq] at h1
    have hlt := (Array.getElem?_eq_some_iff.mp hm2).1
    rw [h1] at hlt
    simp [hlt]
  · intro fr hfr m' hm'
    unfold framesKnown at hF
    rw [hf] at hF
    have h1 := (List.all_eq_true.mp hF) fr (List.mem_cons_of_mem _ hfr)
    cases fr with
    | java g => cases hm'; exact km h1
    | native g => cases hm'; exact km h1
    | _ => cases hm'
theorem dig_at_ {Z : State} {a1 a0 : Array Value} {t : Term} (hf : Fit Z) (hx : (Jvm.Cond.exactly t "[B").value a1 Z none Z [] = some true) (hl : (Jvm.Cond.eq (Term.length t) (.int 100)).value a1 Z none Z [] = some true) (wc : (Jvm.Cond.arrayClass .byte).before a0 Z = true) : ∃ a vs, t.eval a1 Z none [] Z = some (.ref a) ∧ Own.Ary Z Z.heap a .byte vs ∧ vs.length = 100 := by
  obtain ⟨a, ev⟩ := exa_v hx
  obtain ⟨cell, k, h1, h2, h3, h4, -⟩ := Exa.start ev hx
  obtain ⟨cA, kA, comp, q1, q2, q3⟩ := Cond.arrayClass_spec wc
  have q1' : Z.vm.findClass "[B" = some cA := q1
  cases h2.symm.trans q1'
  cases h3.symm.trans q2
  have hv : cell.vm ≠ .unknown := by
    obtain ⟨v, r1, r2⟩ := Cond.eq_worth hl
    simp only [Term.eval, Option.bind_eq_bind, ev, Option.bind_some] at r1
    obtain ⟨c2, hc2, r1⟩ := Option.bind_eq_some_iff.mp r1
    obtain ⟨z1, z2, -⟩ := State.arrayAt?_spec hc2
    cases h1.symm.trans z1; exact z2
  obtain ⟨vs, A, hn⟩ := ary_any (N := 100) hf ev ⟨cell, h1, ⟨fun kk z => (by rw [z] at h4; cases h4), k, h3, comp, q3⟩, hv⟩ hl rfl (by decide)
  exact ⟨a, vs, ev, A, hn⟩
theorem own_xw_rr {Z : State} {a0 : Array Value} (hw : ∀ d ∈ tables_1, d.before a0 Z = true) : ∀ d ∈ excW "com/example/vestwright/vestwright/run/RunRefusedException", d.before a0 Z = true := fun d hd => hw d ((by decide +kernel : ∀ d ∈ excW "com/example/vestwright/vestwright/run/RunRefusedException", d ∈ tables_1) d hd)
theorem d41_0 : decode jdk_78_method_3_code 0 = .ok (.aload_n 0, 1) := by decide +kernel
theorem d41_1 : decode jdk_78_method_3_code 1 = .ok (.invokespecial 1, 3) := by decide +kernel
theorem d41_4 : decode jdk_78_method_3_code 4 = .ok (.aload_n 0, 1) := by decide +kernel
theorem d41_5 : decode jdk_78_method_3_code 5 = .ok (.aload_n 0, 1) := by decide +kernel
theorem d41_6 : decode jdk_78_method_3_code 6 = .ok (.putfield 7, 3) := by decide +kernel
theorem d41_9 : decode jdk_78_method_3_code 9 = .ok (.aload_n 0, 1) := by decide +kernel
theorem d41_10 : decode jdk_78_method_3_code 10 = .ok (.getstatic 13, 3) := by decide +kernel
theorem d41_13 : decode jdk_78_method_3_code 13 = .ok (.putfield 17, 3) := by decide +kernel
theorem d41_16 : decode jdk_78_method_3_code 16 = .ok (.aload_n 0, 1) := by decide +kernel
theorem d41_17 : decode jdk_78_method_3_code 17 = .ok (.getstatic 20, 3) := by decide +kernel
theorem d41_20 : decode jdk_78_method_3_code 20 = .ok (.putfield 24, 3) := by decide +kernel
theorem d41_23 : decode jdk_78_method_3_code 23 = .ok (.aload_n 0, 1) := by decide +kernel
theorem d41_24 : decode jdk_78_method_3_code 24 = .ok (.invokevirtual 27, 3) := by decide +kernel
theorem d41_27 : decode jdk_78_method_3_code 27 = .ok (.pop, 1) := by decide +kernel
theorem d41_28 : decode jdk_78_method_3_code 28 = .ok (.aload_n 0, 1) := by decide +kernel
theorem d41_29 : decode jdk_78_method_3_code 29 = .ok (.aload_n 1, 1) := by decide +kernel
theorem d41_30 : decode jdk_78_method_3_code 30 = .ok (.putfield 31, 3) := by decide +kernel
theorem d41_33 : decode jdk_78_method_3_code 33 = .ok (.aload_n 0, 1) := by decide +kernel
theorem d41_34 : decode jdk_78_method_3_code 34 = .ok (.aload_n 2, 1) := by decide +kernel
theorem d41_35 : decode jdk_78_method_3_code 35 = .ok (.putfield 7, 3) := by decide +kernel
theorem d41_38 : decode jdk_78_method_3_code 38 = .ok (.return_, 1) := by decide +kernel
theorem d40_0 : decode jdk_59_method_3_code 0 = .ok (.aload_n 0, 1) := by decide +kernel
theorem d40_1 : decode jdk_59_method_3_code 1 = .ok (.aload_n 1, 1) := by decide +kernel
theorem d40_2 : decode jdk_59_method_3_code 2 = .ok (.aload_n 2, 1) := by decide +kernel
theorem d40_3 : decode jdk_59_method_3_code 3 = .ok (.invokespecial 10, 3) := by decide +kernel
theorem d40_6 : decode jdk_59_method_3_code 6 = .ok (.return_, 1) := by decide +kernel
theorem ef_own_th2_rr (m : MethodId) (k mg : Addr) : entryFrame m #[(.ref k), (.ref mg), .null] 3 = mkF m 0 #[.val (.ref k), .val (.ref mg), .val .null] [] := by first | (simp [entryFrame, mkF, argsToLocals, Value.category]; done) | rfl
set_option maxRecDepth 65536 in
set_option maxHeartbeats 40000000 in
theorem own_th2_rr (l : Launch) (Z : State) (a0 : Array Value) (hw : ∀ d ∈ tables_1, d.before a0 Z = true) (hEL : EW Z a0 consts_1) (k mg : Addr) (h : Heap) {us ss : Addr} (g_k : Z.heap.size ≤ k) (E_k : Exa Z h k "com/example/vestwright/vestwright/run/RunRefusedException") (U_k : Unt h k) (F_k_cause : Fld Z h k "java/lang/Throwable" "cause" "Ljava/lang/Throwable;" .null) (F_k_stackTrace : Fld Z h k "java/lang/Throwable" "stackTrace" "[Ljava/lang/StackTraceElement;" .null) (F_k_suppressedExceptions : Fld Z h k "java/lang/Throwable" "suppressedExceptions" "Ljava/util/List;" .null) (F_k_backtrace : Fld Z h k "java/lang/Throwable" "backtrace" "Ljava/lang/Object;" .null) (F_k_detailMessage : Fld Z h k "java/lang/Throwable" "detailMessage" "Ljava/lang/String;" .null) (Us : Sta Z Z.heap "java/lang/Throwable" "UNASSIGNED_STACK" "[Ljava/lang/StackTraceElement;" (.ref us)) (Ss : Sta Z Z.heap "java/lang/Throwable" "SUPPRESSED_SENTINEL" "Ljava/util/List;" (.ref ss)) (hlt : l.stackTraces = true) :
    Con l Z consts_1 True (⟨"java/lang/Throwable", "<init>", "(Ljava/lang/String;Ljava/lang/Throwable;)V"⟩ : MethodName) jdk_78_method_3_code 3 none ({ frames := 3, cells := 1, slots := 2752, locals := 42 } : Room) [k] #[(.ref k), (.ref mg), .null] h (fun v h' ws' => v = none ∧ Kp Z h h' k ∧ Exa Z h' k "com/example/vestwright/vestwright/run/RunRefusedException" ∧ Unt h' k ∧ Fld Z h' k "java/lang/Throwable" "detailMessage" "Ljava/lang/String;" (.ref mg) ∧ Fld Z h' k "java/lang/Throwable" "cause" "Ljava/lang/Throwable;" .null ∧ ws' = []) := by
  refine Con.intro own_pn24 (fun p e s m below meth c T X => ?_)
  rw [ef_own_th2_rr m k mg]
  have KP_ : Kp Z h h k := kp_refl _
  refine s_aloadN X (pc' := 1) d41_0 rfl rfl rfl ?_
  refine s_initO X (pc' := 4) (W := 0) d41_1 (hw _ (List.mem_of_getElem? (i := 218) rfl)) (hw _ (List.mem_of_getElem? (i := 12) rfl)) (b' := object_method_1_code) rfl (hw _ (List.mem_of_getElem? (i := 13) rfl)) (Nat.le_of_ble_eq_true rfl) (by decide) (by decide) rfl rfl (fun T X => ?_)
  refine s_aloadN X (pc' := 5) d41_4 rfl rfl rfl ?_
  refine s_aloadN X (pc' := 6) d41_5 rfl rfl rfl ?_
  refine s_putf X (pc' := 9) d41_6 (hw _ (List.mem_of_getElem? (i := 219) rfl)) Via.refl F_k_cause E_k (Or.inl (hw _ (List.mem_of_getElem? (i := 220) rfl))) (hw _ (List.mem_of_getElem? (i := 166) rfl)) (ty := (.object "java/lang/Throwable")) (by decide) rfl rfl g_k (by simp) rfl (fun T h64 X W65 => ?_)
  replace F_k_cause := F_k_cause.same W65
  replace F_k_stackTrace := F_k_stackTrace.other W65 (Or.inr (slot_ne (Or.inl (hw _ (List.mem_of_getElem? (i := 223) rfl))) (Or.inl (hw _ (List.mem_of_getElem? (i := 220) rfl))) (t := (.array (.object "java/lang/StackTraceElement"))) (t' := (.object "java/lang/Throwable")) (by decide) (by decide) (by decide)))
  replace F_k_suppressedExceptions := F_k_suppressedExceptions.other W65 (Or.inr (slot_ne (Or.inl (hw _ (List.mem_of_getElem? (i := 226) rfl))) (Or.inl (hw _ (List.mem_of_getElem? (i := 220) rfl))) (t := (.object "java/util/List")) (t' := (.object "java/lang/Throwable")) (by decide) (by decide) (by decide)))
  replace F_k_backtrace := F_k_backtrace.other W65 (Or.inr (slot_ne (Or.inl (hw _ (List.mem_of_getElem? (i := 251) rfl))) (Or.inl (hw _ (List.mem_of_getElem? (i := 220) rfl))) (t := (.object "java/lang/Object")) (t' := (.object "java/lang/Throwable")) (by decide) (by decide) (by decide)))
  replace F_k_detailMessage := F_k_detailMessage.other W65 (Or.inr (slot_ne (Or.inl (hw _ (List.mem_of_getElem? (i := 250) rfl))) (Or.inl (hw _ (List.mem_of_getElem? (i := 220) rfl))) (t := (.object "java/lang/String")) (t' := (.object "java/lang/Throwable")) (by decide) (by decide) (by decide)))
  replace E_k := E_k.wr W65
  replace KP_ := kp_wr KP_ W65 (by decide +kernel)
  refine s_aloadN X (pc' := 10) d41_9 rfl rfl rfl ?_
  refine s_gets X (pc' := 13) d41_10 (hw _ (List.mem_of_getElem? (i := 221) rfl)) Via.refl Us rfl (fun T X => ?_)
  refine s_putf X (pc' := 16) d41_13 (hw _ (List.mem_of_getElem? (i := 222) rfl)) Via.refl F_k_stackTrace E_k (Or.inl (hw _ (List.mem_of_getElem? (i := 223) rfl))) (hw _ (List.mem_of_getElem? (i := 166) rfl)) (ty := (.array (.object "java/lang/StackTraceElement"))) (by decide) rfl rfl g_k (by simp) rfl (fun T h66 X W67 => ?_)
  replace F_k_cause := F_k_cause.other W67 (Or.inr (slot_ne (Or.inl (hw _ (List.mem_of_getElem? (i := 220) rfl))) (Or.inl (hw _ (List.mem_of_getElem? (i := 223) rfl))) (t := (.object "java/lang/Throwable")) (t' := (.array (.object "java/lang/StackTraceElement"))) (by decide) (by decide) (by decide)))
  replace F_k_stackTrace := F_k_stackTrace.same W67
  replace F_k_suppressedExceptions := F_k_suppressedExceptions.other W67 (Or.inr (slot_ne (Or.inl (hw _ (List.mem_of_getElem? (i := 226) rfl))) (Or.inl (hw _ (List.mem_of_getElem? (i := 223) rfl))) (t := (.object "java/util/List")) (t' := (.array (.object "java/lang/StackTraceElement"))) (by decide) (by decide) (by decide)))
  replace F_k_backtrace := F_k_backtrace.other W67 (Or.inr (slot_ne (Or.inl (hw _ (List.mem_of_getElem? (i := 251) rfl))) (Or.inl (hw _ (List.mem_of_getElem? (i := 223) rfl))) (t := (.object "java/lang/Object")) (t' := (.array (.object "java/lang/StackTraceElement"))) (by decide) (by decide) (by decide)))
  replace F_k_detailMessage := F_k_detailMessage.other W67 (Or.inr (slot_ne (Or.inl (hw _ (List.mem_of_getElem? (i := 250) rfl))) (Or.inl (hw _ (List.mem_of_getElem? (i := 223) rfl))) (t := (.object "java/lang/String")) (t' := (.array (.object "java/lang/StackTraceElement"))) (by decide) (by decide) (by decide)))
  replace E_k := E_k.wr W67
  replace KP_ := kp_wr KP_ W67 (by decide +kernel)
  refine s_aloadN X (pc' := 17) d41_16 rfl rfl rfl ?_
  refine s_gets X (pc' := 20) d41_17 (hw _ (List.mem_of_getElem? (i := 224) rfl)) Via.refl Ss rfl (fun T X => ?_)
  refine s_putf X (pc' := 23) d41_20 (hw _ (List.mem_of_getElem? (i := 225) rfl)) Via.refl F_k_suppressedExceptions E_k (Or.inl (hw _ (List.mem_of_getElem? (i := 226) rfl))) (hw _ (List.mem_of_getElem? (i := 166) rfl)) (ty := (.object "java/util/List")) (by decide) rfl rfl g_k (by simp) rfl (fun T h68 X W69 => ?_)
  replace F_k_cause := F_k_cause.other W69 (Or.inr (slot_ne (Or.inl (hw _ (List.mem_of_getElem? (i := 220) rfl))) (Or.inl (hw _ (List.mem_of_getElem? (i := 226) rfl))) (t := (.object "java/lang/Throwable")) (t' := (.object "java/util/List")) (by decide) (by decide) (by decide)))
  replace F_k_stackTrace := F_k_stackTrace.other W69 (Or.inr (slot_ne (Or.inl (hw _ (List.mem_of_getElem? (i := 223) rfl))) (Or.inl (hw _ (List.mem_of_getElem? (i := 226) rfl))) (t := (.array (.object "java/lang/StackTraceElement"))) (t' := (.object "java/util/List")) (by decide) (by decide) (by decide)))
  replace F_k_suppressedExceptions := F_k_suppressedExceptions.same W69
  replace F_k_backtrace := F_k_backtrace.other W69 (Or.inr (slot_ne (Or.inl (hw _ (List.mem_of_getElem? (i := 251) rfl))) (Or.inl (hw _ (List.mem_of_getElem? (i := 226) rfl))) (t := (.object "java/lang/Object")) (t' := (.object "java/util/List")) (by decide) (by decide) (by decide)))
  replace F_k_detailMessage := F_k_detailMessage.other W69 (Or.inr (slot_ne (Or.inl (hw _ (List.mem_of_getElem? (i := 250) rfl))) (Or.inl (hw _ (List.mem_of_getElem? (i := 226) rfl))) (t := (.object "java/lang/String")) (t' := (.object "java/util/List")) (by decide) (by decide) (by decide)))
  replace E_k := E_k.wr W69
  replace KP_ := kp_wr KP_ W69 (by decide +kernel)
  refine s_aloadN X (pc' := 24) d41_23 rfl rfl rfl ?_
  refine s_fill X trivial hlt (rc := "com/example/vestwright/vestwright/run/RunRefusedException") (pc' := 27) (k' := 1) (n' := 2752) d41_24 rfl (own_xw_rr hw) (hw _ (List.mem_of_getElem? (i := 166) rfl)) Us E_k (U_k.kp KP_) F_k_stackTrace F_k_backtrace g_k (by simp) rfl (by decide) (by decide) (by decide) (by decide) (by decide) (by decide) rfl (fun T h70 X Kf_ E_k U1_k kf_ => ?_)
  replace KP_ := kp_trans KP_ Kf_
  replace F_k_detailMessage := kf_ F_k_detailMessage (slot_ne (Or.inl (hw _ (List.mem_of_getElem? (i := 251) rfl))) (Or.inl (hw _ (List.mem_of_getElem? (i := 250) rfl))) (t := (.object "java/lang/Object")) (t' := (.object "java/lang/String")) (by decide) (by decide) (by decide)) (slot_ne (Or.inl (hw _ (List.mem_of_getElem? (i := 252) rfl))) (Or.inl (hw _ (List.mem_of_getElem? (i := 250) rfl))) (t := .int) (t' := (.object "java/lang/String")) (by decide) (by decide) (by decide)) (slot_ne (Or.inl (hw _ (List.mem_of_getElem? (i := 223) rfl))) (Or.inl (hw _ (List.mem_of_getElem? (i := 250) rfl))) (t := (.array (.object "java/lang/StackTraceElement"))) (t' := (.object "java/lang/String")) (by decide) (by decide) (by decide))
  replace F_k_cause := kf_ F_k_cause (slot_ne (Or.inl (hw _ (List.mem_of_getElem? (i := 251) rfl))) (Or.inl (hw _ (List.mem_of_getElem? (i := 220) rfl))) (t := (.object "java/lang/Object")) (t' := (.object "java/lang/Throwable")) (by decide) (by decide) (by decide)) (slot_ne (Or.inl (hw _ (List.mem_of_getElem? (i := 252) rfl))) (Or.inl (hw _ (List.mem_of_getElem? (i := 220) rfl))) (t := .int) (t' := (.object "java/lang/Throwable")) (by decide) (by decide) (by decide)) (slot_ne (Or.inl (hw _ (List.mem_of_getElem? (i := 223) rfl))) (Or.inl (hw _ (List.mem_of_getElem? (i := 220) rfl))) (t := (.array (.object "java/lang/StackTraceElement"))) (t' := (.object "java/lang/Throwable")) (by decide) (by decide) (by decide))
  refine s_pop X (pc' := 28) d41_27 rfl rfl ?_
  refine s_aloadN X (pc' := 29) d41_28 rfl rfl rfl ?_
  refine s_aloadN X (pc' := 30) d41_29 rfl rfl rfl ?_
  refine s_putf X (pc' := 33) d41_30 (hw _ (List.mem_of_getElem? (i := 254) rfl)) Via.refl F_k_detailMessage E_k (Or.inl (hw _ (List.mem_of_getElem? (i := 250) rfl))) (hw _ (List.mem_of_getElem? (i := 166) rfl)) (ty := (.object "java/lang/String")) (by decide) rfl rfl g_k (by simp) rfl (fun T h71 X W72 => ?_)
  replace F_k_cause := F_k_cause.other W72 (Or.inr (slot_ne (Or.inl (hw _ (List.mem_of_getElem? (i := 220) rfl))) (Or.inl (hw _ (List.mem_of_getElem? (i := 250) rfl))) (t := (.object "java/lang/Throwable")) (t' := (.object "java/lang/String")) (by decide) (by decide) (by decide)))
  replace F_k_detailMessage := F_k_detailMessage.same W72
  replace E_k := E_k.wr W72
  replace KP_ := kp_wr KP_ W72 (by decide +kernel)
  refine s_aloadN X (pc' := 34) d41_33 rfl rfl rfl ?_
  refine s_aloadN X (pc' := 35) d41_34 rfl rfl rfl ?_
  refine s_putf X (pc' := 38) d41_35 (hw _ (List.mem_of_getElem? (i := 219) rfl)) Via.refl F_k_cause E_k (Or.inl (hw _ (List.mem_of_getElem? (i := 220) rfl))) (hw _ (List.mem_of_getElem? (i := 166) rfl)) (ty := (.object "java/lang/Throwable")) (by decide) rfl rfl g_k (by simp) rfl (fun T h73 X W74 => ?_)
  replace F_k_cause := F_k_cause.same W74
  replace F_k_detailMessage := F_k_detailMessage.other W74 (Or.inr (slot_ne (Or.inl (hw _ (List.mem_of_getElem? (i := 250) rfl))) (Or.inl (hw _ (List.mem_of_getElem? (i := 220) rfl))) (t := (.object "java/lang/String")) (t' := (.object "java/lang/Throwable")) (by decide) (by decide) (by decide)))
  replace E_k := E_k.wr W74
  replace KP_ := kp_wr KP_ W74 (by decide +kernel)
  exact s_ret X hEL (ws' := []) d41_38 (by decide) (by decide) (fun x q => by simp at q) ⟨rfl, KP_, E_k, U_k.kp KP_, F_k_detailMessage, F_k_cause, rfl⟩
theorem ef_own_ex2_rr (m : MethodId) (k mg : Addr) : entryFrame m #[(.ref k), (.ref mg), .null] 3 = mkF m 0 #[.val (.ref k), .val (.ref mg), .val .null] [] := by first | (simp [entryFrame, mkF, argsToLocals, Value.category]; done) | rfl
set_option maxRecDepth 65536 in
set_option maxHeartbeats 40000000 in
theorem own_ex2_rr (l : Launch) (Z : State) (a0 : Array Value) (hw : ∀ d ∈ tables_1, d.before a0 Z = true) (hEL : EW Z a0 consts_1) (k mg : Addr) (h : Heap) {us ss : Addr} (g_k : Z.heap.size ≤ k) (E_k : Exa Z h k "com/example/vestwright/vestwright/run/RunRefusedException") (U_k : Unt h k) (F_k_cause : Fld Z h k "java/lang/Throwable" "cause" "Ljava/lang/Throwable;" .null) (F_k_stackTrace : Fld Z h k "java/lang/Throwable" "stackTrace" "[Ljava/lang/StackTraceElement;" .null) (F_k_suppressedExceptions : Fld Z h k "java/lang/Throwable" "suppressedExceptions" "Ljava/util/List;" .null) (F_k_backtrace : Fld Z h k "java/lang/Throwable" "backtrace" "Ljava/lang/Object;" .null) (F_k_detailMessage : Fld Z h k "java/lang/Throwable" "detailMessage" "Ljava/lang/String;" .null) (Us : Sta Z Z.heap "java/lang/Throwable" "UNASSIGNED_STACK" "[Ljava/lang/StackTraceElement;" (.ref us)) (Ss : Sta Z Z.heap "java/lang/Throwable" "SUPPRESSED_SENTINEL" "Ljava/util/List;" (.ref ss)) (hlt : l.stackTraces = true) :
    Con l Z consts_1 True (⟨"java/lang/Exception", "<init>", "(Ljava/lang/String;Ljava/lang/Throwable;)V"⟩ : MethodName) jdk_59_method_3_code 3 none ({ frames := 4, cells := 1, slots := 2752, locals := 56 } : Room) [k] #[(.ref k), (.ref mg), .null] h (fun v h' ws' => v = none ∧ Kp Z h h' k ∧ Exa Z h' k "com/example/vestwright/vestwright/run/RunRefusedException" ∧ Unt h' k ∧ Fld Z h' k "java/lang/Throwable" "detailMessage" "Ljava/lang/String;" (.ref mg) ∧ Fld Z h' k "java/lang/Throwable" "cause" "Ljava/lang/Throwable;" .null ∧ ws' = []) := by
  refine Con.intro own_pn25 (fun p e s m below meth c T X => ?_)
  rw [ef_own_ex2_rr m k mg]
  refine s_aloadN X (pc' := 1) d40_0 rfl rfl rfl ?_
  refine s_aloadN X (pc' := 2) d40_1 rfl rfl rfl ?_
  refine s_aloadN X (pc' := 3) d40_2 rfl rfl rfl ?_
  refine s_special X (pc' := 6) (W := 0) (as' := [(.ref mg), .null]) (S := []) (k' := 1) (n' := 2752) d40_3 rfl (hw _ (List.mem_of_getElem? (i := 212) rfl)) (hw _ (List.mem_of_getElem? (i := 213) rfl)) (hw _ (List.mem_of_getElem? (i := 217) rfl)) (by decide) own_pd17 rfl ((own_th2_rr l Z a0 hw hEL k mg _ g_k E_k U_k F_k_cause F_k_stackTrace F_k_suppressedExceptions F_k_backtrace F_k_detailMessage Us Ss hlt).payS (by simp) (hw _ (List.mem_of_getElem? (i := 217) rfl)) (hw _ (List.mem_of_getElem? (i := 216) rfl)) hEL (by decide) (by decide)) (Nat.le_of_ble_eq_true rfl) rfl rfl (by decide) (by decide) (by decide) (by decide) rfl (fun T h75 v_ ws_ X hgr_ q76 => ?_)
  obtain ⟨rfl, KP_, E1_, U1_, F1_, F2_, rfl⟩ := q76
  show Go p e below _ T (mkF m 6 #[.val (.ref k), .val (.ref mg), .val .null] [])
  replace X := X.sub (ws' := [k]) (by simp)
  exact s_ret X hEL (ws' := []) d40_6 (by decide) (by decide) (fun x q => by simp at q) ⟨rfl, KP_, E1_, U1_, F1_, F2_, rfl⟩
theorem d45_0 : decode jdk_78_method_6_code 0 = .ok (.aload_n 0, 1) := by decide +kernel
theorem d45_1 : decode jdk_78_method_6_code 1 = .ok (.getfield 31, 3) := by decide +kernel
theorem d45_4 : decode jdk_78_method_6_code 4 = .ok (.areturn, 1) := by decide +kernel
theorem ef_own_gm (m : MethodId) (k : Addr) : entryFrame m #[(.ref k)] 1 = mkF m 0 #[.val (.ref k)] [] := by first | (simp [entryFrame, mkF, argsToLocals, Value.category]; done) | rfl
set_option maxRecDepth 65536 in
set_option maxHeartbeats 40000000 in
theorem own_gm (l : Launch) (Z : State) (a0 : Array Value) (hw : ∀ d ∈ tables_1, d.before a0 Z = true) (hEL : EW Z a0 consts_1) (k : Addr) (h : Heap) {r : Addr} (F_k_detailMessage : Fld Z h k "java/lang/Throwable" "detailMessage" "Ljava/lang/String;" (.ref r)) :
    Con l Z consts_1 True (⟨"java/lang/Throwable", "getMessage", "()Ljava/lang/String;"⟩ : MethodName) jdk_78_method_6_code 1 (some (.object "java/lang/String")) ({ frames := 0, cells := 0, slots := 0, locals := 0 } : Room) [] #[(.ref k)] h (fun v h' ws' => v = some (.ref r) ∧ h' = h ∧ ws' = []) := by
  refine Con.intro own_pn26 (fun p e s m below meth c T X => ?_)
  rw [ef_own_gm m k]
  refine s_aloadN X (pc' := 1) d45_0 rfl rfl rfl ?_
  refine s_getf X (pc' := 4) d45_1 (hw _ (List.mem_of_getElem? (i := 254) rfl)) Via.refl F_k_detailMessage rfl (fun T X => ?_)
  exact s_aret X hEL (ws' := []) (t := (.object "java/lang/String")) d45_4 rfl rfl rfl rfl (by decide) (by decide) (fun x q => by simp at q) ⟨rfl, rfl, rfl⟩
theorem d43_0 : decode prog_47_method_5_code 0 = .ok (.aload_n 0, 1) := by decide +kernel
theorem d43_1 : decode prog_47_method_5_code 1 = .ok (.getfield 7, 3) := by decide +kernel
theorem d43_4 : decode prog_47_method_5_code 4 = .ok (.areturn, 1) := by decide +kernel
theorem ef_own_kind (m : MethodId) (k : Addr) : entryFrame m #[(.ref k)] 1 = mkF m 0 #[.val (.ref k)] [] := by first | (simp [entryFrame, mkF, argsToLocals, Value.category]; done) | rfl
set_option maxRecDepth 65536 in
set_option maxHeartbeats 40000000 in
theorem own_kind (l : Launch) (Z : State) (a0 : Array Value) (hw : ∀ d ∈ tables_1, d.before a0 Z = true) (hEL : EW Z a0 consts_1) (k : Addr) (h : Heap) {r : Addr} (F_k_kind : Fld Z h k "com/example/vestwright/vestwright/run/RunRefusedException" "kind" "Lcom/example/vestwright/vestwright/run/RunRefusedException$Kind;" (.ref r)) :
    Con l Z consts_1 True (⟨"com/example/vestwright/vestwright/run/RunRefusedException", "kind", "()Lcom/example/vestwright/vestwright/run/RunRefusedException$Kind;"⟩ : MethodName) prog_47_method_5_code 1 (some (.object "com/example/vestwright/vestwright/run/RunRefusedException$Kind")) ({ frames := 0, cells := 0, slots := 0, locals := 0 } : Room) [] #[(.ref k)] h (fun v h' ws' => v = some (.ref r) ∧ h' = h ∧ ws' = []) := by
  refine Con.intro own_pn27 (fun p e s m below meth c T X => ?_)
  rw [ef_own_kind m k]
  refine s_aloadN X (pc' := 1) d43_0 rfl rfl rfl ?_
  refine s_getf X (pc' := 4) d43_1 (hw _ (List.mem_of_getElem? (i := 255) rfl)) Via.refl F_k_kind rfl (fun T X => ?_)
  exact s_aret X hEL (ws' := []) (t := (.object "com/example/vestwright/vestwright/run/RunRefusedException$Kind")) d43_4 rfl rfl rfl rfl (by decide) (by decide) (fun x q => by simp at q) ⟨rfl, rfl, rfl⟩
theorem d39_0 : decode prog_47_method_1_code 0 = .ok (.aload_n 0, 1) := by decide +kernel
theorem d39_1 : decode prog_47_method_1_code 1 = .ok (.aload_n 2, 1) := by decide +kernel
theorem d39_2 : decode prog_47_method_1_code 2 = .ok (.aload_n 3, 1) := by decide +kernel
theorem d39_3 : decode prog_47_method_1_code 3 = .ok (.invokespecial 1, 3) := by decide +kernel
theorem d39_6 : decode prog_47_method_1_code 6 = .ok (.aload_n 0, 1) := by decide +kernel
theorem d39_7 : decode prog_47_method_1_code 7 = .ok (.aload_n 1, 1) := by decide +kernel
theorem d39_8 : decode prog_47_method_1_code 8 = .ok (.putfield 7, 3) := by decide +kernel
theorem d39_11 : decode prog_47_method_1_code 11 = .ok (.return_, 1) := by decide +kernel
theorem ef_own_ri (m : MethodId) (k kd mg : Addr) : entryFrame m #[(.ref k), (.ref kd), (.ref mg), .null] 4 = mkF m 0 #[.val (.ref k), .val (.ref kd), .val (.ref mg), .val .null] [] := by first | (simp [entryFrame, mkF, argsToLocals, Value.category]; done) | rfl
set_option maxRecDepth 65536 in
set_option maxHeartbeats 40000000 in
theorem own_ri (l : Launch) (Z : State) (a0 : Array Value) (hw : ∀ d ∈ tables_1, d.before a0 Z = true) (hEL : EW Z a0 consts_1) (k kd mg : Addr) (h : Heap) {us ss : Addr} (g_k : Z.heap.size ≤ k) (E_k : Exa Z h k "com/example/vestwright/vestwright/run/RunRefusedException") (U_k : Unt h k) (F_k_cause : Fld Z h k "java/lang/Throwable" "cause" "Ljava/lang/Throwable;" .null) (F_k_stackTrace : Fld Z h k "java/lang/Throwable" "stackTrace" "[Ljava/lang/StackTraceElement;" .null) (F_k_suppressedExceptions : Fld Z h k "java/lang/Throwable" "suppressedExceptions" "Ljava/util/List;" .null) (F_k_backtrace : Fld Z h k "java/lang/Throwable" "backtrace" "Ljava/lang/Object;" .null) (F_k_detailMessage : Fld Z h k "java/lang/Throwable" "detailMessage" "Ljava/lang/String;" .null) (F_k_kind : Fld Z h k "com/example/vestwright/vestwright/run/RunRefusedException" "kind" "Lcom/example/vestwright/vestwright/run/RunRefusedException$Kind;" .null) (Us : Sta Z Z.heap "java/lang/Throwable" "UNASSIGNED_STACK" "[Ljava/lang/StackTraceElement;" (.ref us)) (Ss : Sta Z Z.heap "java/lang/Throwable" "SUPPRESSED_SENTINEL" "Ljava/util/List;" (.ref ss)) (hlt : l.stackTraces = true) :
    Con l Z consts_1 True (⟨"com/example/vestwright/vestwright/run/RunRefusedException", "<init>", "(Lcom/example/vestwright/vestwright/run/RunRefusedException$Kind;Ljava/lang/String;Ljava/lang/Exception;)V"⟩ : MethodName) prog_47_method_1_code 4 none ({ frames := 5, cells := 1, slots := 2752, locals := 70 } : Room) [k] #[(.ref k), (.ref kd), (.ref mg), .null] h (fun v h' ws' => v = none ∧ Keep h h' [k] ∧ Exa Z h' k "com/example/vestwright/vestwright/run/RunRefusedException" ∧ Fld Z h' k "com/example/vestwright/vestwright/run/RunRefusedException" "kind" "Lcom/example/vestwright/vestwright/run/RunRefusedException$Kind;" (.ref kd) ∧ Fld Z h' k "java/lang/Throwable" "detailMessage" "Ljava/lang/String;" (.ref mg) ∧ ws' = []) := by
  refine Con.intro own_pn28 (fun p e s m below meth c T X => ?_)
  rw [ef_own_ri m k kd mg]
  have K_ : Keep h h [k] := Keep.refl _ _
  refine s_aloadN X (pc' := 1) d39_0 rfl rfl rfl ?_
  refine s_aloadN X (pc' := 2) d39_1 rfl rfl rfl ?_
  refine s_aloadN X (pc' := 3) d39_2 rfl rfl rfl ?_
  refine s_special X (pc' := 6) (W := 0) (as' := [(.ref mg), .null]) (S := []) (k' := 1) (n' := 2752) d39_3 rfl (hw _ (List.mem_of_getElem? (i := 207) rfl)) (hw _ (List.mem_of_getElem? (i := 208) rfl)) (hw _ (List.mem_of_getElem? (i := 211) rfl)) (by decide) own_pd17 rfl ((own_ex2_rr l Z a0 hw hEL k mg _ g_k E_k U_k F_k_cause F_k_stackTrace F_k_suppressedExceptions F_k_backtrace F_k_detailMessage Us Ss hlt).payS (by simp) (hw _ (List.mem_of_getElem? (i := 211) rfl)) (hw _ (List.mem_of_getElem? (i := 210) rfl)) hEL (by decide) (by decide)) (Nat.le_of_ble_eq_true rfl) rfl rfl (by decide) (by decide) (by decide) (by decide) rfl (fun T h77 v_ ws_ X hgr_ q78 => ?_)
  obtain ⟨rfl, Kp_, E'_, Ut_, Fm_, Fc_, rfl⟩ := q78
  show Go p e below _ T (mkF m 6 #[.val (.ref k), .val (.ref kd), .val (.ref mg), .val .null] [])
  replace X := X.sub (ws' := [k]) (by simp)
  have K_x := keep_of_kp Kp_
  replace F_k_kind := Fld.kp Kp_ F_k_kind (Or.inr (fun nd hnd => by
    simp only [Jvm.Free.Exc.sixNames, List.mem_cons, List.not_mem_nil, or_false] at hnd
    rcases hnd with rfl | rfl | rfl | rfl | rfl | rfl
    · exact slot_ne (Or.inl (hw _ (List.mem_of_getElem? (i := 220) rfl))) (Or.inr (hw _ (List.mem_of_getElem? (i := 256) rfl))) (t := (.object "java/lang/Throwable")) (t' := (.object "com/example/vestwright/vestwright/run/RunRefusedException$Kind")) (by decide) (by decide) (by decide)
    · exact slot_ne (Or.inl (hw _ (List.mem_of_getElem? (i := 223) rfl))) (Or.inr (hw _ (List.mem_of_getElem? (i := 256) rfl))) (t := (.array (.object "java/lang/StackTraceElement"))) (t' := (.object "com/example/vestwright/vestwright/run/RunRefusedException$Kind")) (by decide) (by decide) (by decide)
    · exact slot_ne (Or.inl (hw _ (List.mem_of_getElem? (i := 226) rfl))) (Or.inr (hw _ (List.mem_of_getElem? (i := 256) rfl))) (t := (.object "java/util/List")) (t' := (.object "com/example/vestwright/vestwright/run/RunRefusedException$Kind")) (by decide) (by decide) (by decide)
    · exact slot_ne (Or.inl (hw _ (List.mem_of_getElem? (i := 251) rfl))) (Or.inr (hw _ (List.mem_of_getElem? (i := 256) rfl))) (t := (.object "java/lang/Object")) (t' := (.object "com/example/vestwright/vestwright/run/RunRefusedException$Kind")) (by decide) (by decide) (by decide)
    · exact slot_ne (Or.inl (hw _ (List.mem_of_getElem? (i := 252) rfl))) (Or.inr (hw _ (List.mem_of_getElem? (i := 256) rfl))) (t := .int) (t' := (.object "com/example/vestwright/vestwright/run/RunRefusedException$Kind")) (by decide) (by decide) (by decide)
    · exact slot_ne (Or.inl (hw _ (List.mem_of_getElem? (i := 250) rfl))) (Or.inr (hw _ (List.mem_of_getElem? (i := 256) rfl))) (t := (.object "java/lang/String")) (t' := (.object "com/example/vestwright/vestwright/run/RunRefusedException$Kind")) (by decide) (by decide) (by decide)))
  replace K_ := K_.trans K_x (allS (Or.inl (by simp)) all0)
  have E_k := E'_
  have N_k := Ut_
  have F_k_detailMessage := Fm_
  have F_k_cause := Fc_
  refine s_aloadN X (pc' := 7) d39_6 rfl rfl rfl ?_
  refine s_aloadN X (pc' := 8) d39_7 rfl rfl rfl ?_
  refine s_putf X (pc' := 11) d39_8 (hw _ (List.mem_of_getElem? (i := 255) rfl)) Via.refl F_k_kind E_k (Or.inr ⟨(hw _ (List.mem_of_getElem? (i := 256) rfl)), rfl, rfl⟩) (hw _ (List.mem_of_getElem? (i := 166) rfl)) (ty := (.object "com/example/vestwright/vestwright/run/RunRefusedException$Kind")) (by decide) rfl rfl g_k (by simp) rfl (fun T h79 X W80 => ?_)
  replace F_k_kind := F_k_kind.same W80
  replace F_k_detailMessage := F_k_detailMessage.other W80 (Or.inr (slot_ne (Or.inl (hw _ (List.mem_of_getElem? (i := 250) rfl))) (Or.inr (hw _ (List.mem_of_getElem? (i := 256) rfl))) (t := (.object "java/lang/String")) (t' := (.object "com/example/vestwright/vestwright/run/RunRefusedException$Kind")) (by decide) (by decide) (by decide)))
  replace F_k_cause := F_k_cause.other W80 (Or.inr (slot_ne (Or.inl (hw _ (List.mem_of_getElem? (i := 220) rfl))) (Or.inr (hw _ (List.mem_of_getElem? (i := 256) rfl))) (t := (.object "java/lang/Throwable")) (t' := (.object "com/example/vestwright/vestwright/run/RunRefusedException$Kind")) (by decide) (by decide) (by decide)))
  replace E_k := E_k.wr W80
  replace N_k := Unt.wr W80 N_k
  replace K_ := K_.wr W80 (Or.inl (by simp))
  exact s_ret X hEL (ws' := []) d39_11 (by decide) (by decide) (fun x q => by simp at q) ⟨rfl, K_, E_k, F_k_kind, F_k_detailMessage, rfl⟩
theorem d44_0 : decode prog_47_method_8_code 0 = .ok (.aload_n 0, 1) := by decide +kernel
theorem d44_1 : decode prog_47_method_8_code 1 = .ok (.getfield 7, 3) := by decide +kernel
theorem d44_4 : decode prog_47_method_8_code 4 = .ok (.getstatic 13, 3) := by decide +kernel
theorem d44_7 : decode prog_47_method_8_code 7 = .ok (.if_acmp .ne 13, 3) := by decide +kernel
theorem d44_20 : decode prog_47_method_8_code 20 = .ok (.aload_n 0, 1) := by decide +kernel
theorem d44_21 : decode prog_47_method_8_code 21 = .ok (.invokevirtual 96, 3) := by decide +kernel
theorem d44_24 : decode prog_47_method_8_code 24 = .ok (.areturn, 1) := by decide +kernel
theorem ef_own_rr (m : MethodId) (k : Addr) : entryFrame m #[(.ref k)] 1 = mkF m 0 #[.val (.ref k)] [] := by first | (simp [entryFrame, mkF, argsToLocals, Value.category]; done) | rfl
set_option maxRecDepth 65536 in
set_option maxHeartbeats 40000000 in
theorem own_rr (l : Launch) (Z : State) (a0 : Array Value) (hw : ∀ d ∈ tables_1, d.before a0 Z = true) (hEL : EW Z a0 consts_1) (k : Addr) (h : Heap) {kd ki mg : Addr} (E_k : Exa Z h k "com/example/vestwright/vestwright/run/RunRefusedException") (F_k_kind : Fld Z h k "com/example/vestwright/vestwright/run/RunRefusedException" "kind" "Lcom/example/vestwright/vestwright/run/RunRefusedException$Kind;" (.ref kd)) (F_k_detailMessage : Fld Z h k "java/lang/Throwable" "detailMessage" "Ljava/lang/String;" (.ref mg)) (Ii : Sta Z Z.heap "com/example/vestwright/vestwright/run/RunRefusedException$Kind" "INPUT" "Lcom/example/vestwright/vestwright/run/RunRefusedException$Kind;" (.ref ki)) (hki : ¬ kd = ki) :
    Con l Z consts_1 True (⟨"com/example/vestwright/vestwright/run/RunRefusedException", "reason", "()Ljava/lang/String;"⟩ : MethodName) prog_47_method_8_code 1 (some (.object "java/lang/String")) ({ frames := 1, cells := 0, slots := 0, locals := 12 } : Room) [] #[(.ref k)] h (fun v h' ws' => v = some (.ref mg) ∧ h' = h ∧ ws' = []) := by
  refine Con.intro own_pn29 (fun p e s m below meth c T X => ?_)
  rw [ef_own_rr m k]
  refine s_aloadN X (pc' := 1) d44_0 rfl rfl rfl ?_
  refine s_getf X (pc' := 4) d44_1 (hw _ (List.mem_of_getElem? (i := 255) rfl)) Via.refl F_k_kind rfl (fun T X => ?_)
  refine s_gets X (pc' := 7) d44_4 (hw _ (List.mem_of_getElem? (i := 268) rfl)) Via.refl Ii rfl (fun T X => ?_)
  refine s_acmpT X (pc' := 20) d44_7 rfl rfl (by simp [XT.acmp, hki]) (by decide) (by decide) ?_
  refine s_aloadN X (pc' := 21) d44_20 rfl rfl rfl ?_
  refine s_up X (pc' := 24) (W := 0) (as' := []) (S := []) (k' := 0) (n' := 0) d44_21 (hw _ (List.mem_of_getElem? (i := 270) rfl)) (hw _ (List.mem_of_getElem? (i := 271) rfl)) (hw _ (List.mem_of_getElem? (i := 272) rfl)) (hw _ (List.mem_of_getElem? (i := 274) rfl)) (hw _ (List.mem_of_getElem? (i := 273) rfl)) (by decide) own_pd18 rfl E_k ((own_gm l Z a0 hw hEL k _ F_k_detailMessage).payS (by simp) (hw _ (List.mem_of_getElem? (i := 275) rfl)) (hw _ (List.mem_of_getElem? (i := 216) rfl)) hEL (by decide) (by decide)) (Nat.le_of_ble_eq_true rfl) rfl rfl (by decide) (by decide) (by decide) (by decide) rfl (fun T h81 v_ ws_ X hgr_ q82 => ?_)
  obtain ⟨rfl, e_, rfl⟩ := q82
  rw [e_] at X
  show Go p e below _ T (mkF m 24 #[.val (.ref k)] [(.ref mg)])
  replace X := X.sub (ws' := []) (by simp)
  exact s_aret X hEL (ws' := []) (t := (.object "java/lang/String")) d44_24 rfl rfl rfl rfl (by decide) (by decide) (fun x q => by simp at q) ⟨rfl, rfl, rfl⟩
theorem d37_0 : decode jdk_41_method_12_code 0 = .ok (.iload_n 0, 1) := by decide +kernel
theorem d37_1 : decode jdk_41_method_12_code 1 = .ok (.ifCond .lt 13, 3) := by decide +kernel
theorem d37_4 : decode jdk_41_method_12_code 4 = .ok (.iload_n 0, 1) := by decide +kernel
theorem d37_5 : decode jdk_41_method_12_code 5 = .ok (.iload_n 1, 1) := by decide +kernel
theorem d37_6 : decode jdk_41_method_12_code 6 = .ok (.if_icmp .gt 8, 3) := by decide +kernel
theorem d37_9 : decode jdk_41_method_12_code 9 = .ok (.iload_n 1, 1) := by decide +kernel
theorem d37_10 : decode jdk_41_method_12_code 10 = .ok (.iload_n 2, 1) := by decide +kernel
theorem d37_11 : decode jdk_41_method_12_code 11 = .ok (.if_icmp .le 11, 3) := by decide +kernel
theorem d37_22 : decode jdk_41_method_12_code 22 = .ok (.iload_n 0, 1) := by decide +kernel
theorem d37_23 : decode jdk_41_method_12_code 23 = .ok (.ireturn, 1) := by decide +kernel
theorem ef_own_pcf (m : MethodId)  : entryFrame m #[(.int (0 : Int32)), (.int (2 : Int32)), (.int (2 : Int32)), .null] 4 = mkF m 0 #[.val (.int (0 : Int32)), .val (.int (2 : Int32)), .val (.int (2 : Int32)), .val .null] [] := by first | (simp [entryFrame, mkF, argsToLocals, Value.category]; done) | rfl
set_option maxRecDepth 65536 in
set_option maxHeartbeats 40000000 in
theorem own_pcf (l : Launch) (Z : State) (a0 : Array Value) (hw : ∀ d ∈ tables_1, d.before a0 Z = true) (hEL : EW Z a0 consts_1)  (h : Heap)  :
    Con l Z consts_1 True (⟨"jdk/internal/util/Preconditions", "checkFromToIndex", "(IIILjava/util/function/BiFunction;)I"⟩ : MethodName) jdk_41_method_12_code 4 (some .int) ({ frames := 0, cells := 0, slots := 0, locals := 0 } : Room) [] #[(.int (0 : Int32)), (.int (2 : Int32)), (.int (2 : Int32)), .null] h (fun v h' ws' => v = some (.int (0)) ∧ h' = h ∧ ws' = []) := by
  refine Con.intro own_pn30 (fun p e s m below meth c T X => ?_)
  rw [ef_own_pcf m ]
  refine s_iloadN X (pc' := 1) d37_0 rfl rfl ?_
  refine s_ifF X (pc' := 4) d37_1 (show ¬ (0 : Int32) < (0 : Int32) by decide) rfl ?_
  refine s_iloadN X (pc' := 5) d37_4 rfl rfl ?_
  refine s_iloadN X (pc' := 6) d37_5 rfl rfl ?_
  refine s_icmpF X (pc' := 9) d37_6 (show ¬ (2 : Int32) < (0 : Int32) by decide) rfl ?_
  refine s_iloadN X (pc' := 10) d37_9 rfl rfl ?_
  refine s_iloadN X (pc' := 11) d37_10 rfl rfl ?_
  refine s_icmpT X (pc' := 22) d37_11 (show ¬ (2 : Int32) < (2 : Int32) by decide) (by decide) (by decide) ?_
  refine s_iloadN X (pc' := 23) d37_22 rfl rfl ?_
  exact s_iret X hEL (ws' := []) d37_23 (by decide) (by decide) (fun x q => by simp at q) ⟨rfl, rfl, rfl⟩
theorem d36_0 : decode jdk_31_method_18_code 0 = .ok (.iload_n 0, 1) := by decide +kernel
theorem d36_1 : decode jdk_31_method_18_code 1 = .ok (.iload_n 1, 1) := by decide +kernel
theorem d36_2 : decode jdk_31_method_18_code 2 = .ok (.iload_n 2, 1) := by decide +kernel
theorem d36_3 : decode jdk_31_method_18_code 3 = .ok (.aconst_null, 1) := by decide +kernel
theorem d36_4 : decode jdk_31_method_18_code 4 = .ok (.invokestatic 111, 3) := by decide +kernel
theorem d36_7 : decode jdk_31_method_18_code 7 = .ok (.ireturn, 1) := by decide +kernel
theorem ef_own_cft (m : MethodId)  : entryFrame m #[(.int (0 : Int32)), (.int (2 : Int32)), (.int (2 : Int32))] 3 = mkF m 0 #[.val (.int (0 : Int32)), .val (.int (2 : Int32)), .val (.int (2 : Int32))] [] := by first | (simp [entryFrame, mkF, argsToLocals, Value.category]; done) | rfl
set_option maxRecDepth 65536 in
set_option maxHeartbeats 40000000 in
theorem own_cft (l : Launch) (Z : State) (a0 : Array Value) (hw : ∀ d ∈ tables_1, d.before a0 Z = true) (hEL : EW Z a0 consts_1)  (h : Heap)  :
    Con l Z consts_1 True (⟨"java/util/Objects", "checkFromToIndex", "(III)I"⟩ : MethodName) jdk_31_method_18_code 3 (some .int) ({ frames := 1, cells := 0, slots := 0, locals := 15 } : Room) [] #[(.int (0 : Int32)), (.int (2 : Int32)), (.int (2 : Int32))] h (fun v h' ws' => v = some (.int (0)) ∧ h' = h ∧ ws' = []) := by
  refine Con.intro own_pn31 (fun p e s m below meth c T X => ?_)
  rw [ef_own_cft m ]
  refine s_iloadN X (pc' := 1) d36_0 rfl rfl ?_
  refine s_iloadN X (pc' := 2) d36_1 rfl rfl ?_
  refine s_iloadN X (pc' := 3) d36_2 rfl rfl ?_
  refine s_aconst X (pc' := 4) d36_3 rfl ?_
  refine s_static X (pc' := 7) (W := 0) (as' := [(.int (0 : Int32)), (.int (2 : Int32)), (.int (2 : Int32)), .null]) (S := []) (k' := 0) (n' := 0) d36_4 (hw _ (List.mem_of_getElem? (i := 190) rfl)) (hw _ (List.mem_of_getElem? (i := 191) rfl)) (hw _ (List.mem_of_getElem? (i := 192) rfl)) (hw _ (List.mem_of_getElem? (i := 193) rfl)) (by decide) own_pd19 rfl ((own_pcf l Z a0 hw hEL _).payS (by simp) (hw _ (List.mem_of_getElem? (i := 193) rfl)) (hw _ (List.mem_of_getElem? (i := 192) rfl)) hEL (by decide) (by decide)) (Nat.le_of_ble_eq_true rfl) rfl rfl (by decide) (by decide) (by decide) (by decide) rfl (fun T h83 v_ ws_ X hgr_ q84 => ?_)
  obtain ⟨rfl, e_, rfl⟩ := q84
  rw [e_] at X
  show Go p e below _ T (mkF m 7 #[.val (.int (0 : Int32)), .val (.int (2 : Int32)), .val (.int (2 : Int32))] [(.int (0 : Int32))])
  replace X := X.sub (ws' := []) (by simp)
  exact s_iret X hEL (ws' := []) d36_7 (by decide) (by decide) (fun x q => by simp at q) ⟨rfl, rfl, rfl⟩
theorem d38_0 : decode jdk_42_method_154_code 0 = .ok (.getstatic 38, 3) := by decide +kernel
theorem d38_3 : decode jdk_42_method_154_code 3 = .ok (.ifCond .eq 14, 3) := by decide +kernel
theorem d38_6 : decode jdk_42_method_154_code 6 = .ok (.aload_n 0, 1) := by decide +kernel
theorem d38_7 : decode jdk_42_method_154_code 7 = .ok (.getfield 15, 3) := by decide +kernel
theorem d38_10 : decode jdk_42_method_154_code 10 = .ok (.ifCond .ne 7, 3) := by decide +kernel
theorem d38_13 : decode jdk_42_method_154_code 13 = .ok (.iconst 1, 1) := by decide +kernel
theorem d38_14 : decode jdk_42_method_154_code 14 = .ok (.goto 4, 3) := by decide +kernel
theorem d38_17 : decode jdk_42_method_154_code 17 = .ok (.iconst 0, 1) := by decide +kernel
theorem d38_18 : decode jdk_42_method_154_code 18 = .ok (.ireturn, 1) := by decide +kernel
theorem ef_own_isl (m : MethodId) (k : Addr) : entryFrame m #[(.ref k)] 1 = mkF m 0 #[.val (.ref k)] [] := by first | (simp [entryFrame, mkF, argsToLocals, Value.category]; done) | rfl
set_option maxRecDepth 65536 in
set_option maxHeartbeats 40000000 in
theorem own_isl (l : Launch) (Z : State) (a0 : Array Value) (hw : ∀ d ∈ tables_1, d.before a0 Z = true) (hEL : EW Z a0 consts_1) (k : Addr) (h : Heap) {G1 : Int32} (F_k_coder : Fld Z h k "java/lang/String" "coder" "B" (.int (0 : Int32))) (O2 : Sta Z Z.heap "java/lang/String" "COMPACT_STRINGS" "Z" (.int G1)) (P5 : ¬ (G1 = (0 : Int32))) :
    Con l Z consts_1 True (⟨"java/lang/String", "isLatin1", "()Z"⟩ : MethodName) jdk_42_method_154_code 1 (some .boolean) ({ frames := 0, cells := 0, slots := 0, locals := 0 } : Room) [] #[(.ref k)] h (fun v h' ws' => v = some (.int (1)) ∧ h' = h ∧ ws' = []) := by
  refine Con.intro own_pn32 (fun p e s m below meth c T X => ?_)
  rw [ef_own_isl m k]
  refine s_gets X (pc' := 3) d38_0 (hw _ (List.mem_of_getElem? (i := 14) rfl)) Via.refl O2 rfl (fun T X => ?_)
  refine s_ifF X (pc' := 6) d38_3 P5 rfl ?_
  refine s_aloadN X (pc' := 7) d38_6 rfl rfl rfl ?_
  refine s_getf X (pc' := 10) d38_7 (hw _ (List.mem_of_getElem? (i := 26) rfl)) Via.refl F_k_coder rfl (fun T X => ?_)
  refine s_ifF X (pc' := 13) d38_10 (show (0 : Int32) = (0 : Int32) by decide) rfl ?_
  refine s_iconst X (pc' := 14) d38_13 (v := (1 : Int32)) rfl rfl ?_
  refine s_goto X (pc' := 18) d38_14 (by decide) (by decide) ?_
  exact s_iretN X hEL (ws' := []) (t := .boolean) d38_18 rfl (by simp) (by decide) (by decide) (fun x q => by simp at q) ⟨rfl, rfl, rfl⟩
theorem d35_0 : decode jdk_42_method_59_code 0 = .ok (.iload_n 1, 1) := by decide +kernel
theorem d35_1 : decode jdk_42_method_59_code 1 = .ok (.iload_n 2, 1) := by decide +kernel
theorem d35_2 : decode jdk_42_method_59_code 2 = .ok (.aload_n 0, 1) := by decide +kernel
theorem d35_3 : decode jdk_42_method_59_code 3 = .ok (.invokevirtual 505, 3) := by decide +kernel
theorem d35_6 : decode jdk_42_method_59_code 6 = .ok (.invokestatic 511, 3) := by decide +kernel
theorem d35_9 : decode jdk_42_method_59_code 9 = .ok (.pop, 1) := by decide +kernel
theorem d35_10 : decode jdk_42_method_59_code 10 = .ok (.aload_n 0, 1) := by decide +kernel
theorem d35_11 : decode jdk_42_method_59_code 11 = .ok (.invokevirtual 492, 3) := by decide +kernel
theorem d35_14 : decode jdk_42_method_59_code 14 = .ok (.ifCond .eq 7, 3) := by decide +kernel
theorem d35_17 : decode jdk_42_method_59_code 17 = .ok (.iload_n 2, 1) := by decide +kernel
theorem d35_18 : decode jdk_42_method_59_code 18 = .ok (.iload_n 1, 1) := by decide +kernel
theorem d35_19 : decode jdk_42_method_59_code 19 = .ok (.isub, 1) := by decide +kernel
theorem d35_20 : decode jdk_42_method_59_code 20 = .ok (.ireturn, 1) := by decide +kernel
theorem ef_own_cpc (m : MethodId) (k : Addr) : entryFrame m #[(.ref k), (.int (0 : Int32)), (.int (2 : Int32))] 3 = mkF m 0 #[.val (.ref k), .val (.int (0 : Int32)), .val (.int (2 : Int32))] [] := by first | (simp [entryFrame, mkF, argsToLocals, Value.category]; done) | rfl
set_option maxRecDepth 65536 in
set_option maxHeartbeats 40000000 in
theorem own_cpc (l : Launch) (Z : State) (a0 : Array Value) (hw : ∀ d ∈ tables_1, d.before a0 Z = true) (hEL : EW Z a0 consts_1) (k : Addr) (h : Heap) {G1 : Int32} {qs : List Int32} (S_k : Str Z h k qs) (hqs : Lat qs) (hql : qs.length = 2) (O2 : Sta Z Z.heap "java/lang/String" "COMPACT_STRINGS" "Z" (.int G1)) (P5 : ¬ (G1 = (0 : Int32))) :
    Con l Z consts_1 True (⟨"java/lang/String", "codePointCount", "(II)I"⟩ : MethodName) jdk_42_method_59_code 3 (some .int) ({ frames := 2, cells := 0, slots := 0, locals := 30 } : Room) [] #[(.ref k), (.int (0 : Int32)), (.int (2 : Int32))] h (fun v h' ws' => v = some (.int (2)) ∧ h' = h ∧ ws' = []) := by
  refine Con.intro own_pn33 (fun p e s m below meth c T X => ?_)
  rw [ef_own_cpc m k]
  obtain ⟨tk, E_k, F_k_value, F_k_coder, A_tk⟩ := S_k.latin (fun c hc => (hqs c hc).2)
  refine s_iloadN X (pc' := 1) d35_0 rfl rfl ?_
  refine s_iloadN X (pc' := 2) d35_1 rfl rfl ?_
  refine s_aloadN X (pc' := 3) d35_2 rfl rfl rfl ?_
  refine s_virtual X (pc' := 6) (W := 2) (as' := []) (S := [(.int (2 : Int32)), (.int (0 : Int32))]) (k' := 0) (n' := 0) d35_3 (hw _ (List.mem_of_getElem? (i := 185) rfl)) (hw _ (List.mem_of_getElem? (i := 66) rfl)) (hw _ (List.mem_of_getElem? (i := 68) rfl)) (hw _ (List.mem_of_getElem? (i := 67) rfl)) (nface (hw _ (List.mem_of_getElem? (i := 68) rfl))) (by decide) own_pd7 rfl E_k (lenPay hw hEL O2 P5 X.old S_k (by decide) (by decide)) (Nat.le_of_ble_eq_true rfl) rfl rfl (by decide) (by decide) (by decide) (by decide) rfl (fun T h85 v_ ws_ X hgr_ q86 => ?_)
  obtain ⟨rfl, e_, rfl⟩ := q86
  rw [e_] at X
  show Go p e below _ T (mkF m 6 #[.val (.ref k), .val (.int (0 : Int32)), .val (.int (2 : Int32))] [(.int (Int32.ofNat qs.length)), (.int (2 : Int32)), (.int (0 : Int32))])
  replace X := X.sub (ws' := []) (by simp)
  refine go_int (z := (2 : Int32)) (by rw [hql]; rfl) ?_
  refine s_static X (pc' := 9) (W := 0) (as' := [(.int (0 : Int32)), (.int (2 : Int32)), (.int (2 : Int32))]) (S := []) (k' := 0) (n' := 0) d35_6 (hw _ (List.mem_of_getElem? (i := 186) rfl)) (hw _ (List.mem_of_getElem? (i := 187) rfl)) (hw _ (List.mem_of_getElem? (i := 188) rfl)) (hw _ (List.mem_of_getElem? (i := 189) rfl)) (by decide) own_pd4 rfl ((own_cft l Z a0 hw hEL _).payS (by simp) (hw _ (List.mem_of_getElem? (i := 189) rfl)) (hw _ (List.mem_of_getElem? (i := 188) rfl)) hEL (by decide) (by decide)) (Nat.le_of_ble_eq_true rfl) rfl rfl (by decide) (by decide) (by decide) (by decide) rfl (fun T h87 v_ ws_ X hgr_ q88 => ?_)
  obtain ⟨rfl, e_, rfl⟩ := q88
  rw [e_] at X
  show Go p e below _ T (mkF m 9 #[.val (.ref k), .val (.int (0 : Int32)), .val (.int (2 : Int32))] [(.int (0 : Int32))])
  replace X := X.sub (ws' := []) (by simp)
  refine s_pop X (pc' := 10) d35_9 rfl rfl ?_
  refine s_aloadN X (pc' := 11) d35_10 rfl rfl rfl ?_
  refine s_virtual X (pc' := 14) (W := 0) (as' := []) (S := []) (k' := 0) (n' := 0) d35_11 (hw _ (List.mem_of_getElem? (i := 194) rfl)) (hw _ (List.mem_of_getElem? (i := 195) rfl)) (hw _ (List.mem_of_getElem? (i := 197) rfl)) (hw _ (List.mem_of_getElem? (i := 196) rfl)) (nface (hw _ (List.mem_of_getElem? (i := 197) rfl))) (by decide) own_pd14 rfl E_k ((own_isl l Z a0 hw hEL k _ F_k_coder O2 P5).payS (by simp) (hw _ (List.mem_of_getElem? (i := 198) rfl)) (hw _ (List.mem_of_getElem? (i := 3) rfl)) hEL (by decide) (by decide)) (Nat.le_of_ble_eq_true rfl) rfl rfl (by decide) (by decide) (by decide) (by decide) rfl (fun T h89 v_ ws_ X hgr_ q90 => ?_)
  obtain ⟨rfl, e_, rfl⟩ := q90
  rw [e_] at X
  show Go p e below _ T (mkF m 14 #[.val (.ref k), .val (.int (0 : Int32)), .val (.int (2 : Int32))] [(.int (1 : Int32))])
  replace X := X.sub (ws' := []) (by simp)
  refine s_ifF X (pc' := 17) d35_14 (show ¬ (1 : Int32) = (0 : Int32) by decide) rfl ?_
  refine s_iloadN X (pc' := 18) d35_17 rfl rfl ?_
  refine s_iloadN X (pc' := 19) d35_18 rfl rfl ?_
  refine s_isub X (pc' := 20) d35_19 rfl ?_
  refine go_int (z := (2 : Int32)) (by decide) ?_
  exact s_iret X hEL (ws' := []) d35_20 (by decide) (by decide) (fun x q => by simp at q) ⟨rfl, rfl, rfl⟩
theorem d34_0 : decode prog_6_method_5_code 0 = .ok (.aload_n 0, 1) := by decide +kernel
theorem d34_1 : decode prog_6_method_5_code 1 = .ok (.iconst 0, 1) := by decide +kernel
theorem d34_2 : decode prog_6_method_5_code 2 = .ok (.aload_n 0, 1) := by decide +kernel
theorem d34_3 : decode prog_6_method_5_code 3 = .ok (.invokevirtual 77, 3) := by decide +kernel
theorem d34_6 : decode prog_6_method_5_code 6 = .ok (.invokevirtual 80, 3) := by decide +kernel
theorem d34_9 : decode prog_6_method_5_code 9 = .ok (.istore_n 2, 1) := by decide +kernel
theorem d34_10 : decode prog_6_method_5_code 10 = .ok (.iload_n 2, 1) := by decide +kernel
theorem d34_11 : decode prog_6_method_5_code 11 = .ok (.bipush 40, 2) := by decide +kernel
theorem d34_13 : decode prog_6_method_5_code 13 = .ok (.if_icmp .gt 29, 3) := by decide +kernel
theorem d34_16 : decode prog_6_method_5_code 16 = .ok (.new 53, 3) := by decide +kernel
theorem d34_19 : decode prog_6_method_5_code 19 = .ok (.dup, 1) := by decide +kernel
theorem d34_20 : decode prog_6_method_5_code 20 = .ok (.invokespecial 55, 3) := by decide +kernel
theorem d34_23 : decode prog_6_method_5_code 23 = .ok (.aload_n 1, 1) := by decide +kernel
theorem d34_24 : decode prog_6_method_5_code 24 = .ok (.invokevirtual 58, 3) := by decide +kernel
theorem d34_27 : decode prog_6_method_5_code 27 = .ok (.aload_n 0, 1) := by decide +kernel
theorem d34_28 : decode prog_6_method_5_code 28 = .ok (.invokevirtual 58, 3) := by decide +kernel
theorem d34_31 : decode prog_6_method_5_code 31 = .ok (.aload_n 1, 1) := by decide +kernel
theorem d34_32 : decode prog_6_method_5_code 32 = .ok (.invokevirtual 58, 3) := by decide +kernel
theorem d34_35 : decode prog_6_method_5_code 35 = .ok (.invokevirtual 67, 3) := by decide +kernel
theorem d34_38 : decode prog_6_method_5_code 38 = .ok (.astore_n 3, 1) := by decide +kernel
theorem d34_39 : decode prog_6_method_5_code 39 = .ok (.goto 56, 3) := by decide +kernel
theorem d34_95 : decode prog_6_method_5_code 95 = .ok (.aload_n 3, 1) := by decide +kernel
theorem d34_96 : decode prog_6_method_5_code 96 = .ok (.areturn, 1) := by decide +kernel
theorem ef_own_bd (m : MethodId) (q0 m0 : Addr) : entryFrame m #[(.ref q0), (.ref m0)] 4 = mkF m 0 #[.val (.ref q0), .val (.ref m0), .unset, .unset] [] := by first | (simp [entryFrame, mkF, argsToLocals, Value.category]; done) | rfl
set_option maxRecDepth 65536 in
set_option maxHeartbeats 40000000 in
theorem own_bd (l : Launch) (Z : State) (a0 : Array Value) (hw : ∀ d ∈ tables_1, d.before a0 Z = true) (hEL : EW Z a0 consts_1) (q0 m0 : Addr) (h : Heap) {G1 : Int32} {qs : List Int32} (S_q0 : Str Z h q0 qs) (hqs : Lat qs) (hql : qs.length = 2) (S_m0 : Str Z h m0 []) (O2 : Sta Z Z.heap "java/lang/String" "COMPACT_STRINGS" "Z" (.int G1)) (P5 : ¬ (G1 = (0 : Int32))) :
    Con l Z consts_1 True (⟨"com/example/vestwright/vestwright/Quote", "bounded", "(Ljava/lang/String;Ljava/lang/String;)Ljava/lang/String;"⟩ : MethodName) prog_6_method_5_code 4 (some (.object "java/lang/String")) ({ frames := 6, cells := 8, slots := 760, locals := 100 } : Room) [] #[(.ref q0), (.ref m0)] h (fun v h' ws' => ∃ x, v = some (.ref x) ∧ Ext h h' ∧ Str Z h' x qs ∧ ws' = []) := by
  refine Con.intro own_pn34 (fun p e s m below meth c T X => ?_)
  rw [ef_own_bd m q0 m0]
  have R_ : Ext h h := ext_refl _
  have he : Lat ([] : List Int32) := fun c hc => nomatch hc
  have Sq := S_q0
  obtain ⟨tq, E_q0, F_q0_value, F_q0_coder, A_tq⟩ := S_q0.latin (fun c hc => (hqs c hc).2)
  obtain ⟨tm, E_m0, F_m0_value, F_m0_coder, A_tm⟩ := S_m0.latin (fun c hc => (he c hc).2)
  refine s_aloadN X (pc' := 1) d34_0 rfl rfl rfl ?_
  refine s_iconst X (pc' := 2) d34_1 (v := (0 : Int32)) rfl rfl ?_
  refine s_aloadN X (pc' := 3) d34_2 rfl rfl rfl ?_
  refine s_virtual X (pc' := 6) (W := 2) (as' := []) (S := [(.int (0 : Int32)), (.ref q0)]) (k' := 0) (n' := 0) d34_3 (hw _ (List.mem_of_getElem? (i := 179) rfl)) (hw _ (List.mem_of_getElem? (i := 66) rfl)) (hw _ (List.mem_of_getElem? (i := 68) rfl)) (hw _ (List.mem_of_getElem? (i := 67) rfl)) (nface (hw _ (List.mem_of_getElem? (i := 68) rfl))) (by decide) own_pd7 rfl E_q0 (lenPay hw hEL O2 P5 X.old S_q0 (by decide) (by decide)) (Nat.le_of_ble_eq_true rfl) rfl rfl (by decide) (by decide) (by decide) (by decide) rfl (fun T h91 v_ ws_ X hgr_ q92 => ?_)
  obtain ⟨rfl, e_, rfl⟩ := q92
  rw [e_] at X
  show Go p e below _ T (mkF m 6 #[.val (.ref q0), .val (.ref m0), .unset, .unset] [(.int (Int32.ofNat qs.length)), (.int (0 : Int32)), (.ref q0)])
  replace X := X.sub (ws' := []) (by simp)
  refine go_int (z := (2 : Int32)) (by rw [hql]; rfl) ?_
  refine s_virtual X (pc' := 9) (W := 0) (as' := [(.int (0 : Int32)), (.int (2 : Int32))]) (S := []) (k' := 0) (n' := 0) d34_6 (hw _ (List.mem_of_getElem? (i := 180) rfl)) (hw _ (List.mem_of_getElem? (i := 181) rfl)) (hw _ (List.mem_of_getElem? (i := 183) rfl)) (hw _ (List.mem_of_getElem? (i := 182) rfl)) (nface (hw _ (List.mem_of_getElem? (i := 183) rfl))) (by decide) own_pd3 rfl E_q0 ((own_cpc l Z a0 hw hEL q0 _ Sq hqs hql O2 P5).payS (by simp) (hw _ (List.mem_of_getElem? (i := 184) rfl)) (hw _ (List.mem_of_getElem? (i := 3) rfl)) hEL (by decide) (by decide)) (Nat.le_of_ble_eq_true rfl) rfl rfl (by decide) (by decide) (by decide) (by decide) rfl (fun T h93 v_ ws_ X hgr_ q94 => ?_)
  obtain ⟨rfl, e_, rfl⟩ := q94
  rw [e_] at X
  show Go p e below _ T (mkF m 9 #[.val (.ref q0), .val (.ref m0), .unset, .unset] [(.int (2 : Int32))])
  replace X := X.sub (ws' := []) (by simp)
  refine s_istoreN X (pc' := 10) (L' := #[.val (.ref q0), .val (.ref m0), .val (.int (2 : Int32)), .unset]) d34_9 rfl rfl ?_
  refine s_iloadN X (pc' := 11) d34_10 rfl rfl ?_
  refine s_bipush X (pc' := 13) d34_11 (v := (40 : Int32)) (by decide) rfl ?_
  refine s_icmpF X (pc' := 16) d34_13 (show ¬ (40 : Int32) < (2 : Int32) by decide) rfl ?_
  refine s_new X (pc' := 19) (k' := 1) (n' := 4) d34_16 (hw _ (List.mem_of_getElem? (i := 199) rfl)) (hw _ (List.mem_of_getElem? (i := 35) rfl)) (hw _ (List.mem_of_getElem? (i := 36) rfl)) (by decide) (by decide) (by decide) (by decide) rfl (fun T h96 b95 gb_b95 X' E97 E_b95 D_b95 U_b95 => ?_)
  have g_b95 : Z.heap.size ≤ b95 := by rw [gb_b95]; exact X.lt
  have ne_q0_b95 : q0 ≠ b95 := Nat.ne_of_lt (by rw [gb_b95]; exact E_q0.lt)
  have ne_m0_b95 : m0 ≠ b95 := Nat.ne_of_lt (by rw [gb_b95]; exact E_m0.lt)
  have ne_tq_b95 : tq ≠ b95 := Nat.ne_of_lt (by rw [gb_b95]; exact A_tq.lt)
  have ne_tm_b95 : tm ≠ b95 := Nat.ne_of_lt (by rw [gb_b95]; exact A_tm.lt)
  have sz_R__b95 : h.size ≤ b95 := by rw [gb_b95]; exact R_.1
  replace E_q0 := E_q0.ext E97
  replace E_m0 := E_m0.ext E97
  replace F_q0_value := F_q0_value.ext E97
  replace F_q0_coder := F_q0_coder.ext E97
  replace F_m0_value := F_m0_value.ext E97
  replace F_m0_coder := F_m0_coder.ext E97
  replace A_tq := A_tq.ext E97
  replace A_tm := A_tm.ext E97
  replace R_ := ext_trans R_ E97
  replace X := X'
  have F_b95_value : Fld Z h96 b95 "java/lang/AbstractStringBuilder" "value" "[B" .null := D_b95 (Or.inl (hw _ (List.mem_of_getElem? (i := 49) rfl))) (ty := (.array .byte)) (by decide)
  have F_b95_coder : Fld Z h96 b95 "java/lang/AbstractStringBuilder" "coder" "B" (.int (0 : Int32)) := D_b95 (Or.inl (hw _ (List.mem_of_getElem? (i := 51) rfl))) (ty := .byte) (by decide)
  have F_b95_count : Fld Z h96 b95 "java/lang/AbstractStringBuilder" "count" "I" (.int (0 : Int32)) := D_b95 (Or.inl (hw _ (List.mem_of_getElem? (i := 76) rfl))) (ty := .int) (by decide)
  refine s_dup X (pc' := 20) d34_19 rfl rfl ?_
  refine s_special X (pc' := 23) (W := 1) (as' := []) (S := [(.ref b95)]) (k' := 2) (n' := 20) d34_20 rfl (hw _ (List.mem_of_getElem? (i := 200) rfl)) (hw _ (List.mem_of_getElem? (i := 38) rfl)) (hw _ (List.mem_of_getElem? (i := 39) rfl)) (by decide) own_pd20 rfl ((sb_ini l Z a0 hw hEL b95 _ g_b95 E_b95 F_b95_value F_b95_coder F_b95_count O2 P5).payS (by simp) (hw _ (List.mem_of_getElem? (i := 39) rfl)) (hw _ (List.mem_of_getElem? (i := 36) rfl)) hEL (by decide) (by decide)) (Nat.le_of_ble_eq_true rfl) rfl rfl (by decide) (by decide) (by decide) (by decide) rfl (fun T h98 v_ ws_ X hgr_ q99 => ?_)
  obtain ⟨rfl, K1_, ⟨ut0, uhz, uS0, rfl⟩⟩ := q99
  show Go p e below _ T (mkF m 23 #[.val (.ref q0), .val (.ref m0), .val (.int (2 : Int32)), .unset] [(.ref b95)])
  replace X := X.sub (ws' := [ut0, b95]) (by simp)
  have ne_q0_ut0 : q0 ≠ ut0 := Nat.ne_of_lt (Nat.lt_of_lt_of_le E_q0.lt uhz)
  have ne_m0_ut0 : m0 ≠ ut0 := Nat.ne_of_lt (Nat.lt_of_lt_of_le E_m0.lt uhz)
  have ne_b95_ut0 : b95 ≠ ut0 := Nat.ne_of_lt (Nat.lt_of_lt_of_le E_b95.lt uhz)
  have ne_tq_ut0 : tq ≠ ut0 := Nat.ne_of_lt (Nat.lt_of_lt_of_le A_tq.lt uhz)
  have ne_tm_ut0 : tm ≠ ut0 := Nat.ne_of_lt (Nat.lt_of_lt_of_le A_tm.lt uhz)
  have g_ut0 : Z.heap.size ≤ ut0 := Nat.le_trans g_b95 (Nat.le_trans (Nat.le_of_lt E_b95.lt) uhz)
  have sz_R__ut0 : h.size ≤ ut0 := Nat.le_trans R_.1 uhz
  replace F_q0_value := F_q0_value.keep K1_ (ninS ne_q0_b95 nin0)
  replace F_q0_coder := F_q0_coder.keep K1_ (ninS ne_q0_b95 nin0)
  replace F_m0_value := F_m0_value.keep K1_ (ninS ne_m0_b95 nin0)
  replace F_m0_coder := F_m0_coder.keep K1_ (ninS ne_m0_b95 nin0)
  replace A_tq := A_tq.keep K1_ (ninS ne_tq_b95 nin0)
  replace A_tm := A_tm.keep K1_ (ninS ne_tm_b95 nin0)
  replace E_q0 := E_q0.keep K1_
  replace E_m0 := E_m0.keep K1_
  replace E_b95 := E_b95.keep K1_
  replace R_ := ext_keep R_ K1_ (allS sz_R__b95 all0)
  have ul0 : ([] : List Int32).length = 0 := rfl
  have uc0 : ([] : List Int32).length + (List.replicate 16 (Value.int (0 : Int32))).length = 16 := rfl
  have uh0 : Lat ([] : List Int32) := fun c hc => nomatch hc
  refine s_aloadN X (pc' := 24) d34_23 rfl rfl rfl ?_
  have ulm1 : ([] : List Int32).length = 0 := rfl
  refine s_virtual X (pc' := 27) (W := 0) (as' := [(.ref m0)]) (S := []) (k' := 3) (n' := 198) d34_24 (hw _ (List.mem_of_getElem? (i := 201) rfl)) (hw _ (List.mem_of_getElem? (i := 56) rfl)) (hw _ (List.mem_of_getElem? (i := 58) rfl)) (hw _ (List.mem_of_getElem? (i := 57) rfl)) (nface (hw _ (List.mem_of_getElem? (i := 58) rfl))) (by decide) own_pd21 rfl E_b95 ((sb_sapp l Z a0 hw hEL b95 m0 _ uS0 E_m0 F_m0_value F_m0_coder A_tm he (by rw [ulm1]; decide) (by rw [uc0]; decide) (by rw [uc0]; decide) (by rw [ulm1]; decide) (by first | (rw [uc0, ul0, ulm1]; decide) | (rw [uc0, ul0]; decide)) g_b95 g_ut0 ne_tm_ut0 O2 P5).payS (by simp) (hw _ (List.mem_of_getElem? (i := 59) rfl)) (hw _ (List.mem_of_getElem? (i := 36) rfl)) hEL (by decide) (by decide)) (Nat.le_of_ble_eq_true rfl) rfl rfl (by decide) (by decide) (by decide) (by decide) rfl (fun T h100 v_ ws_ X hgr_ q101 => ?_)
  obtain ⟨ut1, ur1, rfl, uK1, uhT1, uS1, uq1, rfl⟩ := q101
  show Go p e below _ T (mkF m 27 #[.val (.ref q0), .val (.ref m0), .val (.int (2 : Int32)), .unset] [(.ref b95)])
  replace X := X.sub (ws' := [ut1, b95]) (by simp)
  have ne_q0_ut1 : q0 ≠ ut1 := uhT1.elim (fun q => by rw [q]; exact ne_q0_ut0) (fun q => Nat.ne_of_lt (Nat.lt_of_lt_of_le E_q0.lt q))
  have ne_m0_ut1 : m0 ≠ ut1 := uhT1.elim (fun q => by rw [q]; exact ne_m0_ut0) (fun q => Nat.ne_of_lt (Nat.lt_of_lt_of_le E_m0.lt q))
  have ne_b95_ut1 : b95 ≠ ut1 := uhT1.elim (fun q => by rw [q]; exact ne_b95_ut0) (fun q => Nat.ne_of_lt (Nat.lt_of_lt_of_le E_b95.lt q))
  have ne_tq_ut1 : tq ≠ ut1 := uhT1.elim (fun q => by rw [q]; exact ne_tq_ut0) (fun q => Nat.ne_of_lt (Nat.lt_of_lt_of_le A_tq.lt q))
  have ne_tm_ut1 : tm ≠ ut1 := uhT1.elim (fun q => by rw [q]; exact ne_tm_ut0) (fun q => Nat.ne_of_lt (Nat.lt_of_lt_of_le A_tm.lt q))
  have g_ut1 : Z.heap.size ≤ ut1 := uhT1.elim (fun q => by rw [q]; exact g_ut0) (fun q => Nat.le_trans g_b95 (Nat.le_trans (Nat.le_of_lt E_b95.lt) q))
  have sz_R__ut1 : h.size ≤ ut1 := uhT1.elim (fun q => by rw [q]; exact sz_R__ut0) (fun q => Nat.le_trans R_.1 q)
  replace F_q0_value := F_q0_value.keep uK1 (ninS ne_q0_b95 (ninS ne_q0_ut0 nin0))
  replace F_q0_coder := F_q0_coder.keep uK1 (ninS ne_q0_b95 (ninS ne_q0_ut0 nin0))
  replace F_m0_value := F_m0_value.keep uK1 (ninS ne_m0_b95 (ninS ne_m0_ut0 nin0))
  replace F_m0_coder := F_m0_coder.keep uK1 (ninS ne_m0_b95 (ninS ne_m0_ut0 nin0))
  replace A_tq := A_tq.keep uK1 (ninS ne_tq_b95 (ninS ne_tq_ut0 nin0))
  replace A_tm := A_tm.keep uK1 (ninS ne_tm_b95 (ninS ne_tm_ut0 nin0))
  replace E_q0 := E_q0.keep uK1
  replace E_m0 := E_m0.keep uK1
  replace E_b95 := E_b95.keep uK1
  replace R_ := ext_keep R_ uK1 (allS sz_R__b95 (allS sz_R__ut0 all0))
  have ul1 : (([] : List Int32) ++ ([] : List Int32)).length = 0 := by first | rw [List.length_append, ul0, ulm1] | rw [List.length_append, ul0]
  have uc1 : (([] : List Int32) ++ ([] : List Int32)).length + ur1.length = 16 := by
    first | rw [uc0, ul0, ulm1] at uq1 | rw [uc0, ul0] at uq1
    rw [ul1]; exact uq1.trans (by decide)
  have uh1 : Lat (([] : List Int32) ++ ([] : List Int32)) := Lat.app uh0 he
  obtain ⟨ue1, gue1⟩ : ∃ z, z = ([] : List Int32) ++ ([] : List Int32) := ⟨_, rfl⟩
  rw [← gue1] at uS1 ul1 uc1 uh1
  refine s_aloadN X (pc' := 28) d34_27 rfl rfl rfl ?_
  have ulm2 : qs.length = 2 := hql
  refine s_virtual X (pc' := 31) (W := 0) (as' := [(.ref q0)]) (S := []) (k' := 4) (n' := 376) d34_28 (hw _ (List.mem_of_getElem? (i := 201) rfl)) (hw _ (List.mem_of_getElem? (i := 56) rfl)) (hw _ (List.mem_of_getElem? (i := 58) rfl)) (hw _ (List.mem_of_getElem? (i := 57) rfl)) (nface (hw _ (List.mem_of_getElem? (i := 58) rfl))) (by decide) own_pd21 rfl E_b95 ((sb_sapp l Z a0 hw hEL b95 q0 _ uS1 E_q0 F_q0_value F_q0_coder A_tq hqs (by rw [ulm2]; decide) (by rw [uc1]; decide) (by rw [uc1]; decide) (by rw [ulm2]; decide) (by first | (rw [uc1, ul1, ulm2]; decide) | (rw [uc1, ul1]; decide)) g_b95 g_ut1 ne_tq_ut1 O2 P5).payS (by simp) (hw _ (List.mem_of_getElem? (i := 59) rfl)) (hw _ (List.mem_of_getElem? (i := 36) rfl)) hEL (by decide) (by decide)) (Nat.le_of_ble_eq_true rfl) rfl rfl (by decide) (by decide) (by decide) (by decide) rfl (fun T h102 v_ ws_ X hgr_ q103 => ?_)
  obtain ⟨ut2, ur2, rfl, uK2, uhT2, uS2, uq2, rfl⟩ := q103
  show Go p e below _ T (mkF m 31 #[.val (.ref q0), .val (.ref m0), .val (.int (2 : Int32)), .unset] [(.ref b95)])
  replace X := X.sub (ws' := [ut2, b95]) (by simp)
  have ne_q0_ut2 : q0 ≠ ut2 := uhT2.elim (fun q => by rw [q]; exact ne_q0_ut1) (fun q => Nat.ne_of_lt (Nat.lt_of_lt_of_le E_q0.lt q))
  have ne_m0_ut2 : m0 ≠ ut2 := uhT2.elim (fun q => by rw [q]; exact ne_m0_ut1) (fun q => Nat.ne_of_lt (Nat.lt_of_lt_of_le E_m0.lt q))
  have ne_b95_ut2 : b95 ≠ ut2 := uhT2.elim (fun q => by rw [q]; exact ne_b95_ut1) (fun q => Nat.ne_of_lt (Nat.lt_of_lt_of_le E_b95.lt q))
  have ne_tq_ut2 : tq ≠ ut2 := uhT2.elim (fun q => by rw [q]; exact ne_tq_ut1) (fun q => Nat.ne_of_lt (Nat.lt_of_lt_of_le A_tq.lt q))
  have ne_tm_ut2 : tm ≠ ut2 := uhT2.elim (fun q => by rw [q]; exact ne_tm_ut1) (fun q => Nat.ne_of_lt (Nat.lt_of_lt_of_le A_tm.lt q))
  have g_ut2 : Z.heap.size ≤ ut2 := uhT2.elim (fun q => by rw [q]; exact g_ut1) (fun q => Nat.le_trans g_b95 (Nat.le_trans (Nat.le_of_lt E_b95.lt) q))
  have sz_R__ut2 : h.size ≤ ut2 := uhT2.elim (fun q => by rw [q]; exact sz_R__ut1) (fun q => Nat.le_trans R_.1 q)
  replace F_q0_value := F_q0_value.keep uK2 (ninS ne_q0_b95 (ninS ne_q0_ut1 nin0))
  replace F_q0_coder := F_q0_coder.keep uK2 (ninS ne_q0_b95 (ninS ne_q0_ut1 nin0))
  replace F_m0_value := F_m0_value.keep uK2 (ninS ne_m0_b95 (ninS ne_m0_ut1 nin0))
  replace F_m0_coder := F_m0_coder.keep uK2 (ninS ne_m0_b95 (ninS ne_m0_ut1 nin0))
  replace A_tq := A_tq.keep uK2 (ninS ne_tq_b95 (ninS ne_tq_ut1 nin0))
  replace A_tm := A_tm.keep uK2 (ninS ne_tm_b95 (ninS ne_tm_ut1 nin0))
  replace E_q0 := E_q0.keep uK2
  replace E_m0 := E_m0.keep uK2
  replace E_b95 := E_b95.keep uK2
  replace R_ := ext_keep R_ uK2 (allS sz_R__b95 (allS sz_R__ut1 all0))
  have ul2 : (ue1 ++ qs).length = 2 := by first | rw [List.length_append, ul1, ulm2] | rw [List.length_append, ul1]
  have uc2 : (ue1 ++ qs).length + ur2.length = 16 := by
    first | rw [uc1, ul1, ulm2] at uq2 | rw [uc1, ul1] at uq2
    rw [ul2]; exact uq2.trans (by decide)
  have uh2 : Lat (ue1 ++ qs) := Lat.app uh1 hqs
  obtain ⟨ue2, gue2⟩ : ∃ z, z = ue1 ++ qs := ⟨_, rfl⟩
  rw [← gue2] at uS2 ul2 uc2 uh2
  refine s_aloadN X (pc' := 32) d34_31 rfl rfl rfl ?_
  have ulm3 : ([] : List Int32).length = 0 := rfl
  refine s_virtual X (pc' := 35) (W := 0) (as' := [(.ref m0)]) (S := []) (k' := 5) (n' := 554) d34_32 (hw _ (List.mem_of_getElem? (i := 201) rfl)) (hw _ (List.mem_of_getElem? (i := 56) rfl)) (hw _ (List.mem_of_getElem? (i := 58) rfl)) (hw _ (List.mem_of_getElem? (i := 57) rfl)) (nface (hw _ (List.mem_of_getElem? (i := 58) rfl))) (by decide) own_pd21 rfl E_b95 ((sb_sapp l Z a0 hw hEL b95 m0 _ uS2 E_m0 F_m0_value F_m0_coder A_tm he (by rw [ulm3]; decide) (by rw [uc2]; decide) (by rw [uc2]; decide) (by rw [ulm3]; decide) (by first | (rw [uc2, ul2, ulm3]; decide) | (rw [uc2, ul2]; decide)) g_b95 g_ut2 ne_tm_ut2 O2 P5).payS (by simp) (hw _ (List.mem_of_getElem? (i := 59) rfl)) (hw _ (List.mem_of_getElem? (i := 36) rfl)) hEL (by decide) (by decide)) (Nat.le_of_ble_eq_true rfl) rfl rfl (by decide) (by decide) (by decide) (by decide) rfl (fun T h104 v_ ws_ X hgr_ q105 => ?_)
  obtain ⟨ut3, ur3, rfl, uK3, uhT3, uS3, uq3, rfl⟩ := q105
  show Go p e below _ T (mkF m 35 #[.val (.ref q0), .val (.ref m0), .val (.int (2 : Int32)), .unset] [(.ref b95)])
  replace X := X.sub (ws' := [ut3, b95]) (by simp)
  have ne_q0_ut3 : q0 ≠ ut3 := uhT3.elim (fun q => by rw [q]; exact ne_q0_ut2) (fun q => Nat.ne_of_lt (Nat.lt_of_lt_of_le E_q0.lt q))
  have ne_m0_ut3 : m0 ≠ ut3 := uhT3.elim (fun q => by rw [q]; exact ne_m0_ut2) (fun q => Nat.ne_of_lt (Nat.lt_of_lt_of_le E_m0.lt q))
  have ne_b95_ut3 : b95 ≠ ut3 := uhT3.elim (fun q => by rw [q]; exact ne_b95_ut2) (fun q => Nat.ne_of_lt (Nat.lt_of_lt_of_le E_b95.lt q))
  have ne_tq_ut3 : tq ≠ ut3 := uhT3.elim (fun q => by rw [q]; exact ne_tq_ut2) (fun q => Nat.ne_of_lt (Nat.lt_of_lt_of_le A_tq.lt q))
  have ne_tm_ut3 : tm ≠ ut3 := uhT3.elim (fun q => by rw [q]; exact ne_tm_ut2) (fun q => Nat.ne_of_lt (Nat.lt_of_lt_of_le A_tm.lt q))
  have g_ut3 : Z.heap.size ≤ ut3 := uhT3.elim (fun q => by rw [q]; exact g_ut2) (fun q => Nat.le_trans g_b95 (Nat.le_trans (Nat.le_of_lt E_b95.lt) q))
  have sz_R__ut3 : h.size ≤ ut3 := uhT3.elim (fun q => by rw [q]; exact sz_R__ut2) (fun q => Nat.le_trans R_.1 q)
  replace F_q0_value := F_q0_value.keep uK3 (ninS ne_q0_b95 (ninS ne_q0_ut2 nin0))
  replace F_q0_coder := F_q0_coder.keep uK3 (ninS ne_q0_b95 (ninS ne_q0_ut2 nin0))
  replace F_m0_value := F_m0_value.keep uK3 (ninS ne_m0_b95 (ninS ne_m0_ut2 nin0))
  replace F_m0_coder := F_m0_coder.keep uK3 (ninS ne_m0_b95 (ninS ne_m0_ut2 nin0))
  replace A_tq := A_tq.keep uK3 (ninS ne_tq_b95 (ninS ne_tq_ut2 nin0))
  replace A_tm := A_tm.keep uK3 (ninS ne_tm_b95 (ninS ne_tm_ut2 nin0))
  replace E_q0 := E_q0.keep uK3
  replace E_m0 := E_m0.keep uK3
  replace E_b95 := E_b95.keep uK3
  replace R_ := ext_keep R_ uK3 (allS sz_R__b95 (allS sz_R__ut2 all0))
  have ul3 : (ue2 ++ ([] : List Int32)).length = 2 := by first | rw [List.length_append, ul2, ulm3] | rw [List.length_append, ul2]
  have uc3 : (ue2 ++ ([] : List Int32)).length + ur3.length = 16 := by
    first | rw [uc2, ul2, ulm3] at uq3 | rw [uc2, ul2] at uq3
    rw [ul3]; exact uq3.trans (by decide)
  have uh3 : Lat (ue2 ++ ([] : List Int32)) := Lat.app uh2 he
  obtain ⟨ue3, gue3⟩ : ∃ z, z = ue2 ++ ([] : List Int32) := ⟨_, rfl⟩
  rw [← gue3] at uS3 ul3 uc3 uh3
  refine s_virtual X (pc' := 38) (W := 0) (as' := []) (S := []) (k' := 7) (n' := 736) d34_35 (hw _ (List.mem_of_getElem? (i := 202) rfl)) (hw _ (List.mem_of_getElem? (i := 127) rfl)) (hw _ (List.mem_of_getElem? (i := 129) rfl)) (hw _ (List.mem_of_getElem? (i := 128) rfl)) (nface (hw _ (List.mem_of_getElem? (i := 129) rfl))) (by decide) own_pd18 rfl E_b95 ((sb_ts l Z a0 hw hEL b95 _ uS3 (by rw [uc3]; decide) (by rw [ul3]; decide) (fun z => by have q := uc3; rw [z, ul3] at q; exact absurd q (by decide)) uh3 O2 P5).payS (by simp) (hw _ (List.mem_of_getElem? (i := 130) rfl)) (hw _ (List.mem_of_getElem? (i := 36) rfl)) hEL (by decide) (by decide)) (Nat.le_of_ble_eq_true rfl) rfl rfl (by decide) (by decide) (by decide) (by decide) rfl (fun T h106 v_ ws_ X hgr_ q107 => ?_)
  obtain ⟨x, rfl, Et_, S_x, rfl⟩ := q107
  show Go p e below _ T (mkF m 38 #[.val (.ref q0), .val (.ref m0), .val (.int (2 : Int32)), .unset] [(.ref x)])
  replace X := X.sub (ws' := []) (by simp)
  replace E_q0 := E_q0.ext Et_
  replace E_m0 := E_m0.ext Et_
  replace F_q0_value := F_q0_value.ext Et_
  replace F_q0_coder := F_q0_coder.ext Et_
  replace F_m0_value := F_m0_value.ext Et_
  replace F_m0_coder := F_m0_coder.ext Et_
  replace A_tq := A_tq.ext Et_
  replace A_tm := A_tm.ext Et_
  replace R_ := ext_trans R_ Et_
  refine s_astoreN X (pc' := 39) (L' := #[.val (.ref q0), .val (.ref m0), .val (.int (2 : Int32)), .val (.ref x)]) d34_38 rfl rfl rfl ?_
  refine s_goto X (pc' := 95) d34_39 (by decide) (by decide) ?_
  refine s_aloadN X (pc' := 96) d34_95 rfl rfl rfl ?_
  have e_ : ue3 = qs := by rw [gue3, gue2, gue1]; simp
  rw [e_] at S_x
  exact s_aret X hEL (ws' := []) (t := (.object "java/lang/String")) d34_96 rfl rfl rfl rfl (by decide) (by decide) (fun x q => by simp at q) ⟨x, rfl, R_, S_x, rfl⟩
theorem d33_0 : decode prog_6_method_3_code 0 = .ok (.aload_n 0, 1) := by decide +kernel
theorem d33_1 : decode prog_6_method_3_code 1 = .ok (.ldc 15, 2) := by decide +kernel
theorem d33_3 : decode prog_6_method_3_code 3 = .ok (.invokestatic 9, 3) := by decide +kernel
theorem d33_6 : decode prog_6_method_3_code 6 = .ok (.areturn, 1) := by decide +kernel
theorem ef_own_nm (m : MethodId) (q0 : Addr) : entryFrame m #[(.ref q0)] 1 = mkF m 0 #[.val (.ref q0)] [] := by first | (simp [entryFrame, mkF, argsToLocals, Value.category]; done) | rfl
set_option maxRecDepth 65536 in
set_option maxHeartbeats 40000000 in
theorem own_nm (l : Launch) (Z : State) (a0 : Array Value) (hw : ∀ d ∈ tables_1, d.before a0 Z = true) (hEL : EW Z a0 consts_1) (q0 : Addr) (h : Heap) {G1 : Int32} {qs : List Int32} (S_q0 : Str Z h q0 qs) (hqs : Lat qs) (hql : qs.length = 2) (O2 : Sta Z Z.heap "java/lang/String" "COMPACT_STRINGS" "Z" (.int G1)) (P5 : ¬ (G1 = (0 : Int32))) :
    Con l Z consts_1 True (⟨"com/example/vestwright/vestwright/Quote", "name", "(Ljava/lang/String;)Ljava/lang/String;"⟩ : MethodName) prog_6_method_3_code 1 (some (.object "java/lang/String")) ({ frames := 7, cells := 10, slots := 764, locals := 118 } : Room) [] #[(.ref q0)] h (fun v h' ws' => ∃ x, v = some (.ref x) ∧ Ext h h' ∧ Str Z h' x qs ∧ ws' = []) := by
  refine Con.intro own_pn35 (fun p e s m below meth c T X => ?_)
  rw [ef_own_nm m q0]
  have R_ : Ext h h := ext_refl _
  refine s_aloadN X (pc' := 1) d33_0 rfl rfl rfl ?_
  refine s_ldcS X (pc' := 3) (k' := 2) (n' := 4) (nn := 0) (vs := []) (z := (0 : Int32)) hEL d33_1 (hw _ (List.mem_of_getElem? (i := 175) rfl)) (fun d hd => hw d ((by decide +kernel : ∀ d ∈ Bundle.stringAtoms, d ∈ tables_1) d hd)) (by simp [consts_1]) (by decide) (by decide) (by decide) (by decide) (by decide) (by decide) (by decide) (by decide) (by decide) rfl (fun T h108 a1 b1 kc_b1 X' E109 E_a1 F_a1_coder F_a1_value V_b1 nw_ => ?_)
  replace S_q0 := S_q0.ext E109
  replace R_ := ext_trans R_ E109
  replace X := X'
  have S_a1 : Str Z h108 a1 [] := ⟨b1, kc_b1, 0, 0, [], E_a1, F_a1_value, F_a1_coder, V_b1, Or.inl ⟨rfl, rfl, rfl, (by simp)⟩, (by simp), (by simp)⟩
  refine s_static X (pc' := 6) (W := 0) (as' := [(.ref q0), (.ref a1)]) (S := []) (k' := 10) (n' := 764) d33_3 (hw _ (List.mem_of_getElem? (i := 176) rfl)) (hw _ (List.mem_of_getElem? (i := 177) rfl)) (hw _ (List.mem_of_getElem? (i := 173) rfl)) (hw _ (List.mem_of_getElem? (i := 178) rfl)) (by decide) own_pd22 rfl ((own_bd l Z a0 hw hEL q0 a1 _ S_q0 hqs hql S_a1 O2 P5).payS (by simp) (hw _ (List.mem_of_getElem? (i := 178) rfl)) (hw _ (List.mem_of_getElem? (i := 173) rfl)) hEL (by decide) (by decide)) (Nat.le_of_ble_eq_true rfl) rfl rfl (by decide) (by decide) (by decide) (by decide) rfl (fun T h110 v_ ws_ X hgr_ q111 => ?_)
  obtain ⟨x, rfl, E_, S_x, rfl⟩ := q111
  show Go p e below _ T (mkF m 6 #[.val (.ref q0)] [(.ref x)])
  replace X := X.sub (ws' := []) (by simp)
  replace S_q0 := S_q0.ext E_
  replace R_ := ext_trans R_ E_
  exact s_aret X hEL (ws' := []) (t := (.object "java/lang/String")) d33_6 rfl rfl rfl rfl (by decide) (by decide) (fun x q => by simp at q) ⟨x, rfl, R_, S_x, rfl⟩
theorem d7_0 : decode prog_47_method_4_code 0 = .ok (.iload_n 2, 1) := by decide +kernel
theorem d7_1 : decode prog_47_method_4_code 1 = .ok (.ifCond .eq 30, 3) := by decide +kernel
theorem d7_4 : decode prog_47_method_4_code 4 = .ok (.new 30, 3) := by decide +kernel
theorem d7_7 : decode prog_47_method_4_code 7 = .ok (.dup, 1) := by decide +kernel
theorem d7_8 : decode prog_47_method_4_code 8 = .ok (.invokespecial 32, 3) := by decide +kernel
theorem d7_11 : decode prog_47_method_4_code 11 = .ok (.ldc 47, 2) := by decide +kernel
theorem d7_13 : decode prog_47_method_4_code 13 = .ok (.invokevirtual 38, 3) := by decide +kernel
theorem d7_16 : decode prog_47_method_4_code 16 = .ok (.aload_n 0, 1) := by decide +kernel
theorem d7_17 : decode prog_47_method_4_code 17 = .ok (.invokevirtual 38, 3) := by decide +kernel
theorem d7_20 : decode prog_47_method_4_code 20 = .ok (.ldc 49, 2) := by decide +kernel
theorem d7_22 : decode prog_47_method_4_code 22 = .ok (.invokevirtual 38, 3) := by decide +kernel
theorem d7_25 : decode prog_47_method_4_code 25 = .ok (.invokevirtual 44, 3) := by decide +kernel
theorem d7_28 : decode prog_47_method_4_code 28 = .ok (.goto 27, 3) := by decide +kernel
theorem d7_31 : decode prog_47_method_4_code 31 = .ok (.new 30, 3) := by decide +kernel
theorem d7_34 : decode prog_47_method_4_code 34 = .ok (.dup, 1) := by decide +kernel
theorem d7_35 : decode prog_47_method_4_code 35 = .ok (.invokespecial 32, 3) := by decide +kernel
theorem d7_38 : decode prog_47_method_4_code 38 = .ok (.ldc 51, 2) := by decide +kernel
theorem d7_40 : decode prog_47_method_4_code 40 = .ok (.invokevirtual 38, 3) := by decide +kernel
theorem d7_43 : decode prog_47_method_4_code 43 = .ok (.aload_n 0, 1) := by decide +kernel
theorem d7_44 : decode prog_47_method_4_code 44 = .ok (.invokevirtual 38, 3) := by decide +kernel
theorem d7_47 : decode prog_47_method_4_code 47 = .ok (.ldc 53, 2) := by decide +kernel
theorem d7_49 : decode prog_47_method_4_code 49 = .ok (.invokevirtual 38, 3) := by decide +kernel
theorem d7_52 : decode prog_47_method_4_code 52 = .ok (.invokevirtual 44, 3) := by decide +kernel
theorem d7_55 : decode prog_47_method_4_code 55 = .ok (.astore_n 3, 1) := by decide +kernel
theorem d7_56 : decode prog_47_method_4_code 56 = .ok (.new 8, 3) := by decide +kernel
theorem d7_59 : decode prog_47_method_4_code 59 = .ok (.dup, 1) := by decide +kernel
theorem d7_60 : decode prog_47_method_4_code 60 = .ok (.getstatic 55, 3) := by decide +kernel
theorem d7_63 : decode prog_47_method_4_code 63 = .ok (.new 30, 3) := by decide +kernel
theorem d7_66 : decode prog_47_method_4_code 66 = .ok (.dup, 1) := by decide +kernel
theorem d7_67 : decode prog_47_method_4_code 67 = .ok (.invokespecial 32, 3) := by decide +kernel
theorem d7_70 : decode prog_47_method_4_code 70 = .ok (.aload_n 3, 1) := by decide +kernel
theorem d7_71 : decode prog_47_method_4_code 71 = .ok (.invokevirtual 38, 3) := by decide +kernel
theorem d7_74 : decode prog_47_method_4_code 74 = .ok (.ldc 58, 2) := by decide +kernel
theorem d7_76 : decode prog_47_method_4_code 76 = .ok (.invokevirtual 38, 3) := by decide +kernel
theorem d7_79 : decode prog_47_method_4_code 79 = .ok (.aload_n 1, 1) := by decide +kernel
theorem d7_80 : decode prog_47_method_4_code 80 = .ok (.invokestatic 60, 3) := by decide +kernel
theorem d7_83 : decode prog_47_method_4_code 83 = .ok (.invokevirtual 38, 3) := by decide +kernel
theorem d7_86 : decode prog_47_method_4_code 86 = .ok (.ldc 66, 2) := by decide +kernel
theorem d7_88 : decode prog_47_method_4_code 88 = .ok (.invokevirtual 38, 3) := by decide +kernel
theorem d7_91 : decode prog_47_method_4_code 91 = .ok (.invokevirtual 44, 3) := by decide +kernel
theorem d7_94 : decode prog_47_method_4_code 94 = .ok (.aconst_null, 1) := by decide +kernel
theorem d7_95 : decode prog_47_method_4_code 95 = .ok (.invokespecial 24, 3) := by decide +kernel
theorem d7_98 : decode prog_47_method_4_code 98 = .ok (.areturn, 1) := by decide +kernel
theorem ef_own_ne0 (m : MethodId) (p0 q0 : Addr) : entryFrame m #[(.ref p0), (.ref q0), (.int (0 : Int32))] 4 = mkF m 0 #[.val (.ref p0), .val (.ref q0), .val (.int (0 : Int32)), .unset] [] := by first | (simp [entryFrame, mkF, argsToLocals, Value.category]; done) | rfl
set_option maxRecDepth 65536 in
set_option maxHeartbeats 40000000 in
theorem own_ne0 (l : Launch) (Z : State) (a0 : Array Value) (hw : ∀ d ∈ tables_1, d.before a0 Z = true) (hEL : EW Z a0 consts_1) (p0 q0 : Addr) (h : Heap) {G1 : Int32} {kd : Addr} {ps qs : List Int32} {us ss : Addr} (S_p0 : Str Z h p0 ps) (hps : Lat ps) (hpl : ps.length = 2) (S_q0 : Str Z h q0 qs) (hqs : Lat qs) (hql : qs.length = 2) (In : Sta Z Z.heap "com/example/vestwright/vestwright/run/RunRefusedException$Kind" "NO_ELECTIONS" "Lcom/example/vestwright/vestwright/run/RunRefusedException$Kind;" (.ref kd)) (Us : Sta Z Z.heap "java/lang/Throwable" "UNASSIGNED_STACK" "[Ljava/lang/StackTraceElement;" (.ref us)) (Ss : Sta Z Z.heap "java/lang/Throwable" "SUPPRESSED_SENTINEL" "Ljava/util/List;" (.ref ss)) (hlt : l.stackTraces = true) (O2 : Sta Z Z.heap "java/lang/String" "COMPACT_STRINGS" "Z" (.int G1)) (P5 : ¬ (G1 = (0 : Int32))) :
    Con l Z consts_1 True (⟨"com/example/vestwright/vestwright/run/RunRefusedException", "noElections", "(Ljava/lang/String;Ljava/lang/String;Z)Lcom/example/vestwright/vestwright/run/RunRefusedException;"⟩ : MethodName) prog_47_method_4_code 4 (some (.object "com/example/vestwright/vestwright/run/RunRefusedException")) ({ frames := 9, cells := 40, slots := 7000, locals := 150 } : Room) [] #[(.ref p0), (.ref q0), (.int (0 : Int32))] h (fun v h' ws' => ∃ r mg, v = some (.ref r) ∧ Ext h h' ∧ Exa Z h' r "com/example/vestwright/vestwright/run/RunRefusedException" ∧ Fld Z h' r "com/example/vestwright/vestwright/run/RunRefusedException" "kind" "Lcom/example/vestwright/vestwright/run/RunRefusedException$Kind;" (.ref kd) ∧ Fld Z h' r "java/lang/Throwable" "detailMessage" "Ljava/lang/String;" (.ref mg) ∧ Str Z h' mg (own_msg0 ps qs) ∧ Lat (own_msg0 ps qs) ∧ ws' = []) := by
  refine Con.intro own_pn36 (fun p e s m below meth c T X => ?_)
  rw [ef_own_ne0 m p0 q0]
  have R_ : Ext h h := ext_refl _
  obtain ⟨tp, E_p0, F_p0_value, F_p0_coder, A_tp⟩ := S_p0.latin (fun c hc => (hps c hc).2)
  have Sq0 := S_q0
  refine s_iloadN X (pc' := 1) d7_0 rfl rfl ?_
  refine s_ifT X (pc' := 31) d7_1 (show (0 : Int32) = (0 : Int32) by decide) (by decide) (by decide) ?_
  refine s_new X (pc' := 34) (k' := 1) (n' := 4) d7_31 (hw _ (List.mem_of_getElem? (i := 34) rfl)) (hw _ (List.mem_of_getElem? (i := 35) rfl)) (hw _ (List.mem_of_getElem? (i := 36) rfl)) (by decide) (by decide) (by decide) (by decide) rfl (fun T h113 b112 gb_b112 X' E114 E_b112 D_b112 U_b112 => ?_)
  have g_b112 : Z.heap.size ≤ b112 := by rw [gb_b112]; exact X.lt
  have ne_p0_b112 : p0 ≠ b112 := Nat.ne_of_lt (by rw [gb_b112]; exact E_p0.lt)
  have ne_tp_b112 : tp ≠ b112 := Nat.ne_of_lt (by rw [gb_b112]; exact A_tp.lt)
  have sz_R__b112 : h.size ≤ b112 := by rw [gb_b112]; exact R_.1
  replace E_p0 := E_p0.ext E114
  replace F_p0_value := F_p0_value.ext E114
  replace F_p0_coder := F_p0_coder.ext E114
  replace A_tp := A_tp.ext E114
  replace R_ := ext_trans R_ E114
  replace X := X'
  have F_b112_value : Fld Z h113 b112 "java/lang/AbstractStringBuilder" "value" "[B" .null := D_b112 (Or.inl (hw _ (List.mem_of_getElem? (i := 49) rfl))) (ty := (.array .byte)) (by decide)
  have F_b112_coder : Fld Z h113 b112 "java/lang/AbstractStringBuilder" "coder" "B" (.int (0 : Int32)) := D_b112 (Or.inl (hw _ (List.mem_of_getElem? (i := 51) rfl))) (ty := .byte) (by decide)
  have F_b112_count : Fld Z h113 b112 "java/lang/AbstractStringBuilder" "count" "I" (.int (0 : Int32)) := D_b112 (Or.inl (hw _ (List.mem_of_getElem? (i := 76) rfl))) (ty := .int) (by decide)
  refine s_dup X (pc' := 35) d7_34 rfl rfl ?_
  refine s_special X (pc' := 38) (W := 1) (as' := []) (S := [(.ref b112)]) (k' := 2) (n' := 20) d7_35 rfl (hw _ (List.mem_of_getElem? (i := 37) rfl)) (hw _ (List.mem_of_getElem? (i := 38) rfl)) (hw _ (List.mem_of_getElem? (i := 39) rfl)) (by decide) own_pd20 rfl ((sb_ini l Z a0 hw hEL b112 _ g_b112 E_b112 F_b112_value F_b112_coder F_b112_count O2 P5).payS (by simp) (hw _ (List.mem_of_getElem? (i := 39) rfl)) (hw _ (List.mem_of_getElem? (i := 36) rfl)) hEL (by decide) (by decide)) (Nat.le_of_ble_eq_true rfl) rfl rfl (by decide) (by decide) (by decide) (by decide) rfl (fun T h115 v_ ws_ X hgr_ q116 => ?_)
  obtain ⟨rfl, K1_, ⟨at0, ahz, aS0, rfl⟩⟩ := q116
  show Go p e below _ T (mkF m 38 #[.val (.ref p0), .val (.ref q0), .val (.int (0 : Int32)), .unset] [(.ref b112)])
  replace X := X.sub (ws' := [at0, b112]) (by simp)
  have ne_p0_at0 : p0 ≠ at0 := Nat.ne_of_lt (Nat.lt_of_lt_of_le E_p0.lt ahz)
  have ne_b112_at0 : b112 ≠ at0 := Nat.ne_of_lt (Nat.lt_of_lt_of_le E_b112.lt ahz)
  have ne_tp_at0 : tp ≠ at0 := Nat.ne_of_lt (Nat.lt_of_lt_of_le A_tp.lt ahz)
  have g_at0 : Z.heap.size ≤ at0 := Nat.le_trans g_b112 (Nat.le_trans (Nat.le_of_lt E_b112.lt) ahz)
  have sz_R__at0 : h.size ≤ at0 := Nat.le_trans R_.1 ahz
  replace F_p0_value := F_p0_value.keep K1_ (ninS ne_p0_b112 nin0)
  replace F_p0_coder := F_p0_coder.keep K1_ (ninS ne_p0_b112 nin0)
  replace A_tp := A_tp.keep K1_ (ninS ne_tp_b112 nin0)
  replace E_p0 := E_p0.keep K1_
  replace E_b112 := E_b112.keep K1_
  replace R_ := ext_keep R_ K1_ (allS sz_R__b112 all0)
  have al0 : ([] : List Int32).length = 0 := rfl
  have ac0 : ([] : List Int32).length + (List.replicate 16 (Value.int (0 : Int32))).length = 16 := rfl
  have ah0 : Lat ([] : List Int32) := fun c hc => nomatch hc
  refine s_ldcS X (pc' := 40) (k' := 4) (n' := 136) (nn := 112) (vs := [(.int (45 : Int32)), (.int (45 : Int32)), (.int (101 : Int32)), (.int (108 : Int32)), (.int (101 : Int32)), (.int (99 : Int32)), (.int (116 : Int32)), (.int (105 : Int32)), (.int (111 : Int32)), (.int (110 : Int32)), (.int (115 : Int32)), (.int (32 : Int32)), (.int (105 : Int32)), (.int (115 : Int32)), (.int (32 : Int32)), (.int (109 : Int32)), (.int (105 : Int32)), (.int (115 : Int32)), (.int (115 : Int32)), (.int (105 : Int32)), (.int (110 : Int32)), (.int (103 : Int32)), (.int (44 : Int32)), (.int (32 : Int32)), (.int (97 : Int32)), (.int (110 : Int32)), (.int (100 : Int32)), (.int (32 : Int32))]) (z := (28 : Int32)) hEL d7_38 (hw _ (List.mem_of_getElem? (i := 52) rfl)) (fun d hd => hw d ((by decide +kernel : ∀ d ∈ Bundle.stringAtoms, d ∈ tables_1) d hd)) (by simp [consts_1]) (by decide) (by decide) (by decide) (by decide) (by decide) (by decide) (by decide) (by decide) (by decide) rfl (fun T h117 l1 m1 kc_m1 X' E118 E_l1 F_l1_coder F_l1_value V_m1 nw_ => ?_)
  replace E_p0 := E_p0.ext E118
  replace E_b112 := E_b112.ext E118
  replace F_p0_value := F_p0_value.ext E118
  replace F_p0_coder := F_p0_coder.ext E118
  replace A_tp := A_tp.ext E118
  replace R_ := ext_trans R_ E118
  replace X := X'
  have ne_at0_l1 : at0 ≠ l1 := (nw_ at0 (by simp)).1
  have ne_at0_m1 : at0 ≠ m1 := (nw_ at0 (by simp)).2
  have ne_b112_l1 : b112 ≠ l1 := (nw_ b112 (by simp)).1
  have ne_b112_m1 : b112 ≠ m1 := (nw_ b112 (by simp)).2
  have A_m1 : Ary Z h117 m1 .byte (bys own_x51) := Ary.of_arv V_m1 rfl (by decide)
  replace aS0 := aS0.ext E118
  have ne_l1_at0 := ne_at0_l1.symm
  have ne_m1_at0 := ne_at0_m1.symm
  have ne_l1_b112 := ne_b112_l1.symm
  have ne_m1_b112 := ne_b112_m1.symm
  have ne_l1_at0 := ne_at0_l1.symm
  have ne_m1_at0 := ne_at0_m1.symm
  have alm1 : own_x51.length = 28 := rfl
  refine s_virtual X (pc' := 43) (W := 0) (as' := [(.ref l1)]) (S := []) (k' := 5) (n' := 314) d7_40 (hw _ (List.mem_of_getElem? (i := 55) rfl)) (hw _ (List.mem_of_getElem? (i := 56) rfl)) (hw _ (List.mem_of_getElem? (i := 58) rfl)) (hw _ (List.mem_of_getElem? (i := 57) rfl)) (nface (hw _ (List.mem_of_getElem? (i := 58) rfl))) (by decide) own_pd21 rfl E_b112 ((sb_sapp l Z a0 hw hEL b112 l1 _ aS0 E_l1 F_l1_value F_l1_coder A_m1 own_xl51 (by rw [alm1]; decide) (by rw [ac0]; decide) (by rw [ac0]; decide) (by rw [alm1]; decide) (by first | (rw [ac0, al0, alm1]; decide) | (rw [ac0, al0]; decide)) g_b112 g_at0 ne_m1_at0 O2 P5).payS (by simp) (hw _ (List.mem_of_getElem? (i := 59) rfl)) (hw _ (List.mem_of_getElem? (i := 36) rfl)) hEL (by decide) (by decide)) (Nat.le_of_ble_eq_true rfl) rfl rfl (by decide) (by decide) (by decide) (by decide) rfl (fun T h119 v_ ws_ X hgr_ q120 => ?_)
  obtain ⟨at1, ar1, rfl, aK1, ahT1, aS1, aq1, rfl⟩ := q120
  show Go p e below _ T (mkF m 43 #[.val (.ref p0), .val (.ref q0), .val (.int (0 : Int32)), .unset] [(.ref b112)])
  replace X := X.sub (ws' := [at1, b112]) (by simp)
  have ne_p0_at1 : p0 ≠ at1 := ahT1.elim (fun q => by rw [q]; exact ne_p0_at0) (fun q => Nat.ne_of_lt (Nat.lt_of_lt_of_le E_p0.lt q))
  have ne_b112_at1 : b112 ≠ at1 := ahT1.elim (fun q => by rw [q]; exact ne_b112_at0) (fun q => Nat.ne_of_lt (Nat.lt_of_lt_of_le E_b112.lt q))
  have ne_l1_at1 : l1 ≠ at1 := ahT1.elim (fun q => by rw [q]; exact ne_l1_at0) (fun q => Nat.ne_of_lt (Nat.lt_of_lt_of_le E_l1.lt q))
  have ne_tp_at1 : tp ≠ at1 := ahT1.elim (fun q => by rw [q]; exact ne_tp_at0) (fun q => Nat.ne_of_lt (Nat.lt_of_lt_of_le A_tp.lt q))
  have ne_m1_at1 : m1 ≠ at1 := ahT1.elim (fun q => by rw [q]; exact ne_m1_at0) (fun q => Nat.ne_of_lt (Nat.lt_of_lt_of_le A_m1.lt q))
  have g_at1 : Z.heap.size ≤ at1 := ahT1.elim (fun q => by rw [q]; exact g_at0) (fun q => Nat.le_trans g_b112 (Nat.le_trans (Nat.le_of_lt E_b112.lt) q))
  have sz_R__at1 : h.size ≤ at1 := ahT1.elim (fun q => by rw [q]; exact sz_R__at0) (fun q => Nat.le_trans R_.1 q)
  replace F_p0_value := F_p0_value.keep aK1 (ninS ne_p0_b112 (ninS ne_p0_at0 nin0))
  replace F_p0_coder := F_p0_coder.keep aK1 (ninS ne_p0_b112 (ninS ne_p0_at0 nin0))
  replace F_l1_coder := F_l1_coder.keep aK1 (ninS ne_l1_b112 (ninS ne_l1_at0 nin0))
  replace F_l1_value := F_l1_value.keep aK1 (ninS ne_l1_b112 (ninS ne_l1_at0 nin0))
  replace A_tp := A_tp.keep aK1 (ninS ne_tp_b112 (ninS ne_tp_at0 nin0))
  replace A_m1 := A_m1.keep aK1 (ninS ne_m1_b112 (ninS ne_m1_at0 nin0))
  replace E_p0 := E_p0.keep aK1
  replace E_b112 := E_b112.keep aK1
  replace E_l1 := E_l1.keep aK1
  replace R_ := ext_keep R_ aK1 (allS sz_R__b112 (allS sz_R__at0 all0))
  have al1 : (([] : List Int32) ++ own_x51).length = 28 := by first | rw [List.length_append, al0, alm1] | rw [List.length_append, al0]
  have ac1 : (([] : List Int32) ++ own_x51).length + ar1.length = 34 := by
    first | rw [ac0, al0, alm1] at aq1 | rw [ac0, al0] at aq1
    rw [al1]; exact aq1.trans (by decide)
  have ah1 : Lat (([] : List Int32) ++ own_x51) := Lat.app ah0 own_xl51
  obtain ⟨ae1, gae1⟩ : ∃ z, z = ([] : List Int32) ++ own_x51 := ⟨_, rfl⟩
  rw [← gae1] at aS1 al1 ac1 ah1
  refine s_aloadN X (pc' := 44) d7_43 rfl rfl rfl ?_
  have alm2 : ps.length = 2 := hpl
  refine s_virtual X (pc' := 47) (W := 0) (as' := [(.ref p0)]) (S := []) (k' := 6) (n' := 492) d7_44 (hw _ (List.mem_of_getElem? (i := 55) rfl)) (hw _ (List.mem_of_getElem? (i := 56) rfl)) (hw _ (List.mem_of_getElem? (i := 58) rfl)) (hw _ (List.mem_of_getElem? (i := 57) rfl)) (nface (hw _ (List.mem_of_getElem? (i := 58) rfl))) (by decide) own_pd21 rfl E_b112 ((sb_sapp l Z a0 hw hEL b112 p0 _ aS1 E_p0 F_p0_value F_p0_coder A_tp hps (by rw [alm2]; decide) (by rw [ac1]; decide) (by rw [ac1]; decide) (by rw [alm2]; decide) (by first | (rw [ac1, al1, alm2]; decide) | (rw [ac1, al1]; decide)) g_b112 g_at1 ne_tp_at1 O2 P5).payS (by simp) (hw _ (List.mem_of_getElem? (i := 59) rfl)) (hw _ (List.mem_of_getElem? (i := 36) rfl)) hEL (by decide) (by decide)) (Nat.le_of_ble_eq_true rfl) rfl rfl (by decide) (by decide) (by decide) (by decide) rfl (fun T h121 v_ ws_ X hgr_ q122 => ?_)
  obtain ⟨at2, ar2, rfl, aK2, ahT2, aS2, aq2, rfl⟩ := q122
  show Go p e below _ T (mkF m 47 #[.val (.ref p0), .val (.ref q0), .val (.int (0 : Int32)), .unset] [(.ref b112)])
  replace X := X.sub (ws' := [at2, b112]) (by simp)
  have ne_p0_at2 : p0 ≠ at2 := ahT2.elim (fun q => by rw [q]; exact ne_p0_at1) (fun q => Nat.ne_of_lt (Nat.lt_of_lt_of_le E_p0.lt q))
  have ne_b112_at2 : b112 ≠ at2 := ahT2.elim (fun q => by rw [q]; exact ne_b112_at1) (fun q => Nat.ne_of_lt (Nat.lt_of_lt_of_le E_b112.lt q))
  have ne_tp_at2 : tp ≠ at2 := ahT2.elim (fun q => by rw [q]; exact ne_tp_at1) (fun q => Nat.ne_of_lt (Nat.lt_of_lt_of_le A_tp.lt q))
  have g_at2 : Z.heap.size ≤ at2 := ahT2.elim (fun q => by rw [q]; exact g_at1) (fun q => Nat.le_trans g_b112 (Nat.le_trans (Nat.le_of_lt E_b112.lt) q))
  have sz_R__at2 : h.size ≤ at2 := ahT2.elim (fun q => by rw [q]; exact sz_R__at1) (fun q => Nat.le_trans R_.1 q)
  replace F_p0_value := F_p0_value.keep aK2 (ninS ne_p0_b112 (ninS ne_p0_at1 nin0))
  replace F_p0_coder := F_p0_coder.keep aK2 (ninS ne_p0_b112 (ninS ne_p0_at1 nin0))
  replace A_tp := A_tp.keep aK2 (ninS ne_tp_b112 (ninS ne_tp_at1 nin0))
  replace E_p0 := E_p0.keep aK2
  replace E_b112 := E_b112.keep aK2
  replace R_ := ext_keep R_ aK2 (allS sz_R__b112 (allS sz_R__at1 all0))
  have al2 : (ae1 ++ ps).length = 30 := by first | rw [List.length_append, al1, alm2] | rw [List.length_append, al1]
  have ac2 : (ae1 ++ ps).length + ar2.length = 34 := by
    first | rw [ac1, al1, alm2] at aq2 | rw [ac1, al1] at aq2
    rw [al2]; exact aq2.trans (by decide)
  have ah2 : Lat (ae1 ++ ps) := Lat.app ah1 hps
  obtain ⟨ae2, gae2⟩ : ∃ z, z = ae1 ++ ps := ⟨_, rfl⟩
  rw [← gae2] at aS2 al2 ac2 ah2
  refine s_ldcS X (pc' := 49) (k' := 8) (n' := 548) (nn := 52) (vs := [(.int (32 : Int32)), (.int (104 : Int32)), (.int (97 : Int32)), (.int (115 : Int32)), (.int (32 : Int32)), (.int (97 : Int32)), (.int (32 : Int32)), (.int (115 : Int32)), (.int (111 : Int32)), (.int (117 : Int32)), (.int (114 : Int32)), (.int (99 : Int32)), (.int (101 : Int32))]) (z := (13 : Int32)) hEL d7_47 (hw _ (List.mem_of_getElem? (i := 125) rfl)) (fun d hd => hw d ((by decide +kernel : ∀ d ∈ Bundle.stringAtoms, d ∈ tables_1) d hd)) (by simp [consts_1]) (by decide) (by decide) (by decide) (by decide) (by decide) (by decide) (by decide) (by decide) (by decide) rfl (fun T h123 l2 m2 kc_m2 X' E124 E_l2 F_l2_coder F_l2_value V_m2 nw_ => ?_)
  replace E_b112 := E_b112.ext E124
  replace R_ := ext_trans R_ E124
  replace X := X'
  have ne_at2_l2 : at2 ≠ l2 := (nw_ at2 (by simp)).1
  have ne_at2_m2 : at2 ≠ m2 := (nw_ at2 (by simp)).2
  have ne_b112_l2 : b112 ≠ l2 := (nw_ b112 (by simp)).1
  have ne_b112_m2 : b112 ≠ m2 := (nw_ b112 (by simp)).2
  have A_m2 : Ary Z h123 m2 .byte (bys own_x53) := Ary.of_arv V_m2 rfl (by decide)
  replace aS2 := aS2.ext E124
  have ne_l2_at2 := ne_at2_l2.symm
  have ne_m2_at2 := ne_at2_m2.symm
  have ne_l2_b112 := ne_b112_l2.symm
  have ne_m2_b112 := ne_b112_m2.symm
  have ne_l2_at2 := ne_at2_l2.symm
  have ne_m2_at2 := ne_at2_m2.symm
  have alm3 : own_x53.length = 13 := rfl
  refine s_virtual X (pc' := 52) (W := 0) (as' := [(.ref l2)]) (S := []) (k' := 9) (n' := 726) d7_49 (hw _ (List.mem_of_getElem? (i := 55) rfl)) (hw _ (List.mem_of_getElem? (i := 56) rfl)) (hw _ (List.mem_of_getElem? (i := 58) rfl)) (hw _ (List.mem_of_getElem? (i := 57) rfl)) (nface (hw _ (List.mem_of_getElem? (i := 58) rfl))) (by decide) own_pd21 rfl E_b112 ((sb_sapp l Z a0 hw hEL b112 l2 _ aS2 E_l2 F_l2_value F_l2_coder A_m2 own_xl53 (by rw [alm3]; decide) (by rw [ac2]; decide) (by rw [ac2]; decide) (by rw [alm3]; decide) (by first | (rw [ac2, al2, alm3]; decide) | (rw [ac2, al2]; decide)) g_b112 g_at2 ne_m2_at2 O2 P5).payS (by simp) (hw _ (List.mem_of_getElem? (i := 59) rfl)) (hw _ (List.mem_of_getElem? (i := 36) rfl)) hEL (by decide) (by decide)) (Nat.le_of_ble_eq_true rfl) rfl rfl (by decide) (by decide) (by decide) (by decide) rfl (fun T h125 v_ ws_ X hgr_ q126 => ?_)
  obtain ⟨at3, ar3, rfl, aK3, ahT3, aS3, aq3, rfl⟩ := q126
  show Go p e below _ T (mkF m 52 #[.val (.ref p0), .val (.ref q0), .val (.int (0 : Int32)), .unset] [(.ref b112)])
  replace X := X.sub (ws' := [at3, b112]) (by simp)
  have ne_b112_at3 : b112 ≠ at3 := ahT3.elim (fun q => by rw [q]; exact ne_b112_at2) (fun q => Nat.ne_of_lt (Nat.lt_of_lt_of_le E_b112.lt q))
  have ne_l2_at3 : l2 ≠ at3 := ahT3.elim (fun q => by rw [q]; exact ne_l2_at2) (fun q => Nat.ne_of_lt (Nat.lt_of_lt_of_le E_l2.lt q))
  have ne_m2_at3 : m2 ≠ at3 := ahT3.elim (fun q => by rw [q]; exact ne_m2_at2) (fun q => Nat.ne_of_lt (Nat.lt_of_lt_of_le A_m2.lt q))
  have g_at3 : Z.heap.size ≤ at3 := ahT3.elim (fun q => by rw [q]; exact g_at2) (fun q => Nat.le_trans g_b112 (Nat.le_trans (Nat.le_of_lt E_b112.lt) q))
  have sz_R__at3 : h.size ≤ at3 := ahT3.elim (fun q => by rw [q]; exact sz_R__at2) (fun q => Nat.le_trans R_.1 q)
  replace F_l2_coder := F_l2_coder.keep aK3 (ninS ne_l2_b112 (ninS ne_l2_at2 nin0))
  replace F_l2_value := F_l2_value.keep aK3 (ninS ne_l2_b112 (ninS ne_l2_at2 nin0))
  replace A_m2 := A_m2.keep aK3 (ninS ne_m2_b112 (ninS ne_m2_at2 nin0))
  replace E_b112 := E_b112.keep aK3
  replace E_l2 := E_l2.keep aK3
  replace R_ := ext_keep R_ aK3 (allS sz_R__b112 (allS sz_R__at2 all0))
  have al3 : (ae2 ++ own_x53).length = 43 := by first | rw [List.length_append, al2, alm3] | rw [List.length_append, al2]
  have ac3 : (ae2 ++ own_x53).length + ar3.length = 70 := by
    first | rw [ac2, al2, alm3] at aq3 | rw [ac2, al2] at aq3
    rw [al3]; exact aq3.trans (by decide)
  have ah3 : Lat (ae2 ++ own_x53) := Lat.app ah2 own_xl53
  obtain ⟨ae3, gae3⟩ : ∃ z, z = ae2 ++ own_x53 := ⟨_, rfl⟩
  rw [← gae3] at aS3 al3 ac3 ah3
  refine s_virtual X (pc' := 55) (W := 0) (as' := []) (S := []) (k' := 11) (n' := 908) d7_52 (hw _ (List.mem_of_getElem? (i := 126) rfl)) (hw _ (List.mem_of_getElem? (i := 127) rfl)) (hw _ (List.mem_of_getElem? (i := 129) rfl)) (hw _ (List.mem_of_getElem? (i := 128) rfl)) (nface (hw _ (List.mem_of_getElem? (i := 129) rfl))) (by decide) own_pd18 rfl E_b112 ((sb_ts l Z a0 hw hEL b112 _ aS3 (by rw [ac3]; decide) (by rw [al3]; decide) (fun z => by have q := ac3; rw [z, al3] at q; exact absurd q (by decide)) ah3 O2 P5).payS (by simp) (hw _ (List.mem_of_getElem? (i := 130) rfl)) (hw _ (List.mem_of_getElem? (i := 36) rfl)) hEL (by decide) (by decide)) (Nat.le_of_ble_eq_true rfl) rfl rfl (by decide) (by decide) (by decide) (by decide) rfl (fun T h127 v_ ws_ X hgr_ q128 => ?_)
  obtain ⟨ld, rfl, Et_, S_ld, rfl⟩ := q128
  show Go p e below _ T (mkF m 55 #[.val (.ref p0), .val (.ref q0), .val (.int (0 : Int32)), .unset] [(.ref ld)])
  replace X := X.sub (ws' := []) (by simp)
  replace R_ := ext_trans R_ Et_
  have hld := ah3
  have lld := al3
  obtain ⟨tl, E_ld, F_ld_value, F_ld_coder, A_tl⟩ := S_ld.latin (fun c hc => (hld c hc).2)
  refine s_astoreN X (pc' := 56) (L' := #[.val (.ref p0), .val (.ref q0), .val (.int (0 : Int32)), .val (.ref ld)]) d7_55 rfl rfl rfl ?_
  refine s_new X (pc' := 59) (k' := 12) (n' := 915) d7_56 (hw _ (List.mem_of_getElem? (i := 165) rfl)) (hw _ (List.mem_of_getElem? (i := 166) rfl)) (hw _ (List.mem_of_getElem? (i := 32) rfl)) (by decide) (by decide) (by decide) (by decide) rfl (fun T h130 b129 gb_b129 X' E131 E_b129 D_b129 U_b129 => ?_)
  have g_b129 : Z.heap.size ≤ b129 := by rw [gb_b129]; exact X.lt
  have ne_ld_b129 : ld ≠ b129 := Nat.ne_of_lt (by rw [gb_b129]; exact E_ld.lt)
  have ne_tl_b129 : tl ≠ b129 := Nat.ne_of_lt (by rw [gb_b129]; exact A_tl.lt)
  have sz_R__b129 : h.size ≤ b129 := by rw [gb_b129]; exact R_.1
  replace E_ld := E_ld.ext E131
  replace F_ld_value := F_ld_value.ext E131
  replace F_ld_coder := F_ld_coder.ext E131
  replace A_tl := A_tl.ext E131
  replace R_ := ext_trans R_ E131
  replace X := X'
  have F_b129_cause : Fld Z h130 b129 "java/lang/Throwable" "cause" "Ljava/lang/Throwable;" .null := D_b129 (Or.inl (hw _ (List.mem_of_getElem? (i := 220) rfl))) (ty := (.object "java/lang/Throwable")) (by decide)
  have F_b129_stackTrace : Fld Z h130 b129 "java/lang/Throwable" "stackTrace" "[Ljava/lang/StackTraceElement;" .null := D_b129 (Or.inl (hw _ (List.mem_of_getElem? (i := 223) rfl))) (ty := (.array (.object "java/lang/StackTraceElement"))) (by decide)
  have F_b129_suppressedExceptions : Fld Z h130 b129 "java/lang/Throwable" "suppressedExceptions" "Ljava/util/List;" .null := D_b129 (Or.inl (hw _ (List.mem_of_getElem? (i := 226) rfl))) (ty := (.object "java/util/List")) (by decide)
  have F_b129_detailMessage : Fld Z h130 b129 "java/lang/Throwable" "detailMessage" "Ljava/lang/String;" .null := D_b129 (Or.inl (hw _ (List.mem_of_getElem? (i := 250) rfl))) (ty := (.object "java/lang/String")) (by decide)
  have F_b129_backtrace : Fld Z h130 b129 "java/lang/Throwable" "backtrace" "Ljava/lang/Object;" .null := D_b129 (Or.inl (hw _ (List.mem_of_getElem? (i := 251) rfl))) (ty := (.object "java/lang/Object")) (by decide)
  have F_b129_depth : Fld Z h130 b129 "java/lang/Throwable" "depth" "I" (.int (0 : Int32)) := D_b129 (Or.inl (hw _ (List.mem_of_getElem? (i := 252) rfl))) (ty := .int) (by decide)
  have F_b129_kind : Fld Z h130 b129 "com/example/vestwright/vestwright/run/RunRefusedException" "kind" "Lcom/example/vestwright/vestwright/run/RunRefusedException$Kind;" .null := D_b129 (Or.inr (hw _ (List.mem_of_getElem? (i := 256) rfl))) (ty := (.object "com/example/vestwright/vestwright/run/RunRefusedException$Kind")) (by decide)
  have N_b129 := U_b129
  refine s_dup X (pc' := 60) d7_59 rfl rfl ?_
  refine s_gets X (pc' := 63) d7_60 (hw _ (List.mem_of_getElem? (i := 167) rfl)) Via.refl In rfl (fun T X => ?_)
  refine s_new X (pc' := 66) (k' := 13) (n' := 919) d7_63 (hw _ (List.mem_of_getElem? (i := 34) rfl)) (hw _ (List.mem_of_getElem? (i := 35) rfl)) (hw _ (List.mem_of_getElem? (i := 36) rfl)) (by decide) (by decide) (by decide) (by decide) rfl (fun T h133 b132 gb_b132 X' E134 E_b132 D_b132 U_b132 => ?_)
  have g_b132 : Z.heap.size ≤ b132 := by rw [gb_b132]; exact X.lt
  have ne_ld_b132 : ld ≠ b132 := Nat.ne_of_lt (by rw [gb_b132]; exact E_ld.lt)
  have ne_b129_b132 : b129 ≠ b132 := Nat.ne_of_lt (by rw [gb_b132]; exact E_b129.lt)
  have ne_tl_b132 : tl ≠ b132 := Nat.ne_of_lt (by rw [gb_b132]; exact A_tl.lt)
  have sz_R__b132 : h.size ≤ b132 := by rw [gb_b132]; exact R_.1
  replace E_ld := E_ld.ext E134
  replace E_b129 := E_b129.ext E134
  replace F_ld_value := F_ld_value.ext E134
  replace F_ld_coder := F_ld_coder.ext E134
  replace F_b129_cause := F_b129_cause.ext E134
  replace F_b129_stackTrace := F_b129_stackTrace.ext E134
  replace F_b129_suppressedExceptions := F_b129_suppressedExceptions.ext E134
  replace F_b129_detailMessage := F_b129_detailMessage.ext E134
  replace F_b129_backtrace := F_b129_backtrace.ext E134
  replace F_b129_depth := F_b129_depth.ext E134
  replace F_b129_kind := F_b129_kind.ext E134
  replace A_tl := A_tl.ext E134
  replace N_b129 := Unt.ext E134 N_b129
  replace R_ := ext_trans R_ E134
  replace X := X'
  have F_b132_value : Fld Z h133 b132 "java/lang/AbstractStringBuilder" "value" "[B" .null := D_b132 (Or.inl (hw _ (List.mem_of_getElem? (i := 49) rfl))) (ty := (.array .byte)) (by decide)
  have F_b132_coder : Fld Z h133 b132 "java/lang/AbstractStringBuilder" "coder" "B" (.int (0 : Int32)) := D_b132 (Or.inl (hw _ (List.mem_of_getElem? (i := 51) rfl))) (ty := .byte) (by decide)
  have F_b132_count : Fld Z h133 b132 "java/lang/AbstractStringBuilder" "count" "I" (.int (0 : Int32)) := D_b132 (Or.inl (hw _ (List.mem_of_getElem? (i := 76) rfl))) (ty := .int) (by decide)
  refine s_dup X (pc' := 67) d7_66 rfl rfl ?_
  refine s_special X (pc' := 70) (W := 4) (as' := []) (S := [(.ref b132), (.ref kd), (.ref b129), (.ref b129)]) (k' := 14) (n' := 935) d7_67 rfl (hw _ (List.mem_of_getElem? (i := 37) rfl)) (hw _ (List.mem_of_getElem? (i := 38) rfl)) (hw _ (List.mem_of_getElem? (i := 39) rfl)) (by decide) own_pd20 rfl ((sb_ini l Z a0 hw hEL b132 _ g_b132 E_b132 F_b132_value F_b132_coder F_b132_count O2 P5).payS (by simp) (hw _ (List.mem_of_getElem? (i := 39) rfl)) (hw _ (List.mem_of_getElem? (i := 36) rfl)) hEL (by decide) (by decide)) (Nat.le_of_ble_eq_true rfl) rfl rfl (by decide) (by decide) (by decide) (by decide) rfl (fun T h135 v_ ws_ X hgr_ q136 => ?_)
  obtain ⟨rfl, K1_, ⟨ct0, chz, cS0, rfl⟩⟩ := q136
  show Go p e below _ T (mkF m 70 #[.val (.ref p0), .val (.ref q0), .val (.int (0 : Int32)), .val (.ref ld)] [(.ref b132), (.ref kd), (.ref b129), (.ref b129)])
  replace X := X.sub (ws' := [ct0, b132, b129]) (by simp)
  have ne_ld_ct0 : ld ≠ ct0 := Nat.ne_of_lt (Nat.lt_of_lt_of_le E_ld.lt chz)
  have ne_b129_ct0 : b129 ≠ ct0 := Nat.ne_of_lt (Nat.lt_of_lt_of_le E_b129.lt chz)
  have ne_b132_ct0 : b132 ≠ ct0 := Nat.ne_of_lt (Nat.lt_of_lt_of_le E_b132.lt chz)
  have ne_tl_ct0 : tl ≠ ct0 := Nat.ne_of_lt (Nat.lt_of_lt_of_le A_tl.lt chz)
  have g_ct0 : Z.heap.size ≤ ct0 := Nat.le_trans g_b132 (Nat.le_trans (Nat.le_of_lt E_b132.lt) chz)
  have sz_R__ct0 : h.size ≤ ct0 := Nat.le_trans R_.1 chz
  replace F_ld_value := F_ld_value.keep K1_ (ninS ne_ld_b132 nin0)
  replace F_ld_coder := F_ld_coder.keep K1_ (ninS ne_ld_b132 nin0)
  replace F_b129_cause := F_b129_cause.keep K1_ (ninS ne_b129_b132 nin0)
  replace F_b129_stackTrace := F_b129_stackTrace.keep K1_ (ninS ne_b129_b132 nin0)
  replace F_b129_suppressedExceptions := F_b129_suppressedExceptions.keep K1_ (ninS ne_b129_b132 nin0)
  replace F_b129_detailMessage := F_b129_detailMessage.keep K1_ (ninS ne_b129_b132 nin0)
  replace F_b129_backtrace := F_b129_backtrace.keep K1_ (ninS ne_b129_b132 nin0)
  replace F_b129_depth := F_b129_depth.keep K1_ (ninS ne_b129_b132 nin0)
  replace F_b129_kind := F_b129_kind.keep K1_ (ninS ne_b129_b132 nin0)
  replace A_tl := A_tl.keep K1_ (ninS ne_tl_b132 nin0)
  replace E_ld := E_ld.keep K1_
  replace E_b129 := E_b129.keep K1_
  replace E_b132 := E_b132.keep K1_
  replace N_b129 := Unt.keep K1_ (ninS ne_b129_b132 nin0) N_b129
  replace R_ := ext_keep R_ K1_ (allS sz_R__b132 all0)
  have cl0 : ([] : List Int32).length = 0 := rfl
  have cc0 : ([] : List Int32).length + (List.replicate 16 (Value.int (0 : Int32))).length = 16 := rfl
  have ch0 : Lat ([] : List Int32) := fun c hc => nomatch hc
  refine s_aloadN X (pc' := 71) d7_70 rfl rfl rfl ?_
  have clm1 : ae3.length = 43 := lld
  refine s_virtual X (pc' := 74) (W := 3) (as' := [(.ref ld)]) (S := [(.ref kd), (.ref b129), (.ref b129)]) (k' := 15) (n' := 1113) d7_71 (hw _ (List.mem_of_getElem? (i := 55) rfl)) (hw _ (List.mem_of_getElem? (i := 56) rfl)) (hw _ (List.mem_of_getElem? (i := 58) rfl)) (hw _ (List.mem_of_getElem? (i := 57) rfl)) (nface (hw _ (List.mem_of_getElem? (i := 58) rfl))) (by decide) own_pd21 rfl E_b132 ((sb_sapp l Z a0 hw hEL b132 ld _ cS0 E_ld F_ld_value F_ld_coder A_tl hld (by rw [clm1]; decide) (by rw [cc0]; decide) (by rw [cc0]; decide) (by rw [clm1]; decide) (by first | (rw [cc0, cl0, clm1]; decide) | (rw [cc0, cl0]; decide)) g_b132 g_ct0 ne_tl_ct0 O2 P5).payS (by simp) (hw _ (List.mem_of_getElem? (i := 59) rfl)) (hw _ (List.mem_of_getElem? (i := 36) rfl)) hEL (by decide) (by decide)) (Nat.le_of_ble_eq_true rfl) rfl rfl (by decide) (by decide) (by decide) (by decide) rfl (fun T h137 v_ ws_ X hgr_ q138 => ?_)
  obtain ⟨ct1, cr1, rfl, cK1, chT1, cS1, cq1, rfl⟩ := q138
  show Go p e below _ T (mkF m 74 #[.val (.ref p0), .val (.ref q0), .val (.int (0 : Int32)), .val (.ref ld)] [(.ref b132), (.ref kd), (.ref b129), (.ref b129)])
  replace X := X.sub (ws' := [ct1, b132, b129]) (by simp)
  have ne_ld_ct1 : ld ≠ ct1 := chT1.elim (fun q => by rw [q]; exact ne_ld_ct0) (fun q => Nat.ne_of_lt (Nat.lt_of_lt_of_le E_ld.lt q))
  have ne_b129_ct1 : b129 ≠ ct1 := chT1.elim (fun q => by rw [q]; exact ne_b129_ct0) (fun q => Nat.ne_of_lt (Nat.lt_of_lt_of_le E_b129.lt q))
  have ne_b132_ct1 : b132 ≠ ct1 := chT1.elim (fun q => by rw [q]; exact ne_b132_ct0) (fun q => Nat.ne_of_lt (Nat.lt_of_lt_of_le E_b132.lt q))
  have ne_tl_ct1 : tl ≠ ct1 := chT1.elim (fun q => by rw [q]; exact ne_tl_ct0) (fun q => Nat.ne_of_lt (Nat.lt_of_lt_of_le A_tl.lt q))
  have g_ct1 : Z.heap.size ≤ ct1 := chT1.elim (fun q => by rw [q]; exact g_ct0) (fun q => Nat.le_trans g_b132 (Nat.le_trans (Nat.le_of_lt E_b132.lt) q))
  have sz_R__ct1 : h.size ≤ ct1 := chT1.elim (fun q => by rw [q]; exact sz_R__ct0) (fun q => Nat.le_trans R_.1 q)
  replace F_ld_value := F_ld_value.keep cK1 (ninS ne_ld_b132 (ninS ne_ld_ct0 nin0))
  replace F_ld_coder := F_ld_coder.keep cK1 (ninS ne_ld_b132 (ninS ne_ld_ct0 nin0))
  replace F_b129_cause := F_b129_cause.keep cK1 (ninS ne_b129_b132 (ninS ne_b129_ct0 nin0))
  replace F_b129_stackTrace := F_b129_stackTrace.keep cK1 (ninS ne_b129_b132 (ninS ne_b129_ct0 nin0))
  replace F_b129_suppressedExceptions := F_b129_suppressedExceptions.keep cK1 (ninS ne_b129_b132 (ninS ne_b129_ct0 nin0))
  replace F_b129_detailMessage := F_b129_detailMessage.keep cK1 (ninS ne_b129_b132 (ninS ne_b129_ct0 nin0))
  replace F_b129_backtrace := F_b129_backtrace.keep cK1 (ninS ne_b129_b132 (ninS ne_b129_ct0 nin0))
  replace F_b129_depth := F_b129_depth.keep cK1 (ninS ne_b129_b132 (ninS ne_b129_ct0 nin0))
  replace F_b129_kind := F_b129_kind.keep cK1 (ninS ne_b129_b132 (ninS ne_b129_ct0 nin0))
  replace A_tl := A_tl.keep cK1 (ninS ne_tl_b132 (ninS ne_tl_ct0 nin0))
  replace E_ld := E_ld.keep cK1
  replace E_b129 := E_b129.keep cK1
  replace E_b132 := E_b132.keep cK1
  replace N_b129 := Unt.keep cK1 (ninS ne_b129_b132 (ninS ne_b129_ct0 nin0)) N_b129
  replace R_ := ext_keep R_ cK1 (allS sz_R__b132 (allS sz_R__ct0 all0))
  have cl1 : (([] : List Int32) ++ ae3).length = 43 := by first | rw [List.length_append, cl0, clm1] | rw [List.length_append, cl0]
  have cc1 : (([] : List Int32) ++ ae3).length + cr1.length = 43 := by
    first | rw [cc0, cl0, clm1] at cq1 | rw [cc0, cl0] at cq1
    rw [cl1]; exact cq1.trans (by decide)
  have ch1 : Lat (([] : List Int32) ++ ae3) := Lat.app ch0 hld
  obtain ⟨ce1, gce1⟩ : ∃ z, z = ([] : List Int32) ++ ae3 := ⟨_, rfl⟩
  rw [← gce1] at cS1 cl1 cc1 ch1
  refine s_ldcS X (pc' := 76) (k' := 17) (n' := 1281) (nn := 164) (vs := [(.int (32 : Int32)), (.int (119 : Int32)), (.int (104 : Int32)), (.int (111 : Int32)), (.int (115 : Int32)), (.int (101 : Int32)), (.int (32 : Int32)), (.int (112 : Int32)), (.int (101 : Int32)), (.int (114 : Int32)), (.int (99 : Int32)), (.int (101 : Int32)), (.int (110 : Int32)), (.int (116 : Int32)), (.int (97 : Int32)), (.int (103 : Int32)), (.int (101 : Int32)), (.int (32 : Int32)), (.int (101 : Int32)), (.int (109 : Int32)), (.int (112 : Int32)), (.int (108 : Int32)), (.int (111 : Int32)), (.int (121 : Int32)), (.int (101 : Int32)), (.int (101 : Int32)), (.int (115 : Int32)), (.int (32 : Int32)), (.int (111 : Int32)), (.int (102 : Int32)), (.int (32 : Int32)), (.int (116 : Int32)), (.int (104 : Int32)), (.int (101 : Int32)), (.int (32 : Int32)), (.int (99 : Int32)), (.int (108 : Int32)), (.int (97 : Int32)), (.int (115 : Int32)), (.int (115 : Int32)), (.int (32 : Int32))]) (z := (41 : Int32)) hEL d7_74 (hw _ (List.mem_of_getElem? (i := 170) rfl)) (fun d hd => hw d ((by decide +kernel : ∀ d ∈ Bundle.stringAtoms, d ∈ tables_1) d hd)) (by simp [consts_1]) (by decide) (by decide) (by decide) (by decide) (by decide) (by decide) (by decide) (by decide) (by decide) rfl (fun T h139 l3 m3 kc_m3 X' E140 E_l3 F_l3_coder F_l3_value V_m3 nw_ => ?_)
  replace E_b129 := E_b129.ext E140
  replace E_b132 := E_b132.ext E140
  replace F_b129_cause := F_b129_cause.ext E140
  replace F_b129_stackTrace := F_b129_stackTrace.ext E140
  replace F_b129_suppressedExceptions := F_b129_suppressedExceptions.ext E140
  replace F_b129_detailMessage := F_b129_detailMessage.ext E140
  replace F_b129_backtrace := F_b129_backtrace.ext E140
  replace F_b129_depth := F_b129_depth.ext E140
  replace F_b129_kind := F_b129_kind.ext E140
  replace N_b129 := Unt.ext E140 N_b129
  replace R_ := ext_trans R_ E140
  replace X := X'
  have ne_ct1_l3 : ct1 ≠ l3 := (nw_ ct1 (by simp)).1
  have ne_ct1_m3 : ct1 ≠ m3 := (nw_ ct1 (by simp)).2
  have ne_b132_l3 : b132 ≠ l3 := (nw_ b132 (by simp)).1
  have ne_b132_m3 : b132 ≠ m3 := (nw_ b132 (by simp)).2
  have ne_b129_l3 : b129 ≠ l3 := (nw_ b129 (by simp)).1
  have ne_b129_m3 : b129 ≠ m3 := (nw_ b129 (by simp)).2
  have A_m3 : Ary Z h139 m3 .byte (bys own_x58) := Ary.of_arv V_m3 rfl (by decide)
  replace cS1 := cS1.ext E140
  have ne_l3_ct1 := ne_ct1_l3.symm
  have ne_m3_ct1 := ne_ct1_m3.symm
  have ne_l3_b132 := ne_b132_l3.symm
  have ne_m3_b132 := ne_b132_m3.symm
  have ne_l3_b129 := ne_b129_l3.symm
  have ne_m3_b129 := ne_b129_m3.symm
  have ne_l3_ct1 := ne_ct1_l3.symm
  have ne_m3_ct1 := ne_ct1_m3.symm
  have clm2 : own_x58.length = 41 := rfl
  refine s_virtual X (pc' := 79) (W := 3) (as' := [(.ref l3)]) (S := [(.ref kd), (.ref b129), (.ref b129)]) (k' := 18) (n' := 1459) d7_76 (hw _ (List.mem_of_getElem? (i := 55) rfl)) (hw _ (List.mem_of_getElem? (i := 56) rfl)) (hw _ (List.mem_of_getElem? (i := 58) rfl)) (hw _ (List.mem_of_getElem? (i := 57) rfl)) (nface (hw _ (List.mem_of_getElem? (i := 58) rfl))) (by decide) own_pd21 rfl E_b132 ((sb_sapp l Z a0 hw hEL b132 l3 _ cS1 E_l3 F_l3_value F_l3_coder A_m3 own_xl58 (by rw [clm2]; decide) (by rw [cc1]; decide) (by rw [cc1]; decide) (by rw [clm2]; decide) (by first | (rw [cc1, cl1, clm2]; decide) | (rw [cc1, cl1]; decide)) g_b132 g_ct1 ne_m3_ct1 O2 P5).payS (by simp) (hw _ (List.mem_of_getElem? (i := 59) rfl)) (hw _ (List.mem_of_getElem? (i := 36) rfl)) hEL (by decide) (by decide)) (Nat.le_of_ble_eq_true rfl) rfl rfl (by decide) (by decide) (by decide) (by decide) rfl (fun T h141 v_ ws_ X hgr_ q142 => ?_)
  obtain ⟨ct2, cr2, rfl, cK2, chT2, cS2, cq2, rfl⟩ := q142
  show Go p e below _ T (mkF m 79 #[.val (.ref p0), .val (.ref q0), .val (.int (0 : Int32)), .val (.ref ld)] [(.ref b132), (.ref kd), (.ref b129), (.ref b129)])
  replace X := X.sub (ws' := [ct2, b132, b129]) (by simp)
  have ne_b129_ct2 : b129 ≠ ct2 := chT2.elim (fun q => by rw [q]; exact ne_b129_ct1) (fun q => Nat.ne_of_lt (Nat.lt_of_lt_of_le E_b129.lt q))
  have ne_b132_ct2 : b132 ≠ ct2 := chT2.elim (fun q => by rw [q]; exact ne_b132_ct1) (fun q => Nat.ne_of_lt (Nat.lt_of_lt_of_le E_b132.lt q))
  have ne_l3_ct2 : l3 ≠ ct2 := chT2.elim (fun q => by rw [q]; exact ne_l3_ct1) (fun q => Nat.ne_of_lt (Nat.lt_of_lt_of_le E_l3.lt q))
  have ne_m3_ct2 : m3 ≠ ct2 := chT2.elim (fun q => by rw [q]; exact ne_m3_ct1) (fun q => Nat.ne_of_lt (Nat.lt_of_lt_of_le A_m3.lt q))
  have g_ct2 : Z.heap.size ≤ ct2 := chT2.elim (fun q => by rw [q]; exact g_ct1) (fun q => Nat.le_trans g_b132 (Nat.le_trans (Nat.le_of_lt E_b132.lt) q))
  have sz_R__ct2 : h.size ≤ ct2 := chT2.elim (fun q => by rw [q]; exact sz_R__ct1) (fun q => Nat.le_trans R_.1 q)
  replace F_b129_cause := F_b129_cause.keep cK2 (ninS ne_b129_b132 (ninS ne_b129_ct1 nin0))
  replace F_b129_stackTrace := F_b129_stackTrace.keep cK2 (ninS ne_b129_b132 (ninS ne_b129_ct1 nin0))
  replace F_b129_suppressedExceptions := F_b129_suppressedExceptions.keep cK2 (ninS ne_b129_b132 (ninS ne_b129_ct1 nin0))
  replace F_b129_detailMessage := F_b129_detailMessage.keep cK2 (ninS ne_b129_b132 (ninS ne_b129_ct1 nin0))
  replace F_b129_backtrace := F_b129_backtrace.keep cK2 (ninS ne_b129_b132 (ninS ne_b129_ct1 nin0))
  replace F_b129_depth := F_b129_depth.keep cK2 (ninS ne_b129_b132 (ninS ne_b129_ct1 nin0))
  replace F_b129_kind := F_b129_kind.keep cK2 (ninS ne_b129_b132 (ninS ne_b129_ct1 nin0))
  replace F_l3_coder := F_l3_coder.keep cK2 (ninS ne_l3_b132 (ninS ne_l3_ct1 nin0))
  replace F_l3_value := F_l3_value.keep cK2 (ninS ne_l3_b132 (ninS ne_l3_ct1 nin0))
  replace A_m3 := A_m3.keep cK2 (ninS ne_m3_b132 (ninS ne_m3_ct1 nin0))
  replace E_b129 := E_b129.keep cK2
  replace E_b132 := E_b132.keep cK2
  replace E_l3 := E_l3.keep cK2
  replace N_b129 := Unt.keep cK2 (ninS ne_b129_b132 (ninS ne_b129_ct1 nin0)) N_b129
  replace R_ := ext_keep R_ cK2 (allS sz_R__b132 (allS sz_R__ct1 all0))
  have cl2 : (ce1 ++ own_x58).length = 84 := by first | rw [List.length_append, cl1, clm2] | rw [List.length_append, cl1]
  have cc2 : (ce1 ++ own_x58).length + cr2.length = 88 := by
    first | rw [cc1, cl1, clm2] at cq2 | rw [cc1, cl1] at cq2
    rw [cl2]; exact cq2.trans (by decide)
  have ch2 : Lat (ce1 ++ own_x58) := Lat.app ch1 own_xl58
  obtain ⟨ce2, gce2⟩ : ∃ z, z = ce1 ++ own_x58 := ⟨_, rfl⟩
  rw [← gce2] at cS2 cl2 cc2 ch2
  refine s_aloadN X (pc' := 80) d7_79 rfl rfl rfl ?_
  replace Sq0 := Sq0.ext R_
  refine s_static X (pc' := 83) (W := 4) (as' := [(.ref q0)]) (S := [(.ref b132), (.ref kd), (.ref b129), (.ref b129)]) (k' := 28) (n' := 2223) d7_80 (hw _ (List.mem_of_getElem? (i := 171) rfl)) (hw _ (List.mem_of_getElem? (i := 172) rfl)) (hw _ (List.mem_of_getElem? (i := 173) rfl)) (hw _ (List.mem_of_getElem? (i := 174) rfl)) (by decide) own_pd23 rfl ((own_nm l Z a0 hw hEL q0 _ Sq0 hqs hql O2 P5).payS (by simp) (hw _ (List.mem_of_getElem? (i := 174) rfl)) (hw _ (List.mem_of_getElem? (i := 173) rfl)) hEL (by decide) (by decide)) (Nat.le_of_ble_eq_true rfl) rfl rfl (by decide) (by decide) (by decide) (by decide) rfl (fun T h143 v_ ws_ X hgr_ q144 => ?_)
  obtain ⟨nq, rfl, En_, S_nq, rfl⟩ := q144
  show Go p e below _ T (mkF m 83 #[.val (.ref p0), .val (.ref q0), .val (.int (0 : Int32)), .val (.ref ld)] [(.ref nq), (.ref b132), (.ref kd), (.ref b129), (.ref b129)])
  replace X := X.sub (ws' := [ct2, b132, b129]) (by simp)
  replace E_b129 := E_b129.ext En_
  replace E_b132 := E_b132.ext En_
  replace F_b129_cause := F_b129_cause.ext En_
  replace F_b129_stackTrace := F_b129_stackTrace.ext En_
  replace F_b129_suppressedExceptions := F_b129_suppressedExceptions.ext En_
  replace F_b129_detailMessage := F_b129_detailMessage.ext En_
  replace F_b129_backtrace := F_b129_backtrace.ext En_
  replace F_b129_depth := F_b129_depth.ext En_
  replace F_b129_kind := F_b129_kind.ext En_
  replace N_b129 := Unt.ext En_ N_b129
  replace R_ := ext_trans R_ En_
  replace cS2 := cS2.ext En_
  obtain ⟨tn, E_nq, F_nq_value, F_nq_coder, A_tn⟩ := S_nq.latin (fun c hc => (hqs c hc).2)
  have ne_nq_ct2 : nq ≠ ct2 := Exa.ne E_nq cS2.2.2.2.2.2 (by decide)
  have ne_tn_ct2 : tn ≠ ct2 := ary_ne A_tn cS2.2.2.2.2.1 (by
    show (bys qs).length ≠ (bys ce2 ++ cr2).length
    rw [bys_len, hql, List.length_append, bys_len, cc2]; decide)
  have ne_tn_b132 : tn ≠ b132 := by obtain ⟨kc, q⟩ := A_tn.arv .null; exact (Exa.neArv E_b132 q (hw _ (List.mem_of_getElem? (i := 35) rfl))).symm
  have ne_tn_b129 : tn ≠ b129 := by obtain ⟨kc, q⟩ := A_tn.arv .null; exact (Exa.neArv E_b129 q (hw _ (List.mem_of_getElem? (i := 166) rfl))).symm
  have ne_tn_nq : tn ≠ nq := by obtain ⟨kc, q⟩ := A_tn.arv .null; exact (Exa.neArv E_nq q (hw _ (List.mem_of_getElem? (i := 2) rfl))).symm
  have clm3 : qs.length = 2 := hql
  refine s_virtual X (pc' := 86) (W := 3) (as' := [(.ref nq)]) (S := [(.ref kd), (.ref b129), (.ref b129)]) (k' := 29) (n' := 2401) d7_83 (hw _ (List.mem_of_getElem? (i := 55) rfl)) (hw _ (List.mem_of_getElem? (i := 56) rfl)) (hw _ (List.mem_of_getElem? (i := 58) rfl)) (hw _ (List.mem_of_getElem? (i := 57) rfl)) (nface (hw _ (List.mem_of_getElem? (i := 58) rfl))) (by decide) own_pd21 rfl E_b132 ((sb_sapp l Z a0 hw hEL b132 nq _ cS2 E_nq F_nq_value F_nq_coder A_tn hqs (by rw [clm3]; decide) (by rw [cc2]; decide) (by rw [cc2]; decide) (by rw [clm3]; decide) (by first | (rw [cc2, cl2, clm3]; decide) | (rw [cc2, cl2]; decide)) g_b132 g_ct2 ne_tn_ct2 O2 P5).payS (by simp) (hw _ (List.mem_of_getElem? (i := 59) rfl)) (hw _ (List.mem_of_getElem? (i := 36) rfl)) hEL (by decide) (by decide)) (Nat.le_of_ble_eq_true rfl) rfl rfl (by decide) (by decide) (by decide) (by decide) rfl (fun T h145 v_ ws_ X hgr_ q146 => ?_)
  obtain ⟨ct3, cr3, rfl, cK3, chT3, cS3, cq3, rfl⟩ := q146
  show Go p e below _ T (mkF m 86 #[.val (.ref p0), .val (.ref q0), .val (.int (0 : Int32)), .val (.ref ld)] [(.ref b132), (.ref kd), (.ref b129), (.ref b129)])
  replace X := X.sub (ws' := [ct3, b132, b129]) (by simp)
  have ne_b129_ct3 : b129 ≠ ct3 := chT3.elim (fun q => by rw [q]; exact ne_b129_ct2) (fun q => Nat.ne_of_lt (Nat.lt_of_lt_of_le E_b129.lt q))
  have ne_b132_ct3 : b132 ≠ ct3 := chT3.elim (fun q => by rw [q]; exact ne_b132_ct2) (fun q => Nat.ne_of_lt (Nat.lt_of_lt_of_le E_b132.lt q))
  have ne_nq_ct3 : nq ≠ ct3 := chT3.elim (fun q => by rw [q]; exact ne_nq_ct2) (fun q => Nat.ne_of_lt (Nat.lt_of_lt_of_le E_nq.lt q))
  have ne_tn_ct3 : tn ≠ ct3 := chT3.elim (fun q => by rw [q]; exact ne_tn_ct2) (fun q => Nat.ne_of_lt (Nat.lt_of_lt_of_le A_tn.lt q))
  have g_ct3 : Z.heap.size ≤ ct3 := chT3.elim (fun q => by rw [q]; exact g_ct2) (fun q => Nat.le_trans g_b132 (Nat.le_trans (Nat.le_of_lt E_b132.lt) q))
  have sz_R__ct3 : h.size ≤ ct3 := chT3.elim (fun q => by rw [q]; exact sz_R__ct2) (fun q => Nat.le_trans R_.1 q)
  replace F_b129_cause := F_b129_cause.keep cK3 (ninS ne_b129_b132 (ninS ne_b129_ct2 nin0))
  replace F_b129_stackTrace := F_b129_stackTrace.keep cK3 (ninS ne_b129_b132 (ninS ne_b129_ct2 nin0))
  replace F_b129_suppressedExceptions := F_b129_suppressedExceptions.keep cK3 (ninS ne_b129_b132 (ninS ne_b129_ct2 nin0))
  replace F_b129_detailMessage := F_b129_detailMessage.keep cK3 (ninS ne_b129_b132 (ninS ne_b129_ct2 nin0))
  replace F_b129_backtrace := F_b129_backtrace.keep cK3 (ninS ne_b129_b132 (ninS ne_b129_ct2 nin0))
  replace F_b129_depth := F_b129_depth.keep cK3 (ninS ne_b129_b132 (ninS ne_b129_ct2 nin0))
  replace F_b129_kind := F_b129_kind.keep cK3 (ninS ne_b129_b132 (ninS ne_b129_ct2 nin0))
  replace F_nq_value := F_nq_value.keep cK3 (ninS (Exa.ne E_nq E_b132 (by decide)) (ninS ne_nq_ct2 nin0))
  replace F_nq_coder := F_nq_coder.keep cK3 (ninS (Exa.ne E_nq E_b132 (by decide)) (ninS ne_nq_ct2 nin0))
  replace A_tn := A_tn.keep cK3 (ninS ne_tn_b132 (ninS ne_tn_ct2 nin0))
  replace E_b129 := E_b129.keep cK3
  replace E_b132 := E_b132.keep cK3
  replace E_nq := E_nq.keep cK3
  replace N_b129 := Unt.keep cK3 (ninS ne_b129_b132 (ninS ne_b129_ct2 nin0)) N_b129
  replace R_ := ext_keep R_ cK3 (allS sz_R__b132 (allS sz_R__ct2 all0))
  have cl3 : (ce2 ++ qs).length = 86 := by first | rw [List.length_append, cl2, clm3] | rw [List.length_append, cl2]
  have cc3 : (ce2 ++ qs).length + cr3.length = 88 := by
    first | rw [cc2, cl2, clm3] at cq3 | rw [cc2, cl2] at cq3
    rw [cl3]; exact cq3.trans (by decide)
  have ch3 : Lat (ce2 ++ qs) := Lat.app ch2 hqs
  obtain ⟨ce3, gce3⟩ : ∃ z, z = ce2 ++ qs := ⟨_, rfl⟩
  rw [← gce3] at cS3 cl3 cc3 ch3
  refine s_ldcS X (pc' := 88) (k' := 31) (n' := 2429) (nn := 24) (vs := [(.int (32 : Int32)), (.int (101 : Int32)), (.int (108 : Int32)), (.int (101 : Int32)), (.int (99 : Int32)), (.int (116 : Int32))]) (z := (6 : Int32)) hEL d7_86 (hw _ (List.mem_of_getElem? (i := 203) rfl)) (fun d hd => hw d ((by decide +kernel : ∀ d ∈ Bundle.stringAtoms, d ∈ tables_1) d hd)) (by simp [consts_1]) (by decide) (by decide) (by decide) (by decide) (by decide) (by decide) (by decide) (by decide) (by decide) rfl (fun T h147 l4 m4 kc_m4 X' E148 E_l4 F_l4_coder F_l4_value V_m4 nw_ => ?_)
  replace E_b129 := E_b129.ext E148
  replace E_b132 := E_b132.ext E148
  replace F_b129_cause := F_b129_cause.ext E148
  replace F_b129_stackTrace := F_b129_stackTrace.ext E148
  replace F_b129_suppressedExceptions := F_b129_suppressedExceptions.ext E148
  replace F_b129_detailMessage := F_b129_detailMessage.ext E148
  replace F_b129_backtrace := F_b129_backtrace.ext E148
  replace F_b129_depth := F_b129_depth.ext E148
  replace F_b129_kind := F_b129_kind.ext E148
  replace N_b129 := Unt.ext E148 N_b129
  replace R_ := ext_trans R_ E148
  replace X := X'
  have ne_ct3_l4 : ct3 ≠ l4 := (nw_ ct3 (by simp)).1
  have ne_ct3_m4 : ct3 ≠ m4 := (nw_ ct3 (by simp)).2
  have ne_b132_l4 : b132 ≠ l4 := (nw_ b132 (by simp)).1
  have ne_b132_m4 : b132 ≠ m4 := (nw_ b132 (by simp)).2
  have ne_b129_l4 : b129 ≠ l4 := (nw_ b129 (by simp)).1
  have ne_b129_m4 : b129 ≠ m4 := (nw_ b129 (by simp)).2
  have A_m4 : Ary Z h147 m4 .byte (bys own_x66) := Ary.of_arv V_m4 rfl (by decide)
  replace cS3 := cS3.ext E148
  have ne_l4_ct3 := ne_ct3_l4.symm
  have ne_m4_ct3 := ne_ct3_m4.symm
  have ne_l4_b132 := ne_b132_l4.symm
  have ne_m4_b132 := ne_b132_m4.symm
  have ne_l4_b129 := ne_b129_l4.symm
  have ne_m4_b129 := ne_b129_m4.symm
  have ne_l4_ct3 := ne_ct3_l4.symm
  have ne_m4_ct3 := ne_ct3_m4.symm
  have clm4 : own_x66.length = 6 := rfl
  refine s_virtual X (pc' := 91) (W := 3) (as' := [(.ref l4)]) (S := [(.ref kd), (.ref b129), (.ref b129)]) (k' := 32) (n' := 2607) d7_88 (hw _ (List.mem_of_getElem? (i := 55) rfl)) (hw _ (List.mem_of_getElem? (i := 56) rfl)) (hw _ (List.mem_of_getElem? (i := 58) rfl)) (hw _ (List.mem_of_getElem? (i := 57) rfl)) (nface (hw _ (List.mem_of_getElem? (i := 58) rfl))) (by decide) own_pd21 rfl E_b132 ((sb_sapp l Z a0 hw hEL b132 l4 _ cS3 E_l4 F_l4_value F_l4_coder A_m4 own_xl66 (by rw [clm4]; decide) (by rw [cc3]; decide) (by rw [cc3]; decide) (by rw [clm4]; decide) (by first | (rw [cc3, cl3, clm4]; decide) | (rw [cc3, cl3]; decide)) g_b132 g_ct3 ne_m4_ct3 O2 P5).payS (by simp) (hw _ (List.mem_of_getElem? (i := 59) rfl)) (hw _ (List.mem_of_getElem? (i := 36) rfl)) hEL (by decide) (by decide)) (Nat.le_of_ble_eq_true rfl) rfl rfl (by decide) (by decide) (by decide) (by decide) rfl (fun T h149 v_ ws_ X hgr_ q150 => ?_)
  obtain ⟨ct4, cr4, rfl, cK4, chT4, cS4, cq4, rfl⟩ := q150
  show Go p e below _ T (mkF m 91 #[.val (.ref p0), .val (.ref q0), .val (.int (0 : Int32)), .val (.ref ld)] [(.ref b132), (.ref kd), (.ref b129), (.ref b129)])
  replace X := X.sub (ws' := [ct4, b132, b129]) (by simp)
  have ne_b129_ct4 : b129 ≠ ct4 := chT4.elim (fun q => by rw [q]; exact ne_b129_ct3) (fun q => Nat.ne_of_lt (Nat.lt_of_lt_of_le E_b129.lt q))
  have ne_b132_ct4 : b132 ≠ ct4 := chT4.elim (fun q => by rw [q]; exact ne_b132_ct3) (fun q => Nat.ne_of_lt (Nat.lt_of_lt_of_le E_b132.lt q))
  have ne_l4_ct4 : l4 ≠ ct4 := chT4.elim (fun q => by rw [q]; exact ne_l4_ct3) (fun q => Nat.ne_of_lt (Nat.lt_of_lt_of_le E_l4.lt q))
  have ne_m4_ct4 : m4 ≠ ct4 := chT4.elim (fun q => by rw [q]; exact ne_m4_ct3) (fun q => Nat.ne_of_lt (Nat.lt_of_lt_of_le A_m4.lt q))
  have g_ct4 : Z.heap.size ≤ ct4 := chT4.elim (fun q => by rw [q]; exact g_ct3) (fun q => Nat.le_trans g_b132 (Nat.le_trans (Nat.le_of_lt E_b132.lt) q))
  have sz_R__ct4 : h.size ≤ ct4 := chT4.elim (fun q => by rw [q]; exact sz_R__ct3) (fun q => Nat.le_trans R_.1 q)
  replace F_b129_cause := F_b129_cause.keep cK4 (ninS ne_b129_b132 (ninS ne_b129_ct3 nin0))
  replace F_b129_stackTrace := F_b129_stackTrace.keep cK4 (ninS ne_b129_b132 (ninS ne_b129_ct3 nin0))
  replace F_b129_suppressedExceptions := F_b129_suppressedExceptions.keep cK4 (ninS ne_b129_b132 (ninS ne_b129_ct3 nin0))
  replace F_b129_detailMessage := F_b129_detailMessage.keep cK4 (ninS ne_b129_b132 (ninS ne_b129_ct3 nin0))
  replace F_b129_backtrace := F_b129_backtrace.keep cK4 (ninS ne_b129_b132 (ninS ne_b129_ct3 nin0))
  replace F_b129_depth := F_b129_depth.keep cK4 (ninS ne_b129_b132 (ninS ne_b129_ct3 nin0))
  replace F_b129_kind := F_b129_kind.keep cK4 (ninS ne_b129_b132 (ninS ne_b129_ct3 nin0))
  replace F_l4_coder := F_l4_coder.keep cK4 (ninS ne_l4_b132 (ninS ne_l4_ct3 nin0))
  replace F_l4_value := F_l4_value.keep cK4 (ninS ne_l4_b132 (ninS ne_l4_ct3 nin0))
  replace A_m4 := A_m4.keep cK4 (ninS ne_m4_b132 (ninS ne_m4_ct3 nin0))
  replace E_b129 := E_b129.keep cK4
  replace E_b132 := E_b132.keep cK4
  replace E_l4 := E_l4.keep cK4
  replace N_b129 := Unt.keep cK4 (ninS ne_b129_b132 (ninS ne_b129_ct3 nin0)) N_b129
  replace R_ := ext_keep R_ cK4 (allS sz_R__b132 (allS sz_R__ct3 all0))
  have cl4 : (ce3 ++ own_x66).length = 92 := by first | rw [List.length_append, cl3, clm4] | rw [List.length_append, cl3]
  have cc4 : (ce3 ++ own_x66).length + cr4.length = 178 := by
    first | rw [cc3, cl3, clm4] at cq4 | rw [cc3, cl3] at cq4
    rw [cl4]; exact cq4.trans (by decide)
  have ch4 : Lat (ce3 ++ own_x66) := Lat.app ch3 own_xl66
  obtain ⟨ce4, gce4⟩ : ∃ z, z = ce3 ++ own_x66 := ⟨_, rfl⟩
  rw [← gce4] at cS4 cl4 cc4 ch4
  refine s_virtual X (pc' := 94) (W := 3) (as' := []) (S := [(.ref kd), (.ref b129), (.ref b129)]) (k' := 34) (n' := 2789) d7_91 (hw _ (List.mem_of_getElem? (i := 126) rfl)) (hw _ (List.mem_of_getElem? (i := 127) rfl)) (hw _ (List.mem_of_getElem? (i := 129) rfl)) (hw _ (List.mem_of_getElem? (i := 128) rfl)) (nface (hw _ (List.mem_of_getElem? (i := 129) rfl))) (by decide) own_pd18 rfl E_b132 ((sb_ts l Z a0 hw hEL b132 _ cS4 (by rw [cc4]; decide) (by rw [cl4]; decide) (fun z => by have q := cc4; rw [z, cl4] at q; exact absurd q (by decide)) ch4 O2 P5).payS (by simp) (hw _ (List.mem_of_getElem? (i := 130) rfl)) (hw _ (List.mem_of_getElem? (i := 36) rfl)) hEL (by decide) (by decide)) (Nat.le_of_ble_eq_true rfl) rfl rfl (by decide) (by decide) (by decide) (by decide) rfl (fun T h151 v_ ws_ X hgr_ q152 => ?_)
  obtain ⟨mg, rfl, Et_, S_mg, rfl⟩ := q152
  show Go p e below _ T (mkF m 94 #[.val (.ref p0), .val (.ref q0), .val (.int (0 : Int32)), .val (.ref ld)] [(.ref mg), (.ref kd), (.ref b129), (.ref b129)])
  replace X := X.sub (ws' := [b129]) (by simp)
  replace E_b129 := E_b129.ext Et_
  replace F_b129_cause := F_b129_cause.ext Et_
  replace F_b129_stackTrace := F_b129_stackTrace.ext Et_
  replace F_b129_suppressedExceptions := F_b129_suppressedExceptions.ext Et_
  replace F_b129_detailMessage := F_b129_detailMessage.ext Et_
  replace F_b129_backtrace := F_b129_backtrace.ext Et_
  replace F_b129_depth := F_b129_depth.ext Et_
  replace F_b129_kind := F_b129_kind.ext Et_
  replace N_b129 := Unt.ext Et_ N_b129
  replace R_ := ext_trans R_ Et_
  refine s_aconst X (pc' := 95) d7_94 rfl ?_
  have E_mg := S_mg.exa
  have E0_r := E_b129
  have nmr : mg ≠ b129 := Exa.ne E_mg E_b129 (by decide)
  refine s_special X (pc' := 98) (W := 1) (as' := [(.ref kd), (.ref mg), .null]) (S := [(.ref b129)]) (k' := 35) (n' := 5541) d7_95 rfl (hw _ (List.mem_of_getElem? (i := 204) rfl)) (hw _ (List.mem_of_getElem? (i := 205) rfl)) (hw _ (List.mem_of_getElem? (i := 206) rfl)) (by decide) own_pd24 rfl ((own_ri l Z a0 hw hEL b129 kd mg _ g_b129 E_b129 N_b129 F_b129_cause F_b129_stackTrace F_b129_suppressedExceptions F_b129_backtrace F_b129_detailMessage F_b129_kind Us Ss hlt).payS (by simp) (hw _ (List.mem_of_getElem? (i := 206) rfl)) (hw _ (List.mem_of_getElem? (i := 32) rfl)) hEL (by decide) (by decide)) (Nat.le_of_ble_eq_true rfl) rfl rfl (by decide) (by decide) (by decide) (by decide) rfl (fun T h153 v_ ws_ X hgr_ q154 => ?_)
  obtain ⟨rfl, K_, E'_, F1_, F2_, rfl⟩ := q154
  show Go p e below _ T (mkF m 98 #[.val (.ref p0), .val (.ref q0), .val (.int (0 : Int32)), .val (.ref ld)] [(.ref b129)])
  replace X := X.sub (ws' := []) (by simp)
  replace R_ := ext_keep R_ K_ (allS sz_R__b129 all0)
  replace S_mg := S_mg.keepS K_ E0_r nmr (hw _ (List.mem_of_getElem? (i := 166) rfl))
  have eM : ce4 = own_msg0 ps qs := by rw [gce4, gce3, gce2, gce1, gae3, gae2, gae1]; rfl
  rw [eM] at S_mg ch4
  exact s_aret X hEL (ws' := []) (t := (.object "com/example/vestwright/vestwright/run/RunRefusedException")) d7_98 rfl rfl rfl rfl (by decide) (by decide) (fun x q => by simp at q) ⟨b129, mg, rfl, R_, E'_, F1_, F2_, S_mg, ch4, rfl⟩
theorem ef_own_ne1 (m : MethodId) (p0 q0 : Addr) : entryFrame m #[(.ref p0), (.ref q0), (.int (1 : Int32))] 4 = mkF m 0 #[.val (.ref p0), .val (.ref q0), .val (.int (1 : Int32)), .unset] [] := by first | (simp [entryFrame, mkF, argsToLocals, Value.category]; done) | rfl
set_option maxRecDepth 65536 in
set_option maxHeartbeats 40000000 in
theorem own_ne1 (l : Launch) (Z : State) (a0 : Array Value) (hw : ∀ d ∈ tables_1, d.before a0 Z = true) (hEL : EW Z a0 consts_1) (p0 q0 : Addr) (h : Heap) {G1 : Int32} {kd : Addr} {ps qs : List Int32} {us ss : Addr} (S_p0 : Str Z h p0 ps) (hps : Lat ps) (hpl : ps.length = 2) (S_q0 : Str Z h q0 qs) (hqs : Lat qs) (hql : qs.length = 2) (In : Sta Z Z.heap "com/example/vestwright/vestwright/run/RunRefusedException$Kind" "NO_ELECTIONS" "Lcom/example/vestwright/vestwright/run/RunRefusedException$Kind;" (.ref kd)) (Us : Sta Z Z.heap "java/lang/Throwable" "UNASSIGNED_STACK" "[Ljava/lang/StackTraceElement;" (.ref us)) (Ss : Sta Z Z.heap "java/lang/Throwable" "SUPPRESSED_SENTINEL" "Ljava/util/List;" (.ref ss)) (hlt : l.stackTraces = true) (O2 : Sta Z Z.heap "java/lang/String" "COMPACT_STRINGS" "Z" (.int G1)) (P5 : ¬ (G1 = (0 : Int32))) :
    Con l Z consts_1 True (⟨"com/example/vestwright/vestwright/run/RunRefusedException", "noElections", "(Ljava/lang/String;Ljava/lang/String;Z)Lcom/example/vestwright/vestwright/run/RunRefusedException;"⟩ : MethodName) prog_47_method_4_code 4 (some (.object "com/example/vestwright/vestwright/run/RunRefusedException")) ({ frames := 9, cells := 40, slots := 7000, locals := 150 } : Room) [] #[(.ref p0), (.ref q0), (.int (1 : Int32))] h (fun v h' ws' => ∃ r mg, v = some (.ref r) ∧ Ext h h' ∧ Exa Z h' r "com/example/vestwright/vestwright/run/RunRefusedException" ∧ Fld Z h' r "com/example/vestwright/vestwright/run/RunRefusedException" "kind" "Lcom/example/vestwright/vestwright/run/RunRefusedException$Kind;" (.ref kd) ∧ Fld Z h' r "java/lang/Throwable" "detailMessage" "Ljava/lang/String;" (.ref mg) ∧ Str Z h' mg (own_msg1 ps qs) ∧ Lat (own_msg1 ps qs) ∧ ws' = []) := by
  refine Con.intro own_pn36 (fun p e s m below meth c T X => ?_)
  rw [ef_own_ne1 m p0 q0]
  have R_ : Ext h h := ext_refl _
  obtain ⟨tp, E_p0, F_p0_value, F_p0_coder, A_tp⟩ := S_p0.latin (fun c hc => (hps c hc).2)
  have Sq0 := S_q0
  refine s_iloadN X (pc' := 1) d7_0 rfl rfl ?_
  refine s_ifF X (pc' := 4) d7_1 (show ¬ (1 : Int32) = (0 : Int32) by decide) rfl ?_
  refine s_new X (pc' := 7) (k' := 1) (n' := 4) d7_4 (hw _ (List.mem_of_getElem? (i := 34) rfl)) (hw _ (List.mem_of_getElem? (i := 35) rfl)) (hw _ (List.mem_of_getElem? (i := 36) rfl)) (by decide) (by decide) (by decide) (by decide) rfl (fun T h156 b155 gb_b155 X' E157 E_b155 D_b155 U_b155 => ?_)
  have g_b155 : Z.heap.size ≤ b155 := by rw [gb_b155]; exact X.lt
  have ne_p0_b155 : p0 ≠ b155 := Nat.ne_of_lt (by rw [gb_b155]; exact E_p0.lt)
  have ne_tp_b155 : tp ≠ b155 := Nat.ne_of_lt (by rw [gb_b155]; exact A_tp.lt)
  have sz_R__b155 : h.size ≤ b155 := by rw [gb_b155]; exact R_.1
  replace E_p0 := E_p0.ext E157
  replace F_p0_value := F_p0_value.ext E157
  replace F_p0_coder := F_p0_coder.ext E157
  replace A_tp := A_tp.ext E157
  replace R_ := ext_trans R_ E157
  replace X := X'
  have F_b155_value : Fld Z h156 b155 "java/lang/AbstractStringBuilder" "value" "[B" .null := D_b155 (Or.inl (hw _ (List.mem_of_getElem? (i := 49) rfl))) (ty := (.array .byte)) (by decide)
  have F_b155_coder : Fld Z h156 b155 "java/lang/AbstractStringBuilder" "coder" "B" (.int (0 : Int32)) := D_b155 (Or.inl (hw _ (List.mem_of_getElem? (i := 51) rfl))) (ty := .byte) (by decide)
  have F_b155_count : Fld Z h156 b155 "java/lang/AbstractStringBuilder" "count" "I" (.int (0 : Int32)) := D_b155 (Or.inl (hw _ (List.mem_of_getElem? (i := 76) rfl))) (ty := .int) (by decide)
  refine s_dup X (pc' := 8) d7_7 rfl rfl ?_
  refine s_special X (pc' := 11) (W := 1) (as' := []) (S := [(.ref b155)]) (k' := 2) (n' := 20) d7_8 rfl (hw _ (List.mem_of_getElem? (i := 37) rfl)) (hw _ (List.mem_of_getElem? (i := 38) rfl)) (hw _ (List.mem_of_getElem? (i := 39) rfl)) (by decide) own_pd20 rfl ((sb_ini l Z a0 hw hEL b155 _ g_b155 E_b155 F_b155_value F_b155_coder F_b155_count O2 P5).payS (by simp) (hw _ (List.mem_of_getElem? (i := 39) rfl)) (hw _ (List.mem_of_getElem? (i := 36) rfl)) hEL (by decide) (by decide)) (Nat.le_of_ble_eq_true rfl) rfl rfl (by decide) (by decide) (by decide) (by decide) rfl (fun T h158 v_ ws_ X hgr_ q159 => ?_)
  obtain ⟨rfl, K1_, ⟨at0, ahz, aS0, rfl⟩⟩ := q159
  show Go p e below _ T (mkF m 11 #[.val (.ref p0), .val (.ref q0), .val (.int (1 : Int32)), .unset] [(.ref b155)])
  replace X := X.sub (ws' := [at0, b155]) (by simp)
  have ne_p0_at0 : p0 ≠ at0 := Nat.ne_of_lt (Nat.lt_of_lt_of_le E_p0.lt ahz)
  have ne_b155_at0 : b155 ≠ at0 := Nat.ne_of_lt (Nat.lt_of_lt_of_le E_b155.lt ahz)
  have ne_tp_at0 : tp ≠ at0 := Nat.ne_of_lt (Nat.lt_of_lt_of_le A_tp.lt ahz)
  have g_at0 : Z.heap.size ≤ at0 := Nat.le_trans g_b155 (Nat.le_trans (Nat.le_of_lt E_b155.lt) ahz)
  have sz_R__at0 : h.size ≤ at0 := Nat.le_trans R_.1 ahz
  replace F_p0_value := F_p0_value.keep K1_ (ninS ne_p0_b155 nin0)
  replace F_p0_coder := F_p0_coder.keep K1_ (ninS ne_p0_b155 nin0)
  replace A_tp := A_tp.keep K1_ (ninS ne_tp_b155 nin0)
  replace E_p0 := E_p0.keep K1_
  replace E_b155 := E_b155.keep K1_
  replace R_ := ext_keep R_ K1_ (allS sz_R__b155 all0)
  have al0 : ([] : List Int32).length = 0 := rfl
  have ac0 : ([] : List Int32).length + (List.replicate 16 (Value.int (0 : Int32))).length = 16 := rfl
  have ah0 : Lat ([] : List Int32) := fun c hc => nomatch hc
  refine s_ldcS X (pc' := 13) (k' := 4) (n' := 156) (nn := 132) (vs := [(.int (45 : Int32)), (.int (45 : Int32)), (.int (114 : Int32)), (.int (111 : Int32)), (.int (116 : Int32)), (.int (104 : Int32)), (.int (45 : Int32)), (.int (101 : Int32)), (.int (108 : Int32)), (.int (101 : Int32)), (.int (99 : Int32)), (.int (116 : Int32)), (.int (105 : Int32)), (.int (111 : Int32)), (.int (110 : Int32)), (.int (115 : Int32)), (.int (32 : Int32)), (.int (105 : Int32)), (.int (115 : Int32)), (.int (32 : Int32)), (.int (109 : Int32)), (.int (105 : Int32)), (.int (115 : Int32)), (.int (115 : Int32)), (.int (105 : Int32)), (.int (110 : Int32)), (.int (103 : Int32)), (.int (44 : Int32)), (.int (32 : Int32)), (.int (97 : Int32)), (.int (110 : Int32)), (.int (100 : Int32)), (.int (32 : Int32))]) (z := (33 : Int32)) hEL d7_11 (hw _ (List.mem_of_getElem? (i := 293) rfl)) (fun d hd => hw d ((by decide +kernel : ∀ d ∈ Bundle.stringAtoms, d ∈ tables_1) d hd)) (by simp [consts_1]) (by decide) (by decide) (by decide) (by decide) (by decide) (by decide) (by decide) (by decide) (by decide) rfl (fun T h160 l1 m1 kc_m1 X' E161 E_l1 F_l1_coder F_l1_value V_m1 nw_ => ?_)
  replace E_p0 := E_p0.ext E161
  replace E_b155 := E_b155.ext E161
  replace F_p0_value := F_p0_value.ext E161
  replace F_p0_coder := F_p0_coder.ext E161
  replace A_tp := A_tp.ext E161
  replace R_ := ext_trans R_ E161
  replace X := X'
  have ne_at0_l1 : at0 ≠ l1 := (nw_ at0 (by simp)).1
  have ne_at0_m1 : at0 ≠ m1 := (nw_ at0 (by simp)).2
  have ne_b155_l1 : b155 ≠ l1 := (nw_ b155 (by simp)).1
  have ne_b155_m1 : b155 ≠ m1 := (nw_ b155 (by simp)).2
  have A_m1 : Ary Z h160 m1 .byte (bys own_x47) := Ary.of_arv V_m1 rfl (by decide)
  replace aS0 := aS0.ext E161
  have ne_l1_at0 := ne_at0_l1.symm
  have ne_m1_at0 := ne_at0_m1.symm
  have ne_l1_b155 := ne_b155_l1.symm
  have ne_m1_b155 := ne_b155_m1.symm
  have ne_l1_at0 := ne_at0_l1.symm
  have ne_m1_at0 := ne_at0_m1.symm
  have alm1 : own_x47.length = 33 := rfl
  refine s_virtual X (pc' := 16) (W := 0) (as' := [(.ref l1)]) (S := []) (k' := 5) (n' := 334) d7_13 (hw _ (List.mem_of_getElem? (i := 55) rfl)) (hw _ (List.mem_of_getElem? (i := 56) rfl)) (hw _ (List.mem_of_getElem? (i := 58) rfl)) (hw _ (List.mem_of_getElem? (i := 57) rfl)) (nface (hw _ (List.mem_of_getElem? (i := 58) rfl))) (by decide) own_pd21 rfl E_b155 ((sb_sapp l Z a0 hw hEL b155 l1 _ aS0 E_l1 F_l1_value F_l1_coder A_m1 own_xl47 (by rw [alm1]; decide) (by rw [ac0]; decide) (by rw [ac0]; decide) (by rw [alm1]; decide) (by first | (rw [ac0, al0, alm1]; decide) | (rw [ac0, al0]; decide)) g_b155 g_at0 ne_m1_at0 O2 P5).payS (by simp) (hw _ (List.mem_of_getElem? (i := 59) rfl)) (hw _ (List.mem_of_getElem? (i := 36) rfl)) hEL (by decide) (by decide)) (Nat.le_of_ble_eq_true rfl) rfl rfl (by decide) (by decide) (by decide) (by decide) rfl (fun T h162 v_ ws_ X hgr_ q163 => ?_)
  obtain ⟨at1, ar1, rfl, aK1, ahT1, aS1, aq1, rfl⟩ := q163
  show Go p e below _ T (mkF m 16 #[.val (.ref p0), .val (.ref q0), .val (.int (1 : Int32)), .unset] [(.ref b155)])
  replace X := X.sub (ws' := [at1, b155]) (by simp)
  have ne_p0_at1 : p0 ≠ at1 := ahT1.elim (fun q => by rw [q]; exact ne_p0_at0) (fun q => Nat.ne_of_lt (Nat.lt_of_lt_of_le E_p0.lt q))
  have ne_b155_at1 : b155 ≠ at1 := ahT1.elim (fun q => by rw [q]; exact ne_b155_at0) (fun q => Nat.ne_of_lt (Nat.lt_of_lt_of_le E_b155.lt q))
  have ne_l1_at1 : l1 ≠ at1 := ahT1.elim (fun q => by rw [q]; exact ne_l1_at0) (fun q => Nat.ne_of_lt (Nat.lt_of_lt_of_le E_l1.lt q))
  have ne_tp_at1 : tp ≠ at1 := ahT1.elim (fun q => by rw [q]; exact ne_tp_at0) (fun q => Nat.ne_of_lt (Nat.lt_of_lt_of_le A_tp.lt q))
  have ne_m1_at1 : m1 ≠ at1 := ahT1.elim (fun q => by rw [q]; exact ne_m1_at0) (fun q => Nat.ne_of_lt (Nat.lt_of_lt_of_le A_m1.lt q))
  have g_at1 : Z.heap.size ≤ at1 := ahT1.elim (fun q => by rw [q]; exact g_at0) (fun q => Nat.le_trans g_b155 (Nat.le_trans (Nat.le_of_lt E_b155.lt) q))
  have sz_R__at1 : h.size ≤ at1 := ahT1.elim (fun q => by rw [q]; exact sz_R__at0) (fun q => Nat.le_trans R_.1 q)
  replace F_p0_value := F_p0_value.keep aK1 (ninS ne_p0_b155 (ninS ne_p0_at0 nin0))
  replace F_p0_coder := F_p0_coder.keep aK1 (ninS ne_p0_b155 (ninS ne_p0_at0 nin0))
  replace F_l1_coder := F_l1_coder.keep aK1 (ninS ne_l1_b155 (ninS ne_l1_at0 nin0))
  replace F_l1_value := F_l1_value.keep aK1 (ninS ne_l1_b155 (ninS ne_l1_at0 nin0))
  replace A_tp := A_tp.keep aK1 (ninS ne_tp_b155 (ninS ne_tp_at0 nin0))
  replace A_m1 := A_m1.keep aK1 (ninS ne_m1_b155 (ninS ne_m1_at0 nin0))
  replace E_p0 := E_p0.keep aK1
  replace E_b155 := E_b155.keep aK1
  replace E_l1 := E_l1.keep aK1
  replace R_ := ext_keep R_ aK1 (allS sz_R__b155 (allS sz_R__at0 all0))
  have al1 : (([] : List Int32) ++ own_x47).length = 33 := by first | rw [List.length_append, al0, alm1] | rw [List.length_append, al0]
  have ac1 : (([] : List Int32) ++ own_x47).length + ar1.length = 34 := by
    first | rw [ac0, al0, alm1] at aq1 | rw [ac0, al0] at aq1
    rw [al1]; exact aq1.trans (by decide)
  have ah1 : Lat (([] : List Int32) ++ own_x47) := Lat.app ah0 own_xl47
  obtain ⟨ae1, gae1⟩ : ∃ z, z = ([] : List Int32) ++ own_x47 := ⟨_, rfl⟩
  rw [← gae1] at aS1 al1 ac1 ah1
  refine s_aloadN X (pc' := 17) d7_16 rfl rfl rfl ?_
  have alm2 : ps.length = 2 := hpl
  refine s_virtual X (pc' := 20) (W := 0) (as' := [(.ref p0)]) (S := []) (k' := 6) (n' := 512) d7_17 (hw _ (List.mem_of_getElem? (i := 55) rfl)) (hw _ (List.mem_of_getElem? (i := 56) rfl)) (hw _ (List.mem_of_getElem? (i := 58) rfl)) (hw _ (List.mem_of_getElem? (i := 57) rfl)) (nface (hw _ (List.mem_of_getElem? (i := 58) rfl))) (by decide) own_pd21 rfl E_b155 ((sb_sapp l Z a0 hw hEL b155 p0 _ aS1 E_p0 F_p0_value F_p0_coder A_tp hps (by rw [alm2]; decide) (by rw [ac1]; decide) (by rw [ac1]; decide) (by rw [alm2]; decide) (by first | (rw [ac1, al1, alm2]; decide) | (rw [ac1, al1]; decide)) g_b155 g_at1 ne_tp_at1 O2 P5).payS (by simp) (hw _ (List.mem_of_getElem? (i := 59) rfl)) (hw _ (List.mem_of_getElem? (i := 36) rfl)) hEL (by decide) (by decide)) (Nat.le_of_ble_eq_true rfl) rfl rfl (by decide) (by decide) (by decide) (by decide) rfl (fun T h164 v_ ws_ X hgr_ q165 => ?_)
  obtain ⟨at2, ar2, rfl, aK2, ahT2, aS2, aq2, rfl⟩ := q165
  show Go p e below _ T (mkF m 20 #[.val (.ref p0), .val (.ref q0), .val (.int (1 : Int32)), .unset] [(.ref b155)])
  replace X := X.sub (ws' := [at2, b155]) (by simp)
  have ne_p0_at2 : p0 ≠ at2 := ahT2.elim (fun q => by rw [q]; exact ne_p0_at1) (fun q => Nat.ne_of_lt (Nat.lt_of_lt_of_le E_p0.lt q))
  have ne_b155_at2 : b155 ≠ at2 := ahT2.elim (fun q => by rw [q]; exact ne_b155_at1) (fun q => Nat.ne_of_lt (Nat.lt_of_lt_of_le E_b155.lt q))
  have ne_tp_at2 : tp ≠ at2 := ahT2.elim (fun q => by rw [q]; exact ne_tp_at1) (fun q => Nat.ne_of_lt (Nat.lt_of_lt_of_le A_tp.lt q))
  have g_at2 : Z.heap.size ≤ at2 := ahT2.elim (fun q => by rw [q]; exact g_at1) (fun q => Nat.le_trans g_b155 (Nat.le_trans (Nat.le_of_lt E_b155.lt) q))
  have sz_R__at2 : h.size ≤ at2 := ahT2.elim (fun q => by rw [q]; exact sz_R__at1) (fun q => Nat.le_trans R_.1 q)
  replace F_p0_value := F_p0_value.keep aK2 (ninS ne_p0_b155 (ninS ne_p0_at1 nin0))
  replace F_p0_coder := F_p0_coder.keep aK2 (ninS ne_p0_b155 (ninS ne_p0_at1 nin0))
  replace A_tp := A_tp.keep aK2 (ninS ne_tp_b155 (ninS ne_tp_at1 nin0))
  replace E_p0 := E_p0.keep aK2
  replace E_b155 := E_b155.keep aK2
  replace R_ := ext_keep R_ aK2 (allS sz_R__b155 (allS sz_R__at1 all0))
  have al2 : (ae1 ++ ps).length = 35 := by first | rw [List.length_append, al1, alm2] | rw [List.length_append, al1]
  have ac2 : (ae1 ++ ps).length + ar2.length = 70 := by
    first | rw [ac1, al1, alm2] at aq2 | rw [ac1, al1] at aq2
    rw [al2]; exact aq2.trans (by decide)
  have ah2 : Lat (ae1 ++ ps) := Lat.app ah1 hps
  obtain ⟨ae2, gae2⟩ : ∃ z, z = ae1 ++ ps := ⟨_, rfl⟩
  rw [← gae2] at aS2 al2 ac2 ah2
  refine s_ldcS X (pc' := 22) (k' := 8) (n' := 700) (nn := 184) (vs := [(.int (32 : Int32)), (.int (104 : Int32)), (.int (97 : Int32)), (.int (115 : Int32)), (.int (32 : Int32)), (.int (97 : Int32)), (.int (32 : Int32)), (.int (115 : Int32)), (.int (111 : Int32)), (.int (117 : Int32)), (.int (114 : Int32)), (.int (99 : Int32)), (.int (101 : Int32)), (.int (32 : Int32)), (.int (111 : Int32)), (.int (102 : Int32)), (.int (32 : Int32)), (.int (100 : Int32)), (.int (101 : Int32)), (.int (115 : Int32)), (.int (105 : Int32)), (.int (103 : Int32)), (.int (110 : Int32)), (.int (97 : Int32)), (.int (116 : Int32)), (.int (101 : Int32)), (.int (100 : Int32)), (.int (32 : Int32)), (.int (82 : Int32)), (.int (111 : Int32)), (.int (116 : Int32)), (.int (104 : Int32)), (.int (32 : Int32)), (.int (99 : Int32)), (.int (111 : Int32)), (.int (110 : Int32)), (.int (116 : Int32)), (.int (114 : Int32)), (.int (105 : Int32)), (.int (98 : Int32)), (.int (117 : Int32)), (.int (116 : Int32)), (.int (105 : Int32)), (.int (111 : Int32)), (.int (110 : Int32)), (.int (115 : Int32))]) (z := (46 : Int32)) hEL d7_20 (hw _ (List.mem_of_getElem? (i := 294) rfl)) (fun d hd => hw d ((by decide +kernel : ∀ d ∈ Bundle.stringAtoms, d ∈ tables_1) d hd)) (by simp [consts_1]) (by decide) (by decide) (by decide) (by decide) (by decide) (by decide) (by decide) (by decide) (by decide) rfl (fun T h166 l2 m2 kc_m2 X' E167 E_l2 F_l2_coder F_l2_value V_m2 nw_ => ?_)
  replace E_b155 := E_b155.ext E167
  replace R_ := ext_trans R_ E167
  replace X := X'
  have ne_at2_l2 : at2 ≠ l2 := (nw_ at2 (by simp)).1
  have ne_at2_m2 : at2 ≠ m2 := (nw_ at2 (by simp)).2
  have ne_b155_l2 : b155 ≠ l2 := (nw_ b155 (by simp)).1
  have ne_b155_m2 : b155 ≠ m2 := (nw_ b155 (by simp)).2
  have A_m2 : Ary Z h166 m2 .byte (bys own_x49) := Ary.of_arv V_m2 rfl (by decide)
  replace aS2 := aS2.ext E167
  have ne_l2_at2 := ne_at2_l2.symm
  have ne_m2_at2 := ne_at2_m2.symm
  have ne_l2_b155 := ne_b155_l2.symm
  have ne_m2_b155 := ne_b155_m2.symm
  have ne_l2_at2 := ne_at2_l2.symm
  have ne_m2_at2 := ne_at2_m2.symm
  have alm3 : own_x49.length = 46 := rfl
  refine s_virtual X (pc' := 25) (W := 0) (as' := [(.ref l2)]) (S := []) (k' := 9) (n' := 878) d7_22 (hw _ (List.mem_of_getElem? (i := 55) rfl)) (hw _ (List.mem_of_getElem? (i := 56) rfl)) (hw _ (List.mem_of_getElem? (i := 58) rfl)) (hw _ (List.mem_of_getElem? (i := 57) rfl)) (nface (hw _ (List.mem_of_getElem? (i := 58) rfl))) (by decide) own_pd21 rfl E_b155 ((sb_sapp l Z a0 hw hEL b155 l2 _ aS2 E_l2 F_l2_value F_l2_coder A_m2 own_xl49 (by rw [alm3]; decide) (by rw [ac2]; decide) (by rw [ac2]; decide) (by rw [alm3]; decide) (by first | (rw [ac2, al2, alm3]; decide) | (rw [ac2, al2]; decide)) g_b155 g_at2 ne_m2_at2 O2 P5).payS (by simp) (hw _ (List.mem_of_getElem? (i := 59) rfl)) (hw _ (List.mem_of_getElem? (i := 36) rfl)) hEL (by decide) (by decide)) (Nat.le_of_ble_eq_true rfl) rfl rfl (by decide) (by decide) (by decide) (by decide) rfl (fun T h168 v_ ws_ X hgr_ q169 => ?_)
  obtain ⟨at3, ar3, rfl, aK3, ahT3, aS3, aq3, rfl⟩ := q169
  show Go p e below _ T (mkF m 25 #[.val (.ref p0), .val (.ref q0), .val (.int (1 : Int32)), .unset] [(.ref b155)])
  replace X := X.sub (ws' := [at3, b155]) (by simp)
  have ne_b155_at3 : b155 ≠ at3 := ahT3.elim (fun q => by rw [q]; exact ne_b155_at2) (fun q => Nat.ne_of_lt (Nat.lt_of_lt_of_le E_b155.lt q))
  have ne_l2_at3 : l2 ≠ at3 := ahT3.elim (fun q => by rw [q]; exact ne_l2_at2) (fun q => Nat.ne_of_lt (Nat.lt_of_lt_of_le E_l2.lt q))
  have ne_m2_at3 : m2 ≠ at3 := ahT3.elim (fun q => by rw [q]; exact ne_m2_at2) (fun q => Nat.ne_of_lt (Nat.lt_of_lt_of_le A_m2.lt q))
  have g_at3 : Z.heap.size ≤ at3 := ahT3.elim (fun q => by rw [q]; exact g_at2) (fun q => Nat.le_trans g_b155 (Nat.le_trans (Nat.le_of_lt E_b155.lt) q))
  have sz_R__at3 : h.size ≤ at3 := ahT3.elim (fun q => by rw [q]; exact sz_R__at2) (fun q => Nat.le_trans R_.1 q)
  replace F_l2_coder := F_l2_coder.keep aK3 (ninS ne_l2_b155 (ninS ne_l2_at2 nin0))
  replace F_l2_value := F_l2_value.keep aK3 (ninS ne_l2_b155 (ninS ne_l2_at2 nin0))
  replace A_m2 := A_m2.keep aK3 (ninS ne_m2_b155 (ninS ne_m2_at2 nin0))
  replace E_b155 := E_b155.keep aK3
  replace E_l2 := E_l2.keep aK3
  replace R_ := ext_keep R_ aK3 (allS sz_R__b155 (allS sz_R__at2 all0))
  have al3 : (ae2 ++ own_x49).length = 81 := by first | rw [List.length_append, al2, alm3] | rw [List.length_append, al2]
  have ac3 : (ae2 ++ own_x49).length + ar3.length = 142 := by
    first | rw [ac2, al2, alm3] at aq3 | rw [ac2, al2] at aq3
    rw [al3]; exact aq3.trans (by decide)
  have ah3 : Lat (ae2 ++ own_x49) := Lat.app ah2 own_xl49
  obtain ⟨ae3, gae3⟩ : ∃ z, z = ae2 ++ own_x49 := ⟨_, rfl⟩
  rw [← gae3] at aS3 al3 ac3 ah3
  refine s_virtual X (pc' := 28) (W := 0) (as' := []) (S := []) (k' := 11) (n' := 1060) d7_25 (hw _ (List.mem_of_getElem? (i := 126) rfl)) (hw _ (List.mem_of_getElem? (i := 127) rfl)) (hw _ (List.mem_of_getElem? (i := 129) rfl)) (hw _ (List.mem_of_getElem? (i := 128) rfl)) (nface (hw _ (List.mem_of_getElem? (i := 129) rfl))) (by decide) own_pd18 rfl E_b155 ((sb_ts l Z a0 hw hEL b155 _ aS3 (by rw [ac3]; decide) (by rw [al3]; decide) (fun z => by have q := ac3; rw [z, al3] at q; exact absurd q (by decide)) ah3 O2 P5).payS (by simp) (hw _ (List.mem_of_getElem? (i := 130) rfl)) (hw _ (List.mem_of_getElem? (i := 36) rfl)) hEL (by decide) (by decide)) (Nat.le_of_ble_eq_true rfl) rfl rfl (by decide) (by decide) (by decide) (by decide) rfl (fun T h170 v_ ws_ X hgr_ q171 => ?_)
  obtain ⟨ld, rfl, Et_, S_ld, rfl⟩ := q171
  show Go p e below _ T (mkF m 28 #[.val (.ref p0), .val (.ref q0), .val (.int (1 : Int32)), .unset] [(.ref ld)])
  replace X := X.sub (ws' := []) (by simp)
  replace R_ := ext_trans R_ Et_
  have hld := ah3
  have lld := al3
  obtain ⟨tl, E_ld, F_ld_value, F_ld_coder, A_tl⟩ := S_ld.latin (fun c hc => (hld c hc).2)
  refine s_goto X (pc' := 55) d7_28 (by decide) (by decide) ?_
  refine s_astoreN X (pc' := 56) (L' := #[.val (.ref p0), .val (.ref q0), .val (.int (1 : Int32)), .val (.ref ld)]) d7_55 rfl rfl rfl ?_
  refine s_new X (pc' := 59) (k' := 12) (n' := 1067) d7_56 (hw _ (List.mem_of_getElem? (i := 165) rfl)) (hw _ (List.mem_of_getElem? (i := 166) rfl)) (hw _ (List.mem_of_getElem? (i := 32) rfl)) (by decide) (by decide) (by decide) (by decide) rfl (fun T h173 b172 gb_b172 X' E174 E_b172 D_b172 U_b172 => ?_)
  have g_b172 : Z.heap.size ≤ b172 := by rw [gb_b172]; exact X.lt
  have ne_ld_b172 : ld ≠ b172 := Nat.ne_of_lt (by rw [gb_b172]; exact E_ld.lt)
  have ne_tl_b172 : tl ≠ b172 := Nat.ne_of_lt (by rw [gb_b172]; exact A_tl.lt)
  have sz_R__b172 : h.size ≤ b172 := by rw [gb_b172]; exact R_.1
  replace E_ld := E_ld.ext E174
  replace F_ld_value := F_ld_value.ext E174
  replace F_ld_coder := F_ld_coder.ext E174
  replace A_tl := A_tl.ext E174
  replace R_ := ext_trans R_ E174
  replace X := X'
  have F_b172_cause : Fld Z h173 b172 "java/lang/Throwable" "cause" "Ljava/lang/Throwable;" .null := D_b172 (Or.inl (hw _ (List.mem_of_getElem? (i := 220) rfl))) (ty := (.object "java/lang/Throwable")) (by decide)
  have F_b172_stackTrace : Fld Z h173 b172 "java/lang/Throwable" "stackTrace" "[Ljava/lang/StackTraceElement;" .null := D_b172 (Or.inl (hw _ (List.mem_of_getElem? (i := 223) rfl))) (ty := (.array (.object "java/lang/StackTraceElement"))) (by decide)
  have F_b172_suppressedExceptions : Fld Z h173 b172 "java/lang/Throwable" "suppressedExceptions" "Ljava/util/List;" .null := D_b172 (Or.inl (hw _ (List.mem_of_getElem? (i := 226) rfl))) (ty := (.object "java/util/List")) (by decide)
  have F_b172_detailMessage : Fld Z h173 b172 "java/lang/Throwable" "detailMessage" "Ljava/lang/String;" .null := D_b172 (Or.inl (hw _ (List.mem_of_getElem? (i := 250) rfl))) (ty := (.object "java/lang/String")) (by decide)
  have F_b172_backtrace : Fld Z h173 b172 "java/lang/Throwable" "backtrace" "Ljava/lang/Object;" .null := D_b172 (Or.inl (hw _ (List.mem_of_getElem? (i := 251) rfl))) (ty := (.object "java/lang/Object")) (by decide)
  have F_b172_depth : Fld Z h173 b172 "java/lang/Throwable" "depth" "I" (.int (0 : Int32)) := D_b172 (Or.inl (hw _ (List.mem_of_getElem? (i := 252) rfl))) (ty := .int) (by decide)
  have F_b172_kind : Fld Z h173 b172 "com/example/vestwright/vestwright/run/RunRefusedException" "kind" "Lcom/example/vestwright/vestwright/run/RunRefusedException$Kind;" .null := D_b172 (Or.inr (hw _ (List.mem_of_getElem? (i := 256) rfl))) (ty := (.object "com/example/vestwright/vestwright/run/RunRefusedException$Kind")) (by decide)
  have N_b172 := U_b172
  refine s_dup X (pc' := 60) d7_59 rfl rfl ?_
  refine s_gets X (pc' := 63) d7_60 (hw _ (List.mem_of_getElem? (i := 167) rfl)) Via.refl In rfl (fun T X => ?_)
  refine s_new X (pc' := 66) (k' := 13) (n' := 1071) d7_63 (hw _ (List.mem_of_getElem? (i := 34) rfl)) (hw _ (List.mem_of_getElem? (i := 35) rfl)) (hw _ (List.mem_of_getElem? (i := 36) rfl)) (by decide) (by decide) (by decide) (by decide) rfl (fun T h176 b175 gb_b175 X' E177 E_b175 D_b175 U_b175 => ?_)
  have g_b175 : Z.heap.size ≤ b175 := by rw [gb_b175]; exact X.lt
  have ne_ld_b175 : ld ≠ b175 := Nat.ne_of_lt (by rw [gb_b175]; exact E_ld.lt)
  have ne_b172_b175 : b172 ≠ b175 := Nat.ne_of_lt (by rw [gb_b175]; exact E_b172.lt)
  have ne_tl_b175 : tl ≠ b175 := Nat.ne_of_lt (by rw [gb_b175]; exact A_tl.lt)
  have sz_R__b175 : h.size ≤ b175 := by rw [gb_b175]; exact R_.1
  replace E_ld := E_ld.ext E177
  replace E_b172 := E_b172.ext E177
  replace F_ld_value := F_ld_value.ext E177
  replace F_ld_coder := F_ld_coder.ext E177
  replace F_b172_cause := F_b172_cause.ext E177
  replace F_b172_stackTrace := F_b172_stackTrace.ext E177
  replace F_b172_suppressedExceptions := F_b172_suppressedExceptions.ext E177
  replace F_b172_detailMessage := F_b172_detailMessage.ext E177
  replace F_b172_backtrace := F_b172_backtrace.ext E177
  replace F_b172_depth := F_b172_depth.ext E177
  replace F_b172_kind := F_b172_kind.ext E177
  replace A_tl := A_tl.ext E177
  replace N_b172 := Unt.ext E177 N_b172
  replace R_ := ext_trans R_ E177
  replace X := X'
  have F_b175_value : Fld Z h176 b175 "java/lang/AbstractStringBuilder" "value" "[B" .null := D_b175 (Or.inl (hw _ (List.mem_of_getElem? (i := 49) rfl))) (ty := (.array .byte)) (by decide)
  have F_b175_coder : Fld Z h176 b175 "java/lang/AbstractStringBuilder" "coder" "B" (.int (0 : Int32)) := D_b175 (Or.inl (hw _ (List.mem_of_getElem? (i := 51) rfl))) (ty := .byte) (by decide)
  have F_b175_count : Fld Z h176 b175 "java/lang/AbstractStringBuilder" "count" "I" (.int (0 : Int32)) := D_b175 (Or.inl (hw _ (List.mem_of_getElem? (i := 76) rfl))) (ty := .int) (by decide)
  refine s_dup X (pc' := 67) d7_66 rfl rfl ?_
  refine s_special X (pc' := 70) (W := 4) (as' := []) (S := [(.ref b175), (.ref kd), (.ref b172), (.ref b172)]) (k' := 14) (n' := 1087) d7_67 rfl (hw _ (List.mem_of_getElem? (i := 37) rfl)) (hw _ (List.mem_of_getElem? (i := 38) rfl)) (hw _ (List.mem_of_getElem? (i := 39) rfl)) (by decide) own_pd20 rfl ((sb_ini l Z a0 hw hEL b175 _ g_b175 E_b175 F_b175_value F_b175_coder F_b175_count O2 P5).payS (by simp) (hw _ (List.mem_of_getElem? (i := 39) rfl)) (hw _ (List.mem_of_getElem? (i := 36) rfl)) hEL (by decide) (by decide)) (Nat.le_of_ble_eq_true rfl) rfl rfl (by decide) (by decide) (by decide) (by decide) rfl (fun T h178 v_ ws_ X hgr_ q179 => ?_)
  obtain ⟨rfl, K1_, ⟨ct0, chz, cS0, rfl⟩⟩ := q179
  show Go p e below _ T (mkF m 70 #[.val (.ref p0), .val (.ref q0), .val (.int (1 : Int32)), .val (.ref ld)] [(.ref b175), (.ref kd), (.ref b172), (.ref b172)])
  replace X := X.sub (ws' := [ct0, b175, b172]) (by simp)
  have ne_ld_ct0 : ld ≠ ct0 := Nat.ne_of_lt (Nat.lt_of_lt_of_le E_ld.lt chz)
  have ne_b172_ct0 : b172 ≠ ct0 := Nat.ne_of_lt (Nat.lt_of_lt_of_le E_b172.lt chz)
  have ne_b175_ct0 : b175 ≠ ct0 := Nat.ne_of_lt (Nat.lt_of_lt_of_le E_b175.lt chz)
  have ne_tl_ct0 : tl ≠ ct0 := Nat.ne_of_lt (Nat.lt_of_lt_of_le A_tl.lt chz)
  have g_ct0 : Z.heap.size ≤ ct0 := Nat.le_trans g_b175 (Nat.le_trans (Nat.le_of_lt E_b175.lt) chz)
  have sz_R__ct0 : h.size ≤ ct0 := Nat.le_trans R_.1 chz
  replace F_ld_value := F_ld_value.keep K1_ (ninS ne_ld_b175 nin0)
  replace F_ld_coder := F_ld_coder.keep K1_ (ninS ne_ld_b175 nin0)
  replace F_b172_cause := F_b172_cause.keep K1_ (ninS ne_b172_b175 nin0)
  replace F_b172_stackTrace := F_b172_stackTrace.keep K1_ (ninS ne_b172_b175 nin0)
  replace F_b172_suppressedExceptions := F_b172_suppressedExceptions.keep K1_ (ninS ne_b172_b175 nin0)
  replace F_b172_detailMessage := F_b172_detailMessage.keep K1_ (ninS ne_b172_b175 nin0)
  replace F_b172_backtrace := F_b172_backtrace.keep K1_ (ninS ne_b172_b175 nin0)
  replace F_b172_depth := F_b172_depth.keep K1_ (ninS ne_b172_b175 nin0)
  replace F_b172_kind := F_b172_kind.keep K1_ (ninS ne_b172_b175 nin0)
  replace A_tl := A_tl.keep K1_ (ninS ne_tl_b175 nin0)
  replace E_ld := E_ld.keep K1_
  replace E_b172 := E_b172.keep K1_
  replace E_b175 := E_b175.keep K1_
  replace N_b172 := Unt.keep K1_ (ninS ne_b172_b175 nin0) N_b172
  replace R_ := ext_keep R_ K1_ (allS sz_R__b175 all0)
  have cl0 : ([] : List Int32).length = 0 := rfl
  have cc0 : ([] : List Int32).length + (List.replicate 16 (Value.int (0 : Int32))).length = 16 := rfl
  have ch0 : Lat ([] : List Int32) := fun c hc => nomatch hc
  refine s_aloadN X (pc' := 71) d7_70 rfl rfl rfl ?_
  have clm1 : ae3.length = 81 := lld
  refine s_virtual X (pc' := 74) (W := 3) (as' := [(.ref ld)]) (S := [(.ref kd), (.ref b172), (.ref b172)]) (k' := 15) (n' := 1265) d7_71 (hw _ (List.mem_of_getElem? (i := 55) rfl)) (hw _ (List.mem_of_getElem? (i := 56) rfl)) (hw _ (List.mem_of_getElem? (i := 58) rfl)) (hw _ (List.mem_of_getElem? (i := 57) rfl)) (nface (hw _ (List.mem_of_getElem? (i := 58) rfl))) (by decide) own_pd21 rfl E_b175 ((sb_sapp l Z a0 hw hEL b175 ld _ cS0 E_ld F_ld_value F_ld_coder A_tl hld (by rw [clm1]; decide) (by rw [cc0]; decide) (by rw [cc0]; decide) (by rw [clm1]; decide) (by first | (rw [cc0, cl0, clm1]; decide) | (rw [cc0, cl0]; decide)) g_b175 g_ct0 ne_tl_ct0 O2 P5).payS (by simp) (hw _ (List.mem_of_getElem? (i := 59) rfl)) (hw _ (List.mem_of_getElem? (i := 36) rfl)) hEL (by decide) (by decide)) (Nat.le_of_ble_eq_true rfl) rfl rfl (by decide) (by decide) (by decide) (by decide) rfl (fun T h180 v_ ws_ X hgr_ q181 => ?_)
  obtain ⟨ct1, cr1, rfl, cK1, chT1, cS1, cq1, rfl⟩ := q181
  show Go p e below _ T (mkF m 74 #[.val (.ref p0), .val (.ref q0), .val (.int (1 : Int32)), .val (.ref ld)] [(.ref b175), (.ref kd), (.ref b172), (.ref b172)])
  replace X := X.sub (ws' := [ct1, b175, b172]) (by simp)
  have ne_ld_ct1 : ld ≠ ct1 := chT1.elim (fun q => by rw [q]; exact ne_ld_ct0) (fun q => Nat.ne_of_lt (Nat.lt_of_lt_of_le E_ld.lt q))
  have ne_b172_ct1 : b172 ≠ ct1 := chT1.elim (fun q => by rw [q]; exact ne_b172_ct0) (fun q => Nat.ne_of_lt (Nat.lt_of_lt_of_le E_b172.lt q))
  have ne_b175_ct1 : b175 ≠ ct1 := chT1.elim (fun q => by rw [q]; exact ne_b175_ct0) (fun q => Nat.ne_of_lt (Nat.lt_of_lt_of_le E_b175.lt q))
  have ne_tl_ct1 : tl ≠ ct1 := chT1.elim (fun q => by rw [q]; exact ne_tl_ct0) (fun q => Nat.ne_of_lt (Nat.lt_of_lt_of_le A_tl.lt q))
  have g_ct1 : Z.heap.size ≤ ct1 := chT1.elim (fun q => by rw [q]; exact g_ct0) (fun q => Nat.le_trans g_b175 (Nat.le_trans (Nat.le_of_lt E_b175.lt) q))
  have sz_R__ct1 : h.size ≤ ct1 := chT1.elim (fun q => by rw [q]; exact sz_R__ct0) (fun q => Nat.le_trans R_.1 q)
  replace F_ld_value := F_ld_value.keep cK1 (ninS ne_ld_b175 (ninS ne_ld_ct0 nin0))
  replace F_ld_coder := F_ld_coder.keep cK1 (ninS ne_ld_b175 (ninS ne_ld_ct0 nin0))
  replace F_b172_cause := F_b172_cause.keep cK1 (ninS ne_b172_b175 (ninS ne_b172_ct0 nin0))
  replace F_b172_stackTrace := F_b172_stackTrace.keep cK1 (ninS ne_b172_b175 (ninS ne_b172_ct0 nin0))
  replace F_b172_suppressedExceptions := F_b172_suppressedExceptions.keep cK1 (ninS ne_b172_b175 (ninS ne_b172_ct0 nin0))
  replace F_b172_detailMessage := F_b172_detailMessage.keep cK1 (ninS ne_b172_b175 (ninS ne_b172_ct0 nin0))
  replace F_b172_backtrace := F_b172_backtrace.keep cK1 (ninS ne_b172_b175 (ninS ne_b172_ct0 nin0))
  replace F_b172_depth := F_b172_depth.keep cK1 (ninS ne_b172_b175 (ninS ne_b172_ct0 nin0))
  replace F_b172_kind := F_b172_kind.keep cK1 (ninS ne_b172_b175 (ninS ne_b172_ct0 nin0))
  replace A_tl := A_tl.keep cK1 (ninS ne_tl_b175 (ninS ne_tl_ct0 nin0))
  replace E_ld := E_ld.keep cK1
  replace E_b172 := E_b172.keep cK1
  replace E_b175 := E_b175.keep cK1
  replace N_b172 := Unt.keep cK1 (ninS ne_b172_b175 (ninS ne_b172_ct0 nin0)) N_b172
  replace R_ := ext_keep R_ cK1 (allS sz_R__b175 (allS sz_R__ct0 all0))
  have cl1 : (([] : List Int32) ++ ae3).length = 81 := by first | rw [List.length_append, cl0, clm1] | rw [List.length_append, cl0]
  have cc1 : (([] : List Int32) ++ ae3).length + cr1.length = 81 := by
    first | rw [cc0, cl0, clm1] at cq1 | rw [cc0, cl0] at cq1
    rw [cl1]; exact cq1.trans (by decide)
  have ch1 : Lat (([] : List Int32) ++ ae3) := Lat.app ch0 hld
  obtain ⟨ce1, gce1⟩ : ∃ z, z = ([] : List Int32) ++ ae3 := ⟨_, rfl⟩
  rw [← gce1] at cS1 cl1 cc1 ch1
  refine s_ldcS X (pc' := 76) (k' := 17) (n' := 1433) (nn := 164) (vs := [(.int (32 : Int32)), (.int (119 : Int32)), (.int (104 : Int32)), (.int (111 : Int32)), (.int (115 : Int32)), (.int (101 : Int32)), (.int (32 : Int32)), (.int (112 : Int32)), (.int (101 : Int32)), (.int (114 : Int32)), (.int (99 : Int32)), (.int (101 : Int32)), (.int (110 : Int32)), (.int (116 : Int32)), (.int (97 : Int32)), (.int (103 : Int32)), (.int (101 : Int32)), (.int (32 : Int32)), (.int (101 : Int32)), (.int (109 : Int32)), (.int (112 : Int32)), (.int (108 : Int32)), (.int (111 : Int32)), (.int (121 : Int32)), (.int (101 : Int32)), (.int (101 : Int32)), (.int (115 : Int32)), (.int (32 : Int32)), (.int (111 : Int32)), (.int (102 : Int32)), (.int (32 : Int32)), (.int (116 : Int32)), (.int (104 : Int32)), (.int (101 : Int32)), (.int (32 : Int32)), (.int (99 : Int32)), (.int (108 : Int32)), (.int (97 : Int32)), (.int (115 : Int32)), (.int (115 : Int32)), (.int (32 : Int32))]) (z := (41 : Int32)) hEL d7_74 (hw _ (List.mem_of_getElem? (i := 170) rfl)) (fun d hd => hw d ((by decide +kernel : ∀ d ∈ Bundle.stringAtoms, d ∈ tables_1) d hd)) (by simp [consts_1]) (by decide) (by decide) (by decide) (by decide) (by decide) (by decide) (by decide) (by decide) (by decide) rfl (fun T h182 l3 m3 kc_m3 X' E183 E_l3 F_l3_coder F_l3_value V_m3 nw_ => ?_)
  replace E_b172 := E_b172.ext E183
  replace E_b175 := E_b175.ext E183
  replace F_b172_cause := F_b172_cause.ext E183
  replace F_b172_stackTrace := F_b172_stackTrace.ext E183
  replace F_b172_suppressedExceptions := F_b172_suppressedExceptions.ext E183
  replace F_b172_detailMessage := F_b172_detailMessage.ext E183
  replace F_b172_backtrace := F_b172_backtrace.ext E183
  replace F_b172_depth := F_b172_depth.ext E183
  replace F_b172_kind := F_b172_kind.ext E183
  replace N_b172 := Unt.ext E183 N_b172
  replace R_ := ext_trans R_ E183
  replace X := X'
  have ne_ct1_l3 : ct1 ≠ l3 := (nw_ ct1 (by simp)).1
  have ne_ct1_m3 : ct1 ≠ m3 := (nw_ ct1 (by simp)).2
  have ne_b175_l3 : b175 ≠ l3 := (nw_ b175 (by simp)).1
  have ne_b175_m3 : b175 ≠ m3 := (nw_ b175 (by simp)).2
  have ne_b172_l3 : b172 ≠ l3 := (nw_ b172 (by simp)).1
  have ne_b172_m3 : b172 ≠ m3 := (nw_ b172 (by simp)).2
  have A_m3 : Ary Z h182 m3 .byte (bys own_x58) := Ary.of_arv V_m3 rfl (by decide)
  replace cS1 := cS1.ext E183
  have ne_l3_ct1 := ne_ct1_l3.symm
  have ne_m3_ct1 := ne_ct1_m3.symm
  have ne_l3_b175 := ne_b175_l3.symm
  have ne_m3_b175 := ne_b175_m3.symm
  have ne_l3_b172 := ne_b172_l3.symm
  have ne_m3_b172 := ne_b172_m3.symm
  have ne_l3_ct1 := ne_ct1_l3.symm
  have ne_m3_ct1 := ne_ct1_m3.symm
  have clm2 : own_x58.length = 41 := rfl
  refine s_virtual X (pc' := 79) (W := 3) (as' := [(.ref l3)]) (S := [(.ref kd), (.ref b172), (.ref b172)]) (k' := 18) (n' := 1611) d7_76 (hw _ (List.mem_of_getElem? (i := 55) rfl)) (hw _ (List.mem_of_getElem? (i := 56) rfl)) (hw _ (List.mem_of_getElem? (i := 58) rfl)) (hw _ (List.mem_of_getElem? (i := 57) rfl)) (nface (hw _ (List.mem_of_getElem? (i := 58) rfl))) (by decide) own_pd21 rfl E_b175 ((sb_sapp l Z a0 hw hEL b175 l3 _ cS1 E_l3 F_l3_value F_l3_coder A_m3 own_xl58 (by rw [clm2]; decide) (by rw [cc1]; decide) (by rw [cc1]; decide) (by rw [clm2]; decide) (by first | (rw [cc1, cl1, clm2]; decide) | (rw [cc1, cl1]; decide)) g_b175 g_ct1 ne_m3_ct1 O2 P5).payS (by simp) (hw _ (List.mem_of_getElem? (i := 59) rfl)) (hw _ (List.mem_of_getElem? (i := 36) rfl)) hEL (by decide) (by decide)) (Nat.le_of_ble_eq_true rfl) rfl rfl (by decide) (by decide) (by decide) (by decide) rfl (fun T h184 v_ ws_ X hgr_ q185 => ?_)
  obtain ⟨ct2, cr2, rfl, cK2, chT2, cS2, cq2, rfl⟩ := q185
  show Go p e below _ T (mkF m 79 #[.val (.ref p0), .val (.ref q0), .val (.int (1 : Int32)), .val (.ref ld)] [(.ref b175), (.ref kd), (.ref b172), (.ref b172)])
  replace X := X.sub (ws' := [ct2, b175, b172]) (by simp)
  have ne_b172_ct2 : b172 ≠ ct2 := chT2.elim (fun q => by rw [q]; exact ne_b172_ct1) (fun q => Nat.ne_of_lt (Nat.lt_of_lt_of_le E_b172.lt q))
  have ne_b175_ct2 : b175 ≠ ct2 := chT2.elim (fun q => by rw [q]; exact ne_b175_ct1) (fun q => Nat.ne_of_lt (Nat.lt_of_lt_of_le E_b175.lt q))
  have ne_l3_ct2 : l3 ≠ ct2 := chT2.elim (fun q => by rw [q]; exact ne_l3_ct1) (fun q => Nat.ne_of_lt (Nat.lt_of_lt_of_le E_l3.lt q))
  have ne_m3_ct2 : m3 ≠ ct2 := chT2.elim (fun q => by rw [q]; exact ne_m3_ct1) (fun q => Nat.ne_of_lt (Nat.lt_of_lt_of_le A_m3.lt q))
  have g_ct2 : Z.heap.size ≤ ct2 := chT2.elim (fun q => by rw [q]; exact g_ct1) (fun q => Nat.le_trans g_b175 (Nat.le_trans (Nat.le_of_lt E_b175.lt) q))
  have sz_R__ct2 : h.size ≤ ct2 := chT2.elim (fun q => by rw [q]; exact sz_R__ct1) (fun q => Nat.le_trans R_.1 q)
  replace F_b172_cause := F_b172_cause.keep cK2 (ninS ne_b172_b175 (ninS ne_b172_ct1 nin0))
  replace F_b172_stackTrace := F_b172_stackTrace.keep cK2 (ninS ne_b172_b175 (ninS ne_b172_ct1 nin0))
  replace F_b172_suppressedExceptions := F_b172_suppressedExceptions.keep cK2 (ninS ne_b172_b175 (ninS ne_b172_ct1 nin0))
  replace F_b172_detailMessage := F_b172_detailMessage.keep cK2 (ninS ne_b172_b175 (ninS ne_b172_ct1 nin0))
  replace F_b172_backtrace := F_b172_backtrace.keep cK2 (ninS ne_b172_b175 (ninS ne_b172_ct1 nin0))
  replace F_b172_depth := F_b172_depth.keep cK2 (ninS ne_b172_b175 (ninS ne_b172_ct1 nin0))
  replace F_b172_kind := F_b172_kind.keep cK2 (ninS ne_b172_b175 (ninS ne_b172_ct1 nin0))
  replace F_l3_coder := F_l3_coder.keep cK2 (ninS ne_l3_b175 (ninS ne_l3_ct1 nin0))
  replace F_l3_value := F_l3_value.keep cK2 (ninS ne_l3_b175 (ninS ne_l3_ct1 nin0))
  replace A_m3 := A_m3.keep cK2 (ninS ne_m3_b175 (ninS ne_m3_ct1 nin0))
  replace E_b172 := E_b172.keep cK2
  replace E_b175 := E_b175.keep cK2
  replace E_l3 := E_l3.keep cK2
  replace N_b172 := Unt.keep cK2 (ninS ne_b172_b175 (ninS ne_b172_ct1 nin0)) N_b172
  replace R_ := ext_keep R_ cK2 (allS sz_R__b175 (allS sz_R__ct1 all0))
  have cl2 : (ce1 ++ own_x58).length = 122 := by first | rw [List.length_append, cl1, clm2] | rw [List.length_append, cl1]
  have cc2 : (ce1 ++ own_x58).length + cr2.length = 164 := by
    first | rw [cc1, cl1, clm2] at cq2 | rw [cc1, cl1] at cq2
    rw [cl2]; exact cq2.trans (by decide)
  have ch2 : Lat (ce1 ++ own_x58) := Lat.app ch1 own_xl58
  obtain ⟨ce2, gce2⟩ : ∃ z, z = ce1 ++ own_x58 := ⟨_, rfl⟩
  rw [← gce2] at cS2 cl2 cc2 ch2
  refine s_aloadN X (pc' := 80) d7_79 rfl rfl rfl ?_
  replace Sq0 := Sq0.ext R_
  refine s_static X (pc' := 83) (W := 4) (as' := [(.ref q0)]) (S := [(.ref b175), (.ref kd), (.ref b172), (.ref b172)]) (k' := 28) (n' := 2375) d7_80 (hw _ (List.mem_of_getElem? (i := 171) rfl)) (hw _ (List.mem_of_getElem? (i := 172) rfl)) (hw _ (List.mem_of_getElem? (i := 173) rfl)) (hw _ (List.mem_of_getElem? (i := 174) rfl)) (by decide) own_pd23 rfl ((own_nm l Z a0 hw hEL q0 _ Sq0 hqs hql O2 P5).payS (by simp) (hw _ (List.mem_of_getElem? (i := 174) rfl)) (hw _ (List.mem_of_getElem? (i := 173) rfl)) hEL (by decide) (by decide)) (Nat.le_of_ble_eq_true rfl) rfl rfl (by decide) (by decide) (by decide) (by decide) rfl (fun T h186 v_ ws_ X hgr_ q187 => ?_)
  obtain ⟨nq, rfl, En_, S_nq, rfl⟩ := q187
  show Go p e below _ T (mkF m 83 #[.val (.ref p0), .val (.ref q0), .val (.int (1 : Int32)), .val (.ref ld)] [(.ref nq), (.ref b175), (.ref kd), (.ref b172), (.ref b172)])
  replace X := X.sub (ws' := [ct2, b175, b172]) (by simp)
  replace E_b172 := E_b172.ext En_
  replace E_b175 := E_b175.ext En_
  replace F_b172_cause := F_b172_cause.ext En_
  replace F_b172_stackTrace := F_b172_stackTrace.ext En_
  replace F_b172_suppressedExceptions := F_b172_suppressedExceptions.ext En_
  replace F_b172_detailMessage := F_b172_detailMessage.ext En_
  replace F_b172_backtrace := F_b172_backtrace.ext En_
  replace F_b172_depth := F_b172_depth.ext En_
  replace F_b172_kind := F_b172_kind.ext En_
  replace N_b172 := Unt.ext En_ N_b172
  replace R_ := ext_trans R_ En_
  replace cS2 := cS2.ext En_
  obtain ⟨tn, E_nq, F_nq_value, F_nq_coder, A_tn⟩ := S_nq.latin (fun c hc => (hqs c hc).2)
  have ne_nq_ct2 : nq ≠ ct2 := Exa.ne E_nq cS2.2.2.2.2.2 (by decide)
  have ne_tn_ct2 : tn ≠ ct2 := ary_ne A_tn cS2.2.2.2.2.1 (by
    show (bys qs).length ≠ (bys ce2 ++ cr2).length
    rw [bys_len, hql, List.length_append, bys_len, cc2]; decide)
  have ne_tn_b175 : tn ≠ b175 := by obtain ⟨kc, q⟩ := A_tn.arv .null; exact (Exa.neArv E_b175 q (hw _ (List.mem_of_getElem? (i := 35) rfl))).symm
  have ne_tn_b172 : tn ≠ b172 := by obtain ⟨kc, q⟩ := A_tn.arv .null; exact (Exa.neArv E_b172 q (hw _ (List.mem_of_getElem? (i := 166) rfl))).symm
  have ne_tn_nq : tn ≠ nq := by obtain ⟨kc, q⟩ := A_tn.arv .null; exact (Exa.neArv E_nq q (hw _ (List.mem_of_getElem? (i := 2) rfl))).symm
  have clm3 : qs.length = 2 := hql
  refine s_virtual X (pc' := 86) (W := 3) (as' := [(.ref nq)]) (S := [(.ref kd), (.ref b172), (.ref b172)]) (k' := 29) (n' := 2553) d7_83 (hw _ (List.mem_of_getElem? (i := 55) rfl)) (hw _ (List.mem_of_getElem? (i := 56) rfl)) (hw _ (List.mem_of_getElem? (i := 58) rfl)) (hw _ (List.mem_of_getElem? (i := 57) rfl)) (nface (hw _ (List.mem_of_getElem? (i := 58) rfl))) (by decide) own_pd21 rfl E_b175 ((sb_sapp l Z a0 hw hEL b175 nq _ cS2 E_nq F_nq_value F_nq_coder A_tn hqs (by rw [clm3]; decide) (by rw [cc2]; decide) (by rw [cc2]; decide) (by rw [clm3]; decide) (by first | (rw [cc2, cl2, clm3]; decide) | (rw [cc2, cl2]; decide)) g_b175 g_ct2 ne_tn_ct2 O2 P5).payS (by simp) (hw _ (List.mem_of_getElem? (i := 59) rfl)) (hw _ (List.mem_of_getElem? (i := 36) rfl)) hEL (by decide) (by decide)) (Nat.le_of_ble_eq_true rfl) rfl rfl (by decide) (by decide) (by decide) (by decide) rfl (fun T h188 v_ ws_ X hgr_ q189 => ?_)
  obtain ⟨ct3, cr3, rfl, cK3, chT3, cS3, cq3, rfl⟩ := q189
  show Go p e below _ T (mkF m 86 #[.val (.ref p0), .val (.ref q0), .val (.int (1 : Int32)), .val (.ref ld)] [(.ref b175), (.ref kd), (.ref b172), (.ref b172)])
  replace X := X.sub (ws' := [ct3, b175, b172]) (by simp)
  have ne_b172_ct3 : b172 ≠ ct3 := chT3.elim (fun q => by rw [q]; exact ne_b172_ct2) (fun q => Nat.ne_of_lt (Nat.lt_of_lt_of_le E_b172.lt q))
  have ne_b175_ct3 : b175 ≠ ct3 := chT3.elim (fun q => by rw [q]; exact ne_b175_ct2) (fun q => Nat.ne_of_lt (Nat.lt_of_lt_of_le E_b175.lt q))
  have ne_nq_ct3 : nq ≠ ct3 := chT3.elim (fun q => by rw [q]; exact ne_nq_ct2) (fun q => Nat.ne_of_lt (Nat.lt_of_lt_of_le E_nq.lt q))
  have ne_tn_ct3 : tn ≠ ct3 := chT3.elim (fun q => by rw [q]; exact ne_tn_ct2) (fun q => Nat.ne_of_lt (Nat.lt_of_lt_of_le A_tn.lt q))
  have g_ct3 : Z.heap.size ≤ ct3 := chT3.elim (fun q => by rw [q]; exact g_ct2) (fun q => Nat.le_trans g_b175 (Nat.le_trans (Nat.le_of_lt E_b175.lt) q))
  have sz_R__ct3 : h.size ≤ ct3 := chT3.elim (fun q => by rw [q]; exact sz_R__ct2) (fun q => Nat.le_trans R_.1 q)
  replace F_b172_cause := F_b172_cause.keep cK3 (ninS ne_b172_b175 (ninS ne_b172_ct2 nin0))
  replace F_b172_stackTrace := F_b172_stackTrace.keep cK3 (ninS ne_b172_b175 (ninS ne_b172_ct2 nin0))
  replace F_b172_suppressedExceptions := F_b172_suppressedExceptions.keep cK3 (ninS ne_b172_b175 (ninS ne_b172_ct2 nin0))
  replace F_b172_detailMessage := F_b172_detailMessage.keep cK3 (ninS ne_b172_b175 (ninS ne_b172_ct2 nin0))
  replace F_b172_backtrace := F_b172_backtrace.keep cK3 (ninS ne_b172_b175 (ninS ne_b172_ct2 nin0))
  replace F_b172_depth := F_b172_depth.keep cK3 (ninS ne_b172_b175 (ninS ne_b172_ct2 nin0))
  replace F_b172_kind := F_b172_kind.keep cK3 (ninS ne_b172_b175 (ninS ne_b172_ct2 nin0))
  replace F_nq_value := F_nq_value.keep cK3 (ninS (Exa.ne E_nq E_b175 (by decide)) (ninS ne_nq_ct2 nin0))
  replace F_nq_coder := F_nq_coder.keep cK3 (ninS (Exa.ne E_nq E_b175 (by decide)) (ninS ne_nq_ct2 nin0))
  replace A_tn := A_tn.keep cK3 (ninS ne_tn_b175 (ninS ne_tn_ct2 nin0))
  replace E_b172 := E_b172.keep cK3
  replace E_b175 := E_b175.keep cK3
  replace E_nq := E_nq.keep cK3
  replace N_b172 := Unt.keep cK3 (ninS ne_b172_b175 (ninS ne_b172_ct2 nin0)) N_b172
  replace R_ := ext_keep R_ cK3 (allS sz_R__b175 (allS sz_R__ct2 all0))
  have cl3 : (ce2 ++ qs).length = 124 := by first | rw [List.length_append, cl2, clm3] | rw [List.length_append, cl2]
  have cc3 : (ce2 ++ qs).length + cr3.length = 164 := by
    first | rw [cc2, cl2, clm3] at cq3 | rw [cc2, cl2] at cq3
    rw [cl3]; exact cq3.trans (by decide)
  have ch3 : Lat (ce2 ++ qs) := Lat.app ch2 hqs
  obtain ⟨ce3, gce3⟩ : ∃ z, z = ce2 ++ qs := ⟨_, rfl⟩
  rw [← gce3] at cS3 cl3 cc3 ch3
  refine s_ldcS X (pc' := 88) (k' := 31) (n' := 2581) (nn := 24) (vs := [(.int (32 : Int32)), (.int (101 : Int32)), (.int (108 : Int32)), (.int (101 : Int32)), (.int (99 : Int32)), (.int (116 : Int32))]) (z := (6 : Int32)) hEL d7_86 (hw _ (List.mem_of_getElem? (i := 203) rfl)) (fun d hd => hw d ((by decide +kernel : ∀ d ∈ Bundle.stringAtoms, d ∈ tables_1) d hd)) (by simp [consts_1]) (by decide) (by decide) (by decide) (by decide) (by decide) (by decide) (by decide) (by decide) (by decide) rfl (fun T h190 l4 m4 kc_m4 X' E191 E_l4 F_l4_coder F_l4_value V_m4 nw_ => ?_)
  replace E_b172 := E_b172.ext E191
  replace E_b175 := E_b175.ext E191
  replace F_b172_cause := F_b172_cause.ext E191
  replace F_b172_stackTrace := F_b172_stackTrace.ext E191
  replace F_b172_suppressedExceptions := F_b172_suppressedExceptions.ext E191
  replace F_b172_detailMessage := F_b172_detailMessage.ext E191
  replace F_b172_backtrace := F_b172_backtrace.ext E191
  replace F_b172_depth := F_b172_depth.ext E191
  replace F_b172_kind := F_b172_kind.ext E191
  replace N_b172 := Unt.ext E191 N_b172
  replace R_ := ext_trans R_ E191
  replace X := X'
  have ne_ct3_l4 : ct3 ≠ l4 := (nw_ ct3 (by simp)).1
  have ne_ct3_m4 : ct3 ≠ m4 := (nw_ ct3 (by simp)).2
  have ne_b175_l4 : b175 ≠ l4 := (nw_ b175 (by simp)).1
  have ne_b175_m4 : b175 ≠ m4 := (nw_ b175 (by simp)).2
  have ne_b172_l4 : b172 ≠ l4 := (nw_ b172 (by simp)).1
  have ne_b172_m4 : b172 ≠ m4 := (nw_ b172 (by simp)).2
  have A_m4 : Ary Z h190 m4 .byte (bys own_x66) := Ary.of_arv V_m4 rfl (by decide)
  replace cS3 := cS3.ext E191
  have ne_l4_ct3 := ne_ct3_l4.symm
  have ne_m4_ct3 := ne_ct3_m4.symm
  have ne_l4_b175 := ne_b175_l4.symm
  have ne_m4_b175 := ne_b175_m4.symm
  have ne_l4_b172 := ne_b172_l4.symm
  have ne_m4_b172 := ne_b172_m4.symm
  have ne_l4_ct3 := ne_ct3_l4.symm
  have ne_m4_ct3 := ne_ct3_m4.symm
  have clm4 : own_x66.length = 6 := rfl
  refine s_virtual X (pc' := 91) (W := 3) (as' := [(.ref l4)]) (S := [(.ref kd), (.ref b172), (.ref b172)]) (k' := 32) (n' := 2759) d7_88 (hw _ (List.mem_of_getElem? (i := 55) rfl)) (hw _ (List.mem_of_getElem? (i := 56) rfl)) (hw _ (List.mem_of_getElem? (i := 58) rfl)) (hw _ (List.mem_of_getElem? (i := 57) rfl)) (nface (hw _ (List.mem_of_getElem? (i := 58) rfl))) (by decide) own_pd21 rfl E_b175 ((sb_sapp l Z a0 hw hEL b175 l4 _ cS3 E_l4 F_l4_value F_l4_coder A_m4 own_xl66 (by rw [clm4]; decide) (by rw [cc3]; decide) (by rw [cc3]; decide) (by rw [clm4]; decide) (by first | (rw [cc3, cl3, clm4]; decide) | (rw [cc3, cl3]; decide)) g_b175 g_ct3 ne_m4_ct3 O2 P5).payS (by simp) (hw _ (List.mem_of_getElem? (i := 59) rfl)) (hw _ (List.mem_of_getElem? (i := 36) rfl)) hEL (by decide) (by decide)) (Nat.le_of_ble_eq_true rfl) rfl rfl (by decide) (by decide) (by decide) (by decide) rfl (fun T h192 v_ ws_ X hgr_ q193 => ?_)
  obtain ⟨ct4, cr4, rfl, cK4, chT4, cS4, cq4, rfl⟩ := q193
  show Go p e below _ T (mkF m 91 #[.val (.ref p0), .val (.ref q0), .val (.int (1 : Int32)), .val (.ref ld)] [(.ref b175), (.ref kd), (.ref b172), (.ref b172)])
  replace X := X.sub (ws' := [ct4, b175, b172]) (by simp)
  have ne_b172_ct4 : b172 ≠ ct4 := chT4.elim (fun q => by rw [q]; exact ne_b172_ct3) (fun q => Nat.ne_of_lt (Nat.lt_of_lt_of_le E_b172.lt q))
  have ne_b175_ct4 : b175 ≠ ct4 := chT4.elim (fun q => by rw [q]; exact ne_b175_ct3) (fun q => Nat.ne_of_lt (Nat.lt_of_lt_of_le E_b175.lt q))
  have ne_l4_ct4 : l4 ≠ ct4 := chT4.elim (fun q => by rw [q]; exact ne_l4_ct3) (fun q => Nat.ne_of_lt (Nat.lt_of_lt_of_le E_l4.lt q))
  have ne_m4_ct4 : m4 ≠ ct4 := chT4.elim (fun q => by rw [q]; exact ne_m4_ct3) (fun q => Nat.ne_of_lt (Nat.lt_of_lt_of_le A_m4.lt q))
  have g_ct4 : Z.heap.size ≤ ct4 := chT4.elim (fun q => by rw [q]; exact g_ct3) (fun q => Nat.le_trans g_b175 (Nat.le_trans (Nat.le_of_lt E_b175.lt) q))
  have sz_R__ct4 : h.size ≤ ct4 := chT4.elim (fun q => by rw [q]; exact sz_R__ct3) (fun q => Nat.le_trans R_.1 q)
  replace F_b172_cause := F_b172_cause.keep cK4 (ninS ne_b172_b175 (ninS ne_b172_ct3 nin0))
  replace F_b172_stackTrace := F_b172_stackTrace.keep cK4 (ninS ne_b172_b175 (ninS ne_b172_ct3 nin0))
  replace F_b172_suppressedExceptions := F_b172_suppressedExceptions.keep cK4 (ninS ne_b172_b175 (ninS ne_b172_ct3 nin0))
  replace F_b172_detailMessage := F_b172_detailMessage.keep cK4 (ninS ne_b172_b175 (ninS ne_b172_ct3 nin0))
  replace F_b172_backtrace := F_b172_backtrace.keep cK4 (ninS ne_b172_b175 (ninS ne_b172_ct3 nin0))
  replace F_b172_depth := F_b172_depth.keep cK4 (ninS ne_b172_b175 (ninS ne_b172_ct3 nin0))
  replace F_b172_kind := F_b172_kind.keep cK4 (ninS ne_b172_b175 (ninS ne_b172_ct3 nin0))
  replace F_l4_coder := F_l4_coder.keep cK4 (ninS ne_l4_b175 (ninS ne_l4_ct3 nin0))
  replace F_l4_value := F_l4_value.keep cK4 (ninS ne_l4_b175 (ninS ne_l4_ct3 nin0))
  replace A_m4 := A_m4.keep cK4 (ninS ne_m4_b175 (ninS ne_m4_ct3 nin0))
  replace E_b172 := E_b172.keep cK4
  replace E_b175 := E_b175.keep cK4
  replace E_l4 := E_l4.keep cK4
  replace N_b172 := Unt.keep cK4 (ninS ne_b172_b175 (ninS ne_b172_ct3 nin0)) N_b172
  replace R_ := ext_keep R_ cK4 (allS sz_R__b175 (allS sz_R__ct3 all0))
  have cl4 : (ce3 ++ own_x66).length = 130 := by first | rw [List.length_append, cl3, clm4] | rw [List.length_append, cl3]
  have cc4 : (ce3 ++ own_x66).length + cr4.length = 164 := by
    first | rw [cc3, cl3, clm4] at cq4 | rw [cc3, cl3] at cq4
    rw [cl4]; exact cq4.trans (by decide)
  have ch4 : Lat (ce3 ++ own_x66) := Lat.app ch3 own_xl66
  obtain ⟨ce4, gce4⟩ : ∃ z, z = ce3 ++ own_x66 := ⟨_, rfl⟩
  rw [← gce4] at cS4 cl4 cc4 ch4
  refine s_virtual X (pc' := 94) (W := 3) (as' := []) (S := [(.ref kd), (.ref b172), (.ref b172)]) (k' := 34) (n' := 2941) d7_91 (hw _ (List.mem_of_getElem? (i := 126) rfl)) (hw _ (List.mem_of_getElem? (i := 127) rfl)) (hw _ (List.mem_of_getElem? (i := 129) rfl)) (hw _ (List.mem_of_getElem? (i := 128) rfl)) (nface (hw _ (List.mem_of_getElem? (i := 129) rfl))) (by decide) own_pd18 rfl E_b175 ((sb_ts l Z a0 hw hEL b175 _ cS4 (by rw [cc4]; decide) (by rw [cl4]; decide) (fun z => by have q := cc4; rw [z, cl4] at q; exact absurd q (by decide)) ch4 O2 P5).payS (by simp) (hw _ (List.mem_of_getElem? (i := 130) rfl)) (hw _ (List.mem_of_getElem? (i := 36) rfl)) hEL (by decide) (by decide)) (Nat.le_of_ble_eq_true rfl) rfl rfl (by decide) (by decide) (by decide) (by decide) rfl (fun T h194 v_ ws_ X hgr_ q195 => ?_)
  obtain ⟨mg, rfl, Et_, S_mg, rfl⟩ := q195
  show Go p e below _ T (mkF m 94 #[.val (.ref p0), .val (.ref q0), .val (.int (1 : Int32)), .val (.ref ld)] [(.ref mg), (.ref kd), (.ref b172), (.ref b172)])
  replace X := X.sub (ws' := [b172]) (by simp)
  replace E_b172 := E_b172.ext Et_
  replace F_b172_cause := F_b172_cause.ext Et_
  replace F_b172_stackTrace := F_b172_stackTrace.ext Et_
  replace F_b172_suppressedExceptions := F_b172_suppressedExceptions.ext Et_
  replace F_b172_detailMessage := F_b172_detailMessage.ext Et_
  replace F_b172_backtrace := F_b172_backtrace.ext Et_
  replace F_b172_depth := F_b172_depth.ext Et_
  replace F_b172_kind := F_b172_kind.ext Et_
  replace N_b172 := Unt.ext Et_ N_b172
  replace R_ := ext_trans R_ Et_
  refine s_aconst X (pc' := 95) d7_94 rfl ?_
  have E_mg := S_mg.exa
  have E0_r := E_b172
  have nmr : mg ≠ b172 := Exa.ne E_mg E_b172 (by decide)
  refine s_special X (pc' := 98) (W := 1) (as' := [(.ref kd), (.ref mg), .null]) (S := [(.ref b172)]) (k' := 35) (n' := 5693) d7_95 rfl (hw _ (List.mem_of_getElem? (i := 204) rfl)) (hw _ (List.mem_of_getElem? (i := 205) rfl)) (hw _ (List.mem_of_getElem? (i := 206) rfl)) (by decide) own_pd24 rfl ((own_ri l Z a0 hw hEL b172 kd mg _ g_b172 E_b172 N_b172 F_b172_cause F_b172_stackTrace F_b172_suppressedExceptions F_b172_backtrace F_b172_detailMessage F_b172_kind Us Ss hlt).payS (by simp) (hw _ (List.mem_of_getElem? (i := 206) rfl)) (hw _ (List.mem_of_getElem? (i := 32) rfl)) hEL (by decide) (by decide)) (Nat.le_of_ble_eq_true rfl) rfl rfl (by decide) (by decide) (by decide) (by decide) rfl (fun T h196 v_ ws_ X hgr_ q197 => ?_)
  obtain ⟨rfl, K_, E'_, F1_, F2_, rfl⟩ := q197
  show Go p e below _ T (mkF m 98 #[.val (.ref p0), .val (.ref q0), .val (.int (1 : Int32)), .val (.ref ld)] [(.ref b172)])
  replace X := X.sub (ws' := []) (by simp)
  replace R_ := ext_keep R_ K_ (allS sz_R__b172 all0)
  replace S_mg := S_mg.keepS K_ E0_r nmr (hw _ (List.mem_of_getElem? (i := 166) rfl))
  have eM : ce4 = own_msg1 ps qs := by rw [gce4, gce3, gce2, gce1, gae3, gae2, gae1]; rfl
  rw [eM] at S_mg ch4
  exact s_aret X hEL (ws' := []) (t := (.object "com/example/vestwright/vestwright/run/RunRefusedException")) d7_98 rfl rfl rfl rfl (by decide) (by decide) (fun x q => by simp at q) ⟨b172, mg, rfl, R_, E'_, F1_, F2_, S_mg, ch4, rfl⟩
set_option maxRecDepth 65536 in
theorem own_ml0 (c0 c1 c2 c3 : Int32) : (own_msg0 [c0, c1] [c2, c3]).length = 92 := rfl
set_option maxRecDepth 65536 in
theorem own_at0_0 (c0 c1 c2 c3 : Int32) : (own_msg0 [c0, c1] [c2, c3]).getD 0 0 = (45 : Int32) := rfl
set_option maxRecDepth 65536 in
theorem own_at0_1 (c0 c1 c2 c3 : Int32) : (own_msg0 [c0, c1] [c2, c3]).getD 1 0 = (45 : Int32) := rfl
set_option maxRecDepth 65536 in
theorem own_at0_2 (c0 c1 c2 c3 : Int32) : (own_msg0 [c0, c1] [c2, c3]).getD 2 0 = (101 : Int32) := rfl
set_option maxRecDepth 65536 in
theorem own_at0_26 (c0 c1 c2 c3 : Int32) : (own_msg0 [c0, c1] [c2, c3]).getD 26 0 = (100 : Int32) := rfl
set_option maxRecDepth 65536 in
theorem own_at0_27 (c0 c1 c2 c3 : Int32) : (own_msg0 [c0, c1] [c2, c3]).getD 27 0 = (32 : Int32) := rfl
set_option maxRecDepth 65536 in
theorem own_at0_28 (c0 c1 c2 c3 : Int32) : (own_msg0 [c0, c1] [c2, c3]).getD 28 0 = c0 := rfl
set_option maxRecDepth 65536 in
theorem own_at0_29 (c0 c1 c2 c3 : Int32) : (own_msg0 [c0, c1] [c2, c3]).getD 29 0 = c1 := rfl
set_option maxRecDepth 65536 in
theorem own_at0_30 (c0 c1 c2 c3 : Int32) : (own_msg0 [c0, c1] [c2, c3]).getD 30 0 = (32 : Int32) := rfl
set_option maxRecDepth 65536 in
theorem own_at0_31 (c0 c1 c2 c3 : Int32) : (own_msg0 [c0, c1] [c2, c3]).getD 31 0 = (104 : Int32) := rfl
set_option maxRecDepth 65536 in
theorem own_at0_37 (c0 c1 c2 c3 : Int32) : (own_msg0 [c0, c1] [c2, c3]).getD 37 0 = (115 : Int32) := rfl
set_option maxRecDepth 65536 in
theorem own_at0_43 (c0 c1 c2 c3 : Int32) : (own_msg0 [c0, c1] [c2, c3]).getD 43 0 = (32 : Int32) := rfl
set_option maxRecDepth 65536 in
theorem own_at0_44 (c0 c1 c2 c3 : Int32) : (own_msg0 [c0, c1] [c2, c3]).getD 44 0 = (119 : Int32) := rfl
set_option maxRecDepth 65536 in
theorem own_at0_82 (c0 c1 c2 c3 : Int32) : (own_msg0 [c0, c1] [c2, c3]).getD 82 0 = (115 : Int32) := rfl
set_option maxRecDepth 65536 in
theorem own_at0_83 (c0 c1 c2 c3 : Int32) : (own_msg0 [c0, c1] [c2, c3]).getD 83 0 = (32 : Int32) := rfl
set_option maxRecDepth 65536 in
theorem own_at0_84 (c0 c1 c2 c3 : Int32) : (own_msg0 [c0, c1] [c2, c3]).getD 84 0 = c2 := rfl
set_option maxRecDepth 65536 in
theorem own_at0_85 (c0 c1 c2 c3 : Int32) : (own_msg0 [c0, c1] [c2, c3]).getD 85 0 = c3 := rfl
set_option maxRecDepth 65536 in
theorem own_at0_86 (c0 c1 c2 c3 : Int32) : (own_msg0 [c0, c1] [c2, c3]).getD 86 0 = (32 : Int32) := rfl
set_option maxRecDepth 65536 in
theorem own_at0_87 (c0 c1 c2 c3 : Int32) : (own_msg0 [c0, c1] [c2, c3]).getD 87 0 = (101 : Int32) := rfl
set_option maxRecDepth 65536 in
theorem own_at0_91 (c0 c1 c2 c3 : Int32) : (own_msg0 [c0, c1] [c2, c3]).getD 91 0 = (116 : Int32) := rfl
set_option maxRecDepth 65536 in
theorem own_ml1 (c0 c1 c2 c3 : Int32) : (own_msg1 [c0, c1] [c2, c3]).length = 130 := rfl
set_option maxRecDepth 65536 in
theorem own_at1_0 (c0 c1 c2 c3 : Int32) : (own_msg1 [c0, c1] [c2, c3]).getD 0 0 = (45 : Int32) := rfl
set_option maxRecDepth 65536 in
theorem own_at1_1 (c0 c1 c2 c3 : Int32) : (own_msg1 [c0, c1] [c2, c3]).getD 1 0 = (45 : Int32) := rfl
set_option maxRecDepth 65536 in
theorem own_at1_2 (c0 c1 c2 c3 : Int32) : (own_msg1 [c0, c1] [c2, c3]).getD 2 0 = (114 : Int32) := rfl
set_option maxRecDepth 65536 in
theorem own_at1_7 (c0 c1 c2 c3 : Int32) : (own_msg1 [c0, c1] [c2, c3]).getD 7 0 = (101 : Int32) := rfl
set_option maxRecDepth 65536 in
theorem own_at1_31 (c0 c1 c2 c3 : Int32) : (own_msg1 [c0, c1] [c2, c3]).getD 31 0 = (100 : Int32) := rfl
set_option maxRecDepth 65536 in
theorem own_at1_32 (c0 c1 c2 c3 : Int32) : (own_msg1 [c0, c1] [c2, c3]).getD 32 0 = (32 : Int32) := rfl
set_option maxRecDepth 65536 in
theorem own_at1_33 (c0 c1 c2 c3 : Int32) : (own_msg1 [c0, c1] [c2, c3]).getD 33 0 = c0 := rfl
set_option maxRecDepth 65536 in
theorem own_at1_34 (c0 c1 c2 c3 : Int32) : (own_msg1 [c0, c1] [c2, c3]).getD 34 0 = c1 := rfl
set_option maxRecDepth 65536 in
theorem own_at1_35 (c0 c1 c2 c3 : Int32) : (own_msg1 [c0, c1] [c2, c3]).getD 35 0 = (32 : Int32) := rfl
set_option maxRecDepth 65536 in
theorem own_at1_36 (c0 c1 c2 c3 : Int32) : (own_msg1 [c0, c1] [c2, c3]).getD 36 0 = (104 : Int32) := rfl
set_option maxRecDepth 65536 in
theorem own_at1_52 (c0 c1 c2 c3 : Int32) : (own_msg1 [c0, c1] [c2, c3]).getD 52 0 = (100 : Int32) := rfl
set_option maxRecDepth 65536 in
theorem own_at1_63 (c0 c1 c2 c3 : Int32) : (own_msg1 [c0, c1] [c2, c3]).getD 63 0 = (82 : Int32) := rfl
set_option maxRecDepth 65536 in
theorem own_at1_81 (c0 c1 c2 c3 : Int32) : (own_msg1 [c0, c1] [c2, c3]).getD 81 0 = (32 : Int32) := rfl
set_option maxRecDepth 65536 in
theorem own_at1_82 (c0 c1 c2 c3 : Int32) : (own_msg1 [c0, c1] [c2, c3]).getD 82 0 = (119 : Int32) := rfl
set_option maxRecDepth 65536 in
theorem own_at1_120 (c0 c1 c2 c3 : Int32) : (own_msg1 [c0, c1] [c2, c3]).getD 120 0 = (115 : Int32) := rfl
set_option maxRecDepth 65536 in
theorem own_at1_121 (c0 c1 c2 c3 : Int32) : (own_msg1 [c0, c1] [c2, c3]).getD 121 0 = (32 : Int32) := rfl
set_option maxRecDepth 65536 in
theorem own_at1_122 (c0 c1 c2 c3 : Int32) : (own_msg1 [c0, c1] [c2, c3]).getD 122 0 = c2 := rfl
set_option maxRecDepth 65536 in
theorem own_at1_123 (c0 c1 c2 c3 : Int32) : (own_msg1 [c0, c1] [c2, c3]).getD 123 0 = c3 := rfl
set_option maxRecDepth 65536 in
theorem own_at1_124 (c0 c1 c2 c3 : Int32) : (own_msg1 [c0, c1] [c2, c3]).getD 124 0 = (32 : Int32) := rfl
set_option maxRecDepth 65536 in
theorem own_at1_125 (c0 c1 c2 c3 : Int32) : (own_msg1 [c0, c1] [c2, c3]).getD 125 0 = (101 : Int32) := rfl
set_option maxRecDepth 65536 in
theorem own_at1_129 (c0 c1 c2 c3 : Int32) : (own_msg1 [c0, c1] [c2, c3]).getD 129 0 = (116 : Int32) := rfl
theorem ef_own_law (m : MethodId) (xa : Int32) (xb : Int32) (xf : Int32) : entryFrame m #[(.int xa), (.int xb), (.int xf)] maxLocals = mkF m 0 #[.val (.int xa), .val (.int xb), .val (.int xf), .unset, .unset, .unset, .unset, .unset, .unset, .unset, .unset, .unset, .unset, .unset, .unset, .unset, .unset, .unset, .unset] [] := by first | (simp [entryFrame, mkF, argsToLocals, Value.category, maxLocals]; done) | rfl
set_option maxRecDepth 65536 in
set_option maxHeartbeats 40000000 in
theorem own_law (l : Launch) (Z : State) (a0 : Array Value) (hw : ∀ d ∈ tables_1, d.before a0 Z = true) (hEL : EW Z a0 consts_1) (xa : Int32) (xb : Int32) (xf : Int32) (h : Heap) {G1 : Int32} {G3 : Value} {us ss : Addr} {kd ki : Addr} (O2 : Sta Z Z.heap "java/lang/String" "COMPACT_STRINGS" "Z" (.int G1)) (P5 : ¬ (G1 = (0 : Int32))) (O4 : Sta Z Z.heap "jdk/internal/util/Preconditions" "SIOOBE_FORMATTER" "Ljava/util/function/BiFunction;" G3) (rG3 : G3.isRef = true) (Us : Sta Z Z.heap "java/lang/Throwable" "UNASSIGNED_STACK" "[Ljava/lang/StackTraceElement;" (.ref us)) (Ss : Sta Z Z.heap "java/lang/Throwable" "SUPPRESSED_SENTINEL" "Ljava/util/List;" (.ref ss)) (hlt : l.stackTraces = true) (In : Sta Z Z.heap "com/example/vestwright/vestwright/run/RunRefusedException$Kind" "NO_ELECTIONS" "Lcom/example/vestwright/vestwright/run/RunRefusedException$Kind;" (.ref kd)) (Ii : Sta Z Z.heap "com/example/vestwright/vestwright/run/RunRefusedException$Kind" "INPUT" "Lcom/example/vestwright/vestwright/run/RunRefusedException$Kind;" (.ref ki)) (hki : ¬ kd = ki) :
    Con l Z consts_1 True x code maxLocals ret room_1 [] #[(.int xa), (.int xb), (.int xf)] h (fun v h' ws' => v = some (.int 1)) := by
  refine Con.intro own_pn37 (fun p e s m below meth c T X => ?_)
  rw [ef_own_law m xa xb xf]
  refine s_iloadN X (pc' := 1) at_0 rfl rfl ?_
  refine s_iconst X (pc' := 2) at_1 (v := (1 : Int32)) rfl rfl ?_
  refine s_iand X (pc' := 3) at_2 rfl ?_
  refine s_if X (pc' := 10) (pcF := 6) at_3 (by decide) (by decide) rfl (fun (q0 : (xf &&& (1 : Int32)) = (0 : Int32)) => ?_) (fun (q0 : ¬ (xf &&& (1 : Int32)) = (0 : Int32)) => ?_)
  · refine s_iconst X (pc' := 11) at_10 (v := (0 : Int32)) rfl rfl ?_
    refine s_istoreN X (pc' := 12) (L' := #[.val (.int xa), .val (.int xb), .val (.int xf), .val (.int (0 : Int32)), .unset, .unset, .unset, .unset, .unset, .unset, .unset, .unset, .unset, .unset, .unset, .unset, .unset, .unset, .unset]) at_11 rfl rfl ?_
    refine s_iloadN X (pc' := 13) at_12 rfl rfl ?_
    refine s_sipush X (pc' := 16) at_13 (v := (255 : Int32)) (by decide) rfl ?_
    refine s_iand X (pc' := 17) at_16 rfl ?_
    refine s_i2c X (pc' := 18) at_17 rfl ?_
    obtain ⟨c0, gc0⟩ : ∃ z, z = (xa &&& (255 : Int32)).toUInt32.toUInt16.toUInt32.toInt32 := ⟨_, rfl⟩
    rw [← gc0]
    have k0 : ¬ c0 < 0 ∧ ¬ (255 : Int32) < c0 := gc0 ▸ i2c_mask _
    refine s_istore X (pc' := 20) (L' := #[.val (.int xa), .val (.int xb), .val (.int xf), .val (.int (0 : Int32)), .val (.int c0), .unset, .unset, .unset, .unset, .unset, .unset, .unset, .unset, .unset, .unset, .unset, .unset, .unset, .unset]) at_18 rfl rfl ?_
    refine s_iloadN X (pc' := 21) at_20 rfl rfl ?_
    refine s_bipush X (pc' := 23) at_21 (v := (8 : Int32)) (by decide) rfl ?_
    refine s_iushr X (pc' := 24) at_23 rfl ?_
    refine s_sipush X (pc' := 27) at_24 (v := (255 : Int32)) (by decide) rfl ?_
    refine s_iand X (pc' := 28) at_27 rfl ?_
    refine s_i2c X (pc' := 29) at_28 rfl ?_
    obtain ⟨c1, gc1⟩ : ∃ z, z = (((xa.toUInt32 >>> ((8 : Int32) &&& 31).toUInt32).toInt32) &&& (255 : Int32)).toUInt32.toUInt16.toUInt32.toInt32 := ⟨_, rfl⟩
    rw [← gc1]
    have k1 : ¬ c1 < 0 ∧ ¬ (255 : Int32) < c1 := gc1 ▸ i2c_mask _
    refine s_istore X (pc' := 31) (L' := #[.val (.int xa), .val (.int xb), .val (.int xf), .val (.int (0 : Int32)), .val (.int c0), .val (.int c1), .unset, .unset, .unset, .unset, .unset, .unset, .unset, .unset, .unset, .unset, .unset, .unset, .unset]) at_29 rfl rfl ?_
    refine s_iloadN X (pc' := 32) at_31 rfl rfl ?_
    refine s_sipush X (pc' := 35) at_32 (v := (255 : Int32)) (by decide) rfl ?_
    refine s_iand X (pc' := 36) at_35 rfl ?_
    refine s_i2c X (pc' := 37) at_36 rfl ?_
    obtain ⟨c2, gc2⟩ : ∃ z, z = (xb &&& (255 : Int32)).toUInt32.toUInt16.toUInt32.toInt32 := ⟨_, rfl⟩
    rw [← gc2]
    have k2 : ¬ c2 < 0 ∧ ¬ (255 : Int32) < c2 := gc2 ▸ i2c_mask _
    refine s_istore X (pc' := 39) (L' := #[.val (.int xa), .val (.int xb), .val (.int xf), .val (.int (0 : Int32)), .val (.int c0), .val (.int c1), .val (.int c2), .unset, .unset, .unset, .unset, .unset, .unset, .unset, .unset, .unset, .unset, .unset, .unset]) at_37 rfl rfl ?_
    refine s_iloadN X (pc' := 40) at_39 rfl rfl ?_
    refine s_bipush X (pc' := 42) at_40 (v := (8 : Int32)) (by decide) rfl ?_
    refine s_iushr X (pc' := 43) at_42 rfl ?_
    refine s_sipush X (pc' := 46) at_43 (v := (255 : Int32)) (by decide) rfl ?_
    refine s_iand X (pc' := 47) at_46 rfl ?_
    refine s_i2c X (pc' := 48) at_47 rfl ?_
    obtain ⟨c3, gc3⟩ : ∃ z, z = (((xb.toUInt32 >>> ((8 : Int32) &&& 31).toUInt32).toInt32) &&& (255 : Int32)).toUInt32.toUInt16.toUInt32.toInt32 := ⟨_, rfl⟩
    rw [← gc3]
    have k3 : ¬ c3 < 0 ∧ ¬ (255 : Int32) < c3 := gc3 ▸ i2c_mask _
    refine s_istore X (pc' := 50) (L' := #[.val (.int xa), .val (.int xb), .val (.int xf), .val (.int (0 : Int32)), .val (.int c0), .val (.int c1), .val (.int c2), .val (.int c3), .unset, .unset, .unset, .unset, .unset, .unset, .unset, .unset, .unset, .unset, .unset]) at_48 rfl rfl ?_
    refine s_iconst X (pc' := 51) at_50 (v := (2 : Int32)) rfl rfl ?_
    refine s_newarr X (pc' := 53) (k' := 1) (n' := 2) (N := 2) at_51 (hw _ (List.mem_of_getElem? (i := 0) rfl)) rfl (by decide) (by decide) (by decide) (by decide) (by decide) rfl (fun T h273 b272 gb_b272 X' E274 A_b272 => ?_)
    have g_b272 : Z.heap.size ≤ b272 := by rw [gb_b272]; exact X.lt
    replace X := X'
    replace A_b272 : Ary Z h273 b272 .char [(.int (0 : Int32)), (.int (0 : Int32))] := A_b272
    refine s_astore X (pc' := 55) (L' := #[.val (.int xa), .val (.int xb), .val (.int xf), .val (.int (0 : Int32)), .val (.int c0), .val (.int c1), .val (.int c2), .val (.int c3), .val (.ref b272), .unset, .unset, .unset, .unset, .unset, .unset, .unset, .unset, .unset, .unset]) at_53 rfl rfl rfl ?_
    refine s_aload X (pc' := 57) at_55 rfl rfl rfl ?_
    refine s_iconst X (pc' := 58) at_57 (v := (0 : Int32)) rfl rfl ?_
    refine s_iload X (pc' := 60) at_58 rfl rfl ?_
    refine s_castore X (pc' := 61) (i := 0) at_60 A_b272 rfl (Nat.le_of_ble_eq_true rfl) g_b272 (by simp) rfl (fun T h275 X W276 A' => ?_)
    replace A_b272 : Ary Z h275 b272 .char [(.int (nar .char c0)), (.int (0 : Int32))] := A'
    refine s_aload X (pc' := 63) at_61 rfl rfl rfl ?_
    refine s_iconst X (pc' := 64) at_63 (v := (1 : Int32)) rfl rfl ?_
    refine s_iload X (pc' := 66) at_64 rfl rfl ?_
    refine s_castore X (pc' := 67) (i := 1) at_66 A_b272 rfl (Nat.le_of_ble_eq_true rfl) g_b272 (by simp) rfl (fun T h277 X W278 A' => ?_)
    replace A_b272 : Ary Z h277 b272 .char [(.int (nar .char c0)), (.int (nar .char c1))] := A'
    refine s_iconst X (pc' := 68) at_67 (v := (2 : Int32)) rfl rfl ?_
    refine s_newarr X (pc' := 70) (k' := 2) (n' := 4) (N := 2) at_68 (hw _ (List.mem_of_getElem? (i := 0) rfl)) rfl (by decide) (by decide) (by decide) (by decide) (by decide) rfl (fun T h280 b279 gb_b279 X' E281 A_b279 => ?_)
    have g_b279 : Z.heap.size ≤ b279 := by rw [gb_b279]; exact X.lt
    have ne_b272_b279 : b272 ≠ b279 := Nat.ne_of_lt (by rw [gb_b279]; exact A_b272.lt)
    replace A_b272 := A_b272.ext E281
    replace X := X'
    replace A_b279 : Ary Z h280 b279 .char [(.int (0 : Int32)), (.int (0 : Int32))] := A_b279
    refine s_astore X (pc' := 72) (L' := #[.val (.int xa), .val (.int xb), .val (.int xf), .val (.int (0 : Int32)), .val (.int c0), .val (.int c1), .val (.int c2), .val (.int c3), .val (.ref b272), .val (.ref b279), .unset, .unset, .unset, .unset, .unset, .unset, .unset, .unset, .unset]) at_70 rfl rfl rfl ?_
    refine s_aload X (pc' := 74) at_72 rfl rfl rfl ?_
    refine s_iconst X (pc' := 75) at_74 (v := (0 : Int32)) rfl rfl ?_
    refine s_iload X (pc' := 77) at_75 rfl rfl ?_
    refine s_castore X (pc' := 78) (i := 0) at_77 A_b279 rfl (Nat.le_of_ble_eq_true rfl) g_b279 (by simp) rfl (fun T h282 X W283 A' => ?_)
    replace A_b272 := A_b272.other W283 ne_b272_b279
    replace A_b279 : Ary Z h282 b279 .char [(.int (nar .char c2)), (.int (0 : Int32))] := A'
    refine s_aload X (pc' := 80) at_78 rfl rfl rfl ?_
    refine s_iconst X (pc' := 81) at_80 (v := (1 : Int32)) rfl rfl ?_
    refine s_iload X (pc' := 83) at_81 rfl rfl ?_
    refine s_castore X (pc' := 84) (i := 1) at_83 A_b279 rfl (Nat.le_of_ble_eq_true rfl) g_b279 (by simp) rfl (fun T h284 X W285 A' => ?_)
    replace A_b272 := A_b272.other W285 ne_b272_b279
    replace A_b279 : Ary Z h284 b279 .char [(.int (nar .char c2)), (.int (nar .char c3))] := A'
    refine s_new X (pc' := 87) (k' := 3) (n' := 8) at_84 (hw _ (List.mem_of_getElem? (i := 1) rfl)) (hw _ (List.mem_of_getElem? (i := 2) rfl)) (hw _ (List.mem_of_getElem? (i := 3) rfl)) (by decide) (by decide) (by decide) (by decide) rfl (fun T h287 b286 gb_b286 X' E288 E_b286 D_b286 U_b286 => ?_)
    have g_b286 : Z.heap.size ≤ b286 := by rw [gb_b286]; exact X.lt
    have ne_b272_b286 : b272 ≠ b286 := Nat.ne_of_lt (by rw [gb_b286]; exact A_b272.lt)
    have ne_b279_b286 : b279 ≠ b286 := Nat.ne_of_lt (by rw [gb_b286]; exact A_b279.lt)
    replace A_b272 := A_b272.ext E288
    replace A_b279 := A_b279.ext E288
    replace X := X'
    have F_b286_coder : Fld Z h287 b286 "java/lang/String" "coder" "B" (.int (0 : Int32)) := D_b286 (Or.inr (hw _ (List.mem_of_getElem? (i := 27) rfl))) (ty := .byte) (by decide)
    have F_b286_value : Fld Z h287 b286 "java/lang/String" "value" "[B" .null := D_b286 (Or.inr (hw _ (List.mem_of_getElem? (i := 29) rfl))) (ty := (.array .byte)) (by decide)
    refine s_dup X (pc' := 88) at_87 rfl rfl ?_
    refine s_aload X (pc' := 90) at_88 rfl rfl rfl ?_
    refine s_special X (pc' := 93) (W := 1) (as' := [(.ref b272)]) (S := [(.ref b286)]) (k' := 4) (n' := 10) at_90 rfl (hw _ (List.mem_of_getElem? (i := 4) rfl)) (hw _ (List.mem_of_getElem? (i := 5) rfl)) (hw _ (List.mem_of_getElem? (i := 6) rfl)) (by decide) own_pd25 rfl (newStrPay hw hEL O2 P5 X.old g_b286 (by simp) E_b286 F_b286_value F_b286_coder (cs := [c0, c1]) (by simp [nar_id (up16 k0), nar_id (up16 k1)]) A_b272 (n := 2) rfl (by decide) (by decide) (alS k0 (alS k1 al0)) (by decide) (by decide)) (Nat.le_of_ble_eq_true rfl) rfl rfl (by decide) (by decide) (by decide) (by decide) rfl (fun T h289 v_ ws_ X hgr_ q290 => ?_)
    obtain ⟨rfl, K_, S_b286, rfl⟩ := q290
    show Go p e below _ T (mkF m 93 #[.val (.int xa), .val (.int xb), .val (.int xf), .val (.int (0 : Int32)), .val (.int c0), .val (.int c1), .val (.int c2), .val (.int c3), .val (.ref b272), .val (.ref b279), .unset, .unset, .unset, .unset, .unset, .unset, .unset, .unset, .unset] [(.ref b286)])
    replace A_b279 := A_b279.keep K_ (ninS ne_b279_b286 nin0)
    replace E_b286 := E_b286.keep K_
    have hps : Lat [c0, c1] := (alS k0 (alS k1 al0))
    refine s_astore X (pc' := 95) (L' := #[.val (.int xa), .val (.int xb), .val (.int xf), .val (.int (0 : Int32)), .val (.int c0), .val (.int c1), .val (.int c2), .val (.int c3), .val (.ref b272), .val (.ref b279), .val (.ref b286), .unset, .unset, .unset, .unset, .unset, .unset, .unset, .unset]) at_93 rfl rfl rfl ?_
    refine s_new X (pc' := 98) (k' := 5) (n' := 14) at_95 (hw _ (List.mem_of_getElem? (i := 1) rfl)) (hw _ (List.mem_of_getElem? (i := 2) rfl)) (hw _ (List.mem_of_getElem? (i := 3) rfl)) (by decide) (by decide) (by decide) (by decide) rfl (fun T h292 b291 gb_b291 X' E293 E_b291 D_b291 U_b291 => ?_)
    have g_b291 : Z.heap.size ≤ b291 := by rw [gb_b291]; exact X.lt
    have ne_b279_b291 : b279 ≠ b291 := Nat.ne_of_lt (by rw [gb_b291]; exact A_b279.lt)
    have ne_b286_b291 : b286 ≠ b291 := Nat.ne_of_lt (by rw [gb_b291]; exact S_b286.lt)
    replace A_b279 := A_b279.ext E293
    replace S_b286 := S_b286.ext E293
    replace X := X'
    have F_b291_coder : Fld Z h292 b291 "java/lang/String" "coder" "B" (.int (0 : Int32)) := D_b291 (Or.inr (hw _ (List.mem_of_getElem? (i := 27) rfl))) (ty := .byte) (by decide)
    have F_b291_value : Fld Z h292 b291 "java/lang/String" "value" "[B" .null := D_b291 (Or.inr (hw _ (List.mem_of_getElem? (i := 29) rfl))) (ty := (.array .byte)) (by decide)
    refine s_dup X (pc' := 99) at_98 rfl rfl ?_
    refine s_aload X (pc' := 101) at_99 rfl rfl rfl ?_
    have E0_q := E_b291
    refine s_special X (pc' := 104) (W := 1) (as' := [(.ref b279)]) (S := [(.ref b291)]) (k' := 6) (n' := 16) at_101 rfl (hw _ (List.mem_of_getElem? (i := 4) rfl)) (hw _ (List.mem_of_getElem? (i := 5) rfl)) (hw _ (List.mem_of_getElem? (i := 6) rfl)) (by decide) own_pd25 rfl (newStrPay hw hEL O2 P5 X.old g_b291 (by simp) E_b291 F_b291_value F_b291_coder (cs := [c2, c3]) (by simp [nar_id (up16 k2), nar_id (up16 k3)]) A_b279 (n := 2) rfl (by decide) (by decide) (alS k2 (alS k3 al0)) (by decide) (by decide)) (Nat.le_of_ble_eq_true rfl) rfl rfl (by decide) (by decide) (by decide) (by decide) rfl (fun T h294 v_ ws_ X hgr_ q295 => ?_)
    obtain ⟨rfl, K_, S_b291, rfl⟩ := q295
    show Go p e below _ T (mkF m 104 #[.val (.int xa), .val (.int xb), .val (.int xf), .val (.int (0 : Int32)), .val (.int c0), .val (.int c1), .val (.int c2), .val (.int c3), .val (.ref b272), .val (.ref b279), .val (.ref b286), .unset, .unset, .unset, .unset, .unset, .unset, .unset, .unset] [(.ref b291)])
    replace E_b291 := E_b291.keep K_
    have hqs : Lat [c2, c3] := (alS k2 (alS k3 al0))
    replace S_b286 := S_b286.keepS K_ E0_q ne_b286_b291 (hw _ (List.mem_of_getElem? (i := 2) rfl))
    refine s_astore X (pc' := 106) (L' := #[.val (.int xa), .val (.int xb), .val (.int xf), .val (.int (0 : Int32)), .val (.int c0), .val (.int c1), .val (.int c2), .val (.int c3), .val (.ref b272), .val (.ref b279), .val (.ref b286), .val (.ref b291), .unset, .unset, .unset, .unset, .unset, .unset, .unset]) at_104 rfl rfl rfl ?_
    refine s_aload X (pc' := 108) at_106 rfl rfl rfl ?_
    refine s_aload X (pc' := 110) at_108 rfl rfl rfl ?_
    refine s_iloadN X (pc' := 111) at_110 rfl rfl ?_
    refine s_static X (pc' := 114) (W := 0) (as' := [(.ref b286), (.ref b291), (.int (0 : Int32))]) (S := []) (k' := 46) (n' := 7016) at_111 (hw _ (List.mem_of_getElem? (i := 30) rfl)) (hw _ (List.mem_of_getElem? (i := 31) rfl)) (hw _ (List.mem_of_getElem? (i := 32) rfl)) (hw _ (List.mem_of_getElem? (i := 33) rfl)) (by decide) own_pd26 rfl ((own_ne0 l Z a0 hw hEL b286 b291 _ S_b286 hps rfl S_b291 hqs rfl In Us Ss hlt O2 P5).payS (by simp) (hw _ (List.mem_of_getElem? (i := 33) rfl)) (hw _ (List.mem_of_getElem? (i := 32) rfl)) hEL (by decide) (by decide)) (Nat.le_of_ble_eq_true rfl) rfl rfl (by decide) (by decide) (by decide) (by decide) rfl (fun T h296 v_ ws_ X hgr_ q297 => ?_)
    obtain ⟨r, mg, rfl, E_, E_r, F_r_kind, F_r_detailMessage, S_mg, hmg, rfl⟩ := q297
    show Go p e below _ T (mkF m 114 #[.val (.int xa), .val (.int xb), .val (.int xf), .val (.int (0 : Int32)), .val (.int c0), .val (.int c1), .val (.int c2), .val (.int c3), .val (.ref b272), .val (.ref b279), .val (.ref b286), .val (.ref b291), .unset, .unset, .unset, .unset, .unset, .unset, .unset] [(.ref r)])
    replace X := X.sub (ws' := []) (by simp)
    refine s_astore X (pc' := 116) (L' := #[.val (.int xa), .val (.int xb), .val (.int xf), .val (.int (0 : Int32)), .val (.int c0), .val (.int c1), .val (.int c2), .val (.int c3), .val (.ref b272), .val (.ref b279), .val (.ref b286), .val (.ref b291), .val (.ref r), .unset, .unset, .unset, .unset, .unset, .unset]) at_114 rfl rfl rfl ?_
    refine s_aload X (pc' := 118) at_116 rfl rfl rfl ?_
    refine s_virtual X (pc' := 121) (W := 0) (as' := []) (S := []) (k' := 46) (n' := 7016) at_118 (hw _ (List.mem_of_getElem? (i := 257) rfl)) (hw _ (List.mem_of_getElem? (i := 258) rfl)) (hw _ (List.mem_of_getElem? (i := 260) rfl)) (hw _ (List.mem_of_getElem? (i := 259) rfl)) (nface (hw _ (List.mem_of_getElem? (i := 260) rfl))) (by decide) own_pd27 rfl E_r ((own_kind l Z a0 hw hEL r _ F_r_kind).payS (by simp) (hw _ (List.mem_of_getElem? (i := 261) rfl)) (hw _ (List.mem_of_getElem? (i := 32) rfl)) hEL (by decide) (by decide)) (Nat.le_of_ble_eq_true rfl) rfl rfl (by decide) (by decide) (by decide) (by decide) rfl (fun T h298 v_ ws_ X hgr_ q299 => ?_)
    obtain ⟨rfl, e_, rfl⟩ := q299
    rw [e_] at X
    show Go p e below _ T (mkF m 121 #[.val (.int xa), .val (.int xb), .val (.int xf), .val (.int (0 : Int32)), .val (.int c0), .val (.int c1), .val (.int c2), .val (.int c3), .val (.ref b272), .val (.ref b279), .val (.ref b286), .val (.ref b291), .val (.ref r), .unset, .unset, .unset, .unset, .unset, .unset] [(.ref kd)])
    replace X := X.sub (ws' := []) (by simp)
    refine s_gets X (pc' := 124) at_121 (hw _ (List.mem_of_getElem? (i := 262) rfl)) Via.refl In rfl (fun T X => ?_)
    refine s_acmpT X (pc' := 129) at_124 rfl rfl (by simp [XT.acmp]) (by decide) (by decide) ?_
    refine s_aload X (pc' := 131) at_129 rfl rfl rfl ?_
    refine s_virtual X (pc' := 134) (W := 0) (as' := []) (S := []) (k' := 46) (n' := 7016) at_131 (hw _ (List.mem_of_getElem? (i := 263) rfl)) (hw _ (List.mem_of_getElem? (i := 264) rfl)) (hw _ (List.mem_of_getElem? (i := 266) rfl)) (hw _ (List.mem_of_getElem? (i := 265) rfl)) (nface (hw _ (List.mem_of_getElem? (i := 266) rfl))) (by decide) own_pd18 rfl E_r ((own_rr l Z a0 hw hEL r _ E_r F_r_kind F_r_detailMessage Ii hki).payS (by simp) (hw _ (List.mem_of_getElem? (i := 267) rfl)) (hw _ (List.mem_of_getElem? (i := 32) rfl)) hEL (by decide) (by decide)) (Nat.le_of_ble_eq_true rfl) rfl rfl (by decide) (by decide) (by decide) (by decide) rfl (fun T h300 v_ ws_ X hgr_ q301 => ?_)
    obtain ⟨rfl, e_, rfl⟩ := q301
    rw [e_] at X
    show Go p e below _ T (mkF m 134 #[.val (.int xa), .val (.int xb), .val (.int xf), .val (.int (0 : Int32)), .val (.int c0), .val (.int c1), .val (.int c2), .val (.int c3), .val (.ref b272), .val (.ref b279), .val (.ref b286), .val (.ref b291), .val (.ref r), .unset, .unset, .unset, .unset, .unset, .unset] [(.ref mg)])
    replace X := X.sub (ws' := []) (by simp)
    have E_mg := S_mg.exa
    refine s_astore X (pc' := 136) (L' := #[.val (.int xa), .val (.int xb), .val (.int xf), .val (.int (0 : Int32)), .val (.int c0), .val (.int c1), .val (.int c2), .val (.int c3), .val (.ref b272), .val (.ref b279), .val (.ref b286), .val (.ref b291), .val (.ref r), .val (.ref mg), .unset, .unset, .unset, .unset, .unset]) at_134 rfl rfl rfl ?_
    refine s_aload X (pc' := 138) at_136 rfl rfl rfl ?_
    refine s_ifnonnullT X (pc' := 143) at_138 (by decide) (by decide) ?_
    refine s_iloadN X (pc' := 144) at_143 rfl rfl ?_
    refine s_ifT X (pc' := 152) at_144 (show (0 : Int32) = (0 : Int32) by decide) (by decide) (by decide) ?_
    refine s_bipush X (pc' := 154) at_152 (v := (28 : Int32)) (by decide) rfl ?_
    refine s_istore X (pc' := 156) (L' := #[.val (.int xa), .val (.int xb), .val (.int xf), .val (.int (0 : Int32)), .val (.int c0), .val (.int c1), .val (.int c2), .val (.int c3), .val (.ref b272), .val (.ref b279), .val (.ref b286), .val (.ref b291), .val (.ref r), .val (.ref mg), .val (.int (28 : Int32)), .unset, .unset, .unset, .unset]) at_154 rfl rfl ?_
    refine s_iloadN X (pc' := 157) at_156 rfl rfl ?_
    refine s_ifT X (pc' := 165) at_157 (show (0 : Int32) = (0 : Int32) by decide) (by decide) (by decide) ?_
    refine s_bipush X (pc' := 167) at_165 (v := (13 : Int32)) (by decide) rfl ?_
    refine s_istore X (pc' := 169) (L' := #[.val (.int xa), .val (.int xb), .val (.int xf), .val (.int (0 : Int32)), .val (.int c0), .val (.int c1), .val (.int c2), .val (.int c3), .val (.ref b272), .val (.ref b279), .val (.ref b286), .val (.ref b291), .val (.ref r), .val (.ref mg), .val (.int (28 : Int32)), .val (.int (13 : Int32)), .unset, .unset, .unset]) at_167 rfl rfl ?_
    refine s_iload X (pc' := 171) at_169 rfl rfl ?_
    refine s_iconst X (pc' := 172) at_171 (v := (2 : Int32)) rfl rfl ?_
    refine s_iadd X (pc' := 173) at_172 rfl ?_
    refine s_iload X (pc' := 175) at_173 rfl rfl ?_
    refine s_iadd X (pc' := 176) at_175 rfl ?_
    refine s_bipush X (pc' := 178) at_176 (v := (41 : Int32)) (by decide) rfl ?_
    refine s_iadd X (pc' := 179) at_178 rfl ?_
    refine s_istore X (pc' := 181) (L' := #[.val (.int xa), .val (.int xb), .val (.int xf), .val (.int (0 : Int32)), .val (.int c0), .val (.int c1), .val (.int c2), .val (.int c3), .val (.ref b272), .val (.ref b279), .val (.ref b286), .val (.ref b291), .val (.ref r), .val (.ref mg), .val (.int (28 : Int32)), .val (.int (13 : Int32)), .val (.int ((((28 : Int32) + (2 : Int32)) + (13 : Int32)) + (41 : Int32))), .unset, .unset]) at_179 rfl rfl ?_
    refine s_iloadN X (pc' := 182) at_181 rfl rfl ?_
    refine s_ifT X (pc' := 190) at_182 (show (0 : Int32) = (0 : Int32) by decide) (by decide) (by decide) ?_
    refine s_bipush X (pc' := 192) at_190 (v := (88 : Int32)) (by decide) rfl ?_
    refine s_iconst X (pc' := 193) at_192 (v := (4 : Int32)) rfl rfl ?_
    refine s_iadd X (pc' := 194) at_193 rfl ?_
    refine s_istore X (pc' := 196) (L' := #[.val (.int xa), .val (.int xb), .val (.int xf), .val (.int (0 : Int32)), .val (.int c0), .val (.int c1), .val (.int c2), .val (.int c3), .val (.ref b272), .val (.ref b279), .val (.ref b286), .val (.ref b291), .val (.ref r), .val (.ref mg), .val (.int (28 : Int32)), .val (.int (13 : Int32)), .val (.int ((((28 : Int32) + (2 : Int32)) + (13 : Int32)) + (41 : Int32))), .val (.int ((88 : Int32) + (4 : Int32))), .unset]) at_194 rfl rfl ?_
    refine s_aload X (pc' := 198) at_196 rfl rfl rfl ?_
    refine s_virtual X (pc' := 201) (W := 0) (as' := []) (S := []) (k' := 46) (n' := 7016) at_198 (hw _ (List.mem_of_getElem? (i := 276) rfl)) (hw _ (List.mem_of_getElem? (i := 66) rfl)) (hw _ (List.mem_of_getElem? (i := 68) rfl)) (hw _ (List.mem_of_getElem? (i := 67) rfl)) (nface (hw _ (List.mem_of_getElem? (i := 68) rfl))) (by decide) own_pd7 rfl E_mg (lenPay hw hEL O2 P5 X.old S_mg (by decide) (by decide)) (Nat.le_of_ble_eq_true rfl) rfl rfl (by decide) (by decide) (by decide) (by decide) rfl (fun T h302 v_ ws_ X hgr_ q303 => ?_)
    obtain ⟨rfl, e_, rfl⟩ := q303
    rw [e_] at X
    show Go p e below _ T (mkF m 201 #[.val (.int xa), .val (.int xb), .val (.int xf), .val (.int (0 : Int32)), .val (.int c0), .val (.int c1), .val (.int c2), .val (.int c3), .val (.ref b272), .val (.ref b279), .val (.ref b286), .val (.ref b291), .val (.ref r), .val (.ref mg), .val (.int (28 : Int32)), .val (.int (13 : Int32)), .val (.int ((((28 : Int32) + (2 : Int32)) + (13 : Int32)) + (41 : Int32))), .val (.int ((88 : Int32) + (4 : Int32))), .unset] [(.int (Int32.ofNat (own_msg0 [c0, c1] [c2, c3]).length))])
    replace X := X.sub (ws' := []) (by simp)
    refine go_int (z := (92 : Int32)) (by rw [own_ml0]; rfl) ?_
    refine s_iload X (pc' := 203) at_201 rfl rfl ?_
    refine go_int (z := (92 : Int32)) (by decide) ?_
    refine s_icmpT X (pc' := 208) at_203 (show (92 : Int32) = (92 : Int32) by decide) (by decide) (by decide) ?_
    refine s_aload X (pc' := 210) at_208 rfl rfl rfl ?_
    refine s_iconst X (pc' := 211) at_210 (v := (0 : Int32)) rfl rfl ?_
    refine s_virtual X (pc' := 214) (W := 0) (as' := [(.int (0 : Int32))]) (S := []) (k' := 46) (n' := 7016) at_211 (hw _ (List.mem_of_getElem? (i := 277) rfl)) (hw _ (List.mem_of_getElem? (i := 278) rfl)) (hw _ (List.mem_of_getElem? (i := 280) rfl)) (hw _ (List.mem_of_getElem? (i := 279) rfl)) (nface (hw _ (List.mem_of_getElem? (i := 280) rfl))) (by decide) own_pd28 rfl E_mg (chPay hw hEL O2 P5 O4 rG3 X.old S_mg (fun c hc => (hmg c hc).2) (i := 0) (by rw [own_ml0]; decide) rfl (by decide) (by decide)) (Nat.le_of_ble_eq_true rfl) rfl rfl (by decide) (by decide) (by decide) (by decide) rfl (fun T h304 v_ ws_ X hgr_ q305 => ?_)
    obtain ⟨rfl, e_, rfl⟩ := q305
    rw [e_] at X
    show Go p e below _ T (mkF m 214 #[.val (.int xa), .val (.int xb), .val (.int xf), .val (.int (0 : Int32)), .val (.int c0), .val (.int c1), .val (.int c2), .val (.int c3), .val (.ref b272), .val (.ref b279), .val (.ref b286), .val (.ref b291), .val (.ref r), .val (.ref mg), .val (.int (28 : Int32)), .val (.int (13 : Int32)), .val (.int ((((28 : Int32) + (2 : Int32)) + (13 : Int32)) + (41 : Int32))), .val (.int ((88 : Int32) + (4 : Int32))), .unset] [(.int ((own_msg0 [c0, c1] [c2, c3]).getD (0) 0))])
    replace X := X.sub (ws' := []) (by simp)
    refine go_int (z := (45 : Int32)) (own_at0_0 c0 c1 c2 c3) ?_
    refine s_bipush X (pc' := 216) at_214 (v := (45 : Int32)) (by decide) rfl ?_
    refine s_icmpF X (pc' := 219) at_216 (show (45 : Int32) = (45 : Int32) by decide) rfl ?_
    refine s_aload X (pc' := 221) at_219 rfl rfl rfl ?_
    refine s_iconst X (pc' := 222) at_221 (v := (1 : Int32)) rfl rfl ?_
    refine s_virtual X (pc' := 225) (W := 0) (as' := [(.int (1 : Int32))]) (S := []) (k' := 46) (n' := 7016) at_222 (hw _ (List.mem_of_getElem? (i := 277) rfl)) (hw _ (List.mem_of_getElem? (i := 278) rfl)) (hw _ (List.mem_of_getElem? (i := 280) rfl)) (hw _ (List.mem_of_getElem? (i := 279) rfl)) (nface (hw _ (List.mem_of_getElem? (i := 280) rfl))) (by decide) own_pd28 rfl E_mg (chPay hw hEL O2 P5 O4 rG3 X.old S_mg (fun c hc => (hmg c hc).2) (i := 1) (by rw [own_ml0]; decide) rfl (by decide) (by decide)) (Nat.le_of_ble_eq_true rfl) rfl rfl (by decide) (by decide) (by decide) (by decide) rfl (fun T h306 v_ ws_ X hgr_ q307 => ?_)
    obtain ⟨rfl, e_, rfl⟩ := q307
    rw [e_] at X
    show Go p e below _ T (mkF m 225 #[.val (.int xa), .val (.int xb), .val (.int xf), .val (.int (0 : Int32)), .val (.int c0), .val (.int c1), .val (.int c2), .val (.int c3), .val (.ref b272), .val (.ref b279), .val (.ref b286), .val (.ref b291), .val (.ref r), .val (.ref mg), .val (.int (28 : Int32)), .val (.int (13 : Int32)), .val (.int ((((28 : Int32) + (2 : Int32)) + (13 : Int32)) + (41 : Int32))), .val (.int ((88 : Int32) + (4 : Int32))), .unset] [(.int ((own_msg0 [c0, c1] [c2, c3]).getD (1) 0))])
    replace X := X.sub (ws' := []) (by simp)
    refine go_int (z := (45 : Int32)) (own_at0_1 c0 c1 c2 c3) ?_
    refine s_bipush X (pc' := 227) at_225 (v := (45 : Int32)) (by decide) rfl ?_
    refine s_icmpF X (pc' := 230) at_227 (show (45 : Int32) = (45 : Int32) by decide) rfl ?_
    refine s_aload X (pc' := 232) at_230 rfl rfl rfl ?_
    refine s_iconst X (pc' := 233) at_232 (v := (2 : Int32)) rfl rfl ?_
    refine s_virtual X (pc' := 236) (W := 0) (as' := [(.int (2 : Int32))]) (S := []) (k' := 46) (n' := 7016) at_233 (hw _ (List.mem_of_getElem? (i := 277) rfl)) (hw _ (List.mem_of_getElem? (i := 278) rfl)) (hw _ (List.mem_of_getElem? (i := 280) rfl)) (hw _ (List.mem_of_getElem? (i := 279) rfl)) (nface (hw _ (List.mem_of_getElem? (i := 280) rfl))) (by decide) own_pd28 rfl E_mg (chPay hw hEL O2 P5 O4 rG3 X.old S_mg (fun c hc => (hmg c hc).2) (i := 2) (by rw [own_ml0]; decide) rfl (by decide) (by decide)) (Nat.le_of_ble_eq_true rfl) rfl rfl (by decide) (by decide) (by decide) (by decide) rfl (fun T h308 v_ ws_ X hgr_ q309 => ?_)
    obtain ⟨rfl, e_, rfl⟩ := q309
    rw [e_] at X
    show Go p e below _ T (mkF m 236 #[.val (.int xa), .val (.int xb), .val (.int xf), .val (.int (0 : Int32)), .val (.int c0), .val (.int c1), .val (.int c2), .val (.int c3), .val (.ref b272), .val (.ref b279), .val (.ref b286), .val (.ref b291), .val (.ref r), .val (.ref mg), .val (.int (28 : Int32)), .val (.int (13 : Int32)), .val (.int ((((28 : Int32) + (2 : Int32)) + (13 : Int32)) + (41 : Int32))), .val (.int ((88 : Int32) + (4 : Int32))), .unset] [(.int ((own_msg0 [c0, c1] [c2, c3]).getD (2) 0))])
    replace X := X.sub (ws' := []) (by simp)
    refine go_int (z := (101 : Int32)) (own_at0_2 c0 c1 c2 c3) ?_
    refine s_iloadN X (pc' := 237) at_236 rfl rfl ?_
    refine s_ifT X (pc' := 245) at_237 (show (0 : Int32) = (0 : Int32) by decide) (by decide) (by decide) ?_
    refine s_bipush X (pc' := 247) at_245 (v := (101 : Int32)) (by decide) rfl ?_
    refine s_icmpF X (pc' := 250) at_247 (show (101 : Int32) = (101 : Int32) by decide) rfl ?_
    refine s_aload X (pc' := 252) at_250 rfl rfl rfl ?_
    refine s_iload X (pc' := 254) at_252 rfl rfl ?_
    refine s_iconst X (pc' := 255) at_254 (v := (2 : Int32)) rfl rfl ?_
    refine s_isub X (pc' := 256) at_255 rfl ?_
    refine go_int (z := (26 : Int32)) (by decide) ?_
    refine s_virtual X (pc' := 259) (W := 0) (as' := [(.int (26 : Int32))]) (S := []) (k' := 46) (n' := 7016) at_256 (hw _ (List.mem_of_getElem? (i := 277) rfl)) (hw _ (List.mem_of_getElem? (i := 278) rfl)) (hw _ (List.mem_of_getElem? (i := 280) rfl)) (hw _ (List.mem_of_getElem? (i := 279) rfl)) (nface (hw _ (List.mem_of_getElem? (i := 280) rfl))) (by decide) own_pd28 rfl E_mg (chPay hw hEL O2 P5 O4 rG3 X.old S_mg (fun c hc => (hmg c hc).2) (i := 26) (by rw [own_ml0]; decide) rfl (by decide) (by decide)) (Nat.le_of_ble_eq_true rfl) rfl rfl (by decide) (by decide) (by decide) (by decide) rfl (fun T h310 v_ ws_ X hgr_ q311 => ?_)
    obtain ⟨rfl, e_, rfl⟩ := q311
    rw [e_] at X
    show Go p e below _ T (mkF m 259 #[.val (.int xa), .val (.int xb), .val (.int xf), .val (.int (0 : Int32)), .val (.int c0), .val (.int c1), .val (.int c2), .val (.int c3), .val (.ref b272), .val (.ref b279), .val (.ref b286), .val (.ref b291), .val (.ref r), .val (.ref mg), .val (.int (28 : Int32)), .val (.int (13 : Int32)), .val (.int ((((28 : Int32) + (2 : Int32)) + (13 : Int32)) + (41 : Int32))), .val (.int ((88 : Int32) + (4 : Int32))), .unset] [(.int ((own_msg0 [c0, c1] [c2, c3]).getD (26) 0))])
    replace X := X.sub (ws' := []) (by simp)
    refine go_int (z := (100 : Int32)) (own_at0_26 c0 c1 c2 c3) ?_
    refine s_bipush X (pc' := 261) at_259 (v := (100 : Int32)) (by decide) rfl ?_
    refine s_icmpF X (pc' := 264) at_261 (show (100 : Int32) = (100 : Int32) by decide) rfl ?_
    refine s_aload X (pc' := 266) at_264 rfl rfl rfl ?_
    refine s_iload X (pc' := 268) at_266 rfl rfl ?_
    refine s_iconst X (pc' := 269) at_268 (v := (1 : Int32)) rfl rfl ?_
    refine s_isub X (pc' := 270) at_269 rfl ?_
    refine go_int (z := (27 : Int32)) (by decide) ?_
    refine s_virtual X (pc' := 273) (W := 0) (as' := [(.int (27 : Int32))]) (S := []) (k' := 46) (n' := 7016) at_270 (hw _ (List.mem_of_getElem? (i := 277) rfl)) (hw _ (List.mem_of_getElem? (i := 278) rfl)) (hw _ (List.mem_of_getElem? (i := 280) rfl)) (hw _ (List.mem_of_getElem? (i := 279) rfl)) (nface (hw _ (List.mem_of_getElem? (i := 280) rfl))) (by decide) own_pd28 rfl E_mg (chPay hw hEL O2 P5 O4 rG3 X.old S_mg (fun c hc => (hmg c hc).2) (i := 27) (by rw [own_ml0]; decide) rfl (by decide) (by decide)) (Nat.le_of_ble_eq_true rfl) rfl rfl (by decide) (by decide) (by decide) (by decide) rfl (fun T h312 v_ ws_ X hgr_ q313 => ?_)
    obtain ⟨rfl, e_, rfl⟩ := q313
    rw [e_] at X
    show Go p e below _ T (mkF m 273 #[.val (.int xa), .val (.int xb), .val (.int xf), .val (.int (0 : Int32)), .val (.int c0), .val (.int c1), .val (.int c2), .val (.int c3), .val (.ref b272), .val (.ref b279), .val (.ref b286), .val (.ref b291), .val (.ref r), .val (.ref mg), .val (.int (28 : Int32)), .val (.int (13 : Int32)), .val (.int ((((28 : Int32) + (2 : Int32)) + (13 : Int32)) + (41 : Int32))), .val (.int ((88 : Int32) + (4 : Int32))), .unset] [(.int ((own_msg0 [c0, c1] [c2, c3]).getD (27) 0))])
    replace X := X.sub (ws' := []) (by simp)
    refine go_int (z := (32 : Int32)) (own_at0_27 c0 c1 c2 c3) ?_
    refine s_bipush X (pc' := 275) at_273 (v := (32 : Int32)) (by decide) rfl ?_
    refine s_icmpF X (pc' := 278) at_275 (show (32 : Int32) = (32 : Int32) by decide) rfl ?_
    refine s_aload X (pc' := 280) at_278 rfl rfl rfl ?_
    refine s_iload X (pc' := 282) at_280 rfl rfl ?_
    refine s_virtual X (pc' := 285) (W := 0) (as' := [(.int (28 : Int32))]) (S := []) (k' := 46) (n' := 7016) at_282 (hw _ (List.mem_of_getElem? (i := 277) rfl)) (hw _ (List.mem_of_getElem? (i := 278) rfl)) (hw _ (List.mem_of_getElem? (i := 280) rfl)) (hw _ (List.mem_of_getElem? (i := 279) rfl)) (nface (hw _ (List.mem_of_getElem? (i := 280) rfl))) (by decide) own_pd28 rfl E_mg (chPay hw hEL O2 P5 O4 rG3 X.old S_mg (fun c hc => (hmg c hc).2) (i := 28) (by rw [own_ml0]; decide) rfl (by decide) (by decide)) (Nat.le_of_ble_eq_true rfl) rfl rfl (by decide) (by decide) (by decide) (by decide) rfl (fun T h314 v_ ws_ X hgr_ q315 => ?_)
    obtain ⟨rfl, e_, rfl⟩ := q315
    rw [e_] at X
    show Go p e below _ T (mkF m 285 #[.val (.int xa), .val (.int xb), .val (.int xf), .val (.int (0 : Int32)), .val (.int c0), .val (.int c1), .val (.int c2), .val (.int c3), .val (.ref b272), .val (.ref b279), .val (.ref b286), .val (.ref b291), .val (.ref r), .val (.ref mg), .val (.int (28 : Int32)), .val (.int (13 : Int32)), .val (.int ((((28 : Int32) + (2 : Int32)) + (13 : Int32)) + (41 : Int32))), .val (.int ((88 : Int32) + (4 : Int32))), .unset] [(.int ((own_msg0 [c0, c1] [c2, c3]).getD (28) 0))])
    replace X := X.sub (ws' := []) (by simp)
    refine go_int (z := c0) (own_at0_28 c0 c1 c2 c3) ?_
    refine s_iload X (pc' := 287) at_285 rfl rfl ?_
    refine s_icmpF X (pc' := 290) at_287 (show c0 = c0 from rfl) rfl ?_
    refine s_aload X (pc' := 292) at_290 rfl rfl rfl ?_
    refine s_iload X (pc' := 294) at_292 rfl rfl ?_
    refine s_iconst X (pc' := 295) at_294 (v := (1 : Int32)) rfl rfl ?_
    refine s_iadd X (pc' := 296) at_295 rfl ?_
    refine go_int (z := (29 : Int32)) (by decide) ?_
    refine s_virtual X (pc' := 299) (W := 0) (as' := [(.int (29 : Int32))]) (S := []) (k' := 46) (n' := 7016) at_296 (hw _ (List.mem_of_getElem? (i := 277) rfl)) (hw _ (List.mem_of_getElem? (i := 278) rfl)) (hw _ (List.mem_of_getElem? (i := 280) rfl)) (hw _ (List.mem_of_getElem? (i := 279) rfl)) (nface (hw _ (List.mem_of_getElem? (i := 280) rfl))) (by decide) own_pd28 rfl E_mg (chPay hw hEL O2 P5 O4 rG3 X.old S_mg (fun c hc => (hmg c hc).2) (i := 29) (by rw [own_ml0]; decide) rfl (by decide) (by decide)) (Nat.le_of_ble_eq_true rfl) rfl rfl (by decide) (by decide) (by decide) (by decide) rfl (fun T h316 v_ ws_ X hgr_ q317 => ?_)
    obtain ⟨rfl, e_, rfl⟩ := q317
    rw [e_] at X
    show Go p e below _ T (mkF m 299 #[.val (.int xa), .val (.int xb), .val (.int xf), .val (.int (0 : Int32)), .val (.int c0), .val (.int c1), .val (.int c2), .val (.int c3), .val (.ref b272), .val (.ref b279), .val (.ref b286), .val (.ref b291), .val (.ref r), .val (.ref mg), .val (.int (28 : Int32)), .val (.int (13 : Int32)), .val (.int ((((28 : Int32) + (2 : Int32)) + (13 : Int32)) + (41 : Int32))), .val (.int ((88 : Int32) + (4 : Int32))), .unset] [(.int ((own_msg0 [c0, c1] [c2, c3]).getD (29) 0))])
    replace X := X.sub (ws' := []) (by simp)
    refine go_int (z := c1) (own_at0_29 c0 c1 c2 c3) ?_
    refine s_iload X (pc' := 301) at_299 rfl rfl ?_
    refine s_icmpF X (pc' := 304) at_301 (show c1 = c1 from rfl) rfl ?_
    refine s_aload X (pc' := 306) at_304 rfl rfl rfl ?_
    refine s_iload X (pc' := 308) at_306 rfl rfl ?_
    refine s_iconst X (pc' := 309) at_308 (v := (2 : Int32)) rfl rfl ?_
    refine s_iadd X (pc' := 310) at_309 rfl ?_
    refine go_int (z := (30 : Int32)) (by decide) ?_
    refine s_virtual X (pc' := 313) (W := 0) (as' := [(.int (30 : Int32))]) (S := []) (k' := 46) (n' := 7016) at_310 (hw _ (List.mem_of_getElem? (i := 277) rfl)) (hw _ (List.mem_of_getElem? (i := 278) rfl)) (hw _ (List.mem_of_getElem? (i := 280) rfl)) (hw _ (List.mem_of_getElem? (i := 279) rfl)) (nface (hw _ (List.mem_of_getElem? (i := 280) rfl))) (by decide) own_pd28 rfl E_mg (chPay hw hEL O2 P5 O4 rG3 X.old S_mg (fun c hc => (hmg c hc).2) (i := 30) (by rw [own_ml0]; decide) rfl (by decide) (by decide)) (Nat.le_of_ble_eq_true rfl) rfl rfl (by decide) (by decide) (by decide) (by decide) rfl (fun T h318 v_ ws_ X hgr_ q319 => ?_)
    obtain ⟨rfl, e_, rfl⟩ := q319
    rw [e_] at X
    show Go p e below _ T (mkF m 313 #[.val (.int xa), .val (.int xb), .val (.int xf), .val (.int (0 : Int32)), .val (.int c0), .val (.int c1), .val (.int c2), .val (.int c3), .val (.ref b272), .val (.ref b279), .val (.ref b286), .val (.ref b291), .val (.ref r), .val (.ref mg), .val (.int (28 : Int32)), .val (.int (13 : Int32)), .val (.int ((((28 : Int32) + (2 : Int32)) + (13 : Int32)) + (41 : Int32))), .val (.int ((88 : Int32) + (4 : Int32))), .unset] [(.int ((own_msg0 [c0, c1] [c2, c3]).getD (30) 0))])
    replace X := X.sub (ws' := []) (by simp)
    refine go_int (z := (32 : Int32)) (own_at0_30 c0 c1 c2 c3) ?_
    refine s_bipush X (pc' := 315) at_313 (v := (32 : Int32)) (by decide) rfl ?_
    refine s_icmpF X (pc' := 318) at_315 (show (32 : Int32) = (32 : Int32) by decide) rfl ?_
    refine s_aload X (pc' := 320) at_318 rfl rfl rfl ?_
    refine s_iload X (pc' := 322) at_320 rfl rfl ?_
    refine s_iconst X (pc' := 323) at_322 (v := (3 : Int32)) rfl rfl ?_
    refine s_iadd X (pc' := 324) at_323 rfl ?_
    refine go_int (z := (31 : Int32)) (by decide) ?_
    refine s_virtual X (pc' := 327) (W := 0) (as' := [(.int (31 : Int32))]) (S := []) (k' := 46) (n' := 7016) at_324 (hw _ (List.mem_of_getElem? (i := 277) rfl)) (hw _ (List.mem_of_getElem? (i := 278) rfl)) (hw _ (List.mem_of_getElem? (i := 280) rfl)) (hw _ (List.mem_of_getElem? (i := 279) rfl)) (nface (hw _ (List.mem_of_getElem? (i := 280) rfl))) (by decide) own_pd28 rfl E_mg (chPay hw hEL O2 P5 O4 rG3 X.old S_mg (fun c hc => (hmg c hc).2) (i := 31) (by rw [own_ml0]; decide) rfl (by decide) (by decide)) (Nat.le_of_ble_eq_true rfl) rfl rfl (by decide) (by decide) (by decide) (by decide) rfl (fun T h320 v_ ws_ X hgr_ q321 => ?_)
    obtain ⟨rfl, e_, rfl⟩ := q321
    rw [e_] at X
    show Go p e below _ T (mkF m 327 #[.val (.int xa), .val (.int xb), .val (.int xf), .val (.int (0 : Int32)), .val (.int c0), .val (.int c1), .val (.int c2), .val (.int c3), .val (.ref b272), .val (.ref b279), .val (.ref b286), .val (.ref b291), .val (.ref r), .val (.ref mg), .val (.int (28 : Int32)), .val (.int (13 : Int32)), .val (.int ((((28 : Int32) + (2 : Int32)) + (13 : Int32)) + (41 : Int32))), .val (.int ((88 : Int32) + (4 : Int32))), .unset] [(.int ((own_msg0 [c0, c1] [c2, c3]).getD (31) 0))])
    replace X := X.sub (ws' := []) (by simp)
    refine go_int (z := (104 : Int32)) (own_at0_31 c0 c1 c2 c3) ?_
    refine s_bipush X (pc' := 329) at_327 (v := (104 : Int32)) (by decide) rfl ?_
    refine s_icmpF X (pc' := 332) at_329 (show (104 : Int32) = (104 : Int32) by decide) rfl ?_
    refine s_aload X (pc' := 334) at_332 rfl rfl rfl ?_
    refine s_iload X (pc' := 336) at_334 rfl rfl ?_
    refine s_iconst X (pc' := 337) at_336 (v := (2 : Int32)) rfl rfl ?_
    refine s_iadd X (pc' := 338) at_337 rfl ?_
    refine s_iload X (pc' := 340) at_338 rfl rfl ?_
    refine s_iadd X (pc' := 341) at_340 rfl ?_
    refine go_int (z := (43 : Int32)) (by decide) ?_
    refine s_virtual X (pc' := 344) (W := 0) (as' := [(.int (43 : Int32))]) (S := []) (k' := 46) (n' := 7016) at_341 (hw _ (List.mem_of_getElem? (i := 277) rfl)) (hw _ (List.mem_of_getElem? (i := 278) rfl)) (hw _ (List.mem_of_getElem? (i := 280) rfl)) (hw _ (List.mem_of_getElem? (i := 279) rfl)) (nface (hw _ (List.mem_of_getElem? (i := 280) rfl))) (by decide) own_pd28 rfl E_mg (chPay hw hEL O2 P5 O4 rG3 X.old S_mg (fun c hc => (hmg c hc).2) (i := 43) (by rw [own_ml0]; decide) rfl (by decide) (by decide)) (Nat.le_of_ble_eq_true rfl) rfl rfl (by decide) (by decide) (by decide) (by decide) rfl (fun T h322 v_ ws_ X hgr_ q323 => ?_)
    obtain ⟨rfl, e_, rfl⟩ := q323
    rw [e_] at X
    show Go p e below _ T (mkF m 344 #[.val (.int xa), .val (.int xb), .val (.int xf), .val (.int (0 : Int32)), .val (.int c0), .val (.int c1), .val (.int c2), .val (.int c3), .val (.ref b272), .val (.ref b279), .val (.ref b286), .val (.ref b291), .val (.ref r), .val (.ref mg), .val (.int (28 : Int32)), .val (.int (13 : Int32)), .val (.int ((((28 : Int32) + (2 : Int32)) + (13 : Int32)) + (41 : Int32))), .val (.int ((88 : Int32) + (4 : Int32))), .unset] [(.int ((own_msg0 [c0, c1] [c2, c3]).getD (43) 0))])
    replace X := X.sub (ws' := []) (by simp)
    refine go_int (z := (32 : Int32)) (own_at0_43 c0 c1 c2 c3) ?_
    refine s_bipush X (pc' := 346) at_344 (v := (32 : Int32)) (by decide) rfl ?_
    refine s_icmpF X (pc' := 349) at_346 (show (32 : Int32) = (32 : Int32) by decide) rfl ?_
    refine s_aload X (pc' := 351) at_349 rfl rfl rfl ?_
    refine s_iload X (pc' := 353) at_351 rfl rfl ?_
    refine s_iconst X (pc' := 354) at_353 (v := (2 : Int32)) rfl rfl ?_
    refine s_iadd X (pc' := 355) at_354 rfl ?_
    refine s_iload X (pc' := 357) at_355 rfl rfl ?_
    refine s_iadd X (pc' := 358) at_357 rfl ?_
    refine s_iconst X (pc' := 359) at_358 (v := (1 : Int32)) rfl rfl ?_
    refine s_iadd X (pc' := 360) at_359 rfl ?_
    refine go_int (z := (44 : Int32)) (by decide) ?_
    refine s_virtual X (pc' := 363) (W := 0) (as' := [(.int (44 : Int32))]) (S := []) (k' := 46) (n' := 7016) at_360 (hw _ (List.mem_of_getElem? (i := 277) rfl)) (hw _ (List.mem_of_getElem? (i := 278) rfl)) (hw _ (List.mem_of_getElem? (i := 280) rfl)) (hw _ (List.mem_of_getElem? (i := 279) rfl)) (nface (hw _ (List.mem_of_getElem? (i := 280) rfl))) (by decide) own_pd28 rfl E_mg (chPay hw hEL O2 P5 O4 rG3 X.old S_mg (fun c hc => (hmg c hc).2) (i := 44) (by rw [own_ml0]; decide) rfl (by decide) (by decide)) (Nat.le_of_ble_eq_true rfl) rfl rfl (by decide) (by decide) (by decide) (by decide) rfl (fun T h324 v_ ws_ X hgr_ q325 => ?_)
    obtain ⟨rfl, e_, rfl⟩ := q325
    rw [e_] at X
    show Go p e below _ T (mkF m 363 #[.val (.int xa), .val (.int xb), .val (.int xf), .val (.int (0 : Int32)), .val (.int c0), .val (.int c1), .val (.int c2), .val (.int c3), .val (.ref b272), .val (.ref b279), .val (.ref b286), .val (.ref b291), .val (.ref r), .val (.ref mg), .val (.int (28 : Int32)), .val (.int (13 : Int32)), .val (.int ((((28 : Int32) + (2 : Int32)) + (13 : Int32)) + (41 : Int32))), .val (.int ((88 : Int32) + (4 : Int32))), .unset] [(.int ((own_msg0 [c0, c1] [c2, c3]).getD (44) 0))])
    replace X := X.sub (ws' := []) (by simp)
    refine go_int (z := (119 : Int32)) (own_at0_44 c0 c1 c2 c3) ?_
    refine s_bipush X (pc' := 365) at_363 (v := (119 : Int32)) (by decide) rfl ?_
    refine s_icmpF X (pc' := 368) at_365 (show (119 : Int32) = (119 : Int32) by decide) rfl ?_
    refine s_aload X (pc' := 370) at_368 rfl rfl rfl ?_
    refine s_iload X (pc' := 372) at_370 rfl rfl ?_
    refine s_iconst X (pc' := 373) at_372 (v := (2 : Int32)) rfl rfl ?_
    refine s_isub X (pc' := 374) at_373 rfl ?_
    refine go_int (z := (82 : Int32)) (by decide) ?_
    refine s_virtual X (pc' := 377) (W := 0) (as' := [(.int (82 : Int32))]) (S := []) (k' := 46) (n' := 7016) at_374 (hw _ (List.mem_of_getElem? (i := 277) rfl)) (hw _ (List.mem_of_getElem? (i := 278) rfl)) (hw _ (List.mem_of_getElem? (i := 280) rfl)) (hw _ (List.mem_of_getElem? (i := 279) rfl)) (nface (hw _ (List.mem_of_getElem? (i := 280) rfl))) (by decide) own_pd28 rfl E_mg (chPay hw hEL O2 P5 O4 rG3 X.old S_mg (fun c hc => (hmg c hc).2) (i := 82) (by rw [own_ml0]; decide) rfl (by decide) (by decide)) (Nat.le_of_ble_eq_true rfl) rfl rfl (by decide) (by decide) (by decide) (by decide) rfl (fun T h326 v_ ws_ X hgr_ q327 => ?_)
    obtain ⟨rfl, e_, rfl⟩ := q327
    rw [e_] at X
    show Go p e below _ T (mkF m 377 #[.val (.int xa), .val (.int xb), .val (.int xf), .val (.int (0 : Int32)), .val (.int c0), .val (.int c1), .val (.int c2), .val (.int c3), .val (.ref b272), .val (.ref b279), .val (.ref b286), .val (.ref b291), .val (.ref r), .val (.ref mg), .val (.int (28 : Int32)), .val (.int (13 : Int32)), .val (.int ((((28 : Int32) + (2 : Int32)) + (13 : Int32)) + (41 : Int32))), .val (.int ((88 : Int32) + (4 : Int32))), .unset] [(.int ((own_msg0 [c0, c1] [c2, c3]).getD (82) 0))])
    replace X := X.sub (ws' := []) (by simp)
    refine go_int (z := (115 : Int32)) (own_at0_82 c0 c1 c2 c3) ?_
    refine s_bipush X (pc' := 379) at_377 (v := (115 : Int32)) (by decide) rfl ?_
    refine s_icmpF X (pc' := 382) at_379 (show (115 : Int32) = (115 : Int32) by decide) rfl ?_
    refine s_aload X (pc' := 384) at_382 rfl rfl rfl ?_
    refine s_iload X (pc' := 386) at_384 rfl rfl ?_
    refine s_iconst X (pc' := 387) at_386 (v := (1 : Int32)) rfl rfl ?_
    refine s_isub X (pc' := 388) at_387 rfl ?_
    refine go_int (z := (83 : Int32)) (by decide) ?_
    refine s_virtual X (pc' := 391) (W := 0) (as' := [(.int (83 : Int32))]) (S := []) (k' := 46) (n' := 7016) at_388 (hw _ (List.mem_of_getElem? (i := 277) rfl)) (hw _ (List.mem_of_getElem? (i := 278) rfl)) (hw _ (List.mem_of_getElem? (i := 280) rfl)) (hw _ (List.mem_of_getElem? (i := 279) rfl)) (nface (hw _ (List.mem_of_getElem? (i := 280) rfl))) (by decide) own_pd28 rfl E_mg (chPay hw hEL O2 P5 O4 rG3 X.old S_mg (fun c hc => (hmg c hc).2) (i := 83) (by rw [own_ml0]; decide) rfl (by decide) (by decide)) (Nat.le_of_ble_eq_true rfl) rfl rfl (by decide) (by decide) (by decide) (by decide) rfl (fun T h328 v_ ws_ X hgr_ q329 => ?_)
    obtain ⟨rfl, e_, rfl⟩ := q329
    rw [e_] at X
    show Go p e below _ T (mkF m 391 #[.val (.int xa), .val (.int xb), .val (.int xf), .val (.int (0 : Int32)), .val (.int c0), .val (.int c1), .val (.int c2), .val (.int c3), .val (.ref b272), .val (.ref b279), .val (.ref b286), .val (.ref b291), .val (.ref r), .val (.ref mg), .val (.int (28 : Int32)), .val (.int (13 : Int32)), .val (.int ((((28 : Int32) + (2 : Int32)) + (13 : Int32)) + (41 : Int32))), .val (.int ((88 : Int32) + (4 : Int32))), .unset] [(.int ((own_msg0 [c0, c1] [c2, c3]).getD (83) 0))])
    replace X := X.sub (ws' := []) (by simp)
    refine go_int (z := (32 : Int32)) (own_at0_83 c0 c1 c2 c3) ?_
    refine s_bipush X (pc' := 393) at_391 (v := (32 : Int32)) (by decide) rfl ?_
    refine s_icmpF X (pc' := 396) at_393 (show (32 : Int32) = (32 : Int32) by decide) rfl ?_
    refine s_aload X (pc' := 398) at_396 rfl rfl rfl ?_
    refine s_iload X (pc' := 400) at_398 rfl rfl ?_
    refine go_int (z := (84 : Int32)) (by decide) ?_
    refine s_virtual X (pc' := 403) (W := 0) (as' := [(.int (84 : Int32))]) (S := []) (k' := 46) (n' := 7016) at_400 (hw _ (List.mem_of_getElem? (i := 277) rfl)) (hw _ (List.mem_of_getElem? (i := 278) rfl)) (hw _ (List.mem_of_getElem? (i := 280) rfl)) (hw _ (List.mem_of_getElem? (i := 279) rfl)) (nface (hw _ (List.mem_of_getElem? (i := 280) rfl))) (by decide) own_pd28 rfl E_mg (chPay hw hEL O2 P5 O4 rG3 X.old S_mg (fun c hc => (hmg c hc).2) (i := 84) (by rw [own_ml0]; decide) rfl (by decide) (by decide)) (Nat.le_of_ble_eq_true rfl) rfl rfl (by decide) (by decide) (by decide) (by decide) rfl (fun T h330 v_ ws_ X hgr_ q331 => ?_)
    obtain ⟨rfl, e_, rfl⟩ := q331
    rw [e_] at X
    show Go p e below _ T (mkF m 403 #[.val (.int xa), .val (.int xb), .val (.int xf), .val (.int (0 : Int32)), .val (.int c0), .val (.int c1), .val (.int c2), .val (.int c3), .val (.ref b272), .val (.ref b279), .val (.ref b286), .val (.ref b291), .val (.ref r), .val (.ref mg), .val (.int (28 : Int32)), .val (.int (13 : Int32)), .val (.int ((((28 : Int32) + (2 : Int32)) + (13 : Int32)) + (41 : Int32))), .val (.int ((88 : Int32) + (4 : Int32))), .unset] [(.int ((own_msg0 [c0, c1] [c2, c3]).getD (84) 0))])
    replace X := X.sub (ws' := []) (by simp)
    refine go_int (z := c2) (own_at0_84 c0 c1 c2 c3) ?_
    refine s_iload X (pc' := 405) at_403 rfl rfl ?_
    refine s_icmpF X (pc' := 408) at_405 (show c2 = c2 from rfl) rfl ?_
    refine s_aload X (pc' := 410) at_408 rfl rfl rfl ?_
    refine s_iload X (pc' := 412) at_410 rfl rfl ?_
    refine s_iconst X (pc' := 413) at_412 (v := (1 : Int32)) rfl rfl ?_
    refine s_iadd X (pc' := 414) at_413 rfl ?_
    refine go_int (z := (85 : Int32)) (by decide) ?_
    refine s_virtual X (pc' := 417) (W := 0) (as' := [(.int (85 : Int32))]) (S := []) (k' := 46) (n' := 7016) at_414 (hw _ (List.mem_of_getElem? (i := 277) rfl)) (hw _ (List.mem_of_getElem? (i := 278) rfl)) (hw _ (List.mem_of_getElem? (i := 280) rfl)) (hw _ (List.mem_of_getElem? (i := 279) rfl)) (nface (hw _ (List.mem_of_getElem? (i := 280) rfl))) (by decide) own_pd28 rfl E_mg (chPay hw hEL O2 P5 O4 rG3 X.old S_mg (fun c hc => (hmg c hc).2) (i := 85) (by rw [own_ml0]; decide) rfl (by decide) (by decide)) (Nat.le_of_ble_eq_true rfl) rfl rfl (by decide) (by decide) (by decide) (by decide) rfl (fun T h332 v_ ws_ X hgr_ q333 => ?_)
    obtain ⟨rfl, e_, rfl⟩ := q333
    rw [e_] at X
    show Go p e below _ T (mkF m 417 #[.val (.int xa), .val (.int xb), .val (.int xf), .val (.int (0 : Int32)), .val (.int c0), .val (.int c1), .val (.int c2), .val (.int c3), .val (.ref b272), .val (.ref b279), .val (.ref b286), .val (.ref b291), .val (.ref r), .val (.ref mg), .val (.int (28 : Int32)), .val (.int (13 : Int32)), .val (.int ((((28 : Int32) + (2 : Int32)) + (13 : Int32)) + (41 : Int32))), .val (.int ((88 : Int32) + (4 : Int32))), .unset] [(.int ((own_msg0 [c0, c1] [c2, c3]).getD (85) 0))])
    replace X := X.sub (ws' := []) (by simp)
    refine go_int (z := c3) (own_at0_85 c0 c1 c2 c3) ?_
    refine s_iload X (pc' := 419) at_417 rfl rfl ?_
    refine s_icmpF X (pc' := 422) at_419 (show c3 = c3 from rfl) rfl ?_
    refine s_aload X (pc' := 424) at_422 rfl rfl rfl ?_
    refine s_iload X (pc' := 426) at_424 rfl rfl ?_
    refine s_iconst X (pc' := 427) at_426 (v := (2 : Int32)) rfl rfl ?_
    refine s_iadd X (pc' := 428) at_427 rfl ?_
    refine go_int (z := (86 : Int32)) (by decide) ?_
    refine s_virtual X (pc' := 431) (W := 0) (as' := [(.int (86 : Int32))]) (S := []) (k' := 46) (n' := 7016) at_428 (hw _ (List.mem_of_getElem? (i := 277) rfl)) (hw _ (List.mem_of_getElem? (i := 278) rfl)) (hw _ (List.mem_of_getElem? (i := 280) rfl)) (hw _ (List.mem_of_getElem? (i := 279) rfl)) (nface (hw _ (List.mem_of_getElem? (i := 280) rfl))) (by decide) own_pd28 rfl E_mg (chPay hw hEL O2 P5 O4 rG3 X.old S_mg (fun c hc => (hmg c hc).2) (i := 86) (by rw [own_ml0]; decide) rfl (by decide) (by decide)) (Nat.le_of_ble_eq_true rfl) rfl rfl (by decide) (by decide) (by decide) (by decide) rfl (fun T h334 v_ ws_ X hgr_ q335 => ?_)
    obtain ⟨rfl, e_, rfl⟩ := q335
    rw [e_] at X
    show Go p e below _ T (mkF m 431 #[.val (.int xa), .val (.int xb), .val (.int xf), .val (.int (0 : Int32)), .val (.int c0), .val (.int c1), .val (.int c2), .val (.int c3), .val (.ref b272), .val (.ref b279), .val (.ref b286), .val (.ref b291), .val (.ref r), .val (.ref mg), .val (.int (28 : Int32)), .val (.int (13 : Int32)), .val (.int ((((28 : Int32) + (2 : Int32)) + (13 : Int32)) + (41 : Int32))), .val (.int ((88 : Int32) + (4 : Int32))), .unset] [(.int ((own_msg0 [c0, c1] [c2, c3]).getD (86) 0))])
    replace X := X.sub (ws' := []) (by simp)
    refine go_int (z := (32 : Int32)) (own_at0_86 c0 c1 c2 c3) ?_
    refine s_bipush X (pc' := 433) at_431 (v := (32 : Int32)) (by decide) rfl ?_
    refine s_icmpF X (pc' := 436) at_433 (show (32 : Int32) = (32 : Int32) by decide) rfl ?_
    refine s_aload X (pc' := 438) at_436 rfl rfl rfl ?_
    refine s_iload X (pc' := 440) at_438 rfl rfl ?_
    refine s_iconst X (pc' := 441) at_440 (v := (3 : Int32)) rfl rfl ?_
    refine s_iadd X (pc' := 442) at_441 rfl ?_
    refine go_int (z := (87 : Int32)) (by decide) ?_
    refine s_virtual X (pc' := 445) (W := 0) (as' := [(.int (87 : Int32))]) (S := []) (k' := 46) (n' := 7016) at_442 (hw _ (List.mem_of_getElem? (i := 277) rfl)) (hw _ (List.mem_of_getElem? (i := 278) rfl)) (hw _ (List.mem_of_getElem? (i := 280) rfl)) (hw _ (List.mem_of_getElem? (i := 279) rfl)) (nface (hw _ (List.mem_of_getElem? (i := 280) rfl))) (by decide) own_pd28 rfl E_mg (chPay hw hEL O2 P5 O4 rG3 X.old S_mg (fun c hc => (hmg c hc).2) (i := 87) (by rw [own_ml0]; decide) rfl (by decide) (by decide)) (Nat.le_of_ble_eq_true rfl) rfl rfl (by decide) (by decide) (by decide) (by decide) rfl (fun T h336 v_ ws_ X hgr_ q337 => ?_)
    obtain ⟨rfl, e_, rfl⟩ := q337
    rw [e_] at X
    show Go p e below _ T (mkF m 445 #[.val (.int xa), .val (.int xb), .val (.int xf), .val (.int (0 : Int32)), .val (.int c0), .val (.int c1), .val (.int c2), .val (.int c3), .val (.ref b272), .val (.ref b279), .val (.ref b286), .val (.ref b291), .val (.ref r), .val (.ref mg), .val (.int (28 : Int32)), .val (.int (13 : Int32)), .val (.int ((((28 : Int32) + (2 : Int32)) + (13 : Int32)) + (41 : Int32))), .val (.int ((88 : Int32) + (4 : Int32))), .unset] [(.int ((own_msg0 [c0, c1] [c2, c3]).getD (87) 0))])
    replace X := X.sub (ws' := []) (by simp)
    refine go_int (z := (101 : Int32)) (own_at0_87 c0 c1 c2 c3) ?_
    refine s_bipush X (pc' := 447) at_445 (v := (101 : Int32)) (by decide) rfl ?_
    refine s_icmpF X (pc' := 450) at_447 (show (101 : Int32) = (101 : Int32) by decide) rfl ?_
    refine s_aload X (pc' := 452) at_450 rfl rfl rfl ?_
    refine s_iload X (pc' := 454) at_452 rfl rfl ?_
    refine s_iconst X (pc' := 455) at_454 (v := (1 : Int32)) rfl rfl ?_
    refine s_isub X (pc' := 456) at_455 rfl ?_
    refine go_int (z := (91 : Int32)) (by decide) ?_
    refine s_virtual X (pc' := 459) (W := 0) (as' := [(.int (91 : Int32))]) (S := []) (k' := 46) (n' := 7016) at_456 (hw _ (List.mem_of_getElem? (i := 277) rfl)) (hw _ (List.mem_of_getElem? (i := 278) rfl)) (hw _ (List.mem_of_getElem? (i := 280) rfl)) (hw _ (List.mem_of_getElem? (i := 279) rfl)) (nface (hw _ (List.mem_of_getElem? (i := 280) rfl))) (by decide) own_pd28 rfl E_mg (chPay hw hEL O2 P5 O4 rG3 X.old S_mg (fun c hc => (hmg c hc).2) (i := 91) (by rw [own_ml0]; decide) rfl (by decide) (by decide)) (Nat.le_of_ble_eq_true rfl) rfl rfl (by decide) (by decide) (by decide) (by decide) rfl (fun T h338 v_ ws_ X hgr_ q339 => ?_)
    obtain ⟨rfl, e_, rfl⟩ := q339
    rw [e_] at X
    show Go p e below _ T (mkF m 459 #[.val (.int xa), .val (.int xb), .val (.int xf), .val (.int (0 : Int32)), .val (.int c0), .val (.int c1), .val (.int c2), .val (.int c3), .val (.ref b272), .val (.ref b279), .val (.ref b286), .val (.ref b291), .val (.ref r), .val (.ref mg), .val (.int (28 : Int32)), .val (.int (13 : Int32)), .val (.int ((((28 : Int32) + (2 : Int32)) + (13 : Int32)) + (41 : Int32))), .val (.int ((88 : Int32) + (4 : Int32))), .unset] [(.int ((own_msg0 [c0, c1] [c2, c3]).getD (91) 0))])
    replace X := X.sub (ws' := []) (by simp)
    refine go_int (z := (116 : Int32)) (own_at0_91 c0 c1 c2 c3) ?_
    refine s_bipush X (pc' := 461) at_459 (v := (116 : Int32)) (by decide) rfl ?_
    refine s_icmpF X (pc' := 464) at_461 (show (116 : Int32) = (116 : Int32) by decide) rfl ?_
    refine s_iconst X (pc' := 465) at_464 (v := (1 : Int32)) rfl rfl ?_
    refine s_goto X (pc' := 469) at_465 (by decide) (by decide) ?_
    refine s_istore X (pc' := 471) (L' := #[.val (.int xa), .val (.int xb), .val (.int xf), .val (.int (0 : Int32)), .val (.int c0), .val (.int c1), .val (.int c2), .val (.int c3), .val (.ref b272), .val (.ref b279), .val (.ref b286), .val (.ref b291), .val (.ref r), .val (.ref mg), .val (.int (28 : Int32)), .val (.int (13 : Int32)), .val (.int ((((28 : Int32) + (2 : Int32)) + (13 : Int32)) + (41 : Int32))), .val (.int ((88 : Int32) + (4 : Int32))), .val (.int (1 : Int32))]) at_469 rfl rfl ?_
    refine s_iload X (pc' := 473) at_471 rfl rfl ?_
    refine s_ifT X (pc' := 478) at_473 (show ¬ (1 : Int32) = (0 : Int32) by decide) (by decide) (by decide) ?_
    refine s_iloadN X (pc' := 479) at_478 rfl rfl ?_
    refine s_ifT X (pc' := 534) at_479 (show (0 : Int32) = (0 : Int32) by decide) (by decide) (by decide) ?_
    refine s_aload X (pc' := 536) at_534 rfl rfl rfl ?_
    refine s_iload X (pc' := 538) at_536 rfl rfl ?_
    refine s_iconst X (pc' := 539) at_538 (v := (2 : Int32)) rfl rfl ?_
    refine s_iadd X (pc' := 540) at_539 rfl ?_
    refine s_bipush X (pc' := 542) at_540 (v := (7 : Int32)) (by decide) rfl ?_
    refine s_iadd X (pc' := 543) at_542 rfl ?_
    refine go_int (z := (37 : Int32)) (by decide) ?_
    refine s_virtual X (pc' := 546) (W := 0) (as' := [(.int (37 : Int32))]) (S := []) (k' := 46) (n' := 7016) at_543 (hw _ (List.mem_of_getElem? (i := 277) rfl)) (hw _ (List.mem_of_getElem? (i := 278) rfl)) (hw _ (List.mem_of_getElem? (i := 280) rfl)) (hw _ (List.mem_of_getElem? (i := 279) rfl)) (nface (hw _ (List.mem_of_getElem? (i := 280) rfl))) (by decide) own_pd28 rfl E_mg (chPay hw hEL O2 P5 O4 rG3 X.old S_mg (fun c hc => (hmg c hc).2) (i := 37) (by rw [own_ml0]; decide) rfl (by decide) (by decide)) (Nat.le_of_ble_eq_true rfl) rfl rfl (by decide) (by decide) (by decide) (by decide) rfl (fun T h340 v_ ws_ X hgr_ q341 => ?_)
    obtain ⟨rfl, e_, rfl⟩ := q341
    rw [e_] at X
    show Go p e below _ T (mkF m 546 #[.val (.int xa), .val (.int xb), .val (.int xf), .val (.int (0 : Int32)), .val (.int c0), .val (.int c1), .val (.int c2), .val (.int c3), .val (.ref b272), .val (.ref b279), .val (.ref b286), .val (.ref b291), .val (.ref r), .val (.ref mg), .val (.int (28 : Int32)), .val (.int (13 : Int32)), .val (.int ((((28 : Int32) + (2 : Int32)) + (13 : Int32)) + (41 : Int32))), .val (.int ((88 : Int32) + (4 : Int32))), .val (.int (1 : Int32))] [(.int ((own_msg0 [c0, c1] [c2, c3]).getD (37) 0))])
    replace X := X.sub (ws' := []) (by simp)
    refine go_int (z := (115 : Int32)) (own_at0_37 c0 c1 c2 c3) ?_
    refine s_bipush X (pc' := 548) at_546 (v := (115 : Int32)) (by decide) rfl ?_
    refine s_icmpF X (pc' := 551) at_548 (show (115 : Int32) = (115 : Int32) by decide) rfl ?_
    refine s_iconst X (pc' := 552) at_551 (v := (1 : Int32)) rfl rfl ?_
    refine s_goto X (pc' := 556) at_552 (by decide) (by decide) ?_
    exact s_iretN X hEL (ws' := []) (t := .boolean) at_556 rfl (by simp) (by decide) (by decide) (fun x q => by simp at q) rfl
  · refine s_iconst X (pc' := 7) at_6 (v := (1 : Int32)) rfl rfl ?_
    refine s_goto X (pc' := 11) at_7 (by decide) (by decide) ?_
    refine s_istoreN X (pc' := 12) (L' := #[.val (.int xa), .val (.int xb), .val (.int xf), .val (.int (1 : Int32)), .unset, .unset, .unset, .unset, .unset, .unset, .unset, .unset, .unset, .unset, .unset, .unset, .unset, .unset, .unset]) at_11 rfl rfl ?_
    refine s_iloadN X (pc' := 13) at_12 rfl rfl ?_
    refine s_sipush X (pc' := 16) at_13 (v := (255 : Int32)) (by decide) rfl ?_
    refine s_iand X (pc' := 17) at_16 rfl ?_
    refine s_i2c X (pc' := 18) at_17 rfl ?_
    obtain ⟨c0, gc0⟩ : ∃ z, z = (xa &&& (255 : Int32)).toUInt32.toUInt16.toUInt32.toInt32 := ⟨_, rfl⟩
    rw [← gc0]
    have k0 : ¬ c0 < 0 ∧ ¬ (255 : Int32) < c0 := gc0 ▸ i2c_mask _
    refine s_istore X (pc' := 20) (L' := #[.val (.int xa), .val (.int xb), .val (.int xf), .val (.int (1 : Int32)), .val (.int c0), .unset, .unset, .unset, .unset, .unset, .unset, .unset, .unset, .unset, .unset, .unset, .unset, .unset, .unset]) at_18 rfl rfl ?_
    refine s_iloadN X (pc' := 21) at_20 rfl rfl ?_
    refine s_bipush X (pc' := 23) at_21 (v := (8 : Int32)) (by decide) rfl ?_
    refine s_iushr X (pc' := 24) at_23 rfl ?_
    refine s_sipush X (pc' := 27) at_24 (v := (255 : Int32)) (by decide) rfl ?_
    refine s_iand X (pc' := 28) at_27 rfl ?_
    refine s_i2c X (pc' := 29) at_28 rfl ?_
    obtain ⟨c1, gc1⟩ : ∃ z, z = (((xa.toUInt32 >>> ((8 : Int32) &&& 31).toUInt32).toInt32) &&& (255 : Int32)).toUInt32.toUInt16.toUInt32.toInt32 := ⟨_, rfl⟩
    rw [← gc1]
    have k1 : ¬ c1 < 0 ∧ ¬ (255 : Int32) < c1 := gc1 ▸ i2c_mask _
    refine s_istore X (pc' := 31) (L' := #[.val (.int xa), .val (.int xb), .val (.int xf), .val (.int (1 : Int32)), .val (.int c0), .val (.int c1), .unset, .unset, .unset, .unset, .unset, .unset, .unset, .unset, .unset, .unset, .unset, .unset, .unset]) at_29 rfl rfl ?_
    refine s_iloadN X (pc' := 32) at_31 rfl rfl ?_
    refine s_sipush X (pc' := 35) at_32 (v := (255 : Int32)) (by decide) rfl ?_
    refine s_iand X (pc' := 36) at_35 rfl ?_
    refine s_i2c X (pc' := 37) at_36 rfl ?_
    obtain ⟨c2, gc2⟩ : ∃ z, z = (xb &&& (255 : Int32)).toUInt32.toUInt16.toUInt32.toInt32 := ⟨_, rfl⟩
    rw [← gc2]
    have k2 : ¬ c2 < 0 ∧ ¬ (255 : Int32) < c2 := gc2 ▸ i2c_mask _
    refine s_istore X (pc' := 39) (L' := #[.val (.int xa), .val (.int xb), .val (.int xf), .val (.int (1 : Int32)), .val (.int c0), .val (.int c1), .val (.int c2), .unset, .unset, .unset, .unset, .unset, .unset, .unset, .unset, .unset, .unset, .unset, .unset]) at_37 rfl rfl ?_
    refine s_iloadN X (pc' := 40) at_39 rfl rfl ?_
    refine s_bipush X (pc' := 42) at_40 (v := (8 : Int32)) (by decide) rfl ?_
    refine s_iushr X (pc' := 43) at_42 rfl ?_
    refine s_sipush X (pc' := 46) at_43 (v := (255 : Int32)) (by decide) rfl ?_
    refine s_iand X (pc' := 47) at_46 rfl ?_
    refine s_i2c X (pc' := 48) at_47 rfl ?_
    obtain ⟨c3, gc3⟩ : ∃ z, z = (((xb.toUInt32 >>> ((8 : Int32) &&& 31).toUInt32).toInt32) &&& (255 : Int32)).toUInt32.toUInt16.toUInt32.toInt32 := ⟨_, rfl⟩
    rw [← gc3]
    have k3 : ¬ c3 < 0 ∧ ¬ (255 : Int32) < c3 := gc3 ▸ i2c_mask _
    refine s_istore X (pc' := 50) (L' := #[.val (.int xa), .val (.int xb), .val (.int xf), .val (.int (1 : Int32)), .val (.int c0), .val (.int c1), .val (.int c2), .val (.int c3), .unset, .unset, .unset, .unset, .unset, .unset, .unset, .unset, .unset, .unset, .unset]) at_48 rfl rfl ?_
    refine s_iconst X (pc' := 51) at_50 (v := (2 : Int32)) rfl rfl ?_
    refine s_newarr X (pc' := 53) (k' := 1) (n' := 2) (N := 2) at_51 (hw _ (List.mem_of_getElem? (i := 0) rfl)) rfl (by decide) (by decide) (by decide) (by decide) (by decide) rfl (fun T h199 b198 gb_b198 X' E200 A_b198 => ?_)
    have g_b198 : Z.heap.size ≤ b198 := by rw [gb_b198]; exact X.lt
    replace X := X'
    replace A_b198 : Ary Z h199 b198 .char [(.int (0 : Int32)), (.int (0 : Int32))] := A_b198
    refine s_astore X (pc' := 55) (L' := #[.val (.int xa), .val (.int xb), .val (.int xf), .val (.int (1 : Int32)), .val (.int c0), .val (.int c1), .val (.int c2), .val (.int c3), .val (.ref b198), .unset, .unset, .unset, .unset, .unset, .unset, .unset, .unset, .unset, .unset]) at_53 rfl rfl rfl ?_
    refine s_aload X (pc' := 57) at_55 rfl rfl rfl ?_
    refine s_iconst X (pc' := 58) at_57 (v := (0 : Int32)) rfl rfl ?_
    refine s_iload X (pc' := 60) at_58 rfl rfl ?_
    refine s_castore X (pc' := 61) (i := 0) at_60 A_b198 rfl (Nat.le_of_ble_eq_true rfl) g_b198 (by simp) rfl (fun T h201 X W202 A' => ?_)
    replace A_b198 : Ary Z h201 b198 .char [(.int (nar .char c0)), (.int (0 : Int32))] := A'
    refine s_aload X (pc' := 63) at_61 rfl rfl rfl ?_
    refine s_iconst X (pc' := 64) at_63 (v := (1 : Int32)) rfl rfl ?_
    refine s_iload X (pc' := 66) at_64 rfl rfl ?_
    refine s_castore X (pc' := 67) (i := 1) at_66 A_b198 rfl (Nat.le_of_ble_eq_true rfl) g_b198 (by simp) rfl (fun T h203 X W204 A' => ?_)
    replace A_b198 : Ary Z h203 b198 .char [(.int (nar .char c0)), (.int (nar .char c1))] := A'
    refine s_iconst X (pc' := 68) at_67 (v := (2 : Int32)) rfl rfl ?_
    refine s_newarr X (pc' := 70) (k' := 2) (n' := 4) (N := 2) at_68 (hw _ (List.mem_of_getElem? (i := 0) rfl)) rfl (by decide) (by decide) (by decide) (by decide) (by decide) rfl (fun T h206 b205 gb_b205 X' E207 A_b205 => ?_)
    have g_b205 : Z.heap.size ≤ b205 := by rw [gb_b205]; exact X.lt
    have ne_b198_b205 : b198 ≠ b205 := Nat.ne_of_lt (by rw [gb_b205]; exact A_b198.lt)
    replace A_b198 := A_b198.ext E207
    replace X := X'
    replace A_b205 : Ary Z h206 b205 .char [(.int (0 : Int32)), (.int (0 : Int32))] := A_b205
    refine s_astore X (pc' := 72) (L' := #[.val (.int xa), .val (.int xb), .val (.int xf), .val (.int (1 : Int32)), .val (.int c0), .val (.int c1), .val (.int c2), .val (.int c3), .val (.ref b198), .val (.ref b205), .unset, .unset, .unset, .unset, .unset, .unset, .unset, .unset, .unset]) at_70 rfl rfl rfl ?_
    refine s_aload X (pc' := 74) at_72 rfl rfl rfl ?_
    refine s_iconst X (pc' := 75) at_74 (v := (0 : Int32)) rfl rfl ?_
    refine s_iload X (pc' := 77) at_75 rfl rfl ?_
    refine s_castore X (pc' := 78) (i := 0) at_77 A_b205 rfl (Nat.le_of_ble_eq_true rfl) g_b205 (by simp) rfl (fun T h208 X W209 A' => ?_)
    replace A_b198 := A_b198.other W209 ne_b198_b205
    replace A_b205 : Ary Z h208 b205 .char [(.int (nar .char c2)), (.int (0 : Int32))] := A'
    refine s_aload X (pc' := 80) at_78 rfl rfl rfl ?_
    refine s_iconst X (pc' := 81) at_80 (v := (1 : Int32)) rfl rfl ?_
    refine s_iload X (pc' := 83) at_81 rfl rfl ?_
    refine s_castore X (pc' := 84) (i := 1) at_83 A_b205 rfl (Nat.le_of_ble_eq_true rfl) g_b205 (by simp) rfl (fun T h210 X W211 A' => ?_)
    replace A_b198 := A_b198.other W211 ne_b198_b205
    replace A_b205 : Ary Z h210 b205 .char [(.int (nar .char c2)), (.int (nar .char c3))] := A'
    refine s_new X (pc' := 87) (k' := 3) (n' := 8) at_84 (hw _ (List.mem_of_getElem? (i := 1) rfl)) (hw _ (List.mem_of_getElem? (i := 2) rfl)) (hw _ (List.mem_of_getElem? (i := 3) rfl)) (by decide) (by decide) (by decide) (by decide) rfl (fun T h213 b212 gb_b212 X' E214 E_b212 D_b212 U_b212 => ?_)
    have g_b212 : Z.heap.size ≤ b212 := by rw [gb_b212]; exact X.lt
    have ne_b198_b212 : b198 ≠ b212 := Nat.ne_of_lt (by rw [gb_b212]; exact A_b198.lt)
    have ne_b205_b212 : b205 ≠ b212 := Nat.ne_of_lt (by rw [gb_b212]; exact A_b205.lt)
    replace A_b198 := A_b198.ext E214
    replace A_b205 := A_b205.ext E214
    replace X := X'
    have F_b212_coder : Fld Z h213 b212 "java/lang/String" "coder" "B" (.int (0 : Int32)) := D_b212 (Or.inr (hw _ (List.mem_of_getElem? (i := 27) rfl))) (ty := .byte) (by decide)
    have F_b212_value : Fld Z h213 b212 "java/lang/String" "value" "[B" .null := D_b212 (Or.inr (hw _ (List.mem_of_getElem? (i := 29) rfl))) (ty := (.array .byte)) (by decide)
    refine s_dup X (pc' := 88) at_87 rfl rfl ?_
    refine s_aload X (pc' := 90) at_88 rfl rfl rfl ?_
    refine s_special X (pc' := 93) (W := 1) (as' := [(.ref b198)]) (S := [(.ref b212)]) (k' := 4) (n' := 10) at_90 rfl (hw _ (List.mem_of_getElem? (i := 4) rfl)) (hw _ (List.mem_of_getElem? (i := 5) rfl)) (hw _ (List.mem_of_getElem? (i := 6) rfl)) (by decide) own_pd25 rfl (newStrPay hw hEL O2 P5 X.old g_b212 (by simp) E_b212 F_b212_value F_b212_coder (cs := [c0, c1]) (by simp [nar_id (up16 k0), nar_id (up16 k1)]) A_b198 (n := 2) rfl (by decide) (by decide) (alS k0 (alS k1 al0)) (by decide) (by decide)) (Nat.le_of_ble_eq_true rfl) rfl rfl (by decide) (by decide) (by decide) (by decide) rfl (fun T h215 v_ ws_ X hgr_ q216 => ?_)
    obtain ⟨rfl, K_, S_b212, rfl⟩ := q216
    show Go p e below _ T (mkF m 93 #[.val (.int xa), .val (.int xb), .val (.int xf), .val (.int (1 : Int32)), .val (.int c0), .val (.int c1), .val (.int c2), .val (.int c3), .val (.ref b198), .val (.ref b205), .unset, .unset, .unset, .unset, .unset, .unset, .unset, .unset, .unset] [(.ref b212)])
    replace A_b205 := A_b205.keep K_ (ninS ne_b205_b212 nin0)
    replace E_b212 := E_b212.keep K_
    have hps : Lat [c0, c1] := (alS k0 (alS k1 al0))
    refine s_astore X (pc' := 95) (L' := #[.val (.int xa), .val (.int xb), .val (.int xf), .val (.int (1 : Int32)), .val (.int c0), .val (.int c1), .val (.int c2), .val (.int c3), .val (.ref b198), .val (.ref b205), .val (.ref b212), .unset, .unset, .unset, .unset, .unset, .unset, .unset, .unset]) at_93 rfl rfl rfl ?_
    refine s_new X (pc' := 98) (k' := 5) (n' := 14) at_95 (hw _ (List.mem_of_getElem? (i := 1) rfl)) (hw _ (List.mem_of_getElem? (i := 2) rfl)) (hw _ (List.mem_of_getElem? (i := 3) rfl)) (by decide) (by decide) (by decide) (by decide) rfl (fun T h218 b217 gb_b217 X' E219 E_b217 D_b217 U_b217 => ?_)
    have g_b217 : Z.heap.size ≤ b217 := by rw [gb_b217]; exact X.lt
    have ne_b205_b217 : b205 ≠ b217 := Nat.ne_of_lt (by rw [gb_b217]; exact A_b205.lt)
    have ne_b212_b217 : b212 ≠ b217 := Nat.ne_of_lt (by rw [gb_b217]; exact S_b212.lt)
    replace A_b205 := A_b205.ext E219
    replace S_b212 := S_b212.ext E219
    replace X := X'
    have F_b217_coder : Fld Z h218 b217 "java/lang/String" "coder" "B" (.int (0 : Int32)) := D_b217 (Or.inr (hw _ (List.mem_of_getElem? (i := 27) rfl))) (ty := .byte) (by decide)
    have F_b217_value : Fld Z h218 b217 "java/lang/String" "value" "[B" .null := D_b217 (Or.inr (hw _ (List.mem_of_getElem? (i := 29) rfl))) (ty := (.array .byte)) (by decide)
    refine s_dup X (pc' := 99) at_98 rfl rfl ?_
    refine s_aload X (pc' := 101) at_99 rfl rfl rfl ?_
    have E0_q := E_b217
    refine s_special X (pc' := 104) (W := 1) (as' := [(.ref b205)]) (S := [(.ref b217)]) (k' := 6) (n' := 16) at_101 rfl (hw _ (List.mem_of_getElem? (i := 4) rfl)) (hw _ (List.mem_of_getElem? (i := 5) rfl)) (hw _ (List.mem_of_getElem? (i := 6) rfl)) (by decide) own_pd25 rfl (newStrPay hw hEL O2 P5 X.old g_b217 (by simp) E_b217 F_b217_value F_b217_coder (cs := [c2, c3]) (by simp [nar_id (up16 k2), nar_id (up16 k3)]) A_b205 (n := 2) rfl (by decide) (by decide) (alS k2 (alS k3 al0)) (by decide) (by decide)) (Nat.le_of_ble_eq_true rfl) rfl rfl (by decide) (by decide) (by decide) (by decide) rfl (fun T h220 v_ ws_ X hgr_ q221 => ?_)
    obtain ⟨rfl, K_, S_b217, rfl⟩ := q221
    show Go p e below _ T (mkF m 104 #[.val (.int xa), .val (.int xb), .val (.int xf), .val (.int (1 : Int32)), .val (.int c0), .val (.int c1), .val (.int c2), .val (.int c3), .val (.ref b198), .val (.ref b205), .val (.ref b212), .unset, .unset, .unset, .unset, .unset, .unset, .unset, .unset] [(.ref b217)])
    replace E_b217 := E_b217.keep K_
    have hqs : Lat [c2, c3] := (alS k2 (alS k3 al0))
    replace S_b212 := S_b212.keepS K_ E0_q ne_b212_b217 (hw _ (List.mem_of_getElem? (i := 2) rfl))
    refine s_astore X (pc' := 106) (L' := #[.val (.int xa), .val (.int xb), .val (.int xf), .val (.int (1 : Int32)), .val (.int c0), .val (.int c1), .val (.int c2), .val (.int c3), .val (.ref b198), .val (.ref b205), .val (.ref b212), .val (.ref b217), .unset, .unset, .unset, .unset, .unset, .unset, .unset]) at_104 rfl rfl rfl ?_
    refine s_aload X (pc' := 108) at_106 rfl rfl rfl ?_
    refine s_aload X (pc' := 110) at_108 rfl rfl rfl ?_
    refine s_iloadN X (pc' := 111) at_110 rfl rfl ?_
    refine s_static X (pc' := 114) (W := 0) (as' := [(.ref b212), (.ref b217), (.int (1 : Int32))]) (S := []) (k' := 46) (n' := 7016) at_111 (hw _ (List.mem_of_getElem? (i := 30) rfl)) (hw _ (List.mem_of_getElem? (i := 31) rfl)) (hw _ (List.mem_of_getElem? (i := 32) rfl)) (hw _ (List.mem_of_getElem? (i := 33) rfl)) (by decide) own_pd26 rfl ((own_ne1 l Z a0 hw hEL b212 b217 _ S_b212 hps rfl S_b217 hqs rfl In Us Ss hlt O2 P5).payS (by simp) (hw _ (List.mem_of_getElem? (i := 33) rfl)) (hw _ (List.mem_of_getElem? (i := 32) rfl)) hEL (by decide) (by decide)) (Nat.le_of_ble_eq_true rfl) rfl rfl (by decide) (by decide) (by decide) (by decide) rfl (fun T h222 v_ ws_ X hgr_ q223 => ?_)
    obtain ⟨r, mg, rfl, E_, E_r, F_r_kind, F_r_detailMessage, S_mg, hmg, rfl⟩ := q223
    show Go p e below _ T (mkF m 114 #[.val (.int xa), .val (.int xb), .val (.int xf), .val (.int (1 : Int32)), .val (.int c0), .val (.int c1), .val (.int c2), .val (.int c3), .val (.ref b198), .val (.ref b205), .val (.ref b212), .val (.ref b217), .unset, .unset, .unset, .unset, .unset, .unset, .unset] [(.ref r)])
    replace X := X.sub (ws' := []) (by simp)
    refine s_astore X (pc' := 116) (L' := #[.val (.int xa), .val (.int xb), .val (.int xf), .val (.int (1 : Int32)), .val (.int c0), .val (.int c1), .val (.int c2), .val (.int c3), .val (.ref b198), .val (.ref b205), .val (.ref b212), .val (.ref b217), .val (.ref r), .unset, .unset, .unset, .unset, .unset, .unset]) at_114 rfl rfl rfl ?_
    refine s_aload X (pc' := 118) at_116 rfl rfl rfl ?_
    refine s_virtual X (pc' := 121) (W := 0) (as' := []) (S := []) (k' := 46) (n' := 7016) at_118 (hw _ (List.mem_of_getElem? (i := 257) rfl)) (hw _ (List.mem_of_getElem? (i := 258) rfl)) (hw _ (List.mem_of_getElem? (i := 260) rfl)) (hw _ (List.mem_of_getElem? (i := 259) rfl)) (nface (hw _ (List.mem_of_getElem? (i := 260) rfl))) (by decide) own_pd27 rfl E_r ((own_kind l Z a0 hw hEL r _ F_r_kind).payS (by simp) (hw _ (List.mem_of_getElem? (i := 261) rfl)) (hw _ (List.mem_of_getElem? (i := 32) rfl)) hEL (by decide) (by decide)) (Nat.le_of_ble_eq_true rfl) rfl rfl (by decide) (by decide) (by decide) (by decide) rfl (fun T h224 v_ ws_ X hgr_ q225 => ?_)
    obtain ⟨rfl, e_, rfl⟩ := q225
    rw [e_] at X
    show Go p e below _ T (mkF m 121 #[.val (.int xa), .val (.int xb), .val (.int xf), .val (.int (1 : Int32)), .val (.int c0), .val (.int c1), .val (.int c2), .val (.int c3), .val (.ref b198), .val (.ref b205), .val (.ref b212), .val (.ref b217), .val (.ref r), .unset, .unset, .unset, .unset, .unset, .unset] [(.ref kd)])
    replace X := X.sub (ws' := []) (by simp)
    refine s_gets X (pc' := 124) at_121 (hw _ (List.mem_of_getElem? (i := 262) rfl)) Via.refl In rfl (fun T X => ?_)
    refine s_acmpT X (pc' := 129) at_124 rfl rfl (by simp [XT.acmp]) (by decide) (by decide) ?_
    refine s_aload X (pc' := 131) at_129 rfl rfl rfl ?_
    refine s_virtual X (pc' := 134) (W := 0) (as' := []) (S := []) (k' := 46) (n' := 7016) at_131 (hw _ (List.mem_of_getElem? (i := 263) rfl)) (hw _ (List.mem_of_getElem? (i := 264) rfl)) (hw _ (List.mem_of_getElem? (i := 266) rfl)) (hw _ (List.mem_of_getElem? (i := 265) rfl)) (nface (hw _ (List.mem_of_getElem? (i := 266) rfl))) (by decide) own_pd18 rfl E_r ((own_rr l Z a0 hw hEL r _ E_r F_r_kind F_r_detailMessage Ii hki).payS (by simp) (hw _ (List.mem_of_getElem? (i := 267) rfl)) (hw _ (List.mem_of_getElem? (i := 32) rfl)) hEL (by decide) (by decide)) (Nat.le_of_ble_eq_true rfl) rfl rfl (by decide) (by decide) (by decide) (by decide) rfl (fun T h226 v_ ws_ X hgr_ q227 => ?_)
    obtain ⟨rfl, e_, rfl⟩ := q227
    rw [e_] at X
    show Go p e below _ T (mkF m 134 #[.val (.int xa), .val (.int xb), .val (.int xf), .val (.int (1 : Int32)), .val (.int c0), .val (.int c1), .val (.int c2), .val (.int c3), .val (.ref b198), .val (.ref b205), .val (.ref b212), .val (.ref b217), .val (.ref r), .unset, .unset, .unset, .unset, .unset, .unset] [(.ref mg)])
    replace X := X.sub (ws' := []) (by simp)
    have E_mg := S_mg.exa
    refine s_astore X (pc' := 136) (L' := #[.val (.int xa), .val (.int xb), .val (.int xf), .val (.int (1 : Int32)), .val (.int c0), .val (.int c1), .val (.int c2), .val (.int c3), .val (.ref b198), .val (.ref b205), .val (.ref b212), .val (.ref b217), .val (.ref r), .val (.ref mg), .unset, .unset, .unset, .unset, .unset]) at_134 rfl rfl rfl ?_
    refine s_aload X (pc' := 138) at_136 rfl rfl rfl ?_
    refine s_ifnonnullT X (pc' := 143) at_138 (by decide) (by decide) ?_
    refine s_iloadN X (pc' := 144) at_143 rfl rfl ?_
    refine s_ifF X (pc' := 147) at_144 (show ¬ (1 : Int32) = (0 : Int32) by decide) rfl ?_
    refine s_bipush X (pc' := 149) at_147 (v := (33 : Int32)) (by decide) rfl ?_
    refine s_goto X (pc' := 154) at_149 (by decide) (by decide) ?_
    refine s_istore X (pc' := 156) (L' := #[.val (.int xa), .val (.int xb), .val (.int xf), .val (.int (1 : Int32)), .val (.int c0), .val (.int c1), .val (.int c2), .val (.int c3), .val (.ref b198), .val (.ref b205), .val (.ref b212), .val (.ref b217), .val (.ref r), .val (.ref mg), .val (.int (33 : Int32)), .unset, .unset, .unset, .unset]) at_154 rfl rfl ?_
    refine s_iloadN X (pc' := 157) at_156 rfl rfl ?_
    refine s_ifF X (pc' := 160) at_157 (show ¬ (1 : Int32) = (0 : Int32) by decide) rfl ?_
    refine s_bipush X (pc' := 162) at_160 (v := (46 : Int32)) (by decide) rfl ?_
    refine s_goto X (pc' := 167) at_162 (by decide) (by decide) ?_
    refine s_istore X (pc' := 169) (L' := #[.val (.int xa), .val (.int xb), .val (.int xf), .val (.int (1 : Int32)), .val (.int c0), .val (.int c1), .val (.int c2), .val (.int c3), .val (.ref b198), .val (.ref b205), .val (.ref b212), .val (.ref b217), .val (.ref r), .val (.ref mg), .val (.int (33 : Int32)), .val (.int (46 : Int32)), .unset, .unset, .unset]) at_167 rfl rfl ?_
    refine s_iload X (pc' := 171) at_169 rfl rfl ?_
    refine s_iconst X (pc' := 172) at_171 (v := (2 : Int32)) rfl rfl ?_
    refine s_iadd X (pc' := 173) at_172 rfl ?_
    refine s_iload X (pc' := 175) at_173 rfl rfl ?_
    refine s_iadd X (pc' := 176) at_175 rfl ?_
    refine s_bipush X (pc' := 178) at_176 (v := (41 : Int32)) (by decide) rfl ?_
    refine s_iadd X (pc' := 179) at_178 rfl ?_
    refine s_istore X (pc' := 181) (L' := #[.val (.int xa), .val (.int xb), .val (.int xf), .val (.int (1 : Int32)), .val (.int c0), .val (.int c1), .val (.int c2), .val (.int c3), .val (.ref b198), .val (.ref b205), .val (.ref b212), .val (.ref b217), .val (.ref r), .val (.ref mg), .val (.int (33 : Int32)), .val (.int (46 : Int32)), .val (.int ((((33 : Int32) + (2 : Int32)) + (46 : Int32)) + (41 : Int32))), .unset, .unset]) at_179 rfl rfl ?_
    refine s_iloadN X (pc' := 182) at_181 rfl rfl ?_
    refine s_ifF X (pc' := 185) at_182 (show ¬ (1 : Int32) = (0 : Int32) by decide) rfl ?_
    refine s_bipush X (pc' := 187) at_185 (v := (126 : Int32)) (by decide) rfl ?_
    refine s_goto X (pc' := 192) at_187 (by decide) (by decide) ?_
    refine s_iconst X (pc' := 193) at_192 (v := (4 : Int32)) rfl rfl ?_
    refine s_iadd X (pc' := 194) at_193 rfl ?_
    refine s_istore X (pc' := 196) (L' := #[.val (.int xa), .val (.int xb), .val (.int xf), .val (.int (1 : Int32)), .val (.int c0), .val (.int c1), .val (.int c2), .val (.int c3), .val (.ref b198), .val (.ref b205), .val (.ref b212), .val (.ref b217), .val (.ref r), .val (.ref mg), .val (.int (33 : Int32)), .val (.int (46 : Int32)), .val (.int ((((33 : Int32) + (2 : Int32)) + (46 : Int32)) + (41 : Int32))), .val (.int ((126 : Int32) + (4 : Int32))), .unset]) at_194 rfl rfl ?_
    refine s_aload X (pc' := 198) at_196 rfl rfl rfl ?_
    refine s_virtual X (pc' := 201) (W := 0) (as' := []) (S := []) (k' := 46) (n' := 7016) at_198 (hw _ (List.mem_of_getElem? (i := 276) rfl)) (hw _ (List.mem_of_getElem? (i := 66) rfl)) (hw _ (List.mem_of_getElem? (i := 68) rfl)) (hw _ (List.mem_of_getElem? (i := 67) rfl)) (nface (hw _ (List.mem_of_getElem? (i := 68) rfl))) (by decide) own_pd7 rfl E_mg (lenPay hw hEL O2 P5 X.old S_mg (by decide) (by decide)) (Nat.le_of_ble_eq_true rfl) rfl rfl (by decide) (by decide) (by decide) (by decide) rfl (fun T h228 v_ ws_ X hgr_ q229 => ?_)
    obtain ⟨rfl, e_, rfl⟩ := q229
    rw [e_] at X
    show Go p e below _ T (mkF m 201 #[.val (.int xa), .val (.int xb), .val (.int xf), .val (.int (1 : Int32)), .val (.int c0), .val (.int c1), .val (.int c2), .val (.int c3), .val (.ref b198), .val (.ref b205), .val (.ref b212), .val (.ref b217), .val (.ref r), .val (.ref mg), .val (.int (33 : Int32)), .val (.int (46 : Int32)), .val (.int ((((33 : Int32) + (2 : Int32)) + (46 : Int32)) + (41 : Int32))), .val (.int ((126 : Int32) + (4 : Int32))), .unset] [(.int (Int32.ofNat (own_msg1 [c0, c1] [c2, c3]).length))])
    replace X := X.sub (ws' := []) (by simp)
    refine go_int (z := (130 : Int32)) (by rw [own_ml1]; rfl) ?_
    refine s_iload X (pc' := 203) at_201 rfl rfl ?_
    refine go_int (z := (130 : Int32)) (by decide) ?_
    refine s_icmpT X (pc' := 208) at_203 (show (130 : Int32) = (130 : Int32) by decide) (by decide) (by decide) ?_
    refine s_aload X (pc' := 210) at_208 rfl rfl rfl ?_
    refine s_iconst X (pc' := 211) at_210 (v := (0 : Int32)) rfl rfl ?_
    refine s_virtual X (pc' := 214) (W := 0) (as' := [(.int (0 : Int32))]) (S := []) (k' := 46) (n' := 7016) at_211 (hw _ (List.mem_of_getElem? (i := 277) rfl)) (hw _ (List.mem_of_getElem? (i := 278) rfl)) (hw _ (List.mem_of_getElem? (i := 280) rfl)) (hw _ (List.mem_of_getElem? (i := 279) rfl)) (nface (hw _ (List.mem_of_getElem? (i := 280) rfl))) (by decide) own_pd28 rfl E_mg (chPay hw hEL O2 P5 O4 rG3 X.old S_mg (fun c hc => (hmg c hc).2) (i := 0) (by rw [own_ml1]; decide) rfl (by decide) (by decide)) (Nat.le_of_ble_eq_true rfl) rfl rfl (by decide) (by decide) (by decide) (by decide) rfl (fun T h230 v_ ws_ X hgr_ q231 => ?_)
    obtain ⟨rfl, e_, rfl⟩ := q231
    rw [e_] at X
    show Go p e below _ T (mkF m 214 #[.val (.int xa), .val (.int xb), .val (.int xf), .val (.int (1 : Int32)), .val (.int c0), .val (.int c1), .val (.int c2), .val (.int c3), .val (.ref b198), .val (.ref b205), .val (.ref b212), .val (.ref b217), .val (.ref r), .val (.ref mg), .val (.int (33 : Int32)), .val (.int (46 : Int32)), .val (.int ((((33 : Int32) + (2 : Int32)) + (46 : Int32)) + (41 : Int32))), .val (.int ((126 : Int32) + (4 : Int32))), .unset] [(.int ((own_msg1 [c0, c1] [c2, c3]).getD (0) 0))])
    replace X := X.sub (ws' := []) (by simp)
    refine go_int (z := (45 : Int32)) (own_at1_0 c0 c1 c2 c3) ?_
    refine s_bipush X (pc' := 216) at_214 (v := (45 : Int32)) (by decide) rfl ?_
    refine s_icmpF X (pc' := 219) at_216 (show (45 : Int32) = (45 : Int32) by decide) rfl ?_
    refine s_aload X (pc' := 221) at_219 rfl rfl rfl ?_
    refine s_iconst X (pc' := 222) at_221 (v := (1 : Int32)) rfl rfl ?_
    refine s_virtual X (pc' := 225) (W := 0) (as' := [(.int (1 : Int32))]) (S := []) (k' := 46) (n' := 7016) at_222 (hw _ (List.mem_of_getElem? (i := 277) rfl)) (hw _ (List.mem_of_getElem? (i := 278) rfl)) (hw _ (List.mem_of_getElem? (i := 280) rfl)) (hw _ (List.mem_of_getElem? (i := 279) rfl)) (nface (hw _ (List.mem_of_getElem? (i := 280) rfl))) (by decide) own_pd28 rfl E_mg (chPay hw hEL O2 P5 O4 rG3 X.old S_mg (fun c hc => (hmg c hc).2) (i := 1) (by rw [own_ml1]; decide) rfl (by decide) (by decide)) (Nat.le_of_ble_eq_true rfl) rfl rfl (by decide) (by decide) (by decide) (by decide) rfl (fun T h232 v_ ws_ X hgr_ q233 => ?_)
    obtain ⟨rfl, e_, rfl⟩ := q233
    rw [e_] at X
    show Go p e below _ T (mkF m 225 #[.val (.int xa), .val (.int xb), .val (.int xf), .val (.int (1 : Int32)), .val (.int c0), .val (.int c1), .val (.int c2), .val (.int c3), .val (.ref b198), .val (.ref b205), .val (.ref b212), .val (.ref b217), .val (.ref r), .val (.ref mg), .val (.int (33 : Int32)), .val (.int (46 : Int32)), .val (.int ((((33 : Int32) + (2 : Int32)) + (46 : Int32)) + (41 : Int32))), .val (.int ((126 : Int32) + (4 : Int32))), .unset] [(.int ((own_msg1 [c0, c1] [c2, c3]).getD (1) 0))])
    replace X := X.sub (ws' := []) (by simp)
    refine go_int (z := (45 : Int32)) (own_at1_1 c0 c1 c2 c3) ?_
    refine s_bipush X (pc' := 227) at_225 (v := (45 : Int32)) (by decide) rfl ?_
    refine s_icmpF X (pc' := 230) at_227 (show (45 : Int32) = (45 : Int32) by decide) rfl ?_
    refine s_aload X (pc' := 232) at_230 rfl rfl rfl ?_
    refine s_iconst X (pc' := 233) at_232 (v := (2 : Int32)) rfl rfl ?_
    refine s_virtual X (pc' := 236) (W := 0) (as' := [(.int (2 : Int32))]) (S := []) (k' := 46) (n' := 7016) at_233 (hw _ (List.mem_of_getElem? (i := 277) rfl)) (hw _ (List.mem_of_getElem? (i := 278) rfl)) (hw _ (List.mem_of_getElem? (i := 280) rfl)) (hw _ (List.mem_of_getElem? (i := 279) rfl)) (nface (hw _ (List.mem_of_getElem? (i := 280) rfl))) (by decide) own_pd28 rfl E_mg (chPay hw hEL O2 P5 O4 rG3 X.old S_mg (fun c hc => (hmg c hc).2) (i := 2) (by rw [own_ml1]; decide) rfl (by decide) (by decide)) (Nat.le_of_ble_eq_true rfl) rfl rfl (by decide) (by decide) (by decide) (by decide) rfl (fun T h234 v_ ws_ X hgr_ q235 => ?_)
    obtain ⟨rfl, e_, rfl⟩ := q235
    rw [e_] at X
    show Go p e below _ T (mkF m 236 #[.val (.int xa), .val (.int xb), .val (.int xf), .val (.int (1 : Int32)), .val (.int c0), .val (.int c1), .val (.int c2), .val (.int c3), .val (.ref b198), .val (.ref b205), .val (.ref b212), .val (.ref b217), .val (.ref r), .val (.ref mg), .val (.int (33 : Int32)), .val (.int (46 : Int32)), .val (.int ((((33 : Int32) + (2 : Int32)) + (46 : Int32)) + (41 : Int32))), .val (.int ((126 : Int32) + (4 : Int32))), .unset] [(.int ((own_msg1 [c0, c1] [c2, c3]).getD (2) 0))])
    replace X := X.sub (ws' := []) (by simp)
    refine go_int (z := (114 : Int32)) (own_at1_2 c0 c1 c2 c3) ?_
    refine s_iloadN X (pc' := 237) at_236 rfl rfl ?_
    refine s_ifF X (pc' := 240) at_237 (show ¬ (1 : Int32) = (0 : Int32) by decide) rfl ?_
    refine s_bipush X (pc' := 242) at_240 (v := (114 : Int32)) (by decide) rfl ?_
    refine s_goto X (pc' := 247) at_242 (by decide) (by decide) ?_
    refine s_icmpF X (pc' := 250) at_247 (show (114 : Int32) = (114 : Int32) by decide) rfl ?_
    refine s_aload X (pc' := 252) at_250 rfl rfl rfl ?_
    refine s_iload X (pc' := 254) at_252 rfl rfl ?_
    refine s_iconst X (pc' := 255) at_254 (v := (2 : Int32)) rfl rfl ?_
    refine s_isub X (pc' := 256) at_255 rfl ?_
    refine go_int (z := (31 : Int32)) (by decide) ?_
    refine s_virtual X (pc' := 259) (W := 0) (as' := [(.int (31 : Int32))]) (S := []) (k' := 46) (n' := 7016) at_256 (hw _ (List.mem_of_getElem? (i := 277) rfl)) (hw _ (List.mem_of_getElem? (i := 278) rfl)) (hw _ (List.mem_of_getElem? (i := 280) rfl)) (hw _ (List.mem_of_getElem? (i := 279) rfl)) (nface (hw _ (List.mem_of_getElem? (i := 280) rfl))) (by decide) own_pd28 rfl E_mg (chPay hw hEL O2 P5 O4 rG3 X.old S_mg (fun c hc => (hmg c hc).2) (i := 31) (by rw [own_ml1]; decide) rfl (by decide) (by decide)) (Nat.le_of_ble_eq_true rfl) rfl rfl (by decide) (by decide) (by decide) (by decide) rfl (fun T h236 v_ ws_ X hgr_ q237 => ?_)
    obtain ⟨rfl, e_, rfl⟩ := q237
    rw [e_] at X
    show Go p e below _ T (mkF m 259 #[.val (.int xa), .val (.int xb), .val (.int xf), .val (.int (1 : Int32)), .val (.int c0), .val (.int c1), .val (.int c2), .val (.int c3), .val (.ref b198), .val (.ref b205), .val (.ref b212), .val (.ref b217), .val (.ref r), .val (.ref mg), .val (.int (33 : Int32)), .val (.int (46 : Int32)), .val (.int ((((33 : Int32) + (2 : Int32)) + (46 : Int32)) + (41 : Int32))), .val (.int ((126 : Int32) + (4 : Int32))), .unset] [(.int ((own_msg1 [c0, c1] [c2, c3]).getD (31) 0))])
    replace X := X.sub (ws' := []) (by simp)
    refine go_int (z := (100 : Int32)) (own_at1_31 c0 c1 c2 c3) ?_
    refine s_bipush X (pc' := 261) at_259 (v := (100 : Int32)) (by decide) rfl ?_
    refine s_icmpF X (pc' := 264) at_261 (show (100 : Int32) = (100 : Int32) by decide) rfl ?_
    refine s_aload X (pc' := 266) at_264 rfl rfl rfl ?_
    refine s_iload X (pc' := 268) at_266 rfl rfl ?_
    refine s_iconst X (pc' := 269) at_268 (v := (1 : Int32)) rfl rfl ?_
    refine s_isub X (pc' := 270) at_269 rfl ?_
    refine go_int (z := (32 : Int32)) (by decide) ?_
    refine s_virtual X (pc' := 273) (W := 0) (as' := [(.int (32 : Int32))]) (S := []) (k' := 46) (n' := 7016) at_270 (hw _ (List.mem_of_getElem? (i := 277) rfl)) (hw _ (List.mem_of_getElem? (i := 278) rfl)) (hw _ (List.mem_of_getElem? (i := 280) rfl)) (hw _ (List.mem_of_getElem? (i := 279) rfl)) (nface (hw _ (List.mem_of_getElem? (i := 280) rfl))) (by decide) own_pd28 rfl E_mg (chPay hw hEL O2 P5 O4 rG3 X.old S_mg (fun c hc => (hmg c hc).2) (i := 32) (by rw [own_ml1]; decide) rfl (by decide) (by decide)) (Nat.le_of_ble_eq_true rfl) rfl rfl (by decide) (by decide) (by decide) (by decide) rfl (fun T h238 v_ ws_ X hgr_ q239 => ?_)
    obtain ⟨rfl, e_, rfl⟩ := q239
    rw [e_] at X
    show Go p e below _ T (mkF m 273 #[.val (.int xa), .val (.int xb), .val (.int xf), .val (.int (1 : Int32)), .val (.int c0), .val (.int c1), .val (.int c2), .val (.int c3), .val (.ref b198), .val (.ref b205), .val (.ref b212), .val (.ref b217), .val (.ref r), .val (.ref mg), .val (.int (33 : Int32)), .val (.int (46 : Int32)), .val (.int ((((33 : Int32) + (2 : Int32)) + (46 : Int32)) + (41 : Int32))), .val (.int ((126 : Int32) + (4 : Int32))), .unset] [(.int ((own_msg1 [c0, c1] [c2, c3]).getD (32) 0))])
    replace X := X.sub (ws' := []) (by simp)
    refine go_int (z := (32 : Int32)) (own_at1_32 c0 c1 c2 c3) ?_
    refine s_bipush X (pc' := 275) at_273 (v := (32 : Int32)) (by decide) rfl ?_
    refine s_icmpF X (pc' := 278) at_275 (show (32 : Int32) = (32 : Int32) by decide) rfl ?_
    refine s_aload X (pc' := 280) at_278 rfl rfl rfl ?_
    refine s_iload X (pc' := 282) at_280 rfl rfl ?_
    refine s_virtual X (pc' := 285) (W := 0) (as' := [(.int (33 : Int32))]) (S := []) (k' := 46) (n' := 7016) at_282 (hw _ (List.mem_of_getElem? (i := 277) rfl)) (hw _ (List.mem_of_getElem? (i := 278) rfl)) (hw _ (List.mem_of_getElem? (i := 280) rfl)) (hw _ (List.mem_of_getElem? (i := 279) rfl)) (nface (hw _ (List.mem_of_getElem? (i := 280) rfl))) (by decide) own_pd28 rfl E_mg (chPay hw hEL O2 P5 O4 rG3 X.old S_mg (fun c hc => (hmg c hc).2) (i := 33) (by rw [own_ml1]; decide) rfl (by decide) (by decide)) (Nat.le_of_ble_eq_true rfl) rfl rfl (by decide) (by decide) (by decide) (by decide) rfl (fun T h240 v_ ws_ X hgr_ q241 => ?_)
    obtain ⟨rfl, e_, rfl⟩ := q241
    rw [e_] at X
    show Go p e below _ T (mkF m 285 #[.val (.int xa), .val (.int xb), .val (.int xf), .val (.int (1 : Int32)), .val (.int c0), .val (.int c1), .val (.int c2), .val (.int c3), .val (.ref b198), .val (.ref b205), .val (.ref b212), .val (.ref b217), .val (.ref r), .val (.ref mg), .val (.int (33 : Int32)), .val (.int (46 : Int32)), .val (.int ((((33 : Int32) + (2 : Int32)) + (46 : Int32)) + (41 : Int32))), .val (.int ((126 : Int32) + (4 : Int32))), .unset] [(.int ((own_msg1 [c0, c1] [c2, c3]).getD (33) 0))])
    replace X := X.sub (ws' := []) (by simp)
    refine go_int (z := c0) (own_at1_33 c0 c1 c2 c3) ?_
    refine s_iload X (pc' := 287) at_285 rfl rfl ?_
    refine s_icmpF X (pc' := 290) at_287 (show c0 = c0 from rfl) rfl ?_
    refine s_aload X (pc' := 292) at_290 rfl rfl rfl ?_
    refine s_iload X (pc' := 294) at_292 rfl rfl ?_
    refine s_iconst X (pc' := 295) at_294 (v := (1 : Int32)) rfl rfl ?_
    refine s_iadd X (pc' := 296) at_295 rfl ?_
    refine go_int (z := (34 : Int32)) (by decide) ?_
    refine s_virtual X (pc' := 299) (W := 0) (as' := [(.int (34 : Int32))]) (S := []) (k' := 46) (n' := 7016) at_296 (hw _ (List.mem_of_getElem? (i := 277) rfl)) (hw _ (List.mem_of_getElem? (i := 278) rfl)) (hw _ (List.mem_of_getElem? (i := 280) rfl)) (hw _ (List.mem_of_getElem? (i := 279) rfl)) (nface (hw _ (List.mem_of_getElem? (i := 280) rfl))) (by decide) own_pd28 rfl E_mg (chPay hw hEL O2 P5 O4 rG3 X.old S_mg (fun c hc => (hmg c hc).2) (i := 34) (by rw [own_ml1]; decide) rfl (by decide) (by decide)) (Nat.le_of_ble_eq_true rfl) rfl rfl (by decide) (by decide) (by decide) (by decide) rfl (fun T h242 v_ ws_ X hgr_ q243 => ?_)
    obtain ⟨rfl, e_, rfl⟩ := q243
    rw [e_] at X
    show Go p e below _ T (mkF m 299 #[.val (.int xa), .val (.int xb), .val (.int xf), .val (.int (1 : Int32)), .val (.int c0), .val (.int c1), .val (.int c2), .val (.int c3), .val (.ref b198), .val (.ref b205), .val (.ref b212), .val (.ref b217), .val (.ref r), .val (.ref mg), .val (.int (33 : Int32)), .val (.int (46 : Int32)), .val (.int ((((33 : Int32) + (2 : Int32)) + (46 : Int32)) + (41 : Int32))), .val (.int ((126 : Int32) + (4 : Int32))), .unset] [(.int ((own_msg1 [c0, c1] [c2, c3]).getD (34) 0))])
    replace X := X.sub (ws' := []) (by simp)
    refine go_int (z := c1) (own_at1_34 c0 c1 c2 c3) ?_
    refine s_iload X (pc' := 301) at_299 rfl rfl ?_
    refine s_icmpF X (pc' := 304) at_301 (show c1 = c1 from rfl) rfl ?_
    refine s_aload X (pc' := 306) at_304 rfl rfl rfl ?_
    refine s_iload X (pc' := 308) at_306 rfl rfl ?_
    refine s_iconst X (pc' := 309) at_308 (v := (2 : Int32)) rfl rfl ?_
    refine s_iadd X (pc' := 310) at_309 rfl ?_
    refine go_int (z := (35 : Int32)) (by decide) ?_
    refine s_virtual X (pc' := 313) (W := 0) (as' := [(.int (35 : Int32))]) (S := []) (k' := 46) (n' := 7016) at_310 (hw _ (List.mem_of_getElem? (i := 277) rfl)) (hw _ (List.mem_of_getElem? (i := 278) rfl)) (hw _ (List.mem_of_getElem? (i := 280) rfl)) (hw _ (List.mem_of_getElem? (i := 279) rfl)) (nface (hw _ (List.mem_of_getElem? (i := 280) rfl))) (by decide) own_pd28 rfl E_mg (chPay hw hEL O2 P5 O4 rG3 X.old S_mg (fun c hc => (hmg c hc).2) (i := 35) (by rw [own_ml1]; decide) rfl (by decide) (by decide)) (Nat.le_of_ble_eq_true rfl) rfl rfl (by decide) (by decide) (by decide) (by decide) rfl (fun T h244 v_ ws_ X hgr_ q245 => ?_)
    obtain ⟨rfl, e_, rfl⟩ := q245
    rw [e_] at X
    show Go p e below _ T (mkF m 313 #[.val (.int xa), .val (.int xb), .val (.int xf), .val (.int (1 : Int32)), .val (.int c0), .val (.int c1), .val (.int c2), .val (.int c3), .val (.ref b198), .val (.ref b205), .val (.ref b212), .val (.ref b217), .val (.ref r), .val (.ref mg), .val (.int (33 : Int32)), .val (.int (46 : Int32)), .val (.int ((((33 : Int32) + (2 : Int32)) + (46 : Int32)) + (41 : Int32))), .val (.int ((126 : Int32) + (4 : Int32))), .unset] [(.int ((own_msg1 [c0, c1] [c2, c3]).getD (35) 0))])
    replace X := X.sub (ws' := []) (by simp)
    refine go_int (z := (32 : Int32)) (own_at1_35 c0 c1 c2 c3) ?_
    refine s_bipush X (pc' := 315) at_313 (v := (32 : Int32)) (by decide) rfl ?_
    refine s_icmpF X (pc' := 318) at_315 (show (32 : Int32) = (32 : Int32) by decide) rfl ?_
    refine s_aload X (pc' := 320) at_318 rfl rfl rfl ?_
    refine s_iload X (pc' := 322) at_320 rfl rfl ?_
    refine s_iconst X (pc' := 323) at_322 (v := (3 : Int32)) rfl rfl ?_
    refine s_iadd X (pc' := 324) at_323 rfl ?_
    refine go_int (z := (36 : Int32)) (by decide) ?_
    refine s_virtual X (pc' := 327) (W := 0) (as' := [(.int (36 : Int32))]) (S := []) (k' := 46) (n' := 7016) at_324 (hw _ (List.mem_of_getElem? (i := 277) rfl)) (hw _ (List.mem_of_getElem? (i := 278) rfl)) (hw _ (List.mem_of_getElem? (i := 280) rfl)) (hw _ (List.mem_of_getElem? (i := 279) rfl)) (nface (hw _ (List.mem_of_getElem? (i := 280) rfl))) (by decide) own_pd28 rfl E_mg (chPay hw hEL O2 P5 O4 rG3 X.old S_mg (fun c hc => (hmg c hc).2) (i := 36) (by rw [own_ml1]; decide) rfl (by decide) (by decide)) (Nat.le_of_ble_eq_true rfl) rfl rfl (by decide) (by decide) (by decide) (by decide) rfl (fun T h246 v_ ws_ X hgr_ q247 => ?_)
    obtain ⟨rfl, e_, rfl⟩ := q247
    rw [e_] at X
    show Go p e below _ T (mkF m 327 #[.val (.int xa), .val (.int xb), .val (.int xf), .val (.int (1 : Int32)), .val (.int c0), .val (.int c1), .val (.int c2), .val (.int c3), .val (.ref b198), .val (.ref b205), .val (.ref b212), .val (.ref b217), .val (.ref r), .val (.ref mg), .val (.int (33 : Int32)), .val (.int (46 : Int32)), .val (.int ((((33 : Int32) + (2 : Int32)) + (46 : Int32)) + (41 : Int32))), .val (.int ((126 : Int32) + (4 : Int32))), .unset] [(.int ((own_msg1 [c0, c1] [c2, c3]).getD (36) 0))])
    replace X := X.sub (ws' := []) (by simp)
    refine go_int (z := (104 : Int32)) (own_at1_36 c0 c1 c2 c3) ?_
    refine s_bipush X (pc' := 329) at_327 (v := (104 : Int32)) (by decide) rfl ?_
    refine s_icmpF X (pc' := 332) at_329 (show (104 : Int32) = (104 : Int32) by decide) rfl ?_
    refine s_aload X (pc' := 334) at_332 rfl rfl rfl ?_
    refine s_iload X (pc' := 336) at_334 rfl rfl ?_
    refine s_iconst X (pc' := 337) at_336 (v := (2 : Int32)) rfl rfl ?_
    refine s_iadd X (pc' := 338) at_337 rfl ?_
    refine s_iload X (pc' := 340) at_338 rfl rfl ?_
    refine s_iadd X (pc' := 341) at_340 rfl ?_
    refine go_int (z := (81 : Int32)) (by decide) ?_
    refine s_virtual X (pc' := 344) (W := 0) (as' := [(.int (81 : Int32))]) (S := []) (k' := 46) (n' := 7016) at_341 (hw _ (List.mem_of_getElem? (i := 277) rfl)) (hw _ (List.mem_of_getElem? (i := 278) rfl)) (hw _ (List.mem_of_getElem? (i := 280) rfl)) (hw _ (List.mem_of_getElem? (i := 279) rfl)) (nface (hw _ (List.mem_of_getElem? (i := 280) rfl))) (by decide) own_pd28 rfl E_mg (chPay hw hEL O2 P5 O4 rG3 X.old S_mg (fun c hc => (hmg c hc).2) (i := 81) (by rw [own_ml1]; decide) rfl (by decide) (by decide)) (Nat.le_of_ble_eq_true rfl) rfl rfl (by decide) (by decide) (by decide) (by decide) rfl (fun T h248 v_ ws_ X hgr_ q249 => ?_)
    obtain ⟨rfl, e_, rfl⟩ := q249
    rw [e_] at X
    show Go p e below _ T (mkF m 344 #[.val (.int xa), .val (.int xb), .val (.int xf), .val (.int (1 : Int32)), .val (.int c0), .val (.int c1), .val (.int c2), .val (.int c3), .val (.ref b198), .val (.ref b205), .val (.ref b212), .val (.ref b217), .val (.ref r), .val (.ref mg), .val (.int (33 : Int32)), .val (.int (46 : Int32)), .val (.int ((((33 : Int32) + (2 : Int32)) + (46 : Int32)) + (41 : Int32))), .val (.int ((126 : Int32) + (4 : Int32))), .unset] [(.int ((own_msg1 [c0, c1] [c2, c3]).getD (81) 0))])
    replace X := X.sub (ws' := []) (by simp)
    refine go_int (z := (32 : Int32)) (own_at1_81 c0 c1 c2 c3) ?_
    refine s_bipush X (pc' := 346) at_344 (v := (32 : Int32)) (by decide) rfl ?_
    refine s_icmpF X (pc' := 349) at_346 (show (32 : Int32) = (32 : Int32) by decide) rfl ?_
    refine s_aload X (pc' := 351) at_349 rfl rfl rfl ?_
    refine s_iload X (pc' := 353) at_351 rfl rfl ?_
    refine s_iconst X (pc' := 354) at_353 (v := (2 : Int32)) rfl rfl ?_
    refine s_iadd X (pc' := 355) at_354 rfl ?_
    refine s_iload X (pc' := 357) at_355 rfl rfl ?_
    refine s_iadd X (pc' := 358) at_357 rfl ?_
    refine s_iconst X (pc' := 359) at_358 (v := (1 : Int32)) rfl rfl ?_
    refine s_iadd X (pc' := 360) at_359 rfl ?_
    refine go_int (z := (82 : Int32)) (by decide) ?_
    refine s_virtual X (pc' := 363) (W := 0) (as' := [(.int (82 : Int32))]) (S := []) (k' := 46) (n' := 7016) at_360 (hw _ (List.mem_of_getElem? (i := 277) rfl)) (hw _ (List.mem_of_getElem? (i := 278) rfl)) (hw _ (List.mem_of_getElem? (i := 280) rfl)) (hw _ (List.mem_of_getElem? (i := 279) rfl)) (nface (hw _ (List.mem_of_getElem? (i := 280) rfl))) (by decide) own_pd28 rfl E_mg (chPay hw hEL O2 P5 O4 rG3 X.old S_mg (fun c hc => (hmg c hc).2) (i := 82) (by rw [own_ml1]; decide) rfl (by decide) (by decide)) (Nat.le_of_ble_eq_true rfl) rfl rfl (by decide) (by decide) (by decide) (by decide) rfl (fun T h250 v_ ws_ X hgr_ q251 => ?_)
    obtain ⟨rfl, e_, rfl⟩ := q251
    rw [e_] at X
    show Go p e below _ T (mkF m 363 #[.val (.int xa), .val (.int xb), .val (.int xf), .val (.int (1 : Int32)), .val (.int c0), .val (.int c1), .val (.int c2), .val (.int c3), .val (.ref b198), .val (.ref b205), .val (.ref b212), .val (.ref b217), .val (.ref r), .val (.ref mg), .val (.int (33 : Int32)), .val (.int (46 : Int32)), .val (.int ((((33 : Int32) + (2 : Int32)) + (46 : Int32)) + (41 : Int32))), .val (.int ((126 : Int32) + (4 : Int32))), .unset] [(.int ((own_msg1 [c0, c1] [c2, c3]).getD (82) 0))])
    replace X := X.sub (ws' := []) (by simp)
    refine go_int (z := (119 : Int32)) (own_at1_82 c0 c1 c2 c3) ?_
    refine s_bipush X (pc' := 365) at_363 (v := (119 : Int32)) (by decide) rfl ?_
    refine s_icmpF X (pc' := 368) at_365 (show (119 : Int32) = (119 : Int32) by decide) rfl ?_
    refine s_aload X (pc' := 370) at_368 rfl rfl rfl ?_
    refine s_iload X (pc' := 372) at_370 rfl rfl ?_
    refine s_iconst X (pc' := 373) at_372 (v := (2 : Int32)) rfl rfl ?_
    refine s_isub X (pc' := 374) at_373 rfl ?_
    refine go_int (z := (120 : Int32)) (by decide) ?_
    refine s_virtual X (pc' := 377) (W := 0) (as' := [(.int (120 : Int32))]) (S := []) (k' := 46) (n' := 7016) at_374 (hw _ (List.mem_of_getElem? (i := 277) rfl)) (hw _ (List.mem_of_getElem? (i := 278) rfl)) (hw _ (List.mem_of_getElem? (i := 280) rfl)) (hw _ (List.mem_of_getElem? (i := 279) rfl)) (nface (hw _ (List.mem_of_getElem? (i := 280) rfl))) (by decide) own_pd28 rfl E_mg (chPay hw hEL O2 P5 O4 rG3 X.old S_mg (fun c hc => (hmg c hc).2) (i := 120) (by rw [own_ml1]; decide) rfl (by decide) (by decide)) (Nat.le_of_ble_eq_true rfl) rfl rfl (by decide) (by decide) (by decide) (by decide) rfl (fun T h252 v_ ws_ X hgr_ q253 => ?_)
    obtain ⟨rfl, e_, rfl⟩ := q253
    rw [e_] at X
    show Go p e below _ T (mkF m 377 #[.val (.int xa), .val (.int xb), .val (.int xf), .val (.int (1 : Int32)), .val (.int c0), .val (.int c1), .val (.int c2), .val (.int c3), .val (.ref b198), .val (.ref b205), .val (.ref b212), .val (.ref b217), .val (.ref r), .val (.ref mg), .val (.int (33 : Int32)), .val (.int (46 : Int32)), .val (.int ((((33 : Int32) + (2 : Int32)) + (46 : Int32)) + (41 : Int32))), .val (.int ((126 : Int32) + (4 : Int32))), .unset] [(.int ((own_msg1 [c0, c1] [c2, c3]).getD (120) 0))])
    replace X := X.sub (ws' := []) (by simp)
    refine go_int (z := (115 : Int32)) (own_at1_120 c0 c1 c2 c3) ?_
    refine s_bipush X (pc' := 379) at_377 (v := (115 : Int32)) (by decide) rfl ?_
    refine s_icmpF X (pc' := 382) at_379 (show (115 : Int32) = (115 : Int32) by decide) rfl ?_
    refine s_aload X (pc' := 384) at_382 rfl rfl rfl ?_
    refine s_iload X (pc' := 386) at_384 rfl rfl ?_
    refine s_iconst X (pc' := 387) at_386 (v := (1 : Int32)) rfl rfl ?_
    refine s_isub X (pc' := 388) at_387 rfl ?_
    refine go_int (z := (121 : Int32)) (by decide) ?_
    refine s_virtual X (pc' := 391) (W := 0) (as' := [(.int (121 : Int32))]) (S := []) (k' := 46) (n' := 7016) at_388 (hw _ (List.mem_of_getElem? (i := 277) rfl)) (hw _ (List.mem_of_getElem? (i := 278) rfl)) (hw _ (List.mem_of_getElem? (i := 280) rfl)) (hw _ (List.mem_of_getElem? (i := 279) rfl)) (nface (hw _ (List.mem_of_getElem? (i := 280) rfl))) (by decide) own_pd28 rfl E_mg (chPay hw hEL O2 P5 O4 rG3 X.old S_mg (fun c hc => (hmg c hc).2) (i := 121) (by rw [own_ml1]; decide) rfl (by decide) (by decide)) (Nat.le_of_ble_eq_true rfl) rfl rfl (by decide) (by decide) (by decide) (by decide) rfl (fun T h254 v_ ws_ X hgr_ q255 => ?_)
    obtain ⟨rfl, e_, rfl⟩ := q255
    rw [e_] at X
    show Go p e below _ T (mkF m 391 #[.val (.int xa), .val (.int xb), .val (.int xf), .val (.int (1 : Int32)), .val (.int c0), .val (.int c1), .val (.int c2), .val (.int c3), .val (.ref b198), .val (.ref b205), .val (.ref b212), .val (.ref b217), .val (.ref r), .val (.ref mg), .val (.int (33 : Int32)), .val (.int (46 : Int32)), .val (.int ((((33 : Int32) + (2 : Int32)) + (46 : Int32)) + (41 : Int32))), .val (.int ((126 : Int32) + (4 : Int32))), .unset] [(.int ((own_msg1 [c0, c1] [c2, c3]).getD (121) 0))])
    replace X := X.sub (ws' := []) (by simp)
    refine go_int (z := (32 : Int32)) (own_at1_121 c0 c1 c2 c3) ?_
    refine s_bipush X (pc' := 393) at_391 (v := (32 : Int32)) (by decide) rfl ?_
    refine s_icmpF X (pc' := 396) at_393 (show (32 : Int32) = (32 : Int32) by decide) rfl ?_
    refine s_aload X (pc' := 398) at_396 rfl rfl rfl ?_
    refine s_iload X (pc' := 400) at_398 rfl rfl ?_
    refine go_int (z := (122 : Int32)) (by decide) ?_
    refine s_virtual X (pc' := 403) (W := 0) (as' := [(.int (122 : Int32))]) (S := []) (k' := 46) (n' := 7016) at_400 (hw _ (List.mem_of_getElem? (i := 277) rfl)) (hw _ (List.mem_of_getElem? (i := 278) rfl)) (hw _ (List.mem_of_getElem? (i := 280) rfl)) (hw _ (List.mem_of_getElem? (i := 279) rfl)) (nface (hw _ (List.mem_of_getElem? (i := 280) rfl))) (by decide) own_pd28 rfl E_mg (chPay hw hEL O2 P5 O4 rG3 X.old S_mg (fun c hc => (hmg c hc).2) (i := 122) (by rw [own_ml1]; decide) rfl (by decide) (by decide)) (Nat.le_of_ble_eq_true rfl) rfl rfl (by decide) (by decide) (by decide) (by decide) rfl (fun T h256 v_ ws_ X hgr_ q257 => ?_)
    obtain ⟨rfl, e_, rfl⟩ := q257
    rw [e_] at X
    show Go p e below _ T (mkF m 403 #[.val (.int xa), .val (.int xb), .val (.int xf), .val (.int (1 : Int32)), .val (.int c0), .val (.int c1), .val (.int c2), .val (.int c3), .val (.ref b198), .val (.ref b205), .val (.ref b212), .val (.ref b217), .val (.ref r), .val (.ref mg), .val (.int (33 : Int32)), .val (.int (46 : Int32)), .val (.int ((((33 : Int32) + (2 : Int32)) + (46 : Int32)) + (41 : Int32))), .val (.int ((126 : Int32) + (4 : Int32))), .unset] [(.int ((own_msg1 [c0, c1] [c2, c3]).getD (122) 0))])
    replace X := X.sub (ws' := []) (by simp)
    refine go_int (z := c2) (own_at1_122 c0 c1 c2 c3) ?_
    refine s_iload X (pc' := 405) at_403 rfl rfl ?_
    refine s_icmpF X (pc' := 408) at_405 (show c2 = c2 from rfl) rfl ?_
    refine s_aload X (pc' := 410) at_408 rfl rfl rfl ?_
    refine s_iload X (pc' := 412) at_410 rfl rfl ?_
    refine s_iconst X (pc' := 413) at_412 (v := (1 : Int32)) rfl rfl ?_
    refine s_iadd X (pc' := 414) at_413 rfl ?_
    refine go_int (z := (123 : Int32)) (by decide) ?_
    refine s_virtual X (pc' := 417) (W := 0) (as' := [(.int (123 : Int32))]) (S := []) (k' := 46) (n' := 7016) at_414 (hw _ (List.mem_of_getElem? (i := 277) rfl)) (hw _ (List.mem_of_getElem? (i := 278) rfl)) (hw _ (List.mem_of_getElem? (i := 280) rfl)) (hw _ (List.mem_of_getElem? (i := 279) rfl)) (nface (hw _ (List.mem_of_getElem? (i := 280) rfl))) (by decide) own_pd28 rfl E_mg (chPay hw hEL O2 P5 O4 rG3 X.old S_mg (fun c hc => (hmg c hc).2) (i := 123) (by rw [own_ml1]; decide) rfl (by decide) (by decide)) (Nat.le_of_ble_eq_true rfl) rfl rfl (by decide) (by decide) (by decide) (by decide) rfl (fun T h258 v_ ws_ X hgr_ q259 => ?_)
    obtain ⟨rfl, e_, rfl⟩ := q259
    rw [e_] at X
    show Go p e below _ T (mkF m 417 #[.val (.int xa), .val (.int xb), .val (.int xf), .val (.int (1 : Int32)), .val (.int c0), .val (.int c1), .val (.int c2), .val (.int c3), .val (.ref b198), .val (.ref b205), .val (.ref b212), .val (.ref b217), .val (.ref r), .val (.ref mg), .val (.int (33 : Int32)), .val (.int (46 : Int32)), .val (.int ((((33 : Int32) + (2 : Int32)) + (46 : Int32)) + (41 : Int32))), .val (.int ((126 : Int32) + (4 : Int32))), .unset] [(.int ((own_msg1 [c0, c1] [c2, c3]).getD (123) 0))])
    replace X := X.sub (ws' := []) (by simp)
    refine go_int (z := c3) (own_at1_123 c0 c1 c2 c3) ?_
    refine s_iload X (pc' := 419) at_417 rfl rfl ?_
    refine s_icmpF X (pc' := 422) at_419 (show c3 = c3 from rfl) rfl ?_
    refine s_aload X (pc' := 424) at_422 rfl rfl rfl ?_
    refine s_iload X (pc' := 426) at_424 rfl rfl ?_
    refine s_iconst X (pc' := 427) at_426 (v := (2 : Int32)) rfl rfl ?_
    refine s_iadd X (pc' := 428) at_427 rfl ?_
    refine go_int (z := (124 : Int32)) (by decide) ?_
    refine s_virtual X (pc' := 431) (W := 0) (as' := [(.int (124 : Int32))]) (S := []) (k' := 46) (n' := 7016) at_428 (hw _ (List.mem_of_getElem? (i := 277) rfl)) (hw _ (List.mem_of_getElem? (i := 278) rfl)) (hw _ (List.mem_of_getElem? (i := 280) rfl)) (hw _ (List.mem_of_getElem? (i := 279) rfl)) (nface (hw _ (List.mem_of_getElem? (i := 280) rfl))) (by decide) own_pd28 rfl E_mg (chPay hw hEL O2 P5 O4 rG3 X.old S_mg (fun c hc => (hmg c hc).2) (i := 124) (by rw [own_ml1]; decide) rfl (by decide) (by decide)) (Nat.le_of_ble_eq_true rfl) rfl rfl (by decide) (by decide) (by decide) (by decide) rfl (fun T h260 v_ ws_ X hgr_ q261 => ?_)
    obtain ⟨rfl, e_, rfl⟩ := q261
    rw [e_] at X
    show Go p e below _ T (mkF m 431 #[.val (.int xa), .val (.int xb), .val (.int xf), .val (.int (1 : Int32)), .val (.int c0), .val (.int c1), .val (.int c2), .val (.int c3), .val (.ref b198), .val (.ref b205), .val (.ref b212), .val (.ref b217), .val (.ref r), .val (.ref mg), .val (.int (33 : Int32)), .val (.int (46 : Int32)), .val (.int ((((33 : Int32) + (2 : Int32)) + (46 : Int32)) + (41 : Int32))), .val (.int ((126 : Int32) + (4 : Int32))), .unset] [(.int ((own_msg1 [c0, c1] [c2, c3]).getD (124) 0))])
    replace X := X.sub (ws' := []) (by simp)
    refine go_int (z := (32 : Int32)) (own_at1_124 c0 c1 c2 c3) ?_
    refine s_bipush X (pc' := 433) at_431 (v := (32 : Int32)) (by decide) rfl ?_
    refine s_icmpF X (pc' := 436) at_433 (show (32 : Int32) = (32 : Int32) by decide) rfl ?_
    refine s_aload X (pc' := 438) at_436 rfl rfl rfl ?_
    refine s_iload X (pc' := 440) at_438 rfl rfl ?_
    refine s_iconst X (pc' := 441) at_440 (v := (3 : Int32)) rfl rfl ?_
    refine s_iadd X (pc' := 442) at_441 rfl ?_
    refine go_int (z := (125 : Int32)) (by decide) ?_
    refine s_virtual X (pc' := 445) (W := 0) (as' := [(.int (125 : Int32))]) (S := []) (k' := 46) (n' := 7016) at_442 (hw _ (List.mem_of_getElem? (i := 277) rfl)) (hw _ (List.mem_of_getElem? (i := 278) rfl)) (hw _ (List.mem_of_getElem? (i := 280) rfl)) (hw _ (List.mem_of_getElem? (i := 279) rfl)) (nface (hw _ (List.mem_of_getElem? (i := 280) rfl))) (by decide) own_pd28 rfl E_mg (chPay hw hEL O2 P5 O4 rG3 X.old S_mg (fun c hc => (hmg c hc).2) (i := 125) (by rw [own_ml1]; decide) rfl (by decide) (by decide)) (Nat.le_of_ble_eq_true rfl) rfl rfl (by decide) (by decide) (by decide) (by decide) rfl (fun T h262 v_ ws_ X hgr_ q263 => ?_)
    obtain ⟨rfl, e_, rfl⟩ := q263
    rw [e_] at X
    show Go p e below _ T (mkF m 445 #[.val (.int xa), .val (.int xb), .val (.int xf), .val (.int (1 : Int32)), .val (.int c0), .val (.int c1), .val (.int c2), .val (.int c3), .val (.ref b198), .val (.ref b205), .val (.ref b212), .val (.ref b217), .val (.ref r), .val (.ref mg), .val (.int (33 : Int32)), .val (.int (46 : Int32)), .val (.int ((((33 : Int32) + (2 : Int32)) + (46 : Int32)) + (41 : Int32))), .val (.int ((126 : Int32) + (4 : Int32))), .unset] [(.int ((own_msg1 [c0, c1] [c2, c3]).getD (125) 0))])
    replace X := X.sub (ws' := []) (by simp)
    refine go_int (z := (101 : Int32)) (own_at1_125 c0 c1 c2 c3) ?_
    refine s_bipush X (pc' := 447) at_445 (v := (101 : Int32)) (by decide) rfl ?_
    refine s_icmpF X (pc' := 450) at_447 (show (101 : Int32) = (101 : Int32) by decide) rfl ?_
    refine s_aload X (pc' := 452) at_450 rfl rfl rfl ?_
    refine s_iload X (pc' := 454) at_452 rfl rfl ?_
    refine s_iconst X (pc' := 455) at_454 (v := (1 : Int32)) rfl rfl ?_
    refine s_isub X (pc' := 456) at_455 rfl ?_
    refine go_int (z := (129 : Int32)) (by decide) ?_
    refine s_virtual X (pc' := 459) (W := 0) (as' := [(.int (129 : Int32))]) (S := []) (k' := 46) (n' := 7016) at_456 (hw _ (List.mem_of_getElem? (i := 277) rfl)) (hw _ (List.mem_of_getElem? (i := 278) rfl)) (hw _ (List.mem_of_getElem? (i := 280) rfl)) (hw _ (List.mem_of_getElem? (i := 279) rfl)) (nface (hw _ (List.mem_of_getElem? (i := 280) rfl))) (by decide) own_pd28 rfl E_mg (chPay hw hEL O2 P5 O4 rG3 X.old S_mg (fun c hc => (hmg c hc).2) (i := 129) (by rw [own_ml1]; decide) rfl (by decide) (by decide)) (Nat.le_of_ble_eq_true rfl) rfl rfl (by decide) (by decide) (by decide) (by decide) rfl (fun T h264 v_ ws_ X hgr_ q265 => ?_)
    obtain ⟨rfl, e_, rfl⟩ := q265
    rw [e_] at X
    show Go p e below _ T (mkF m 459 #[.val (.int xa), .val (.int xb), .val (.int xf), .val (.int (1 : Int32)), .val (.int c0), .val (.int c1), .val (.int c2), .val (.int c3), .val (.ref b198), .val (.ref b205), .val (.ref b212), .val (.ref b217), .val (.ref r), .val (.ref mg), .val (.int (33 : Int32)), .val (.int (46 : Int32)), .val (.int ((((33 : Int32) + (2 : Int32)) + (46 : Int32)) + (41 : Int32))), .val (.int ((126 : Int32) + (4 : Int32))), .unset] [(.int ((own_msg1 [c0, c1] [c2, c3]).getD (129) 0))])
    replace X := X.sub (ws' := []) (by simp)
    refine go_int (z := (116 : Int32)) (own_at1_129 c0 c1 c2 c3) ?_
    refine s_bipush X (pc' := 461) at_459 (v := (116 : Int32)) (by decide) rfl ?_
    refine s_icmpF X (pc' := 464) at_461 (show (116 : Int32) = (116 : Int32) by decide) rfl ?_
    refine s_iconst X (pc' := 465) at_464 (v := (1 : Int32)) rfl rfl ?_
    refine s_goto X (pc' := 469) at_465 (by decide) (by decide) ?_
    refine s_istore X (pc' := 471) (L' := #[.val (.int xa), .val (.int xb), .val (.int xf), .val (.int (1 : Int32)), .val (.int c0), .val (.int c1), .val (.int c2), .val (.int c3), .val (.ref b198), .val (.ref b205), .val (.ref b212), .val (.ref b217), .val (.ref r), .val (.ref mg), .val (.int (33 : Int32)), .val (.int (46 : Int32)), .val (.int ((((33 : Int32) + (2 : Int32)) + (46 : Int32)) + (41 : Int32))), .val (.int ((126 : Int32) + (4 : Int32))), .val (.int (1 : Int32))]) at_469 rfl rfl ?_
    refine s_iload X (pc' := 473) at_471 rfl rfl ?_
    refine s_ifT X (pc' := 478) at_473 (show ¬ (1 : Int32) = (0 : Int32) by decide) (by decide) (by decide) ?_
    refine s_iloadN X (pc' := 479) at_478 rfl rfl ?_
    refine s_ifF X (pc' := 482) at_479 (show ¬ (1 : Int32) = (0 : Int32) by decide) rfl ?_
    refine s_aload X (pc' := 484) at_482 rfl rfl rfl ?_
    refine s_iload X (pc' := 486) at_484 rfl rfl ?_
    refine s_iconst X (pc' := 487) at_486 (v := (2 : Int32)) rfl rfl ?_
    refine s_iadd X (pc' := 488) at_487 rfl ?_
    refine s_bipush X (pc' := 490) at_488 (v := (28 : Int32)) (by decide) rfl ?_
    refine s_iadd X (pc' := 491) at_490 rfl ?_
    refine go_int (z := (63 : Int32)) (by decide) ?_
    refine s_virtual X (pc' := 494) (W := 0) (as' := [(.int (63 : Int32))]) (S := []) (k' := 46) (n' := 7016) at_491 (hw _ (List.mem_of_getElem? (i := 277) rfl)) (hw _ (List.mem_of_getElem? (i := 278) rfl)) (hw _ (List.mem_of_getElem? (i := 280) rfl)) (hw _ (List.mem_of_getElem? (i := 279) rfl)) (nface (hw _ (List.mem_of_getElem? (i := 280) rfl))) (by decide) own_pd28 rfl E_mg (chPay hw hEL O2 P5 O4 rG3 X.old S_mg (fun c hc => (hmg c hc).2) (i := 63) (by rw [own_ml1]; decide) rfl (by decide) (by decide)) (Nat.le_of_ble_eq_true rfl) rfl rfl (by decide) (by decide) (by decide) (by decide) rfl (fun T h266 v_ ws_ X hgr_ q267 => ?_)
    obtain ⟨rfl, e_, rfl⟩ := q267
    rw [e_] at X
    show Go p e below _ T (mkF m 494 #[.val (.int xa), .val (.int xb), .val (.int xf), .val (.int (1 : Int32)), .val (.int c0), .val (.int c1), .val (.int c2), .val (.int c3), .val (.ref b198), .val (.ref b205), .val (.ref b212), .val (.ref b217), .val (.ref r), .val (.ref mg), .val (.int (33 : Int32)), .val (.int (46 : Int32)), .val (.int ((((33 : Int32) + (2 : Int32)) + (46 : Int32)) + (41 : Int32))), .val (.int ((126 : Int32) + (4 : Int32))), .val (.int (1 : Int32))] [(.int ((own_msg1 [c0, c1] [c2, c3]).getD (63) 0))])
    replace X := X.sub (ws' := []) (by simp)
    refine go_int (z := (82 : Int32)) (own_at1_63 c0 c1 c2 c3) ?_
    refine s_bipush X (pc' := 496) at_494 (v := (82 : Int32)) (by decide) rfl ?_
    refine s_icmpF X (pc' := 499) at_496 (show (82 : Int32) = (82 : Int32) by decide) rfl ?_
    refine s_aload X (pc' := 501) at_499 rfl rfl rfl ?_
    refine s_bipush X (pc' := 503) at_501 (v := (7 : Int32)) (by decide) rfl ?_
    refine s_virtual X (pc' := 506) (W := 0) (as' := [(.int (7 : Int32))]) (S := []) (k' := 46) (n' := 7016) at_503 (hw _ (List.mem_of_getElem? (i := 277) rfl)) (hw _ (List.mem_of_getElem? (i := 278) rfl)) (hw _ (List.mem_of_getElem? (i := 280) rfl)) (hw _ (List.mem_of_getElem? (i := 279) rfl)) (nface (hw _ (List.mem_of_getElem? (i := 280) rfl))) (by decide) own_pd28 rfl E_mg (chPay hw hEL O2 P5 O4 rG3 X.old S_mg (fun c hc => (hmg c hc).2) (i := 7) (by rw [own_ml1]; decide) rfl (by decide) (by decide)) (Nat.le_of_ble_eq_true rfl) rfl rfl (by decide) (by decide) (by decide) (by decide) rfl (fun T h268 v_ ws_ X hgr_ q269 => ?_)
    obtain ⟨rfl, e_, rfl⟩ := q269
    rw [e_] at X
    show Go p e below _ T (mkF m 506 #[.val (.int xa), .val (.int xb), .val (.int xf), .val (.int (1 : Int32)), .val (.int c0), .val (.int c1), .val (.int c2), .val (.int c3), .val (.ref b198), .val (.ref b205), .val (.ref b212), .val (.ref b217), .val (.ref r), .val (.ref mg), .val (.int (33 : Int32)), .val (.int (46 : Int32)), .val (.int ((((33 : Int32) + (2 : Int32)) + (46 : Int32)) + (41 : Int32))), .val (.int ((126 : Int32) + (4 : Int32))), .val (.int (1 : Int32))] [(.int ((own_msg1 [c0, c1] [c2, c3]).getD (7) 0))])
    replace X := X.sub (ws' := []) (by simp)
    refine go_int (z := (101 : Int32)) (own_at1_7 c0 c1 c2 c3) ?_
    refine s_bipush X (pc' := 508) at_506 (v := (101 : Int32)) (by decide) rfl ?_
    refine s_icmpF X (pc' := 511) at_508 (show (101 : Int32) = (101 : Int32) by decide) rfl ?_
    refine s_aload X (pc' := 513) at_511 rfl rfl rfl ?_
    refine s_iload X (pc' := 515) at_513 rfl rfl ?_
    refine s_iconst X (pc' := 516) at_515 (v := (2 : Int32)) rfl rfl ?_
    refine s_iadd X (pc' := 517) at_516 rfl ?_
    refine s_bipush X (pc' := 519) at_517 (v := (17 : Int32)) (by decide) rfl ?_
    refine s_iadd X (pc' := 520) at_519 rfl ?_
    refine go_int (z := (52 : Int32)) (by decide) ?_
    refine s_virtual X (pc' := 523) (W := 0) (as' := [(.int (52 : Int32))]) (S := []) (k' := 46) (n' := 7016) at_520 (hw _ (List.mem_of_getElem? (i := 277) rfl)) (hw _ (List.mem_of_getElem? (i := 278) rfl)) (hw _ (List.mem_of_getElem? (i := 280) rfl)) (hw _ (List.mem_of_getElem? (i := 279) rfl)) (nface (hw _ (List.mem_of_getElem? (i := 280) rfl))) (by decide) own_pd28 rfl E_mg (chPay hw hEL O2 P5 O4 rG3 X.old S_mg (fun c hc => (hmg c hc).2) (i := 52) (by rw [own_ml1]; decide) rfl (by decide) (by decide)) (Nat.le_of_ble_eq_true rfl) rfl rfl (by decide) (by decide) (by decide) (by decide) rfl (fun T h270 v_ ws_ X hgr_ q271 => ?_)
    obtain ⟨rfl, e_, rfl⟩ := q271
    rw [e_] at X
    show Go p e below _ T (mkF m 523 #[.val (.int xa), .val (.int xb), .val (.int xf), .val (.int (1 : Int32)), .val (.int c0), .val (.int c1), .val (.int c2), .val (.int c3), .val (.ref b198), .val (.ref b205), .val (.ref b212), .val (.ref b217), .val (.ref r), .val (.ref mg), .val (.int (33 : Int32)), .val (.int (46 : Int32)), .val (.int ((((33 : Int32) + (2 : Int32)) + (46 : Int32)) + (41 : Int32))), .val (.int ((126 : Int32) + (4 : Int32))), .val (.int (1 : Int32))] [(.int ((own_msg1 [c0, c1] [c2, c3]).getD (52) 0))])
    replace X := X.sub (ws' := []) (by simp)
    refine go_int (z := (100 : Int32)) (own_at1_52 c0 c1 c2 c3) ?_
    refine s_bipush X (pc' := 525) at_523 (v := (100 : Int32)) (by decide) rfl ?_
    refine s_icmpF X (pc' := 528) at_525 (show (100 : Int32) = (100 : Int32) by decide) rfl ?_
    refine s_iconst X (pc' := 529) at_528 (v := (1 : Int32)) rfl rfl ?_
    refine s_goto X (pc' := 533) at_529 (by decide) (by decide) ?_
    exact s_iretN X hEL (ws' := []) (t := .boolean) at_533 rfl (by simp) (by decide) (by decide) (fun x q => by simp at q) rfl
set_option maxRecDepth 65536 in
set_option maxHeartbeats 40000000 in
theorem comes_1 {Post' : Tables → Env → Array Value → State → Outcome → State → Prop} (hpost : ∀ tb e args s v u, (limb_1_1.after args s (.returned v) u = true ∧ limb_1_2.after args s (.returned v) u = true ∧ True) → ReturnedEndW s (.returned v) u (Jvm.fieldLocs frame_1_writes args s ++ Jvm.arrayLocs frame_1_arrays args s ++ Jvm.staticLocs frame_1_statics s) 72 14400 → Post' tb e args s (.returned v) u) :
    ArmFor flags0 classFile x code maxLocals ret World_1 tables_1 room_1 Calls_1 rest_1 Pre_1 Post' := by
  intro l hfl _ _ p e ha hc hk s m args below hf hA hF happ hP
  obtain ⟨hcalls, hrest, hpre⟩ := hP
  obtain ⟨-, -, -, hnamed, -, -, -, hat⟩ := (Spec.applies_iff hf).mp happ
  obtain ⟨hg, hnr⟩ := and_e (Cond.before_iff.mp (show (Jvm.Cond.and given_1 narrow_1).before args s = true from hpre))
  obtain ⟨hg0, hg1⟩ := and_e hg
  obtain ⟨ha0, hg2⟩ := and_e hg1
  obtain ⟨ha1, hg3⟩ := and_e hg2
  obtain ⟨w0, w1, w2, rfl⟩ : ∃ w0 w1 w2 : Value, args = #[w0, w1, w2] := by
    have hs : args.size = 3 := by simpa [Cond.value, given_1] using hg0
    obtain ⟨L⟩ := args
    match L, hs with
    | [w0, w1, w2], _ => exact ⟨w0, w1, w2, rfl⟩
  have hw := fun d (hd : d ∈ tables_1) => atoms_spec (ws := Jvm.Cond.code x code maxLocals ret :: tables_1) hat d (List.mem_cons_of_mem _ hd)
  obtain ⟨hsets, hown0⟩ := atoms_of _ (rest_1_c_eq ▸ (show rest_1_c.before _ s = true from hrest))
  have hfit : Fit s := fun {y c} hc i hi => by
    obtain ⟨ha, rfl⟩ := Array.getElem?_eq_some_iff.mp hc
    have q := List.all_eq_true.mp ((Array.all_eq_true_iff_forall_mem.mp hF) _ (Array.getElem_mem ha)) i (List.mem_range.mpr hi)
    simpa [Array.getElem?_eq_getElem hi] using q
  have n5 := not_v (Cond.before_iff.mp (hsets _ (List.mem_of_getElem? (i := 2) rfl)))
  obtain ⟨i0, e0⟩ := is_v ha0
  obtain rfl : w0 = (.int i0) := Option.some.inj e0
  obtain ⟨i1, e1⟩ := is_v ha1
  obtain rfl : w1 = (.int i1) := Option.some.inj e1
  obtain ⟨i2, e2⟩ := is_v hg3
  obtain rfl : w2 = (.int i2) := Option.some.inj e2
  obtain ⟨G1, eG1⟩ := is_v (Cond.before_iff.mp (hsets _ (List.mem_of_getElem? (i := 1) rfl)))
  have O2 : Sta s s.heap "java/lang/String" "COMPACT_STRINGS" "Z" (.int G1) := Sta.start eG1 (Or.inl (hsets _ (List.mem_of_getElem? (i := 0) rfl)))
  have P5 : ¬ (G1 = (0 : Int32)) := gotF (Cond.eq_ints eG1 (Term.int_eval (0))) n5
  obtain ⟨G3, eG3, rG3⟩ := isR_v (Cond.before_iff.mp (hsets _ (List.mem_of_getElem? (i := 8) rfl)))
  have O4 : Sta s s.heap "jdk/internal/util/Preconditions" "SIOOBE_FORMATTER" "Ljava/util/function/BiFunction;" G3 := Sta.start eG3 (Or.inl (hsets _ (List.mem_of_getElem? (i := 7) rfl)))
  have hEL : EW s _ consts_1 := (EW.cons (hw _ (List.mem_of_getElem? (i := 175) rfl)) (by decide) (EW.cons (hw _ (List.mem_of_getElem? (i := 293) rfl)) (by decide) (EW.cons (hw _ (List.mem_of_getElem? (i := 294) rfl)) (by decide) (EW.cons (hw _ (List.mem_of_getElem? (i := 52) rfl)) (by decide) (EW.cons (hw _ (List.mem_of_getElem? (i := 125) rfl)) (by decide) (EW.cons (hw _ (List.mem_of_getElem? (i := 170) rfl)) (by decide) (EW.cons (hw _ (List.mem_of_getElem? (i := 203) rfl)) (by decide) EW.nil)))))))
  have hCH : CHv s consts_1 s.vm s.heap := CHv.start hEL (fun q hq => hcalls.2.2.1 q hq) (hsets _ (List.mem_of_getElem? (i := 2) rfl)) (hw _ (List.mem_of_getElem? (i := 19) rfl)) (hw _ (List.mem_of_getElem? (i := 2) rfl))
  have hlt : l.stackTraces = true := by
    unfold Launch.stackTraces
    rw [hfl]; decide +kernel
  obtain ⟨us, _, eus, -⟩ := Jvm.Free.AList.arrayOf_ref (hsets _ (List.mem_of_getElem? (i := 17) rfl))
  have Us : Sta s s.heap "java/lang/Throwable" "UNASSIGNED_STACK" "[Ljava/lang/StackTraceElement;" (.ref us) := Sta.start eus (Or.inl (hsets _ (List.mem_of_getElem? (i := 15) rfl)))
  obtain ⟨ss, ess⟩ := exa_v (Cond.before_iff.mp (hsets _ (List.mem_of_getElem? (i := 22) rfl)))
  have Ss : Sta s s.heap "java/lang/Throwable" "SUPPRESSED_SENTINEL" "Ljava/util/List;" (.ref ss) := Sta.start ess (Or.inl (hsets _ (List.mem_of_getElem? (i := 20) rfl)))
  obtain ⟨hn1, hnr1⟩ := and_e hnr
  obtain ⟨hn2, hnr2⟩ := and_e hnr1
  obtain ⟨hn3, hn4⟩ := and_e hnr2
  obtain ⟨kd, ekd⟩ := exa_v hn1
  obtain ⟨ki, eki⟩ := exa_v hn2
  have In : Sta s s.heap "com/example/vestwright/vestwright/run/RunRefusedException$Kind" "NO_ELECTIONS" "Lcom/example/vestwright/vestwright/run/RunRefusedException$Kind;" (.ref kd) := Sta.start ekd (Or.inr ⟨(hw _ (List.mem_of_getElem? (i := 168) rfl)), (hw _ (List.mem_of_getElem? (i := 169) rfl))⟩)
  have Ii : Sta s s.heap "com/example/vestwright/vestwright/run/RunRefusedException$Kind" "INPUT" "Lcom/example/vestwright/vestwright/run/RunRefusedException$Kind;" (.ref ki) := Sta.start eki (Or.inr ⟨(hw _ (List.mem_of_getElem? (i := 168) rfl)), (hw _ (List.mem_of_getElem? (i := 269) rfl))⟩)
  have hki : ¬ kd = ki := fun z => by
    have o1 := (fld_at (C := "java/lang/Enum") (n := "ordinal") (dd := "I") ekd).symm.trans (Cond.eq_int (Cond.before_iff.mpr hn3) (Term.int_eval (2)))
    have o2 := (fld_at (C := "java/lang/Enum") (n := "ordinal") (dd := "I") eki).symm.trans (Cond.eq_int (Cond.before_iff.mpr hn4) (Term.int_eval (0)))
    rw [z, o2] at o1
    exact absurd o1 (by decide)
  have C := own_law l s _ hw hEL i0 i1 i2 s.heap (O2 := O2) (P5 := P5) (O4 := O4) (rG3 := rG3) (Us := Us) (Ss := Ss) (hlt := hlt) (In := In) (Ii := Ii) (hki := hki)
  obtain ⟨n, o, h1, h2, h3, v, L, ws', rfl, hv, N, -, -, -, hq⟩ := C tables_1 p e ha hc hk s m _ below hf ((Spec.applies_iff_loose hf).mp happ).1 ⟨rfl, State.Warmed39.refl s, rfl, hCH, (fun q hq => by simp at hq), ext_refl _⟩ (fun _ => own_known hcalls.1 hcalls.2.1 hf)
  obtain rfl : v = some (.int 1) := hv
  exact ⟨n, _, h1, h2, h3, hpost _ _ _ _ _ _ ⟨Cond.after_iff.mpr rfl, Cond.after_iff.mpr (eq_i res_at (Term.int_eval (1)) rfl), trivial⟩ ⟨hq.1, hq.2.1, hq.2.2.1, (hq.2.2.2.sift fun y hy => Or.inr (N y hy)).mono (by decide) (by decide)⟩⟩
theorem main_1_1 : Claimed_1_1 := comes_1 fun _ _ _ _ _ _ h hF => ⟨h.1, hF⟩
theorem main_1_2 : Claimed_1_2 := comes_1 fun _ _ _ _ _ _ h hF => ⟨h.2.1, hF⟩
end Jvm.Pilot.@@N@@
namespace Jvm.Pilot.@@N@@
open Jvm Jvm.ClassFile Sem Op Lib Jvm.Free Jvm.Stand Jvm.Pilot.@@N@@.Jvm.D
/-! MADE BY PROGRAM (witnessworld.py) out of the Statement's table words and the real class files: 45 classes; the members and pool entries that the words name. The judged class is class 1, her method 1. -/
namespace start1
open Jvm.ClassFile
def u (s : String) : CpInfo := .utf8 (stringToUtf16 s)
/-- a pool by its gaps: so many unusable entries, then the entry; so many at the end -/
def gap : Nat → List CpInfo → List CpInfo
  | 0, r => r
  | n + 1, r => .unusable :: gap n r
def poolList (es : List (Nat × CpInfo)) (last : Nat) : List CpInfo := es.foldr (fun e r => gap e.1 (e.2 :: r)) (gap last [])
def pool (es : List (Nat × CpInfo)) (last : Nat) : Array CpInfo := ⟨poolList es last⟩
def fileOf (pool : Array CpInfo) (this : Nat) (attrs : Array Attribute := #[]) (ms : Array MethodInfo := #[]) (fl : Nat := 33) (sup : Nat := 0) (ifs : Array Nat := #[]) (fds : Array FieldInfo := #[]) : ClassFile where
  minorVersion := 0
  majorVersion := 65
  constantPool := pool
  accessFlags := fl
  thisClass := this
  superClass := sup
  interfaces := ifs
  fields := fds
  methods := ms
  attributes := attrs
def plain (name : String) (sup : Option ClassId) : Class where
  name := name
  kind := .ordinary
  loader := none
  accessFlags := 33
  super := sup
  interfaces := #[]
  cf := none
  fields := #[]
  methods := #[]
  instanceTypes := #[]
  staticTypes := #[]
  resolved := #[]
  callSites := []
  init := .initialized
  statics := none
  mirror := none

def pool0 : Array CpInfo := pool [(5, u "<init>"), (0, u "()V"), (1, .class_ 10), (1, u "java/lang/Object")] 113

def k0c0 : Code := { maxStack := 0, maxLocals := 1, code := object_method_1_code, exceptionTable := #[], attributes := #[] }
def k0m0 : Method := { name := "<init>", desc := "()V", sig := { parameters := [], returnType := none }, accessFlags := 1, code := some k0c0 }
/-- java/lang/Object -/
def k0 : Class := { plain "java/lang/Object" none with
  accessFlags := 33
  interfaces := #[]
  cf := some (fileOf pool0 8 #[] #[{ accessFlags := 1, nameIndex := 5, descriptorIndex := 6, attributes := #[] }] 33 0 #[] #[])
  fields := #[]
  methods := #[k0m0]
  instanceTypes := #[]
  staticTypes := #[]
  resolved := Array.replicate 124 none
  statics := none }

def pool1 : Array CpInfo := pool [(2, .class_ 4), (1, u "java/lang/Object"), (0, u "<init>"), (0, u "()V"), (0, .class_ 8), (0, u "java/lang/String"), (0, .methodref 7 10), (0, .nameAndType 5 11), (0, u "([C)V"), (0, .methodref 13 14), (0, .class_ 15), (0, .nameAndType 16 17), (0, u "com/example/vestwright/vestwright/run/RunRefusedException"), (0, u "noElections"), (0, u "(Ljava/lang/String;Ljava/lang/String;Z)Lcom/example/vestwright/vestwright/run/RunRefusedException;"), (0, .methodref 13 19), (0, .nameAndType 20 21), (0, u "kind"), (0, u "()Lcom/example/vestwright/vestwright/run/RunRefusedException$Kind;"), (0, .fieldref 23 24), (0, .class_ 25), (0, .nameAndType 26 27), (0, u "com/example/vestwright/vestwright/run/RunRefusedException$Kind"), (0, u "NO_ELECTIONS"), (0, u "Lcom/example/vestwright/vestwright/run/RunRefusedException$Kind;"), (0, .methodref 13 29), (0, .nameAndType 30 31), (0, u "reason"), (0, u "()Ljava/lang/String;"), (0, .methodref 7 33), (0, .nameAndType 34 35), (0, u "length"), (0, u "()I"), (0, .methodref 7 37), (0, .nameAndType 38 39), (0, u "charAt"), (0, u "(I)C"), (0, .class_ 41), (0, u "com/example/vestwright/vestwright/run/RunRefusedExceptionNoElectionsPinLaw"), (2, u "law"), (0, u "(III)Z")] 7

def k1m0 : Method := { name := "<init>", desc := "()V", sig := { parameters := [], returnType := none }, accessFlags := 2, code := none }
def k1c1 : Code := { maxStack := 3, maxLocals := 19, code := code, exceptionTable := #[], attributes := #[] }
def k1m1 : Method := { name := "law", desc := "(III)Z", sig := { parameters := [.int, .int, .int], returnType := some .boolean }, accessFlags := 9, code := some k1c1 }
/-- com/example/vestwright/vestwright/run/RunRefusedExceptionNoElectionsPinLaw -/
def k1 : Class := { plain "com/example/vestwright/vestwright/run/RunRefusedExceptionNoElectionsPinLaw" (some 0) with
  accessFlags := 49
  interfaces := #[]
  cf := some (fileOf pool1 40 #[] #[{ accessFlags := 2, nameIndex := 5, descriptorIndex := 6, attributes := #[] }, { accessFlags := 9, nameIndex := 44, descriptorIndex := 45, attributes := #[] }] 49 2 #[] #[])
  fields := #[]
  methods := #[k1m0, k1m1]
  instanceTypes := #[]
  staticTypes := #[]
  resolved := Array.replicate 53 none
  statics := none }

def pool2 : Array CpInfo := pool [(1, .class_ 2), (0, u "java/io/Serializable"), (0, .class_ 4), (0, u "java/lang/Object")] 2

/-- java/io/Serializable -/
def k2 : Class := { plain "java/io/Serializable" (some 0) with
  accessFlags := 1537
  interfaces := #[]
  cf := some (fileOf pool2 1 #[] #[] 1537 3 #[] #[])
  fields := #[]
  methods := #[]
  instanceTypes := #[]
  staticTypes := #[]
  resolved := Array.replicate 7 none
  statics := none }

def pool3 : Array CpInfo := pool [(1, .class_ 2), (0, u "java/lang/Comparable"), (0, .class_ 4), (0, u "java/lang/Object")] 7

/-- java/lang/Comparable -/
def k3 : Class := { plain "java/lang/Comparable" (some 0) with
  accessFlags := 1537
  interfaces := #[]
  cf := some (fileOf pool3 1 #[] #[] 1537 3 #[] #[])
  fields := #[]
  methods := #[]
  instanceTypes := #[]
  staticTypes := #[]
  resolved := Array.replicate 12 none
  statics := none }

def pool4 : Array CpInfo := pool [(2, .class_ 4), (1, u "java/lang/CharSequence"), (42, .class_ 48), (0, u "java/lang/CharSequence$1CodePointIterator"), (10, .class_ 60), (0, u "java/lang/CharSequence$1CharIterator"), (5, .class_ 67), (0, u "java/lang/Object")] 63

/-- java/lang/CharSequence -/
def k4 : Class := { plain "java/lang/CharSequence" (some 0) with
  accessFlags := 1537
  interfaces := #[]
  cf := some (fileOf pool4 2 #[.nestMembers #[47, 59]] #[] 1537 66 #[] #[])
  fields := #[]
  methods := #[]
  instanceTypes := #[]
  staticTypes := #[]
  resolved := Array.replicate 131 none
  statics := none }

def pool5 : Array CpInfo := pool [(1, .class_ 2), (0, u "java/lang/constant/Constable"), (0, .class_ 4), (0, u "java/lang/Object")] 6

/-- java/lang/constant/Constable -/
def k5 : Class := { plain "java/lang/constant/Constable" (some 0) with
  accessFlags := 1537
  interfaces := #[]
  cf := some (fileOf pool5 1 #[] #[] 1537 3 #[] #[])
  fields := #[]
  methods := #[]
  instanceTypes := #[]
  staticTypes := #[]
  resolved := Array.replicate 11 none
  statics := none }

def pool6 : Array CpInfo := pool [(1, .class_ 2), (0, u "java/lang/constant/ConstantDesc"), (0, .class_ 4), (0, u "java/lang/Object")] 32

/-- java/lang/constant/ConstantDesc -/
def k6 : Class := { plain "java/lang/constant/ConstantDesc" (some 0) with
  accessFlags := 1537
  interfaces := #[]
  cf := some (fileOf pool6 1 #[] #[] 1537 3 #[] #[])
  fields := #[]
  methods := #[]
  instanceTypes := #[]
  staticTypes := #[]
  resolved := Array.replicate 37 none
  statics := none }

def pool7 : Array CpInfo := pool [(1, .methodref 2 3), (0, .class_ 4), (0, .nameAndType 5 6), (0, u "java/lang/Object"), (0, u "<init>"), (0, u "()V"), (2, .fieldref 10 11), (0, .class_ 12), (0, .nameAndType 13 14), (0, u "java/lang/String"), (0, u "value"), (0, u "[B"), (0, .fieldref 10 16), (0, .nameAndType 17 18), (0, u "coder"), (0, u "B"), (2, u "hash"), (0, u "I"), (2, u "hashIsZero"), (0, u "Z"), (0, .methodref 10 28), (0, .nameAndType 5 29), (0, u "([CIILjava/lang/Void;)V"), (7, u "(III)I"), (0, .fieldref 10 39), (0, .nameAndType 40 26), (0, u "COMPACT_STRINGS"), (1, .class_ 44), (1, u "java/lang/StringUTF16"), (0, u "compress"), (1, .methodref 42 48), (0, .nameAndType 49 50), (0, u "coderFromArrayLen"), (0, u "([BI)B"), (3, .methodref 55 56), (0, .class_ 57), (0, .nameAndType 58 59), (0, u "java/util/Arrays"), (0, u "copyOfRange"), (0, u "([BII)[B"), (19, .class_ 81), (1, u "java/util/Objects"), (25, .class_ 109), (1, u "java/lang/StringLatin1"), (32, u "()Z"), (34, .methodref 42 178), (0, .nameAndType 45 179), (0, u "([CII)[B"), (13, .class_ 195), (1, u "java/lang/System"), (16, .methodref 193 213), (0, .nameAndType 214 215), (0, u "arraycopy"), (0, u "(Ljava/lang/Object;ILjava/lang/Object;II)V"), (118, u "()I"), (0, .methodref 10 336), (0, .nameAndType 17 337), (0, u "()B"), (2, u "()[B"), (22, u "([BI)C"), (27, u "(II)V"), (35, u "(I)C"), (61, .methodref 10 490), (0, .nameAndType 5 491), (0, u "(Ljava/lang/AbstractStringBuilder;Ljava/lang/Void;)V"), (0, .methodref 10 493), (0, .nameAndType 494 142), (0, u "isLatin1"), (0, .methodref 107 496), (0, .nameAndType 497 363), (0, u "charAt"), (3, u "checkIndex"), (3, .methodref 10 506), (0, .nameAndType 507 334), (0, u "length"), (3, .methodref 79 512), (0, .nameAndType 513 37), (0, u "checkFromToIndex"), (2, u "codePointCount"), (15, u "getBytes"), (16, .methodref 550 506), (0, .class_ 551), (0, u "java/lang/AbstractStringBuilder"), (0, .methodref 550 553), (0, .nameAndType 554 340), (0, u "getValue"), (20, .class_ 576), (0, u "java/lang/CharSequence"), (22, u "CASE_INSENSITIVE_ORDER"), (0, u "Ljava/util/Comparator;"), (35, u "(II)I"), (184, u "([BIB)V"), (188, u "([C)V"), (36, .methodref 550 493), (5, .fieldref 1054 1055), (0, .class_ 1056), (0, .nameAndType 1057 1058), (0, u "jdk/internal/util/Preconditions"), (0, u "SIOOBE_FORMATTER"), (0, u "Ljava/util/function/BiFunction;"), (0, .methodref 1054 1060), (0, .nameAndType 501 1061), (0, u "(IILjava/util/function/BiFunction;)I"), (39, u "serialPersistentFields"), (0, u "[Ljava/io/ObjectStreamField;"), (0, .class_ 1104), (0, u "java/lang/String$CaseInsensitiveComparator"), (1, .class_ 1107), (0, u "java/io/Serializable"), (0, .class_ 1109), (0, u "java/lang/Comparable"), (0, .class_ 1111), (0, u "java/lang/constant/Constable"), (0, .class_ 1113), (0, u "java/lang/constant/ConstantDesc"), (2, u "serialVersionUID"), (0, u "J"), (3, u "REPL"), (0, u "C"), (2, u "LATIN1"), (1, u "UTF16"), (105, u "(Ljava/lang/StringBuilder;)V")] 217

def k7m0 : Method := { name := "<init>", desc := "()V", sig := { parameters := [], returnType := none }, accessFlags := 1, code := none }
def k7c1 : Code := { maxStack := 5, maxLocals := 2, code := jdk_42_method_3_code, exceptionTable := #[], attributes := #[] }
def k7m1 : Method := { name := "<init>", desc := "([C)V", sig := { parameters := [(.array .char)], returnType := none }, accessFlags := 1, code := some k7c1 }
def k7c2 : Code := { maxStack := 3, maxLocals := 2, code := jdk_42_method_53_code, exceptionTable := #[], attributes := #[] }
def k7m2 : Method := { name := "<init>", desc := "(Ljava/lang/StringBuilder;)V", sig := { parameters := [(.object "java/lang/StringBuilder")], returnType := none }, accessFlags := 1, code := some k7c2 }
def k7c3 : Code := { maxStack := 2, maxLocals := 1, code := jdk_42_method_54_code, exceptionTable := #[], attributes := #[] }
def k7m3 : Method := { name := "length", desc := "()I", sig := { parameters := [], returnType := some .int }, accessFlags := 1, code := some k7c3 }
def k7c4 : Code := { maxStack := 2, maxLocals := 2, code := jdk_42_method_56_code, exceptionTable := #[], attributes := #[] }
def k7m4 : Method := { name := "charAt", desc := "(I)C", sig := { parameters := [.int], returnType := some .char }, accessFlags := 1, code := some k7c4 }
def k7c5 : Code := { maxStack := 3, maxLocals := 3, code := jdk_42_method_59_code, exceptionTable := #[], attributes := #[] }
def k7m5 : Method := { name := "codePointCount", desc := "(II)I", sig := { parameters := [.int, .int], returnType := some .int }, accessFlags := 1, code := some k7c5 }
def k7c6 : Code := { maxStack := 5, maxLocals := 4, code := jdk_42_method_147_code, exceptionTable := #[], attributes := #[] }
def k7m6 : Method := { name := "getBytes", desc := "([BIB)V", sig := { parameters := [(.array .byte), .int, .byte], returnType := none }, accessFlags := 0, code := some k7c6 }
def k7c7 : Code := { maxStack := 4, maxLocals := 6, code := jdk_42_method_149_code, exceptionTable := #[], attributes := #[] }
def k7m7 : Method := { name := "<init>", desc := "([CIILjava/lang/Void;)V", sig := { parameters := [(.array .char), .int, .int, (.object "java/lang/Void")], returnType := none }, accessFlags := 2, code := some k7c7 }
def k7c8 : Code := { maxStack := 5, maxLocals := 5, code := jdk_42_method_150_code, exceptionTable := #[], attributes := #[] }
def k7m8 : Method := { name := "<init>", desc := "(Ljava/lang/AbstractStringBuilder;Ljava/lang/Void;)V", sig := { parameters := [(.object "java/lang/AbstractStringBuilder"), (.object "java/lang/Void")], returnType := none }, accessFlags := 0, code := some k7c8 }
def k7c9 : Code := { maxStack := 1, maxLocals := 1, code := jdk_42_method_152_code, exceptionTable := #[], attributes := #[] }
def k7m9 : Method := { name := "coder", desc := "()B", sig := { parameters := [], returnType := some .byte }, accessFlags := 0, code := some k7c9 }
def k7c10 : Code := { maxStack := 1, maxLocals := 1, code := jdk_42_method_154_code, exceptionTable := #[], attributes := #[] }
def k7m10 : Method := { name := "isLatin1", desc := "()Z", sig := { parameters := [], returnType := some .boolean }, accessFlags := 0, code := some k7c10 }
def k7c11 : Code := { maxStack := 3, maxLocals := 2, code := jdk_42_method_155_code, exceptionTable := #[], attributes := #[] }
def k7m11 : Method := { name := "checkIndex", desc := "(II)V", sig := { parameters := [.int, .int], returnType := none }, accessFlags := 8, code := some k7c11 }
/-- java/lang/String -/
def k7 : Class := { plain "java/lang/String" (some 0) with
  accessFlags := 49
  interfaces := #[2, 3, 4, 5, 6]
  cf := some (fileOf pool7 10 #[.nestMembers #[1103]] #[{ accessFlags := 1, nameIndex := 5, descriptorIndex := 6, attributes := #[] }, { accessFlags := 1, nameIndex := 5, descriptorIndex := 1010, attributes := #[] }, { accessFlags := 1, nameIndex := 5, descriptorIndex := 1233, attributes := #[] }, { accessFlags := 1, nameIndex := 507, descriptorIndex := 334, attributes := #[] }, { accessFlags := 1, nameIndex := 497, descriptorIndex := 427, attributes := #[] }, { accessFlags := 1, nameIndex := 516, descriptorIndex := 636, attributes := #[] }, { accessFlags := 0, nameIndex := 532, descriptorIndex := 821, attributes := #[] }, { accessFlags := 2, nameIndex := 5, descriptorIndex := 29, attributes := #[] }, { accessFlags := 0, nameIndex := 5, descriptorIndex := 491, attributes := #[] }, { accessFlags := 0, nameIndex := 17, descriptorIndex := 337, attributes := #[] }, { accessFlags := 0, nameIndex := 494, descriptorIndex := 142, attributes := #[] }, { accessFlags := 8, nameIndex := 501, descriptorIndex := 391, attributes := #[] }] 49 2 #[1106, 1108, 575, 1110, 1112] #[{ accessFlags := 18, nameIndex := 13, descriptorIndex := 14, attributes := #[] }, { accessFlags := 18, nameIndex := 17, descriptorIndex := 18, attributes := #[] }, { accessFlags := 2, nameIndex := 21, descriptorIndex := 22, attributes := #[] }, { accessFlags := 2, nameIndex := 25, descriptorIndex := 26, attributes := #[] }, { accessFlags := 26, nameIndex := 1116, descriptorIndex := 1117, attributes := #[] }, { accessFlags := 24, nameIndex := 40, descriptorIndex := 26, attributes := #[] }, { accessFlags := 26, nameIndex := 1101, descriptorIndex := 1102, attributes := #[] }, { accessFlags := 26, nameIndex := 1121, descriptorIndex := 1122, attributes := #[] }, { accessFlags := 25, nameIndex := 599, descriptorIndex := 600, attributes := #[] }, { accessFlags := 24, nameIndex := 1125, descriptorIndex := 18, attributes := #[] }, { accessFlags := 24, nameIndex := 1127, descriptorIndex := 18, attributes := #[] }])
  fields := #[{ name := "value", type := (.array .byte), accessFlags := 18, slot := 0, constantValue := 0 }, { name := "coder", type := .byte, accessFlags := 18, slot := 1, constantValue := 0 }, { name := "hash", type := .int, accessFlags := 2, slot := 2, constantValue := 0 }, { name := "hashIsZero", type := .boolean, accessFlags := 2, slot := 3, constantValue := 0 }, { name := "serialVersionUID", type := .long, accessFlags := 26, slot := 0, constantValue := 0 }, { name := "COMPACT_STRINGS", type := .boolean, accessFlags := 24, slot := 1, constantValue := 0 }, { name := "serialPersistentFields", type := (.array (.object "java/io/ObjectStreamField")), accessFlags := 26, slot := 2, constantValue := 0 }, { name := "REPL", type := .char, accessFlags := 26, slot := 3, constantValue := 0 }, { name := "CASE_INSENSITIVE_ORDER", type := (.object "java/util/Comparator"), accessFlags := 25, slot := 4, constantValue := 0 }, { name := "LATIN1", type := .byte, accessFlags := 24, slot := 5, constantValue := 0 }, { name := "UTF16", type := .byte, accessFlags := 24, slot := 6, constantValue := 0 }]
  methods := #[k7m0, k7m1, k7m2, k7m3, k7m4, k7m5, k7m6, k7m7, k7m8, k7m9, k7m10, k7m11]
  instanceTypes := #[(.array .byte), .byte, .int, .boolean]
  staticTypes := #[.long, .boolean, (.array (.object "java/io/ObjectStreamField")), .char, (.object "java/util/Comparator"), .byte, .byte]
  resolved := Array.replicate 1451 none
  statics := some 0 }

def pool8 : Array CpInfo := pool [(6, .class_ 8), (1, u "java/lang/Object"), (0, u "<init>"), (0, u "()V"), (1, .class_ 14), (1, u "java/lang/StringUTF16"), (31, u "$assertionsDisabled"), (0, u "Z"), (13, u "HI_BYTE_SHIFT"), (0, u "I"), (2, u "LO_BYTE_SHIFT"), (49, .methodref 12 116), (0, .nameAndType 117 118), (0, u "compress"), (0, u "([CI[BII)I"), (3, u "([CII)[B"), (138, u "coderFromArrayLen"), (0, u "([BI)B"), (106, .class_ 371), (1, u "java/lang/StringUTF16$LinesSpliterator"), (58, u "MAX_LENGTH"), (196, .class_ 628), (0, u "java/lang/StringUTF16$CodePointsSpliterator"), (0, .class_ 630), (0, u "java/lang/StringUTF16$CharsSpliterator")] 4

def k8m0 : Method := { name := "<init>", desc := "()V", sig := { parameters := [], returnType := none }, accessFlags := 0, code := none }
def k8c1 : Code := { maxStack := 2, maxLocals := 2, code := jdk_52_method_15_code, exceptionTable := #[], attributes := #[] }
def k8m1 : Method := { name := "coderFromArrayLen", desc := "([BI)B", sig := { parameters := [(.array .byte), .int], returnType := some .byte }, accessFlags := 8, code := some k8c1 }
def k8c2 : Code := { maxStack := 5, maxLocals := 6, code := jdk_52_method_16_code, exceptionTable := #[], attributes := #[] }
def k8m2 : Method := { name := "compress", desc := "([CII)[B", sig := { parameters := [(.array .char), .int, .int], returnType := some (.array .byte) }, accessFlags := 9, code := some k8c2 }
def k8c3 : Code := { maxStack := 3, maxLocals := 7, code := jdk_52_method_21_code, exceptionTable := #[], attributes := #[] }
def k8m3 : Method := { name := "compress", desc := "([CI[BII)I", sig := { parameters := [(.array .char), .int, (.array .byte), .int, .int], returnType := some .int }, accessFlags := 9, code := some k8c3 }
/-- java/lang/StringUTF16 -/
def k8 : Class := { plain "java/lang/StringUTF16" (some 0) with
  accessFlags := 48
  interfaces := #[]
  cf := some (fileOf pool8 12 #[.nestMembers #[627, 629, 369]] #[{ accessFlags := 0, nameIndex := 9, descriptorIndex := 10, attributes := #[] }, { accessFlags := 8, nameIndex := 261, descriptorIndex := 262, attributes := #[] }, { accessFlags := 9, nameIndex := 117, descriptorIndex := 122, attributes := #[] }, { accessFlags := 9, nameIndex := 117, descriptorIndex := 118, attributes := #[] }] 48 6 #[] #[{ accessFlags := 26, nameIndex := 61, descriptorIndex := 62, attributes := #[] }, { accessFlags := 26, nameIndex := 65, descriptorIndex := 62, attributes := #[] }, { accessFlags := 24, nameIndex := 430, descriptorIndex := 62, attributes := #[] }, { accessFlags := 4120, nameIndex := 46, descriptorIndex := 47, attributes := #[] }])
  fields := #[{ name := "HI_BYTE_SHIFT", type := .int, accessFlags := 26, slot := 0, constantValue := 0 }, { name := "LO_BYTE_SHIFT", type := .int, accessFlags := 26, slot := 1, constantValue := 0 }, { name := "MAX_LENGTH", type := .int, accessFlags := 24, slot := 2, constantValue := 0 }, { name := "$assertionsDisabled", type := .boolean, accessFlags := 4120, slot := 3, constantValue := 0 }]
  methods := #[k8m0, k8m1, k8m2, k8m3]
  instanceTypes := #[]
  staticTypes := #[.int, .int, .int, .boolean]
  resolved := Array.replicate 635 none
  statics := none }

def pool9 : Array CpInfo := pool [(1, .methodref 2 3), (0, .class_ 4), (0, .nameAndType 5 6), (0, u "java/lang/Object"), (0, u "<init>"), (0, u "()V"), (0, .fieldref 8 9), (0, .class_ 10), (0, .nameAndType 11 12), (0, u "java/lang/Throwable"), (0, u "cause"), (0, u "Ljava/lang/Throwable;"), (0, .fieldref 8 14), (0, .nameAndType 15 16), (0, u "UNASSIGNED_STACK"), (0, u "[Ljava/lang/StackTraceElement;"), (0, .fieldref 8 18), (0, .nameAndType 19 16), (0, u "stackTrace"), (0, .fieldref 8 21), (0, .nameAndType 22 23), (0, u "SUPPRESSED_SENTINEL"), (0, u "Ljava/util/List;"), (0, .fieldref 8 25), (0, .nameAndType 26 23), (0, u "suppressedExceptions"), (0, .methodref 8 28), (0, .nameAndType 29 30), (0, u "fillInStackTrace"), (0, u "()Ljava/lang/Throwable;"), (0, .fieldref 8 32), (0, .nameAndType 33 34), (0, u "detailMessage"), (0, u "Ljava/lang/String;"), (3, u "()Ljava/lang/String;"), (2, u "getMessage"), (21, u "(Ljava/lang/String;Ljava/lang/Throwable;)V"), (29, .class_ 94), (0, u "java/lang/Throwable$WrappedPrintStream"), (6, .class_ 103), (1, u "java/lang/Throwable$PrintStreamOrWriter"), (61, u "$assertionsDisabled"), (0, u "Z"), (26, .class_ 194), (0, u "java/lang/Throwable$WrappedPrintWriter"), (3, .fieldref 8 199), (0, .nameAndType 200 201), (0, u "backtrace"), (0, u "Ljava/lang/Object;"), (0, .methodref 8 203), (0, .nameAndType 29 204), (0, u "(I)Ljava/lang/Throwable;"), (6, u "depth"), (0, u "I"), (56, .class_ 271), (1, u "java/lang/Throwable$SentinelHolder"), (32, u "EMPTY_THROWABLE_ARRAY"), (0, u "[Ljava/lang/Throwable;"), (12, .class_ 319), (0, u "java/io/Serializable"), (0, u "serialVersionUID"), (0, u "J"), (5, u "NULL_CAUSE_MESSAGE"), (0, u "SELF_SUPPRESSION_MESSAGE"), (0, u "CAUSE_CAPTION"), (0, u "SUPPRESSED_CAPTION")] 73

def k9c0 : Code := { maxStack := 2, maxLocals := 1, code := jdk_78_method_1_code, exceptionTable := #[], attributes := #[] }
def k9m0 : Method := { name := "<init>", desc := "()V", sig := { parameters := [], returnType := none }, accessFlags := 1, code := some k9c0 }
def k9c1 : Code := { maxStack := 2, maxLocals := 3, code := jdk_78_method_3_code, exceptionTable := #[], attributes := #[] }
def k9m1 : Method := { name := "<init>", desc := "(Ljava/lang/String;Ljava/lang/Throwable;)V", sig := { parameters := [(.object "java/lang/String"), (.object "java/lang/Throwable")], returnType := none }, accessFlags := 1, code := some k9c1 }
def k9c2 : Code := { maxStack := 1, maxLocals := 1, code := jdk_78_method_6_code, exceptionTable := #[], attributes := #[] }
def k9m2 : Method := { name := "getMessage", desc := "()Ljava/lang/String;", sig := { parameters := [], returnType := some (.object "java/lang/String") }, accessFlags := 1, code := some k9c2 }
def k9c3 : Code := { maxStack := 2, maxLocals := 1, code := ⟨#[0x2a, 0xb4, 0x00, 0x11, 0xc7, 0x00, 0x0a, 0x2a, 0xb4, 0x00, 0xc6, 0xc6, 0x00, 0x10, 0x2a, 0x03, 0xb6, 0x00, 0xca, 0x57, 0x2a, 0xb2, 0x00, 0x0d, 0xb5, 0x00, 0x11, 0x2a, 0xb0]⟩, exceptionTable := #[], attributes := #[] }
def k9m3 : Method := { name := "fillInStackTrace", desc := "()Ljava/lang/Throwable;", sig := { parameters := [], returnType := some (.object "java/lang/Throwable") }, accessFlags := 33, code := some k9c3 }
def k9m4 : Method := { name := "fillInStackTrace", desc := "(I)Ljava/lang/Throwable;", sig := { parameters := [.int], returnType := some (.object "java/lang/Throwable") }, accessFlags := 258, code := none }
/-- java/lang/Throwable -/
def k9 : Class := { plain "java/lang/Throwable" (some 0) with
  accessFlags := 33
  interfaces := #[2]
  cf := some (fileOf pool9 8 #[.nestMembers #[193, 93, 101, 269]] #[{ accessFlags := 1, nameIndex := 5, descriptorIndex := 6, attributes := #[] }, { accessFlags := 1, nameIndex := 5, descriptorIndex := 63, attributes := #[] }, { accessFlags := 1, nameIndex := 41, descriptorIndex := 38, attributes := #[] }, { accessFlags := 33, nameIndex := 29, descriptorIndex := 30, attributes := #[] }, { accessFlags := 258, nameIndex := 29, descriptorIndex := 204, attributes := #[] }] 33 2 #[318] #[{ accessFlags := 26, nameIndex := 320, descriptorIndex := 321, attributes := #[] }, { accessFlags := 130, nameIndex := 200, descriptorIndex := 201, attributes := #[] }, { accessFlags := 2, nameIndex := 33, descriptorIndex := 34, attributes := #[] }, { accessFlags := 26, nameIndex := 15, descriptorIndex := 16, attributes := #[] }, { accessFlags := 2, nameIndex := 11, descriptorIndex := 12, attributes := #[] }, { accessFlags := 2, nameIndex := 19, descriptorIndex := 16, attributes := #[] }, { accessFlags := 130, nameIndex := 211, descriptorIndex := 212, attributes := #[] }, { accessFlags := 26, nameIndex := 22, descriptorIndex := 23, attributes := #[] }, { accessFlags := 2, nameIndex := 26, descriptorIndex := 23, attributes := #[] }, { accessFlags := 26, nameIndex := 327, descriptorIndex := 34, attributes := #[] }, { accessFlags := 26, nameIndex := 328, descriptorIndex := 34, attributes := #[] }, { accessFlags := 26, nameIndex := 329, descriptorIndex := 34, attributes := #[] }, { accessFlags := 26, nameIndex := 330, descriptorIndex := 34, attributes := #[] }, { accessFlags := 26, nameIndex := 304, descriptorIndex := 305, attributes := #[] }, { accessFlags := 4120, nameIndex := 165, descriptorIndex := 166, attributes := #[] }])
  fields := #[{ name := "serialVersionUID", type := .long, accessFlags := 26, slot := 0, constantValue := 0 }, { name := "backtrace", type := (.object "java/lang/Object"), accessFlags := 130, slot := 0, constantValue := 0 }, { name := "detailMessage", type := (.object "java/lang/String"), accessFlags := 2, slot := 1, constantValue := 0 }, { name := "UNASSIGNED_STACK", type := (.array (.object "java/lang/StackTraceElement")), accessFlags := 26, slot := 1, constantValue := 0 }, { name := "cause", type := (.object "java/lang/Throwable"), accessFlags := 2, slot := 2, constantValue := 0 }, { name := "stackTrace", type := (.array (.object "java/lang/StackTraceElement")), accessFlags := 2, slot := 3, constantValue := 0 }, { name := "depth", type := .int, accessFlags := 130, slot := 4, constantValue := 0 }, { name := "SUPPRESSED_SENTINEL", type := (.object "java/util/List"), accessFlags := 26, slot := 2, constantValue := 0 }, { name := "suppressedExceptions", type := (.object "java/util/List"), accessFlags := 2, slot := 5, constantValue := 0 }, { name := "NULL_CAUSE_MESSAGE", type := (.object "java/lang/String"), accessFlags := 26, slot := 3, constantValue := 0 }, { name := "SELF_SUPPRESSION_MESSAGE", type := (.object "java/lang/String"), accessFlags := 26, slot := 4, constantValue := 0 }, { name := "CAUSE_CAPTION", type := (.object "java/lang/String"), accessFlags := 26, slot := 5, constantValue := 0 }, { name := "SUPPRESSED_CAPTION", type := (.object "java/lang/String"), accessFlags := 26, slot := 6, constantValue := 0 }, { name := "EMPTY_THROWABLE_ARRAY", type := (.array (.object "java/lang/Throwable")), accessFlags := 26, slot := 7, constantValue := 0 }, { name := "$assertionsDisabled", type := .boolean, accessFlags := 4120, slot := 8, constantValue := 0 }]
  methods := #[k9m0, k9m1, k9m2, k9m3, k9m4]
  instanceTypes := #[(.object "java/lang/Object"), (.object "java/lang/String"), (.object "java/lang/Throwable"), (.array (.object "java/lang/StackTraceElement")), .int, (.object "java/util/List")]
  staticTypes := #[.long, (.array (.object "java/lang/StackTraceElement")), (.object "java/util/List"), (.object "java/lang/String"), (.object "java/lang/String"), (.object "java/lang/String"), (.object "java/lang/String"), (.array (.object "java/lang/Throwable")), .boolean]
  resolved := Array.replicate 404 none
  statics := some 1 }

def pool10 : Array CpInfo := pool [(2, .class_ 4), (1, u "java/lang/Throwable"), (0, u "<init>"), (0, u "()V"), (3, .methodref 2 11), (0, .nameAndType 5 12), (0, u "(Ljava/lang/String;Ljava/lang/Throwable;)V"), (6, .class_ 20), (0, u "java/lang/Exception"), (0, u "serialVersionUID"), (0, u "J")] 17

def k10m0 : Method := { name := "<init>", desc := "()V", sig := { parameters := [], returnType := none }, accessFlags := 1, code := none }
def k10c1 : Code := { maxStack := 3, maxLocals := 3, code := jdk_59_method_3_code, exceptionTable := #[], attributes := #[] }
def k10m1 : Method := { name := "<init>", desc := "(Ljava/lang/String;Ljava/lang/Throwable;)V", sig := { parameters := [(.object "java/lang/String"), (.object "java/lang/Throwable")], returnType := none }, accessFlags := 1, code := some k10c1 }
/-- java/lang/Exception -/
def k10 : Class := { plain "java/lang/Exception" (some 9) with
  accessFlags := 33
  interfaces := #[]
  cf := some (fileOf pool10 19 #[] #[{ accessFlags := 1, nameIndex := 5, descriptorIndex := 6, attributes := #[] }, { accessFlags := 1, nameIndex := 5, descriptorIndex := 12, attributes := #[] }] 33 2 #[] #[{ accessFlags := 24, nameIndex := 21, descriptorIndex := 22, attributes := #[] }])
  fields := #[{ name := "serialVersionUID", type := .long, accessFlags := 24, slot := 0, constantValue := 0 }]
  methods := #[k10m0, k10m1]
  instanceTypes := #[(.object "java/lang/Object"), (.object "java/lang/String"), (.object "java/lang/Throwable"), (.array (.object "java/lang/StackTraceElement")), .int, (.object "java/util/List")]
  staticTypes := #[.long]
  resolved := Array.replicate 40 none
  statics := none }

def pool11 : Array CpInfo := pool [(1, .methodref 2 3), (0, .class_ 4), (0, .nameAndType 5 6), (0, u "java/lang/Exception"), (0, u "<init>"), (0, u "(Ljava/lang/String;Ljava/lang/Throwable;)V"), (0, .fieldref 8 9), (0, .class_ 10), (0, .nameAndType 11 12), (0, u "com/example/vestwright/vestwright/run/RunRefusedException"), (0, u "kind"), (0, u "Lcom/example/vestwright/vestwright/run/RunRefusedException$Kind;"), (0, .fieldref 14 15), (0, .class_ 16), (0, .nameAndType 17 12), (0, u "com/example/vestwright/vestwright/run/RunRefusedException$Kind"), (0, u "INPUT"), (2, .nameAndType 22 23), (1, u "getMessage"), (0, u "()Ljava/lang/String;"), (0, .methodref 8 25), (0, .nameAndType 5 26), (0, u "(Lcom/example/vestwright/vestwright/run/RunRefusedException$Kind;Ljava/lang/String;Ljava/lang/Exception;)V"), (3, .class_ 31), (0, u "java/lang/StringBuilder"), (0, .methodref 30 33), (0, .nameAndType 5 34), (0, u "()V"), (3, .methodref 30 39), (0, .nameAndType 40 41), (0, u "append"), (0, u "(Ljava/lang/String;)Ljava/lang/StringBuilder;"), (2, .methodref 30 45), (0, .nameAndType 46 23), (0, u "toString"), (0, .string 48), (0, u "--roth-elections is missing, and "), (0, .string 50), (0, u " has a source of designated Roth contributions"), (0, .string 52), (0, u "--elections is missing, and "), (0, .string 54), (0, u " has a source"), (0, .fieldref 14 56), (0, .nameAndType 57 12), (0, u "NO_ELECTIONS"), (0, .string 59), (0, u " whose percentage employees of the class "), (0, .methodref 61 62), (0, .class_ 63), (0, .nameAndType 64 65), (0, u "com/example/vestwright/vestwright/Quote"), (0, u "name"), (0, u "(Ljava/lang/String;)Ljava/lang/String;"), (0, .string 67), (0, u " elect"), (27, u "reason"), (0, .methodref 8 20), (4, u "serialVersionUID"), (0, u "J"), (3, u "FIGURES_HINT"), (0, u "Ljava/lang/String;"), (4, u "noElections"), (0, u "(Ljava/lang/String;Ljava/lang/String;Z)Lcom/example/vestwright/vestwright/run/RunRefusedException;"), (3, u "()Lcom/example/vestwright/vestwright/run/RunRefusedException$Kind;")] 7

def k11c0 : Code := { maxStack := 3, maxLocals := 4, code := prog_47_method_1_code, exceptionTable := #[], attributes := #[] }
def k11m0 : Method := { name := "<init>", desc := "(Lcom/example/vestwright/vestwright/run/RunRefusedException$Kind;Ljava/lang/String;Ljava/lang/Exception;)V", sig := { parameters := [(.object "com/example/vestwright/vestwright/run/RunRefusedException$Kind"), (.object "java/lang/String"), (.object "java/lang/Exception")], returnType := none }, accessFlags := 2, code := some k11c0 }
def k11c1 : Code := { maxStack := 5, maxLocals := 4, code := prog_47_method_4_code, exceptionTable := #[], attributes := #[] }
def k11m1 : Method := { name := "noElections", desc := "(Ljava/lang/String;Ljava/lang/String;Z)Lcom/example/vestwright/vestwright/run/RunRefusedException;", sig := { parameters := [(.object "java/lang/String"), (.object "java/lang/String"), .boolean], returnType := some (.object "com/example/vestwright/vestwright/run/RunRefusedException") }, accessFlags := 8, code := some k11c1 }
def k11c2 : Code := { maxStack := 1, maxLocals := 1, code := prog_47_method_5_code, exceptionTable := #[], attributes := #[] }
def k11m2 : Method := { name := "kind", desc := "()Lcom/example/vestwright/vestwright/run/RunRefusedException$Kind;", sig := { parameters := [], returnType := some (.object "com/example/vestwright/vestwright/run/RunRefusedException$Kind") }, accessFlags := 1, code := some k11c2 }
def k11c3 : Code := { maxStack := 2, maxLocals := 1, code := prog_47_method_8_code, exceptionTable := #[], attributes := #[] }
def k11m3 : Method := { name := "reason", desc := "()Ljava/lang/String;", sig := { parameters := [], returnType := some (.object "java/lang/String") }, accessFlags := 1, code := some k11c3 }
/-- com/example/vestwright/vestwright/run/RunRefusedException -/
def k11 : Class := { plain "com/example/vestwright/vestwright/run/RunRefusedException" (some 10) with
  accessFlags := 49
  interfaces := #[]
  cf := some (fileOf pool11 8 #[.nestMembers #[14]] #[{ accessFlags := 2, nameIndex := 5, descriptorIndex := 26, attributes := #[] }, { accessFlags := 8, nameIndex := 112, descriptorIndex := 113, attributes := #[] }, { accessFlags := 1, nameIndex := 11, descriptorIndex := 117, attributes := #[] }, { accessFlags := 1, nameIndex := 95, descriptorIndex := 23, attributes := #[] }] 49 2 #[] #[{ accessFlags := 26, nameIndex := 101, descriptorIndex := 102, attributes := #[] }, { accessFlags := 26, nameIndex := 106, descriptorIndex := 107, attributes := #[] }, { accessFlags := 18, nameIndex := 11, descriptorIndex := 12, attributes := #[] }])
  fields := #[{ name := "serialVersionUID", type := .long, accessFlags := 26, slot := 0, constantValue := 0 }, { name := "FIGURES_HINT", type := (.object "java/lang/String"), accessFlags := 26, slot := 1, constantValue := 0 }, { name := "kind", type := (.object "com/example/vestwright/vestwright/run/RunRefusedException$Kind"), accessFlags := 18, slot := 6, constantValue := 0 }]
  methods := #[k11m0, k11m1, k11m2, k11m3]
  instanceTypes := #[(.object "java/lang/Object"), (.object "java/lang/String"), (.object "java/lang/Throwable"), (.array (.object "java/lang/StackTraceElement")), .int, (.object "java/util/List"), (.object "com/example/vestwright/vestwright/run/RunRefusedException$Kind")]
  staticTypes := #[.long, (.object "java/lang/String")]
  resolved := Array.replicate 125 none
  statics := none }

def pool12 : Array CpInfo := pool [(1, .class_ 2), (0, u "java/lang/Appendable"), (0, .class_ 4), (0, u "java/lang/Object")] 9

/-- java/lang/Appendable -/
def k12 : Class := { plain "java/lang/Appendable" (some 0) with
  accessFlags := 1537
  interfaces := #[]
  cf := some (fileOf pool12 1 #[] #[] 1537 3 #[] #[])
  fields := #[]
  methods := #[]
  instanceTypes := #[]
  staticTypes := #[]
  resolved := Array.replicate 14 none
  statics := none }

def pool13 : Array CpInfo := pool [(1, .class_ 2), (0, u "java/lang/String"), (0, .methodref 4 5), (0, .class_ 6), (0, .nameAndType 7 8), (0, u "java/lang/Object"), (0, u "<init>"), (0, u "()V"), (1, .class_ 12), (1, u "java/lang/AbstractStringBuilder"), (0, u "EMPTYVALUE"), (0, u "[B"), (0, .fieldref 10 16), (0, .nameAndType 17 14), (0, u "value"), (0, .fieldref 1 19), (0, .nameAndType 20 21), (0, u "COMPACT_STRINGS"), (0, u "Z"), (0, .fieldref 10 23), (0, .nameAndType 24 25), (0, u "coder"), (0, u "B"), (6, .methodref 1 33), (0, .nameAndType 34 35), (0, u "length"), (0, u "()I"), (3, .integer 2147483647), (0, .methodref 1 41), (0, .nameAndType 24 42), (0, u "()B"), (2, u "append"), (0, u "(Ljava/lang/String;)Ljava/lang/AbstractStringBuilder;"), (1, .class_ 49), (0, u "java/lang/CharSequence"), (19, u "(Ljava/lang/String;)V"), (5, u "maybeLatin1"), (3, .fieldref 10 80), (0, .nameAndType 81 82), (0, u "count"), (0, u "I"), (2, u "isLatin1"), (0, u "()Z"), (13, .methodref 10 101), (0, .nameAndType 102 103), (0, u "ensureCapacityInternal"), (0, u "(I)V"), (0, .methodref 10 105), (0, .nameAndType 106 107), (0, u "newCapacity"), (0, u "(I)I"), (0, .methodref 109 110), (0, .class_ 111), (0, .nameAndType 112 113), (0, u "java/util/Arrays"), (0, u "copyOf"), (0, u "([BI)[B"), (0, .methodref 115 116), (0, .class_ 117), (0, .nameAndType 118 119), (0, u "jdk/internal/util/ArraysSupport"), (0, u "newLength"), (0, u "(III)I"), (88, .methodref 10 209), (0, .nameAndType 210 211), (0, u "putStringAt"), (0, u "(ILjava/lang/String;)V"), (5, u "inflateIfNeededFor"), (2, .nameAndType 221 222), (0, u "getBytes"), (0, u "([BIB)V"), (174, .methodref 10 398), (0, .nameAndType 217 69), (0, .methodref 1 220), (3, u "()[B"), (40, .class_ 445), (0, u "java/lang/Appendable"), (106, u "getValue")] 56

def k13m0 : Method := { name := "<init>", desc := "()V", sig := { parameters := [], returnType := none }, accessFlags := 0, code := none }
def k13c1 : Code := { maxStack := 2, maxLocals := 2, code := jdk_68_method_2_code, exceptionTable := #[], attributes := #[] }
def k13m1 : Method := { name := "<init>", desc := "(I)V", sig := { parameters := [.int], returnType := none }, accessFlags := 0, code := some k13c1 }
def k13c2 : Code := { maxStack := 1, maxLocals := 1, code := jdk_68_method_6_code, exceptionTable := #[], attributes := #[] }
def k13m2 : Method := { name := "length", desc := "()I", sig := { parameters := [], returnType := some .int }, accessFlags := 1, code := some k13c2 }
def k13c3 : Code := { maxStack := 4, maxLocals := 3, code := jdk_68_method_9_code, exceptionTable := #[], attributes := #[] }
def k13m3 : Method := { name := "ensureCapacityInternal", desc := "(I)V", sig := { parameters := [.int], returnType := none }, accessFlags := 2, code := some k13c3 }
def k13c4 : Code := { maxStack := 5, maxLocals := 6, code := jdk_68_method_10_code, exceptionTable := #[], attributes := #[] }
def k13m4 : Method := { name := "newCapacity", desc := "(I)I", sig := { parameters := [.int], returnType := some .int }, accessFlags := 2, code := some k13c4 }
def k13c5 : Code := { maxStack := 3, maxLocals := 3, code := jdk_68_method_22_code, exceptionTable := #[], attributes := #[] }
def k13m5 : Method := { name := "append", desc := "(Ljava/lang/String;)Ljava/lang/AbstractStringBuilder;", sig := { parameters := [(.object "java/lang/String")], returnType := some (.object "java/lang/AbstractStringBuilder") }, accessFlags := 1, code := some k13c5 }
def k13c6 : Code := { maxStack := 1, maxLocals := 1, code := jdk_68_method_64_code, exceptionTable := #[], attributes := #[] }
def k13m6 : Method := { name := "getValue", desc := "()[B", sig := { parameters := [], returnType := some (.array .byte) }, accessFlags := 16, code := some k13c6 }
def k13c7 : Code := { maxStack := 1, maxLocals := 1, code := jdk_68_method_68_code, exceptionTable := #[], attributes := #[] }
def k13m7 : Method := { name := "isLatin1", desc := "()Z", sig := { parameters := [], returnType := some .boolean }, accessFlags := 16, code := some k13c7 }
def k13c8 : Code := { maxStack := 2, maxLocals := 2, code := jdk_68_method_71_code, exceptionTable := #[], attributes := #[] }
def k13m8 : Method := { name := "inflateIfNeededFor", desc := "(Ljava/lang/String;)V", sig := { parameters := [(.object "java/lang/String")], returnType := none }, accessFlags := 2, code := some k13c8 }
def k13c9 : Code := { maxStack := 4, maxLocals := 3, code := jdk_68_method_73_code, exceptionTable := #[], attributes := #[] }
def k13m9 : Method := { name := "putStringAt", desc := "(ILjava/lang/String;)V", sig := { parameters := [.int, (.object "java/lang/String")], returnType := none }, accessFlags := 2, code := some k13c9 }
/-- java/lang/AbstractStringBuilder -/
def k13 : Class := { plain "java/lang/AbstractStringBuilder" (some 0) with
  accessFlags := 1056
  interfaces := #[12, 4]
  cf := some (fileOf pool13 10 #[] #[{ accessFlags := 0, nameIndex := 7, descriptorIndex := 8, attributes := #[] }, { accessFlags := 0, nameIndex := 7, descriptorIndex := 103, attributes := #[] }, { accessFlags := 1, nameIndex := 34, descriptorIndex := 35, attributes := #[] }, { accessFlags := 2, nameIndex := 102, descriptorIndex := 103, attributes := #[] }, { accessFlags := 2, nameIndex := 106, descriptorIndex := 107, attributes := #[] }, { accessFlags := 1, nameIndex := 45, descriptorIndex := 46, attributes := #[] }, { accessFlags := 16, nameIndex := 552, descriptorIndex := 403, attributes := #[] }, { accessFlags := 16, nameIndex := 85, descriptorIndex := 86, attributes := #[] }, { accessFlags := 2, nameIndex := 217, descriptorIndex := 69, attributes := #[] }, { accessFlags := 2, nameIndex := 210, descriptorIndex := 211, attributes := #[] }] 1056 4 #[444, 48] #[{ accessFlags := 0, nameIndex := 17, descriptorIndex := 14, attributes := #[] }, { accessFlags := 0, nameIndex := 24, descriptorIndex := 25, attributes := #[] }, { accessFlags := 0, nameIndex := 75, descriptorIndex := 21, attributes := #[] }, { accessFlags := 0, nameIndex := 81, descriptorIndex := 82, attributes := #[] }, { accessFlags := 26, nameIndex := 13, descriptorIndex := 14, attributes := #[] }])
  fields := #[{ name := "value", type := (.array .byte), accessFlags := 0, slot := 0, constantValue := 0 }, { name := "coder", type := .byte, accessFlags := 0, slot := 1, constantValue := 0 }, { name := "maybeLatin1", type := .boolean, accessFlags := 0, slot := 2, constantValue := 0 }, { name := "count", type := .int, accessFlags := 0, slot := 3, constantValue := 0 }, { name := "EMPTYVALUE", type := (.array .byte), accessFlags := 26, slot := 0, constantValue := 0 }]
  methods := #[k13m0, k13m1, k13m2, k13m3, k13m4, k13m5, k13m6, k13m7, k13m8, k13m9]
  instanceTypes := #[(.array .byte), .byte, .boolean, .int]
  staticTypes := #[(.array .byte)]
  resolved := Array.replicate 609 none
  statics := none }

def pool14 : Array CpInfo := pool [(1, .methodref 2 3), (0, .class_ 4), (0, .nameAndType 5 6), (0, u "java/lang/AbstractStringBuilder"), (0, u "<init>"), (0, u "(I)V"), (11, .class_ 20), (1, u "java/lang/String"), (3, .class_ 26), (1, u "java/lang/StringBuilder"), (0, u "append"), (0, u "(Ljava/lang/String;)Ljava/lang/StringBuilder;"), (0, .methodref 2 30), (0, .nameAndType 27 31), (0, u "(Ljava/lang/String;)Ljava/lang/AbstractStringBuilder;"), (105, .methodref 18 138), (0, .nameAndType 5 139), (0, u "(Ljava/lang/StringBuilder;)V"), (5, u "()V"), (10, u "()I"), (186, .methodref 2 344), (0, .nameAndType 345 156), (0, u "length"), (3, .class_ 350), (0, u "java/lang/Appendable"), (0, .class_ 352), (0, u "java/io/Serializable"), (0, .class_ 354), (0, u "java/lang/Comparable"), (0, .class_ 356), (0, u "java/lang/CharSequence"), (0, u "serialVersionUID"), (0, u "J"), (40, u "toString"), (0, u "()Ljava/lang/String;")] 21

def k14c0 : Code := { maxStack := 2, maxLocals := 1, code := jdk_67_method_1_code, exceptionTable := #[], attributes := #[] }
def k14m0 : Method := { name := "<init>", desc := "()V", sig := { parameters := [], returnType := none }, accessFlags := 1, code := some k14c0 }
def k14c1 : Code := { maxStack := 2, maxLocals := 2, code := jdk_67_method_7_code, exceptionTable := #[], attributes := #[] }
def k14m1 : Method := { name := "append", desc := "(Ljava/lang/String;)Ljava/lang/StringBuilder;", sig := { parameters := [(.object "java/lang/String")], returnType := some (.object "java/lang/StringBuilder") }, accessFlags := 1, code := some k14c1 }
def k14c2 : Code := { maxStack := 3, maxLocals := 1, code := jdk_67_method_42_code, exceptionTable := #[], attributes := #[] }
def k14m2 : Method := { name := "toString", desc := "()Ljava/lang/String;", sig := { parameters := [], returnType := some (.object "java/lang/String") }, accessFlags := 1, code := some k14c2 }
def k14c3 : Code := { maxStack := 1, maxLocals := 1, code := jdk_67_method_93_code, exceptionTable := #[], attributes := #[] }
def k14m3 : Method := { name := "length", desc := "()I", sig := { parameters := [], returnType := some .int }, accessFlags := 4161, code := some k14c3 }
/-- java/lang/StringBuilder -/
def k14 : Class := { plain "java/lang/StringBuilder" (some 13) with
  accessFlags := 49
  interfaces := #[12, 2, 3, 4]
  cf := some (fileOf pool14 24 #[] #[{ accessFlags := 1, nameIndex := 5, descriptorIndex := 145, attributes := #[] }, { accessFlags := 1, nameIndex := 27, descriptorIndex := 28, attributes := #[] }, { accessFlags := 1, nameIndex := 399, descriptorIndex := 400, attributes := #[] }, { accessFlags := 4161, nameIndex := 345, descriptorIndex := 156, attributes := #[] }] 49 2 #[349, 351, 353, 355] #[{ accessFlags := 24, nameIndex := 357, descriptorIndex := 358, attributes := #[] }])
  fields := #[{ name := "serialVersionUID", type := .long, accessFlags := 24, slot := 0, constantValue := 0 }]
  methods := #[k14m0, k14m1, k14m2, k14m3]
  instanceTypes := #[(.array .byte), .byte, .boolean, .int]
  staticTypes := #[.long]
  resolved := Array.replicate 422 none
  statics := none }

def pool15 : Array CpInfo := pool [(9, u "<init>"), (6, .class_ 18), (1, u "java/lang/Object"), (0, u "()V"), (1, .class_ 23), (1, u "jdk/internal/util/ArraysSupport"), (0, u "LOG2_ARRAY_LONG_INDEX_SCALE"), (0, u "I"), (2, u "U"), (0, u "Ljdk/internal/misc/Unsafe;"), (8, u "BIG_ENDIAN"), (0, u "Z"), (8, u "LOG2_BYTE_BIT_SIZE"), (4, u "LOG2_ARRAY_INT_INDEX_SCALE"), (54, u "JLA"), (0, u "Ljdk/internal/access/JavaLangAccess;"), (11, u "LOG2_ARRAY_BOOLEAN_INDEX_SCALE"), (9, u "LOG2_ARRAY_BYTE_INDEX_SCALE"), (5, u "LOG2_ARRAY_CHAR_INDEX_SCALE"), (5, u "LOG2_ARRAY_SHORT_INDEX_SCALE"), (18, u "LOG2_ARRAY_FLOAT_INDEX_SCALE"), (24, u "LOG2_ARRAY_DOUBLE_INDEX_SCALE"), (6, .methodref 195 196), (0, .class_ 197), (0, .nameAndType 198 199), (0, u "java/lang/Math"), (0, u "max"), (0, u "(II)I"), (0, .integer 2147483639), (76, u "T_BOOLEAN"), (2, u "T_CHAR"), (1, u "T_FLOAT"), (1, u "T_DOUBLE"), (1, u "T_BYTE"), (1, u "T_SHORT"), (1, u "T_INT"), (1, u "T_LONG"), (1, u "SOFT_MAX_ARRAY_LENGTH"), (56, u "newLength"), (0, u "(III)I")] 25

def k15m0 : Method := { name := "<init>", desc := "()V", sig := { parameters := [], returnType := none }, accessFlags := 2, code := none }
def k15c1 : Code := { maxStack := 3, maxLocals := 4, code := jdk_48_method_27_code, exceptionTable := #[], attributes := #[] }
def k15m1 : Method := { name := "newLength", desc := "(III)I", sig := { parameters := [.int, .int, .int], returnType := some .int }, accessFlags := 9, code := some k15c1 }
/-- jdk/internal/util/ArraysSupport -/
def k15 : Class := { plain "jdk/internal/util/ArraysSupport" (some 0) with
  accessFlags := 33
  interfaces := #[]
  cf := some (fileOf pool15 21 #[] #[{ accessFlags := 2, nameIndex := 9, descriptorIndex := 19, attributes := #[] }, { accessFlags := 9, nameIndex := 351, descriptorIndex := 352, attributes := #[] }] 33 16 #[] #[{ accessFlags := 24, nameIndex := 28, descriptorIndex := 29, attributes := #[] }, { accessFlags := 26, nameIndex := 38, descriptorIndex := 39, attributes := #[] }, { accessFlags := 25, nameIndex := 121, descriptorIndex := 25, attributes := #[] }, { accessFlags := 25, nameIndex := 131, descriptorIndex := 25, attributes := #[] }, { accessFlags := 25, nameIndex := 137, descriptorIndex := 25, attributes := #[] }, { accessFlags := 25, nameIndex := 143, descriptorIndex := 25, attributes := #[] }, { accessFlags := 25, nameIndex := 53, descriptorIndex := 25, attributes := #[] }, { accessFlags := 25, nameIndex := 24, descriptorIndex := 25, attributes := #[] }, { accessFlags := 25, nameIndex := 162, descriptorIndex := 25, attributes := #[] }, { accessFlags := 25, nameIndex := 187, descriptorIndex := 25, attributes := #[] }, { accessFlags := 26, nameIndex := 48, descriptorIndex := 25, attributes := #[] }, { accessFlags := 25, nameIndex := 277, descriptorIndex := 25, attributes := #[] }, { accessFlags := 25, nameIndex := 280, descriptorIndex := 25, attributes := #[] }, { accessFlags := 25, nameIndex := 282, descriptorIndex := 25, attributes := #[] }, { accessFlags := 25, nameIndex := 284, descriptorIndex := 25, attributes := #[] }, { accessFlags := 25, nameIndex := 286, descriptorIndex := 25, attributes := #[] }, { accessFlags := 25, nameIndex := 288, descriptorIndex := 25, attributes := #[] }, { accessFlags := 25, nameIndex := 290, descriptorIndex := 25, attributes := #[] }, { accessFlags := 25, nameIndex := 292, descriptorIndex := 25, attributes := #[] }, { accessFlags := 26, nameIndex := 108, descriptorIndex := 109, attributes := #[] }, { accessFlags := 25, nameIndex := 294, descriptorIndex := 25, attributes := #[] }])
  fields := #[{ name := "U", type := (.object "jdk/internal/misc/Unsafe"), accessFlags := 24, slot := 0, constantValue := 0 }, { name := "BIG_ENDIAN", type := .boolean, accessFlags := 26, slot := 1, constantValue := 0 }, { name := "LOG2_ARRAY_BOOLEAN_INDEX_SCALE", type := .int, accessFlags := 25, slot := 2, constantValue := 0 }, { name := "LOG2_ARRAY_BYTE_INDEX_SCALE", type := .int, accessFlags := 25, slot := 3, constantValue := 0 }, { name := "LOG2_ARRAY_CHAR_INDEX_SCALE", type := .int, accessFlags := 25, slot := 4, constantValue := 0 }, { name := "LOG2_ARRAY_SHORT_INDEX_SCALE", type := .int, accessFlags := 25, slot := 5, constantValue := 0 }, { name := "LOG2_ARRAY_INT_INDEX_SCALE", type := .int, accessFlags := 25, slot := 6, constantValue := 0 }, { name := "LOG2_ARRAY_LONG_INDEX_SCALE", type := .int, accessFlags := 25, slot := 7, constantValue := 0 }, { name := "LOG2_ARRAY_FLOAT_INDEX_SCALE", type := .int, accessFlags := 25, slot := 8, constantValue := 0 }, { name := "LOG2_ARRAY_DOUBLE_INDEX_SCALE", type := .int, accessFlags := 25, slot := 9, constantValue := 0 }, { name := "LOG2_BYTE_BIT_SIZE", type := .int, accessFlags := 26, slot := 10, constantValue := 0 }, { name := "T_BOOLEAN", type := .int, accessFlags := 25, slot := 11, constantValue := 0 }, { name := "T_CHAR", type := .int, accessFlags := 25, slot := 12, constantValue := 0 }, { name := "T_FLOAT", type := .int, accessFlags := 25, slot := 13, constantValue := 0 }, { name := "T_DOUBLE", type := .int, accessFlags := 25, slot := 14, constantValue := 0 }, { name := "T_BYTE", type := .int, accessFlags := 25, slot := 15, constantValue := 0 }, { name := "T_SHORT", type := .int, accessFlags := 25, slot := 16, constantValue := 0 }, { name := "T_INT", type := .int, accessFlags := 25, slot := 17, constantValue := 0 }, { name := "T_LONG", type := .int, accessFlags := 25, slot := 18, constantValue := 0 }, { name := "JLA", type := (.object "jdk/internal/access/JavaLangAccess"), accessFlags := 26, slot := 19, constantValue := 0 }, { name := "SOFT_MAX_ARRAY_LENGTH", type := .int, accessFlags := 25, slot := 20, constantValue := 0 }]
  methods := #[k15m0, k15m1]
  instanceTypes := #[]
  staticTypes := #[(.object "jdk/internal/misc/Unsafe"), .boolean, .int, .int, .int, .int, .int, .int, .int, .int, .int, .int, .int, .int, .int, .int, .int, .int, .int, (.object "jdk/internal/access/JavaLangAccess"), .int]
  resolved := Array.replicate 378 none
  statics := none }

def pool16 : Array CpInfo := pool [(1, .class_ 2), (0, u "java/lang/Math"), (1, .class_ 6), (1, u "java/lang/Object"), (0, u "<init>"), (0, u "()V"), (89, .class_ 100), (1, u "java/lang/Math$RandomNumberGeneratorHolder"), (71, u "negativeZeroFloatBits"), (0, u "J"), (2, u "negativeZeroDoubleBits"), (21, u "max"), (2, u "min"), (43, u "$assertionsDisabled"), (0, u "Z"), (88, u "(II)I"), (2, u "twoToTheDoubleScaleDown"), (0, u "D"), (4, u "twoToTheDoubleScaleUp"), (9, u "E"), (3, u "PI"), (2, u "TAU"), (2, u "DEGREES_TO_RADIANS"), (0, u "RADIANS_TO_DEGREES")] 94

def k16m0 : Method := { name := "<init>", desc := "()V", sig := { parameters := [], returnType := none }, accessFlags := 2, code := none }
def k16c1 : Code := { maxStack := 2, maxLocals := 2, code := jdk_29_method_65_code, exceptionTable := #[], attributes := #[] }
def k16m1 : Method := { name := "max", desc := "(II)I", sig := { parameters := [.int, .int], returnType := some .int }, accessFlags := 9, code := some k16c1 }
def k16c2 : Code := { maxStack := 2, maxLocals := 2, code := jdk_29_method_69_code, exceptionTable := #[], attributes := #[] }
def k16m2 : Method := { name := "min", desc := "(II)I", sig := { parameters := [.int, .int], returnType := some .int }, accessFlags := 9, code := some k16c2 }
/-- java/lang/Math -/
def k16 : Class := { plain "java/lang/Math" (some 0) with
  accessFlags := 49
  interfaces := #[]
  cf := some (fileOf pool16 1 #[.nestMembers #[98]] #[{ accessFlags := 2, nameIndex := 7, descriptorIndex := 8, attributes := #[] }, { accessFlags := 9, nameIndex := 198, descriptorIndex := 335, attributes := #[] }, { accessFlags := 9, nameIndex := 201, descriptorIndex := 335, attributes := #[] }] 49 4 #[] #[{ accessFlags := 25, nameIndex := 354, descriptorIndex := 339, attributes := #[] }, { accessFlags := 25, nameIndex := 358, descriptorIndex := 339, attributes := #[] }, { accessFlags := 25, nameIndex := 361, descriptorIndex := 339, attributes := #[] }, { accessFlags := 26, nameIndex := 364, descriptorIndex := 339, attributes := #[] }, { accessFlags := 26, nameIndex := 365, descriptorIndex := 339, attributes := #[] }, { accessFlags := 26, nameIndex := 172, descriptorIndex := 173, attributes := #[] }, { accessFlags := 26, nameIndex := 176, descriptorIndex := 173, attributes := #[] }, { accessFlags := 8, nameIndex := 344, descriptorIndex := 339, attributes := #[] }, { accessFlags := 8, nameIndex := 338, descriptorIndex := 339, attributes := #[] }, { accessFlags := 4120, nameIndex := 245, descriptorIndex := 246, attributes := #[] }])
  fields := #[{ name := "E", type := .double, accessFlags := 25, slot := 0, constantValue := 0 }, { name := "PI", type := .double, accessFlags := 25, slot := 1, constantValue := 0 }, { name := "TAU", type := .double, accessFlags := 25, slot := 2, constantValue := 0 }, { name := "DEGREES_TO_RADIANS", type := .double, accessFlags := 26, slot := 3, constantValue := 0 }, { name := "RADIANS_TO_DEGREES", type := .double, accessFlags := 26, slot := 4, constantValue := 0 }, { name := "negativeZeroFloatBits", type := .long, accessFlags := 26, slot := 5, constantValue := 0 }, { name := "negativeZeroDoubleBits", type := .long, accessFlags := 26, slot := 6, constantValue := 0 }, { name := "twoToTheDoubleScaleUp", type := .double, accessFlags := 8, slot := 7, constantValue := 0 }, { name := "twoToTheDoubleScaleDown", type := .double, accessFlags := 8, slot := 8, constantValue := 0 }, { name := "$assertionsDisabled", type := .boolean, accessFlags := 4120, slot := 9, constantValue := 0 }]
  methods := #[k16m0, k16m1, k16m2]
  instanceTypes := #[]
  staticTypes := #[.double, .double, .double, .double, .double, .long, .long, .double, .double, .boolean]
  resolved := Array.replicate 460 none
  statics := none }

def pool17 : Array CpInfo := pool [(2, .class_ 4), (1, u "java/lang/Object"), (0, u "<init>"), (0, u "()V"), (7, .class_ 16), (1, u "java/util/Arrays"), (57, .class_ 76), (1, u "java/util/Arrays$NaturalOrder"), (36, .class_ 115), (1, u "java/util/Arrays$LegacyMergeSort"), (1, u "Z"), (21, u "copyOfRange"), (10, .methodref 151 152), (0, .class_ 153), (0, .nameAndType 154 155), (0, u "java/lang/System"), (0, u "arraycopy"), (0, u "(Ljava/lang/Object;ILjava/lang/Object;II)V"), (146, u "copyOf"), (1, .methodref 305 306), (0, .class_ 307), (0, .nameAndType 308 309), (0, u "java/lang/Math"), (0, u "min"), (0, u "(II)I"), (29, .methodref 14 340), (0, .nameAndType 341 342), (0, u "copyOfRangeByte"), (0, u "([BII)[B"), (0, .methodref 14 344), (0, .nameAndType 345 346), (0, u "checkLength"), (0, u "(II)V"), (28, .class_ 376), (0, u "java/util/Arrays$ArrayList"), (68, u "$assertionsDisabled"), (269, u "MIN_ARRAY_SORT_GRAN"), (0, u "I"), (2, u "INSERTIONSORT_THRESHOLD"), (149, u "([BI)[B"), (105, .class_ 976), (0, u "java/util/Arrays$ArrayItr")] 52

def k17m0 : Method := { name := "<init>", desc := "()V", sig := { parameters := [], returnType := none }, accessFlags := 2, code := none }
def k17c1 : Code := { maxStack := 6, maxLocals := 3, code := jdk_65_method_121_code, exceptionTable := #[], attributes := #[] }
def k17m1 : Method := { name := "copyOf", desc := "([BI)[B", sig := { parameters := [(.array .byte), .int], returnType := some (.array .byte) }, accessFlags := 9, code := some k17c1 }
def k17c2 : Code := { maxStack := 4, maxLocals := 2, code := jdk_65_method_131_code, exceptionTable := #[], attributes := #[] }
def k17m2 : Method := { name := "checkLength", desc := "(II)V", sig := { parameters := [.int, .int], returnType := none }, accessFlags := 10, code := some k17c2 }
def k17c3 : Code := { maxStack := 3, maxLocals := 3, code := jdk_65_method_132_code, exceptionTable := #[], attributes := #[] }
def k17m3 : Method := { name := "copyOfRange", desc := "([BII)[B", sig := { parameters := [(.array .byte), .int, .int], returnType := some (.array .byte) }, accessFlags := 9, code := some k17c3 }
def k17c4 : Code := { maxStack := 6, maxLocals := 5, code := jdk_65_method_133_code, exceptionTable := #[], attributes := #[] }
def k17m4 : Method := { name := "copyOfRangeByte", desc := "([BII)[B", sig := { parameters := [(.array .byte), .int, .int], returnType := some (.array .byte) }, accessFlags := 10, code := some k17c4 }
/-- java/util/Arrays -/
def k17 : Class := { plain "java/util/Arrays" (some 0) with
  accessFlags := 49
  interfaces := #[]
  cf := some (fileOf pool17 14 #[.nestMembers #[975, 375, 113, 74]] #[{ accessFlags := 2, nameIndex := 5, descriptorIndex := 6, attributes := #[] }, { accessFlags := 9, nameIndex := 302, descriptorIndex := 869, attributes := #[] }, { accessFlags := 10, nameIndex := 345, descriptorIndex := 346, attributes := #[] }, { accessFlags := 9, nameIndex := 139, descriptorIndex := 342, attributes := #[] }, { accessFlags := 10, nameIndex := 341, descriptorIndex := 342, attributes := #[] }] 49 2 #[] #[{ accessFlags := 26, nameIndex := 715, descriptorIndex := 716, attributes := #[] }, { accessFlags := 26, nameIndex := 719, descriptorIndex := 716, attributes := #[] }, { accessFlags := 4120, nameIndex := 445, descriptorIndex := 117, attributes := #[] }])
  fields := #[{ name := "MIN_ARRAY_SORT_GRAN", type := .int, accessFlags := 26, slot := 0, constantValue := 0 }, { name := "INSERTIONSORT_THRESHOLD", type := .int, accessFlags := 26, slot := 1, constantValue := 0 }, { name := "$assertionsDisabled", type := .boolean, accessFlags := 4120, slot := 2, constantValue := 0 }]
  methods := #[k17m0, k17m1, k17m2, k17m3, k17m4]
  instanceTypes := #[]
  staticTypes := #[.int, .int, .boolean]
  resolved := Array.replicate 1029 none
  statics := none }

def pool18 : Array CpInfo := pool [(2, .class_ 4), (1, u "java/lang/Object"), (0, u "<init>"), (0, u "()V"), (1, .class_ 10), (1, u "java/lang/System"), (0, u "allowSecurityManager"), (0, u "I"), (16, u "cons"), (0, u "Ljava/io/Console;"), (77, .class_ 110), (1, u "java/lang/System$CallersHolder"), (43, u "initialErrStream"), (0, u "Ljava/io/PrintStream;"), (19, u "security"), (0, u "Ljava/lang/SecurityManager;"), (31, .class_ 209), (0, u "java/lang/System$1"), (7, u "props"), (0, u "Ljava/util/Properties;"), (2, u "lineSeparator"), (0, u "Ljava/lang/String;"), (96, .class_ 321), (1, u "java/lang/System$LoggerFinder"), (5, .class_ 328), (0, u "java/lang/System$Logger"), (67, u "err"), (2, u "out"), (91, u "notSupportedJnuEncoding"), (15, u "in"), (17, u "initialIn"), (0, u "Ljava/io/InputStream;"), (35, u "bootLayer"), (0, u "Ljava/lang/ModuleLayer;"), (99, .class_ 664), (0, u "java/lang/System$2"), (9, u "NEVER"), (2, u "MAYBE"), (49, u "arraycopy"), (0, u "(Ljava/lang/Object;ILjava/lang/Object;II)V"), (72, .class_ 802), (0, u "java/lang/System$Logger$Level")] 31

def k18m0 : Method := { name := "<init>", desc := "()V", sig := { parameters := [], returnType := none }, accessFlags := 2, code := none }
def k18m1 : Method := { name := "arraycopy", desc := "(Ljava/lang/Object;ILjava/lang/Object;II)V", sig := { parameters := [(.object "java/lang/Object"), .int, (.object "java/lang/Object"), .int, .int], returnType := none }, accessFlags := 265, code := none }
/-- java/lang/System -/
def k18 : Class := { plain "java/lang/System" (some 0) with
  accessFlags := 49
  interfaces := #[]
  cf := some (fileOf pool18 8 #[.nestMembers #[319, 327, 801, 108, 663, 208]] #[{ accessFlags := 2, nameIndex := 5, descriptorIndex := 6, attributes := #[] }, { accessFlags := 265, nameIndex := 727, descriptorIndex := 728, attributes := #[] }] 49 2 #[] #[{ accessFlags := 25, nameIndex := 507, descriptorIndex := 526, attributes := #[] }, { accessFlags := 25, nameIndex := 399, descriptorIndex := 155, attributes := #[] }, { accessFlags := 25, nameIndex := 396, descriptorIndex := 155, attributes := #[] }, { accessFlags := 10, nameIndex := 525, descriptorIndex := 526, attributes := #[] }, { accessFlags := 26, nameIndex := 674, descriptorIndex := 12, attributes := #[] }, { accessFlags := 26, nameIndex := 677, descriptorIndex := 12, attributes := #[] }, { accessFlags := 10, nameIndex := 11, descriptorIndex := 12, attributes := #[] }, { accessFlags := 74, nameIndex := 175, descriptorIndex := 176, attributes := #[] }, { accessFlags := 10, nameIndex := 491, descriptorIndex := 222, attributes := #[] }, { accessFlags := 74, nameIndex := 29, descriptorIndex := 30, attributes := #[] }, { accessFlags := 74, nameIndex := 154, descriptorIndex := 155, attributes := #[] }, { accessFlags := 10, nameIndex := 217, descriptorIndex := 218, attributes := #[] }, { accessFlags := 10, nameIndex := 221, descriptorIndex := 222, attributes := #[] }, { accessFlags := 8, nameIndex := 562, descriptorIndex := 563, attributes := #[] }])
  fields := #[{ name := "in", type := (.object "java/io/InputStream"), accessFlags := 25, slot := 0, constantValue := 0 }, { name := "out", type := (.object "java/io/PrintStream"), accessFlags := 25, slot := 1, constantValue := 0 }, { name := "err", type := (.object "java/io/PrintStream"), accessFlags := 25, slot := 2, constantValue := 0 }, { name := "initialIn", type := (.object "java/io/InputStream"), accessFlags := 10, slot := 3, constantValue := 0 }, { name := "NEVER", type := .int, accessFlags := 26, slot := 4, constantValue := 0 }, { name := "MAYBE", type := .int, accessFlags := 26, slot := 5, constantValue := 0 }, { name := "allowSecurityManager", type := .int, accessFlags := 10, slot := 6, constantValue := 0 }, { name := "security", type := (.object "java/lang/SecurityManager"), accessFlags := 74, slot := 7, constantValue := 0 }, { name := "notSupportedJnuEncoding", type := (.object "java/lang/String"), accessFlags := 10, slot := 8, constantValue := 0 }, { name := "cons", type := (.object "java/io/Console"), accessFlags := 74, slot := 9, constantValue := 0 }, { name := "initialErrStream", type := (.object "java/io/PrintStream"), accessFlags := 74, slot := 10, constantValue := 0 }, { name := "props", type := (.object "java/util/Properties"), accessFlags := 10, slot := 11, constantValue := 0 }, { name := "lineSeparator", type := (.object "java/lang/String"), accessFlags := 10, slot := 12, constantValue := 0 }, { name := "bootLayer", type := (.object "java/lang/ModuleLayer"), accessFlags := 8, slot := 13, constantValue := 0 }]
  methods := #[k18m0, k18m1]
  instanceTypes := #[]
  staticTypes := #[(.object "java/io/InputStream"), (.object "java/io/PrintStream"), (.object "java/io/PrintStream"), (.object "java/io/InputStream"), .int, .int, .int, (.object "java/lang/SecurityManager"), (.object "java/lang/String"), (.object "java/io/Console"), (.object "java/io/PrintStream"), (.object "java/util/Properties"), (.object "java/lang/String"), (.object "java/lang/ModuleLayer")]
  resolved := Array.replicate 834 none
  statics := none }

def pool19 : Array CpInfo := pool [(2, .class_ 4), (1, u "java/lang/Enum"), (0, u "name"), (0, u "Ljava/lang/String;"), (2, u "ordinal"), (0, u "I"), (1, .class_ 14), (1, u "java/lang/Object"), (4, u "hash"), (86, .class_ 108), (1, u "java/lang/Enum$EnumDesc"), (2, .class_ 112), (0, u "java/lang/constant/Constable"), (0, .class_ 114), (0, u "java/lang/Comparable"), (0, .class_ 116), (0, u "java/io/Serializable")] 87

/-- java/lang/Enum -/
def k19 : Class := { plain "java/lang/Enum" (some 0) with
  accessFlags := 1057
  interfaces := #[5, 3, 2]
  cf := some (fileOf pool19 2 #[.nestMembers #[106]] #[] 1057 12 #[111, 113, 115] #[{ accessFlags := 18, nameIndex := 5, descriptorIndex := 6, attributes := #[] }, { accessFlags := 18, nameIndex := 9, descriptorIndex := 10, attributes := #[] }, { accessFlags := 2, nameIndex := 19, descriptorIndex := 10, attributes := #[] }])
  fields := #[{ name := "name", type := (.object "java/lang/String"), accessFlags := 18, slot := 0, constantValue := 0 }, { name := "ordinal", type := .int, accessFlags := 18, slot := 1, constantValue := 0 }, { name := "hash", type := .int, accessFlags := 2, slot := 2, constantValue := 0 }]
  methods := #[]
  instanceTypes := #[(.object "java/lang/String"), .int, .int]
  staticTypes := #[]
  resolved := Array.replicate 204 none
  statics := none }

def pool20 : Array CpInfo := pool [(1, .class_ 2), (0, u "com/example/vestwright/vestwright/run/RunRefusedException$Kind"), (2, u "INPUT"), (0, u "Lcom/example/vestwright/vestwright/run/RunRefusedException$Kind;"), (2, u "MISSING_FIGURE"), (2, u "NO_ELECTIONS"), (2, u "$VALUES"), (0, u "[Lcom/example/vestwright/vestwright/run/RunRefusedException$Kind;"), (6, .class_ 25), (1, u "java/lang/Enum"), (26, .class_ 53), (0, u "com/example/vestwright/vestwright/run/RunRefusedException")] 2

/-- com/example/vestwright/vestwright/run/RunRefusedException$Kind -/
def k20 : Class := { plain "com/example/vestwright/vestwright/run/RunRefusedException$Kind" (some 19) with
  accessFlags := 16433
  interfaces := #[]
  cf := some (fileOf pool20 1 #[.nestHost 52] #[] 16433 23 #[] #[{ accessFlags := 16409, nameIndex := 5, descriptorIndex := 6, attributes := #[] }, { accessFlags := 16409, nameIndex := 9, descriptorIndex := 6, attributes := #[] }, { accessFlags := 16409, nameIndex := 12, descriptorIndex := 6, attributes := #[] }, { accessFlags := 4122, nameIndex := 15, descriptorIndex := 16, attributes := #[] }])
  fields := #[{ name := "INPUT", type := (.object "com/example/vestwright/vestwright/run/RunRefusedException$Kind"), accessFlags := 16409, slot := 0, constantValue := 0 }, { name := "MISSING_FIGURE", type := (.object "com/example/vestwright/vestwright/run/RunRefusedException$Kind"), accessFlags := 16409, slot := 1, constantValue := 0 }, { name := "NO_ELECTIONS", type := (.object "com/example/vestwright/vestwright/run/RunRefusedException$Kind"), accessFlags := 16409, slot := 2, constantValue := 0 }, { name := "$VALUES", type := (.array (.object "com/example/vestwright/vestwright/run/RunRefusedException$Kind")), accessFlags := 4122, slot := 3, constantValue := 0 }]
  methods := #[]
  instanceTypes := #[(.object "java/lang/String"), .int, .int]
  staticTypes := #[(.object "com/example/vestwright/vestwright/run/RunRefusedException$Kind"), (.object "com/example/vestwright/vestwright/run/RunRefusedException$Kind"), (.object "com/example/vestwright/vestwright/run/RunRefusedException$Kind"), (.array (.object "com/example/vestwright/vestwright/run/RunRefusedException$Kind"))]
  resolved := Array.replicate 56 none
  statics := some 2 }

def pool21 : Array CpInfo := pool [(2, .class_ 4), (0, .nameAndType 5 6), (0, u "java/lang/Object"), (0, u "<init>"), (0, u "()V"), (2, .methodref 10 11), (0, .class_ 12), (0, .nameAndType 13 14), (0, u "com/example/vestwright/vestwright/Quote"), (0, u "bounded"), (0, u "(Ljava/lang/String;Ljava/lang/String;)Ljava/lang/String;"), (0, .string 16), (0, u ""), (20, u "()I"), (4, .class_ 43), (0, u "java/lang/String"), (2, u "name"), (0, u "(Ljava/lang/String;)Ljava/lang/String;"), (5, .class_ 54), (0, u "java/lang/StringBuilder"), (0, .methodref 53 3), (2, .methodref 53 59), (0, .nameAndType 60 61), (0, u "append"), (0, u "(Ljava/lang/String;)Ljava/lang/StringBuilder;"), (5, .methodref 53 68), (0, .nameAndType 69 70), (0, u "toString"), (0, u "()Ljava/lang/String;"), (6, .methodref 42 78), (0, .nameAndType 79 37), (0, u "length"), (0, .methodref 42 81), (0, .nameAndType 82 83), (0, u "codePointCount"), (0, u "(II)I"), (13, u "MOST_CHARACTERS"), (0, u "I"), (2, u "MOST_NAMES")] 11

def k21m0 : Method := { name := "<init>", desc := "()V", sig := { parameters := [], returnType := none }, accessFlags := 2, code := none }
def k21c1 : Code := { maxStack := 2, maxLocals := 1, code := prog_6_method_3_code, exceptionTable := #[], attributes := #[] }
def k21m1 : Method := { name := "name", desc := "(Ljava/lang/String;)Ljava/lang/String;", sig := { parameters := [(.object "java/lang/String")], returnType := some (.object "java/lang/String") }, accessFlags := 9, code := some k21c1 }
def k21c2 : Code := { maxStack := 6, maxLocals := 4, code := prog_6_method_5_code, exceptionTable := #[], attributes := #[] }
def k21m2 : Method := { name := "bounded", desc := "(Ljava/lang/String;Ljava/lang/String;)Ljava/lang/String;", sig := { parameters := [(.object "java/lang/String"), (.object "java/lang/String")], returnType := some (.object "java/lang/String") }, accessFlags := 10, code := some k21c2 }
/-- com/example/vestwright/vestwright/Quote -/
def k21 : Class := { plain "com/example/vestwright/vestwright/Quote" (some 0) with
  accessFlags := 49
  interfaces := #[]
  cf := some (fileOf pool21 10 #[] #[{ accessFlags := 2, nameIndex := 5, descriptorIndex := 6, attributes := #[] }, { accessFlags := 9, nameIndex := 46, descriptorIndex := 47, attributes := #[] }, { accessFlags := 10, nameIndex := 13, descriptorIndex := 14, attributes := #[] }] 49 2 #[] #[{ accessFlags := 26, nameIndex := 97, descriptorIndex := 98, attributes := #[] }, { accessFlags := 26, nameIndex := 101, descriptorIndex := 98, attributes := #[] }])
  fields := #[{ name := "MOST_CHARACTERS", type := .int, accessFlags := 26, slot := 0, constantValue := 0 }, { name := "MOST_NAMES", type := .int, accessFlags := 26, slot := 1, constantValue := 0 }]
  methods := #[k21m0, k21m1, k21m2]
  instanceTypes := #[]
  staticTypes := #[.int, .int]
  resolved := Array.replicate 113 none
  statics := none }

def pool22 : Array CpInfo := pool [(2, .class_ 4), (1, u "java/lang/Object"), (0, u "<init>"), (0, u "()V"), (35, .class_ 44), (1, u "java/util/Objects"), (61, .class_ 108), (1, u "jdk/internal/util/Preconditions"), (2, .methodref 106 112), (0, .nameAndType 113 114), (0, u "checkFromToIndex"), (0, u "(IIILjava/util/function/BiFunction;)I"), (60, u "(III)I")] 8

def k22m0 : Method := { name := "<init>", desc := "()V", sig := { parameters := [], returnType := none }, accessFlags := 2, code := none }
def k22c1 : Code := { maxStack := 4, maxLocals := 3, code := jdk_31_method_18_code, exceptionTable := #[], attributes := #[] }
def k22m1 : Method := { name := "checkFromToIndex", desc := "(III)I", sig := { parameters := [.int, .int, .int], returnType := some .int }, accessFlags := 9, code := some k22c1 }
/-- java/util/Objects -/
def k22 : Class := { plain "java/util/Objects" (some 0) with
  accessFlags := 49
  interfaces := #[]
  cf := some (fileOf pool22 42 #[] #[{ accessFlags := 2, nameIndex := 5, descriptorIndex := 6, attributes := #[] }, { accessFlags := 9, nameIndex := 113, descriptorIndex := 175, attributes := #[] }] 49 2 #[] #[])
  fields := #[]
  methods := #[k22m0, k22m1]
  instanceTypes := #[]
  staticTypes := #[]
  resolved := Array.replicate 184 none
  statics := none }

def pool23 : Array CpInfo := pool [(2, .class_ 4), (1, u "java/lang/Object"), (0, u "<init>"), (0, u "()V"), (17, .class_ 26), (1, u "jdk/internal/util/Preconditions"), (6, u "checkIndex"), (13, u "checkFromToIndex"), (7, .class_ 56), (0, u "jdk/internal/util/Preconditions$4"), (57, .class_ 115), (0, u "jdk/internal/util/Preconditions$1"), (7, u "SIOOBE_FORMATTER"), (0, u "Ljava/util/function/BiFunction;"), (0, .class_ 126), (0, u "jdk/internal/util/Preconditions$2"), (3, u "AIOOBE_FORMATTER"), (0, .class_ 132), (0, u "jdk/internal/util/Preconditions$3"), (3, u "IOOBE_FORMATTER"), (41, u "(IILjava/util/function/BiFunction;)I"), (4, u "(IIILjava/util/function/BiFunction;)I")] 10

def k23m0 : Method := { name := "<init>", desc := "()V", sig := { parameters := [], returnType := none }, accessFlags := 1, code := none }
def k23c1 : Code := { maxStack := 3, maxLocals := 3, code := jdk_41_method_11_code, exceptionTable := #[], attributes := #[] }
def k23m1 : Method := { name := "checkIndex", desc := "(IILjava/util/function/BiFunction;)I", sig := { parameters := [.int, .int, (.object "java/util/function/BiFunction")], returnType := some .int }, accessFlags := 9, code := some k23c1 }
def k23c2 : Code := { maxStack := 4, maxLocals := 4, code := jdk_41_method_12_code, exceptionTable := #[], attributes := #[] }
def k23m2 : Method := { name := "checkFromToIndex", desc := "(IIILjava/util/function/BiFunction;)I", sig := { parameters := [.int, .int, .int, (.object "java/util/function/BiFunction")], returnType := some .int }, accessFlags := 9, code := some k23c2 }
/-- jdk/internal/util/Preconditions -/
def k23 : Class := { plain "jdk/internal/util/Preconditions" (some 0) with
  accessFlags := 33
  interfaces := #[]
  cf := some (fileOf pool23 24 #[.nestMembers #[55, 131, 125, 114]] #[{ accessFlags := 1, nameIndex := 5, descriptorIndex := 6, attributes := #[] }, { accessFlags := 9, nameIndex := 33, descriptorIndex := 178, attributes := #[] }, { accessFlags := 9, nameIndex := 47, descriptorIndex := 183, attributes := #[] }] 33 2 #[] #[{ accessFlags := 25, nameIndex := 123, descriptorIndex := 124, attributes := #[] }, { accessFlags := 25, nameIndex := 130, descriptorIndex := 124, attributes := #[] }, { accessFlags := 25, nameIndex := 136, descriptorIndex := 124, attributes := #[] }])
  fields := #[{ name := "SIOOBE_FORMATTER", type := (.object "java/util/function/BiFunction"), accessFlags := 25, slot := 0, constantValue := 0 }, { name := "AIOOBE_FORMATTER", type := (.object "java/util/function/BiFunction"), accessFlags := 25, slot := 1, constantValue := 0 }, { name := "IOOBE_FORMATTER", type := (.object "java/util/function/BiFunction"), accessFlags := 25, slot := 2, constantValue := 0 }]
  methods := #[k23m0, k23m1, k23m2]
  instanceTypes := #[]
  staticTypes := #[(.object "java/util/function/BiFunction"), (.object "java/util/function/BiFunction"), (.object "java/util/function/BiFunction")]
  resolved := Array.replicate 194 none
  statics := some 3 }

def pool24 : Array CpInfo := pool [(1, .class_ 2), (0, u "java/lang/String"), (1, .class_ 6), (1, u "java/lang/Object"), (0, u "<init>"), (0, u "()V"), (0, .methodref 1 10), (0, .nameAndType 11 12), (0, u "checkIndex"), (0, u "(II)V"), (1, .class_ 16), (1, u "java/lang/StringLatin1"), (36, u "([BI)C"), (67, u "$assertionsDisabled"), (0, u "Z"), (98, .class_ 223), (1, u "java/lang/StringLatin1$LinesSpliterator"), (28, u "charAt"), (137, .class_ 391), (0, u "java/lang/StringLatin1$CharsSpliterator")] 3

def k24m0 : Method := { name := "<init>", desc := "()V", sig := { parameters := [], returnType := none }, accessFlags := 0, code := none }
def k24c1 : Code := { maxStack := 2, maxLocals := 2, code := jdk_43_method_2_code, exceptionTable := #[], attributes := #[] }
def k24m1 : Method := { name := "charAt", desc := "([BI)C", sig := { parameters := [(.array .byte), .int], returnType := some .char }, accessFlags := 9, code := some k24c1 }
/-- java/lang/StringLatin1 -/
def k24 : Class := { plain "java/lang/StringLatin1" (some 0) with
  accessFlags := 48
  interfaces := #[]
  cf := some (fileOf pool24 14 #[.nestMembers #[390, 221]] #[{ accessFlags := 0, nameIndex := 7, descriptorIndex := 8, attributes := #[] }, { accessFlags := 9, nameIndex := 252, descriptorIndex := 53, attributes := #[] }] 48 4 #[] #[{ accessFlags := 4120, nameIndex := 121, descriptorIndex := 122, attributes := #[] }])
  fields := #[{ name := "$assertionsDisabled", type := .boolean, accessFlags := 4120, slot := 0, constantValue := 0 }]
  methods := #[k24m0, k24m1]
  instanceTypes := #[]
  staticTypes := #[.boolean]
  resolved := Array.replicate 395 none
  statics := none }

def pool25 : Array CpInfo := pool [(2, .class_ 4), (1, u "java/lang/Object"), (0, u "<init>"), (0, u "()V"), (12, .class_ 20), (0, u "java/util/Collections"), (63, u "r"), (0, u "Ljava/util/Random;"), (80, .class_ 167), (0, u "java/util/Collections$UnmodifiableCollection"), (6, .class_ 175), (0, u "java/util/Collections$UnmodifiableSequencedCollection"), (6, .class_ 183), (0, u "java/util/Collections$UnmodifiableSet"), (6, .class_ 191), (0, u "java/util/Collections$UnmodifiableSequencedSet"), (6, .class_ 199), (0, u "java/util/Collections$UnmodifiableSortedSet"), (6, .class_ 207), (0, u "java/util/Collections$UnmodifiableNavigableSet"), (4, .class_ 213), (0, u "java/util/Collections$UnmodifiableList"), (1, .class_ 216), (0, u "java/util/Collections$UnmodifiableRandomAccessList"), (6, .class_ 224), (0, u "java/util/Collections$UnmodifiableMap"), (6, .class_ 232), (0, u "java/util/Collections$UnmodifiableSequencedMap"), (4, .class_ 238), (0, u "java/util/Collections$UnmodifiableSortedMap"), (6, .class_ 246), (0, u "java/util/Collections$UnmodifiableNavigableMap"), (3, .class_ 251), (0, u "java/util/Collections$SynchronizedCollection"), (4, .class_ 257), (0, u "java/util/Collections$SynchronizedSet"), (4, .class_ 263), (0, u "java/util/Collections$SynchronizedSortedSet"), (1, .class_ 266), (0, u "java/util/Collections$SynchronizedNavigableSet"), (1, .class_ 269), (0, u "java/util/Collections$SynchronizedRandomAccessList"), (1, .class_ 272), (0, u "java/util/Collections$SynchronizedList"), (5, .class_ 279), (0, u "java/util/Collections$SynchronizedMap"), (1, .class_ 282), (0, u "java/util/Collections$SynchronizedSortedMap"), (1, .class_ 285), (0, u "java/util/Collections$SynchronizedNavigableMap"), (1, .class_ 288), (0, u "java/util/Collections$CheckedCollection"), (11, .class_ 301), (0, u "java/util/Collections$CheckedQueue"), (3, .class_ 306), (0, u "java/util/Collections$CheckedSet"), (3, .class_ 311), (0, u "java/util/Collections$CheckedSortedSet"), (3, .class_ 316), (0, u "java/util/Collections$CheckedNavigableSet"), (3, .class_ 321), (0, u "java/util/Collections$CheckedRandomAccessList"), (3, .class_ 326), (0, u "java/util/Collections$CheckedList"), (1, .class_ 329), (0, u "java/util/Collections$CheckedMap"), (3, .class_ 334), (0, u "java/util/Collections$CheckedSortedMap"), (3, .class_ 339), (0, u "java/util/Collections$CheckedNavigableMap"), (4, .class_ 346), (1, u "java/util/Collections$EmptyIterator"), (3, .class_ 352), (1, u "java/util/Collections$EmptyListIterator"), (2, .class_ 357), (1, u "java/util/Collections$EmptyEnumeration"), (4, u "EMPTY_SET"), (0, u "Ljava/util/Set;"), (6, u "EMPTY_LIST"), (0, u "Ljava/util/List;"), (2, u "EMPTY_MAP"), (0, u "Ljava/util/Map;"), (4, .class_ 381), (0, u "java/util/Collections$SingletonSet"), (2, .class_ 385), (0, u "java/util/Collections$1"), (1, .class_ 388), (0, u "java/util/Collections$2"), (1, .class_ 391), (0, u "java/util/Collections$SingletonList"), (1, .class_ 394), (0, u "java/util/Collections$SingletonMap"), (22, .class_ 418), (0, u "java/util/Collections$CopiesList"), (4, .class_ 425), (1, u "java/util/Collections$ReverseComparator"), (8, .class_ 435), (0, u "java/util/Collections$ReverseComparator2"), (6, .class_ 443), (0, u "java/util/Collections$3"), (25, .class_ 470), (0, u "java/util/Collections$SetFromMap"), (2, .class_ 474), (0, u "java/util/Collections$SequencedSetFromMap"), (3, .class_ 479), (0, u "java/util/Collections$AsLIFOQueue"), (11, .class_ 492), (0, u "java/util/Collections$EmptySet"), (1, .class_ 495), (0, u "java/util/Collections$EmptyList"), (1, .class_ 498), (0, u "java/util/Collections$EmptyMap"), (1, u "BINARYSEARCH_THRESHOLD"), (0, u "I"), (2, u "REVERSE_THRESHOLD"), (1, u "SHUFFLE_THRESHOLD"), (1, u "FILL_THRESHOLD"), (1, u "ROTATE_THRESHOLD"), (1, u "COPY_THRESHOLD"), (1, u "REPLACEALL_THRESHOLD"), (1, u "INDEXOFSUBLIST_THRESHOLD"), (333, .class_ 851), (0, u "java/util/Collections$CheckedMap$CheckedEntrySet"), (0, .class_ 853), (0, u "java/util/Collections$CheckedMap$CheckedEntrySet$CheckedEntry"), (0, .class_ 855), (0, u "java/util/Collections$CheckedMap$CheckedEntrySet$1"), (0, .class_ 857), (0, u "java/util/Collections$CheckedList$1"), (0, .class_ 859), (0, u "java/util/Collections$CheckedCollection$1"), (0, .class_ 861), (0, u "java/util/Collections$UnmodifiableNavigableMap$EmptyNavigableMap"), (0, .class_ 863), (0, u "java/util/Collections$UnmodifiableMap$UnmodifiableEntrySet"), (0, .class_ 865), (0, u "java/util/Collections$UnmodifiableMap$UnmodifiableEntrySet$UnmodifiableEntry"), (0, .class_ 867), (0, u "java/util/Collections$UnmodifiableMap$UnmodifiableEntrySet$UnmodifiableEntrySetSpliterator"), (0, .class_ 869), (0, u "java/util/Collections$UnmodifiableMap$UnmodifiableEntrySet$1"), (0, .class_ 871), (0, u "java/util/Collections$UnmodifiableList$1"), (0, .class_ 873), (0, u "java/util/Collections$UnmodifiableNavigableSet$EmptyNavigableSet"), (0, .class_ 875), (0, u "java/util/Collections$UnmodifiableCollection$1")] 57

def k25m0 : Method := { name := "<init>", desc := "()V", sig := { parameters := [], returnType := none }, accessFlags := 2, code := none }
/-- java/util/Collections -/
def k25 : Class := { plain "java/util/Collections" (some 0) with
  accessFlags := 33
  interfaces := #[]
  cf := some (fileOf pool25 19 #[.nestMembers #[478, 473, 469, 434, 423, 417, 393, 390, 380, 497, 494, 491, 355, 350, 344, 338, 333, 328, 850, 852, 854, 320, 325, 856, 315, 310, 305, 300, 287, 858, 284, 281, 278, 268, 271, 265, 262, 256, 250, 245, 860, 237, 231, 223, 862, 864, 866, 868, 215, 212, 870, 206, 872, 198, 190, 182, 174, 166, 874, 442, 387, 384]] #[{ accessFlags := 2, nameIndex := 5, descriptorIndex := 6, attributes := #[] }] 33 2 #[] #[{ accessFlags := 26, nameIndex := 500, descriptorIndex := 501, attributes := #[] }, { accessFlags := 26, nameIndex := 504, descriptorIndex := 501, attributes := #[] }, { accessFlags := 26, nameIndex := 506, descriptorIndex := 501, attributes := #[] }, { accessFlags := 26, nameIndex := 508, descriptorIndex := 501, attributes := #[] }, { accessFlags := 26, nameIndex := 510, descriptorIndex := 501, attributes := #[] }, { accessFlags := 26, nameIndex := 512, descriptorIndex := 501, attributes := #[] }, { accessFlags := 26, nameIndex := 514, descriptorIndex := 501, attributes := #[] }, { accessFlags := 26, nameIndex := 516, descriptorIndex := 501, attributes := #[] }, { accessFlags := 10, nameIndex := 84, descriptorIndex := 85, attributes := #[] }, { accessFlags := 25, nameIndex := 362, descriptorIndex := 363, attributes := #[] }, { accessFlags := 25, nameIndex := 370, descriptorIndex := 371, attributes := #[] }, { accessFlags := 25, nameIndex := 374, descriptorIndex := 375, attributes := #[] }])
  fields := #[{ name := "BINARYSEARCH_THRESHOLD", type := .int, accessFlags := 26, slot := 0, constantValue := 0 }, { name := "REVERSE_THRESHOLD", type := .int, accessFlags := 26, slot := 1, constantValue := 0 }, { name := "SHUFFLE_THRESHOLD", type := .int, accessFlags := 26, slot := 2, constantValue := 0 }, { name := "FILL_THRESHOLD", type := .int, accessFlags := 26, slot := 3, constantValue := 0 }, { name := "ROTATE_THRESHOLD", type := .int, accessFlags := 26, slot := 4, constantValue := 0 }, { name := "COPY_THRESHOLD", type := .int, accessFlags := 26, slot := 5, constantValue := 0 }, { name := "REPLACEALL_THRESHOLD", type := .int, accessFlags := 26, slot := 6, constantValue := 0 }, { name := "INDEXOFSUBLIST_THRESHOLD", type := .int, accessFlags := 26, slot := 7, constantValue := 0 }, { name := "r", type := (.object "java/util/Random"), accessFlags := 10, slot := 8, constantValue := 0 }, { name := "EMPTY_SET", type := (.object "java/util/Set"), accessFlags := 25, slot := 9, constantValue := 0 }, { name := "EMPTY_LIST", type := (.object "java/util/List"), accessFlags := 25, slot := 10, constantValue := 0 }, { name := "EMPTY_MAP", type := (.object "java/util/Map"), accessFlags := 25, slot := 11, constantValue := 0 }]
  methods := #[k25m0]
  instanceTypes := #[]
  staticTypes := #[.int, .int, .int, .int, .int, .int, .int, .int, (.object "java/util/Random"), (.object "java/util/Set"), (.object "java/util/List"), (.object "java/util/Map")]
  resolved := Array.replicate 933 none
  statics := some 4 }

def pool26 : Array CpInfo := pool [(8, .class_ 10), (1, u "java/lang/Iterable"), (24, .class_ 36), (0, u "java/lang/Object")] 25

/-- java/lang/Iterable -/
def k26 : Class := { plain "java/lang/Iterable" (some 0) with
  accessFlags := 1537
  interfaces := #[]
  cf := some (fileOf pool26 8 #[] #[] 1537 35 #[] #[])
  fields := #[]
  methods := #[]
  instanceTypes := #[]
  staticTypes := #[]
  resolved := Array.replicate 62 none
  statics := none }

def pool27 : Array CpInfo := pool [(10, .class_ 12), (1, u "java/util/Collection"), (47, .class_ 61), (0, u "java/lang/Object"), (0, .class_ 63), (0, u "java/lang/Iterable")] 51

/-- java/util/Collection -/
def k27 : Class := { plain "java/util/Collection" (some 0) with
  accessFlags := 1537
  interfaces := #[26]
  cf := some (fileOf pool27 10 #[] #[] 1537 60 #[62] #[])
  fields := #[]
  methods := #[]
  instanceTypes := #[]
  staticTypes := #[]
  resolved := Array.replicate 115 none
  statics := none }

def pool28 : Array CpInfo := pool [(2, .class_ 4), (1, u "java/lang/Object"), (0, u "<init>"), (0, u "()V"), (1, .class_ 10), (1, u "java/util/AbstractCollection"), (66, .class_ 78), (0, u "java/util/Collection")] 81

def k28m0 : Method := { name := "<init>", desc := "()V", sig := { parameters := [], returnType := none }, accessFlags := 4, code := none }
/-- java/util/AbstractCollection -/
def k28 : Class := { plain "java/util/AbstractCollection" (some 0) with
  accessFlags := 1057
  interfaces := #[27]
  cf := some (fileOf pool28 8 #[] #[{ accessFlags := 4, nameIndex := 5, descriptorIndex := 6, attributes := #[] }] 1057 2 #[77] #[])
  fields := #[]
  methods := #[k28m0]
  instanceTypes := #[]
  staticTypes := #[]
  resolved := Array.replicate 160 none
  statics := none }

def pool29 : Array CpInfo := pool [(8, .class_ 10), (1, u "java/util/SequencedCollection"), (15, .class_ 27), (0, u "java/lang/Object"), (0, .class_ 29), (0, u "java/util/Collection")] 27

/-- java/util/SequencedCollection -/
def k29 : Class := { plain "java/util/SequencedCollection" (some 0) with
  accessFlags := 1537
  interfaces := #[27]
  cf := some (fileOf pool29 8 #[] #[] 1537 26 #[28] #[])
  fields := #[]
  methods := #[]
  instanceTypes := #[]
  staticTypes := #[]
  resolved := Array.replicate 57 none
  statics := none }

def pool30 : Array CpInfo := pool [(8, .class_ 10), (1, u "java/util/List"), (92, .class_ 104), (0, u "java/lang/Object"), (15, .class_ 121), (0, u "java/util/SequencedCollection")] 129

/-- java/util/List -/
def k30 : Class := { plain "java/util/List" (some 0) with
  accessFlags := 1537
  interfaces := #[29]
  cf := some (fileOf pool30 8 #[] #[] 1537 103 #[120] #[])
  fields := #[]
  methods := #[]
  instanceTypes := #[]
  staticTypes := #[]
  resolved := Array.replicate 251 none
  statics := none }

def pool31 : Array CpInfo := pool [(2, .class_ 4), (1, u "java/util/AbstractCollection"), (0, u "<init>"), (0, u "()V"), (1, .class_ 10), (1, u "java/util/AbstractList"), (0, u "modCount"), (0, u "I"), (64, .class_ 78), (0, u "java/util/AbstractList$Itr"), (3, .class_ 83), (0, u "java/util/AbstractList$ListItr"), (9, .class_ 94), (0, u "java/util/AbstractList$RandomAccessSubList"), (3, .class_ 99), (0, u "java/util/AbstractList$SubList"), (33, .class_ 134), (0, u "java/util/List"), (73, .class_ 209), (0, u "java/util/AbstractList$SubList$1"), (0, .class_ 211), (0, u "java/util/AbstractList$RandomAccessSpliterator")] 6

def k31m0 : Method := { name := "<init>", desc := "()V", sig := { parameters := [], returnType := none }, accessFlags := 4, code := none }
/-- java/util/AbstractList -/
def k31 : Class := { plain "java/util/AbstractList" (some 28) with
  accessFlags := 1057
  interfaces := #[30]
  cf := some (fileOf pool31 8 #[.nestMembers #[93, 98, 208, 210, 82, 77]] #[{ accessFlags := 4, nameIndex := 5, descriptorIndex := 6, attributes := #[] }] 1057 2 #[133] #[{ accessFlags := 132, nameIndex := 11, descriptorIndex := 12, attributes := #[] }])
  fields := #[{ name := "modCount", type := .int, accessFlags := 132, slot := 0, constantValue := 0 }]
  methods := #[k31m0]
  instanceTypes := #[.int]
  staticTypes := #[]
  resolved := Array.replicate 218 none
  statics := none }

def pool32 : Array CpInfo := pool [(1, .class_ 2), (0, u "java/util/RandomAccess"), (0, .class_ 4), (0, u "java/lang/Object")] 2

/-- java/util/RandomAccess -/
def k32 : Class := { plain "java/util/RandomAccess" (some 0) with
  accessFlags := 1537
  interfaces := #[]
  cf := some (fileOf pool32 1 #[] #[] 1537 3 #[] #[])
  fields := #[]
  methods := #[]
  instanceTypes := #[]
  staticTypes := #[]
  resolved := Array.replicate 7 none
  statics := none }

def pool33 : Array CpInfo := pool [(2, .class_ 4), (1, u "java/util/AbstractList"), (0, u "<init>"), (0, u "()V"), (1, .class_ 10), (1, u "java/util/Collections"), (54, .class_ 66), (0, u "java/util/Collections$EmptyList"), (0, .class_ 68), (0, u "java/util/RandomAccess"), (0, .class_ 70), (0, u "java/io/Serializable"), (0, u "serialVersionUID"), (0, u "J")] 77

def k33m0 : Method := { name := "<init>", desc := "()V", sig := { parameters := [], returnType := none }, accessFlags := 2, code := none }
/-- java/util/Collections$EmptyList -/
def k33 : Class := { plain "java/util/Collections$EmptyList" (some 31) with
  accessFlags := 32
  interfaces := #[32, 2]
  cf := some (fileOf pool33 65 #[.nestHost 8] #[{ accessFlags := 2, nameIndex := 5, descriptorIndex := 6, attributes := #[] }] 32 2 #[67, 69] #[{ accessFlags := 26, nameIndex := 71, descriptorIndex := 72, attributes := #[] }])
  fields := #[{ name := "serialVersionUID", type := .long, accessFlags := 26, slot := 0, constantValue := 0 }]
  methods := #[k33m0]
  instanceTypes := #[.int]
  staticTypes := #[.long]
  resolved := Array.replicate 150 none
  statics := none }

def pool34 : Array CpInfo := pool [(2, .class_ 4), (1, u "java/lang/StackTraceElement"), (0, u "<init>"), (2, .class_ 10), (1, u "java/lang/Object"), (0, u "()V"), (2, u "format"), (0, u "B"), (2, u "classLoaderName"), (0, u "Ljava/lang/String;"), (2, u "moduleName"), (2, u "moduleVersion"), (12, u "declaringClass"), (4, u "methodName"), (2, u "fileName"), (2, u "lineNumber"), (0, u "I"), (65, u "declaringClassObject"), (0, u "Ljava/lang/Class;"), (33, .class_ 153), (1, u "java/lang/StackTraceElement$HashedModules"), (17, .class_ 172), (0, u "java/io/Serializable"), (0, u "NATIVE_METHOD"), (1, u "UNKNOWN_SOURCE"), (2, u "BUILTIN_CLASS_LOADER"), (1, u "JDK_NON_UPGRADEABLE_MODULE"), (1, u "serialVersionUID"), (0, u "J")] 51

def k34m0 : Method := { name := "<init>", desc := "()V", sig := { parameters := [], returnType := none }, accessFlags := 2, code := none }
/-- java/lang/StackTraceElement -/
def k34 : Class := { plain "java/lang/StackTraceElement" (some 0) with
  accessFlags := 49
  interfaces := #[2]
  cf := some (fileOf pool34 2 #[.nestMembers #[151]] #[{ accessFlags := 2, nameIndex := 5, descriptorIndex := 11, attributes := #[] }] 49 8 #[171] #[{ accessFlags := 26, nameIndex := 173, descriptorIndex := 19, attributes := #[] }, { accessFlags := 26, nameIndex := 175, descriptorIndex := 19, attributes := #[] }, { accessFlags := 130, nameIndex := 116, descriptorIndex := 117, attributes := #[] }, { accessFlags := 2, nameIndex := 18, descriptorIndex := 19, attributes := #[] }, { accessFlags := 2, nameIndex := 22, descriptorIndex := 19, attributes := #[] }, { accessFlags := 2, nameIndex := 25, descriptorIndex := 19, attributes := #[] }, { accessFlags := 2, nameIndex := 38, descriptorIndex := 19, attributes := #[] }, { accessFlags := 2, nameIndex := 43, descriptorIndex := 19, attributes := #[] }, { accessFlags := 2, nameIndex := 46, descriptorIndex := 19, attributes := #[] }, { accessFlags := 2, nameIndex := 49, descriptorIndex := 50, attributes := #[] }, { accessFlags := 2, nameIndex := 14, descriptorIndex := 15, attributes := #[] }, { accessFlags := 26, nameIndex := 178, descriptorIndex := 15, attributes := #[] }, { accessFlags := 26, nameIndex := 180, descriptorIndex := 15, attributes := #[] }, { accessFlags := 26, nameIndex := 182, descriptorIndex := 183, attributes := #[] }])
  fields := #[{ name := "NATIVE_METHOD", type := (.object "java/lang/String"), accessFlags := 26, slot := 0, constantValue := 0 }, { name := "UNKNOWN_SOURCE", type := (.object "java/lang/String"), accessFlags := 26, slot := 1, constantValue := 0 }, { name := "declaringClassObject", type := (.object "java/lang/Class"), accessFlags := 130, slot := 0, constantValue := 0 }, { name := "classLoaderName", type := (.object "java/lang/String"), accessFlags := 2, slot := 1, constantValue := 0 }, { name := "moduleName", type := (.object "java/lang/String"), accessFlags := 2, slot := 2, constantValue := 0 }, { name := "moduleVersion", type := (.object "java/lang/String"), accessFlags := 2, slot := 3, constantValue := 0 }, { name := "declaringClass", type := (.object "java/lang/String"), accessFlags := 2, slot := 4, constantValue := 0 }, { name := "methodName", type := (.object "java/lang/String"), accessFlags := 2, slot := 5, constantValue := 0 }, { name := "fileName", type := (.object "java/lang/String"), accessFlags := 2, slot := 6, constantValue := 0 }, { name := "lineNumber", type := .int, accessFlags := 2, slot := 7, constantValue := 0 }, { name := "format", type := .byte, accessFlags := 2, slot := 8, constantValue := 0 }, { name := "BUILTIN_CLASS_LOADER", type := .byte, accessFlags := 26, slot := 2, constantValue := 0 }, { name := "JDK_NON_UPGRADEABLE_MODULE", type := .byte, accessFlags := 26, slot := 3, constantValue := 0 }, { name := "serialVersionUID", type := .long, accessFlags := 26, slot := 4, constantValue := 0 }]
  methods := #[k34m0]
  instanceTypes := #[(.object "java/lang/Class"), (.object "java/lang/String"), (.object "java/lang/String"), (.object "java/lang/String"), (.object "java/lang/String"), (.object "java/lang/String"), (.object "java/lang/String"), .int, .byte]
  staticTypes := #[(.object "java/lang/String"), (.object "java/lang/String"), .byte, .byte, .long]
  resolved := Array.replicate 235 none
  statics := none }

def pool35 : Array CpInfo := pool [(1, u "java/lang/Cloneable"), (0, .class_ 1), (0, u "java/lang/Object"), (0, .class_ 3)] 3

/-- java/lang/Cloneable -/
def k35 : Class := { plain "java/lang/Cloneable" (some 0) with
  accessFlags := 1537
  interfaces := #[]
  cf := some (fileOf pool35 2 #[] #[] 1537 4 #[] #[])
  fields := #[]
  methods := #[]
  instanceTypes := #[]
  staticTypes := #[]
  resolved := Array.replicate 8 none
  statics := none }

/-- the primitive byte -/
def k36 : Class := { plain "byte" none with kind := .primitive 'B', accessFlags := 0x411 }
/-- [B -/
def k37 : Class := { plain "[B" (some 0) with kind := .array 36 .byte, interfaces := #[35, 2], accessFlags := 1041 }

/-- the primitive char -/
def k38 : Class := { plain "char" none with kind := .primitive 'C', accessFlags := 0x411 }
/-- [C -/
def k39 : Class := { plain "[C" (some 0) with kind := .array 38 .char, interfaces := #[35, 2], accessFlags := 1041 }

/-- the primitive int -/
def k40 : Class := { plain "int" none with kind := .primitive 'I', accessFlags := 0x411 }
/-- [I -/
def k41 : Class := { plain "[I" (some 0) with kind := .array 40 .int, interfaces := #[35, 2], accessFlags := 1041 }

/-- [Ljava/lang/Object; -/
def k42 : Class := { plain "[Ljava/lang/Object;" (some 0) with kind := .array 0 (.object "java/lang/Object"), interfaces := #[35, 2], accessFlags := 1041 }

/-- [Ljava/lang/StackTraceElement; -/
def k43 : Class := { plain "[Ljava/lang/StackTraceElement;" (some 0) with kind := .array 34 (.object "java/lang/StackTraceElement"), interfaces := #[35, 2], accessFlags := 1041 }

/-- [Ljava/lang/Throwable; -/
def k44 : Class := { plain "[Ljava/lang/Throwable;" (some 0) with kind := .array 9 (.object "java/lang/Throwable"), interfaces := #[35, 2], accessFlags := 1041 }

def heap : Heap := #[{ cls := 7, slots := #[.long 0, .int 1, .null, .int 0, .null, .int 0, .int 0], vm := .statics 7 },
  { cls := 9, slots := #[.long 0, .ref 7, .ref 8, .null, .null, .null, .null, .ref 9, .int 1], vm := .statics 9 },
  { cls := 20, slots := #[.ref 5, .null, .ref 6, .null], vm := .statics 20 },
  { cls := 23, slots := #[.null, .null, .null], vm := .statics 23 },
  { cls := 25, slots := #[.int 0, .int 0, .int 0, .int 0, .int 0, .int 0, .int 0, .int 0, .null, .null, .ref 8, .null], vm := .statics 25 },
  { cls := 20, slots := #[.null, .int 0, .int 0], vm := .none },
  { cls := 20, slots := #[.null, .int 2, .int 0], vm := .none },
  { cls := 43, slots := #[], vm := .none },
  { cls := 33, slots := #[.int 0], vm := .none },
  { cls := 44, slots := #[], vm := .none }]
def classes : Array Class := #[k0, k1, k2, k3, k4, k5, k6, k7, k8, k9, k10, k11, k12, k13, k14, k15, k16, k17, k18, k19, k20, k21, k22, k23, k24, k25, k26, k27, k28, k29, k30, k31, k32, k33, k34, k35, k36, k37, k38, k39, k40, k41, k42, k43, k44]
def interned : List (Array UInt16 × Addr) := []
def slotsUsed : Nat := 42
def theMethod : MethodId := ⟨1, 1⟩
def args0 : Array Value := #[.int 5, .int 5, .int 5]
def aboutOver (below : List Frame) : State where
  vm := { classes := classes, interned := interned.toArray }
  heap := heap
  slotsUsed := slotsUsed
  threads := #[{ frames := .invoking theMethod args0 :: below }]
def below0 : List Frame := [.native { method := ⟨0, 0⟩, args := #[] }]
def about1 : State := aboutOver below0
def p0 : Program := .bare "" "" ""
def e0 : Env := launch0.env 0 0 0
theorem w_frames : about1.frames = Frame.invoking theMethod args0 :: below0 := rfl
set_option maxRecDepth 65536 in
theorem w_args : argsFit about1.vm theMethod args0 = true := by decide +kernel
set_option maxRecDepth 65536 in
theorem w_heap : heapFits about1 = true := by decide +kernel
set_option maxRecDepth 65536 in
theorem w_runnable : about1.curStatus? = some .runnable := by decide +kernel
set_option maxRecDepth 65536 in
theorem w_alone : about1.alone = true := by decide +kernel
set_option maxRecDepth 65536 in
theorem w_named : about1.methodNamed? x = some theMethod := by decide +kernel
set_option maxRecDepth 65536 in
theorem w_hears : about1.hears theMethod below0 = true := by decide +kernel
set_option maxRecDepth 65536 in
theorem w_ripe : about1.ripe theMethod args0 below0 = true := by decide +kernel
theorem w_running : about1.status = .running := rfl
set_option maxRecDepth 65536 in
theorem w_room : about1.hasRoom e0.platform room_1 = true :=
  launch0.hasRoom_least _ room_1 (by decide +kernel) (by decide +kernel) (by decide +kernel) (by decide +kernel) (by decide +kernel) (by decide +kernel)
theorem allAtoms_all (ts : List Jvm.Cond) (a : Array Jvm.Value) (st : Jvm.State) : (allAtoms ts).before a st = ts.all (fun c => c.before a st) := by
  induction ts with
  | nil => rfl
  | cons c t ih =>
    show (Jvm.Cond.and c (allAtoms t)).before a st = _
    rw [Jvm.Cond.before_and, ih, List.all_cons]
def words1 : List Jvm.Cond := Jvm.Cond.code x code maxLocals ret :: tables_1
/-- a 'code' word, met by the world's own term for the bytes: nothing is compared byte by byte -/
theorem code_word {y : MethodName} {bytes : ByteArray} {mx : Nat} {rt : Option FieldType} {a : Array Value} {s : State} {m : MethodId} {meth : Method} {c : Code} (h1 : s.methodNamed? y = some m) (h2 : s.vm.method? m = some meth) (h3 : meth.code = some c) (h4 : c.code = bytes)
    (h5 : (c.maxLocals == mx && c.exceptionTable.isEmpty && decide (c.maxStack ≤ mostOperands) && decide (meth.sig.returnType = rt) && !meth.locks && decide (parseMethodDescriptor y.desc = some meth.sig)) = true) : (Jvm.Cond.code y bytes mx rt).before a s = true := by
  simp only [Bool.and_eq_true, beq_iff_eq, Bool.not_eq_true', decide_eq_true_eq] at h5
  obtain ⟨⟨⟨⟨⟨g1, g2⟩, g3⟩, g4⟩, g5⟩, g6⟩ := h5
  simp [Cond.before, Cond.holds, Cond.value, h1, h2, h3, h4, g1, g2, g3, g4, g5, g6]
def isCode : Jvm.Cond → Bool
  | .code _ _ _ _ => true
  | _ => false
theorem all_split {L : List Jvm.Cond} {P : Jvm.Cond → Bool} (h1 : L.all (fun c => isCode c || P c) = true) (h2 : ∀ c ∈ L.filter isCode, P c = true) : L.all P = true := by
  refine List.all_eq_true.mpr fun c hc => ?_
  have h := List.all_eq_true.mp h1 c hc
  rcases Bool.eq_false_or_eq_true (isCode c) with hi | hi
  · exact h2 c (List.mem_filter.mpr ⟨hc, hi⟩)
  · simpa [hi] using h
set_option maxRecDepth 65536 in
theorem w_c0 : (Jvm.Cond.code x code maxLocals ret).before args0 about1 = true := code_word (m := ⟨1, 1⟩) (meth := k1m1) (c := k1c1) (by decide +kernel) rfl rfl rfl (by decide +kernel)
set_option maxRecDepth 65536 in
theorem w_c1 : (Jvm.Cond.code ({ cls := "java/lang/String", name := "<init>", desc := "([C)V" } : Jvm.MethodName) jdk_42_method_3_code (2 : Nat) (Option.none : Option Jvm.ClassFile.FieldType)).before args0 about1 = true := code_word (m := ⟨7, 1⟩) (meth := k7m1) (c := k7c1) (by decide +kernel) rfl rfl rfl (by decide +kernel)
set_option maxRecDepth 65536 in
theorem w_c2 : (Jvm.Cond.code ({ cls := "java/lang/String", name := "<init>", desc := "([CIILjava/lang/Void;)V" } : Jvm.MethodName) jdk_42_method_149_code (6 : Nat) (Option.none : Option Jvm.ClassFile.FieldType)).before args0 about1 = true := code_word (m := ⟨7, 7⟩) (meth := k7m7) (c := k7c7) (by decide +kernel) rfl rfl rfl (by decide +kernel)
set_option maxRecDepth 65536 in
theorem w_c3 : (Jvm.Cond.code ({ cls := "java/lang/Object", name := "<init>", desc := "()V" } : Jvm.MethodName) object_method_1_code (1 : Nat) (Option.none : Option Jvm.ClassFile.FieldType)).before args0 about1 = true := code_word (m := ⟨0, 0⟩) (meth := k0m0) (c := k0c0) (by decide +kernel) rfl rfl rfl (by decide +kernel)
set_option maxRecDepth 65536 in
theorem w_c4 : (Jvm.Cond.code ({ cls := "java/lang/StringUTF16", name := "compress", desc := "([CII)[B" } : Jvm.MethodName) jdk_52_method_16_code (6 : Nat) (Option.some (Jvm.ClassFile.FieldType.array Jvm.ClassFile.FieldType.byte))).before args0 about1 = true := code_word (m := ⟨8, 2⟩) (meth := k8m2) (c := k8c2) (by decide +kernel) rfl rfl rfl (by decide +kernel)
set_option maxRecDepth 65536 in
theorem w_c5 : (Jvm.Cond.code ({ cls := "java/lang/StringUTF16", name := "compress", desc := "([CI[BII)I" } : Jvm.MethodName) jdk_52_method_21_code (7 : Nat) (Option.some Jvm.ClassFile.FieldType.int)).before args0 about1 = true := code_word (m := ⟨8, 3⟩) (meth := k8m3) (c := k8c3) (by decide +kernel) rfl rfl rfl (by decide +kernel)
set_option maxRecDepth 65536 in
theorem w_c6 : (Jvm.Cond.code ({ cls := "java/lang/StringUTF16", name := "coderFromArrayLen", desc := "([BI)B" } : Jvm.MethodName) jdk_52_method_15_code (2 : Nat) (Option.some Jvm.ClassFile.FieldType.byte)).before args0 about1 = true := code_word (m := ⟨8, 1⟩) (meth := k8m1) (c := k8c1) (by decide +kernel) rfl rfl rfl (by decide +kernel)
set_option maxRecDepth 65536 in
theorem w_c7 : (Jvm.Cond.code ({ cls := "com/example/vestwright/vestwright/run/RunRefusedException", name := "noElections", desc := "(Ljava/lang/String;Ljava/lang/String;Z)Lcom/example/vestwright/vestwright/run/RunRefusedException;" } : Jvm.MethodName) prog_47_method_4_code (4 : Nat) (Option.some (Jvm.ClassFile.FieldType.object "com/example/vestwright/vestwright/run/RunRefusedException"))).before args0 about1 = true := code_word (m := ⟨11, 1⟩) (meth := k11m1) (c := k11c1) (by decide +kernel) rfl rfl rfl (by decide +kernel)
set_option maxRecDepth 65536 in
theorem w_c8 : (Jvm.Cond.code ({ cls := "java/lang/StringBuilder", name := "<init>", desc := "()V" } : Jvm.MethodName) jdk_67_method_1_code (1 : Nat) (Option.none : Option Jvm.ClassFile.FieldType)).before args0 about1 = true := code_word (m := ⟨14, 0⟩) (meth := k14m0) (c := k14c0) (by decide +kernel) rfl rfl rfl (by decide +kernel)
set_option maxRecDepth 65536 in
theorem w_c9 : (Jvm.Cond.code ({ cls := "java/lang/AbstractStringBuilder", name := "<init>", desc := "(I)V" } : Jvm.MethodName) jdk_68_method_2_code (2 : Nat) (Option.none : Option Jvm.ClassFile.FieldType)).before args0 about1 = true := code_word (m := ⟨13, 1⟩) (meth := k13m1) (c := k13c1) (by decide +kernel) rfl rfl rfl (by decide +kernel)
set_option maxRecDepth 65536 in
theorem w_c10 : (Jvm.Cond.code ({ cls := "java/lang/StringBuilder", name := "append", desc := "(Ljava/lang/String;)Ljava/lang/StringBuilder;" } : Jvm.MethodName) jdk_67_method_7_code (2 : Nat) (Option.some (Jvm.ClassFile.FieldType.object "java/lang/StringBuilder"))).before args0 about1 = true := code_word (m := ⟨14, 1⟩) (meth := k14m1) (c := k14c1) (by decide +kernel) rfl rfl rfl (by decide +kernel)
set_option maxRecDepth 65536 in
theorem w_c11 : (Jvm.Cond.code ({ cls := "java/lang/AbstractStringBuilder", name := "append", desc := "(Ljava/lang/String;)Ljava/lang/AbstractStringBuilder;" } : Jvm.MethodName) jdk_68_method_22_code (3 : Nat) (Option.some (Jvm.ClassFile.FieldType.object "java/lang/AbstractStringBuilder"))).before args0 about1 = true := code_word (m := ⟨13, 5⟩) (meth := k13m5) (c := k13c5) (by decide +kernel) rfl rfl rfl (by decide +kernel)
set_option maxRecDepth 65536 in
theorem w_c12 : (Jvm.Cond.code ({ cls := "java/lang/String", name := "length", desc := "()I" } : Jvm.MethodName) jdk_42_method_54_code (1 : Nat) (Option.some Jvm.ClassFile.FieldType.int)).before args0 about1 = true := code_word (m := ⟨7, 3⟩) (meth := k7m3) (c := k7c3) (by decide +kernel) rfl rfl rfl (by decide +kernel)
set_option maxRecDepth 65536 in
theorem w_c13 : (Jvm.Cond.code ({ cls := "java/lang/String", name := "coder", desc := "()B" } : Jvm.MethodName) jdk_42_method_152_code (1 : Nat) (Option.some Jvm.ClassFile.FieldType.byte)).before args0 about1 = true := code_word (m := ⟨7, 9⟩) (meth := k7m9) (c := k7c9) (by decide +kernel) rfl rfl rfl (by decide +kernel)
set_option maxRecDepth 65536 in
theorem w_c14 : (Jvm.Cond.code ({ cls := "java/lang/AbstractStringBuilder", name := "ensureCapacityInternal", desc := "(I)V" } : Jvm.MethodName) jdk_68_method_9_code (3 : Nat) (Option.none : Option Jvm.ClassFile.FieldType)).before args0 about1 = true := code_word (m := ⟨13, 3⟩) (meth := k13m3) (c := k13c3) (by decide +kernel) rfl rfl rfl (by decide +kernel)
set_option maxRecDepth 65536 in
theorem w_c15 : (Jvm.Cond.code ({ cls := "java/lang/AbstractStringBuilder", name := "newCapacity", desc := "(I)I" } : Jvm.MethodName) jdk_68_method_10_code (6 : Nat) (Option.some Jvm.ClassFile.FieldType.int)).before args0 about1 = true := code_word (m := ⟨13, 4⟩) (meth := k13m4) (c := k13c4) (by decide +kernel) rfl rfl rfl (by decide +kernel)
set_option maxRecDepth 65536 in
theorem w_c16 : (Jvm.Cond.code ({ cls := "jdk/internal/util/ArraysSupport", name := "newLength", desc := "(III)I" } : Jvm.MethodName) jdk_48_method_27_code (4 : Nat) (Option.some Jvm.ClassFile.FieldType.int)).before args0 about1 = true := code_word (m := ⟨15, 1⟩) (meth := k15m1) (c := k15c1) (by decide +kernel) rfl rfl rfl (by decide +kernel)
set_option maxRecDepth 65536 in
theorem w_c17 : (Jvm.Cond.code ({ cls := "java/lang/Math", name := "max", desc := "(II)I" } : Jvm.MethodName) jdk_29_method_65_code (2 : Nat) (Option.some Jvm.ClassFile.FieldType.int)).before args0 about1 = true := code_word (m := ⟨16, 1⟩) (meth := k16m1) (c := k16c1) (by decide +kernel) rfl rfl rfl (by decide +kernel)
set_option maxRecDepth 65536 in
theorem w_c18 : (Jvm.Cond.code ({ cls := "java/util/Arrays", name := "copyOf", desc := "([BI)[B" } : Jvm.MethodName) jdk_65_method_121_code (3 : Nat) (Option.some (Jvm.ClassFile.FieldType.array Jvm.ClassFile.FieldType.byte))).before args0 about1 = true := code_word (m := ⟨17, 1⟩) (meth := k17m1) (c := k17c1) (by decide +kernel) rfl rfl rfl (by decide +kernel)
set_option maxRecDepth 65536 in
theorem w_c19 : (Jvm.Cond.code ({ cls := "java/lang/Math", name := "min", desc := "(II)I" } : Jvm.MethodName) jdk_29_method_69_code (2 : Nat) (Option.some Jvm.ClassFile.FieldType.int)).before args0 about1 = true := code_word (m := ⟨16, 2⟩) (meth := k16m2) (c := k16c2) (by decide +kernel) rfl rfl rfl (by decide +kernel)
set_option maxRecDepth 65536 in
theorem w_c20 : (Jvm.Cond.code ({ cls := "java/lang/AbstractStringBuilder", name := "putStringAt", desc := "(ILjava/lang/String;)V" } : Jvm.MethodName) jdk_68_method_73_code (3 : Nat) (Option.none : Option Jvm.ClassFile.FieldType)).before args0 about1 = true := code_word (m := ⟨13, 9⟩) (meth := k13m9) (c := k13c9) (by decide +kernel) rfl rfl rfl (by decide +kernel)
set_option maxRecDepth 65536 in
theorem w_c21 : (Jvm.Cond.code ({ cls := "java/lang/AbstractStringBuilder", name := "inflateIfNeededFor", desc := "(Ljava/lang/String;)V" } : Jvm.MethodName) jdk_68_method_71_code (2 : Nat) (Option.none : Option Jvm.ClassFile.FieldType)).before args0 about1 = true := code_word (m := ⟨13, 8⟩) (meth := k13m8) (c := k13c8) (by decide +kernel) rfl rfl rfl (by decide +kernel)
set_option maxRecDepth 65536 in
theorem w_c22 : (Jvm.Cond.code ({ cls := "java/lang/String", name := "getBytes", desc := "([BIB)V" } : Jvm.MethodName) jdk_42_method_147_code (4 : Nat) (Option.none : Option Jvm.ClassFile.FieldType)).before args0 about1 = true := code_word (m := ⟨7, 6⟩) (meth := k7m6) (c := k7c6) (by decide +kernel) rfl rfl rfl (by decide +kernel)
set_option maxRecDepth 65536 in
theorem w_c23 : (Jvm.Cond.code ({ cls := "java/lang/StringBuilder", name := "toString", desc := "()Ljava/lang/String;" } : Jvm.MethodName) jdk_67_method_42_code (1 : Nat) (Option.some (Jvm.ClassFile.FieldType.object "java/lang/String"))).before args0 about1 = true := code_word (m := ⟨14, 2⟩) (meth := k14m2) (c := k14c2) (by decide +kernel) rfl rfl rfl (by decide +kernel)
set_option maxRecDepth 65536 in
theorem w_c24 : (Jvm.Cond.code ({ cls := "java/lang/String", name := "<init>", desc := "(Ljava/lang/StringBuilder;)V" } : Jvm.MethodName) jdk_42_method_53_code (2 : Nat) (Option.none : Option Jvm.ClassFile.FieldType)).before args0 about1 = true := code_word (m := ⟨7, 2⟩) (meth := k7m2) (c := k7c2) (by decide +kernel) rfl rfl rfl (by decide +kernel)
set_option maxRecDepth 65536 in
theorem w_c25 : (Jvm.Cond.code ({ cls := "java/lang/String", name := "<init>", desc := "(Ljava/lang/AbstractStringBuilder;Ljava/lang/Void;)V" } : Jvm.MethodName) jdk_42_method_150_code (5 : Nat) (Option.none : Option Jvm.ClassFile.FieldType)).before args0 about1 = true := code_word (m := ⟨7, 8⟩) (meth := k7m8) (c := k7c8) (by decide +kernel) rfl rfl rfl (by decide +kernel)
set_option maxRecDepth 65536 in
theorem w_c26 : (Jvm.Cond.code ({ cls := "java/lang/AbstractStringBuilder", name := "getValue", desc := "()[B" } : Jvm.MethodName) jdk_68_method_64_code (1 : Nat) (Option.some (Jvm.ClassFile.FieldType.array Jvm.ClassFile.FieldType.byte))).before args0 about1 = true := code_word (m := ⟨13, 6⟩) (meth := k13m6) (c := k13c6) (by decide +kernel) rfl rfl rfl (by decide +kernel)
set_option maxRecDepth 65536 in
theorem w_c27 : (Jvm.Cond.code ({ cls := "java/lang/StringBuilder", name := "length", desc := "()I" } : Jvm.MethodName) jdk_67_method_93_code (1 : Nat) (Option.some Jvm.ClassFile.FieldType.int)).before args0 about1 = true := code_word (m := ⟨14, 3⟩) (meth := k14m3) (c := k14c3) (by decide +kernel) rfl rfl rfl (by decide +kernel)
set_option maxRecDepth 65536 in
theorem w_c28 : (Jvm.Cond.code ({ cls := "java/lang/AbstractStringBuilder", name := "length", desc := "()I" } : Jvm.MethodName) jdk_68_method_6_code (1 : Nat) (Option.some Jvm.ClassFile.FieldType.int)).before args0 about1 = true := code_word (m := ⟨13, 2⟩) (meth := k13m2) (c := k13c2) (by decide +kernel) rfl rfl rfl (by decide +kernel)
set_option maxRecDepth 65536 in
theorem w_c29 : (Jvm.Cond.code ({ cls := "java/lang/AbstractStringBuilder", name := "isLatin1", desc := "()Z" } : Jvm.MethodName) jdk_68_method_68_code (1 : Nat) (Option.some Jvm.ClassFile.FieldType.boolean)).before args0 about1 = true := code_word (m := ⟨13, 7⟩) (meth := k13m7) (c := k13c7) (by decide +kernel) rfl rfl rfl (by decide +kernel)
set_option maxRecDepth 65536 in
theorem w_c30 : (Jvm.Cond.code ({ cls := "java/util/Arrays", name := "copyOfRange", desc := "([BII)[B" } : Jvm.MethodName) jdk_65_method_132_code (3 : Nat) (Option.some (Jvm.ClassFile.FieldType.array Jvm.ClassFile.FieldType.byte))).before args0 about1 = true := code_word (m := ⟨17, 3⟩) (meth := k17m3) (c := k17c3) (by decide +kernel) rfl rfl rfl (by decide +kernel)
set_option maxRecDepth 65536 in
theorem w_c31 : (Jvm.Cond.code ({ cls := "java/util/Arrays", name := "copyOfRangeByte", desc := "([BII)[B" } : Jvm.MethodName) jdk_65_method_133_code (5 : Nat) (Option.some (Jvm.ClassFile.FieldType.array Jvm.ClassFile.FieldType.byte))).before args0 about1 = true := code_word (m := ⟨17, 4⟩) (meth := k17m4) (c := k17c4) (by decide +kernel) rfl rfl rfl (by decide +kernel)
set_option maxRecDepth 65536 in
theorem w_c32 : (Jvm.Cond.code ({ cls := "java/util/Arrays", name := "checkLength", desc := "(II)V" } : Jvm.MethodName) jdk_65_method_131_code (2 : Nat) (Option.none : Option Jvm.ClassFile.FieldType)).before args0 about1 = true := code_word (m := ⟨17, 2⟩) (meth := k17m2) (c := k17c2) (by decide +kernel) rfl rfl rfl (by decide +kernel)
set_option maxRecDepth 65536 in
theorem w_c33 : (Jvm.Cond.code ({ cls := "com/example/vestwright/vestwright/Quote", name := "name", desc := "(Ljava/lang/String;)Ljava/lang/String;" } : Jvm.MethodName) prog_6_method_3_code (1 : Nat) (Option.some (Jvm.ClassFile.FieldType.object "java/lang/String"))).before args0 about1 = true := code_word (m := ⟨21, 1⟩) (meth := k21m1) (c := k21c1) (by decide +kernel) rfl rfl rfl (by decide +kernel)
set_option maxRecDepth 65536 in
theorem w_c34 : (Jvm.Cond.code ({ cls := "com/example/vestwright/vestwright/Quote", name := "bounded", desc := "(Ljava/lang/String;Ljava/lang/String;)Ljava/lang/String;" } : Jvm.MethodName) prog_6_method_5_code (4 : Nat) (Option.some (Jvm.ClassFile.FieldType.object "java/lang/String"))).before args0 about1 = true := code_word (m := ⟨21, 2⟩) (meth := k21m2) (c := k21c2) (by decide +kernel) rfl rfl rfl (by decide +kernel)
set_option maxRecDepth 65536 in
theorem w_c35 : (Jvm.Cond.code ({ cls := "java/lang/String", name := "codePointCount", desc := "(II)I" } : Jvm.MethodName) jdk_42_method_59_code (3 : Nat) (Option.some Jvm.ClassFile.FieldType.int)).before args0 about1 = true := code_word (m := ⟨7, 5⟩) (meth := k7m5) (c := k7c5) (by decide +kernel) rfl rfl rfl (by decide +kernel)
set_option maxRecDepth 65536 in
theorem w_c36 : (Jvm.Cond.code ({ cls := "java/util/Objects", name := "checkFromToIndex", desc := "(III)I" } : Jvm.MethodName) jdk_31_method_18_code (3 : Nat) (Option.some Jvm.ClassFile.FieldType.int)).before args0 about1 = true := code_word (m := ⟨22, 1⟩) (meth := k22m1) (c := k22c1) (by decide +kernel) rfl rfl rfl (by decide +kernel)
set_option maxRecDepth 65536 in
theorem w_c37 : (Jvm.Cond.code ({ cls := "jdk/internal/util/Preconditions", name := "checkFromToIndex", desc := "(IIILjava/util/function/BiFunction;)I" } : Jvm.MethodName) jdk_41_method_12_code (4 : Nat) (Option.some Jvm.ClassFile.FieldType.int)).before args0 about1 = true := code_word (m := ⟨23, 2⟩) (meth := k23m2) (c := k23c2) (by decide +kernel) rfl rfl rfl (by decide +kernel)
set_option maxRecDepth 65536 in
theorem w_c38 : (Jvm.Cond.code ({ cls := "java/lang/String", name := "isLatin1", desc := "()Z" } : Jvm.MethodName) jdk_42_method_154_code (1 : Nat) (Option.some Jvm.ClassFile.FieldType.boolean)).before args0 about1 = true := code_word (m := ⟨7, 10⟩) (meth := k7m10) (c := k7c10) (by decide +kernel) rfl rfl rfl (by decide +kernel)
set_option maxRecDepth 65536 in
theorem w_c39 : (Jvm.Cond.code ({ cls := "com/example/vestwright/vestwright/run/RunRefusedException", name := "<init>", desc := "(Lcom/example/vestwright/vestwright/run/RunRefusedException$Kind;Ljava/lang/String;Ljava/lang/Exception;)V" } : Jvm.MethodName) prog_47_method_1_code (4 : Nat) (Option.none : Option Jvm.ClassFile.FieldType)).before args0 about1 = true := code_word (m := ⟨11, 0⟩) (meth := k11m0) (c := k11c0) (by decide +kernel) rfl rfl rfl (by decide +kernel)
set_option maxRecDepth 65536 in
theorem w_c40 : (Jvm.Cond.code ({ cls := "java/lang/Exception", name := "<init>", desc := "(Ljava/lang/String;Ljava/lang/Throwable;)V" } : Jvm.MethodName) jdk_59_method_3_code (3 : Nat) (Option.none : Option Jvm.ClassFile.FieldType)).before args0 about1 = true := code_word (m := ⟨10, 1⟩) (meth := k10m1) (c := k10c1) (by decide +kernel) rfl rfl rfl (by decide +kernel)
set_option maxRecDepth 65536 in
theorem w_c41 : (Jvm.Cond.code ({ cls := "java/lang/Throwable", name := "<init>", desc := "(Ljava/lang/String;Ljava/lang/Throwable;)V" } : Jvm.MethodName) jdk_78_method_3_code (3 : Nat) (Option.none : Option Jvm.ClassFile.FieldType)).before args0 about1 = true := code_word (m := ⟨9, 1⟩) (meth := k9m1) (c := k9c1) (by decide +kernel) rfl rfl rfl (by decide +kernel)
set_option maxRecDepth 65536 in
theorem w_c42 : (Jvm.Cond.code ({ cls := "java/lang/Throwable", name := "<init>", desc := "()V" } : Jvm.MethodName) jdk_78_method_1_code (1 : Nat) (Option.none : Option Jvm.ClassFile.FieldType)).before args0 about1 = true := code_word (m := ⟨9, 0⟩) (meth := k9m0) (c := k9c0) (by decide +kernel) rfl rfl rfl (by decide +kernel)
set_option maxRecDepth 65536 in
theorem w_c43 : (Jvm.Cond.code ({ cls := "com/example/vestwright/vestwright/run/RunRefusedException", name := "kind", desc := "()Lcom/example/vestwright/vestwright/run/RunRefusedException$Kind;" } : Jvm.MethodName) prog_47_method_5_code (1 : Nat) (Option.some (Jvm.ClassFile.FieldType.object "com/example/vestwright/vestwright/run/RunRefusedException$Kind"))).before args0 about1 = true := code_word (m := ⟨11, 2⟩) (meth := k11m2) (c := k11c2) (by decide +kernel) rfl rfl rfl (by decide +kernel)
set_option maxRecDepth 65536 in
theorem w_c44 : (Jvm.Cond.code ({ cls := "com/example/vestwright/vestwright/run/RunRefusedException", name := "reason", desc := "()Ljava/lang/String;" } : Jvm.MethodName) prog_47_method_8_code (1 : Nat) (Option.some (Jvm.ClassFile.FieldType.object "java/lang/String"))).before args0 about1 = true := code_word (m := ⟨11, 3⟩) (meth := k11m3) (c := k11c3) (by decide +kernel) rfl rfl rfl (by decide +kernel)
set_option maxRecDepth 65536 in
theorem w_c45 : (Jvm.Cond.code ({ cls := "java/lang/Throwable", name := "getMessage", desc := "()Ljava/lang/String;" } : Jvm.MethodName) jdk_78_method_6_code (1 : Nat) (Option.some (Jvm.ClassFile.FieldType.object "java/lang/String"))).before args0 about1 = true := code_word (m := ⟨9, 2⟩) (meth := k9m2) (c := k9c2) (by decide +kernel) rfl rfl rfl (by decide +kernel)
set_option maxRecDepth 65536 in
theorem w_c46 : (Jvm.Cond.code ({ cls := "java/lang/String", name := "charAt", desc := "(I)C" } : Jvm.MethodName) jdk_42_method_56_code (2 : Nat) (Option.some Jvm.ClassFile.FieldType.char)).before args0 about1 = true := code_word (m := ⟨7, 4⟩) (meth := k7m4) (c := k7c4) (by decide +kernel) rfl rfl rfl (by decide +kernel)
set_option maxRecDepth 65536 in
theorem w_c47 : (Jvm.Cond.code ({ cls := "java/lang/StringLatin1", name := "charAt", desc := "([BI)C" } : Jvm.MethodName) jdk_43_method_2_code (2 : Nat) (Option.some Jvm.ClassFile.FieldType.char)).before args0 about1 = true := code_word (m := ⟨24, 1⟩) (meth := k24m1) (c := k24c1) (by decide +kernel) rfl rfl rfl (by decide +kernel)
set_option maxRecDepth 65536 in
theorem w_c48 : (Jvm.Cond.code ({ cls := "java/lang/String", name := "checkIndex", desc := "(II)V" } : Jvm.MethodName) jdk_42_method_155_code (2 : Nat) (Option.none : Option Jvm.ClassFile.FieldType)).before args0 about1 = true := code_word (m := ⟨7, 11⟩) (meth := k7m11) (c := k7c11) (by decide +kernel) rfl rfl rfl (by decide +kernel)
set_option maxRecDepth 65536 in
theorem w_c49 : (Jvm.Cond.code ({ cls := "jdk/internal/util/Preconditions", name := "checkIndex", desc := "(IILjava/util/function/BiFunction;)I" } : Jvm.MethodName) jdk_41_method_11_code (3 : Nat) (Option.some Jvm.ClassFile.FieldType.int)).before args0 about1 = true := code_word (m := ⟨23, 1⟩) (meth := k23m1) (c := k23c1) (by decide +kernel) rfl rfl rfl (by decide +kernel)
def codes1 : List Jvm.Cond := [Jvm.Cond.code x code maxLocals ret, Jvm.Cond.code ({ cls := "java/lang/String", name := "<init>", desc := "([C)V" } : Jvm.MethodName) jdk_42_method_3_code (2 : Nat) (Option.none : Option Jvm.ClassFile.FieldType), Jvm.Cond.code ({ cls := "java/lang/String", name := "<init>", desc := "([CIILjava/lang/Void;)V" } : Jvm.MethodName) jdk_42_method_149_code (6 : Nat) (Option.none : Option Jvm.ClassFile.FieldType), Jvm.Cond.code ({ cls := "java/lang/Object", name := "<init>", desc := "()V" } : Jvm.MethodName) object_method_1_code (1 : Nat) (Option.none : Option Jvm.ClassFile.FieldType), Jvm.Cond.code ({ cls := "java/lang/StringUTF16", name := "compress", desc := "([CII)[B" } : Jvm.MethodName) jdk_52_method_16_code (6 : Nat) (Option.some (Jvm.ClassFile.FieldType.array Jvm.ClassFile.FieldType.byte)), Jvm.Cond.code ({ cls := "java/lang/StringUTF16", name := "compress", desc := "([CI[BII)I" } : Jvm.MethodName) jdk_52_method_21_code (7 : Nat) (Option.some Jvm.ClassFile.FieldType.int), Jvm.Cond.code ({ cls := "java/lang/StringUTF16", name := "coderFromArrayLen", desc := "([BI)B" } : Jvm.MethodName) jdk_52_method_15_code (2 : Nat) (Option.some Jvm.ClassFile.FieldType.byte), Jvm.Cond.code ({ cls := "com/example/vestwright/vestwright/run/RunRefusedException", name := "noElections", desc := "(Ljava/lang/String;Ljava/lang/String;Z)Lcom/example/vestwright/vestwright/run/RunRefusedException;" } : Jvm.MethodName) prog_47_method_4_code (4 : Nat) (Option.some (Jvm.ClassFile.FieldType.object "com/example/vestwright/vestwright/run/RunRefusedException")), Jvm.Cond.code ({ cls := "java/lang/StringBuilder", name := "<init>", desc := "()V" } : Jvm.MethodName) jdk_67_method_1_code (1 : Nat) (Option.none : Option Jvm.ClassFile.FieldType), Jvm.Cond.code ({ cls := "java/lang/AbstractStringBuilder", name := "<init>", desc := "(I)V" } : Jvm.MethodName) jdk_68_method_2_code (2 : Nat) (Option.none : Option Jvm.ClassFile.FieldType), Jvm.Cond.code ({ cls := "java/lang/StringBuilder", name := "append", desc := "(Ljava/lang/String;)Ljava/lang/StringBuilder;" } : Jvm.MethodName) jdk_67_method_7_code (2 : Nat) (Option.some (Jvm.ClassFile.FieldType.object "java/lang/StringBuilder")), Jvm.Cond.code ({ cls := "java/lang/AbstractStringBuilder", name := "append", desc := "(Ljava/lang/String;)Ljava/lang/AbstractStringBuilder;" } : Jvm.MethodName) jdk_68_method_22_code (3 : Nat) (Option.some (Jvm.ClassFile.FieldType.object "java/lang/AbstractStringBuilder")), Jvm.Cond.code ({ cls := "java/lang/String", name := "length", desc := "()I" } : Jvm.MethodName) jdk_42_method_54_code (1 : Nat) (Option.some Jvm.ClassFile.FieldType.int), Jvm.Cond.code ({ cls := "java/lang/String", name := "coder", desc := "()B" } : Jvm.MethodName) jdk_42_method_152_code (1 : Nat) (Option.some Jvm.ClassFile.FieldType.byte), Jvm.Cond.code ({ cls := "java/lang/AbstractStringBuilder", name := "ensureCapacityInternal", desc := "(I)V" } : Jvm.MethodName) jdk_68_method_9_code (3 : Nat) (Option.none : Option Jvm.ClassFile.FieldType), Jvm.Cond.code ({ cls := "java/lang/AbstractStringBuilder", name := "newCapacity", desc := "(I)I" } : Jvm.MethodName) jdk_68_method_10_code (6 : Nat) (Option.some Jvm.ClassFile.FieldType.int), Jvm.Cond.code ({ cls := "jdk/internal/util/ArraysSupport", name := "newLength", desc := "(III)I" } : Jvm.MethodName) jdk_48_method_27_code (4 : Nat) (Option.some Jvm.ClassFile.FieldType.int), Jvm.Cond.code ({ cls := "java/lang/Math", name := "max", desc := "(II)I" } : Jvm.MethodName) jdk_29_method_65_code (2 : Nat) (Option.some Jvm.ClassFile.FieldType.int), Jvm.Cond.code ({ cls := "java/util/Arrays", name := "copyOf", desc := "([BI)[B" } : Jvm.MethodName) jdk_65_method_121_code (3 : Nat) (Option.some (Jvm.ClassFile.FieldType.array Jvm.ClassFile.FieldType.byte)), Jvm.Cond.code ({ cls := "java/lang/Math", name := "min", desc := "(II)I" } : Jvm.MethodName) jdk_29_method_69_code (2 : Nat) (Option.some Jvm.ClassFile.FieldType.int), Jvm.Cond.code ({ cls := "java/lang/AbstractStringBuilder", name := "putStringAt", desc := "(ILjava/lang/String;)V" } : Jvm.MethodName) jdk_68_method_73_code (3 : Nat) (Option.none : Option Jvm.ClassFile.FieldType), Jvm.Cond.code ({ cls := "java/lang/AbstractStringBuilder", name := "inflateIfNeededFor", desc := "(Ljava/lang/String;)V" } : Jvm.MethodName) jdk_68_method_71_code (2 : Nat) (Option.none : Option Jvm.ClassFile.FieldType), Jvm.Cond.code ({ cls := "java/lang/String", name := "getBytes", desc := "([BIB)V" } : Jvm.MethodName) jdk_42_method_147_code (4 : Nat) (Option.none : Option Jvm.ClassFile.FieldType), Jvm.Cond.code ({ cls := "java/lang/StringBuilder", name := "toString", desc := "()Ljava/lang/String;" } : Jvm.MethodName) jdk_67_method_42_code (1 : Nat) (Option.some (Jvm.ClassFile.FieldType.object "java/lang/String")), Jvm.Cond.code ({ cls := "java/lang/String", name := "<init>", desc := "(Ljava/lang/StringBuilder;)V" } : Jvm.MethodName) jdk_42_method_53_code (2 : Nat) (Option.none : Option Jvm.ClassFile.FieldType), Jvm.Cond.code ({ cls := "java/lang/String", name := "<init>", desc := "(Ljava/lang/AbstractStringBuilder;Ljava/lang/Void;)V" } : Jvm.MethodName) jdk_42_method_150_code (5 : Nat) (Option.none : Option Jvm.ClassFile.FieldType), Jvm.Cond.code ({ cls := "java/lang/AbstractStringBuilder", name := "getValue", desc := "()[B" } : Jvm.MethodName) jdk_68_method_64_code (1 : Nat) (Option.some (Jvm.ClassFile.FieldType.array Jvm.ClassFile.FieldType.byte)), Jvm.Cond.code ({ cls := "java/lang/StringBuilder", name := "length", desc := "()I" } : Jvm.MethodName) jdk_67_method_93_code (1 : Nat) (Option.some Jvm.ClassFile.FieldType.int), Jvm.Cond.code ({ cls := "java/lang/AbstractStringBuilder", name := "length", desc := "()I" } : Jvm.MethodName) jdk_68_method_6_code (1 : Nat) (Option.some Jvm.ClassFile.FieldType.int), Jvm.Cond.code ({ cls := "java/lang/AbstractStringBuilder", name := "isLatin1", desc := "()Z" } : Jvm.MethodName) jdk_68_method_68_code (1 : Nat) (Option.some Jvm.ClassFile.FieldType.boolean), Jvm.Cond.code ({ cls := "java/util/Arrays", name := "copyOfRange", desc := "([BII)[B" } : Jvm.MethodName) jdk_65_method_132_code (3 : Nat) (Option.some (Jvm.ClassFile.FieldType.array Jvm.ClassFile.FieldType.byte)), Jvm.Cond.code ({ cls := "java/util/Arrays", name := "copyOfRangeByte", desc := "([BII)[B" } : Jvm.MethodName) jdk_65_method_133_code (5 : Nat) (Option.some (Jvm.ClassFile.FieldType.array Jvm.ClassFile.FieldType.byte)), Jvm.Cond.code ({ cls := "java/util/Arrays", name := "checkLength", desc := "(II)V" } : Jvm.MethodName) jdk_65_method_131_code (2 : Nat) (Option.none : Option Jvm.ClassFile.FieldType), Jvm.Cond.code ({ cls := "com/example/vestwright/vestwright/Quote", name := "name", desc := "(Ljava/lang/String;)Ljava/lang/String;" } : Jvm.MethodName) prog_6_method_3_code (1 : Nat) (Option.some (Jvm.ClassFile.FieldType.object "java/lang/String")), Jvm.Cond.code ({ cls := "com/example/vestwright/vestwright/Quote", name := "bounded", desc := "(Ljava/lang/String;Ljava/lang/String;)Ljava/lang/String;" } : Jvm.MethodName) prog_6_method_5_code (4 : Nat) (Option.some (Jvm.ClassFile.FieldType.object "java/lang/String")), Jvm.Cond.code ({ cls := "java/lang/String", name := "codePointCount", desc := "(II)I" } : Jvm.MethodName) jdk_42_method_59_code (3 : Nat) (Option.some Jvm.ClassFile.FieldType.int), Jvm.Cond.code ({ cls := "java/util/Objects", name := "checkFromToIndex", desc := "(III)I" } : Jvm.MethodName) jdk_31_method_18_code (3 : Nat) (Option.some Jvm.ClassFile.FieldType.int), Jvm.Cond.code ({ cls := "jdk/internal/util/Preconditions", name := "checkFromToIndex", desc := "(IIILjava/util/function/BiFunction;)I" } : Jvm.MethodName) jdk_41_method_12_code (4 : Nat) (Option.some Jvm.ClassFile.FieldType.int), Jvm.Cond.code ({ cls := "java/lang/String", name := "isLatin1", desc := "()Z" } : Jvm.MethodName) jdk_42_method_154_code (1 : Nat) (Option.some Jvm.ClassFile.FieldType.boolean), Jvm.Cond.code ({ cls := "com/example/vestwright/vestwright/run/RunRefusedException", name := "<init>", desc := "(Lcom/example/vestwright/vestwright/run/RunRefusedException$Kind;Ljava/lang/String;Ljava/lang/Exception;)V" } : Jvm.MethodName) prog_47_method_1_code (4 : Nat) (Option.none : Option Jvm.ClassFile.FieldType), Jvm.Cond.code ({ cls := "java/lang/Exception", name := "<init>", desc := "(Ljava/lang/String;Ljava/lang/Throwable;)V" } : Jvm.MethodName) jdk_59_method_3_code (3 : Nat) (Option.none : Option Jvm.ClassFile.FieldType), Jvm.Cond.code ({ cls := "java/lang/Throwable", name := "<init>", desc := "(Ljava/lang/String;Ljava/lang/Throwable;)V" } : Jvm.MethodName) jdk_78_method_3_code (3 : Nat) (Option.none : Option Jvm.ClassFile.FieldType), Jvm.Cond.code ({ cls := "java/lang/Throwable", name := "<init>", desc := "()V" } : Jvm.MethodName) jdk_78_method_1_code (1 : Nat) (Option.none : Option Jvm.ClassFile.FieldType), Jvm.Cond.code ({ cls := "com/example/vestwright/vestwright/run/RunRefusedException", name := "kind", desc := "()Lcom/example/vestwright/vestwright/run/RunRefusedException$Kind;" } : Jvm.MethodName) prog_47_method_5_code (1 : Nat) (Option.some (Jvm.ClassFile.FieldType.object "com/example/vestwright/vestwright/run/RunRefusedException$Kind")), Jvm.Cond.code ({ cls := "com/example/vestwright/vestwright/run/RunRefusedException", name := "reason", desc := "()Ljava/lang/String;" } : Jvm.MethodName) prog_47_method_8_code (1 : Nat) (Option.some (Jvm.ClassFile.FieldType.object "java/lang/String")), Jvm.Cond.code ({ cls := "java/lang/Throwable", name := "getMessage", desc := "()Ljava/lang/String;" } : Jvm.MethodName) jdk_78_method_6_code (1 : Nat) (Option.some (Jvm.ClassFile.FieldType.object "java/lang/String")), Jvm.Cond.code ({ cls := "java/lang/String", name := "charAt", desc := "(I)C" } : Jvm.MethodName) jdk_42_method_56_code (2 : Nat) (Option.some Jvm.ClassFile.FieldType.char), Jvm.Cond.code ({ cls := "java/lang/StringLatin1", name := "charAt", desc := "([BI)C" } : Jvm.MethodName) jdk_43_method_2_code (2 : Nat) (Option.some Jvm.ClassFile.FieldType.char), Jvm.Cond.code ({ cls := "java/lang/String", name := "checkIndex", desc := "(II)V" } : Jvm.MethodName) jdk_42_method_155_code (2 : Nat) (Option.none : Option Jvm.ClassFile.FieldType), Jvm.Cond.code ({ cls := "jdk/internal/util/Preconditions", name := "checkIndex", desc := "(IILjava/util/function/BiFunction;)I" } : Jvm.MethodName) jdk_41_method_11_code (3 : Nat) (Option.some Jvm.ClassFile.FieldType.int)]
set_option maxRecDepth 65536 in
theorem codes_eq : words1.filter isCode = codes1 := rfl
theorem w_codes : ∀ c ∈ words1.filter isCode, c.before args0 about1 = true := by
  rw [codes_eq]
  intro c hc
  simp only [codes1, List.mem_cons, List.not_mem_nil, or_false] at hc
  rcases hc with rfl | rfl | rfl | rfl | rfl | rfl | rfl | rfl | rfl | rfl | rfl | rfl | rfl | rfl | rfl | rfl | rfl | rfl | rfl | rfl | rfl | rfl | rfl | rfl | rfl | rfl | rfl | rfl | rfl | rfl | rfl | rfl | rfl | rfl | rfl | rfl | rfl | rfl | rfl | rfl | rfl | rfl | rfl | rfl | rfl | rfl | rfl | rfl | rfl | rfl
  · exact w_c0
  · exact w_c1
  · exact w_c2
  · exact w_c3
  · exact w_c4
  · exact w_c5
  · exact w_c6
  · exact w_c7
  · exact w_c8
  · exact w_c9
  · exact w_c10
  · exact w_c11
  · exact w_c12
  · exact w_c13
  · exact w_c14
  · exact w_c15
  · exact w_c16
  · exact w_c17
  · exact w_c18
  · exact w_c19
  · exact w_c20
  · exact w_c21
  · exact w_c22
  · exact w_c23
  · exact w_c24
  · exact w_c25
  · exact w_c26
  · exact w_c27
  · exact w_c28
  · exact w_c29
  · exact w_c30
  · exact w_c31
  · exact w_c32
  · exact w_c33
  · exact w_c34
  · exact w_c35
  · exact w_c36
  · exact w_c37
  · exact w_c38
  · exact w_c39
  · exact w_c40
  · exact w_c41
  · exact w_c42
  · exact w_c43
  · exact w_c44
  · exact w_c45
  · exact w_c46
  · exact w_c47
  · exact w_c48
  · exact w_c49
set_option maxRecDepth 65536 in
theorem w_t1 : (words1.take 24).all (fun c => isCode c || c.before args0 about1) = true := by decide +kernel
set_option maxRecDepth 65536 in
theorem w_t2 : ((words1.drop 24).take 24).all (fun c => isCode c || c.before args0 about1) = true := by decide +kernel
set_option maxRecDepth 65536 in
theorem w_t3 : (((words1.drop 24).drop 24).take 24).all (fun c => isCode c || c.before args0 about1) = true := by decide +kernel
set_option maxRecDepth 65536 in
theorem w_t4 : ((((words1.drop 24).drop 24).drop 24).take 24).all (fun c => isCode c || c.before args0 about1) = true := by decide +kernel
set_option maxRecDepth 65536 in
theorem w_t5 : (((((words1.drop 24).drop 24).drop 24).drop 24).take 24).all (fun c => isCode c || c.before args0 about1) = true := by decide +kernel
set_option maxRecDepth 65536 in
theorem w_t6 : ((((((words1.drop 24).drop 24).drop 24).drop 24).drop 24).take 24).all (fun c => isCode c || c.before args0 about1) = true := by decide +kernel
set_option maxRecDepth 65536 in
theorem w_t7 : (((((((words1.drop 24).drop 24).drop 24).drop 24).drop 24).drop 24).take 24).all (fun c => isCode c || c.before args0 about1) = true := by decide +kernel
set_option maxRecDepth 65536 in
theorem w_t8 : ((((((((words1.drop 24).drop 24).drop 24).drop 24).drop 24).drop 24).drop 24).take 24).all (fun c => isCode c || c.before args0 about1) = true := by decide +kernel
set_option maxRecDepth 65536 in
theorem w_t9 : (((((((((words1.drop 24).drop 24).drop 24).drop 24).drop 24).drop 24).drop 24).drop 24).take 24).all (fun c => isCode c || c.before args0 about1) = true := by decide +kernel
set_option maxRecDepth 65536 in
theorem w_t10 : ((((((((((words1.drop 24).drop 24).drop 24).drop 24).drop 24).drop 24).drop 24).drop 24).drop 24).take 24).all (fun c => isCode c || c.before args0 about1) = true := by decide +kernel
set_option maxRecDepth 65536 in
theorem w_t11 : (((((((((((words1.drop 24).drop 24).drop 24).drop 24).drop 24).drop 24).drop 24).drop 24).drop 24).drop 24).take 24).all (fun c => isCode c || c.before args0 about1) = true := by decide +kernel
set_option maxRecDepth 65536 in
theorem w_t12 : ((((((((((((words1.drop 24).drop 24).drop 24).drop 24).drop 24).drop 24).drop 24).drop 24).drop 24).drop 24).drop 24).take 24).all (fun c => isCode c || c.before args0 about1) = true := by decide +kernel
set_option maxRecDepth 65536 in
theorem w_t13 : ((((((((((((words1.drop 24).drop 24).drop 24).drop 24).drop 24).drop 24).drop 24).drop 24).drop 24).drop 24).drop 24).drop 24).all (fun c => isCode c || c.before args0 about1) = true := by decide +kernel
theorem w_tables : (allAtoms (Jvm.Cond.code x code maxLocals ret :: tables_1)).before args0 about1 = true := by
  rw [allAtoms_all]
  show words1.all (fun c => c.before args0 about1) = true
  refine all_split ?_ w_codes
  rw [← List.take_append_drop 24 words1, List.all_append, w_t1, ← List.take_append_drop 24 (words1.drop 24), List.all_append, w_t2, ← List.take_append_drop 24 ((words1.drop 24).drop 24), List.all_append, w_t3, ← List.take_append_drop 24 (((words1.drop 24).drop 24).drop 24), List.all_append, w_t4, ← List.take_append_drop 24 ((((words1.drop 24).drop 24).drop 24).drop 24), List.all_append, w_t5, ← List.take_append_drop 24 (((((words1.drop 24).drop 24).drop 24).drop 24).drop 24), List.all_append, w_t6, ← List.take_append_drop 24 ((((((words1.drop 24).drop 24).drop 24).drop 24).drop 24).drop 24), List.all_append, w_t7, ← List.take_append_drop 24 (((((((words1.drop 24).drop 24).drop 24).drop 24).drop 24).drop 24).drop 24), List.all_append, w_t8, ← List.take_append_drop 24 ((((((((words1.drop 24).drop 24).drop 24).drop 24).drop 24).drop 24).drop 24).drop 24), List.all_append, w_t9, ← List.take_append_drop 24 (((((((((words1.drop 24).drop 24).drop 24).drop 24).drop 24).drop 24).drop 24).drop 24).drop 24), List.all_append, w_t10, ← List.take_append_drop 24 ((((((((((words1.drop 24).drop 24).drop 24).drop 24).drop 24).drop 24).drop 24).drop 24).drop 24).drop 24), List.all_append, w_t11, ← List.take_append_drop 24 (((((((((((words1.drop 24).drop 24).drop 24).drop 24).drop 24).drop 24).drop 24).drop 24).drop 24).drop 24).drop 24), List.all_append, w_t12, w_t13]
  rfl
set_option maxRecDepth 65536 in
theorem w_rest : rest_1_c.before args0 about1 = true := by decide +kernel
set_option maxRecDepth 65536 in
theorem w_case : (Jvm.Cond.and given_1 narrow_1).before args0 about1 = true := by decide +kernel
set_option maxRecDepth 65536 in
theorem w_consts : constsHeld consts_1 about1 := Jvm.Lit.constsHeldB_iff.mp (by decide +kernel)
theorem w_applies : (headSpec (Jvm.Cond.code x code maxLocals ret :: tables_1) room_1).applies x e0.platform about1 = true :=
  (Spec.applies_iff w_frames).mpr ⟨w_running, w_runnable, w_alone, w_named, w_hears, w_ripe, w_room, w_tables⟩
theorem atStart : AtStart classFile x code maxLocals ret World_1 tables_1 room_1 Calls_1 rest_1 Pre_1 launch0 p0 e0 about1 theMethod args0 below0 :=
  ⟨lists_1, trivial, launch0.admits_env _ _ _, launch0.least_env, fairChoices_fair.cas, fairChoices_fair.clock, w_frames, w_args, w_heap, w_applies, ⟨(by decide +kernel : framesKnown about1 = true), ⟨(by decide +kernel : tablesKnown about1 = true), ⟨w_consts, trivial⟩⟩⟩, w_rest, w_case⟩
end start1
theorem witness_1 : WitnessClaimed_1 := ⟨start1.p0, start1.e0, start1.about1, start1.theMethod, start1.args0, start1.below0, start1.atStart⟩
end Jvm.Pilot.@@N@@
