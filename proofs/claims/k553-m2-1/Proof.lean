import JvmDerived
import JvmDerived.Pilot.@@N@@Statement
import JvmDerived.Pilot.@@N@@Code
set_option linter.unusedVariables false
set_option linter.unusedSimpArgs false
namespace Jvm.Own
open Sem ClassFile Op Lib Bundle Jvm.Stand Jvm.Free Jvm.LawKit Jvm.RoadKit
/-- from this frame the walk ends, and ends well -/
def Go (p : Program) (e : Env) (below : List Frame) (Q : Outcome → State → Prop) (T : State) (g : JFrame) : Prop :=
  ∃ s₂ o, Steps p.tables e below (T.setTop g) s₂ ∧ s₂.status = .running ∧ Ended s₂ below o ∧ Q o s₂
/-- where a walk stands; the tables at hand are hidden -/
def Cx (p : Program) (l : Launch) (e : Env) (R : Room) (s : State) (m : MethodId) (args : Array Value) (below : List Frame) (meth : Method) (c : Code)
    (Z : State) (EL : List (String × Nat)) (kn : Prop) (y : MethodName) (bytes : ByteArray) (maxL : Nat) (ret : Option FieldType)
    (ws : List Addr) (T : State) (h : Heap) (k n : Nat) : Prop :=
  (p.tables.exec = Jvm.exec ∧ c.code = bytes ∧ c.maxLocals = maxL ∧ meth.sig.returnType = ret ∧ meth.locks = false ∧ meth.name = y.name) ∧
  ∃ (vm0 : Vm) (k0 : Nat) (locs : List Loc), Stand p l e R (s.setVm vm0) m args below meth c T locs k n ∧ T.heap = h ∧ Z.Warmed39 vm0 ∧ vm0.findClass y.cls = some m.cls ∧ s.Since vm0 k0 ∧ k0 ≤ h.size ∧
    Fr Z.heap.size locs ∧ CHr Z EL s.vm s.heap vm0 h ∧ (∀ x ∈ ws, Safe Z EL vm0 h x ∧ x < h.size) ∧ Ext Z.heap h ∧ (kn → vm0.MethodsKnown ∧ vm0.FramesKnown below)
section Own
variable {p : Program} {l : Launch} {e : Env} {R : Room} {s : State} {m : MethodId} {args : Array Value} {below : List Frame} {meth : Method} {c : Code} {Z : State} {a0 : Array Value} {EL : List (String × Nat)} {kn : Prop} {y : MethodName} {bytes : ByteArray} {maxL : Nat} {ret : Option FieldType}
  {ws : List Addr} {T T' : State} {h h' : Heap} {k n : Nat} {Q : Outcome → State → Prop} {g g' : JFrame} {pc pc' : Nat} {L L' : Array Slot} {S : List Value}
theorem Go.of (st : ∀ t, Steps p.tables e below (T'.setTop g') t → Steps p.tables e below (T.setTop g) t) (K : Go p e below Q T' g') : Go p e below Q T g := by
  obtain ⟨s2, o, h1, h2⟩ := K; exact ⟨s2, o, st _ h1, h2⟩
theorem Cx.exec (X : Cx p l e R s m args below meth c Z EL kn y bytes maxL ret ws T h k n) : p.tables.exec = Jvm.exec := X.1.1
theorem Cx.code (X : Cx p l e R s m args below meth c Z EL kn y bytes maxL ret ws T h k n) : c.code = bytes := X.1.2.1
theorem Cx.at (X : Cx p l e R s m args below meth c Z EL kn y bytes maxL ret ws T h k n) : At T m c below := by obtain ⟨-, vm0, k0, locs, S, -⟩ := X; exact S.here
theorem Cx.old (X : Cx p l e R s m args below meth c Z EL kn y bytes maxL ret ws T h k n) : Ext Z.heap h := by obtain ⟨-, vm0, k0, locs, -, -, -, -, -, -, -, -, -, E, -⟩ := X; exact E
theorem Cx.lt (X : Cx p l e R s m args below meth c Z EL kn y bytes maxL ret ws T h k n) : Z.heap.size ≤ h.size := X.old.1
theorem s_iload (X : Cx p l e R s m args below meth c Z EL kn y bytes maxL ret ws T h k n) {j : Nat} {v : Int32} (hd : decode bytes pc = .ok (.iload j, 2)) (hl : L[j]? = some (.val (.int v))) (hp : pc + 2 = pc') (K : Go p e below Q T (mkF m pc' L (.int v :: S))) : Go p e below Q T (mkF m pc L (S)) := by
  subst hp
  exact Go.of (fun t q => XS.iload X.at X.exec rfl (hb X.code hd) hl q) K
theorem s_iloadN (X : Cx p l e R s m args below meth c Z EL kn y bytes maxL ret ws T h k n) {j : Fin 4} {v : Int32} (hd : decode bytes pc = .ok (.iload_n j, 1)) (hl : L[j.val]? = some (.val (.int v))) (hp : pc + 1 = pc') (K : Go p e below Q T (mkF m pc' L (.int v :: S))) : Go p e below Q T (mkF m pc L (S)) := by
  subst hp
  exact Go.of (fun t q => XS.iloadN X.at X.exec rfl (hb X.code hd) hl q) K
theorem s_lload (X : Cx p l e R s m args below meth c Z EL kn y bytes maxL ret ws T h k n) {j : Nat} {v : Int64} (hd : decode bytes pc = .ok (.lload j, 2)) (hl : L[j]? = some (.val (.long v))) (hp : pc + 2 = pc') (K : Go p e below Q T (mkF m pc' L (.long v :: S))) : Go p e below Q T (mkF m pc L (S)) := by
  subst hp
  exact Go.of (fun t q => XS.lload X.at X.exec rfl (hb X.code hd) hl q) K
theorem s_lloadN (X : Cx p l e R s m args below meth c Z EL kn y bytes maxL ret ws T h k n) {j : Fin 4} {v : Int64} (hd : decode bytes pc = .ok (.lload_n j, 1)) (hl : L[j.val]? = some (.val (.long v))) (hp : pc + 1 = pc') (K : Go p e below Q T (mkF m pc' L (.long v :: S))) : Go p e below Q T (mkF m pc L (S)) := by
  subst hp
  exact Go.of (fun t q => XS.lloadN X.at X.exec rfl (hb X.code hd) hl q) K
theorem s_aload (X : Cx p l e R s m args below meth c Z EL kn y bytes maxL ret ws T h k n) {j : Nat} {v : Value} (hd : decode bytes pc = .ok (.aload j, 2)) (hl : L[j]? = some (.val v)) (hv : v.isRef = true) (hp : pc + 2 = pc') (K : Go p e below Q T (mkF m pc' L (v :: S))) : Go p e below Q T (mkF m pc L (S)) := by
  subst hp
  exact Go.of (fun t q => XS.aload X.at X.exec rfl (hb X.code hd) hl hv q) K
theorem s_aloadN (X : Cx p l e R s m args below meth c Z EL kn y bytes maxL ret ws T h k n) {j : Fin 4} {v : Value} (hd : decode bytes pc = .ok (.aload_n j, 1)) (hl : L[j.val]? = some (.val v)) (hv : v.isRef = true) (hp : pc + 1 = pc') (K : Go p e below Q T (mkF m pc' L (v :: S))) : Go p e below Q T (mkF m pc L (S)) := by
  subst hp
  exact Go.of (fun t q => XS.aloadN X.at X.exec rfl (hb X.code hd) hl hv q) K
theorem s_istore (X : Cx p l e R s m args below meth c Z EL kn y bytes maxL ret ws T h k n) {j : Nat} {v : Int32} (hd : decode bytes pc = .ok (.istore j, 2)) (hl : storeLocals L j (.int v) = some L') (hp : pc + 2 = pc') (K : Go p e below Q T (mkF m pc' L' (S))) : Go p e below Q T (mkF m pc L (.int v :: S)) := by
  subst hp
  exact Go.of (fun t q => XS.istore X.at X.exec rfl (hb X.code hd) rfl hl q) K
theorem s_istoreN (X : Cx p l e R s m args below meth c Z EL kn y bytes maxL ret ws T h k n) {j : Fin 4} {v : Int32} (hd : decode bytes pc = .ok (.istore_n j, 1)) (hl : storeLocals L j.val (.int v) = some L') (hp : pc + 1 = pc') (K : Go p e below Q T (mkF m pc' L' (S))) : Go p e below Q T (mkF m pc L (.int v :: S)) := by
  subst hp
  exact Go.of (fun t q => XS.istoreN X.at X.exec rfl (hb X.code hd) rfl hl q) K
theorem s_lstore (X : Cx p l e R s m args below meth c Z EL kn y bytes maxL ret ws T h k n) {j : Nat} {v : Int64} (hd : decode bytes pc = .ok (.lstore j, 2)) (hl : storeLocals L j (.long v) = some L') (hp : pc + 2 = pc') (K : Go p e below Q T (mkF m pc' L' (S))) : Go p e below Q T (mkF m pc L (.long v :: S)) := by
  subst hp
  exact Go.of (fun t q => XS.lstore X.at X.exec rfl (hb X.code hd) rfl hl q) K
theorem s_lstoreN (X : Cx p l e R s m args below meth c Z EL kn y bytes maxL ret ws T h k n) {j : Fin 4} {v : Int64} (hd : decode bytes pc = .ok (.lstore_n j, 1)) (hl : storeLocals L j.val (.long v) = some L') (hp : pc + 1 = pc') (K : Go p e below Q T (mkF m pc' L' (S))) : Go p e below Q T (mkF m pc L (.long v :: S)) := by
  subst hp
  exact Go.of (fun t q => XS.lstoreN X.at X.exec rfl (hb X.code hd) rfl hl q) K
theorem s_astore (X : Cx p l e R s m args below meth c Z EL kn y bytes maxL ret ws T h k n) {j : Nat} {v : Value} (hd : decode bytes pc = .ok (.astore j, 2)) (hv : v.isRef = true) (hl : storeLocals L j v = some L') (hp : pc + 2 = pc') (K : Go p e below Q T (mkF m pc' L' (S))) : Go p e below Q T (mkF m pc L (v :: S)) := by
  subst hp
  exact Go.of (fun t q => XS.astore X.at X.exec rfl (hb X.code hd) rfl hv hl q) K
theorem s_astoreN (X : Cx p l e R s m args below meth c Z EL kn y bytes maxL ret ws T h k n) {j : Fin 4} {v : Value} (hd : decode bytes pc = .ok (.astore_n j, 1)) (hv : v.isRef = true) (hl : storeLocals L j.val v = some L') (hp : pc + 1 = pc') (K : Go p e below Q T (mkF m pc' L' (S))) : Go p e below Q T (mkF m pc L (v :: S)) := by
  subst hp
  exact Go.of (fun t q => XS.astoreN X.at X.exec rfl (hb X.code hd) rfl hv hl q) K
theorem s_iconst (X : Cx p l e R s m args below meth c Z EL kn y bytes maxL ret ws T h k n) {i : Int} {v : Int32} (hd : decode bytes pc = .ok (.iconst i, 1)) (hv : Int32.ofInt i = v) (hp : pc + 1 = pc') (K : Go p e below Q T (mkF m pc' L (.int v :: S))) : Go p e below Q T (mkF m pc L (S)) := by
  subst hp
  exact Go.of (fun t q => XT.iconstV X.at X.exec rfl v (hb X.code hd) hv q) K
theorem s_bipush (X : Cx p l e R s m args below meth c Z EL kn y bytes maxL ret ws T h k n) {i : Int} {v : Int32} (hd : decode bytes pc = .ok (.bipush i, 2)) (hv : (Int8.ofInt i).toInt32 = v) (hp : pc + 2 = pc') (K : Go p e below Q T (mkF m pc' L (.int v :: S))) : Go p e below Q T (mkF m pc L (S)) := by
  subst hp
  exact Go.of (fun t q => XT.bipushV X.at X.exec rfl v (hb X.code hd) hv q) K
theorem s_sipush (X : Cx p l e R s m args below meth c Z EL kn y bytes maxL ret ws T h k n) {i : Int} {v : Int32} (hd : decode bytes pc = .ok (.sipush i, 3)) (hv : (Int16.ofInt i).toInt32 = v) (hp : pc + 3 = pc') (K : Go p e below Q T (mkF m pc' L (.int v :: S))) : Go p e below Q T (mkF m pc L (S)) := by
  subst hp
  exact Go.of (fun t q => XT.sipushV X.at X.exec rfl v (hb X.code hd) hv q) K
theorem s_lconst (X : Cx p l e R s m args below meth c Z EL kn y bytes maxL ret ws T h k n) {i : Fin 2} {v : Int64} (hd : decode bytes pc = .ok (.lconst i, 1)) (hv : Int64.ofNat i = v) (hp : pc + 1 = pc') (K : Go p e below Q T (mkF m pc' L (.long v :: S))) : Go p e below Q T (mkF m pc L (S)) := by
  subst hp
  exact Go.of (fun t q => XT.lconstV X.at X.exec rfl v (hb X.code hd) hv q) K
theorem s_aconst (X : Cx p l e R s m args below meth c Z EL kn y bytes maxL ret ws T h k n)  (hd : decode bytes pc = .ok (.aconst_null, 1)) (hp : pc + 1 = pc') (K : Go p e below Q T (mkF m pc' L (.null :: S))) : Go p e below Q T (mkF m pc L (S)) := by
  subst hp
  exact Go.of (fun t q => XS.aconstNull X.at X.exec rfl (hb X.code hd) q) K
theorem s_dup (X : Cx p l e R s m args below meth c Z EL kn y bytes maxL ret ws T h k n) {v : Value} (hd : decode bytes pc = .ok (.dup, 1)) (hc : v.category = 1) (hp : pc + 1 = pc') (K : Go p e below Q T (mkF m pc' L (v :: v :: S))) : Go p e below Q T (mkF m pc L (v :: S)) := by
  subst hp
  exact Go.of (fun t q => XS.dup X.at X.exec rfl (hb X.code hd) rfl hc q) K
theorem s_pop (X : Cx p l e R s m args below meth c Z EL kn y bytes maxL ret ws T h k n) {v : Value} (hd : decode bytes pc = .ok (.pop, 1)) (hc : v.category = 1) (hp : pc + 1 = pc') (K : Go p e below Q T (mkF m pc' L (S))) : Go p e below Q T (mkF m pc L (v :: S)) := by
  subst hp
  exact Go.of (fun t q => XS.pop X.at X.exec rfl (hb X.code hd) rfl hc q) K
theorem s_iadd (X : Cx p l e R s m args below meth c Z EL kn y bytes maxL ret ws T h k n) {x z : Int32} (hd : decode bytes pc = .ok (.iadd, 1)) (hp : pc + 1 = pc') (K : Go p e below Q T (mkF m pc' L (.int (x + z) :: S))) : Go p e below Q T (mkF m pc L (.int z :: .int x :: S)) := by
  subst hp
  exact Go.of (fun t q => XS.iadd X.at X.exec rfl (hb X.code hd) rfl q) K
theorem s_isub (X : Cx p l e R s m args below meth c Z EL kn y bytes maxL ret ws T h k n) {x z : Int32} (hd : decode bytes pc = .ok (.isub, 1)) (hp : pc + 1 = pc') (K : Go p e below Q T (mkF m pc' L (.int (x - z) :: S))) : Go p e below Q T (mkF m pc L (.int z :: .int x :: S)) := by
  subst hp
  exact Go.of (fun t q => XS.isub X.at X.exec rfl (hb X.code hd) rfl q) K
theorem s_imul (X : Cx p l e R s m args below meth c Z EL kn y bytes maxL ret ws T h k n) {x z : Int32} (hd : decode bytes pc = .ok (.imul, 1)) (hp : pc + 1 = pc') (K : Go p e below Q T (mkF m pc' L (.int (x * z) :: S))) : Go p e below Q T (mkF m pc L (.int z :: .int x :: S)) := by
  subst hp
  exact Go.of (fun t q => XS.imul X.at X.exec rfl (hb X.code hd) rfl q) K
theorem s_iand (X : Cx p l e R s m args below meth c Z EL kn y bytes maxL ret ws T h k n) {x z : Int32} (hd : decode bytes pc = .ok (.iand, 1)) (hp : pc + 1 = pc') (K : Go p e below Q T (mkF m pc' L (.int (x &&& z) :: S))) : Go p e below Q T (mkF m pc L (.int z :: .int x :: S)) := by
  subst hp
  exact Go.of (fun t q => XS.iand X.at X.exec rfl (hb X.code hd) rfl q) K
theorem s_ior (X : Cx p l e R s m args below meth c Z EL kn y bytes maxL ret ws T h k n) {x z : Int32} (hd : decode bytes pc = .ok (.ior, 1)) (hp : pc + 1 = pc') (K : Go p e below Q T (mkF m pc' L (.int (x ||| z) :: S))) : Go p e below Q T (mkF m pc L (.int z :: .int x :: S)) := by
  subst hp
  exact Go.of (fun t q => XS.ior X.at X.exec rfl (hb X.code hd) rfl q) K
theorem s_ixor (X : Cx p l e R s m args below meth c Z EL kn y bytes maxL ret ws T h k n) {x z : Int32} (hd : decode bytes pc = .ok (.ixor, 1)) (hp : pc + 1 = pc') (K : Go p e below Q T (mkF m pc' L (.int (x ^^^ z) :: S))) : Go p e below Q T (mkF m pc L (.int z :: .int x :: S)) := by
  subst hp
  exact Go.of (fun t q => XS.ixor X.at X.exec rfl (hb X.code hd) rfl q) K
theorem s_ishl (X : Cx p l e R s m args below meth c Z EL kn y bytes maxL ret ws T h k n) {x z : Int32} (hd : decode bytes pc = .ok (.ishl, 1)) (hp : pc + 1 = pc') (K : Go p e below Q T (mkF m pc' L (.int (x <<< (z &&& 31)) :: S))) : Go p e below Q T (mkF m pc L (.int z :: .int x :: S)) := by
  subst hp
  exact Go.of (fun t q => XS.ishl X.at X.exec rfl (hb X.code hd) rfl q) K
theorem s_ishr (X : Cx p l e R s m args below meth c Z EL kn y bytes maxL ret ws T h k n) {x z : Int32} (hd : decode bytes pc = .ok (.ishr, 1)) (hp : pc + 1 = pc') (K : Go p e below Q T (mkF m pc' L (.int (x >>> (z &&& 31)) :: S))) : Go p e below Q T (mkF m pc L (.int z :: .int x :: S)) := by
  subst hp
  exact Go.of (fun t q => XS.ishr X.at X.exec rfl (hb X.code hd) rfl q) K
theorem s_iushr (X : Cx p l e R s m args below meth c Z EL kn y bytes maxL ret ws T h k n) {x z : Int32} (hd : decode bytes pc = .ok (.iushr, 1)) (hp : pc + 1 = pc') (K : Go p e below Q T (mkF m pc' L (.int ((x.toUInt32 >>> (z &&& 31).toUInt32).toInt32) :: S))) : Go p e below Q T (mkF m pc L (.int z :: .int x :: S)) := by
  subst hp
  exact Go.of (fun t q => XS.iushr X.at X.exec rfl (hb X.code hd) rfl q) K
theorem s_idiv (X : Cx p l e R s m args below meth c Z EL kn y bytes maxL ret ws T h k n) {x z : Int32} (hd : decode bytes pc = .ok (.idiv, 1)) (hz : z ≠ 0) (hp : pc + 1 = pc') (K : Go p e below Q T (mkF m pc' L (.int (x / z) :: S))) : Go p e below Q T (mkF m pc L (.int z :: .int x :: S)) := by
  subst hp
  exact Go.of (fun t q => XS.idiv X.at X.exec rfl (hb X.code hd) rfl hz q) K
theorem s_irem (X : Cx p l e R s m args below meth c Z EL kn y bytes maxL ret ws T h k n) {x z : Int32} (hd : decode bytes pc = .ok (.irem, 1)) (hz : z ≠ 0) (hp : pc + 1 = pc') (K : Go p e below Q T (mkF m pc' L (.int (x % z) :: S))) : Go p e below Q T (mkF m pc L (.int z :: .int x :: S)) := by
  subst hp
  obtain ⟨-, vm0, k0, locs, St, -⟩ := id X
  exact Go.of (fun t q => iremM St X.exec rfl (hb X.code hd) rfl hz q) K
theorem s_ineg (X : Cx p l e R s m args below meth c Z EL kn y bytes maxL ret ws T h k n) {x : Int32} (hd : decode bytes pc = .ok (.ineg, 1)) (hp : pc + 1 = pc') (K : Go p e below Q T (mkF m pc' L (.int (-x) :: S))) : Go p e below Q T (mkF m pc L (.int x :: S)) := by
  subst hp
  exact Go.of (fun t q => XS.ineg X.at X.exec rfl (hb X.code hd) rfl q) K
theorem s_ladd (X : Cx p l e R s m args below meth c Z EL kn y bytes maxL ret ws T h k n) {x z : Int64} (hd : decode bytes pc = .ok (.ladd, 1)) (hp : pc + 1 = pc') (K : Go p e below Q T (mkF m pc' L (.long (x + z) :: S))) : Go p e below Q T (mkF m pc L (.long z :: .long x :: S)) := by
  subst hp
  exact Go.of (fun t q => XS.ladd X.at X.exec rfl (hb X.code hd) rfl q) K
theorem s_lsub (X : Cx p l e R s m args below meth c Z EL kn y bytes maxL ret ws T h k n) {x z : Int64} (hd : decode bytes pc = .ok (.lsub, 1)) (hp : pc + 1 = pc') (K : Go p e below Q T (mkF m pc' L (.long (x - z) :: S))) : Go p e below Q T (mkF m pc L (.long z :: .long x :: S)) := by
  subst hp
  exact Go.of (fun t q => XS.lsub X.at X.exec rfl (hb X.code hd) rfl q) K
theorem s_land (X : Cx p l e R s m args below meth c Z EL kn y bytes maxL ret ws T h k n) {x z : Int64} (hd : decode bytes pc = .ok (.land, 1)) (hp : pc + 1 = pc') (K : Go p e below Q T (mkF m pc' L (.long (x &&& z) :: S))) : Go p e below Q T (mkF m pc L (.long z :: .long x :: S)) := by
  subst hp
  exact Go.of (fun t q => XS.land X.at X.exec rfl (hb X.code hd) rfl q) K
theorem s_lrem (X : Cx p l e R s m args below meth c Z EL kn y bytes maxL ret ws T h k n) {x z : Int64} (hd : decode bytes pc = .ok (.lrem, 1)) (hz : z ≠ 0) (hp : pc + 1 = pc') (K : Go p e below Q T (mkF m pc' L (.long (x - (x / z) * z) :: S))) : Go p e below Q T (mkF m pc L (.long z :: .long x :: S)) := by
  subst hp
  exact Go.of (fun t q => XS.lrem X.at X.exec rfl (hb X.code hd) rfl hz q) K
theorem s_lneg (X : Cx p l e R s m args below meth c Z EL kn y bytes maxL ret ws T h k n) {x : Int64} (hd : decode bytes pc = .ok (.lneg, 1)) (hp : pc + 1 = pc') (K : Go p e below Q T (mkF m pc' L (.long (-x) :: S))) : Go p e below Q T (mkF m pc L (.long x :: S)) := by
  subst hp
  exact Go.of (fun t q => XS.lneg X.at X.exec rfl (hb X.code hd) rfl q) K
theorem s_lushr (X : Cx p l e R s m args below meth c Z EL kn y bytes maxL ret ws T h k n) {x : Int64} {z : Int32} (hd : decode bytes pc = .ok (.lushr, 1)) (hp : pc + 1 = pc') (K : Go p e below Q T (mkF m pc' L (.long ((x.toUInt64 >>> (z &&& 0x3f).toInt64.toUInt64).toInt64) :: S))) : Go p e below Q T (mkF m pc L (.int z :: .long x :: S)) := by
  subst hp
  exact Go.of (fun t q => XS.lushr X.at X.exec rfl (hb X.code hd) rfl q) K
theorem s_lcmp (X : Cx p l e R s m args below meth c Z EL kn y bytes maxL ret ws T h k n) {x z : Int64} (hd : decode bytes pc = .ok (.lcmp, 1)) (hp : pc + 1 = pc') (K : Go p e below Q T (mkF m pc' L (.int (lcmpW x z) :: S))) : Go p e below Q T (mkF m pc L (.long z :: .long x :: S)) := by
  subst hp
  exact Go.of (fun t q => XS.lcmp X.at X.exec rfl (hb X.code hd) rfl q) K
theorem s_i2c (X : Cx p l e R s m args below meth c Z EL kn y bytes maxL ret ws T h k n) {x : Int32} (hd : decode bytes pc = .ok (.i2c, 1)) (hp : pc + 1 = pc') (K : Go p e below Q T (mkF m pc' L (.int (x.toUInt32.toUInt16.toUInt32.toInt32) :: S))) : Go p e below Q T (mkF m pc L (.int x :: S)) := by
  subst hp
  exact Go.of (fun t q => XS.i2c X.at X.exec rfl (hb X.code hd) rfl q) K
theorem s_i2b (X : Cx p l e R s m args below meth c Z EL kn y bytes maxL ret ws T h k n) {x : Int32} (hd : decode bytes pc = .ok (.i2b, 1)) (hp : pc + 1 = pc') (K : Go p e below Q T (mkF m pc' L (.int (x.toInt8.toInt32) :: S))) : Go p e below Q T (mkF m pc L (.int x :: S)) := by
  subst hp
  exact Go.of (fun t q => XS.i2b X.at X.exec rfl (hb X.code hd) rfl q) K
theorem s_i2l (X : Cx p l e R s m args below meth c Z EL kn y bytes maxL ret ws T h k n) {x : Int32} (hd : decode bytes pc = .ok (.i2l, 1)) (hp : pc + 1 = pc') (K : Go p e below Q T (mkF m pc' L (.long (x.toInt64) :: S))) : Go p e below Q T (mkF m pc L (.int x :: S)) := by
  subst hp
  exact Go.of (fun t q => XS.i2l X.at X.exec rfl (hb X.code hd) rfl q) K
theorem s_l2i (X : Cx p l e R s m args below meth c Z EL kn y bytes maxL ret ws T h k n) {x : Int64} (hd : decode bytes pc = .ok (.l2i, 1)) (hp : pc + 1 = pc') (K : Go p e below Q T (mkF m pc' L (.int (x.toInt32) :: S))) : Go p e below Q T (mkF m pc L (.long x :: S)) := by
  subst hp
  exact Go.of (fun t q => XS.l2i X.at X.exec rfl (hb X.code hd) rfl q) K
theorem s_iinc (X : Cx p l e R s m args below meth c Z EL kn y bytes maxL ret ws T h k n) {j : Nat} {i : Int} {x v : Int32} (hd : decode bytes pc = .ok (.iinc j i, 3)) (hv : Int32.ofInt i = v) (hl : L[j]? = some (.val (.int x))) (hl' : storeLocals L j (.int (x + v)) = some L') (hp : pc + 3 = pc') (K : Go p e below Q T (mkF m pc' L' (S))) : Go p e below Q T (mkF m pc L (S)) := by
  subst hp
  exact Go.of (fun t q => XT.iincV X.at X.exec rfl v (hb X.code hd) hv hl hl' q) K
theorem s_goto (X : Cx p l e R s m args below meth c Z EL kn y bytes maxL ret ws T h k n) {o : Int} (hd : decode bytes pc = .ok (.goto o, 3)) (ho : 0 ≤ (pc : Int) + o) (hp : ((pc : Int) + o).toNat = pc') (K : Go p e below Q T (mkF m pc' L S)) : Go p e below Q T (mkF m pc L S) :=
  Go.of (fun t q => XS.goto X.at X.exec rfl (pc0 := pc) rfl (hb X.code hd) ho hp q) K
/-- a comparison, said plainly -/
def tst : ClassFile.Cond → Int32 → Int32 → Prop
  | .eq, x, z => x = z
  | .ne, x, z => ¬ x = z
  | .lt, x, z => x < z
  | .ge, x, z => ¬ x < z
  | .gt, x, z => z < x
  | .le, x, z => ¬ z < x
/-- .. and its contrary -/
def nts : ClassFile.Cond → Int32 → Int32 → Prop
  | .eq, x, z => ¬ x = z
  | .ne, x, z => x = z
  | .lt, x, z => ¬ x < z
  | .ge, x, z => x < z
  | .gt, x, z => ¬ z < x
  | .le, x, z => z < x
theorem tst_t {cd : ClassFile.Cond} {x z : Int32} (q : tst cd x z) : if_icmp.holds cd x z = true := by
  cases cd
  · exact XT.ii_eq_t q
  · exact XT.ii_ne_t q
  · exact XT.ii_lt_t q
  · exact XT.ii_ge_t q
  · exact XT.ii_gt_t q
  · exact XT.ii_le_t q
theorem nts_f {cd : ClassFile.Cond} {x z : Int32} (q : nts cd x z) : if_icmp.holds cd x z = false := by
  cases cd
  · exact XT.ii_eq_f q
  · exact XT.ii_ne_f q
  · exact XT.ii_lt_f q
  · exact XT.ii_ge_f q
  · exact XT.ii_gt_f q
  · exact XT.ii_le_f q
theorem tst_or (cd : ClassFile.Cond) (x z : Int32) : tst cd x z ∨ nts cd x z := by
  cases cd
  · exact Classical.em (x = z)
  · exact (Classical.em (x = z)).symm
  · exact Classical.em (x < z)
  · exact (Classical.em (x < z)).symm
  · exact Classical.em (z < x)
  · exact (Classical.em (z < x)).symm
theorem s_icmpT (X : Cx p l e R s m args below meth c Z EL kn y bytes maxL ret ws T h k n) {cd : ClassFile.Cond} {x z : Int32} {o : Int} (hd : decode bytes pc = .ok (.if_icmp cd o, 3)) (q : tst cd x z) (ho : 0 ≤ (pc : Int) + o) (hp : ((pc : Int) + o).toNat = pc') (K : Go p e below Q T (mkF m pc' L S)) : Go p e below Q T (mkF m pc L (.int z :: .int x :: S)) :=
  Go.of (fun t r => XS.icmpYes X.at X.exec rfl (pc0 := pc) rfl (hb X.code hd) rfl (tst_t q) ho hp r) K
theorem s_icmpF (X : Cx p l e R s m args below meth c Z EL kn y bytes maxL ret ws T h k n) {cd : ClassFile.Cond} {x z : Int32} {o : Int} (hd : decode bytes pc = .ok (.if_icmp cd o, 3)) (q : nts cd x z) (hp : pc + 3 = pc') (K : Go p e below Q T (mkF m pc' L S)) : Go p e below Q T (mkF m pc L (.int z :: .int x :: S)) := by
  subst hp
  exact Go.of (fun t r => XS.icmpNo X.at X.exec rfl (hb X.code hd) rfl (nts_f q) r) K
theorem s_ifT (X : Cx p l e R s m args below meth c Z EL kn y bytes maxL ret ws T h k n) {cd : ClassFile.Cond} {x : Int32} {o : Int} (hd : decode bytes pc = .ok (.ifCond cd o, 3)) (q : tst cd x 0) (ho : 0 ≤ (pc : Int) + o) (hp : ((pc : Int) + o).toNat = pc') (K : Go p e below Q T (mkF m pc' L S)) : Go p e below Q T (mkF m pc L (.int x :: S)) :=
  Go.of (fun t r => XS.ifYes X.at X.exec rfl (pc0 := pc) rfl (hb X.code hd) rfl ((if0 _ _).trans (tst_t q)) ho hp r) K
theorem s_ifF (X : Cx p l e R s m args below meth c Z EL kn y bytes maxL ret ws T h k n) {cd : ClassFile.Cond} {x : Int32} {o : Int} (hd : decode bytes pc = .ok (.ifCond cd o, 3)) (q : nts cd x 0) (hp : pc + 3 = pc') (K : Go p e below Q T (mkF m pc' L S)) : Go p e below Q T (mkF m pc L (.int x :: S)) := by
  subst hp
  exact Go.of (fun t r => XS.ifNo X.at X.exec rfl (hb X.code hd) rfl ((if0 _ _).trans (nts_f q)) r) K
theorem s_icmp (X : Cx p l e R s m args below meth c Z EL kn y bytes maxL ret ws T h k n) {cd : ClassFile.Cond} {x z : Int32} {o : Int} {pcF : Nat} (hd : decode bytes pc = .ok (.if_icmp cd o, 3)) (ho : 0 ≤ (pc : Int) + o) (hp : ((pc : Int) + o).toNat = pc') (hf : pc + 3 = pcF) (K : tst cd x z → Go p e below Q T (mkF m pc' L S)) (K' : nts cd x z → Go p e below Q T (mkF m pcF L S)) : Go p e below Q T (mkF m pc L (.int z :: .int x :: S)) :=
  (tst_or cd x z).elim (fun q => s_icmpT X hd q ho hp (K q)) (fun q => s_icmpF X hd q hf (K' q))
theorem s_if (X : Cx p l e R s m args below meth c Z EL kn y bytes maxL ret ws T h k n) {cd : ClassFile.Cond} {x : Int32} {o : Int} {pcF : Nat} (hd : decode bytes pc = .ok (.ifCond cd o, 3)) (ho : 0 ≤ (pc : Int) + o) (hp : ((pc : Int) + o).toNat = pc') (hf : pc + 3 = pcF) (K : tst cd x 0 → Go p e below Q T (mkF m pc' L S)) (K' : nts cd x 0 → Go p e below Q T (mkF m pcF L S)) : Go p e below Q T (mkF m pc L (.int x :: S)) :=
  (tst_or cd x 0).elim (fun q => s_ifT X hd q ho hp (K q)) (fun q => s_ifF X hd q hf (K' q))
theorem s_acmpT (X : Cx p l e R s m args below meth c Z EL kn y bytes maxL ret ws T h k n) {cd : ClassFile.ACond} {x z : Value} {o : Int} (hd : decode bytes pc = .ok (.if_acmp cd o, 3)) (hx' : x.isRef = true) (hz' : z.isRef = true) (q : XT.acmp cd x z = true) (ho : 0 ≤ (pc : Int) + o) (hp : ((pc : Int) + o).toNat = pc') (K : Go p e below Q T (mkF m pc' L S)) : Go p e below Q T (mkF m pc L (z :: x :: S)) :=
  Go.of (fun t r => XT.acmpYes X.at X.exec rfl (pc0 := pc) rfl (hb X.code hd) rfl hx' hz' q ho hp r) K
theorem s_acmpF (X : Cx p l e R s m args below meth c Z EL kn y bytes maxL ret ws T h k n) {cd : ClassFile.ACond} {x z : Value} {o : Int} (hd : decode bytes pc = .ok (.if_acmp cd o, 3)) (hx' : x.isRef = true) (hz' : z.isRef = true) (q : XT.acmp cd x z = false) (hp : pc + 3 = pc') (K : Go p e below Q T (mkF m pc' L S)) : Go p e below Q T (mkF m pc L (z :: x :: S)) := by
  subst hp
  exact Go.of (fun t r => XT.acmpNo X.at X.exec rfl (hb X.code hd) rfl hx' hz' q r) K
theorem s_ifnullT (X : Cx p l e R s m args below meth c Z EL kn y bytes maxL ret ws T h k n) {b : Addr} {o : Int} (hd : decode bytes pc = .ok (.ifnull o, 3)) (ho : 0 ≤ (pc : Int) + o) (hp : ((pc : Int) + o).toNat = pc') (K : Go p e below Q T (mkF m pc' L S)) : Go p e below Q T (mkF m pc L (.null :: S)) :=
  Go.of (fun t r => XS.ifnullYes X.at X.exec rfl (pc0 := pc) rfl (hb X.code hd) rfl ho hp r) K
theorem s_ifnullF (X : Cx p l e R s m args below meth c Z EL kn y bytes maxL ret ws T h k n) {b : Addr} {o : Int} (hd : decode bytes pc = .ok (.ifnull o, 3)) (hp : pc + 3 = pc') (K : Go p e below Q T (mkF m pc' L S)) : Go p e below Q T (mkF m pc L (.ref b :: S)) := by
  subst hp
  exact Go.of (fun t r => XS.ifnullNo X.at X.exec rfl (hb X.code hd) rfl r) K
theorem s_ifnonnullT (X : Cx p l e R s m args below meth c Z EL kn y bytes maxL ret ws T h k n) {b : Addr} {o : Int} (hd : decode bytes pc = .ok (.ifnonnull o, 3)) (ho : 0 ≤ (pc : Int) + o) (hp : ((pc : Int) + o).toNat = pc') (K : Go p e below Q T (mkF m pc' L S)) : Go p e below Q T (mkF m pc L (.ref b :: S)) :=
  Go.of (fun t r => XS.ifnonnullYes X.at X.exec rfl (pc0 := pc) rfl (hb X.code hd) rfl ho hp r) K
theorem s_ifnonnullF (X : Cx p l e R s m args below meth c Z EL kn y bytes maxL ret ws T h k n) {b : Addr} {o : Int} (hd : decode bytes pc = .ok (.ifnonnull o, 3)) (hp : pc + 3 = pc') (K : Go p e below Q T (mkF m pc' L S)) : Go p e below Q T (mkF m pc L (.null :: S)) := by
  subst hp
  exact Go.of (fun t r => XS.ifnonnullNo X.at X.exec rfl (hb X.code hd) rfl r) K
theorem go_int {x z : Int32} (q : x = z) (K : Go p e below Q T (mkF m pc L (.int z :: S))) : Go p e below Q T (mkF m pc L (.int x :: S)) := by subst q; exact K
theorem Cx.more (X : Cx p l e R s m args below meth c Z EL kn y bytes maxL ret ws T h k n) {k' n' : Nat} (hk : k ≤ k') (hn : n ≤ n') : Cx p l e R s m args below meth c Z EL kn y bytes maxL ret ws T h k' n' := by
  obtain ⟨c0, vm0, k0, locs, St, r⟩ := X
  exact ⟨c0, vm0, k0, locs, St.mono hk hn, r⟩
theorem Cx.sub (X : Cx p l e R s m args below meth c Z EL kn y bytes maxL ret ws T h k n) {ws' : List Addr} (hs : ∀ x ∈ ws', x ∈ ws) : Cx p l e R s m args below meth c Z EL kn y bytes maxL ret ws' T h k n := by
  obtain ⟨c0, vm0, k0, locs, St, eT, hZ, hown, hS, hk, N, H, hsf, E, hkn⟩ := X
  exact ⟨c0, vm0, k0, locs, St, eT, hZ, hown, hS, hk, N, H, fun x q => hsf x (hs x q), E, hkn⟩
theorem Cx.wlt (X : Cx p l e R s m args below meth c Z EL kn y bytes maxL ret ws T h k n) {x : Addr} (q : x ∈ ws) : x < h.size := by
  obtain ⟨c0, vm0, k0, locs, St, eT, hZ, hown, hS, hk, N, H, hsf, E, hkn⟩ := X
  exact (hsf x q).2
theorem ext_refl (h : Heap) : Ext h h := ⟨Nat.le_refl _, fun _ _ q => q⟩
theorem ext_trans {h1 h2 h3 : Heap} (E : Ext h1 h2) (F : Ext h2 h3) : Ext h1 h3 := ⟨Nat.le_trans E.1 F.1, fun a c q => F.2 a c (E.2 a c q)⟩
theorem ext_keep {h1 h2 h3 : Heap} {ws : List Addr} (E : Ext h1 h2) (K : Keep h2 h3 ws) (q : ∀ x ∈ ws, h1.size ≤ x) : Ext h1 h3 :=
  ⟨Nat.le_trans E.1 K.1, fun a c r => K.2.1 a c (E.2 a c r) fun z => absurd (Array.getElem?_eq_some_iff.mp r).1 (Nat.not_lt.mpr (q a z))⟩
theorem ext_wr {h1 h2 h3 : Heap} {a : Addr} {sl : Nat} {v : Value} (E : Ext h1 h2) (W : Wr h2 h3 a sl v) (q : h1.size ≤ a) : Ext h1 h3 := ext_keep E (Keep.of_wr W) (allS q all0)
theorem s_getf (X : Cx p l e R s m args below meth c Z EL kn y bytes maxL ret ws T h k n) {index : Nat} {R0 O nm d : String} {a : Addr} {v : Value} (hd : decode bytes pc = .ok (.getfield index, 3)) (w : (Cond.fieldLink y.cls index R0 nm d).before a0 Z = true) (via : Via Z R0 O nm d) (F : Fld Z h a O nm d v) (hp : pc + 3 = pc')
    (K : ∀ T', Cx p l e R s m args below meth c Z EL kn y bytes maxL ret ws T' h k n → Go p e below Q T' (mkF m pc' L (v :: S))) : Go p e below Q T (mkF m pc L (.ref a :: S)) := by
  subst hp
  obtain ⟨c0, vm0, k0, locs, St, eT, hZ, hown, hS, hk, N, H, hsf, E, hkn⟩ := X
  obtain ⟨T', X', e', st⟩ := getF St c0.1 hZ hown (host := "") (Or.inl w) via eT F (g := mkF m pc L (.ref a :: S)) rfl rfl (hb c0.2.1 hd)
  exact Go.of st (K T' ⟨c0, vm0, k0, locs, X', e', hZ, hown, hS, hk, N, H, hsf, E, hkn⟩)
theorem s_getfN (X : Cx p l e R s m args below meth c Z EL kn y bytes maxL ret ws T h k n) {index : Nat} {R0 O nm d host : String} {a : Addr} {v : Value} (hd : decode bytes pc = .ok (.getfield index, 3)) (w : (Cond.fieldLinkNest y.cls index R0 nm d host).before a0 Z = true) (via : Via Z R0 O nm d) (F : Fld Z h a O nm d v) (hp : pc + 3 = pc')
    (K : ∀ T', Cx p l e R s m args below meth c Z EL kn y bytes maxL ret ws T' h k n → Go p e below Q T' (mkF m pc' L (v :: S))) : Go p e below Q T (mkF m pc L (.ref a :: S)) := by
  subst hp
  obtain ⟨c0, vm0, k0, locs, St, eT, hZ, hown, hS, hk, N, H, hsf, E, hkn⟩ := X
  obtain ⟨T', X', e', st⟩ := getF St c0.1 hZ hown (host := host) (Or.inr w) via eT F (g := mkF m pc L (.ref a :: S)) rfl rfl (hb c0.2.1 hd)
  exact Go.of st (K T' ⟨c0, vm0, k0, locs, X', e', hZ, hown, hS, hk, N, H, hsf, E, hkn⟩)
theorem s_gets (X : Cx p l e R s m args below meth c Z EL kn y bytes maxL ret ws T h k n) {index : Nat} {R0 O nm d : String} {v : Value} (hd : decode bytes pc = .ok (.getstatic index, 3)) (w : (Cond.fieldLink y.cls index R0 nm d).before a0 Z = true) (via : Via Z R0 O nm d) (F : Sta Z Z.heap O nm d v) (hp : pc + 3 = pc')
    (K : ∀ T', Cx p l e R s m args below meth c Z EL kn y bytes maxL ret ws T' h k n → Go p e below Q T' (mkF m pc' L (v :: S))) : Go p e below Q T (mkF m pc L S) := by
  subst hp
  obtain ⟨c0, vm0, k0, locs, St, eT, hZ, hown, hS, hk, N, H, hsf, E, hkn⟩ := X
  obtain ⟨T', X', e', st⟩ := getS St c0.1 hZ hown (host := "") w via eT (F.ext E) (g := mkF m pc L S) rfl (hb c0.2.1 hd)
  exact Go.of st (K T' ⟨c0, vm0, k0, locs, X', e', hZ, hown, hS, hk, N, H, hsf, E, hkn⟩)
theorem s_putf (X : Cx p l e R s m args below meth c Z EL kn y bytes maxL ret ws T h k n) {index kk : Nat} {R0 O nm d C : String} {ty : FieldType} {a : Addr} {v old : Value} (hd : decode bytes pc = .ok (.putfield index, 3)) (w : (Cond.fieldLink y.cls index R0 nm d).before a0 Z = true) (via : Via Z R0 O nm d) (F : Fld Z h a O nm d old) (E0 : Exa Z h a C)
    (Lf : (Cond.lays C O nm d).before a0 Z = true ∨ ((Cond.laysFinal C O nm d).before a0 Z = true ∧ y.cls = O ∧ y.name = "<init>")) (wi : (Cond.instantiable C kk).before a0 Z = true) (hty : parseFieldDescriptor d = some ty) (hn : narrow ty v = v) (hf : fits ty v = true) (ha : Z.heap.size ≤ a) (hm : a ∈ ws) (hp : pc + 3 = pc')
    (K : ∀ T' h', Cx p l e R s m args below meth c Z EL kn y bytes maxL ret ws T' h' k n → Wr h h' a (RoadKit.slotOf Z O nm d) v → Go p e below Q T' (mkF m pc' L S)) : Go p e below Q T (mkF m pc L (v :: .ref a :: S)) := by
  subst hp
  obtain ⟨c0, vm0, k0, locs, St, eT, hZ, hown, hS, hk, N, H, hsf, E, hkn⟩ := X
  obtain ⟨T', h', X', e', W, st⟩ := putF St c0.1 hZ hown (host := "") (Or.inl w) via eT F E0 (Lf.imp id fun q => ⟨q.1, q.2.1, c0.2.2.2.2.2.trans q.2.2⟩) wi hty hn hf (g := mkF m pc L (v :: .ref a :: S)) rfl rfl (hb c0.2.1 hd)
  have Sa := (hsf a hm).1
  exact Go.of st (K T' h' ⟨c0, vm0, k0, _, X', e', hZ, hown, hS, by rw [W.size]; exact hk, Fr.snoc X' N ha, H.trans (CHr.wr W Sa H.1), fun x q => ⟨Safe.wr W Sa H.1 (hsf x q).1, by rw [W.size]; exact (hsf x q).2⟩, ext_wr E W ha, hkn⟩ W)
theorem s_new (X : Cx p l e R s m args below meth c Z EL kn y bytes maxL ret ws T h k n) {index nn : Nat} {C : String} {k' n' : Nat} (hd : decode bytes pc = .ok (.new index, 3)) (w : (Cond.classLink y.cls index C).before a0 Z = true) (wi : (Cond.instantiable C nn).before a0 Z = true) (wz : (Cond.initialized C).before a0 Z = true)
    (hk' : k + 1 ≤ k') (hn' : n + nn ≤ n') (hkR : k' ≤ R.cells) (hnR : n' ≤ R.slots) (hp : pc + 3 = pc')
    (K : ∀ (T' : State) (h' : Heap) (a : Addr), a = h.size → Cx p l e R s m args below meth c Z EL kn y bytes maxL ret (a :: ws) T' h' k' n' → Ext h h' → Exa Z h' a C → (∀ {O nm d : String} {ty : FieldType}, Laid Z a0 C O nm d → parseFieldDescriptor d = some ty → Fld Z h' a O nm d (defaultValue ty)) → Unt h' a → Go p e below Q T' (mkF m pc' L (.ref a :: S))) : Go p e below Q T (mkF m pc L S) := by
  subst hp
  obtain ⟨c0, vm0, k0, locs, St, eT, hZ, hown, hS, hk, N, H, hsf, E, hkn⟩ := X
  obtain ⟨T', h', X', e', E', A, D, U, st⟩ := newO St c0.1 hZ hown w wi wz eT (g := mkF m pc L S) rfl (hb c0.2.1 hd) (Nat.le_trans hk' hkR) (Nat.le_trans hn' hnR)
  refine Go.of st (K T' h' h.size rfl ⟨c0, vm0, k0, _, X'.mono hk' hn', e', hZ, hown, hS, Nat.le_trans hk E'.1, N, H.trans (CHr.ext E' H.1), fun x q => ?_, ext_trans E E', hkn⟩ E' A D U)
  rcases List.mem_cons.mp q with rfl | q
  · exact ⟨Safe.ext E' H.1 (Safe.new (Nat.le_refl _)), A.lt⟩
  · exact ⟨Safe.ext E' H.1 (hsf x q).1, Nat.lt_of_lt_of_le (hsf x q).2 E'.1⟩
/-- an array: what she holds, whole -/
def Ary (Z : State) (h : Heap) (a : Addr) (ty : FieldType) (vs : List Value) : Prop := ∃ cl : Cell, RoadKit.Arr Z h a cl ty ∧ cl.slots.toList = vs ∧ vs.length < 2 ^ 31 ∧ ∀ v ∈ vs, fits ty v = true
theorem Ary.ext {a : Addr} {ty : FieldType} {vs : List Value} (A : Ary Z h a ty vs) (E : Ext h h') : Ary Z h' a ty vs := by obtain ⟨cl, q, r⟩ := A; exact ⟨cl, q.ext E, r⟩
theorem Ary.keep {a : Addr} {ty : FieldType} {vs : List Value} {wr : List Addr} (A : Ary Z h a ty vs) (K : Keep h h' wr) (q : a ∉ wr) : Ary Z h' a ty vs := by obtain ⟨cl, r1, r⟩ := A; exact ⟨cl, ⟨K.2.1 a cl r1.1 q, r1.2⟩, r⟩
theorem Ary.other {a b : Addr} {sl : Nat} {v : Value} {ty : FieldType} {vs : List Value} (A : Ary Z h a ty vs) (W : Wr h h' b sl v) (q : a ≠ b) : Ary Z h' a ty vs := by obtain ⟨cl, r1, r⟩ := A; exact ⟨cl, r1.other W q, r⟩
theorem Ary.lt {a : Addr} {ty : FieldType} {vs : List Value} (A : Ary Z h a ty vs) : a < h.size := by obtain ⟨cl, q, r⟩ := A; exact q.lt
theorem n32 {N : Nat} (q : N < 2 ^ 31) : (Int32.ofNat N).toNatClampNeg = N := by
  have e : (Int32.ofNat N).toInt = N := Int32.toInt_ofNat_of_lt (by omega)
  simp [Int32.toNatClampNeg, e]
theorem nn32 {N : Nat} (q : N < 2 ^ 31) : ¬ Int32.ofNat N < 0 := by
  have e : (Int32.ofNat N).toInt = N := Int32.toInt_ofNat_of_lt (by omega)
  rw [Int32.lt_iff_toInt_lt, e]; show ¬ (N : Int) < 0; omega
theorem Ary.arv {a : Addr} {ty : FieldType} {vs : List Value} (A : Ary Z h a ty vs) (dv : Value) : ∃ kc, Arv Z h a kc ty (Int32.ofNat vs.length) vs dv := by
  obtain ⟨cl, q, r1, r2, r3⟩ := A
  have sz : cl.slots.size = vs.length := by rw [← r1]; simp
  have ga : ∀ i, i < vs.length → vs.getD i dv = vs[i]! := fun i hi => by simp [List.getD_eq_getElem?_getD, hi]
  refine ⟨cl.cls, cl, q, rfl, by rw [sz, n32 r2], nn32 r2, fun i hi => ?_, fun i hi => ?_⟩
  · have hi' : i < vs.length := sz ▸ hi
    rw [← Array.getElem?_toList, r1, List.getElem?_eq_getElem hi']; simp [List.getD_eq_getElem?_getD, hi']
  · have hi' : i < vs.length := sz ▸ hi
    have : vs.getD i dv = vs[i] := by simp [List.getD_eq_getElem?_getD, hi']
    rw [this]; exact r3 _ (List.getElem_mem _)
theorem Ary.of_arv {a : Addr} {ty : FieldType} {vs : List Value} {kc : ClassId} {z : Int32} {dv : Value} (A : Arv Z h a kc ty z vs dv) (hl : z.toNatClampNeg = vs.length) (hb : vs.length < 2 ^ 31) : Ary Z h a ty vs := by
  obtain ⟨cl, q, r1, r2, r3, r4, r5⟩ := A
  have sz : cl.slots.size = vs.length := r2.trans hl
  refine ⟨cl, q, List.ext_getElem? fun i => ?_, hb, fun v hv => ?_⟩
  · rw [Array.getElem?_toList]
    rcases Nat.lt_or_ge i cl.slots.size with hi | hi
    · have hi' : i < vs.length := sz ▸ hi
      rw [r4 i hi, List.getElem?_eq_getElem hi']; simp [List.getD_eq_getElem?_getD, hi']
    · rw [Array.getElem?_eq_none hi, List.getElem?_eq_none (by omega)]
  · obtain ⟨i, hi, rfl⟩ := List.mem_iff_getElem.mp hv
    have := r5 i (by omega)
    simpa [List.getD_eq_getElem?_getD, hi] using this
theorem s_newarr (X : Cx p l e R s m args below meth c Z EL kn y bytes maxL ret ws T h k n) {aty : ArrayType} {z : Int32} {N : Nat} {k' n' : Nat} (hd : decode bytes pc = .ok (.newarray aty, 2)) (w : (Cond.arrayClass (newarray.typeOf aty)).before a0 Z = true) (hz : z = Int32.ofNat N) (hN : N ≤ 67108864)
    (hk' : k + 1 ≤ k') (hn' : n + N ≤ n') (hkR : k' ≤ R.cells) (hnR : n' ≤ R.slots) (hp : pc + 2 = pc')
    (K : ∀ (T' : State) (h' : Heap) (a : Addr), a = h.size → Cx p l e R s m args below meth c Z EL kn y bytes maxL ret (a :: ws) T' h' k' n' → Ext h h' → Ary Z h' a (newarray.typeOf aty) (List.replicate N (defaultValue (newarray.typeOf aty))) → Go p e below Q T' (mkF m pc' L (.ref a :: S))) : Go p e below Q T (mkF m pc L (.int z :: S)) := by
  subst hp; subst hz
  have hN' : N < 2 ^ 31 := by omega
  obtain ⟨c0, vm0, k0, locs, St, eT, hZ, hown, hS, hk, N0, H, hsf, E, hkn⟩ := X
  obtain ⟨T', h', cA, X', e', E', A, st⟩ := newP St c0.1 hZ w eT (g := mkF m pc L (.int (Int32.ofNat N) :: S)) rfl (hb c0.2.1 hd) rfl (nn32 hN') (cap := N) (Nat.le_of_eq (n32 hN')) (by omega) (Nat.le_trans hk' hkR) (Nat.le_trans hn' hnR)
  refine Go.of st (K T' h' h.size rfl ⟨c0, vm0, k0, _, X'.mono hk' hn', e', hZ, hown, hS, Nat.le_trans hk E'.1, N0, H.trans (CHr.ext E' H.1), fun x q => ?_, ext_trans E E', hkn⟩ E' ⟨_, A, ?_, by simpa using hN', ?_⟩)
  · rcases List.mem_cons.mp q with rfl | q
    · exact ⟨Safe.ext E' H.1 (Safe.new (Nat.le_refl _)), A.lt⟩
    · exact ⟨Safe.ext E' H.1 (hsf x q).1, Nat.lt_of_lt_of_le (hsf x q).2 E'.1⟩
  · simp [newA, n32 hN']
  · intro v hv
    rw [(List.mem_replicate.mp hv).2]
    cases aty <;> rfl
theorem Ary.set {a : Addr} {ty : FieldType} {vs : List Value} {i : Nat} {v : Value} {cl : Cell} (A : RoadKit.Arr Z h a cl ty) (q1 : cl.slots.toList = vs) (q2 : vs.length < 2 ^ 31) (q3 : ∀ v ∈ vs, fits ty v = true) (hv : fits ty v = true) (W : Wr h h' a i v) : Ary Z h' a ty (vs.set i v) := by
  refine ⟨_, A.same W, ?_, by simpa using q2, fun x hx => ?_⟩
  · show (cl.slots.setIfInBounds i v).toList = _
    rw [Array.toList_setIfInBounds, q1]
  · rcases List.mem_or_eq_of_mem_set hx with r | rfl
    · exact q3 x r
    · exact hv
theorem s_castore (X : Cx p l e R s m args below meth c Z EL kn y bytes maxL ret ws T h k n) {a : Addr} {vs : List Value} {i : Nat} {j x : Int32} (hd : decode bytes pc = .ok (.castore, 1)) (A : Ary Z h a .char vs) (hj : j = Int32.ofNat i) (hi : i < vs.length) (ha : Z.heap.size ≤ a) (hm : a ∈ ws) (hp : pc + 1 = pc')
    (K : ∀ T' h', Cx p l e R s m args below meth c Z EL kn y bytes maxL ret ws T' h' k n → Wr h h' a i (.int (nar .char x)) → Ary Z h' a .char (vs.set i (.int (nar .char x))) → Go p e below Q T' (mkF m pc' L S)) : Go p e below Q T (mkF m pc L (.int x :: .int j :: .ref a :: S)) := by
  subst hp; subst hj
  obtain ⟨cl, q, r1, r2, r3⟩ := A
  have sz : cl.slots.size = vs.length := by rw [← r1]; simp
  have hi2 : i < 2 ^ 31 := Nat.lt_trans hi r2
  obtain ⟨c0, vm0, k0, locs, St, eT, hZ, hown, hS, hk, N, H, hsf, E, hkn⟩ := X
  obtain ⟨T', h', X', e', W, st⟩ := stC St c0.1 hZ eT q (j := Int32.ofNat i) (x := x) (fun z => z.elim (nn32 hi2) (fun z => by rw [n32 hi2] at z; omega)) (g := mkF m pc L (.int x :: .int (Int32.ofNat i) :: .ref a :: S)) rfl rfl (hb c0.2.1 hd)
  rw [n32 hi2] at W X'
  have Sa := (hsf a hm).1
  exact Go.of st (K T' h' ⟨c0, vm0, k0, _, X', e', hZ, hown, hS, by rw [W.size]; exact hk, Fr.snoc X' N ha, H.trans (CHr.wr W Sa H.1), fun x q => ⟨Safe.wr W Sa H.1 (hsf x q).1, by rw [W.size]; exact (hsf x q).2⟩, ext_wr E W ha, hkn⟩ W (Ary.set q r1 r2 r3 (fits_nar_char x) W))
theorem fits_nar_byte (x : Int32) : fits .byte (.int (nar .byte x)) = true := by
  have h1 := c_i2b x
  show fits .byte (.int x.toInt8.toInt32) = true
  simp only [fits, Bool.and_eq_true, decide_eq_true_eq, Int32.le_iff_toInt_le]
  exact ⟨by show (-128 : Int) ≤ _; omega, by show _ ≤ (127 : Int); omega⟩
theorem s_bastore (X : Cx p l e R s m args below meth c Z EL kn y bytes maxL ret ws T h k n) {a : Addr} {vs : List Value} {i : Nat} {j x : Int32} (hd : decode bytes pc = .ok (.bastore, 1)) (A : Ary Z h a .byte vs) (hj : j = Int32.ofNat i) (hi : i < vs.length) (ha : Z.heap.size ≤ a) (hm : a ∈ ws) (hp : pc + 1 = pc')
    (K : ∀ T' h', Cx p l e R s m args below meth c Z EL kn y bytes maxL ret ws T' h' k n → Wr h h' a i (.int (nar .byte x)) → Ary Z h' a .byte (vs.set i (.int (nar .byte x))) → Go p e below Q T' (mkF m pc' L S)) : Go p e below Q T (mkF m pc L (.int x :: .int j :: .ref a :: S)) := by
  subst hp; subst hj
  obtain ⟨cl, q, r1, r2, r3⟩ := A
  have sz : cl.slots.size = vs.length := by rw [← r1]; simp
  have hi2 : i < 2 ^ 31 := Nat.lt_trans hi r2
  obtain ⟨c0, vm0, k0, locs, St, eT, hZ, hown, hS, hk, N, H, hsf, E, hkn⟩ := X
  obtain ⟨T', h', X', e', W, st⟩ := stB St c0.1 hZ eT q (j := Int32.ofNat i) (x := x) (fun z => z.elim (nn32 hi2) (fun z => by rw [n32 hi2] at z; omega)) (g := mkF m pc L (.int x :: .int (Int32.ofNat i) :: .ref a :: S)) rfl rfl (hb c0.2.1 hd)
  rw [n32 hi2] at W X'
  have Sa := (hsf a hm).1
  exact Go.of st (K T' h' ⟨c0, vm0, k0, _, X', e', hZ, hown, hS, by rw [W.size]; exact hk, Fr.snoc X' N ha, H.trans (CHr.wr W Sa H.1), fun x q => ⟨Safe.wr W Sa H.1 (hsf x q).1, by rw [W.size]; exact (hsf x q).2⟩, ext_wr E W ha, hkn⟩ W (Ary.set q r1 r2 r3 (fits_nar_byte x) W))
theorem ary_at {cl : Cell} {vs : List Value} {i : Nat} {v : Value} (r1 : cl.slots.toList = vs) (r2 : vs.length < 2 ^ 31) (hv : vs[i]? = some v) : ¬ (Int32.ofNat i < 0 ∨ cl.slots.size ≤ (Int32.ofNat i).toNatClampNeg) ∧ cl.slots[(Int32.ofNat i).toNatClampNeg]? = some v := by
  have hi : i < vs.length := by
    rcases Nat.lt_or_ge i vs.length with q | q
    · exact q
    · rw [List.getElem?_eq_none q] at hv; cases hv
  have sz : cl.slots.size = vs.length := by rw [← r1]; simp
  have hi2 : i < 2 ^ 31 := Nat.lt_trans hi r2
  refine ⟨fun z => z.elim (nn32 hi2) (fun z => by rw [n32 hi2] at z; omega), ?_⟩
  rw [n32 hi2, ← Array.getElem?_toList, r1]; exact hv
theorem s_caload (X : Cx p l e R s m args below meth c Z EL kn y bytes maxL ret ws T h k n) {a : Addr} {vs : List Value} {i : Nat} {j : Int32} {v : Value} (hd : decode bytes pc = .ok (.caload, 1)) (A : Ary Z h a .char vs) (hj : j = Int32.ofNat i) (hv : vs[i]? = some v) (hp : pc + 1 = pc')
    (K : Go p e below Q T (mkF m pc' L (v :: S))) : Go p e below Q T (mkF m pc L (.int j :: .ref a :: S)) := by
  subst hp; subst hj
  obtain ⟨cl, q, r1, r2, r3⟩ := A
  obtain ⟨i1, i2⟩ := ary_at r1 r2 hv
  obtain ⟨c0, vm0, k0, locs, St, eT, hZ, r⟩ := X
  exact Go.of (St.caload c0.1 (by rw [eT]; exact q.1) (State.isArrayOf_alike hZ.alike q.2.1) q.2.2 i1 i2 (g := mkF m pc L (.int (Int32.ofNat i) :: .ref a :: S)) rfl rfl (hb c0.2.1 hd)) K
theorem s_baload (X : Cx p l e R s m args below meth c Z EL kn y bytes maxL ret ws T h k n) {a : Addr} {vs : List Value} {i : Nat} {j : Int32} {v : Value} (hd : decode bytes pc = .ok (.baload, 1)) (A : Ary Z h a .byte vs) (hj : j = Int32.ofNat i) (hv : vs[i]? = some v) (hp : pc + 1 = pc')
    (K : Go p e below Q T (mkF m pc' L (v :: S))) : Go p e below Q T (mkF m pc L (.int j :: .ref a :: S)) := by
  subst hp; subst hj
  obtain ⟨cl, q, r1, r2, r3⟩ := A
  obtain ⟨i1, i2⟩ := ary_at r1 r2 hv
  obtain ⟨c0, vm0, k0, locs, St, eT, hZ, r⟩ := X
  exact Go.of (St.baloadBytes c0.1 (by rw [eT]; exact q.1) (State.isArrayOf_alike hZ.alike q.2.1) q.2.2 i1 i2 (g := mkF m pc L (.int (Int32.ofNat i) :: .ref a :: S)) rfl rfl (hb c0.2.1 hd)) K
theorem s_aaload (X : Cx p l e R s m args below meth c Z EL kn y bytes maxL ret ws T h k n) {a : Addr} {vs : List Value} {i : Nat} {j : Int32} {v : Value} {ty : FieldType} (hd : decode bytes pc = .ok (.aaload, 1)) (A : Ary Z h a ty vs) (hty : ty.isReference = true) (hj : j = Int32.ofNat i) (hv : vs[i]? = some v) (hp : pc + 1 = pc')
    (K : Go p e below Q T (mkF m pc' L (v :: S))) : Go p e below Q T (mkF m pc L (.int j :: .ref a :: S)) := by
  subst hp; subst hj
  obtain ⟨cl, q, r1, r2, r3⟩ := A
  obtain ⟨i1, i2⟩ := ary_at r1 r2 hv
  obtain ⟨c0, vm0, k0, locs, St, eT, hZ, r⟩ := X
  exact Go.of (St.aaload c0.1 (by rw [eT]; exact q.1) (State.isArrayOf_alike hZ.alike q.2.1) hty q.2.2 i1 i2 (g := mkF m pc L (.int (Int32.ofNat i) :: .ref a :: S)) rfl rfl (hb c0.2.1 hd)) K
theorem s_alen (X : Cx p l e R s m args below meth c Z EL kn y bytes maxL ret ws T h k n) {a : Addr} {vs : List Value} {ty : FieldType} {z : Int32} (hd : decode bytes pc = .ok (.arraylength, 1)) (A : Ary Z h a ty vs) (hz : Int32.ofNat vs.length = z) (hp : pc + 1 = pc')
    (K : Go p e below Q T (mkF m pc' L (.int z :: S))) : Go p e below Q T (mkF m pc L (.ref a :: S)) := by
  subst hp; subst hz
  obtain ⟨cl, q, r1, r2, r3⟩ := A
  have sz : cl.slots.size = vs.length := by rw [← r1]; simp
  obtain ⟨c0, vm0, k0, locs, St, eT, hZ, r⟩ := X
  rw [← sz] at K
  exact Go.of (St.arraylength c0.1 (by rw [eT]; exact q.1) (State.isArrayOf_alike hZ.alike q.2.1) (g := mkF m pc L (.ref a :: S)) rfl rfl (hb c0.2.1 hd)) K
theorem s_ldcI (X : Cx p l e R s m args below meth c Z EL kn y bytes maxL ret ws T h k n) {index : Nat} {v : Int32} (hd : decode bytes pc = .ok (.ldc index, 2)) (w : (Cond.constant y.cls index v).before a0 Z = true) (hp : pc + 2 = pc') (K : Go p e below Q T (mkF m pc' L (.int v :: S))) : Go p e below Q T (mkF m pc L S) := by
  subst hp
  obtain ⟨c0, vm0, k0, locs, St, eT, hZ, hown, r⟩ := X
  exact Go.of (fun t q => Jvm.Stand.ldcI St c0.1 hown (mvT hZ w) (g := mkF m pc L S) rfl (hb c0.2.1 hd) q) K
theorem s_ldc2J (X : Cx p l e R s m args below meth c Z EL kn y bytes maxL ret ws T h k n) {index : Nat} {v : Int64} (hd : decode bytes pc = .ok (.ldc2_w index, 3)) (w : (Cond.constantLong y.cls index v).before a0 Z = true) (hp : pc + 3 = pc') (K : Go p e below Q T (mkF m pc' L (.long v :: S))) : Go p e below Q T (mkF m pc L S) := by
  subst hp
  obtain ⟨c0, vm0, k0, locs, St, eT, hZ, hown, r⟩ := X
  exact Go.of (fun t q => Jvm.Stand.ldc2J St c0.1 hown (mvT hZ w) (g := mkF m pc L S) rfl (hb c0.2.1 hd) q) K
theorem s_instY (X : Cx p l e R s m args below meth c Z EL kn y bytes maxL ret ws T h k n) {index : Nat} {K0 : String} {a : Addr} (hd : decode bytes pc = .ok (.instanceof index, 3)) (w : (Cond.classLink y.cls index K0).before a0 Z = true) (F : Ins Z h a K0 true) (hp : pc + 3 = pc')
    (K : ∀ T', Cx p l e R s m args below meth c Z EL kn y bytes maxL ret ws T' h k n → Go p e below Q T' (mkF m pc' L (.int 1 :: S))) : Go p e below Q T (mkF m pc L (.ref a :: S)) := by
  subst hp
  obtain ⟨c0, vm0, k0, locs, St, eT, hZ, hown, hS, hk, N, H, hsf, E, hkn⟩ := X
  obtain ⟨T', X', e', st⟩ := instY St c0.1 hZ hown w eT F (g := mkF m pc L (.ref a :: S)) rfl rfl (hb c0.2.1 hd)
  exact Go.of st (K T' ⟨c0, vm0, k0, locs, X', e', hZ, hown, hS, hk, N, H, hsf, E, hkn⟩)
theorem s_instN (X : Cx p l e R s m args below meth c Z EL kn y bytes maxL ret ws T h k n) {index : Nat} {K0 C : String} {a : Addr} (hd : decode bytes pc = .ok (.instanceof index, 3)) (w : (Cond.classLink y.cls index K0).before a0 Z = true) (E0 : Exa Z h a C) (F : Ins Z h a K0 false) (hp : pc + 3 = pc')
    (K : ∀ T', Cx p l e R s m args below meth c Z EL kn y bytes maxL ret ws T' h k n → Go p e below Q T' (mkF m pc' L (.int 0 :: S))) : Go p e below Q T (mkF m pc L (.ref a :: S)) := by
  subst hp
  obtain ⟨c0, vm0, k0, locs, St, eT, hZ, hown, hS, hk, N, H, hsf, E, hkn⟩ := X
  obtain ⟨cell, cT, h1, h2, h3⟩ := F
  obtain ⟨cell', kk, e1, -, e3, e4, -⟩ := E0
  cases h1.symm.trans e1
  have hZ' : Z.Warmed39 (s.setVm vm0).vm := hZ
  obtain ⟨k', q, -⟩ := hZ'.alike.2.2 _ _ e3
  obtain ⟨vm', X', st⟩ := Jvm.Sym.instanceofNoAt St c0.1 hown (mv hZ w) (by rw [eT]; exact h1) e4 q (by rw [hZ'.alike.findClass]; exact h2) (by rw [hZ'.alike.assignable]; simpa [e4] using h3) (g := mkF m pc L (.ref a :: S)) rfl rfl (hb c0.2.1 hd)
  exact Go.of st (K _ ⟨c0, vm0, k0, locs, X', eT, hZ, hown, hS, hk, N, H, hsf, E, hkn⟩)
theorem s_instNull (X : Cx p l e R s m args below meth c Z EL kn y bytes maxL ret ws T h k n) {index : Nat} (hd : decode bytes pc = .ok (.instanceof index, 3)) (hp : pc + 3 = pc') (K : Go p e below Q T (mkF m pc' L (.int 0 :: S))) : Go p e below Q T (mkF m pc L (.null :: S)) := by
  subst hp
  obtain ⟨c0, vm0, k0, locs, St, r⟩ := X
  exact Go.of (St.instanceofNull c0.1 (g := mkF m pc L (.null :: S)) rfl rfl (hb c0.2.1 hd)) K
theorem s_castY (X : Cx p l e R s m args below meth c Z EL kn y bytes maxL ret ws T h k n) {index : Nat} {K0 : String} {a : Addr} (hd : decode bytes pc = .ok (.checkcast index, 3)) (w : (Cond.classLink y.cls index K0).before a0 Z = true) (F : Ins Z h a K0 true) (hp : pc + 3 = pc')
    (K : ∀ T', Cx p l e R s m args below meth c Z EL kn y bytes maxL ret ws T' h k n → Go p e below Q T' (mkF m pc' L (.ref a :: S))) : Go p e below Q T (mkF m pc L (.ref a :: S)) := by
  subst hp
  obtain ⟨c0, vm0, k0, locs, St, eT, hZ, hown, hS, hk, N, H, hsf, E, hkn⟩ := X
  obtain ⟨T', X', e', st⟩ := castY St c0.1 hZ hown w eT F (g := mkF m pc L (.ref a :: S)) rfl rfl (hb c0.2.1 hd)
  exact Go.of st (K T' ⟨c0, vm0, k0, locs, X', e', hZ, hown, hS, hk, N, H, hsf, E, hkn⟩)
/-- the end of a walk -/
def Post (Z : State) (EL : List (String × Nat)) (U : State) (rm : Room) (Qc : Option Value → Heap → List Addr → Prop) (o : Outcome) (U' : State) : Prop :=
  ∃ v L ws', o = .returned v ∧ Qc v U'.heap ws' ∧ Fr Z.heap.size L ∧ Ext Z.heap U'.heap ∧ CHr Z EL U.vm U.heap U'.vm U'.heap ∧ (∀ x ∈ ws', Safe Z EL U'.vm U'.heap x ∧ x < U'.heap.size) ∧ ReturnedEndW U o U' L rm.cells rm.slots
/-- a body's contract -/
def Con (l : Launch) (Z : State) (EL : List (String × Nat)) (kn : Prop) (y : MethodName) (bytes : ByteArray) (maxL : Nat) (ret : Option FieldType) (rm : Room) (ws : List Addr) (as' : Array Value) (h : Heap) (Qc : Option Value → Heap → List Addr → Prop) : Prop :=
  ∀ wds : List Jvm.Cond, MetFree l y (head1 (Jvm.Cond.code y bytes maxL ret :: wds) rm) (fun a U => a = as' ∧ Z.Warmed39 U.vm ∧ U.heap = h ∧ CHv Z EL U.vm h ∧ (∀ x ∈ ws, Safe Z EL U.vm h x ∧ x < h.size) ∧ Ext Z.heap h) (fun _ _ bl U _ => kn → U.vm.MethodsKnown ∧ U.vm.FramesKnown bl) (fun _ U o U' => Post Z EL U rm Qc o U')
theorem Con.intro {rm : Room} {as' : Array Value} {Qc : Option Value → Heap → List Addr → Prop} (pn : plainFor y = true)
    (body : ∀ p e s m below meth c T, Cx p l e rm s m as' below meth c Z EL kn y bytes maxL ret ws T h 0 0 → Go p e below (Post Z EL s rm Qc) T (entryFrame m as' maxL)) : Con l Z EL kn y bytes maxL ret rm ws as' h Qc := by
  intro wds
  refine MetFree.of_bodySF pn hisR ?_
  intro p e s m args below meth c s₁ Bd hml0 hP hK
  obtain ⟨rfl, hZ, hh, hCH, hsf, hE⟩ := hP
  have St : Stand p l e rm s m args below meth c s₁ [] 0 0 := Stand.of_body Bd
  have e0 : s₁.heap = h := by rw [← hh, Bd.state]; rfl
  have hown : s.vm.findClass y.cls = some m.cls := findClass_of_methodNamed Bd.named
  have hnm := (name_of_methodNamed Bd.named Bd.method).1
  exact body p e s m below meth c s₁ ⟨⟨Bd.exec, Bd.bytes, hml0, Bd.returns, Bd.notSynchronized, hnm⟩, s.vm, 0, [], St, e0, hZ, hown, (State.WarmedH.refl s).since 0, Nat.zero_le _, Fr.nil _, by rw [← hh] at hCH ⊢; exact CHr.refl hCH, hsf, hE, hK⟩
theorem rew_mono {U U' : State} {o : Outcome} {Lc : List Loc} {k1 n1 k2 n2 : Nat} (q : ReturnedEndW U o U' Lc k1 n1) (hk : k1 ≤ k2) (hn : n1 ≤ n2) : ReturnedEndW U o U' Lc k2 n2 := ⟨q.1, q.2.1, q.2.2.1, q.2.2.2.mono hk hn⟩
theorem Cx.fin (X : Cx p l e R s m args below meth c Z EL kn y bytes maxL ret ws T h k n) (hEL : EW Z a0 EL) {rm : Room} {Qc : Option Value → Heap → List Addr → Prop} {v : Option Value} {ws' : List Addr} (hv : ret = none → v = none) (hk : k ≤ rm.cells) (hn : n ≤ rm.slots) (hQ : Qc v h ws') (hws : ∀ x ∈ ws', x ∈ ws) {gf : JFrame}
    (st : ∀ fs, (∀ (f : JFrame) (acts : List Action), f.method = m → f.locked = none → f.entered = [] → (doReturn e (T.setTop f) acts v).1 = T.setFrames fs) → Steps p.tables e below (T.setTop gf) (T.setFrames fs)) : Go p e below (Post Z EL s rm Qc) T gf := by
  obtain ⟨c0, vm0, k0, locs, St, eT, hZ, hown, hS, hk0, N, H, hsf, E, hkn⟩ := X
  obtain ⟨fs, h1, h2, h3, h4⟩ := St.leaveW hS (by rw [eT]; exact hk0) (v := v) (fun q => hv (c0.2.2.2.1.symm.trans q)) (hlocks := c0.2.2.2.2.1)
  have C := CHv.at St hZ hEL H.1
  refine ⟨T.setFrames fs, .returned v, st fs h1, h2, h3, v, locs, ws', rfl, ?_, N, ?_, ?_, fun x q => ?_, rew_mono h4 hk hn⟩
  · show Qc v T.heap ws'; rw [eT]; exact hQ
  · show Ext Z.heap T.heap; rw [eT]; exact E
  · show CHr Z EL s.vm s.heap T.vm T.heap; rw [eT]; exact H.trans C
  · show Safe Z EL T.vm T.heap x ∧ x < T.heap.size
    rw [eT]; exact ⟨C.safe (hsf x (hws x q)).2 (hsf x (hws x q)).1, (hsf x (hws x q)).2⟩
theorem Cx.stand (X : Cx p l e R s m args below meth c Z EL kn y bytes maxL ret ws T h k n) : ∃ vm0 locs, Stand p l e R (s.setVm vm0) m args below meth c T locs k n := by obtain ⟨c0, vm0, k0, locs, St, -⟩ := X; exact ⟨vm0, locs, St⟩
theorem s_ret (X : Cx p l e R s m args below meth c Z EL kn y bytes maxL none ws T h k n) (hEL : EW Z a0 EL) {rm : Room} {Qc : Option Value → Heap → List Addr → Prop} {ws' : List Addr} (hd : decode bytes pc = .ok (.return_, 1)) (hk : k ≤ rm.cells) (hn : n ≤ rm.slots) (hws : ∀ x ∈ ws', x ∈ ws) (hQ : Qc none h ws') : Go p e below (Post Z EL s rm Qc) T (mkF m pc L []) := by
  obtain ⟨vm0, locs, St⟩ := X.stand
  exact X.fin hEL (fun _ => rfl) hk hn hQ hws fun fs q => St.returnOut X.exec X.1.2.2.2.1 (hb X.code hd) q
theorem s_iretN (X : Cx p l e R s m args below meth c Z EL kn y bytes maxL ret ws T h k n) (hEL : EW Z a0 EL) {rm : Room} {Qc : Option Value → Heap → List Addr → Prop} {ws' : List Addr} {t : FieldType} {z : Int32} (hd : decode bytes pc = .ok (.ireturn, 1)) (hr : ret = some t) (ht : t = .boolean ∨ t = .byte ∨ t = .char ∨ t = .short) (hk : k ≤ rm.cells) (hn : n ≤ rm.slots) (hws : ∀ x ∈ ws', x ∈ ws) (hQ : Qc (some (.int (nar t z))) h ws') : Go p e below (Post Z EL s rm Qc) T (mkF m pc L (.int z :: S)) := by
  obtain ⟨vm0, locs, St⟩ := X.stand
  exact X.fin hEL (fun q => by rw [hr] at q; cases q) hk hn hQ hws fun fs q => retN St X.exec (X.1.2.2.2.1.trans hr) ht (hb X.code hd) q
theorem s_iret (X : Cx p l e R s m args below meth c Z EL kn y bytes maxL (some .int) ws T h k n) (hEL : EW Z a0 EL) {rm : Room} {Qc : Option Value → Heap → List Addr → Prop} {ws' : List Addr} {z : Int32} (hd : decode bytes pc = .ok (.ireturn, 1)) (hk : k ≤ rm.cells) (hn : n ≤ rm.slots) (hws : ∀ x ∈ ws', x ∈ ws) (hQ : Qc (some (.int z)) h ws') : Go p e below (Post Z EL s rm Qc) T (mkF m pc L (.int z :: S)) := by
  obtain ⟨vm0, locs, St⟩ := X.stand
  exact X.fin hEL (fun q => by cases q) hk hn hQ hws fun fs q => retOut St X.exec X.1.2.2.2.1 rfl (Or.inl ⟨rfl, Or.inl rfl, _, rfl⟩) (hb X.code hd) q
theorem s_aret (X : Cx p l e R s m args below meth c Z EL kn y bytes maxL ret ws T h k n) (hEL : EW Z a0 EL) {rm : Room} {Qc : Option Value → Heap → List Addr → Prop} {ws' : List Addr} {t : FieldType} {v : Value} (hd : decode bytes pc = .ok (.areturn, 1)) (hr : ret = some t) (ht : t.isReference = true) (hnr : narrow t v = v) (hv : v.isRef = true) (hk : k ≤ rm.cells) (hn : n ≤ rm.slots) (hws : ∀ x ∈ ws', x ∈ ws) (hQ : Qc (some v) h ws') : Go p e below (Post Z EL s rm Qc) T (mkF m pc L (v :: S)) := by
  obtain ⟨vm0, locs, St⟩ := X.stand
  exact X.fin hEL (fun q => by rw [hr] at q; cases q) hk hn hQ hws fun fs q => retOut St X.exec (X.1.2.2.2.1.trans hr) hnr (Or.inr (Or.inr (Or.inr (Or.inr ⟨rfl, ht, hv⟩)))) (hb X.code hd) q
/-- who pays a call -/
def Pay (l : Launch) (R : Room) (p : Program) (e : Env) (below : List Frame) (s : State) (args : Array Value) (Z : State) (EL : List (String × Nat)) (kn : Prop) (ws : List Addr) (y : MethodName) (len W ck sk : Nat) (as' : Array Value) (h : Heap) (Qc : Option Value → Heap → List Addr → Prop) : Prop :=
  ∀ vm0 : Vm, Z.Warmed39 vm0 → CHv Z EL vm0 h → (∀ x ∈ ws, Safe Z EL vm0 h x ∧ x < h.size) → Ext Z.heap h → (kn → vm0.MethodsKnown ∧ vm0.FramesKnown below) →
    BackS l R p e below (s.setVm vm0) args y len W (fun A a => a = as' ∧ A.U.heap = h ∧ A.cells + ck ≤ R.cells ∧ A.slots + sk ≤ R.slots)
      (fun A _ v B => ∃ L ws', Qc v B.U.heap ws' ∧ Fr Z.heap.size L ∧ Ext Z.heap B.U.heap ∧ B.locs = A.locs ++ L ∧ B.cells = A.cells + ck ∧ B.slots = A.slots + sk ∧ CHr Z EL vm0 h B.U.vm B.U.heap ∧ ∀ x ∈ ws', Safe Z EL B.U.vm B.U.heap x ∧ x < B.U.heap.size)
theorem safe_at {vm0 : Vm} {locs : List Loc} (St : Stand p l e R (s.setVm vm0) m args below meth c T locs k n) (hZ : Z.Warmed39 vm0) (hEL : EW Z a0 EL) (H : CHv Z EL vm0 h) (hsf : ∀ x ∈ ws, Safe Z EL vm0 h x ∧ x < h.size) : ∀ x ∈ ws, Safe Z EL T.vm h x ∧ x < h.size := fun x q => ⟨(CHv.at St hZ hEL H).safe (hsf x q).2 (hsf x q).1, (hsf x q).2⟩
theorem Con.pay {z : MethodName} {b' : ByteArray} {mL' : Nat} {r' : Option FieldType} {rm : Room} {as' : Array Value} {Qc : Option Value → Heap → List Addr → Prop} {len W : Nat} (C : Con l Z EL kn z b' mL' r' rm ws as' h Qc) (wc : (Jvm.Cond.code z b' mL' r').before a0 Z = true) (wz : (Jvm.Cond.initialized z.cls).before a0 Z = true) (hEL : EW Z a0 EL) (hf : rm.frames + 1 ≤ R.frames) (hl : W + (mL' + 11) + rm.locals ≤ R.locals) :
    Pay l R p e below s args Z EL kn ws z len W rm.cells rm.slots as' h Qc := by
  intro vm0 hZ H hsf hE hkn
  refine BackS.of_freeWG (bytes := b') (maxL := mL') (ret := r') (E := fun _ first o t L k n => k = rm.cells ∧ n = rm.slots ∧ (∃ v ws', o = .returned v ∧ Qc v t.heap ws' ∧ Fr Z.heap.size L ∧ Ext Z.heap t.heap ∧ ∀ x ∈ ws', Safe Z EL t.vm t.heap x ∧ x < t.heap.size) ∧ CHr Z EL first.vm first.heap t.vm t.heap) (C []) hf hl
    (fun m meth c A a Y hp => have hU : Z.Warmed39 A.U.vm := wtrans (s := s.setVm vm0) hZ Y.warmed
      ⟨by show (Jvm.Cond.and _ .tt).before a A.U = true; rw [Cond.before_and, mv hU wc]; rfl, mv hU wc, mv hU wz, hp.2.2.1, hp.2.2.2⟩)
    (fun m meth c A a g mk Y hp => ⟨hp.1, wtrans (s := s.setVm vm0) hZ Y.warmed, hp.2.1, (CHv.at Y hZ hEL H).1, safe_at (T := A.U) Y hZ hEL H hsf, hE⟩)
    (fun m meth c A a g mk Y _ hg hk => known_frames Y hg (hkn hk).1 (hkn hk).2)
    (fun _ _ _ _ ⟨v, L, ws', h1, h2, h3, h4, h5, h6, h7⟩ => ⟨L, _, _, h7, rfl, rfl, ⟨v, ws', h1, h2, h3, h4, h6⟩, h5⟩) ?_
  intro m meth c A a g mk v t L k n Y hp _ _ hE'
  obtain ⟨e1, e2, ⟨v', ws', e3, e4, e5, e6, e7⟩, e8⟩ := hE'
  cases e3; subst e1 e2
  refine ⟨L, ws', e4, e5, e6, rfl, rfl, rfl, (CHv.at Y hZ hEL H).trans ?_, e7⟩
  rw [← hp.2.1]; exact e8
theorem Pay.sub {z : MethodName} {as' : Array Value} {Qc : Option Value → Heap → List Addr → Prop} {len W ck sk : Nat} {ws0 : List Addr} (P : Pay l R p e below s args Z EL kn ws0 z len W ck sk as' h Qc) (hs : ∀ x ∈ ws0, x ∈ ws) : Pay l R p e below s args Z EL kn ws z len W ck sk as' h Qc :=
  fun vm0 hZ H hsf hE hkn => P vm0 hZ H (fun x q => hsf x (hs x q)) hE hkn
theorem Con.payS {z : MethodName} {b' : ByteArray} {mL' : Nat} {r' : Option FieldType} {rm : Room} {as' : Array Value} {Qc : Option Value → Heap → List Addr → Prop} {len W : Nat} {ws0 : List Addr} (C : Con l Z EL kn z b' mL' r' rm ws0 as' h Qc) (hs : ∀ x ∈ ws0, x ∈ ws) (wc : (Jvm.Cond.code z b' mL' r').before a0 Z = true) (wz : (Jvm.Cond.initialized z.cls).before a0 Z = true) (hEL : EW Z a0 EL) (hf : rm.frames + 1 ≤ R.frames) (hl : W + (mL' + 11) + rm.locals ≤ R.locals) :
    Pay l R p e below s args Z EL kn ws z len W rm.cells rm.slots as' h Qc := (C.pay wc wz hEL hf hl).sub hs
theorem Pay.of_back {z : MethodName} {as' : Array Value} {Q0 : Option Value → Heap → List Loc → Prop} {Qc : Option Value → Heap → List Addr → Prop} {len W ck sk : Nat} (hEL : EW Z a0 EL)
    (B : ∀ vm0 : Vm, Z.Warmed39 vm0 → Back l R p e below (s.setVm vm0) args z len W (fun P a => a = as' ∧ P.U.heap = h ∧ P.cells + ck ≤ R.cells ∧ P.slots + sk ≤ R.slots) (fun P _ v B => ∃ L, Q0 v B.U.heap L ∧ B.locs = P.locs ++ L ∧ B.cells = P.cells + ck ∧ B.slots = P.slots + sk))
    (hq : ∀ v h' L, Q0 v h' L → ∃ wr ws', Keep h h' wr ∧ (∀ x ∈ wr, x ∈ ws ∧ Z.heap.size ≤ x) ∧ Fr Z.heap.size L ∧ Qc v h' ws' ∧ ∀ x ∈ ws', x ∈ ws ∨ (h.size ≤ x ∧ x < h'.size)) : Pay l R p e below s args Z EL kn ws z len W ck sk as' h Qc := by
  intro vm0 hZ H hsf hE hkn m meth c A g ig mk a X hg hsize hdg hW hn hp
  obtain ⟨v, B1, X', ⟨L, q0, r1, r2, r3⟩, st⟩ := B vm0 hZ m meth c A g ig mk a X hg hsize hdg hW hn hp
  obtain ⟨wr, ws', K, k1, k2, k3, k4⟩ := hq _ _ _ q0
  have sw : ∀ x ∈ wr, Safe Z EL vm0 h x := fun x q => (hsf x (k1 x q).1).1
  have C1 : CHr Z EL vm0 h vm0 B1.U.heap := CHr.keep K sw H
  have C2 := CHv.at X' hZ hEL C1.1
  refine ⟨v, B1, X'.retabled X'.warmed.wide, X'.warmed.since _, by rw [hp.2.1]; exact K.1, ⟨L, ws', k3, k2, ext_keep hE K fun x q => (k1 x q).2, r1, r2, r3, C1.trans C2, fun x q => ?_⟩, st⟩
  have lt : x < B1.U.heap.size := (k4 x q).elim (fun r => Nat.lt_of_lt_of_le (hsf x r).2 K.1) (fun r => r.2)
  refine ⟨C2.safe lt ?_, lt⟩
  exact Safe.keep K sw H ((k4 x q).elim (fun r => (hsf x r).1) (fun r => Safe.new r.1))
theorem after {vm0 : Vm} {k0 : Nat} {locs L' : List Loc} {ws' : List Addr} {ck sk : Nat} {U : State} (c0 : p.tables.exec = Jvm.exec ∧ c.code = bytes ∧ c.maxLocals = maxL ∧ meth.sig.returnType = ret ∧ meth.locks = false ∧ meth.name = y.name)
    (X' : Stand p l e R ((s.setVm vm0).setVm U.vm) m args below meth c U (locs ++ L') (k + ck) (n + sk)) (hZ : Z.Warmed39 vm0) (hown : vm0.findClass y.cls = some m.cls) (hS : s.Since vm0 k0) (hk : k0 ≤ h.size) (N : Fr Z.heap.size locs) (H : CHr Z EL s.vm s.heap vm0 h) (hsf : ∀ x ∈ ws, Safe Z EL vm0 h x ∧ x < h.size) (hkn : kn → vm0.MethodsKnown ∧ vm0.FramesKnown below)
    (h2 : (s.setVm vm0).Since U.vm U.heap.size) (hgr : h.size ≤ U.heap.size) (N' : Fr Z.heap.size L') (E' : Ext Z.heap U.heap) (H' : CHr Z EL vm0 h U.vm U.heap) (hsf' : ∀ x ∈ ws', Safe Z EL U.vm U.heap x ∧ x < U.heap.size) :
    Cx p l e R s m args below meth c Z EL kn y bytes maxL ret (ws' ++ ws) U U.heap (k + ck) (n + sk) := by
  have al : vm0.Alike U.vm := h2.1.alike
  refine ⟨c0, U.vm, _, _, X', rfl, State.Warmed39.trans (t := s.setVm vm0) hZ h2.1, (al.findClass _ _).trans hown, hS.trans h2 (Nat.le_trans hk hgr), Nat.le_refl _, N.app N', H.trans H', fun x q => ?_, E', fun q => ⟨Vm.MethodsKnown.alikeC al (hkn q).1, fun fr hfr m' hm' => knowsMethod_alike al ((hkn q).2 fr hfr m' hm')⟩⟩
  rcases List.mem_append.mp q with q | q
  · exact hsf' x q
  · exact ⟨H'.safe (hsf x q).2 (hsf x q).1, Nat.lt_of_lt_of_le (hsf x q).2 hgr⟩
theorem s_static (X : Cx p l e R s m args below meth c Z EL kn y bytes maxL ret ws T h k n) {index : Nat} {z : MethodName} {b' : ByteArray} {mL' : Nat} {r' : Option FieldType} {W ck sk : Nat} {as' : List Value} {Qc : Option Value → Heap → List Addr → Prop} {ps : List FieldType} {rr : Option FieldType} {stk : List Value} {k' n' : Nat} (hd : decode bytes pc = .ok (.invokestatic index, 3))
    (w1 : (Jvm.Cond.methodLink y.cls index z).before a0 Z = true) (w2 : (Jvm.Cond.static z).before a0 Z = true) (w3 : (Jvm.Cond.initialized z.cls).before a0 Z = true) (w4 : (Jvm.Cond.code z b' mL' r').before a0 Z = true) (hz : z.cls ≠ "java/lang/invoke/MethodHandle" ∧ z.cls ≠ "java/lang/invoke/VarHandle") (hpd : parseMethodDescriptor z.desc = some ⟨ps, rr⟩) (hlen : as'.length = ps.length)
    (P : Pay l R p e below s args Z EL kn ws z 3 W ck sk as'.toArray h Qc) (hW : (S.map fun v => v.category).sum ≤ W) (hsz : L.size = maxL) (hst : stk = as'.reverse ++ S) (hk' : k + ck ≤ k') (hn' : n + sk ≤ n') (hkR : k' ≤ R.cells) (hnR : n' ≤ R.slots) (hp : pc + 3 = pc')
    (K : ∀ T' h' v ws', Cx p l e R s m args below meth c Z EL kn y bytes maxL ret (ws' ++ ws) T' h' k' n' → h.size ≤ h'.size → Qc v h' ws' → Go p e below Q T' (mkF m pc' L (v.toList ++ S))) : Go p e below Q T (mkF m pc L stk) := by
  subst hp; subst hst
  obtain ⟨c0, vm0, k0, locs, St, eT, hZ, hown, hS, hk, N, H, hsf, E, hkn⟩ := X
  have hP := P vm0 hZ H.1 hsf E hkn
  obtain ⟨v, vm₁, B, hw, X', h2, hgr, ⟨L', ws', q1, q2, q3, q4, q5, q6, q7, q8⟩, st⟩ := callSS St c0.1 hown (mvT hZ w1) (mvT hZ w2) (mvT hZ w3) (mvT hZ w4) hz hP (g := mkF m pc L (as'.reverse ++ S)) rfl (hsz.trans c0.2.2.1.symm) (lenOf hpd hlen) rfl (by show 2 * 0 + _ ≤ _; omega) (hb c0.2.1 hd) (fun _ _ => ⟨rfl, eT, Nat.le_trans hk' hkR, Nat.le_trans hn' hnR⟩)
  obtain ⟨U, Lb, kb, nb⟩ := B
  dsimp only [Pt.U, Pt.locs, Pt.cells, Pt.slots] at X' h2 hgr q1 q2 q3 q4 q5 q6 q7 q8 st
  subst q4 q5 q6
  rw [eT] at hgr
  exact Go.of (fun t q => st.trans q) (K U U.heap v ws' ((after c0 X' hZ hown hS hk N H hsf hkn h2 hgr q2 q3 q7 q8).more hk' hn') hgr q1)
theorem s_special (X : Cx p l e R s m args below meth c Z EL kn y bytes maxL ret ws T h k n) {index : Nat} {z : MethodName} {b' : ByteArray} {mL' : Nat} {W ck sk : Nat} {a : Addr} {as' : List Value} {Qc : Option Value → Heap → List Addr → Prop} {ps : List FieldType} {rr : Option FieldType} {stk : List Value} {k' n' : Nat} (hd : decode bytes pc = .ok (.invokespecial index, 3)) (hz1 : z.name = "<init>")
    (w1 : (Jvm.Cond.methodLink y.cls index z).before a0 Z = true) (w2 : (Jvm.Cond.instanceMethod z).before a0 Z = true) (w4 : (Jvm.Cond.code z b' mL' none).before a0 Z = true) (hz : z.cls ≠ "java/lang/invoke/MethodHandle" ∧ z.cls ≠ "java/lang/invoke/VarHandle") (hpd : parseMethodDescriptor z.desc = some ⟨ps, rr⟩) (hlen : as'.length = ps.length)
    (P : Pay l R p e below s args Z EL kn ws z 3 W ck sk (.ref a :: as').toArray h Qc) (hW : (S.map fun v => v.category).sum ≤ W) (hsz : L.size = maxL) (hst : stk = as'.reverse ++ .ref a :: S) (hk' : k + ck ≤ k') (hn' : n + sk ≤ n') (hkR : k' ≤ R.cells) (hnR : n' ≤ R.slots) (hp : pc + 3 = pc')
    (K : ∀ T' h' v ws', Cx p l e R s m args below meth c Z EL kn y bytes maxL ret (ws' ++ ws) T' h' k' n' → h.size ≤ h'.size → Qc v h' ws' → Go p e below Q T' (mkF m pc' L (v.toList ++ S))) : Go p e below Q T (mkF m pc L stk) := by
  subst hp; subst hst
  obtain ⟨c0, vm0, k0, locs, St, eT, hZ, hown, hS, hk, N, H, hsf, E, hkn⟩ := X
  have hP := P vm0 hZ H.1 hsf E hkn
  obtain ⟨v, vm₁, B, hw, X', h2, hgr, ⟨L', ws', q1, q2, q3, q4, q5, q6, q7, q8⟩, st⟩ := St.specialBackS c0.1 hz1 hown (mvT hZ w1) (mvT hZ w2) (mvT hZ w4) hz hP (g := mkF m pc L (as'.reverse ++ .ref a :: S)) rfl (hsz.trans c0.2.2.1.symm) (Steps.refl _) (lenOf hpd hlen) rfl (by show 2 * 0 + _ ≤ _; omega) (hb c0.2.1 hd) (fun _ _ => ⟨rfl, eT, Nat.le_trans hk' hkR, Nat.le_trans hn' hnR⟩)
  obtain ⟨U, Lb, kb, nb⟩ := B
  dsimp only [Pt.U, Pt.locs, Pt.cells, Pt.slots] at X' h2 hgr q1 q2 q3 q4 q5 q6 q7 q8 st
  subst q4 q5 q6
  rw [eT] at hgr
  exact Go.of (fun t q => st.trans q) (K U U.heap v ws' ((after c0 X' hZ hown hS hk N H hsf hkn h2 hgr q2 q3 q7 q8).more hk' hn') hgr q1)
theorem nface {C : String} {z : MethodName} (w : (Jvm.Cond.selects C z z).before a0 Z = true) : ∀ s : State, Z.Warmed39 s.vm → NotFace s z := fun s hZ => notFace_of_selects (args := #[]) (mvT hZ w)
theorem s_virtual (X : Cx p l e R s m args below meth c Z EL kn y bytes maxL ret ws T h k n) {index : Nat} {C : String} {z z' : MethodName} {W ck sk : Nat} {a : Addr} {as' : List Value} {Qc : Option Value → Heap → List Addr → Prop} {ps : List FieldType} {rr : Option FieldType} {stk : List Value} {k' n' : Nat} (hd : decode bytes pc = .ok (.invokevirtual index, 3))
    (w1 : (Jvm.Cond.methodLink y.cls index z).before a0 Z = true) (w2 : (Jvm.Cond.declares z).before a0 Z = true) (w3 : (Jvm.Cond.selects C z z').before a0 Z = true) (w4 : (Jvm.Cond.instanceMethod z').before a0 Z = true) (nf : ∀ s : State, Z.Warmed39 s.vm → NotFace s z) (hz : z.cls ≠ "java/lang/invoke/MethodHandle" ∧ z.cls ≠ "java/lang/invoke/VarHandle") (hpd : parseMethodDescriptor z.desc = some ⟨ps, rr⟩) (hlen : as'.length = ps.length) (E0 : Exa Z h a C)
    (P : Pay l R p e below s args Z EL kn ws z' 3 W ck sk (.ref a :: as').toArray h Qc) (hW : (S.map fun v => v.category).sum ≤ W) (hsz : L.size = maxL) (hst : stk = as'.reverse ++ .ref a :: S) (hk' : k + ck ≤ k') (hn' : n + sk ≤ n') (hkR : k' ≤ R.cells) (hnR : n' ≤ R.slots) (hp : pc + 3 = pc')
    (K : ∀ T' h' v ws', Cx p l e R s m args below meth c Z EL kn y bytes maxL ret (ws' ++ ws) T' h' k' n' → h.size ≤ h'.size → Qc v h' ws' → Go p e below Q T' (mkF m pc' L (v.toList ++ S))) : Go p e below Q T (mkF m pc L stk) := by
  subst hp; subst hst
  obtain ⟨c0, vm0, k0, locs, St, eT, hZ, hown, hS, hk, N, H, hsf, E, hkn⟩ := X
  have hP := P vm0 hZ H.1 hsf E hkn
  have hZ' : Z.Warmed39 (s.setVm vm0).vm := hZ
  obtain ⟨cq, kq, qa, qb, qc⟩ := isOf hZ' eT E0
  obtain ⟨v, vm₁, B, hw, X', h2, hgr, ⟨L', ws', q1, q2, q3, q4, q5, q6, q7, q8⟩, st⟩ := St.virtualBackS c0.1 hown (mvT hZ w1) (mvT hZ w2) (nf (s.setVm vm0) hZ) (mvT hZ w3) (mvT hZ w4) hz hP qa qc (g := mkF m pc L (as'.reverse ++ .ref a :: S)) rfl (hsz.trans c0.2.2.1.symm) (Steps.refl _) (lenOf hpd hlen) rfl (by show 2 * 0 + _ ≤ _; omega) (hb c0.2.1 hd) (fun _ _ => ⟨rfl, eT, Nat.le_trans hk' hkR, Nat.le_trans hn' hnR⟩)
  obtain ⟨U, Lb, kb, nb⟩ := B
  dsimp only [Pt.U, Pt.locs, Pt.cells, Pt.slots] at X' h2 hgr q1 q2 q3 q4 q5 q6 q7 q8 st
  subst q4 q5 q6
  rw [eT] at hgr
  exact Go.of (fun t q => st.trans q) (K U U.heap v ws' ((after c0 X' hZ hown hS hk N H hsf hkn h2 hgr q2 q3 q7 q8).more hk' hn') hgr q1)
theorem s_initO (X : Cx p l e R s m args below meth c Z EL kn y bytes maxL ret ws T h k n) {index : Nat} {a : Addr} (hd : decode bytes pc = .ok (.invokespecial index, 3))
    (w1 : (Jvm.Cond.methodLink y.cls index ⟨"java/lang/Object", "<init>", "()V"⟩).before a0 Z = true) (w2 : (Jvm.Cond.instanceMethod ⟨"java/lang/Object", "<init>", "()V"⟩).before a0 Z = true) {b' : ByteArray} (hb0 : b' = ⟨#[0xb1]⟩) (w4 : (Jvm.Cond.code ⟨"java/lang/Object", "<init>", "()V"⟩ b' 1 none).before a0 Z = true)
    {W : Nat} (hW : (S.map fun v => v.category).sum ≤ W) (hfr : 1 ≤ R.frames) (hlo : W + 12 ≤ R.locals) (hsz : L.size = maxL) (hp : pc + 3 = pc')
    (K : ∀ T', Cx p l e R s m args below meth c Z EL kn y bytes maxL ret ws T' h k n → Go p e below Q T' (mkF m pc' L S)) : Go p e below Q T (mkF m pc L (.ref a :: S)) := by
  subst hp; subst hb0
  obtain ⟨c0, vm0, k0, locs, St, eT, hZ, hown, hS, hk, N, H, hsf, E, hkn⟩ := X
  obtain ⟨T', X', e', st⟩ := initO St c0.1 hZ hown w1 w2 w4 eT (g := mkF m pc L (.ref a :: S)) rfl (hsz.trans c0.2.2.1.symm) rfl (hb c0.2.1 hd) hfr (W := W) (by show 2 * 0 + _ ≤ _; omega) hlo
  exact Go.of st (K T' ⟨c0, vm0, k0, locs, X', e', hZ, hown, hS, hk, N, H, hsf, E, hkn⟩)
/-- ldc of a String constant that is held: the text read -/
theorem s_ldcS (X : Cx p l e R s m args below meth c Z EL kn y bytes maxL ret ws T h k n) {index : Nat} {text : String} (hEL : EW Z a0 EL) (hd : decode bytes pc = .ok (.ldc index, 2)) (w : (Jvm.Cond.stringLink y.cls index text).before a0 Z = true) (wS : ∀ a ∈ Bundle.stringAtoms, a.before a0 Z = true) (hmem : (y.cls, index) ∈ EL)
    {vs : List Value} {z : Int32} (ht : (∀ c ∈ text.toList, c.toNat < 256) ∧ text.toList.map (fun c => Value.int (Jvm.Lit.byteI c.toNat.toUInt16)) = vs) (hz : ¬ z < 0) (hl : z.toNatClampNeg = vs.length) {nn k' n' : Nat} (hnn : 4 * text.toList.length ≤ nn) (hbig : nn ≤ 536870912) (hk' : k + 2 ≤ k') (hn' : n + (nn + 4) ≤ n') (hkR : k' ≤ R.cells) (hnR : n' ≤ R.slots) (hp : pc + 2 = pc')
    (K : ∀ T' h' (a b : Addr) (kc : ClassId), Cx p l e R s m args below meth c Z EL kn y bytes maxL ret ws T' h' k' n' → Ext h h' → Exa Z h' a "java/lang/String" → Fld Z h' a "java/lang/String" "coder" "B" (.int 0) → Fld Z h' a "java/lang/String" "value" "[B" (.ref b) → Arv Z h' b kc .byte z vs (.int 0) → (∀ x ∈ ws, x ≠ a ∧ x ≠ b) → Go p e below Q T' (mkF m pc' L (.ref a :: S))) : Go p e below Q T (mkF m pc L S) := by
  subst hp
  obtain ⟨c0, vm0, k0, locs, St, eT, hZ, hown, hS, hk, N, H, hsf, E, hkn⟩ := X
  obtain ⟨a, T', h', k1, b, kc, X', e', E', hS', hk1, hZ', hown', A1, A2, A3, A4, l1, l2, C, -, sf, st⟩ := ldcCH St c0.1 hZ hown w wS eT hS hk hEL hmem H.1 ht hz hl (g := mkF m pc L S) rfl (hb c0.2.1 hd) hnn hbig (Nat.le_trans hk' hkR) (Nat.le_trans hn' hnR)
  have al : vm0.Alike T'.vm := hS.1.alike.symm.trans hS'.1.alike
  exact Go.of st (K T' h' a b kc ⟨c0, T'.vm, k1, _, X'.mono hk' hn', e', hZ', hown', hS', hk1, N, H.trans C, fun x q => ⟨C.safe (hsf x q).2 (hsf x q).1, Nat.lt_of_lt_of_le (hsf x q).2 E'.1⟩, ext_trans E E', fun q => ⟨Vm.MethodsKnown.alikeC al (hkn q).1, fun fr hfr m' hm' => knowsMethod_alike al ((hkn q).2 fr hfr m' hm')⟩⟩ E' A1 A2 A3 A4 (fun x q => sf x (C.safe (hsf x q).2 (hsf x q).1)))
/-- an array's clone -/
theorem s_clone (X : Cx p l e R s m args below meth c Z EL kn y bytes maxL ret ws T h k n) {index : Nat} {ad : String} {a : Addr} {ty : FieldType} {vs : List Value} {W k' n' : Nat} (hd : decode bytes pc = .ok (.invokevirtual index, 3))
    (w1 : (Cond.methodLink y.cls index ⟨ad, "clone", "()Ljava/lang/Object;"⟩).before a0 Z = true) (w2 : (Cond.sameMethod ad "java/lang/Object" "clone" "()Ljava/lang/Object;").before a0 Z = true) (w3 : (Cond.native ⟨"java/lang/Object", "clone", "()Ljava/lang/Object;"⟩).before a0 Z = true)
    (w4 : (Cond.instanceMethod ⟨"java/lang/Object", "clone", "()Ljava/lang/Object;"⟩).before a0 Z = true) (w5 : (Cond.selects ad ⟨ad, "clone", "()Ljava/lang/Object;"⟩ ⟨"java/lang/Object", "clone", "()Ljava/lang/Object;"⟩).before a0 Z = true) (w6 : (Cond.castable ad "java/lang/Cloneable").before a0 Z = true)
    (A : Ary Z h a ty vs) (E0 : Exa Z h a ad) (hsz : L.size = maxL) (hW : (S.map fun v => v.category).sum ≤ W) (hf : 1 ≤ R.frames) (hl : W + 14 ≤ R.locals) (hk' : k + 1 ≤ k') (hn' : n + vs.length ≤ n') (hkR : k' ≤ R.cells) (hnR : n' ≤ R.slots) (hp : pc + 3 = pc')
    (K : ∀ (T' : State) (h' : Heap) (b : Addr), b = h.size → Cx p l e R s m args below meth c Z EL kn y bytes maxL ret (b :: ws) T' h' k' n' → Ext h h' → Ary Z h' b ty vs → Exa Z h' b ad → Go p e below Q T' (mkF m pc' L (.ref b :: S))) : Go p e below Q T (mkF m pc L (.ref a :: S)) := by
  subst hp
  have hv : vs.length < 2 ^ 31 := by obtain ⟨_, _, _, q, _⟩ := A; exact q
  obtain ⟨kc, F⟩ := A.arv .null
  obtain ⟨c0, vm0, k0, locs, St, eT, hZ, hown, hS, hk, N0, H, hsf, E, hkn⟩ := X
  obtain ⟨T', h', X', e', E', F', E1, st⟩ := cloneH St c0.1 hZ hown w1 w2 w3 w4 w5 w6 eT F.arh E0 (g := mkF m pc L (.ref a :: S)) rfl (hsz.trans c0.2.2.1.symm) rfl (hb c0.2.1 hd) hf (by show 2 * 0 + _ ≤ _; omega) hl (cap := vs.length) (Nat.le_of_eq (n32 hv)) (Nat.le_trans hk' hkR) (Nat.le_trans hn' hnR)
  have A' : Ary Z h' h.size ty vs := Ary.of_arv (show Arv Z h' h.size kc ty _ vs .null from F') (n32 hv) hv
  refine Go.of st (K T' h' h.size rfl ⟨c0, vm0, k0, _, X'.mono hk' hn', e', hZ, hown, hS, Nat.le_trans hk E'.1, N0, H.trans (CHr.ext E' H.1), fun x q => ?_, ext_trans E E', hkn⟩ E' A' E1)
  rcases List.mem_cons.mp q with rfl | q
  · exact ⟨Safe.ext E' H.1 (Safe.new (Nat.le_refl _)), A'.lt⟩
  · exact ⟨Safe.ext E' H.1 (hsf x q).1, Nat.lt_of_lt_of_le (hsf x q).2 E'.1⟩
/-- what the elements of an array are worth at the start -/
def ElemsL (a1 : Array Value) (Z : State) (t : Term) : Nat → List Value → Prop
  | _, [] => True
  | i, v :: r => (Term.elem t (.int (Int32.ofNat i))).eval a1 Z none [] Z = some v ∧ ElemsL a1 Z t (i + 1) r
theorem ElemsL.has {a1 : Array Value} {t : Term} {a : Addr} {cl : Cell} (ev : t.eval a1 Z none [] Z = some (.ref a)) (hc : Z.heap[a]? = some cl) : ∀ (vs : List Value) (i : Nat), i + vs.length < 2 ^ 31 → ElemsL a1 Z t i vs → HasL cl i vs
  | [], _, _, _ => trivial
  | v :: r, i, hi, q => by
    have hi' : i + (r.length + 1) < 2 ^ 31 := hi
    have z := (elem_in q.1 ev (Term.int_eval _) hc).2
    rw [n32 (by omega)] at z
    exact ⟨z, ElemsL.has ev hc r (i + 1) (by omega) q.2⟩
theorem ary_start {a1 : Array Value} {t : Term} {a : Addr} {ty : FieldType} {z : Int32} {vs : List Value} (hf : Fit Z) (ev : t.eval a1 Z none [] Z = some (.ref a)) (hA : (Jvm.Cond.arrayOf t ty).value a1 Z none Z [] = some true) (hl : (Jvm.Cond.eq (Term.length t) (.int z)).value a1 Z none Z [] = some true) (hz : z = Int32.ofNat vs.length) (hv : vs.length < 2 ^ 31) (he : ElemsL a1 Z t 0 vs) : Ary Z Z.heap a ty vs := by
  obtain ⟨cl, A⟩ := Arr.start ev hA
  obtain ⟨v, h1, h2⟩ := Cond.eq_worth hl
  cases (Term.int_eval (args := a1) (first := Z) (o := none) (idx := []) (s := Z) z).symm.trans h2
  have hs : cl.slots.size < 2 ^ 31 ∧ cl.slots.size.toInt32 = z := by
    simp only [Term.eval, Option.bind_eq_bind, ev, Option.bind_some] at h1
    obtain ⟨cell, hcell, h1⟩ := Option.bind_eq_some_iff.mp h1
    cases A.1.symm.trans (State.arrayAt?_spec hcell).1
    by_cases hn : cl.slots.size < 2147483648
    · rw [if_pos hn] at h1; injection h1 with h1; injection h1 with h1; exact ⟨hn, h1⟩
    · rw [if_neg hn] at h1; cases h1
  subst hz
  exact Ary.of_arv (Arv.start (dv := .null) hf A hs.1 hs.2 (nn32 hv) (n32 hv) (ElemsL.has ev A.1 vs 0 (by omega) he)) (n32 hv) hv
end Own
end Jvm.Own
/- laws to paste: Road.backV, Road.lenW, Road.chN, Road.eqW, Road.codOf (cut by pick.py; bodies as the Statement names them) -/
namespace Jvm.Pilot.@@N@@
namespace StrChars
open Jvm Sem ClassFile Op Lib Jvm.Stand Jvm.Free.XT Jvm.Free.ALB Jvm.Free.JM Jvm.Free
open Jvm.Lib.Cold (StaticIs)
/-- a char array whose places are chars -/
def Ch (a : Addr) (A : Cell) (U : State) : Prop := Arr .char a A U ∧ Typed .char A
theorem Ch.mv {a : Addr} {A : Cell} {U U' : State} (h : Ch a A U) (hal : U.vm.Alike U'.vm) (hh : U'.heap = U.heap) : Ch a A U' := ⟨h.1.mv hal hh, h.2⟩
theorem Ch.keep {a : Addr} {A : Cell} {U U' : State} (h : Ch a A U) (hal : U.vm.Alike U'.vm) (hk : U'.heap[a]? = some A) : Ch a A U' := ⟨h.1.keep hal hk, h.2⟩
/-- what place i of a char[]'s cell holds -/
def cv (A : Cell) (i : Nat) : Int32 := match A.slots[i]? with | some (.int x) => x | _ => 0
theorem Ch.get {a : Addr} {A : Cell} {U : State} (h : Ch a A U) {i : Nat} (hi : i < A.slots.size) : A.slots[i]? = some (.int (cv A i)) := by
  have e := Array.getElem?_eq_getElem hi
  have f := h.2 i _ e
  unfold cv; rw [e]
  generalize A.slots[i] = v at f
  cases v <;> simp [fits] at f ⊢
/-- the byte that i2b leaves of a char -/
def lo8 (x : Int32) : Int32 := x.toInt8.toInt32
theorem fits_lo8 (y : Int32) : fits .byte (.int (lo8 y)) = true := by
  have h1 := y.toInt8.le_toInt
  have h2 := y.toInt8.toInt_lt
  simp only [lo8, fits, Bool.and_eq_true, decide_eq_true_eq, Int32.le_iff_toInt_le, Int8.toInt_toInt32, show (-128 : Int32).toInt = -128 from by decide, show (127 : Int32).toInt = 127 from by decide]
  omega
/-- A' is A but that each place j of lo .. hi - 1 holds f j -/
def Laid (A A' : Cell) (lo hi : Nat) (f : Nat → Value) : Prop := A'.cls = A.cls ∧ A'.vm = A.vm ∧ A'.slots.size = A.slots.size ∧ ∀ i, A'.slots[i]? = if lo ≤ i ∧ i < hi then some (f i) else A.slots[i]?
theorem Laid.zero (A : Cell) (lo : Nat) (f : Nat → Value) : Laid A A lo (lo + 0) f := ⟨rfl, rfl, rfl, fun i => by rw [if_neg (by omega)]⟩
theorem Laid.step {A Ak : Cell} {lo k : Nat} {f : Nat → Value} {v : Value} (h : Laid A Ak lo k f) (hlo : lo ≤ k) (hk : k < Ak.slots.size) (hv : v = f k) : Laid A (Ak.setSlot k v) lo (k + 1) f := by
  refine ⟨h.1, h.2.1, by simpa [Cell.setSlot] using h.2.2.1, fun i => ?_⟩
  by_cases e : k = i
  · subst e; rw [Cell.slots_setSlot_self v hk, if_pos (by omega), hv]
  · rw [Cell.slots_setSlot_ne v e, h.2.2.2 i]
    by_cases q : lo ≤ i ∧ i < k
    · rw [if_pos q, if_pos (by omega)]
    · rw [if_neg q, if_neg (by omega)]
def U16 : String := "java/lang/StringUTF16"
namespace Cmp5
def yN : MethodName := ⟨"java/lang/StringUTF16", "compress", "([CI[BII)I"⟩
abbrev yB : ByteArray := jdk_52_method_21_code
theorem d0 : decode yB 0 = .ok (.iconst 0, 1) := by decide +kernel
theorem d1 : decode yB 1 = .ok (.istore 5, 2) := by decide +kernel
theorem d3 : decode yB 3 = .ok (.iload 5, 2) := by decide +kernel
theorem d5 : decode yB 5 = .ok (.iload 4, 2) := by decide +kernel
theorem d7 : decode yB 7 = .ok (.if_icmp (.ge) 37, 3) := by decide +kernel
theorem d10 : decode yB 10 = .ok (.aload_n 0, 1) := by decide +kernel
theorem d11 : decode yB 11 = .ok (.iload_n 1, 1) := by decide +kernel
theorem d12 : decode yB 12 = .ok (.caload, 1) := by decide +kernel
theorem d13 : decode yB 13 = .ok (.istore 6, 2) := by decide +kernel
theorem d15 : decode yB 15 = .ok (.iload 6, 2) := by decide +kernel
theorem d17 : decode yB 17 = .ok (.sipush 255, 3) := by decide +kernel
theorem d20 : decode yB 20 = .ok (.if_icmp (.le) 6, 3) := by decide +kernel
theorem d26 : decode yB 26 = .ok (.aload_n 2, 1) := by decide +kernel
theorem d27 : decode yB 27 = .ok (.iload_n 3, 1) := by decide +kernel
theorem d28 : decode yB 28 = .ok (.iload 6, 2) := by decide +kernel
theorem d30 : decode yB 30 = .ok (.i2b, 1) := by decide +kernel
theorem d31 : decode yB 31 = .ok (.bastore, 1) := by decide +kernel
theorem d32 : decode yB 32 = .ok (.iinc 1 1, 3) := by decide +kernel
theorem d35 : decode yB 35 = .ok (.iinc 3 1, 3) := by decide +kernel
theorem d38 : decode yB 38 = .ok (.iinc 5 1, 3) := by decide +kernel
theorem d41 : decode yB 41 = .ok (.goto (-38), 3) := by decide +kernel
theorem d44 : decode yB 44 = .ok (.iload 4, 2) := by decide +kernel
theorem d46 : decode yB 46 = .ok (.ireturn, 1) := by decide +kernel
def site : List Cond := []
def tab : Cond := tabOf yN yB 7 (some .int) site
def P (b : Addr) (A : Cell) (d : Addr) (B : Cell) (o q len : Nat) (args : Array Value) (s : State) : Prop := args = #[.ref b, .int (Int32.ofNat o), .ref d, .int (Int32.ofNat q), .int (Int32.ofNat len)] ∧ Ch b A s ∧ Arr .byte d B s ∧ b ≠ d ∧ o + len ≤ A.slots.size ∧ q + len ≤ B.slots.size ∧ ∀ i, i < len → ¬ 255 < cv A (o + i)
def E (b : Addr) (A : Cell) (d : Addr) (B : Cell) (o q len : Nat) (r : Option Value) (s u : State) : Prop := r = some (.int (Int32.ofNat len)) ∧ ∃ B', Put d B' s u ∧ Laid B B' q (q + len) (fun j => Value.int (lo8 (cv A (o + (j - q)))))
/-- no char of the range above 255: len; the places written hold each char's low byte -/
theorem law (l : Launch) (b : Addr) (A : Cell) (d : Addr) (B : Cell) (o q len : Nat) : Law l yN 5 5 0 0 yB 7 (some .int) site (P b A d B o q len) (E b A d B o q len) (copyLocs d q len) 0 0 := by
  refine Law.of_walk (plainFor_of_name (by decide +kernel)) (by decide +kernel) (by decide +kernel) (by decide) (fun _ _ h => by rw [h.1]; rfl) (fun _ U U' hal hh h => ⟨h.1, h.2.1.mv hal hh, h.2.2.1.mv hal hh, h.2.2.2⟩) (fun r U U' V V' h1 hal h2 h => ⟨h.1, h.2.elim fun B' q => ⟨B', q.1.mv h1 h2, q.2⟩⟩) ?_
  intro p e s m args below meth c s₁ X0 hexec hbytes hml hret hlk hnm hown hh0 W hP
  obtain ⟨rfl, hA, hB, hne, l1, l2, hp⟩ := hP
  have c1 : Steps p.tables e below (s₁.setTop (entryFrame m #[.ref b, .int (Int32.ofNat o), .ref d, .int (Int32.ofNat q), .int (Int32.ofNat len)] 7)) (s₁.setTop (mkF m 0 #[.val (.ref b), .val (.int (Int32.ofNat o)), .val (.ref d), .val (.int (Int32.ofNat q)), .val (.int (Int32.ofNat len)), .unset, .unset] [])) := entry rfl
  have hA0 := hA.1.mv X0.warmed.alike hh0
  have hB0 := hB.mv X0.warmed.alike hh0
  have a31 := hA.1.2.2.2
  have c2 : Steps p.tables e below (s₁.setTop (entryFrame m #[.ref b, .int (Int32.ofNat o), .ref d, .int (Int32.ofNat q), .int (Int32.ofNat len)] 7)) (s₁.setTop (mkF m 3 #[.val (.ref b), .val (.int (Int32.ofNat o)), .val (.ref d), .val (.int (Int32.ofNat q)), .val (.int (Int32.ofNat len)), .val (.int 0), .unset] [])) := c1.trans (by
    refine iconstV X0.here hexec rfl 0 (hb hbytes d0) (by decide) ?_
    refine XS.istore X0.here hexec rfl (hb hbytes d1) rfl rfl ?_
    exact Steps.refl _)
  have loop : ∀ (r i : Nat), i + r = len → ∀ (z : Slot), (z = .unset ∨ ∃ w, z = .val w ∧ w.category = 1) → ∀ (Tl : State) (Bk : Cell), Stand p l e { frames := 0, locals := 0, cells := 0, slots := 0 } s m #[.ref b, .int (Int32.ofNat o), .ref d, .int (Int32.ofNat q), .int (Int32.ofNat len)] below meth c Tl ([] ++ copyLocs d q i) 0 0 → Put d Bk s₁ Tl → Laid B Bk q (q + i) (fun j => Value.int (lo8 (cv A (o + (j - q))))) →
      Steps p.tables e below (s₁.setTop (entryFrame m #[.ref b, .int (Int32.ofNat o), .ref d, .int (Int32.ofNat q), .int (Int32.ofNat len)] 7)) (Tl.setTop (mkF m 3 #[.val (.ref b), .val (.int (Int32.ofNat (o + i))), .val (.ref d), .val (.int (Int32.ofNat (q + i))), .val (.int (Int32.ofNat len)), .val (.int (Int32.ofNat i)), z] [])) → ∃ (T' : State) (B' : Cell) (z' : Slot), Stand p l e { frames := 0, locals := 0, cells := 0, slots := 0 } s m #[.ref b, .int (Int32.ofNat o), .ref d, .int (Int32.ofNat q), .int (Int32.ofNat len)] below meth c T' ([] ++ copyLocs d q len) 0 0 ∧ Put d B' s₁ T' ∧ Laid B B' q (q + len) (fun j => Value.int (lo8 (cv A (o + (j - q))))) ∧
      Steps p.tables e below (s₁.setTop (entryFrame m #[.ref b, .int (Int32.ofNat o), .ref d, .int (Int32.ofNat q), .int (Int32.ofNat len)] 7)) (T'.setTop (mkF m 3 #[.val (.ref b), .val (.int (Int32.ofNat (o + len))), .val (.ref d), .val (.int (Int32.ofNat (q + len))), .val (.int (Int32.ofNat len)), .val (.int (Int32.ofNat len)), z'] [])) := by
    intro r
    induction r with
    | zero =>
      intro i hi z hz Tl Bk Xl pl fl cl
      have hil : i = len := by omega
      rw [hil] at Xl fl cl
      exact ⟨Tl, Bk, z, Xl, pl, fl, cl⟩
    | succ r ih =>
      intro i hi z hz Tl Bk Xl pl fl cl
      have all := X0.warmed.alike.symm.trans Xl.warmed.alike
      have hAl := hA0.keep all (pl.other hne hA0.1)
      have hBk := hB0.like all pl.1 fl.1 fl.2.1 fl.2.2.1
      have hlt : q + i < Bk.slots.size := by rw [fl.2.2.1]; omega
      have c3 : Steps p.tables e below (s₁.setTop (entryFrame m #[.ref b, .int (Int32.ofNat o), .ref d, .int (Int32.ofNat q), .int (Int32.ofNat len)] 7)) (Tl.setTop (mkF m 12 #[.val (.ref b), .val (.int (Int32.ofNat (o + i))), .val (.ref d), .val (.int (Int32.ofNat (q + i))), .val (.int (Int32.ofNat len)), .val (.int (Int32.ofNat i)), z] [.int (Int32.ofNat (o + i)), .ref b])) := cl.trans (by
        refine XS.iload Xl.here hexec rfl (hb hbytes d3) rfl ?_
        refine XS.iload Xl.here hexec rfl (hb hbytes d5) rfl ?_
        refine XS.icmpNo Xl.here hexec rfl (hb hbytes d7) rfl (ii_ge_f (lt32 (by omega) (by omega))) ?_
        refine XS.aloadN Xl.here hexec rfl (hb hbytes d10) rfl rfl ?_
        refine XS.iloadN Xl.here hexec rfl (hb hbytes d11) rfl ?_
        exact Steps.refl _)
      have c4 : Steps p.tables e below (s₁.setTop (entryFrame m #[.ref b, .int (Int32.ofNat o), .ref d, .int (Int32.ofNat q), .int (Int32.ofNat len)] 7)) (Tl.setTop (mkF m 13 #[.val (.ref b), .val (.int (Int32.ofNat (o + i))), .val (.ref d), .val (.int (Int32.ofNat (q + i))), .val (.int (Int32.ofNat len)), .val (.int (Int32.ofNat i)), z] [.int (cv A (o + i))])) := c3.trans (by
        refine Xl.aget hexec hAl rfl (hA.get (i := o + i) (by omega)) rfl rfl (hb hbytes d12) ?_
        exact Steps.refl _)
      have c5 : Steps p.tables e below (s₁.setTop (entryFrame m #[.ref b, .int (Int32.ofNat o), .ref d, .int (Int32.ofNat q), .int (Int32.ofNat len)] 7)) (Tl.setTop (mkF m 15 #[.val (.ref b), .val (.int (Int32.ofNat (o + i))), .val (.ref d), .val (.int (Int32.ofNat (q + i))), .val (.int (Int32.ofNat len)), .val (.int (Int32.ofNat i)), .val (.int (cv A (o + i)))] [])) := c4.trans (by
        refine XS.istoreS Xl.here hexec rfl (hb hbytes d13) rfl rfl hz ?_
        exact Steps.refl _)
      have c6 : Steps p.tables e below (s₁.setTop (entryFrame m #[.ref b, .int (Int32.ofNat o), .ref d, .int (Int32.ofNat q), .int (Int32.ofNat len)] 7)) (Tl.setTop (mkF m 31 #[.val (.ref b), .val (.int (Int32.ofNat (o + i))), .val (.ref d), .val (.int (Int32.ofNat (q + i))), .val (.int (Int32.ofNat len)), .val (.int (Int32.ofNat i)), .val (.int (cv A (o + i)))] [.int (lo8 (cv A (o + i))), .int (Int32.ofNat (q + i)), .ref d])) := c5.trans (by
        refine XS.iload Xl.here hexec rfl (hb hbytes d15) rfl ?_
        refine sipushV Xl.here hexec rfl 255 (hb hbytes d17) (by decide) ?_
        refine XS.icmpYes Xl.here hexec rfl (pc0 := 20) rfl (hb hbytes d20) rfl (ii_le_t (hp i (by omega))) (by decide) rfl ?_
        refine XS.aloadN Xl.here hexec rfl (hb hbytes d26) rfl rfl ?_
        refine XS.iloadN Xl.here hexec rfl (hb hbytes d27) rfl ?_
        refine XS.iload Xl.here hexec rfl (hb hbytes d28) rfl ?_
        refine i2b Xl.here hexec rfl (hb hbytes d30) rfl ?_
        exact Steps.refl _)
      obtain ⟨T7, X7, p7, st7⟩ := Xl.aput hexec hBk rfl hlt rfl (fits_lo8 (cv A (o + i))) (g := (mkF m 31 #[.val (.ref b), .val (.int (Int32.ofNat (o + i))), .val (.ref d), .val (.int (Int32.ofNat (q + i))), .val (.int (Int32.ofNat len)), .val (.int (Int32.ofNat i)), .val (.int (cv A (o + i)))] [.int (lo8 (cv A (o + i))), .int (Int32.ofNat (q + i)), .ref d])) rfl (rest := []) rfl (hb hbytes d31)
      have c8 : Steps p.tables e below (s₁.setTop (entryFrame m #[.ref b, .int (Int32.ofNat o), .ref d, .int (Int32.ofNat q), .int (Int32.ofNat len)] 7)) (T7.setTop (mkF m 32 #[.val (.ref b), .val (.int (Int32.ofNat (o + i))), .val (.ref d), .val (.int (Int32.ofNat (q + i))), .val (.int (Int32.ofNat len)), .val (.int (Int32.ofNat i)), .val (.int (cv A (o + i)))] [])) := c6.trans (st7 _ (Steps.refl _))
      have c9 : Steps p.tables e below (s₁.setTop (entryFrame m #[.ref b, .int (Int32.ofNat o), .ref d, .int (Int32.ofNat q), .int (Int32.ofNat len)] 7)) (T7.setTop (mkF m 3 #[.val (.ref b), .val (.int (Int32.ofNat (o + i) + 1)), .val (.ref d), .val (.int (Int32.ofNat (q + i) + 1)), .val (.int (Int32.ofNat len)), .val (.int (Int32.ofNat i + 1)), .val (.int (cv A (o + i)))] [])) := c8.trans (by
        refine iincV X7.here hexec rfl 1 (hb hbytes d32) (by decide) rfl rfl ?_
        refine iincV X7.here hexec rfl 1 (hb hbytes d35) (by decide) rfl rfl ?_
        refine iincV X7.here hexec rfl 1 (hb hbytes d38) (by decide) rfl rfl ?_
        refine XS.goto X7.here hexec rfl (pc0 := 41) rfl (hb hbytes d41) (by decide) rfl ?_
        exact Steps.refl _)
      have c10 : Steps p.tables e below (s₁.setTop (entryFrame m #[.ref b, .int (Int32.ofNat o), .ref d, .int (Int32.ofNat q), .int (Int32.ofNat len)] 7)) (T7.setTop (mkF m 3 #[.val (.ref b), .val (.int (Int32.ofNat (o + (i + 1)))), .val (.ref d), .val (.int (Int32.ofNat (q + (i + 1)))), .val (.int (Int32.ofNat len)), .val (.int (Int32.ofNat (i + 1))), .val (.int (cv A (o + i)))] [])) := by
        have := c9
        rw [succ32, succ32, succ32] at this
        exact this
      exact ih (i + 1) (by omega) _ (Or.inr ⟨_, rfl, rfl⟩) T7 _ (by rw [copyLocs_step, ← List.append_assoc]; exact X7) (pl.trans p7) (fl.step (by omega) hlt (by simp)) c10
  obtain ⟨T9, B9, z9, X9, p9, f9, g9⟩ := loop len 0 (by omega) .unset (Or.inl rfl) s₁ B (by simpa [copyLocs] using X0) ⟨hB0.1, fun _ _ => rfl, rfl⟩ (Laid.zero _ _ _) c2
  have c11 : Steps p.tables e below (s₁.setTop (entryFrame m #[.ref b, .int (Int32.ofNat o), .ref d, .int (Int32.ofNat q), .int (Int32.ofNat len)] 7)) (T9.setTop (mkF m 46 #[.val (.ref b), .val (.int (Int32.ofNat (o + len))), .val (.ref d), .val (.int (Int32.ofNat (q + len))), .val (.int (Int32.ofNat len)), .val (.int (Int32.ofNat len)), z9] [.int (Int32.ofNat len)])) := g9.trans (by
    refine XS.iload X9.here hexec rfl (hb hbytes d3) rfl ?_
    refine XS.iload X9.here hexec rfl (hb hbytes d5) rfl ?_
    refine XS.icmpYes X9.here hexec rfl (pc0 := 7) rfl (hb hbytes d7) rfl (ii_ge_t (nlt32 (by omega) (Nat.le_refl _))) (by decide) rfl ?_
    refine XS.iload X9.here hexec rfl (hb hbytes d44) rfl ?_
    exact Steps.refl _)
  exact ⟨T9, some (.int (Int32.ofNat len)), _, _, _, X9, by simp, rfl, rfl, (fun h => by cases h), ⟨rfl, B9, p9.from hh0, f9⟩, fun fs hl => c11.trans (X9.ireturnOut hexec hret rfl (Or.inl rfl) (hb hbytes d46) hl)⟩
end Cmp5
namespace Cmp3
def yN : MethodName := ⟨"java/lang/StringUTF16", "compress", "([CII)[B"⟩
abbrev yB : ByteArray := jdk_52_method_16_code
theorem d0 : decode yB 0 = .ok (.iload_n 2, 1) := by decide +kernel
theorem d1 : decode yB 1 = .ok (.newarray .byte, 2) := by decide +kernel
theorem d3 : decode yB 3 = .ok (.astore_n 3, 1) := by decide +kernel
theorem d4 : decode yB 4 = .ok (.aload_n 0, 1) := by decide +kernel
theorem d5 : decode yB 5 = .ok (.iload_n 1, 1) := by decide +kernel
theorem d6 : decode yB 6 = .ok (.aload_n 3, 1) := by decide +kernel
theorem d7 : decode yB 7 = .ok (.iconst 0, 1) := by decide +kernel
theorem d8 : decode yB 8 = .ok (.iload_n 2, 1) := by decide +kernel
theorem d9 : decode yB 9 = .ok (.invokestatic 115, 3) := by decide +kernel
theorem d12 : decode yB 12 = .ok (.istore 4, 2) := by decide +kernel
theorem d14 : decode yB 14 = .ok (.iload 4, 2) := by decide +kernel
theorem d16 : decode yB 16 = .ok (.iload_n 2, 1) := by decide +kernel
theorem d17 : decode yB 17 = .ok (.if_icmp (.eq) 40, 3) := by decide +kernel
theorem d57 : decode yB 57 = .ok (.aload_n 3, 1) := by decide +kernel
theorem d58 : decode yB 58 = .ok (.areturn, 1) := by decide +kernel
def site : List Cond := [.arrayClass .byte, Cmp5.tab] ++ staticW U16 115 Cmp5.yN
def tab : Cond := tabOf yN yB 6 (some (.array .byte)) site
def P (b : Addr) (A : Cell) (o len : Nat) (args : Array Value) (s : State) : Prop := args = #[.ref b, .int (Int32.ofNat o), .int (Int32.ofNat len)] ∧ Ch b A s ∧ o + len ≤ A.slots.size ∧ len ≤ 536870912 ∧ ∀ i, i < len → ¬ 255 < cv A (o + i)
def E (b : Addr) (A : Cell) (o len : Nat) (r : Option Value) (s u : State) : Prop := NewArr .byte "[B" len (fun j => .int (lo8 (cv A (o + j)))) r s u ∧ u.heap.size = s.heap.size + 1
/-- no char of the range above 255: a new byte[] of their low bytes -/
theorem law (l : Launch) (b : Addr) (A : Cell) (o len : Nat) : Law l yN 3 3 1 18 yB 6 (some (.array .byte)) site (P b A o len) (E b A o len) [] 1 len := by
  refine Law.of_walk (plainFor_of_name (by decide +kernel)) (by decide +kernel) (by decide +kernel) (by decide) (fun _ _ h => by rw [h.1]; rfl) (fun _ U U' hal hh h => ⟨h.1, h.2.1.mv hal hh, h.2.2⟩) (fun r U U' V V' h1 hal h2 h => ⟨NewArr.mv r U U' V V' h1 hal h2 h.1, by rw [h1, h2]; exact h.2⟩) ?_
  intro p e s m args below meth c s₁ X0 hexec hbytes hml hret hlk hnm hown hh0 W hP
  obtain ⟨rfl, hA, l1, l2, hp⟩ := hP
  have a31 := hA.1.2.2.2
  have c1 : Steps p.tables e below (s₁.setTop (entryFrame m #[.ref b, .int (Int32.ofNat o), .int (Int32.ofNat len)] 6)) (s₁.setTop (mkF m 0 #[.val (.ref b), .val (.int (Int32.ofNat o)), .val (.int (Int32.ofNat len)), .unset, .unset, .unset] [])) := entry rfl
  have c2 : Steps p.tables e below (s₁.setTop (entryFrame m #[.ref b, .int (Int32.ofNat o), .int (Int32.ofNat len)] 6)) (s₁.setTop (mkF m 1 #[.val (.ref b), .val (.int (Int32.ofNat o)), .val (.int (Int32.ofNat len)), .unset, .unset, .unset] [.int (Int32.ofNat len)])) := c1.trans (by
    refine XS.iloadN X0.here hexec rfl (hb hbytes d0) rfl ?_
    exact Steps.refl _)
  obtain ⟨T3, B3, X3, ba3, bs3, bv3, bh3, bf3, st3⟩ := X0.anew hexec (atype := .byte) (wk W (.arrayClass .byte)) rfl (by show len * 1 ≤ _; omega) (by omega) (g := (mkF m 1 #[.val (.ref b), .val (.int (Int32.ofNat o)), .val (.int (Int32.ofNat len)), .unset, .unset, .unset] [.int (Int32.ofNat len)])) rfl (hb hbytes d1) (rest := []) rfl (Nat.le_refl _) (by show 0 + len ≤ len; omega)
  rw [hh0] at ba3 st3
  have kp3 : XT.Kept s T3 := (XT.Kept.of_eq hh0).push bh3
  have hA3 := hA.keep X3.warmed.alike (kp3 _ _ hA.1.1)
  have hne : b ≠ s.heap.size := hA.1.ne
  have c4 : Steps p.tables e below (s₁.setTop (entryFrame m #[.ref b, .int (Int32.ofNat o), .int (Int32.ofNat len)] 6)) (T3.setTop (mkF m 3 #[.val (.ref b), .val (.int (Int32.ofNat o)), .val (.int (Int32.ofNat len)), .unset, .unset, .unset] [.ref s.heap.size])) := c2.trans (st3 _ (Steps.refl _))
  have c5 : Steps p.tables e below (s₁.setTop (entryFrame m #[.ref b, .int (Int32.ofNat o), .int (Int32.ofNat len)] 6)) (T3.setTop (mkF m 9 #[.val (.ref b), .val (.int (Int32.ofNat o)), .val (.int (Int32.ofNat len)), .val (.ref s.heap.size), .unset, .unset] [.int (Int32.ofNat len), .int 0, .ref s.heap.size, .int (Int32.ofNat o), .ref b])) := c4.trans (by
    refine XS.astoreN X3.here hexec rfl (hb hbytes d3) rfl rfl rfl ?_
    refine XS.aloadN X3.here hexec rfl (hb hbytes d4) rfl rfl ?_
    refine XS.iloadN X3.here hexec rfl (hb hbytes d5) rfl ?_
    refine XS.aloadN X3.here hexec rfl (hb hbytes d6) rfl rfl ?_
    refine iconstV X3.here hexec rfl 0 (hb hbytes d7) (by decide) ?_
    refine XS.iloadN X3.here hexec rfl (hb hbytes d8) rfl ?_
    exact Steps.refl _)
  obtain ⟨v6, T6, X6, E6, g6⟩ := X3.callS hexec (Cmp5.law l b A s.heap.size B3 o 0 len) hown (wks W (staticW U16 115 Cmp5.yN)) (wk W Cmp5.tab) (W := 0) (Nat.le_of_ble_eq_true rfl) (Nat.le_of_ble_eq_true rfl) (Nat.le_refl _) (by show 0 + len + 0 ≤ len; omega) (g := (mkF m 9 #[.val (.ref b), .val (.int (Int32.ofNat o)), .val (.int (Int32.ofNat len)), .val (.ref s.heap.size), .unset, .unset] [.int (Int32.ofNat len), .int (Int32.ofNat 0), .ref s.heap.size, .int (Int32.ofNat o), .ref b])) rfl (by rw [hml]; rfl) c5 (argsL := [.ref b, .int (Int32.ofNat o), .ref s.heap.size, .int (Int32.ofNat 0), .int (Int32.ofNat len)]) (rest := []) rfl rfl (by show 2 * 0 + 0 ≤ _; decide) (hb hbytes d9) (⟨rfl, hA3, ba3, hne, l1, by rw [bs3]; simp, hp⟩)
  obtain ⟨rfl, B6, p6, f6⟩ := E6
  have c7 : Steps p.tables e below (s₁.setTop (entryFrame m #[.ref b, .int (Int32.ofNat o), .int (Int32.ofNat len)] 6)) (T6.setTop (mkF m 12 #[.val (.ref b), .val (.int (Int32.ofNat o)), .val (.int (Int32.ofNat len)), .val (.ref s.heap.size), .unset, .unset] [.int (Int32.ofNat len)])) := g6
  have c8 : Steps p.tables e below (s₁.setTop (entryFrame m #[.ref b, .int (Int32.ofNat o), .int (Int32.ofNat len)] 6)) (T6.setTop (mkF m 58 #[.val (.ref b), .val (.int (Int32.ofNat o)), .val (.int (Int32.ofNat len)), .val (.ref s.heap.size), .val (.int (Int32.ofNat len)), .unset] [.ref s.heap.size])) := c7.trans (by
    refine XS.istore X6.here hexec rfl (hb hbytes d12) rfl rfl ?_
    refine XS.iload X6.here hexec rfl (hb hbytes d14) rfl ?_
    refine XS.iloadN X6.here hexec rfl (hb hbytes d16) rfl ?_
    refine XS.icmpYes X6.here hexec rfl (pc0 := 17) rfl (hb hbytes d17) rfl (ii_eq_t rfl) (by decide) rfl ?_
    refine XS.aloadN X6.here hexec rfl (hb hbytes d57) rfl rfl ?_
    exact Steps.refl _)
  have X8 := X6.wide (L' := []) (cells' := 1) (slots' := len) (fun x hx hlt => by
    simp only [List.nil_append, copyLocs, List.mem_map, List.mem_range] at hx
    obtain ⟨i, -, rfl⟩ := hx
    exact absurd hlt (Nat.lt_irrefl _)) (Nat.le_refl _) (by omega)
  exact ⟨T6, some (.ref s.heap.size), _, _, _, X8, rfl, rfl, rfl, (fun h => by cases h), ⟨⟨rfl, B6, ba3.like (X3.warmed.alike.symm.trans X6.warmed.alike) p6.1 f6.1 f6.2.1 f6.2.2.1, f6.2.1.trans bv3, by rw [X6.warmed.alike.findClass, f6.1]; exact bf3, by rw [f6.2.2.1, bs3]; simp, fun j hj => by rw [f6.2.2.2 j, if_pos (by omega)]; rfl, kp3.put p6 (Nat.le_refl _)⟩, by rw [p6.2.2, bh3, hh0]; simp⟩, fun fs hl => c8.trans (X8.areturnOut hexec rfl hret rfl (hb hbytes d58) hl)⟩
end Cmp3
namespace CodL
def yN : MethodName := ⟨"java/lang/StringUTF16", "coderFromArrayLen", "([BI)B"⟩
abbrev yB : ByteArray := jdk_52_method_15_code
theorem d0 : decode yB 0 = .ok (.iload_n 1, 1) := by decide +kernel
theorem d1 : decode yB 1 = .ok (.aload_n 0, 1) := by decide +kernel
theorem d2 : decode yB 2 = .ok (.arraylength, 1) := by decide +kernel
theorem d3 : decode yB 3 = .ok (.isub, 1) := by decide +kernel
theorem d4 : decode yB 4 = .ok (.bipush 31, 2) := by decide +kernel
theorem d6 : decode yB 6 = .ok (.iushr, 1) := by decide +kernel
theorem d7 : decode yB 7 = .ok (.i2b, 1) := by decide +kernel
theorem d8 : decode yB 8 = .ok (.ireturn, 1) := by decide +kernel
def site : List Cond := []
def tab : Cond := tabOf yN yB 2 (some .byte) site
def P (d : Addr) (B : Cell) (args : Array Value) (s : State) : Prop := args = #[.ref d, .int (Int32.ofNat B.slots.size)] ∧ Arr .byte d B s
def E (r : Option Value) (s u : State) : Prop := XT.PureE (some (.int 0)) r s u
/-- an array as long as the number of chars: LATIN1 -/
theorem law (l : Launch) (d : Addr) (B : Cell) : Law l yN 2 2 0 0 yB 2 (some .byte) site (P d B) E [] 0 0 := by
  refine Law.of_walk (plainFor_of_name (by decide +kernel)) (by decide +kernel) (by decide +kernel) (by decide) (fun _ _ h => by rw [h.1]; rfl) (fun _ U U' hal hh h => ⟨h.1, h.2.mv hal hh⟩) (fun r U U' V V' h1 hal h2 h => XT.PureE.mv r U U' V V' h1 hal h2 h) ?_
  intro p e s m args below meth c s₁ X0 hexec hbytes hml hret hlk hnm hown hh0 W hP
  obtain ⟨rfl, hB⟩ := hP
  have hB0 := hB.mv X0.warmed.alike hh0
  have c1 : Steps p.tables e below (s₁.setTop (entryFrame m #[.ref d, .int (Int32.ofNat B.slots.size)] 2)) (s₁.setTop (mkF m 0 #[.val (.ref d), .val (.int (Int32.ofNat B.slots.size))] [])) := entry rfl
  have c2 : Steps p.tables e below (s₁.setTop (entryFrame m #[.ref d, .int (Int32.ofNat B.slots.size)] 2)) (s₁.setTop (mkF m 2 #[.val (.ref d), .val (.int (Int32.ofNat B.slots.size))] [.ref d, .int (Int32.ofNat B.slots.size)])) := c1.trans (by
    refine XS.iloadN X0.here hexec rfl (hb hbytes d0) rfl ?_
    refine XS.aloadN X0.here hexec rfl (hb hbytes d1) rfl rfl ?_
    exact Steps.refl _)
  have c3 : Steps p.tables e below (s₁.setTop (entryFrame m #[.ref d, .int (Int32.ofNat B.slots.size)] 2)) (s₁.setTop (mkF m 8 #[.val (.ref d), .val (.int (Int32.ofNat B.slots.size))] [.int (lo8 (ushr (Int32.ofNat B.slots.size - Int32.ofNat B.slots.size) 31))])) := c2.trans (by
    refine X0.alen hexec hB0 rfl rfl (hb hbytes d2) ?_
    refine XS.isub X0.here hexec rfl (hb hbytes d3) rfl ?_
    refine bipushV X0.here hexec rfl 31 (hb hbytes d4) (by decide) ?_
    refine iushr X0.here hexec rfl (hb hbytes d6) rfl ?_
    refine i2b X0.here hexec rfl (hb hbytes d7) rfl ?_
    exact Steps.refl _)
  have e0 : lo8 (ushr (Int32.ofNat B.slots.size - Int32.ofNat B.slots.size) 31) = 0 := by rw [Int32.sub_self]; decide
  rw [e0] at c3
  exact ⟨s₁, some (.int 0), _, _, _, X0, rfl, rfl, rfl, (fun h => by cases h), ⟨rfl, hh0⟩, fun fs hl => c3.trans (X0.ireturnOut hexec hret rfl (Or.inr (Or.inr (Or.inl rfl))) (hb hbytes d8) hl)⟩
end CodL
/-- the String at a is Latin-1 over a new byte[] (the heap's one new cell): the low bytes of the len chars of A from o on; every cell but a is kept -/
def Got (a : Addr) (D : Cell) (fV fC : Field) (A : Cell) (o len : Nat) (r : Option Value) (s u : State) : Prop := r = none ∧ ∃ D' V : Cell, Blank "java/lang/String" a D' u ∧ Same D D' [fV.slot, fC.slot] ∧ D'.slots[fV.slot]? = some (.ref s.heap.size) ∧ D'.slots[fC.slot]? = some (.int 0) ∧ Arr .byte s.heap.size V u ∧ V.vm = .none ∧ u.vm.findClass "[B" = some V.cls ∧ V.slots.size = len ∧ (∀ j, j < len → V.slots[j]? = some (.int (lo8 (cv A (o + j))))) ∧ (∀ (y : Addr) (c : Cell), y ≠ a → s.heap[y]? = some c → u.heap[y]? = some c) ∧ u.heap.size = s.heap.size + 1
theorem Got.mv {a : Addr} {D A : Cell} {fV fC : Field} {o len : Nat} : ∀ r (U U' V V' : State), U'.heap = U.heap → V.vm.Alike V'.vm → V'.heap = V.heap → Got a D fV fC A o len r U V → Got a D fV fC A o len r U' V' :=
  fun r U U' V V' h1 hal h2 ⟨e0, D', X, a1, a2, a3, a4, a5, a6, a7, a8, a9, a10, a11⟩ => ⟨e0, D', X, a1.mv hal h2, a2, by rw [h1]; exact a3, a4, by rw [h1]; exact a5.mv hal h2, a6, by rw [hal.findClass]; exact a7, a8, a9, by rw [h1, h2]; exact a10, by rw [h1, h2]; exact a11⟩
namespace New4
def yN : MethodName := ⟨"java/lang/String", "<init>", "([CIILjava/lang/Void;)V"⟩
abbrev yB : ByteArray := jdk_42_method_149_code
theorem d0 : decode yB 0 = .ok (.aload_n 0, 1) := by decide +kernel
theorem d1 : decode yB 1 = .ok (.invokespecial 1, 3) := by decide +kernel
theorem d4 : decode yB 4 = .ok (.iload_n 3, 1) := by decide +kernel
theorem d5 : decode yB 5 = .ok (.ifCond (.ne) 22, 3) := by decide +kernel
theorem d27 : decode yB 27 = .ok (.getstatic 38, 3) := by decide +kernel
theorem d30 : decode yB 30 = .ok (.ifCond (.eq) 28, 3) := by decide +kernel
theorem d33 : decode yB 33 = .ok (.aload_n 1, 1) := by decide +kernel
theorem d34 : decode yB 34 = .ok (.iload_n 2, 1) := by decide +kernel
theorem d35 : decode yB 35 = .ok (.iload_n 3, 1) := by decide +kernel
theorem d36 : decode yB 36 = .ok (.invokestatic 177, 3) := by decide +kernel
theorem d39 : decode yB 39 = .ok (.astore 5, 2) := by decide +kernel
theorem d41 : decode yB 41 = .ok (.aload_n 0, 1) := by decide +kernel
theorem d42 : decode yB 42 = .ok (.aload 5, 2) := by decide +kernel
theorem d44 : decode yB 44 = .ok (.iload_n 3, 1) := by decide +kernel
theorem d45 : decode yB 45 = .ok (.invokestatic 47, 3) := by decide +kernel
theorem d48 : decode yB 48 = .ok (.putfield 15, 3) := by decide +kernel
theorem d51 : decode yB 51 = .ok (.aload_n 0, 1) := by decide +kernel
theorem d52 : decode yB 52 = .ok (.aload 5, 2) := by decide +kernel
theorem d54 : decode yB 54 = .ok (.putfield 9, 3) := by decide +kernel
theorem d57 : decode yB 57 = .ok (.return_, 1) := by decide +kernel
def site : List Cond := [.fieldLink "java/lang/String" 38 "java/lang/String" "COMPACT_STRINGS" "Z", Cmp3.tab, CodL.tab, .laysFinal "java/lang/String" "java/lang/String" "value" "[B", .fieldLink "java/lang/String" 9 "java/lang/String" "value" "[B", .laysFinal "java/lang/String" "java/lang/String" "coder" "B", .fieldLink "java/lang/String" 15 "java/lang/String" "coder" "B"] ++ objW "java/lang/String" 1 ++ staticW "java/lang/String" 177 Cmp3.yN ++ staticW "java/lang/String" 47 CodL.yN
def tab : Cond := tabOf yN yB 6 none site
def P (a : Addr) (D : Cell) (fV fC : Field) (b : Addr) (A : Cell) (z : Int32) (o len : Nat) (args : Array Value) (s : State) : Prop := args = #[.ref a, .ref b, .int (Int32.ofNat o), .int (Int32.ofNat len), .null] ∧ Blank "java/lang/String" a D s ∧ Found "java/lang/String" "value" "[B" fV s ∧ Found "java/lang/String" "coder" "B" fC s ∧ Ch b A s ∧ StaticIs s "java/lang/String" "COMPACT_STRINGS" "Z" (.int z) ∧ ¬ z = 0 ∧ 0 < len ∧ o + len ≤ A.slots.size ∧ len ≤ 536870912 ∧ ∀ i, i < len → ¬ 255 < cv A (o + i)
def E (a : Addr) (D : Cell) (fV fC : Field) (A : Cell) (o len : Nat) (r : Option Value) (s u : State) : Prop := Got a D fV fC A o len r s u
/-- len > 0, no char of the range above 255: a Latin-1 String of their low bytes -/
theorem law (l : Launch) (a : Addr) (D : Cell) (fV fC : Field) (b : Addr) (A : Cell) (z : Int32) (o len : Nat) : Law l yN 5 4 2 35 yB 6 none site (P a D fV fC b A z o len) (E a D fV fC A o len) [⟨a, fC.slot⟩, ⟨a, fV.slot⟩] 1 len := by
  refine Law.of_walk (plainFor_of_name (by decide +kernel)) (by decide +kernel) (by decide +kernel) (by decide) (fun _ _ h => by rw [h.1]; rfl) (fun _ U U' hal hh h => ⟨h.1, h.2.1.mv hal hh, h.2.2.1.al hal, h.2.2.2.1.al hal, h.2.2.2.2.1.mv hal hh, h.2.2.2.2.2.1.there hal hh, h.2.2.2.2.2.2⟩) (fun r U U' V V' h1 hal h2 h => Got.mv r U U' V V' h1 hal h2 h) ?_
  intro p e s m args below meth c s₁ X0 hexec hbytes hml hret hlk hnm hown hh0 W hP
  obtain ⟨rfl, hB, f1, f2, hA, s1, hz, l0, l1, l2, hp⟩ := hP
  have a31 := hA.1.2.2.2
  have c1 : Steps p.tables e below (s₁.setTop (entryFrame m #[.ref a, .ref b, .int (Int32.ofNat o), .int (Int32.ofNat len), .null] 6)) (s₁.setTop (mkF m 0 #[.val (.ref a), .val (.ref b), .val (.int (Int32.ofNat o)), .val (.int (Int32.ofNat len)), .val .null, .unset] [])) := entry rfl
  have c2 : Steps p.tables e below (s₁.setTop (entryFrame m #[.ref a, .ref b, .int (Int32.ofNat o), .int (Int32.ofNat len), .null] 6)) (s₁.setTop (mkF m 1 #[.val (.ref a), .val (.ref b), .val (.int (Int32.ofNat o)), .val (.int (Int32.ofNat len)), .val .null, .unset] [.ref a])) := c1.trans (by
    refine XS.aloadN X0.here hexec rfl (hb hbytes d0) rfl rfl ?_
    exact Steps.refl _)
  obtain ⟨T3, X3, q3, st3⟩ := X0.oinit hexec hown (wks W (objW "java/lang/String" 1)) (g := (mkF m 1 #[.val (.ref a), .val (.ref b), .val (.int (Int32.ofNat o)), .val (.int (Int32.ofNat len)), .val .null, .unset] [.ref a])) rfl (by rw [hml]; rfl) (rest := []) rfl (hb hbytes d1) (W := 0) (by show 2 * 0 + 0 ≤ _; decide) (Nat.le_of_ble_eq_true rfl) (Nat.le_of_ble_eq_true rfl)
  have hh3 := q3.trans hh0
  have c4 : Steps p.tables e below (s₁.setTop (entryFrame m #[.ref a, .ref b, .int (Int32.ofNat o), .int (Int32.ofNat len), .null] 6)) (T3.setTop (mkF m 27 #[.val (.ref a), .val (.ref b), .val (.int (Int32.ofNat o)), .val (.int (Int32.ofNat len)), .val .null, .unset] [])) := (c2.trans (st3 _ (Steps.refl _))).trans (by
    refine XS.iloadN X3.here hexec rfl (hb hbytes d4) rfl ?_
    refine XS.ifYes X3.here hexec rfl (pc0 := 5) rfl (hb hbytes d5) rfl (i0_ne_t (nz32 (by omega) l0)) (by decide) rfl ?_
    exact Steps.refl _)
  obtain ⟨T5, X5, q5, st5⟩ := X3.sget hexec hown (wk W (.fieldLink "java/lang/String" 38 "java/lang/String" "COMPACT_STRINGS" "Z")) s1 (fun _ _ h => by rw [hh3]; exact h) (g := (mkF m 27 #[.val (.ref a), .val (.ref b), .val (.int (Int32.ofNat o)), .val (.int (Int32.ofNat len)), .val .null, .unset] [])) rfl (hb hbytes d27)
  have hh5 := q5.trans hh3
  have c6 : Steps p.tables e below (s₁.setTop (entryFrame m #[.ref a, .ref b, .int (Int32.ofNat o), .int (Int32.ofNat len), .null] 6)) (T5.setTop (mkF m 30 #[.val (.ref a), .val (.ref b), .val (.int (Int32.ofNat o)), .val (.int (Int32.ofNat len)), .val .null, .unset] [.int z])) := c4.trans (st5 _ (Steps.refl _))
  have c7 : Steps p.tables e below (s₁.setTop (entryFrame m #[.ref a, .ref b, .int (Int32.ofNat o), .int (Int32.ofNat len), .null] 6)) (T5.setTop (mkF m 36 #[.val (.ref a), .val (.ref b), .val (.int (Int32.ofNat o)), .val (.int (Int32.ofNat len)), .val .null, .unset] [.int (Int32.ofNat len), .int (Int32.ofNat o), .ref b])) := c6.trans (by
    refine XS.ifNo X5.here hexec rfl (hb hbytes d30) rfl (i0_eq_f hz) ?_
    refine XS.aloadN X5.here hexec rfl (hb hbytes d33) rfl rfl ?_
    refine XS.iloadN X5.here hexec rfl (hb hbytes d34) rfl ?_
    refine XS.iloadN X5.here hexec rfl (hb hbytes d35) rfl ?_
    exact Steps.refl _)
  obtain ⟨v8, T8, X8, E8, g8⟩ := X5.callS hexec (Cmp3.law l b A o len) hown (wks W (staticW "java/lang/String" 177 Cmp3.yN)) (wk W Cmp3.tab) (W := 0) (Nat.le_of_ble_eq_true rfl) (Nat.le_of_ble_eq_true rfl) (Nat.le_refl _) (by show 0 + len ≤ len; omega) (g := (mkF m 36 #[.val (.ref a), .val (.ref b), .val (.int (Int32.ofNat o)), .val (.int (Int32.ofNat len)), .val .null, .unset] [.int (Int32.ofNat len), .int (Int32.ofNat o), .ref b])) rfl (by rw [hml]; rfl) c7 (argsL := [.ref b, .int (Int32.ofNat o), .int (Int32.ofNat len)]) (rest := []) rfl rfl (by show 2 * 0 + 0 ≤ _; decide) (hb hbytes d36) (⟨rfl, hA.mv X5.warmed.alike hh5, l1, l2, hp⟩)
  obtain ⟨e8, z8⟩ := E8
  obtain ⟨rfl, N, n1, n2, n3, n4, n5, n6⟩ := NewArr.mv _ T5 s _ _ hh5.symm (Vm.Alike.refl _) rfl e8
  rw [hh5] at z8
  have hB1 := hB.keep X8.warmed.alike (n6 _ _ hB.1)
  have hne : s.heap.size ≠ a := (Nat.ne_of_lt (Array.getElem?_eq_some_iff.mp hB.1).1).symm
  have c9 : Steps p.tables e below (s₁.setTop (entryFrame m #[.ref a, .ref b, .int (Int32.ofNat o), .int (Int32.ofNat len), .null] 6)) (T8.setTop (mkF m 39 #[.val (.ref a), .val (.ref b), .val (.int (Int32.ofNat o)), .val (.int (Int32.ofNat len)), .val .null, .unset] [.ref s.heap.size])) := g8
  have c10 : Steps p.tables e below (s₁.setTop (entryFrame m #[.ref a, .ref b, .int (Int32.ofNat o), .int (Int32.ofNat len), .null] 6)) (T8.setTop (mkF m 45 #[.val (.ref a), .val (.ref b), .val (.int (Int32.ofNat o)), .val (.int (Int32.ofNat len)), .val .null, .val (.ref s.heap.size)] [.int (Int32.ofNat N.slots.size), .ref s.heap.size, .ref a])) := by
    have hc : Steps p.tables e below (s₁.setTop (entryFrame m #[.ref a, .ref b, .int (Int32.ofNat o), .int (Int32.ofNat len), .null] 6)) (T8.setTop (mkF m 45 #[.val (.ref a), .val (.ref b), .val (.int (Int32.ofNat o)), .val (.int (Int32.ofNat len)), .val .null, .val (.ref s.heap.size)] [.int (Int32.ofNat len), .ref s.heap.size, .ref a])) := c9.trans (by
      refine XS.astore X8.here hexec rfl (hb hbytes d39) rfl rfl rfl ?_
      refine XS.aloadN X8.here hexec rfl (hb hbytes d41) rfl rfl ?_
      refine XS.aload X8.here hexec rfl (hb hbytes d42) rfl rfl ?_
      refine XS.iloadN X8.here hexec rfl (hb hbytes d44) rfl ?_
      exact Steps.refl _)
    rw [n4]; exact hc
  obtain ⟨v11, T11, X11, E11, g11⟩ := X8.callS hexec (CodL.law l s.heap.size N) hown (wks W (staticW "java/lang/String" 47 CodL.yN)) (wk W CodL.tab) (W := 1) (Nat.le_of_ble_eq_true rfl) (Nat.le_of_ble_eq_true rfl) (Nat.le_refl _) (by show 0 + len + 0 ≤ len; omega) (g := (mkF m 45 #[.val (.ref a), .val (.ref b), .val (.int (Int32.ofNat o)), .val (.int (Int32.ofNat len)), .val .null, .val (.ref s.heap.size)] [.int (Int32.ofNat N.slots.size), .ref s.heap.size, .ref a])) rfl (by rw [hml]; rfl) c10 (argsL := [.ref s.heap.size, .int (Int32.ofNat N.slots.size)]) (rest := [.ref a]) rfl rfl (by show 2 * 0 + (1 + 0) ≤ _; decide) (hb hbytes d45) (⟨rfl, n1⟩)
  obtain ⟨rfl, q11⟩ := E11
  have hB11 := hB1.mv (X8.warmed.alike.symm.trans X11.warmed.alike) q11
  have c12 : Steps p.tables e below (s₁.setTop (entryFrame m #[.ref a, .ref b, .int (Int32.ofNat o), .int (Int32.ofNat len), .null] 6)) (T11.setTop (mkF m 48 #[.val (.ref a), .val (.ref b), .val (.int (Int32.ofNat o)), .val (.int (Int32.ofNat len)), .val .null, .val (.ref s.heap.size)] [.int 0, .ref a])) := g11
  obtain ⟨T13, X13, p13, bl13, sl13, st13⟩ := X11.finit hexec hown (wk W (.fieldLink "java/lang/String" 15 "java/lang/String" "coder" "B")) (Or.inr ⟨_, (wk W (.laysFinal "java/lang/String" "java/lang/String" "coder" "B"))⟩) (Or.inl ⟨rfl, hnm⟩) f2 (Or.inl rfl) hB11 (t := .byte) (by decide +kernel) rfl (g := (mkF m 48 #[.val (.ref a), .val (.ref b), .val (.int (Int32.ofNat o)), .val (.int (Int32.ofNat len)), .val .null, .val (.ref s.heap.size)] [.int 0, .ref a])) rfl (rest := []) rfl (hb hbytes d48)
  have c14 : Steps p.tables e below (s₁.setTop (entryFrame m #[.ref a, .ref b, .int (Int32.ofNat o), .int (Int32.ofNat len), .null] 6)) (T13.setTop (mkF m 54 #[.val (.ref a), .val (.ref b), .val (.int (Int32.ofNat o)), .val (.int (Int32.ofNat len)), .val .null, .val (.ref s.heap.size)] [.ref s.heap.size, .ref a])) := (c12.trans (st13 _ (Steps.refl _))).trans (by
    refine XS.aloadN X13.here hexec rfl (hb hbytes d51) rfl rfl ?_
    refine XS.aload X13.here hexec rfl (hb hbytes d52) rfl rfl ?_
    exact Steps.refl _)
  obtain ⟨T15, X15, p15, bl15, sl15, st15⟩ := X13.finit hexec hown (wk W (.fieldLink "java/lang/String" 9 "java/lang/String" "value" "[B")) (Or.inr ⟨_, (wk W (.laysFinal "java/lang/String" "java/lang/String" "value" "[B"))⟩) (Or.inl ⟨rfl, hnm⟩) f1 (Or.inl rfl) bl13 (t := (.array .byte)) (by decide +kernel) rfl (g := (mkF m 54 #[.val (.ref a), .val (.ref b), .val (.int (Int32.ofNat o)), .val (.int (Int32.ofNat len)), .val .null, .val (.ref s.heap.size)] [.ref s.heap.size, .ref a])) rfl (rest := []) rfl (hb hbytes d54)
  have c16 : Steps p.tables e below (s₁.setTop (entryFrame m #[.ref a, .ref b, .int (Int32.ofNat o), .int (Int32.ofNat len), .null] 6)) (T15.setTop (mkF m 57 #[.val (.ref a), .val (.ref b), .val (.int (Int32.ofNat o)), .val (.int (Int32.ofNat len)), .val .null, .val (.ref s.heap.size)] [])) := c14.trans (st15 _ (Steps.refl _))
  have ap := apart (Or.inr ⟨_, (wk W (.laysFinal "java/lang/String" "java/lang/String" "value" "[B"))⟩) (Or.inr ⟨_, (wk W (.laysFinal "java/lang/String" "java/lang/String" "coder" "B"))⟩) f1 f2 (t₁ := .array .byte) (t₂ := .byte) (by decide +kernel) (by decide +kernel) (by decide)
  have al := X8.warmed.alike.symm.trans X15.warmed.alike
  have n7 : T11.heap[s.heap.size]? = some N := by rw [q11]; exact n1.1
  exact ⟨T15, none, _, _, _, X15, by simp, rfl, by omega, (fun _ => rfl), ⟨rfl, _, N, bl15, ((Same.refl D _).set _ (by simp)).set _ (by simp), sl15, (Cell.slots_setSlot_ne _ ap).trans sl13, n1.keep al (p15.other hne (p13.other hne n7)), n2, by rw [al.findClass]; exact n3, n4, n5, fun y c h1 h2 => p15.other h1 (p13.other h1 (by rw [q11]; exact n6 y c h2)), by rw [p15.2.2, p13.2.2, q11]; exact z8⟩, fun fs hl => c16.trans (X15.returnOut hexec hret (hb hbytes d57) hl)⟩
end New4
namespace New1
def yN : MethodName := ⟨"java/lang/String", "<init>", "([C)V"⟩
abbrev yB : ByteArray := jdk_42_method_3_code
theorem d0 : decode yB 0 = .ok (.aload_n 0, 1) := by decide +kernel
theorem d1 : decode yB 1 = .ok (.aload_n 1, 1) := by decide +kernel
theorem d2 : decode yB 2 = .ok (.iconst 0, 1) := by decide +kernel
theorem d3 : decode yB 3 = .ok (.aload_n 1, 1) := by decide +kernel
theorem d4 : decode yB 4 = .ok (.arraylength, 1) := by decide +kernel
theorem d5 : decode yB 5 = .ok (.aconst_null, 1) := by decide +kernel
theorem d6 : decode yB 6 = .ok (.invokespecial 27, 3) := by decide +kernel
theorem d9 : decode yB 9 = .ok (.return_, 1) := by decide +kernel
def site : List Cond := [New4.tab] ++ initW "java/lang/String" 27 New4.yN
def tab : Cond := tabOf yN yB 2 none site
def P (a : Addr) (D : Cell) (fV fC : Field) (b : Addr) (A : Cell) (z : Int32) (args : Array Value) (s : State) : Prop := args = #[.ref a, .ref b] ∧ Blank "java/lang/String" a D s ∧ Found "java/lang/String" "value" "[B" fV s ∧ Found "java/lang/String" "coder" "B" fC s ∧ Ch b A s ∧ StaticIs s "java/lang/String" "COMPACT_STRINGS" "Z" (.int z) ∧ ¬ z = 0 ∧ 0 < A.slots.size ∧ A.slots.size ≤ 536870912 ∧ ∀ i, i < A.slots.size → ¬ 255 < cv A i
def E (a : Addr) (D : Cell) (fV fC : Field) (A : Cell) (r : Option Value) (s u : State) : Prop := Got a D fV fC A 0 A.slots.size r s u
/-- new String(chars), not empty, no char above 255: a Latin-1 String of their low bytes -/
theorem law (l : Launch) (a : Addr) (D : Cell) (fV fC : Field) (b : Addr) (A : Cell) (z : Int32) : Law l yN 2 1 3 52 yB 2 none site (P a D fV fC b A z) (E a D fV fC A) [⟨a, fC.slot⟩, ⟨a, fV.slot⟩] 1 A.slots.size := by
  refine Law.of_walk (plainFor_of_name (by decide +kernel)) (by decide +kernel) (by decide +kernel) (by decide) (fun _ _ h => by rw [h.1]; rfl) (fun _ U U' hal hh h => ⟨h.1, h.2.1.mv hal hh, h.2.2.1.al hal, h.2.2.2.1.al hal, h.2.2.2.2.1.mv hal hh, h.2.2.2.2.2.1.there hal hh, h.2.2.2.2.2.2⟩) (fun r U U' V V' h1 hal h2 h => Got.mv r U U' V V' h1 hal h2 h) ?_
  intro p e s m args below meth c s₁ X0 hexec hbytes hml hret hlk hnm hown hh0 W hP
  obtain ⟨rfl, hB, f1, f2, hA, s1, hz, l0, l2, hp⟩ := hP
  have c1 : Steps p.tables e below (s₁.setTop (entryFrame m #[.ref a, .ref b] 2)) (s₁.setTop (mkF m 0 #[.val (.ref a), .val (.ref b)] [])) := entry rfl
  have c2 : Steps p.tables e below (s₁.setTop (entryFrame m #[.ref a, .ref b] 2)) (s₁.setTop (mkF m 6 #[.val (.ref a), .val (.ref b)] [.null, .int (Int32.ofNat A.slots.size), .int 0, .ref b, .ref a])) := c1.trans (by
    refine XS.aloadN X0.here hexec rfl (hb hbytes d0) rfl rfl ?_
    refine XS.aloadN X0.here hexec rfl (hb hbytes d1) rfl rfl ?_
    refine iconstV X0.here hexec rfl 0 (hb hbytes d2) (by decide) ?_
    refine XS.aloadN X0.here hexec rfl (hb hbytes d3) rfl rfl ?_
    refine X0.alen hexec (hA.1.mv X0.warmed.alike hh0) rfl rfl (hb hbytes d4) ?_
    refine XS.aconstNull X0.here hexec rfl (hb hbytes d5) ?_
    exact Steps.refl _)
  obtain ⟨v3, T3, X3, E3, g3⟩ := X0.callN hexec (New4.law l a D fV fC b A z 0 A.slots.size) rfl hown (wks W (initW "java/lang/String" 27 New4.yN)) (W New4.tab (by simp only [site, List.mem_cons, List.mem_append, true_or, or_true])) (W := 0) (Nat.le_of_ble_eq_true rfl) (Nat.le_of_ble_eq_true rfl) (Nat.le_refl _) (by show 0 + A.slots.size ≤ A.slots.size; omega) (g := (mkF m 6 #[.val (.ref a), .val (.ref b)] [.null, .int (Int32.ofNat A.slots.size), .int (Int32.ofNat 0), .ref b, .ref a])) rfl (by rw [hml]; rfl) c2 (argsL := [.ref b, .int (Int32.ofNat 0), .int (Int32.ofNat A.slots.size), .null]) (rest := []) rfl rfl (by show 2 * 0 + 0 ≤ _; decide) (hb hbytes d6) (⟨rfl, hB.mv X0.warmed.alike hh0, f1.al X0.warmed.alike, f2.al X0.warmed.alike, hA.mv X0.warmed.alike hh0, s1.there X0.warmed.alike hh0, hz, l0, by omega, l2, fun i hi => by rw [Nat.zero_add]; exact hp i hi⟩)
  have e0 := Got.mv _ s₁ s _ _ hh0.symm (Vm.Alike.refl _) rfl E3
  obtain rfl := e0.1
  have c4 : Steps p.tables e below (s₁.setTop (entryFrame m #[.ref a, .ref b] 2)) (T3.setTop (mkF m 9 #[.val (.ref a), .val (.ref b)] [])) := g3
  exact ⟨T3, none, _, _, _, X3, by simp, rfl, by omega, (fun _ => rfl), e0, fun fs hl => c4.trans (X3.returnOut hexec hret (hb hbytes d9) hl)⟩
theorem pays {l : Launch} {R : Room} {p : Program} {e : Env} {below : List Frame} {s : State} {sargs : Array Value} {len W : Nat} (a : Addr) (D : Cell) (fV fC : Field) (b : Addr) (A : Cell) (z : Int32) (htab : tab.before sargs s = true) (hfr : 4 ≤ R.frames) (hlo : W + 65 ≤ R.locals) :
    Back l R p e below s sargs yN len W (fun A₁ a₁ => A₁.cells + 1 ≤ R.cells ∧ A₁.slots + A.slots.size ≤ R.slots ∧ P a D fV fC b A z a₁ A₁.U) (fun A₁ _ v₁ B₁ => E a D fV fC A v₁ A₁.U B₁.U ∧ B₁.locs = A₁.locs ++ [⟨a, fC.slot⟩, ⟨a, fV.slot⟩] ∧ B₁.cells = A₁.cells + 1 ∧ B₁.slots = A₁.slots + A.slots.size) :=
  (law l a D fV fC b A z).pays htab hfr (by omega)
end New1
/-- the byte, read back as charAt reads it, is the char -/
theorem lo8_mask {x : Int32} (h0 : ¬ x < 0) (h1 : ¬ 255 < x) : lo8 x &&& 255 = x := by
  have t : ∀ k : Fin 256, lo8 (Int32.ofNat k.val) &&& 255 = Int32.ofNat k.val := by decide +kernel
  rw [Int32.lt_iff_toInt_lt] at h0 h1
  have e0 : (0 : Int32).toInt = 0 := rfl
  have e1 : (255 : Int32).toInt = 255 := rfl
  obtain ⟨k, hk⟩ : ∃ k : Nat, x.toInt = k := ⟨x.toInt.toNat, by omega⟩
  have hx : x = Int32.ofNat k := Int32.toInt_inj.mp (by rw [hk, Int32.toInt_ofNat_small (by omega)])
  rw [hx]
  exact t ⟨k, by omega⟩
end StrChars
namespace StrChars.Road
open Jvm Sem ClassFile Op Lib Jvm.Stand Jvm.Free Jvm.Free.XT
open Jvm.Lib.Cold (StaticIs)
abbrev ST : String := "java/lang/String"
/-- every table word that New1's law asks, flat -/
abbrev words : List Jvm.Cond := [.code New1.yN New1.yB 2 none, .initialized ST, .methodLink ST 27 New4.yN, .instanceMethod New4.yN,
  .code New4.yN New4.yB 6 none, .fieldLink ST 38 ST "COMPACT_STRINGS" "Z", .laysFinal ST ST "value" "[B", .fieldLink ST 9 ST "value" "[B", .laysFinal ST ST "coder" "B", .fieldLink ST 15 ST "coder" "B",
  .methodLink ST 1 Lib.objectInit, .instanceMethod Lib.objectInit, .code Lib.objectInit ⟨#[0xb1]⟩ 1 none, .methodLink ST 177 Cmp3.yN, .static Cmp3.yN, .methodLink ST 47 CodL.yN, .static CodL.yN,
  .code Cmp3.yN Cmp3.yB 6 (some (.array .byte)), .initialized U16, .arrayClass .byte, .methodLink U16 115 Cmp5.yN, .static Cmp5.yN, .code Cmp5.yN Cmp5.yB 7 (some .int), .code CodL.yN CodL.yB 2 (some .byte)]
theorem tab_of {a : Array Value} {s : State} (h : ∀ w ∈ words, w.before a s = true) : New1.tab.before a s = true := by
  have h5 : Cmp5.tab.before a s = true := unparts (wk h (.code Cmp5.yN Cmp5.yB 7 (some .int))) (wks h (.initialized Cmp5.yN.cls :: Cmp5.site))
  have hc : CodL.tab.before a s = true := unparts (wk h (.code CodL.yN CodL.yB 2 (some .byte))) (wks h (.initialized CodL.yN.cls :: CodL.site))
  have q5 : ∀ w ∈ Cmp5.tab :: words, w.before a s = true := fun w hw => (List.mem_cons.mp hw).elim (fun e => e ▸ h5) (h w)
  have h3 : Cmp3.tab.before a s = true := unparts (wk q5 (.code Cmp3.yN Cmp3.yB 6 (some (.array .byte)))) (wks q5 (.initialized Cmp3.yN.cls :: Cmp3.site))
  have q3 : ∀ w ∈ Cmp3.tab :: CodL.tab :: words, w.before a s = true := fun w hw => (List.mem_cons.mp hw).elim (fun e => e ▸ h3) fun hw => (List.mem_cons.mp hw).elim (fun e => e ▸ hc) (h w)
  have h4 : New4.tab.before a s = true := unparts (wk q3 (.code New4.yN New4.yB 6 none)) (wks q3 (.initialized New4.yN.cls :: New4.site))
  have q4 : ∀ w ∈ New4.tab :: words, w.before a s = true := fun w hw => (List.mem_cons.mp hw).elim (fun e => e ▸ h4) (h w)
  exact unparts (wk q4 (.code New1.yN New1.yB 2 none)) (wks q4 (.initialized New1.yN.cls :: New1.site))
/-- the words ride from the start Z to the walk's own state -/
theorem moved {Z s : State} {a0 args : Array Value} (hZ : Z.Warmed39 s.vm) (hw : ∀ d ∈ words, d.before a0 Z = true) : ∀ d ∈ words, d.before args s = true := fun d hd => by
  have q := hw d hd
  have t : ∀ d ∈ words, d = .arrayClass .byte ∨ (d.onTables && d.keepsFace) = true := by decide +kernel
  rcases t d hd with rfl | t
  · exact RoadKit.mvA hZ q
  · exact RoadKit.mv hZ q t
/-- WHAT COMES BACK, over the tables of the start Z: h the heap at the call, h' behind it -/
def Q (Z : State) (x : Addr) (A : Cell) (h : Heap) (v : Option Value) (h' : Heap) (L : List Loc) : Prop := v = none ∧ (∀ y ∈ L, y.base = x) ∧ RoadKit.Keep h h' [x] ∧ h'.size = h.size + 1 ∧ RoadKit.Exa Z h' x ST ∧ RoadKit.Fld Z h' x ST "value" "[B" (.ref h.size) ∧ RoadKit.Fld Z h' x ST "coder" "B" (.int 0) ∧
  (∃ V : Cell, RoadKit.Arr Z h' h.size V .byte ∧ V.vm = .none ∧ Z.vm.findClass "[B" = some V.cls ∧ V.slots.size = A.slots.size ∧ ∀ j, j < A.slots.size → V.slots[j]? = some (.int (lo8 (cv A j)))) ∧
  ∀ (O n d : String) (w : Value), RoadKit.Fld Z h x O n d w → RoadKit.slotOf Z O n d ≠ RoadKit.slotOf Z ST "value" "[B" → RoadKit.slotOf Z O n d ≠ RoadKit.slotOf Z ST "coder" "B" → RoadKit.Fld Z h' x O n d w
/-- **new String(chars) AT A CALL, IN THE ROAD'S FORM**: for specialBack behind newO: x the fresh String, b the char[] with the cell A -/
theorem back {p : Program} {l : Launch} {e : Env} {R : Room} {s : State} {args : Array Value} {below : List Frame} {len W : Nat} {Z : State} {a0 : Array Value} {h : Heap} (hZ : Z.Warmed39 s.vm) (hw : ∀ d ∈ words, d.before a0 Z = true) {kI : Nat} (wi : (Jvm.Cond.instantiable ST kI).before a0 Z = true)
    {x b : Addr} {A : Cell} {z : Int32} {v0 c0 : Value} (E : RoadKit.Exa Z h x ST) (V : RoadKit.Fld Z h x ST "value" "[B" v0) (C : RoadKit.Fld Z h x ST "coder" "B" c0) (K : RoadKit.Arr Z h b A .char) (hty : Typed .char A) (S : RoadKit.Sta Z h ST "COMPACT_STRINGS" "Z" (.int z)) (hz : ¬ z = 0)
    (l0 : 0 < A.slots.size) (l2 : A.slots.size ≤ 536870912) (hp : ∀ i, i < A.slots.size → ¬ 255 < cv A i) (hfr : 4 ≤ R.frames) (hlo : W + 65 ≤ R.locals) :
    Back l R p e below s args New1.yN len W (fun P a => a = #[.ref x, .ref b] ∧ P.U.heap = h ∧ P.cells + 1 ≤ R.cells ∧ P.slots + A.slots.size ≤ R.slots)
      (fun P _ v B => ∃ L, Q Z x A h v B.U.heap L ∧ B.locs = P.locs ++ L ∧ B.cells = P.cells + 1 ∧ B.slots = P.slots + A.slots.size) := by
  intro m meth c P g ig mk a X hg hsize hdg hW hn hp'
  obtain ⟨rfl, rfl, r1, r2⟩ := hp'
  have al : Z.vm.Alike P.U.vm := hZ.alike.trans X.warmed.alike
  obtain ⟨D, cfV, kV, iV, fV, hD, gV, stV, knV, obV, asV, slV⟩ := id V
  obtain ⟨D', cfC, kC, iC, fC, hD', gC, stC, -, -, asC, slC⟩ := id C
  cases hD.symm.trans hD'
  obtain ⟨D2, kD, e1, e2, e3, e4, e5⟩ := id E
  cases hD.symm.trans e1
  obtain ⟨c2, k2, i1, i2, i3, -⟩ := Cond.instantiable_spec wi
  cases e2.symm.trans i1
  cases e3.symm.trans i2
  obtain ⟨kU, u1, u2⟩ := al.2.2 _ _ e3
  have hB : Blank ST x D P.U := ⟨hD, ⟨knV, fun q hq => by rw [hq] at obV; cases obV⟩, by rw [al.findClass]; exact e2, kU, u1, by rw [u2]; exact i3, by rw [u2]; exact e5 i3⟩
  have F1 : Found ST "value" "[B" fV P.U := ⟨SBG.found_only al ⟨cfV, kV, iV, gV⟩, stV⟩
  have F2 : Found ST "coder" "B" fC P.U := ⟨SBG.found_only al ⟨cfC, kC, iC, gC⟩, stC⟩
  have hA : Ch b A P.U := ⟨⟨K.1, State.isArrayOf_alike al K.2.1, K.2.2, by omega⟩, hty⟩
  have hS : StaticIs P.U ST "COMPACT_STRINGS" "Z" (.int z) := by
    obtain ⟨cfS, iS, kS, fS, st, cS, t1, t2, t3, t4, t5, t6, t7⟩ := S
    exact StaticIs.there (s := { Z with heap := P.U.heap }) ⟨cfS, iS, kS, fS, st, cS, t1, t2, t3, t4, t5, (fun q => by rw [q] at t6; cases t6), t7⟩ al rfl
  obtain ⟨v, B, X', ⟨⟨hv, E', V', q1, q2, q3, q4, q5, q6, q7, q8, q9, q10, q11⟩, hl, hc, hs⟩, st⟩ := New1.pays x D fV fC b A z (tab_of (moved hZ hw)) hfr hlo m meth c P g ig mk _ X hg hsize hdg hW hn ⟨r1, r2, rfl, hB, F1, F2, hA, hS, hz, l0, l2, hp⟩
  have al' : Z.vm.Alike B.U.vm := hZ.alike.trans X'.warmed.alike
  have hsz : E'.slots.size = D.slots.size := by
    obtain ⟨-, -, -, kB, w1, w2, w3⟩ := q1
    obtain ⟨kB', y1, y2⟩ := al'.2.2 _ _ e3
    rw [q2.2.1] at w1
    cases w1.symm.trans y1
    rw [w3, e5 i3, y2]
  refine ⟨v, B, X', ⟨_, ⟨hv, ?_, ⟨by omega, fun y cy hy hn' => q10 y cy (by simpa using hn') hy, fun y cy hy => ?_⟩, q11, ⟨E', _, q1.1, by rw [q2.2.1]; exact e2, by rw [q2.2.1]; exact e3, by rw [q2.1]; exact obV, fun _ => by rw [hsz]; exact e5 i3⟩,
    ⟨E', cfV, kV, iV, fV, q1.1, gV, stV, by rw [q2.1]; exact knV, by rw [q2.1]; exact obV, by rw [q2.2.1]; exact asV, q3⟩, ⟨E', cfC, kC, iC, fC, q1.1, gC, stC, by rw [q2.1]; exact knV, by rw [q2.1]; exact obV, by rw [q2.2.1]; exact asC, q4⟩,
    ⟨V', ⟨q5.1, State.isArrayOf_alike al'.symm q5.2.1, q5.2.2.1⟩, q6, by rw [← al'.findClass]; exact q7, q8, fun j hj => by have := q9 j hj; rwa [Nat.zero_add] at this⟩, fun O n d w F n1 n2 => ?_⟩, hl, hc, hs⟩, st⟩
  · intro y hy
    simp only [List.mem_cons, List.not_mem_nil, or_false] at hy
    rcases hy with rfl | rfl <;> rfl
  · by_cases q : y = x
    · subst q
      cases hD.symm.trans hy
      exact ⟨E', q1.1, q2.2.1, q2.1, hsz⟩
    · exact ⟨cy, q10 y cy q hy, rfl, rfl, rfl⟩
  · obtain ⟨D3, cf, k, i, f, g1, g2, g3, g4, g5, g6, g7⟩ := F
    cases hD.symm.trans g1
    simp only [RoadKit.slotOf, g2, gV, gC, Option.map_some, Option.getD_some] at n1 n2
    exact ⟨E', cf, k, i, f, q1.1, g2, g3, by rw [q2.1]; exact g4, by rw [q2.1]; exact g5, by rw [q2.2.1]; exact g6, by rw [q2.2.2 f.slot (by simp [n1, n2])]; exact g7⟩
end StrChars.Road
namespace StrChars.Road
open Jvm Sem ClassFile Op Lib Jvm.Stand Jvm.Free Jvm.Free.XT
/-- WHAT COMES BACK, the byte[] as a list of values -/
def QA (Z : State) (x : Addr) (zn : Int32) (cs : List Int32) (h : Heap) (v : Option Value) (h' : Heap) (L : List Loc) : Prop := v = none ∧ (∀ y ∈ L, y.base = x) ∧ RoadKit.Keep h h' [x] ∧ h'.size = h.size + 1 ∧ RoadKit.Exa Z h' x ST ∧ RoadKit.Fld Z h' x ST "value" "[B" (.ref h.size) ∧ RoadKit.Fld Z h' x ST "coder" "B" (.int 0) ∧
  (∃ kb, Z.vm.findClass "[B" = some kb ∧ RoadKit.Arv Z h' h.size kb .byte zn (cs.map fun c => .int (lo8 c)) (.int 0)) ∧
  ∀ (O n d : String) (w : Value), RoadKit.Fld Z h x O n d w → RoadKit.slotOf Z O n d ≠ RoadKit.slotOf Z ST "value" "[B" → RoadKit.slotOf Z O n d ≠ RoadKit.slotOf Z ST "coder" "B" → RoadKit.Fld Z h' x O n d w
/-- **new String(chars) AT A CALL, THE ARRAYS AS LISTS**: the char[] at b holds cs, not empty, no char above 255 -/
theorem backArv {p : Program} {l : Launch} {e : Env} {R : Room} {s : State} {args : Array Value} {below : List Frame} {len W : Nat} {Z : State} {a0 : Array Value} {h : Heap} (hZ : Z.Warmed39 s.vm) (hw : ∀ d ∈ words, d.before a0 Z = true) {kI : Nat} (wi : (Jvm.Cond.instantiable ST kI).before a0 Z = true)
    {x b : Addr} {k : ClassId} {zn z : Int32} {cs : List Int32} {dv v0 c0 : Value} (E : RoadKit.Exa Z h x ST) (V : RoadKit.Fld Z h x ST "value" "[B" v0) (C : RoadKit.Fld Z h x ST "coder" "B" c0) (K : RoadKit.Arv Z h b k .char zn (cs.map Value.int) dv) (S : RoadKit.Sta Z h ST "COMPACT_STRINGS" "Z" (.int z)) (hz : ¬ z = 0)
    (hlen : zn.toNatClampNeg = cs.length) (h0 : 0 < cs.length) (hbig : cs.length ≤ 536870912) (hall : ∀ c ∈ cs, ¬ 255 < c) (hfr : 4 ≤ R.frames) (hlo : W + 65 ≤ R.locals) :
    Back l R p e below s args New1.yN len W (fun P a => a = #[.ref x, .ref b] ∧ P.U.heap = h ∧ P.cells + 1 ≤ R.cells ∧ P.slots + cs.length ≤ R.slots)
      (fun P _ v B => ∃ L, QA Z x zn cs h v B.U.heap L ∧ B.locs = P.locs ++ L ∧ B.cells = P.cells + 1 ∧ B.slots = P.slots + cs.length) := by
  obtain ⟨A, K1, K2, K3, K4, K5, K6⟩ := K
  have e : A.slots.size = cs.length := K3.trans hlen
  have hat : ∀ (i : Nat) (hi : i < cs.length), A.slots[i]? = some (.int cs[i]) := fun i hi => by rw [K5 i (by omega)]; simp [List.getD_eq_getElem?_getD, hi]
  have hcv : ∀ (i : Nat) (hi : i < cs.length), cv A i = cs[i] := fun i hi => by unfold cv; rw [hat i hi]
  have hty : Typed .char A := fun i v hv => by
    have hi : i < A.slots.size := (Array.getElem?_eq_some_iff.mp hv).1
    have q := K5 i hi
    rw [hv] at q
    rw [Option.some.inj q]
    exact K6 i hi
  refine Back.mono (back hZ hw wi E V C K1 hty S hz (by omega) (by omega) (fun i hi => by rw [hcv i (by omega)]; exact hall _ (List.getElem_mem _)) hfr hlo) (fun P a hp => ⟨hp.1, hp.2.1, hp.2.2.1, by rw [e]; exact hp.2.2.2⟩) (fun P a v B hp hq => ?_)
  obtain ⟨L, ⟨q1, q2, q3, q4, q5, q6, q7, ⟨V', v1, v2, v3, v4, v5⟩, q9⟩, hl, hc, hs⟩ := hq
  refine ⟨L, ⟨q1, q2, q3, q4, q5, q6, q7, ⟨V'.cls, v3, V', v1, rfl, by rw [v4, e, hlen], K4, fun i hi => ?_, fun i hi => ?_⟩, q9⟩, hl, hc, by rw [hs, e]⟩
  · have hi' : i < cs.length := by omega
    rw [v5 i (by omega), hcv i hi']; simp [List.getD_eq_getElem?_getD, hi']
  · have hi' : i < cs.length := by omega
    simp only [List.getD_eq_getElem?_getD, List.getElem?_map, List.getElem?_eq_getElem hi', Option.map_some, Option.getD_some]
    exact fits_lo8 _
end StrChars.Road
namespace StrChars.Road
open Jvm Sem ClassFile Op Lib Jvm.Stand Jvm.Free Jvm.Free.XT
/-- WHAT COMES BACK, in the writer's own shape -/
def QV (Z : State) (x : Addr) (N : Int32) (bs : List Int32) (h : Heap) (n0 : Nat) (v : Option Value) (h' : Heap) (L : List Loc) : Prop := v = none ∧ RoadKit.Fr n0 L ∧ RoadKit.Keep h h' [x] ∧ RoadKit.Exa Z h' x ST ∧ RoadKit.Fld Z h' x ST "coder" "B" (.int 0) ∧
  ∃ (t : Addr) (kb : ClassId), n0 ≤ t ∧ h.size ≤ t ∧ ¬ t = x ∧ RoadKit.Fld Z h' x ST "value" "[B" (.ref t) ∧ RoadKit.Arv Z h' t kb .byte N (bs.map Value.int) (.int 0)
/-- **new String(chars) AT A CALL, FOR THE WRITER**: a char[] of n known ints, each 0 to 255 -/
theorem backV {p : Program} {l : Launch} {e : Env} {R : Room} {s : State} {args : Array Value} {below : List Frame} {len W : Nat} {Z : State} {a0 : Array Value} {h : Heap} (hZ : Z.Warmed39 s.vm) (hw : ∀ d ∈ words, d.before a0 Z = true) {kI : Nat} (wi : (Jvm.Cond.instantiable ST kI).before a0 Z = true)
    {x b : Addr} {kC : ClassId} {cs bs : List Int32} {d v0 c0 : Value} {z N : Int32} {n n0 : Nat} (hx0 : n0 ≤ x) (hh0 : n0 ≤ h.size) (E : RoadKit.Exa Z h x ST) (V : RoadKit.Fld Z h x ST "value" "[B" v0) (C : RoadKit.Fld Z h x ST "coder" "B" c0) (K : RoadKit.Arv Z h b kC .char N (cs.map Value.int) d) (S : RoadKit.Sta Z h ST "COMPACT_STRINGS" "Z" (.int z)) (hz : ¬ z = 0)
    (hn : cs.length = n) (hN : N = Int32.ofNat n) (l0 : 0 < n) (l2 : n ≤ 4000) (hp : ∀ c ∈ cs, ¬ c < 0 ∧ ¬ (255 : Int32) < c) (hb : bs = cs.map (fun c => c.toInt8.toInt32)) (hfr : 4 ≤ R.frames) (hlo : W + 65 ≤ R.locals) :
    Back l R p e below s args (⟨"java/lang/String", "<init>", "([C)V"⟩ : MethodName) len W (fun P a => a = #[.ref x, .ref b] ∧ P.U.heap = h ∧ P.cells + 1 ≤ R.cells ∧ P.slots + n ≤ R.slots)
      (fun P _ v B => ∃ L, QV Z x N bs h n0 v B.U.heap L ∧ B.locs = P.locs ++ L ∧ B.cells = P.cells + 1 ∧ B.slots = P.slots + n) := by
  subst hn hN hb
  refine Back.mono (backArv hZ hw wi E V C K S hz (n32 (by omega)) l0 (by omega) (fun c hc => (hp c hc).2) hfr hlo) (fun P a hp => hp) (fun P a v B hp hq => ?_)
  obtain ⟨L, ⟨q1, q2, q3, q4, q5, q6, q7, ⟨kb, v1, v2⟩, q9⟩, hl, hc, hs⟩ := hq
  exact ⟨L, ⟨q1, fun y hy => by rw [q2 y hy]; exact hx0, q3, q5, q7, h.size, kb, hh0, Nat.le_refl _, Nat.ne_of_gt E.lt, q6, by rw [List.map_map]; exact v2⟩, hl, hc, hs⟩
end StrChars.Road
namespace StrChars
open Jvm Sem ClassFile Op Lib Jvm.Stand Jvm.Free.XT Jvm.Free.ALB Jvm.Free.JM Jvm.Free
open Jvm.Lib.Cold (StaticIs)
def hi8 (x : Int32) : Int32 := lo8 (x >>> ((8 : Int32) &&& 31))
/-- what StringUTF16.getChar makes of two bytes -/
def pairCh (u v : Int32) : Int32 := (((u &&& 255) <<< ((0 : Int32) &&& 31)) ||| ((v &&& 255) <<< ((8 : Int32) &&& 31))).toUInt32.toUInt16.toUInt32.toInt32
theorem shr0 (c : Int32) : c >>> ((0 : Int32) &&& 31) = c := by
  have e : ((0 : Int32) &&& 31) = 0 := by decide
  rw [e]
  apply Int32.toBitVec_inj.mp
  rw [Int32.toBitVec_shiftRight]
  have e1 : ((0 : Int32).toBitVec.smod 32) = 0#32 := by decide
  rw [e1, BitVec.sshiftRight_eq']
  exact BitVec.sshiftRight_zero
theorem lo8_and (x : Int32) : (lo8 x &&& 255).toBitVec.toNat = x.toBitVec.toNat % 256 := by
  have h : (lo8 x).toBitVec = (x.toBitVec.signExtend 8).signExtend 32 := by rw [lo8, Int8.toBitVec_toInt32, Int32.toBitVec_toInt8]
  rw [Int32.toBitVec_and, BitVec.toNat_and, h]
  have e : ((x.toBitVec.signExtend 8).signExtend 32).toNat % 256 = x.toBitVec.toNat % 256 := by
    rw [BitVec.toNat_signExtend]
    have hlt := x.toBitVec.isLt
    simp only [BitVec.toNat_setWidth, BitVec.toNat_signExtend]
    split <;> split <;> omega
  rw [← e]
  exact Nat.and_two_pow_sub_one_eq_mod _ 8
theorem pair_says {c : Int32} (h0 : ¬ c < 0) (h1 : ¬ 65535 < c) : pairCh (lo8 c) (hi8 c) = c := by
  rw [Int32.lt_iff_toInt_lt] at h0 h1
  have e0 : (0 : Int32).toInt = 0 := rfl
  have e1 : (65535 : Int32).toInt = 65535 := rfl
  have hc : c.toInt = c.toBitVec.toNat := by
    have := c.toBitVec.isLt
    have e : c.toInt = c.toBitVec.toInt := rfl
    rw [e] at h0 h1
    rw [e]
    rw [BitVec.toInt_eq_toNat_cond] at h0 h1 ⊢
    split at h0 <;> split <;> omega
  have hn : c.toBitVec.toNat < 65536 := by omega
  have a1 := lo8_and c
  have a2 : (hi8 c &&& 255).toBitVec.toNat = c.toBitVec.toNat / 256 := by
    rw [hi8, lo8_and]
    have e : ((8 : Int32) &&& 31) = 8 := by decide
    rw [e, Int32.toBitVec_shiftRight]
    have e2 : ((8 : Int32).toBitVec.smod 32) = 8#32 := by decide
    rw [e2, BitVec.sshiftRight_eq', BitVec.toNat_sshiftRight_of_msb_false (by rw [BitVec.msb_eq_false_iff_two_mul_lt]; omega)]
    show c.toBitVec.toNat >>> 8 % 256 = _
    rw [Nat.shiftRight_eq_div_pow]
    omega
  unfold pairCh
  apply Int32.toBitVec_inj.mp
  apply BitVec.eq_of_toNat_eq
  have f0 : ((0 : Int32) &&& 31) = 0 := by decide
  have f8 : ((8 : Int32) &&& 31) = 8 := by decide
  rw [f0, f8]
  have g : (((lo8 c &&& 255) <<< (0 : Int32)) ||| ((hi8 c &&& 255) <<< (8 : Int32))).toBitVec.toNat = c.toBitVec.toNat := by
    rw [Int32.toBitVec_or, Int32.toBitVec_shiftLeft, Int32.toBitVec_shiftLeft]
    have s0 : ((0 : Int32).toBitVec.smod 32) = 0#32 := by decide
    have s8 : ((8 : Int32).toBitVec.smod 32) = 8#32 := by decide
    rw [s0, s8, BitVec.toNat_or]
    simp only [BitVec.shiftLeft_eq', BitVec.toNat_shiftLeft, a1, a2]
    show (c.toBitVec.toNat % 256) <<< 0 % 2 ^ 32 ||| (c.toBitVec.toNat / 256) <<< 8 % 2 ^ 32 = _
    rw [Nat.shiftLeft_zero, Nat.mod_eq_of_lt (show c.toBitVec.toNat % 256 < 2 ^ 32 by omega), Nat.mod_eq_of_lt (show (c.toBitVec.toNat / 256) <<< 8 < 2 ^ 32 by rw [Nat.shiftLeft_eq]; omega), Nat.or_comm, ← Nat.shiftLeft_add_eq_or_of_lt (by omega), Nat.shiftLeft_eq]
    omega
  show BitVec.toNat (((((lo8 c &&& 255) <<< (0 : Int32)) ||| ((hi8 c &&& 255) <<< (8 : Int32))).toBitVec.setWidth 16).setWidth 32) = _
  rw [BitVec.toNat_setWidth, BitVec.toNat_setWidth, g]
  omega
end StrChars
namespace StrChars
open Jvm Sem ClassFile Op Lib Jvm.Stand Jvm.Free.XT Jvm.Free.ALB Jvm.Free.JM Jvm.Free
open Jvm.Lib.Cold (StaticIs)
theorem shr1 {n : Nat} (h : 2 * n < 2 ^ 31) : Int32.ofNat (2 * n) >>> ((1 : Int32) &&& 31) = Int32.ofNat n := by
  have e : ((1 : Int32) &&& 31) = 1 := by decide
  rw [e]
  apply Int32.toBitVec_inj.mp
  rw [Int32.toBitVec_shiftRight]
  have e1 : ((1 : Int32).toBitVec.smod 32) = 1#32 := by decide
  have hm : (BitVec.ofNat 32 (2 * n)).toNat = 2 * n := by rw [BitVec.toNat_ofNat, Nat.mod_eq_of_lt (by omega)]
  rw [e1, BitVec.sshiftRight_eq']
  apply BitVec.eq_of_toNat_eq
  show ((BitVec.ofNat 32 (2 * n)).sshiftRight 1).toNat = (BitVec.ofNat 32 n).toNat
  rw [BitVec.toNat_sshiftRight_of_msb_false (by rw [BitVec.msb_eq_false_iff_two_mul_lt, hm]; omega), hm, BitVec.toNat_ofNat, Nat.shiftRight_eq_div_pow]
  omega
/-- charAt's cast of a byte read back -/
def chr8 (u : Int32) : Int32 := (u &&& 255).toUInt32.toUInt16.toUInt32.toInt32
theorem chr8_lo8 {c : Int32} (h0 : ¬ c < 0) (h1 : ¬ 255 < c) : chr8 (lo8 c) = c := by
  have t : ∀ k : Fin 256, (Int32.ofNat k.val).toUInt32.toUInt16.toUInt32.toInt32 = Int32.ofNat k.val := by decide +kernel
  unfold chr8
  rw [lo8_mask h0 h1]
  rw [Int32.lt_iff_toInt_lt] at h0 h1
  have e0 : (0 : Int32).toInt = 0 := rfl
  have e1 : (255 : Int32).toInt = 255 := rfl
  obtain ⟨k, hk⟩ : ∃ k : Nat, c.toInt = k := ⟨c.toInt.toNat, by omega⟩
  have hx : c = Int32.ofNat k := Int32.toInt_inj.mp (by rw [hk, Int32.toInt_ofNat_small (by omega)])
  rw [hx]
  exact t ⟨k, by omega⟩
theorem narrow_ch {c : Int32} (h0 : ¬ c < 0) (h1 : ¬ 65535 < c) : narrow .char (.int c) = .int c := by
  have q : narrow .char (.int (pairCh (lo8 c) (hi8 c))) = .int (pairCh (lo8 c) (hi8 c)) := narrow_c _
  rwa [pair_says h0 h1] at q
/-- the array's cell V codes the n chars f 0 .. f (n - 1) by the coder cd, as the JDK does: coder 1 just where some char is above 255 -/
def Cod (cd : Int32) (n : Nat) (f : Nat → Int32) (V : Cell) : Prop := (cd = 0 ∧ V.slots.size = n ∧ ∀ j, j < n → V.slots[j]? = some (.int (lo8 (f j))) ∧ ¬ 255 < f j) ∨ (cd = 1 ∧ V.slots.size = 2 * n ∧ (∀ j, j < n → V.slots[2 * j]? = some (.int (lo8 (f j))) ∧ V.slots[2 * j + 1]? = some (.int (hi8 (f j)))) ∧ ∃ j, j < n ∧ 255 < f j)
theorem Cod.cd {cd : Int32} {n : Nat} {f : Nat → Int32} {V : Cell} (h : Cod cd n f V) : cd = 0 ∨ cd = 1 := h.imp (fun q => q.1) fun q => q.1
theorem Cod.len {cd : Int32} {n : Nat} {f : Nat → Int32} {V : Cell} (h : Cod cd n f V) (hs : V.slots.size < 2 ^ 31) : Int32.ofNat V.slots.size >>> (cd &&& 31) = Int32.ofNat n := by
  rcases h with ⟨rfl, h, -⟩ | ⟨rfl, h, -⟩
  · rw [shr0, h]
  · rw [h, shr1 (by omega)]
/-- **x is a String of the n chars f 0 .. f (n - 1)**, Latin-1 or UTF-16; its array at t has the cell V -/
def Txt (x t : Addr) (V : Cell) (cd : Int32) (n : Nat) (f : Nat → Int32) (U : State) : Prop := Exact "java/lang/String" x U ∧ Has x "java/lang/String" "value" "[B" (.ref t) U ∧ Has x "java/lang/String" "coder" "B" (.int cd) U ∧ XT.Arr .byte t V U ∧ Cod cd n f V ∧ ∀ j, j < n → ¬ f j < 0 ∧ ¬ 65535 < f j
theorem Txt.mv {x t : Addr} {V : Cell} {cd : Int32} {n : Nat} {f : Nat → Int32} {U U' : State} (h : Txt x t V cd n f U) (hal : U.vm.Alike U'.vm) (hh : U'.heap = U.heap) : Txt x t V cd n f U' := ⟨h.1.mv hal hh, h.2.1.mv hal hh, h.2.2.1.mv hal hh, h.2.2.2.1.mv hal hh, h.2.2.2.2⟩
namespace Cdr
def yN : MethodName := ⟨"java/lang/String", "coder", "()B"⟩
abbrev yB : ByteArray := jdk_42_method_152_code
theorem d0 : decode yB 0 = .ok (.getstatic 38, 3) := by decide +kernel
theorem d3 : decode yB 3 = .ok (.ifCond (.eq) 10, 3) := by decide +kernel
theorem d6 : decode yB 6 = .ok (.aload_n 0, 1) := by decide +kernel
theorem d7 : decode yB 7 = .ok (.getfield 15, 3) := by decide +kernel
theorem d10 : decode yB 10 = .ok (.goto 4, 3) := by decide +kernel
theorem d14 : decode yB 14 = .ok (.ireturn, 1) := by decide +kernel
def site : List Cond := [.fieldLink "java/lang/String" 38 "java/lang/String" "COMPACT_STRINGS" "Z", .fieldLink "java/lang/String" 15 "java/lang/String" "coder" "B"]
def tab : Cond := tabOf yN yB 1 (some .byte) site
def P (x : Addr) (cd z : Int32) (args : Array Value) (s : State) : Prop := args = #[.ref x] ∧ Has x "java/lang/String" "coder" "B" (.int cd) s ∧ (cd = 0 ∨ cd = 1) ∧ StaticIs s "java/lang/String" "COMPACT_STRINGS" "Z" (.int z) ∧ ¬ z = 0
def E (cd : Int32) (r : Option Value) (s u : State) : Prop := XT.PureE (some (.int cd)) r s u
theorem law (l : Launch) (x : Addr) (cd z : Int32) : Law l yN 1 0 0 0 yB 1 (some .byte) site (P x cd z) (E cd) [] 0 0 := by
  refine Law.of_walk (plainFor_of_name (by decide +kernel)) (by decide +kernel) (by decide +kernel) (by decide) (fun _ _ h => by rw [h.1]; rfl) (fun _ U U' hal hh h => ⟨h.1, h.2.1.mv hal hh, h.2.2.1, h.2.2.2.1.there hal hh, h.2.2.2.2⟩) (fun r U U' V V' h1 hal h2 h => XT.PureE.mv r U U' V V' h1 hal h2 h) ?_
  intro p e s m args below meth c s₁ X0 hexec hbytes hml hret hlk hnm hown hh0 W hP
  obtain ⟨rfl, hx, hc, s1, hz⟩ := hP
  have c1 : Steps p.tables e below (s₁.setTop (entryFrame m #[.ref x] 1)) (s₁.setTop (mkF m 0 #[.val (.ref x)] [])) := entry rfl
  obtain ⟨T2, X2, q2, st2⟩ := X0.sget hexec hown (wk W (.fieldLink "java/lang/String" 38 "java/lang/String" "COMPACT_STRINGS" "Z")) s1 (fun _ _ h => by rw [hh0]; exact h) (g := (mkF m 0 #[.val (.ref x)] [])) rfl (hb hbytes d0)
  have hh2 := q2.trans hh0
  have c3 : Steps p.tables e below (s₁.setTop (entryFrame m #[.ref x] 1)) (T2.setTop (mkF m 7 #[.val (.ref x)] [.ref x])) := (c1.trans (st2 _ (Steps.refl _))).trans (by
    refine XS.ifNo X2.here hexec rfl (hb hbytes d3) rfl (i0_eq_f hz) ?_
    refine XS.aloadN X2.here hexec rfl (hb hbytes d6) rfl rfl ?_
    exact Steps.refl _)
  obtain ⟨T4, X4, q4, st4⟩ := X2.hget hexec hown (wk W (.fieldLink "java/lang/String" 15 "java/lang/String" "coder" "B")) (hx.mv X2.warmed.alike hh2) (g := (mkF m 7 #[.val (.ref x)] [.ref x])) rfl (rest := []) rfl (hb hbytes d7)
  have c5 : Steps p.tables e below (s₁.setTop (entryFrame m #[.ref x] 1)) (T4.setTop (mkF m 14 #[.val (.ref x)] [.int cd])) := (c3.trans (st4 _ (Steps.refl _))).trans (by
    refine XS.goto X4.here hexec rfl (pc0 := 10) rfl (hb hbytes d10) (by decide) rfl ?_
    exact Steps.refl _)
  exact ⟨T4, some (.int cd), _, _, _, X4, rfl, rfl, rfl, (fun h => by cases h), ⟨rfl, q4.trans hh2⟩, fun fs hl => c5.trans (X4.ireturnOut hexec hret (by rcases hc with rfl | rfl <;> rfl) (Or.inr (Or.inr (Or.inl rfl))) (hb hbytes d14) hl)⟩
end Cdr
namespace Len
def yN : MethodName := ⟨"java/lang/String", "length", "()I"⟩
abbrev yB : ByteArray := jdk_42_method_54_code
theorem d0 : decode yB 0 = .ok (.aload_n 0, 1) := by decide +kernel
theorem d1 : decode yB 1 = .ok (.getfield 9, 3) := by decide +kernel
theorem d4 : decode yB 4 = .ok (.arraylength, 1) := by decide +kernel
theorem d5 : decode yB 5 = .ok (.aload_n 0, 1) := by decide +kernel
theorem d6 : decode yB 6 = .ok (.invokevirtual 335, 3) := by decide +kernel
theorem d9 : decode yB 9 = .ok (.ishr, 1) := by decide +kernel
theorem d10 : decode yB 10 = .ok (.ireturn, 1) := by decide +kernel
def site : List Cond := [.fieldLink "java/lang/String" 9 "java/lang/String" "value" "[B", Cdr.tab] ++ virtW "java/lang/String" 335 "java/lang/String" Cdr.yN Cdr.yN
def tab : Cond := tabOf yN yB 1 (some .int) site
def P (x t : Addr) (V : Cell) (cd : Int32) (n : Nat) (f : Nat → Int32) (z : Int32) (args : Array Value) (s : State) : Prop := args = #[.ref x] ∧ Txt x t V cd n f s ∧ StaticIs s "java/lang/String" "COMPACT_STRINGS" "Z" (.int z) ∧ ¬ z = 0
def E (n : Nat) (r : Option Value) (s u : State) : Prop := XT.PureE (some (.int (Int32.ofNat n))) r s u
/-- length() of a String of n chars, in either coding -/
theorem law (l : Launch) (x t : Addr) (V : Cell) (cd : Int32) (n : Nat) (f : Nat → Int32) (z : Int32) : Law l yN 1 0 1 13 yB 1 (some .int) site (P x t V cd n f z) (E n) [] 0 0 := by
  refine Law.of_walk (plainFor_of_name (by decide +kernel)) (by decide +kernel) (by decide +kernel) (by decide) (fun _ _ h => by rw [h.1]; rfl) (fun _ U U' hal hh h => ⟨h.1, h.2.1.mv hal hh, h.2.2.1.there hal hh, h.2.2.2⟩) (fun r U U' V V' h1 hal h2 h => XT.PureE.mv r U U' V V' h1 hal h2 h) ?_
  intro p e s m args below meth c s₁ X0 hexec hbytes hml hret hlk hnm hown hh0 W hP
  obtain ⟨rfl, hx, s1, hz⟩ := hP
  have v31 := hx.2.2.2.1.2.2.2
  have c1 : Steps p.tables e below (s₁.setTop (entryFrame m #[.ref x] 1)) (s₁.setTop (mkF m 1 #[.val (.ref x)] [.ref x])) := Steps.trans (entry rfl) (by
    show Steps p.tables e below (s₁.setTop (mkF m 0 #[.val (.ref x)] [])) _
    refine XS.aloadN X0.here hexec rfl (hb hbytes d0) rfl rfl ?_
    exact Steps.refl _)
  obtain ⟨T2, X2, q2, st2⟩ := X0.hget hexec hown (wk W (.fieldLink "java/lang/String" 9 "java/lang/String" "value" "[B")) (hx.mv X0.warmed.alike hh0).2.1 (g := (mkF m 1 #[.val (.ref x)] [.ref x])) rfl (rest := []) rfl (hb hbytes d1)
  have hh2 := q2.trans hh0
  have hx2 := hx.mv X2.warmed.alike hh2
  have c3 : Steps p.tables e below (s₁.setTop (entryFrame m #[.ref x] 1)) (T2.setTop (mkF m 6 #[.val (.ref x)] [.ref x, .int (Int32.ofNat V.slots.size)])) := (c1.trans (st2 _ (Steps.refl _))).trans (by
    refine X2.alen hexec hx2.2.2.2.1 rfl rfl (hb hbytes d4) ?_
    refine XS.aloadN X2.here hexec rfl (hb hbytes d5) rfl rfl ?_
    exact Steps.refl _)
  obtain ⟨v4, T4, X4, E4, g4⟩ := X2.callV hexec (Cdr.law l x cd z) hown (wks W (virtW "java/lang/String" 335 "java/lang/String" Cdr.yN Cdr.yN)) rfl (by decide) (wk W Cdr.tab) (W := 1) (Nat.le_of_ble_eq_true rfl) (Nat.le_of_ble_eq_true rfl) (Nat.le_refl _) (Nat.le_refl _) (hx2.1.fc X2.warmed.alike) hx2.1.is (g := (mkF m 6 #[.val (.ref x)] [.ref x, .int (Int32.ofNat V.slots.size)])) rfl (by rw [hml]; rfl) c3 (argsL := []) (rest := [.int (Int32.ofNat V.slots.size)]) rfl rfl (by show 2 * 0 + (1 + 0) ≤ _; decide) (hb hbytes d6) (⟨rfl, hx2.2.2.1, hx.2.2.2.2.1.cd, s1.there X2.warmed.alike hh2, hz⟩)
  obtain ⟨rfl, q4⟩ := E4
  have c5 : Steps p.tables e below (s₁.setTop (entryFrame m #[.ref x] 1)) (T4.setTop (mkF m 10 #[.val (.ref x)] [.int (Int32.ofNat V.slots.size >>> (cd &&& 31))])) := Steps.trans g4 (by
    refine ishr X4.here hexec rfl (hb hbytes d9) rfl ?_
    exact Steps.refl _)
  rw [hx.2.2.2.2.1.len v31] at c5
  exact ⟨T4, some (.int (Int32.ofNat n)), _, _, _, X4, rfl, rfl, rfl, (fun h => by cases h), ⟨rfl, q4.trans hh2⟩, fun fs hl => c5.trans (X4.ireturnOut hexec hret rfl (Or.inl rfl) (hb hbytes d10) hl)⟩
theorem pays {l : Launch} {R : Room} {p : Program} {e : Env} {below : List Frame} {s : State} {sargs : Array Value} {len W : Nat} (x t : Addr) (V : Cell) (cd : Int32) (n : Nat) (f : Nat → Int32) (z : Int32) (htab : tab.before sargs s = true) (hfr : 2 ≤ R.frames) (hlo : W + 25 ≤ R.locals) :
    Back l R p e below s sargs yN len W (fun A₁ a₁ => A₁.cells + 0 ≤ R.cells ∧ A₁.slots + 0 ≤ R.slots ∧ P x t V cd n f z a₁ A₁.U) (fun A₁ _ v₁ B₁ => E n v₁ A₁.U B₁.U ∧ B₁.locs = A₁.locs ++ [] ∧ B₁.cells = A₁.cells + 0 ∧ B₁.slots = A₁.slots + 0) :=
  (law l x t V cd n f z).pays htab hfr (by omega)
end Len
namespace IsL
def yN : MethodName := ⟨"java/lang/String", "isLatin1", "()Z"⟩
abbrev yB : ByteArray := jdk_42_method_154_code
theorem d0 : decode yB 0 = .ok (.getstatic 38, 3) := by decide +kernel
theorem d3 : decode yB 3 = .ok (.ifCond (.eq) 14, 3) := by decide +kernel
theorem d6 : decode yB 6 = .ok (.aload_n 0, 1) := by decide +kernel
theorem d7 : decode yB 7 = .ok (.getfield 15, 3) := by decide +kernel
theorem d10 : decode yB 10 = .ok (.ifCond (.ne) 7, 3) := by decide +kernel
theorem d13 : decode yB 13 = .ok (.iconst 1, 1) := by decide +kernel
theorem d14 : decode yB 14 = .ok (.goto 4, 3) := by decide +kernel
theorem d17 : decode yB 17 = .ok (.iconst 0, 1) := by decide +kernel
theorem d18 : decode yB 18 = .ok (.ireturn, 1) := by decide +kernel
def site : List Cond := [.fieldLink "java/lang/String" 38 "java/lang/String" "COMPACT_STRINGS" "Z", .fieldLink "java/lang/String" 15 "java/lang/String" "coder" "B"]
def tab : Cond := tabOf yN yB 1 (some .boolean) site
def P (x : Addr) (cd z : Int32) (args : Array Value) (s : State) : Prop := args = #[.ref x] ∧ Has x "java/lang/String" "coder" "B" (.int cd) s ∧ (cd = 0 ∨ cd = 1) ∧ StaticIs s "java/lang/String" "COMPACT_STRINGS" "Z" (.int z) ∧ ¬ z = 0
def E (cd : Int32) (r : Option Value) (s u : State) : Prop := XT.PureE (some (.int (1 - cd))) r s u
theorem law (l : Launch) (x : Addr) (cd z : Int32) : Law l yN 1 0 0 0 yB 1 (some .boolean) site (P x cd z) (E cd) [] 0 0 := by
  refine Law.of_walk (plainFor_of_name (by decide +kernel)) (by decide +kernel) (by decide +kernel) (by decide) (fun _ _ h => by rw [h.1]; rfl) (fun _ U U' hal hh h => ⟨h.1, h.2.1.mv hal hh, h.2.2.1, h.2.2.2.1.there hal hh, h.2.2.2.2⟩) (fun r U U' V V' h1 hal h2 h => XT.PureE.mv r U U' V V' h1 hal h2 h) ?_
  intro p e s m args below meth c s₁ X0 hexec hbytes hml hret hlk hnm hown hh0 W hP
  obtain ⟨rfl, hx, hc, s1, hz⟩ := hP
  have c1 : Steps p.tables e below (s₁.setTop (entryFrame m #[.ref x] 1)) (s₁.setTop (mkF m 0 #[.val (.ref x)] [])) := entry rfl
  obtain ⟨T2, X2, q2, st2⟩ := X0.sget hexec hown (wk W (.fieldLink "java/lang/String" 38 "java/lang/String" "COMPACT_STRINGS" "Z")) s1 (fun _ _ h => by rw [hh0]; exact h) (g := (mkF m 0 #[.val (.ref x)] [])) rfl (hb hbytes d0)
  have hh2 := q2.trans hh0
  have c3 : Steps p.tables e below (s₁.setTop (entryFrame m #[.ref x] 1)) (T2.setTop (mkF m 7 #[.val (.ref x)] [.ref x])) := (c1.trans (st2 _ (Steps.refl _))).trans (by
    refine XS.ifNo X2.here hexec rfl (hb hbytes d3) rfl (i0_eq_f hz) ?_
    refine XS.aloadN X2.here hexec rfl (hb hbytes d6) rfl rfl ?_
    exact Steps.refl _)
  obtain ⟨T4, X4, q4, st4⟩ := X2.hget hexec hown (wk W (.fieldLink "java/lang/String" 15 "java/lang/String" "coder" "B")) (hx.mv X2.warmed.alike hh2) (g := (mkF m 7 #[.val (.ref x)] [.ref x])) rfl (rest := []) rfl (hb hbytes d7)
  have c5 : Steps p.tables e below (s₁.setTop (entryFrame m #[.ref x] 1)) (T4.setTop (mkF m 10 #[.val (.ref x)] [.int cd])) := c3.trans (st4 _ (Steps.refl _))
  have c6 : Steps p.tables e below (s₁.setTop (entryFrame m #[.ref x] 1)) (T4.setTop (mkF m 18 #[.val (.ref x)] [.int (1 - cd)])) := by
    rcases hc with rfl | rfl
    · exact c5.trans (by
        refine XS.ifNo X4.here hexec rfl (hb hbytes d10) rfl (i0_ne_f rfl) ?_
        refine iconstV X4.here hexec rfl 1 (hb hbytes d13) (by decide) ?_
        refine XS.goto X4.here hexec rfl (pc0 := 14) rfl (hb hbytes d14) (by decide) rfl ?_
        exact Steps.refl _)
    · exact c5.trans (by
        refine XS.ifYes X4.here hexec rfl (pc0 := 10) rfl (hb hbytes d10) rfl (i0_ne_t (by decide)) (by decide) rfl ?_
        refine iconstV X4.here hexec rfl 0 (hb hbytes d17) (by decide) ?_
        exact Steps.refl _)
  exact ⟨T4, some (.int (1 - cd)), _, _, _, X4, rfl, rfl, rfl, (fun h => by cases h), ⟨rfl, q4.trans hh2⟩, fun fs hl => c6.trans (X4.ireturnOut hexec hret (by rcases hc with rfl | rfl <;> rfl) (Or.inr (Or.inl rfl)) (hb hbytes d18) hl)⟩
end IsL
namespace LChA
def yN : MethodName := ⟨"java/lang/StringLatin1", "charAt", "([BI)C"⟩
abbrev yB : ByteArray := jdk_43_method_2_code
theorem d0 : decode yB 0 = .ok (.iload_n 1, 1) := by decide +kernel
theorem d1 : decode yB 1 = .ok (.aload_n 0, 1) := by decide +kernel
theorem d2 : decode yB 2 = .ok (.arraylength, 1) := by decide +kernel
theorem d3 : decode yB 3 = .ok (.invokestatic 9, 3) := by decide +kernel
theorem d6 : decode yB 6 = .ok (.aload_n 0, 1) := by decide +kernel
theorem d7 : decode yB 7 = .ok (.iload_n 1, 1) := by decide +kernel
theorem d8 : decode yB 8 = .ok (.baload, 1) := by decide +kernel
theorem d9 : decode yB 9 = .ok (.sipush 255, 3) := by decide +kernel
theorem d12 : decode yB 12 = .ok (.iand, 1) := by decide +kernel
theorem d13 : decode yB 13 = .ok (.i2c, 1) := by decide +kernel
theorem d14 : decode yB 14 = .ok (.ireturn, 1) := by decide +kernel
def site : List Cond := [JO.Str_checkIndex.tab] ++ staticW "java/lang/StringLatin1" 9 JO.Str_checkIndex.yN
def tab : Cond := tabOf yN yB 2 (some .char) site
def P (t : Addr) (V : Cell) (i : Nat) (u : Int32) (fm : Value) (args : Array Value) (s : State) : Prop := args = #[.ref t, .int (Int32.ofNat i)] ∧ XT.Arr .byte t V s ∧ V.slots[i]? = some (.int u) ∧ (StaticIs s "jdk/internal/util/Preconditions" "SIOOBE_FORMATTER" "Ljava/util/function/BiFunction;" fm ∧ fm.isRef = true)
def E (u : Int32) (r : Option Value) (s w : State) : Prop := XT.PureE (some (.int (chr8 u))) r s w
theorem law (l : Launch) (t : Addr) (V : Cell) (i : Nat) (u : Int32) (fm : Value) : Law l yN 2 2 2 27 yB 2 (some .char) site (P t V i u fm) (E u) [] 0 0 := by
  refine Law.of_walk (plainFor_of_name (by decide +kernel)) (by decide +kernel) (by decide +kernel) (by decide) (fun _ _ h => by rw [h.1]; rfl) (fun _ U U' hal hh h => ⟨h.1, h.2.1.mv hal hh, h.2.2.1, h.2.2.2.1.there hal hh, h.2.2.2.2⟩) (fun r U U' V V' h1 hal h2 h => XT.PureE.mv r U U' V V' h1 hal h2 h) ?_
  intro p e s m args below meth c s₁ X0 hexec hbytes hml hret hlk hnm hown hh0 W hP
  obtain ⟨rfl, hV, hu, s1, rf⟩ := hP
  have v31 := hV.2.2.2
  have hi : i < V.slots.size := (Array.getElem?_eq_some_iff.mp hu).1
  have c1 : Steps p.tables e below (s₁.setTop (entryFrame m #[.ref t, .int (Int32.ofNat i)] 2)) (s₁.setTop (mkF m 0 #[.val (.ref t), .val (.int (Int32.ofNat i))] [])) := entry rfl
  have c2 : Steps p.tables e below (s₁.setTop (entryFrame m #[.ref t, .int (Int32.ofNat i)] 2)) (s₁.setTop (mkF m 3 #[.val (.ref t), .val (.int (Int32.ofNat i))] [.int (Int32.ofNat V.slots.size), .int (Int32.ofNat i)])) := c1.trans (by
    refine XS.iloadN X0.here hexec rfl (hb hbytes d0) rfl ?_
    refine XS.aloadN X0.here hexec rfl (hb hbytes d1) rfl rfl ?_
    refine X0.alen hexec (hV.mv X0.warmed.alike hh0) rfl rfl (hb hbytes d2) ?_
    exact Steps.refl _)
  obtain ⟨v3, T3, X3, E3, g3⟩ := X0.callS hexec (JO.Str_checkIndex.law l (Int32.ofNat i) (Int32.ofNat V.slots.size) fm) hown (wks W (staticW "java/lang/StringLatin1" 9 JO.Str_checkIndex.yN)) (wk W JO.Str_checkIndex.tab) (W := 0) (Nat.le_of_ble_eq_true rfl) (Nat.le_of_ble_eq_true rfl) (Nat.le_refl _) (Nat.le_refl _) (g := (mkF m 3 #[.val (.ref t), .val (.int (Int32.ofNat i))] [.int (Int32.ofNat V.slots.size), .int (Int32.ofNat i)])) rfl (by rw [hml]; rfl) c2 (argsL := [.int (Int32.ofNat i), .int (Int32.ofNat V.slots.size)]) (rest := []) rfl rfl (by show 2 * 0 + 0 ≤ _; decide) (hb hbytes d3) (⟨rfl, rf, s1.there X0.warmed.alike hh0, Int32.ofNat_not_neg (by omega), lt32 v31 hi⟩)
  obtain ⟨rfl, q3⟩ := E3
  have hh3 := q3.trans hh0
  have c4 : Steps p.tables e below (s₁.setTop (entryFrame m #[.ref t, .int (Int32.ofNat i)] 2)) (T3.setTop (mkF m 14 #[.val (.ref t), .val (.int (Int32.ofNat i))] [.int (chr8 u)])) := Steps.trans g3 (by
    refine XS.aloadN X3.here hexec rfl (hb hbytes d6) rfl rfl ?_
    refine XS.iloadN X3.here hexec rfl (hb hbytes d7) rfl ?_
    refine X3.aget hexec (hV.mv X3.warmed.alike hh3) rfl hu rfl rfl (hb hbytes d8) ?_
    refine sipushV X3.here hexec rfl 255 (hb hbytes d9) (by decide) ?_
    refine XS.iand X3.here hexec rfl (hb hbytes d12) rfl ?_
    refine i2c X3.here hexec rfl (hb hbytes d13) rfl ?_
    exact Steps.refl _)
  exact ⟨T3, some (.int (chr8 u)), _, _, _, X3, rfl, rfl, rfl, (fun h => by cases h), ⟨rfl, hh3⟩, fun fs hl => c4.trans (X3.ireturnOut hexec hret (narrow_c _) (Or.inr (Or.inr (Or.inr (Or.inl rfl)))) (hb hbytes d14) hl)⟩
end LChA
end StrChars
namespace StrChars.Road
open Jvm Sem ClassFile Op Lib Jvm.Stand Jvm.Free Jvm.Free.XT
open Jvm.Lib.Cold (StaticIs)
theorem consq {a : Array Value} {s : State} {c : Jvm.Cond} {L : List Jvm.Cond} (h0 : c.before a s = true) (h : ∀ w ∈ L, w.before a s = true) : ∀ w ∈ c :: L, w.before a s = true := fun w hw => (List.mem_cons.mp hw).elim (fun e => e ▸ h0) (h w)
/-- the words of String.length(), either coding -/
abbrev wordsLen : List Jvm.Cond := [.code Len.yN Len.yB 1 (some .int), .initialized ST, .fieldLink ST 9 ST "value" "[B", .fieldLink ST 38 ST "COMPACT_STRINGS" "Z", .fieldLink ST 15 ST "coder" "B", .code Cdr.yN Cdr.yB 1 (some .byte), .methodLink ST 335 Cdr.yN, .declares Cdr.yN, .selects ST Cdr.yN Cdr.yN, .instanceMethod Cdr.yN]
theorem tabLen_of {a : Array Value} {s : State} (h : ∀ w ∈ wordsLen, w.before a s = true) : Len.tab.before a s = true := by
  have hc : Cdr.tab.before a s = true := unparts (wk h (.code Cdr.yN Cdr.yB 1 (some .byte))) (wks h (.initialized Cdr.yN.cls :: Cdr.site))
  have q := consq hc h
  exact unparts (wk q (.code Len.yN Len.yB 1 (some .int))) (wks q (.initialized Len.yN.cls :: Len.site))
theorem movedLen {Z s : State} {a0 args : Array Value} (hZ : Z.Warmed39 s.vm) (hw : ∀ d ∈ wordsLen, d.before a0 Z = true) : ∀ d ∈ wordsLen, d.before args s = true := fun d hd => by
  have q := hw d hd
  have t : ∀ d ∈ wordsLen, d = .arrayClass .byte ∨ (d.onTables && d.keepsFace) = true := by decide +kernel
  rcases t d hd with rfl | t
  · exact RoadKit.mvA hZ q
  · exact RoadKit.mv hZ q t
/-- the bytes of the chars cs, low before high -/
def wideBytes : List Int32 → List Value
  | [] => []
  | c :: cs => .int (lo8 c) :: .int (hi8 c) :: wideBytes cs
theorem wide_lo (d : Value) : ∀ (cs : List Int32) (j : Nat), j < cs.length → (wideBytes cs).getD (2 * j) d = .int (lo8 (cs.getD j 0))
  | [], j, h => absurd h (Nat.not_lt_zero j)
  | c :: cs, 0, _ => rfl
  | c :: cs, j + 1, h => by
    have q := wide_lo d cs j (by simpa using h)
    rw [show 2 * (j + 1) = 2 * j + 1 + 1 from by omega]
    simpa [wideBytes] using q
theorem wide_hi (d : Value) : ∀ (cs : List Int32) (j : Nat), j < cs.length → (wideBytes cs).getD (2 * j + 1) d = .int (hi8 (cs.getD j 0))
  | [], j, h => absurd h (Nat.not_lt_zero j)
  | c :: cs, 0, _ => rfl
  | c :: cs, j + 1, h => by
    have q := wide_hi d cs j (by simpa using h)
    rw [show 2 * (j + 1) + 1 = 2 * j + 1 + 1 + 1 from by omega]
    simpa [wideBytes] using q
theorem low_at (d : Value) (cs : List Int32) (j : Nat) (h : j < cs.length) : (cs.map fun c => Value.int (lo8 c)).getD j d = .int (lo8 (cs.getD j 0)) := by
  simp [List.getD_eq_getElem?_getD, h]
/-- an array of N2 bytes vs codes the chars cs by the coder cd -/
def CodA (cs : List Int32) (cd N2 : Int32) (vs : List Value) : Prop := (cd = 0 ∧ N2 = Int32.ofNat cs.length ∧ vs = (cs.map fun c => Value.int (lo8 c)) ∧ ∀ c ∈ cs, ¬ 255 < c) ∨ (cd = 1 ∧ N2 = Int32.ofNat (2 * cs.length) ∧ vs = wideBytes cs ∧ ∃ c ∈ cs, 255 < c)
theorem CodA.cod {cs : List Int32} {cd N2 : Int32} {vs : List Value} {V : Cell} (h : CodA cs cd N2 vs) (hn : 2 * cs.length < 2 ^ 31) (hs : V.slots.size = N2.toNatClampNeg) (hv : RoadKit.Has V vs (.int 0)) : Cod cd cs.length (fun j => cs.getD j 0) V := by
  rcases h with ⟨rfl, rfl, rfl, h⟩ | ⟨rfl, rfl, rfl, c, hc, hw⟩
  · rw [n32 (by omega)] at hs
    exact Or.inl ⟨rfl, hs, fun j hj => ⟨by rw [hv j (by omega), low_at _ _ _ hj], by
      have e : cs.getD j 0 = cs[j] := by simp [List.getD_eq_getElem?_getD, hj]
      show ¬ 255 < cs.getD j 0
      rw [e]; exact h _ (List.getElem_mem _)⟩⟩
  · rw [n32 (by omega)] at hs
    obtain ⟨j, hj, rfl⟩ := List.getElem_of_mem hc
    exact Or.inr ⟨rfl, hs, fun j hj => ⟨by rw [hv _ (by omega), wide_lo _ _ _ hj], by rw [hv _ (by omega), wide_hi _ _ _ hj]⟩, j, hj, by
      have e : cs.getD j 0 = cs[j] := by simp [List.getD_eq_getElem?_getD, hj]
      show 255 < cs.getD j 0
      rw [e]; exact hw⟩
/-- an object of exactly java/lang/String, its two fields found: as the laws ask it -/
theorem strObj {Z U : State} {a0 : Array Value} {kI : Nat} (wi : (Jvm.Cond.instantiable ST kI).before a0 Z = true) (al : Z.vm.Alike U.vm) {x : Addr} {v0 c0 : Value} (E : RoadKit.Exa Z U.heap x ST) (V : RoadKit.Fld Z U.heap x ST "value" "[B" v0) (C : RoadKit.Fld Z U.heap x ST "coder" "B" c0) :
    ∃ (D : Cell) (fV fC : Field), Blank ST x D U ∧ Found ST "value" "[B" fV U ∧ Found ST "coder" "B" fC U ∧ D.slots[fV.slot]? = some v0 ∧ D.slots[fC.slot]? = some c0 ∧ RoadKit.slotOf Z ST "value" "[B" = fV.slot ∧ RoadKit.slotOf Z ST "coder" "B" = fC.slot := by
  obtain ⟨D, cfV, kV, iV, fV, hD, gV, stV, knV, obV, asV, slV⟩ := V
  obtain ⟨D', cfC, kC, iC, fC, hD', gC, stC, -, -, asC, slC⟩ := C
  cases hD.symm.trans hD'
  obtain ⟨D2, kD, e1, e2, e3, e4, e5⟩ := E
  cases hD.symm.trans e1
  obtain ⟨c2, k2, i1, i2, i3, -⟩ := Cond.instantiable_spec wi
  cases e2.symm.trans i1
  cases e3.symm.trans i2
  obtain ⟨kU, u1, u2⟩ := al.2.2 _ _ e3
  exact ⟨D, fV, fC, ⟨hD, ⟨knV, fun q hq => by rw [hq] at obV; cases obV⟩, by rw [al.findClass]; exact e2, kU, u1, by rw [u2]; exact i3, by rw [u2]; exact e5 i3⟩, ⟨SBG.found_only al ⟨cfV, kV, iV, gV⟩, stV⟩, ⟨SBG.found_only al ⟨cfC, kC, iC, gC⟩, stC⟩, slV, slC, by simp [RoadKit.slotOf, gV], by simp [RoadKit.slotOf, gC]⟩
theorem sta_is {Z U : State} (al : Z.vm.Alike U.vm) {C n d : String} {v : Value} (S : RoadKit.Sta Z U.heap C n d v) : StaticIs U C n d v := by
  obtain ⟨cfS, iS, kS, fS, st, cS, t1, t2, t3, t4, t5, t6, t7⟩ := S
  exact StaticIs.there (s := { Z with heap := U.heap }) ⟨cfS, iS, kS, fS, st, cS, t1, t2, t3, t4, t5, (fun q => by rw [q] at t6; cases t6), t7⟩ al rfl
/-- **length() OF SUCH A STRING** -/
theorem lenW {p : Program} {l : Launch} {e : Env} {R : Room} {s : State} {args : Array Value} {below : List Frame} {len W : Nat} {Z : State} {a0 : Array Value} {h : Heap} (hZ : Z.Warmed39 s.vm) (hw : ∀ d ∈ wordsLen, d.before a0 Z = true) {kI : Nat} (wi : (Jvm.Cond.instantiable ST kI).before a0 Z = true)
    {x t : Addr} {kb : ClassId} {cs : List Int32} {cd N2 z : Int32} {vs : List Value} (E : RoadKit.Exa Z h x ST) (V : RoadKit.Fld Z h x ST "value" "[B" (.ref t)) (C : RoadKit.Fld Z h x ST "coder" "B" (.int cd)) (K : RoadKit.Arv Z h t kb .byte N2 vs (.int 0)) (hc : CodA cs cd N2 vs) (hb : ∀ c ∈ cs, ¬ c < 0 ∧ ¬ (65535 : Int32) < c)
    (S : RoadKit.Sta Z h ST "COMPACT_STRINGS" "Z" (.int z)) (hz : ¬ z = 0) (l2 : cs.length ≤ 4000) (hfr : 2 ≤ R.frames) (hlo : W + 25 ≤ R.locals) :
    Back l R p e below s args (⟨"java/lang/String", "length", "()I"⟩ : MethodName) len W (fun P a => a = #[.ref x] ∧ P.U.heap = h ∧ P.cells + 0 ≤ R.cells ∧ P.slots + 0 ≤ R.slots)
      (fun P _ v B => ∃ L, (v = some (.int (Int32.ofNat cs.length)) ∧ L = [] ∧ B.U.heap = h) ∧ B.locs = P.locs ++ L ∧ B.cells = P.cells + 0 ∧ B.slots = P.slots + 0) := by
  obtain ⟨A, K1, K2, K3, K4, K5, K6⟩ := K
  have hcod := hc.cod (by omega) K3 K5
  intro m meth c P g ig mk a X hg hsize hdg hW hn hp'
  obtain ⟨rfl, rfl, r1, r2⟩ := hp'
  have al : Z.vm.Alike P.U.vm := hZ.alike.trans X.warmed.alike
  obtain ⟨D, fV, fC, hB, F1, F2, g1, g2, -, -⟩ := strObj wi al E V C
  have hx : Txt x t A cd cs.length (fun j => cs.getD j 0) P.U := ⟨⟨_, hB.2.2.1, D, hB.1, rfl, by cases q : D.vm <;> first | rfl | exact absurd q (hB.2.1.2 _)⟩, Has.of hB F1 g1, Has.of hB F2 g2, ⟨K1.1, State.isArrayOf_alike al K1.2.1, K1.2.2, by rcases hcod with ⟨-, q, -⟩ | ⟨-, q, -⟩ <;> omega⟩, hcod, fun j hj => by
    have e : cs.getD j 0 = cs[j] := by simp [List.getD_eq_getElem?_getD, hj]
    show ¬ cs.getD j 0 < 0 ∧ ¬ 65535 < cs.getD j 0
    rw [e]; exact hb _ (List.getElem_mem _)⟩
  obtain ⟨v, B, X', ⟨⟨hv, hh⟩, hl, hk, hs⟩, st⟩ := Len.pays x t A cd cs.length (fun j => cs.getD j 0) z (tabLen_of (movedLen hZ hw)) hfr hlo m meth c P g ig mk _ X hg hsize hdg hW hn ⟨r1, r2, rfl, hx, sta_is al S, hz⟩
  exact ⟨v, B, X', ⟨[], ⟨hv, rfl, hh⟩, hl, hk, hs⟩, st⟩
end StrChars.Road
namespace StrChars
open Jvm Sem ClassFile Op Lib Jvm.Stand Jvm.Free.XT Jvm.Free.ALB Jvm.Free.JM Jvm.Free
open Jvm.Lib.Cold (StaticIs)
/-- what place i of a byte[]'s cell holds -/
def yv (A : Cell) (i : Nat) : Int32 := match A.slots[i]? with | some (.int x) => x | _ => 0
theorem yv_get {a : Addr} {A : Cell} {U : State} (h : XT.Arr .byte a A U) (ht : Typed .byte A) {i : Nat} (hi : i < A.slots.size) : A.slots[i]? = some (.int (yv A i)) := by
  have e := Array.getElem?_eq_getElem hi
  have f := ht i _ e
  unfold yv; rw [e]
  generalize A.slots[i] = v at f
  cases v <;> simp [fits] at f ⊢
/-- the two arrays are equal, place for place -/
def EqC (A B : Cell) : Prop := A.slots.size = B.slots.size ∧ ∀ i, i < A.slots.size → yv A i = yv B i
/-- a boolean that says whether p -/
def Says01 (q : Prop) (r : Option Value) (s u : State) : Prop := ∃ v : Int32, r = some (.int v) ∧ u.heap = s.heap ∧ ((v = 1 ∧ q) ∨ (v = 0 ∧ ¬ q))
theorem Says01.mv {q : Prop} : ∀ r (U U' V V' : State), U'.heap = U.heap → V.vm.Alike V'.vm → V'.heap = V.heap → Says01 q r U V → Says01 q r U' V' :=
  fun r U U' V V' h1 _ h2 ⟨v, a, b, c⟩ => ⟨v, a, by rw [h1, h2]; exact b, c⟩
namespace LEq
def yN : MethodName := ⟨"java/lang/StringLatin1", "equals", "([B[B)Z"⟩
abbrev yB : ByteArray := jdk_43_method_13_code
theorem d0 : decode yB 0 = .ok (.aload_n 0, 1) := by decide +kernel
theorem d1 : decode yB 1 = .ok (.arraylength, 1) := by decide +kernel
theorem d2 : decode yB 2 = .ok (.aload_n 1, 1) := by decide +kernel
theorem d3 : decode yB 3 = .ok (.arraylength, 1) := by decide +kernel
theorem d4 : decode yB 4 = .ok (.if_icmp (.ne) 30, 3) := by decide +kernel
theorem d7 : decode yB 7 = .ok (.iconst 0, 1) := by decide +kernel
theorem d8 : decode yB 8 = .ok (.istore_n 2, 1) := by decide +kernel
theorem d9 : decode yB 9 = .ok (.iload_n 2, 1) := by decide +kernel
theorem d10 : decode yB 10 = .ok (.aload_n 0, 1) := by decide +kernel
theorem d11 : decode yB 11 = .ok (.arraylength, 1) := by decide +kernel
theorem d12 : decode yB 12 = .ok (.if_icmp (.ge) 20, 3) := by decide +kernel
theorem d15 : decode yB 15 = .ok (.aload_n 0, 1) := by decide +kernel
theorem d16 : decode yB 16 = .ok (.iload_n 2, 1) := by decide +kernel
theorem d17 : decode yB 17 = .ok (.baload, 1) := by decide +kernel
theorem d18 : decode yB 18 = .ok (.aload_n 1, 1) := by decide +kernel
theorem d19 : decode yB 19 = .ok (.iload_n 2, 1) := by decide +kernel
theorem d20 : decode yB 20 = .ok (.baload, 1) := by decide +kernel
theorem d21 : decode yB 21 = .ok (.if_icmp (.eq) 5, 3) := by decide +kernel
theorem d24 : decode yB 24 = .ok (.iconst 0, 1) := by decide +kernel
theorem d25 : decode yB 25 = .ok (.ireturn, 1) := by decide +kernel
theorem d26 : decode yB 26 = .ok (.iinc 2 1, 3) := by decide +kernel
theorem d29 : decode yB 29 = .ok (.goto (-20), 3) := by decide +kernel
theorem d32 : decode yB 32 = .ok (.iconst 1, 1) := by decide +kernel
theorem d33 : decode yB 33 = .ok (.ireturn, 1) := by decide +kernel
theorem d34 : decode yB 34 = .ok (.iconst 0, 1) := by decide +kernel
theorem d35 : decode yB 35 = .ok (.ireturn, 1) := by decide +kernel
def site : List Cond := []
def tab : Cond := tabOf yN yB 3 (some .boolean) site
def P (a : Addr) (A : Cell) (b : Addr) (B : Cell) (args : Array Value) (s : State) : Prop := args = #[.ref a, .ref b] ∧ XT.Arr .byte a A s ∧ Typed .byte A ∧ XT.Arr .byte b B s ∧ Typed .byte B
/-- whether two byte[] are equal, place for place -/
theorem law (l : Launch) (a : Addr) (A : Cell) (b : Addr) (B : Cell) : Law l yN 2 2 0 0 yB 3 (some .boolean) site (P a A b B) (Says01 (EqC A B)) [] 0 0 := by
  refine Law.of_walk (plainFor_of_name (by decide +kernel)) (by decide +kernel) (by decide +kernel) (by decide) (fun _ _ h => by rw [h.1]; rfl) (fun _ U U' hal hh h => ⟨h.1, h.2.1.mv hal hh, h.2.2.1, h.2.2.2.1.mv hal hh, h.2.2.2.2⟩) (fun r U U' V V' h1 hal h2 h => Says01.mv r U U' V V' h1 hal h2 h) ?_
  intro p e s m args below meth c s₁ X0 hexec hbytes hml hret hlk hnm hown hh0 W hP
  obtain ⟨rfl, hA, tA, hB, tB⟩ := hP
  have a31 := hA.2.2.2
  have b31 := hB.2.2.2
  have hA0 := hA.mv X0.warmed.alike hh0
  have hB0 := hB.mv X0.warmed.alike hh0
  have c1 : Steps p.tables e below (s₁.setTop (entryFrame m #[.ref a, .ref b] 3)) (s₁.setTop (mkF m 0 #[.val (.ref a), .val (.ref b), .unset] [])) := entry rfl
  have c2 : Steps p.tables e below (s₁.setTop (entryFrame m #[.ref a, .ref b] 3)) (s₁.setTop (mkF m 4 #[.val (.ref a), .val (.ref b), .unset] [.int (Int32.ofNat B.slots.size), .int (Int32.ofNat A.slots.size)])) := c1.trans (by
    refine XS.aloadN X0.here hexec rfl (hb hbytes d0) rfl rfl ?_
    refine X0.alen hexec hA0 rfl rfl (hb hbytes d1) ?_
    refine XS.aloadN X0.here hexec rfl (hb hbytes d2) rfl rfl ?_
    refine X0.alen hexec hB0 rfl rfl (hb hbytes d3) ?_
    exact Steps.refl _)
  by_cases hs : A.slots.size = B.slots.size
  · have c3 : Steps p.tables e below (s₁.setTop (entryFrame m #[.ref a, .ref b] 3)) (s₁.setTop (mkF m 9 #[.val (.ref a), .val (.ref b), .val (.int 0)] [])) := c2.trans (by
      refine XS.icmpNo X0.here hexec rfl (hb hbytes d4) rfl (ii_ne_f (by rw [hs])) ?_
      refine iconstV X0.here hexec rfl 0 (hb hbytes d7) (by decide) ?_
      refine XS.istoreN X0.here hexec rfl (hb hbytes d8) rfl rfl ?_
      exact Steps.refl _)
    have loop : ∀ (r i : Nat), i + r = A.slots.size → (∀ j, j < i → yv A j = yv B j) → Steps p.tables e below (s₁.setTop (entryFrame m #[.ref a, .ref b] 3)) (s₁.setTop (mkF m 9 #[.val (.ref a), .val (.ref b), .val (.int (Int32.ofNat i))] [])) → ∃ (pc : Nat) (Ls : Array Slot) (v : Int32), (pc = 25 ∨ pc = 33) ∧ ((v = 1 ∧ EqC A B) ∨ (v = 0 ∧ ¬ EqC A B)) ∧ Steps p.tables e below (s₁.setTop (entryFrame m #[.ref a, .ref b] 3)) (s₁.setTop (mkF m pc Ls [.int v])) := by
      intro r
      induction r with
      | zero =>
        intro i hi he cl
        exact ⟨33, _, 1, Or.inr rfl, Or.inl ⟨rfl, hs, fun j hj => he j (by omega)⟩, cl.trans (by
          refine XS.iloadN X0.here hexec rfl (hb hbytes d9) rfl ?_
          refine XS.aloadN X0.here hexec rfl (hb hbytes d10) rfl rfl ?_
          refine X0.alen hexec hA0 rfl rfl (hb hbytes d11) ?_
          refine XS.icmpYes X0.here hexec rfl (pc0 := 12) rfl (hb hbytes d12) rfl (ii_ge_t (nlt32 (by omega) (by omega))) (by decide) rfl ?_
          refine iconstV X0.here hexec rfl 1 (hb hbytes d32) (by decide) ?_
          exact Steps.refl _)⟩
      | succ r ih =>
        intro i hi he cl
        have c4 : Steps p.tables e below (s₁.setTop (entryFrame m #[.ref a, .ref b] 3)) (s₁.setTop (mkF m 21 #[.val (.ref a), .val (.ref b), .val (.int (Int32.ofNat i))] [.int (yv B i), .int (yv A i)])) := cl.trans (by
          refine XS.iloadN X0.here hexec rfl (hb hbytes d9) rfl ?_
          refine XS.aloadN X0.here hexec rfl (hb hbytes d10) rfl rfl ?_
          refine X0.alen hexec hA0 rfl rfl (hb hbytes d11) ?_
          refine XS.icmpNo X0.here hexec rfl (hb hbytes d12) rfl (ii_ge_f (lt32 (by omega) (by omega))) ?_
          refine XS.aloadN X0.here hexec rfl (hb hbytes d15) rfl rfl ?_
          refine XS.iloadN X0.here hexec rfl (hb hbytes d16) rfl ?_
          refine X0.aget hexec hA0 rfl (yv_get hA tA (i := i) (by omega)) rfl rfl (hb hbytes d17) ?_
          refine XS.aloadN X0.here hexec rfl (hb hbytes d18) rfl rfl ?_
          refine XS.iloadN X0.here hexec rfl (hb hbytes d19) rfl ?_
          refine X0.aget hexec hB0 rfl (yv_get hB tB (i := i) (by omega)) rfl rfl (hb hbytes d20) ?_
          exact Steps.refl _)
        by_cases hv : yv A i = yv B i
        · have c5 : Steps p.tables e below (s₁.setTop (entryFrame m #[.ref a, .ref b] 3)) (s₁.setTop (mkF m 9 #[.val (.ref a), .val (.ref b), .val (.int (Int32.ofNat i + 1))] [])) := c4.trans (by
            refine XS.icmpYes X0.here hexec rfl (pc0 := 21) rfl (hb hbytes d21) rfl (ii_eq_t hv) (by decide) rfl ?_
            refine iincV X0.here hexec rfl 1 (hb hbytes d26) (by decide) rfl rfl ?_
            refine XS.goto X0.here hexec rfl (pc0 := 29) rfl (hb hbytes d29) (by decide) rfl ?_
            exact Steps.refl _)
          rw [succ32] at c5
          exact ih (i + 1) (by omega) (fun j hj => by
            by_cases e : j = i
            · rw [e]; exact hv
            · exact he j (by omega)) c5
        · exact ⟨25, _, 0, Or.inl rfl, Or.inr ⟨rfl, fun q => hv (q.2 i (by omega))⟩, c4.trans (by
            refine XS.icmpNo X0.here hexec rfl (hb hbytes d21) rfl (ii_eq_f hv) ?_
            refine iconstV X0.here hexec rfl 0 (hb hbytes d24) (by decide) ?_
            exact Steps.refl _)⟩
    obtain ⟨pc, Ls, v, hpc, hv, cz⟩ := loop A.slots.size 0 (by omega) (fun j hj => absurd hj (Nat.not_lt_zero j)) c3
    have nv : narrow .boolean (.int v) = .int v := by rcases hv with ⟨rfl, -⟩ | ⟨rfl, -⟩ <;> rfl
    rcases hpc with rfl | rfl
    · exact ⟨s₁, some (.int v), _, _, _, X0, rfl, rfl, rfl, (fun h => by cases h), ⟨v, rfl, hh0, hv⟩, fun fs hl => cz.trans (X0.ireturnOut hexec hret nv (Or.inr (Or.inl rfl)) (hb hbytes d25) hl)⟩
    · exact ⟨s₁, some (.int v), _, _, _, X0, rfl, rfl, rfl, (fun h => by cases h), ⟨v, rfl, hh0, hv⟩, fun fs hl => cz.trans (X0.ireturnOut hexec hret nv (Or.inr (Or.inl rfl)) (hb hbytes d33) hl)⟩
  · have c3 : Steps p.tables e below (s₁.setTop (entryFrame m #[.ref a, .ref b] 3)) (s₁.setTop (mkF m 35 #[.val (.ref a), .val (.ref b), .unset] [.int 0])) := c2.trans (by
      refine XS.icmpYes X0.here hexec rfl (pc0 := 4) rfl (hb hbytes d4) rfl (ii_ne_t (ne32 a31 b31 hs)) (by decide) rfl ?_
      refine iconstV X0.here hexec rfl 0 (hb hbytes d34) (by decide) ?_
      exact Steps.refl _)
    exact ⟨s₁, some (.int 0), _, _, _, X0, rfl, rfl, rfl, (fun h => by cases h), ⟨0, rfl, hh0, Or.inr ⟨rfl, fun q => hs q.1⟩⟩, fun fs hl => c3.trans (X0.ireturnOut hexec hret rfl (Or.inr (Or.inl rfl)) (hb hbytes d35) hl)⟩
end LEq
theorem Cod.ty {cd : Int32} {n : Nat} {f : Nat → Int32} {V : Cell} (h : Cod cd n f V) : Typed .byte V := fun i v hv => by
  have hi : i < V.slots.size := (Array.getElem?_eq_some_iff.mp hv).1
  rcases h with ⟨-, k1, k2⟩ | ⟨-, k1, k2, -⟩
  · rw [(k2 i (by omega)).1] at hv; cases hv; exact fits_lo8 _
  · rcases Nat.mod_two_eq_zero_or_one i with e | e
    · obtain ⟨j, rfl⟩ : ∃ j, i = 2 * j := ⟨i / 2, by omega⟩
      rw [(k2 j (by omega)).1] at hv; cases hv; exact fits_lo8 _
    · obtain ⟨j, rfl⟩ : ∃ j, i = 2 * j + 1 := ⟨i / 2, by omega⟩
      rw [(k2 j (by omega)).2] at hv; cases hv; exact fits_lo8 _
/-- the same text -/
def SameT (n : Nat) (f : Nat → Int32) (k : Nat) (g : Nat → Int32) : Prop := n = k ∧ ∀ j, j < n → f j = g j
theorem lo8_inj {x y : Int32} (h0 : ¬ x < 0) (h1 : ¬ 255 < x) (k0 : ¬ y < 0) (k1 : ¬ 255 < y) (h : lo8 x = lo8 y) : x = y := by
  rw [← lo8_mask h0 h1, ← lo8_mask k0 k1, h]
/-- arrays coded by one coder are equal just where the texts are -/
theorem Cod.eqv {cd : Int32} {n k : Nat} {f g : Nat → Int32} {V V' : Cell} (h : Cod cd n f V) (h' : Cod cd k g V') (hf : ∀ j, j < n → ¬ f j < 0 ∧ ¬ 65535 < f j) (hg : ∀ j, j < k → ¬ g j < 0 ∧ ¬ 65535 < g j) : EqC V V' ↔ SameT n f k g := by
  have yvv : ∀ {W : Cell} {i : Nat} {x : Int32}, W.slots[i]? = some (.int x) → yv W i = x := fun q => by unfold yv; rw [q]
  rcases h with ⟨rfl, k1, k2⟩ | ⟨rfl, k1, k2, -⟩
  · rcases h' with ⟨-, m1, m2⟩ | ⟨e, -⟩
    · constructor
      · rintro ⟨e1, e2⟩
        refine ⟨by omega, fun j hj => ?_⟩
        have q := e2 j (by omega)
        rw [yvv (k2 j hj).1, yvv (m2 j (by omega)).1] at q
        exact lo8_inj (hf j hj).1 (k2 j hj).2 (hg j (by omega)).1 (m2 j (by omega)).2 q
      · rintro ⟨rfl, e2⟩
        refine ⟨by omega, fun j hj => ?_⟩
        rw [yvv (k2 j (by omega)).1, yvv (m2 j (by omega)).1, e2 j (by omega)]
    · exact absurd e (by decide)
  · rcases h' with ⟨e, -⟩ | ⟨-, m1, m2, -⟩
    · exact absurd e (by decide)
    · constructor
      · rintro ⟨e1, e2⟩
        refine ⟨by omega, fun j hj => ?_⟩
        have q1 := e2 (2 * j) (by omega)
        have q2 := e2 (2 * j + 1) (by omega)
        rw [yvv (k2 j hj).1, yvv (m2 j (by omega)).1] at q1
        rw [yvv (k2 j hj).2, yvv (m2 j (by omega)).2] at q2
        rw [← pair_says (hf j hj).1 (hf j hj).2, ← pair_says (hg j (by omega)).1 (hg j (by omega)).2, q1, q2]
      · rintro ⟨rfl, e2⟩
        refine ⟨by omega, fun i hi => ?_⟩
        rcases Nat.mod_two_eq_zero_or_one i with e | e
        · obtain ⟨j, rfl⟩ : ∃ j, i = 2 * j := ⟨i / 2, by omega⟩
          rw [yvv (k2 j (by omega)).1, yvv (m2 j (by omega)).1, e2 j (by omega)]
        · obtain ⟨j, rfl⟩ : ∃ j, i = 2 * j + 1 := ⟨i / 2, by omega⟩
          rw [yvv (k2 j (by omega)).2, yvv (m2 j (by omega)).2, e2 j (by omega)]
/-- two codings differ: so do the texts -/
theorem Cod.dif {cd cd' : Int32} {n k : Nat} {f g : Nat → Int32} {V V' : Cell} (h : Cod cd n f V) (h' : Cod cd' k g V') (hne : ¬ cd = cd') : ¬ SameT n f k g := by
  rintro ⟨rfl, e⟩
  rcases h with ⟨rfl, -, k2⟩ | ⟨rfl, -, -, j, hj, hw⟩
  · rcases h' with ⟨rfl, -⟩ | ⟨-, -, -, j, hj, hw⟩
    · exact hne rfl
    · exact (k2 j hj).2 (by rw [e j hj]; exact hw)
  · rcases h' with ⟨-, -, m2⟩ | ⟨rfl, -⟩
    · exact (m2 j hj).2 (by rw [← e j hj]; exact hw)
    · exact hne rfl
/-- an object of exactly C is an instance of C -/
theorem cinst {p : Program} {l : Launch} {e : Env} {R : Room} {s : State} {m : MethodId} {args : Array Value} {below : List Frame} {meth : Method} {c : Code} {T : State} {locs : List Loc} {cells slots : Nat} (X : Stand p l e R s m args below meth c T locs cells slots) (hexec : p.tables.exec = Jvm.exec) {own C : String} {index : Nat} (hown : s.vm.findClass own = some m.cls) (hlink : (Cond.classLink own index C).before args s = true) {a : Addr} (hE : Exact C a T)
    {g : JFrame} (hg : g.method = m) {rest : List Value} (hstack : g.stack = .ref a :: rest) (hdg : decode c.code g.pc = .ok (.instanceof index, 3)) :
    ∃ T', Stand p l e R s m args below meth c T' locs cells slots ∧ T'.heap = T.heap ∧ ∀ target, Steps p.tables e below (T'.setTop { g with pc := g.pc + 3, stack := .int 1 :: rest }) target → Steps p.tables e below (T.setTop g) target := by
  obtain ⟨cB, h1, D, h2, h3, h4⟩ := hE
  have h1' : s.vm.findClass C = some cB := by rw [← X.warmed.alike.findClass]; exact h1
  obtain ⟨vm', X', st⟩ := X.instanceofYes hexec hown hlink h2 h4 h1' (by rw [h3]; exact Jvm.Free.SB.assignable_self _ _) hg hstack hdg
  exact ⟨_, X', rfl, st⟩
theorem cself {p : Program} {l : Launch} {e : Env} {R : Room} {s : State} {m : MethodId} {args : Array Value} {below : List Frame} {meth : Method} {c : Code} {T : State} {locs : List Loc} {cells slots : Nat} (X : Stand p l e R s m args below meth c T locs cells slots) (hexec : p.tables.exec = Jvm.exec) {own C : String} {index : Nat} (hown : s.vm.findClass own = some m.cls) (hlink : (Cond.classLink own index C).before args s = true) {a : Addr} (hE : Exact C a T)
    {g : JFrame} (hg : g.method = m) {rest : List Value} (hstack : g.stack = .ref a :: rest) (hdg : decode c.code g.pc = .ok (.checkcast index, 3)) :
    ∃ T', Stand p l e R s m args below meth c T' locs cells slots ∧ T'.heap = T.heap ∧ ∀ target, Steps p.tables e below (T'.setTop { g with pc := g.pc + 3, stack := .ref a :: rest }) target → Steps p.tables e below (T.setTop g) target := by
  obtain ⟨cB, h1, D, h2, h3, h4⟩ := hE
  have h1' : s.vm.findClass C = some cB := by rw [← X.warmed.alike.findClass]; exact h1
  obtain ⟨vm', X', st⟩ := X.checkcastYes hexec hown hlink h2 h4 h1' (by rw [h3]; exact Jvm.Free.SB.assignable_self _ _) hg hstack hdg
  exact ⟨_, X', rfl, fun t h => st t (by rw [← hstack] at h; exact h)⟩
namespace SEq
def yN : MethodName := ⟨"java/lang/String", "equals", "(Ljava/lang/Object;)Z"⟩
abbrev yB : ByteArray := jdk_42_method_66_code
theorem d0 : decode yB 0 = .ok (.aload_n 0, 1) := by decide +kernel
theorem d1 : decode yB 1 = .ok (.aload_n 1, 1) := by decide +kernel
theorem d2 : decode yB 2 = .ok (.if_acmp (.ne) 5, 3) := by decide +kernel
theorem d5 : decode yB 5 = .ok (.iconst 1, 1) := by decide +kernel
theorem d6 : decode yB 6 = .ok (.ireturn, 1) := by decide +kernel
theorem d7 : decode yB 7 = .ok (.aload_n 1, 1) := by decide +kernel
theorem d8 : decode yB 8 = .ok (.instanceof 10, 3) := by decide +kernel
theorem d11 : decode yB 11 = .ok (.ifCond (.eq) 43, 3) := by decide +kernel
theorem d14 : decode yB 14 = .ok (.aload_n 1, 1) := by decide +kernel
theorem d15 : decode yB 15 = .ok (.checkcast 10, 3) := by decide +kernel
theorem d18 : decode yB 18 = .ok (.astore_n 2, 1) := by decide +kernel
theorem d19 : decode yB 19 = .ok (.getstatic 38, 3) := by decide +kernel
theorem d22 : decode yB 22 = .ok (.ifCond (.eq) 14, 3) := by decide +kernel
theorem d25 : decode yB 25 = .ok (.aload_n 0, 1) := by decide +kernel
theorem d26 : decode yB 26 = .ok (.getfield 15, 3) := by decide +kernel
theorem d29 : decode yB 29 = .ok (.aload_n 2, 1) := by decide +kernel
theorem d30 : decode yB 30 = .ok (.getfield 15, 3) := by decide +kernel
theorem d33 : decode yB 33 = .ok (.if_icmp (.ne) 21, 3) := by decide +kernel
theorem d36 : decode yB 36 = .ok (.aload_n 0, 1) := by decide +kernel
theorem d37 : decode yB 37 = .ok (.getfield 9, 3) := by decide +kernel
theorem d40 : decode yB 40 = .ok (.aload_n 2, 1) := by decide +kernel
theorem d41 : decode yB 41 = .ok (.getfield 9, 3) := by decide +kernel
theorem d44 : decode yB 44 = .ok (.invokestatic 541, 3) := by decide +kernel
theorem d47 : decode yB 47 = .ok (.ifCond (.eq) 7, 3) := by decide +kernel
theorem d50 : decode yB 50 = .ok (.iconst 1, 1) := by decide +kernel
theorem d51 : decode yB 51 = .ok (.goto 4, 3) := by decide +kernel
theorem d54 : decode yB 54 = .ok (.iconst 0, 1) := by decide +kernel
theorem d55 : decode yB 55 = .ok (.ireturn, 1) := by decide +kernel
def site : List Cond := [.classLink "java/lang/String" 10 "java/lang/String", .fieldLink "java/lang/String" 38 "java/lang/String" "COMPACT_STRINGS" "Z", .fieldLink "java/lang/String" 15 "java/lang/String" "coder" "B", .fieldLink "java/lang/String" 9 "java/lang/String" "value" "[B", LEq.tab] ++ staticW "java/lang/String" 541 LEq.yN
def tab : Cond := tabOf yN yB 3 (some .boolean) site
def P (x t : Addr) (V : Cell) (cd : Int32) (n : Nat) (f : Nat → Int32) (y t' : Addr) (V' : Cell) (cd' : Int32) (k : Nat) (g : Nat → Int32) (z : Int32) (args : Array Value) (s : State) : Prop := args = #[.ref x, .ref y] ∧ Txt x t V cd n f s ∧ Txt y t' V' cd' k g s ∧ StaticIs s "java/lang/String" "COMPACT_STRINGS" "Z" (.int z) ∧ ¬ z = 0
/-- equals(Object) of two Strings: whether the texts are the same -/
theorem law (l : Launch) (x t : Addr) (V : Cell) (cd : Int32) (n : Nat) (f : Nat → Int32) (y t' : Addr) (V' : Cell) (cd' : Int32) (k : Nat) (g : Nat → Int32) (z : Int32) : Law l yN 2 1 1 14 yB 3 (some .boolean) site (P x t V cd n f y t' V' cd' k g z) (Says01 (SameT n f k g)) [] 0 0 := by
  refine Law.of_walk (plainFor_of_name (by decide +kernel)) (by decide +kernel) (by decide +kernel) (by decide) (fun _ _ h => by rw [h.1]; rfl) (fun _ U U' hal hh h => ⟨h.1, h.2.1.mv hal hh, h.2.2.1.mv hal hh, h.2.2.2.1.there hal hh, h.2.2.2.2⟩) (fun r U U' V V' h1 hal h2 h => Says01.mv r U U' V V' h1 hal h2 h) ?_
  intro p e s m args below meth c s₁ X0 hexec hbytes hml hret hlk hnm hown hh0 W hP
  obtain ⟨rfl, hx, hy, s1, hz⟩ := hP
  have c1 : Steps p.tables e below (s₁.setTop (entryFrame m #[.ref x, .ref y] 3)) (s₁.setTop (mkF m 2 #[.val (.ref x), .val (.ref y), .unset] [.ref y, .ref x])) := Steps.trans (entry rfl) (by
    show Steps p.tables e below (s₁.setTop (mkF m 0 #[.val (.ref x), .val (.ref y), .unset] [])) _
    refine XS.aloadN X0.here hexec rfl (hb hbytes d0) rfl rfl ?_
    refine XS.aloadN X0.here hexec rfl (hb hbytes d1) rfl rfl ?_
    exact Steps.refl _)
  by_cases hxy : x = y
  · have c2 : Steps p.tables e below (s₁.setTop (entryFrame m #[.ref x, .ref y] 3)) (s₁.setTop (mkF m 6 #[.val (.ref x), .val (.ref y), .unset] [.int 1])) := c1.trans (by
      refine acmpNo X0.here hexec rfl (hb hbytes d2) rfl rfl rfl (by simp [acmp, hxy]) ?_
      refine iconstV X0.here hexec rfl 1 (hb hbytes d5) (by decide) ?_
      exact Steps.refl _)
    subst hxy
    have ec : cd = cd' := by
      obtain ⟨D, fd, a1, a2, a3⟩ := hx.2.2.1
      obtain ⟨D', fd', b1, b2, b3⟩ := hy.2.2.1
      cases a1.symm.trans b1
      obtain ⟨q1, q2, q3, q4⟩ := a2.1
      obtain ⟨r1, r2, r3, r4⟩ := b2.1
      cases q4.symm.trans r4
      cases a3.symm.trans b3; rfl
    have et : t = t' := by
      obtain ⟨D, fd, a1, a2, a3⟩ := hx.2.1
      obtain ⟨D', fd', b1, b2, b3⟩ := hy.2.1
      cases a1.symm.trans b1
      obtain ⟨q1, q2, q3, q4⟩ := a2.1
      obtain ⟨r1, r2, r3, r4⟩ := b2.1
      cases q4.symm.trans r4
      cases a3.symm.trans b3; rfl
    subst ec et
    have ev : V = V' := by cases hx.2.2.2.1.1.symm.trans hy.2.2.2.1.1; rfl
    subst ev
    have hs : SameT n f k g := (Cod.eqv hx.2.2.2.2.1 hy.2.2.2.2.1 hx.2.2.2.2.2 hy.2.2.2.2.2).mp ⟨rfl, fun _ _ => rfl⟩
    exact ⟨s₁, some (.int 1), _, _, _, X0, rfl, rfl, rfl, (fun h => by cases h), ⟨1, rfl, hh0, Or.inl ⟨rfl, hs⟩⟩, fun fs hl => c2.trans (X0.ireturnOut hexec hret rfl (Or.inr (Or.inl rfl)) (hb hbytes d6) hl)⟩
  · have c2 : Steps p.tables e below (s₁.setTop (entryFrame m #[.ref x, .ref y] 3)) (s₁.setTop (mkF m 8 #[.val (.ref x), .val (.ref y), .unset] [.ref y])) := c1.trans (by
      refine acmpYes X0.here hexec rfl (pc0 := 2) rfl (hb hbytes d2) rfl rfl rfl (by simp [acmp, hxy]) (by decide) rfl ?_
      refine XS.aloadN X0.here hexec rfl (hb hbytes d7) rfl rfl ?_
      exact Steps.refl _)
    obtain ⟨T3, X3, q3, st3⟩ := cinst X0 hexec hown (wk W (.classLink "java/lang/String" 10 "java/lang/String")) (hy.mv X0.warmed.alike hh0).1 (g := (mkF m 8 #[.val (.ref x), .val (.ref y), .unset] [.ref y])) rfl (rest := []) rfl (hb hbytes d8)
    have hh3 := q3.trans hh0
    have c4 : Steps p.tables e below (s₁.setTop (entryFrame m #[.ref x, .ref y] 3)) (T3.setTop (mkF m 15 #[.val (.ref x), .val (.ref y), .unset] [.ref y])) := (c2.trans (st3 _ (Steps.refl _))).trans (by
      refine XS.ifNo X3.here hexec rfl (hb hbytes d11) rfl (i0_eq_f (by decide)) ?_
      refine XS.aloadN X3.here hexec rfl (hb hbytes d14) rfl rfl ?_
      exact Steps.refl _)
    obtain ⟨T5, X5, q5, st5⟩ := cself X3 hexec hown (wk W (.classLink "java/lang/String" 10 "java/lang/String")) (hy.mv X3.warmed.alike hh3).1 (g := (mkF m 15 #[.val (.ref x), .val (.ref y), .unset] [.ref y])) rfl (rest := []) rfl (hb hbytes d15)
    have hh5 := q5.trans hh3
    have c6 : Steps p.tables e below (s₁.setTop (entryFrame m #[.ref x, .ref y] 3)) (T5.setTop (mkF m 19 #[.val (.ref x), .val (.ref y), .val (.ref y)] [])) := (c4.trans (st5 _ (Steps.refl _))).trans (by
      refine XS.astoreN X5.here hexec rfl (hb hbytes d18) rfl rfl rfl ?_
      exact Steps.refl _)
    obtain ⟨T7, X7, q7, st7⟩ := X5.sget hexec hown (wk W (.fieldLink "java/lang/String" 38 "java/lang/String" "COMPACT_STRINGS" "Z")) s1 (fun _ _ h => by rw [hh5]; exact h) (g := (mkF m 19 #[.val (.ref x), .val (.ref y), .val (.ref y)] [])) rfl (hb hbytes d19)
    have hh7 := q7.trans hh5
    have c8 : Steps p.tables e below (s₁.setTop (entryFrame m #[.ref x, .ref y] 3)) (T7.setTop (mkF m 26 #[.val (.ref x), .val (.ref y), .val (.ref y)] [.ref x])) := (c6.trans (st7 _ (Steps.refl _))).trans (by
      refine XS.ifNo X7.here hexec rfl (hb hbytes d22) rfl (i0_eq_f hz) ?_
      refine XS.aloadN X7.here hexec rfl (hb hbytes d25) rfl rfl ?_
      exact Steps.refl _)
    obtain ⟨T9, X9, q9, st9⟩ := X7.hget hexec hown (wk W (.fieldLink "java/lang/String" 15 "java/lang/String" "coder" "B")) (hx.mv X7.warmed.alike hh7).2.2.1 (g := (mkF m 26 #[.val (.ref x), .val (.ref y), .val (.ref y)] [.ref x])) rfl (rest := []) rfl (hb hbytes d26)
    have hh9 := q9.trans hh7
    have c10 : Steps p.tables e below (s₁.setTop (entryFrame m #[.ref x, .ref y] 3)) (T9.setTop (mkF m 30 #[.val (.ref x), .val (.ref y), .val (.ref y)] [.ref y, .int cd])) := (c8.trans (st9 _ (Steps.refl _))).trans (by
      refine XS.aloadN X9.here hexec rfl (hb hbytes d29) rfl rfl ?_
      exact Steps.refl _)
    obtain ⟨T11, X11, q11, st11⟩ := X9.hget hexec hown (wk W (.fieldLink "java/lang/String" 15 "java/lang/String" "coder" "B")) (hy.mv X9.warmed.alike hh9).2.2.1 (g := (mkF m 30 #[.val (.ref x), .val (.ref y), .val (.ref y)] [.ref y, .int cd])) rfl (rest := [.int cd]) rfl (hb hbytes d30)
    have hh11 := q11.trans hh9
    have c12 : Steps p.tables e below (s₁.setTop (entryFrame m #[.ref x, .ref y] 3)) (T11.setTop (mkF m 33 #[.val (.ref x), .val (.ref y), .val (.ref y)] [.int cd', .int cd])) := c10.trans (st11 _ (Steps.refl _))
    by_cases hcd : cd = cd'
    · subst hcd
      have c13 : Steps p.tables e below (s₁.setTop (entryFrame m #[.ref x, .ref y] 3)) (T11.setTop (mkF m 37 #[.val (.ref x), .val (.ref y), .val (.ref y)] [.ref x])) := c12.trans (by
        refine XS.icmpNo X11.here hexec rfl (hb hbytes d33) rfl (ii_ne_f rfl) ?_
        refine XS.aloadN X11.here hexec rfl (hb hbytes d36) rfl rfl ?_
        exact Steps.refl _)
      obtain ⟨T14, X14, q14, st14⟩ := X11.hget hexec hown (wk W (.fieldLink "java/lang/String" 9 "java/lang/String" "value" "[B")) (hx.mv X11.warmed.alike hh11).2.1 (g := (mkF m 37 #[.val (.ref x), .val (.ref y), .val (.ref y)] [.ref x])) rfl (rest := []) rfl (hb hbytes d37)
      have hh14 := q14.trans hh11
      have c15 : Steps p.tables e below (s₁.setTop (entryFrame m #[.ref x, .ref y] 3)) (T14.setTop (mkF m 41 #[.val (.ref x), .val (.ref y), .val (.ref y)] [.ref y, .ref t])) := (c13.trans (st14 _ (Steps.refl _))).trans (by
        refine XS.aloadN X14.here hexec rfl (hb hbytes d40) rfl rfl ?_
        exact Steps.refl _)
      obtain ⟨T16, X16, q16, st16⟩ := X14.hget hexec hown (wk W (.fieldLink "java/lang/String" 9 "java/lang/String" "value" "[B")) (hy.mv X14.warmed.alike hh14).2.1 (g := (mkF m 41 #[.val (.ref x), .val (.ref y), .val (.ref y)] [.ref y, .ref t])) rfl (rest := [.ref t]) rfl (hb hbytes d41)
      have hh16 := q16.trans hh14
      have c17 : Steps p.tables e below (s₁.setTop (entryFrame m #[.ref x, .ref y] 3)) (T16.setTop (mkF m 44 #[.val (.ref x), .val (.ref y), .val (.ref y)] [.ref t', .ref t])) := c15.trans (st16 _ (Steps.refl _))
      obtain ⟨v18, T18, X18, E18, g18⟩ := X16.callS hexec (LEq.law l t V t' V') hown (wks W (staticW "java/lang/String" 541 LEq.yN)) (wk W LEq.tab) (W := 0) (Nat.le_of_ble_eq_true rfl) (Nat.le_of_ble_eq_true rfl) (Nat.le_refl _) (Nat.le_refl _) (g := (mkF m 44 #[.val (.ref x), .val (.ref y), .val (.ref y)] [.ref t', .ref t])) rfl (by rw [hml]; rfl) c17 (argsL := [.ref t, .ref t']) (rest := []) rfl rfl (by show 2 * 0 + 0 ≤ _; decide) (hb hbytes d44) (⟨rfl, hx.2.2.2.1.mv X16.warmed.alike hh16, hx.2.2.2.2.1.ty, hy.2.2.2.1.mv X16.warmed.alike hh16, hy.2.2.2.2.1.ty⟩)
      obtain ⟨v, rfl, q18, hv⟩ := E18
      have iff := Cod.eqv hx.2.2.2.2.1 hy.2.2.2.2.1 hx.2.2.2.2.2 hy.2.2.2.2.2
      rcases hv with ⟨rfl, he⟩ | ⟨rfl, he⟩
      · have c19 : Steps p.tables e below (s₁.setTop (entryFrame m #[.ref x, .ref y] 3)) (T18.setTop (mkF m 55 #[.val (.ref x), .val (.ref y), .val (.ref y)] [.int 1])) := Steps.trans g18 (by
          refine XS.ifNo X18.here hexec rfl (hb hbytes d47) rfl (i0_eq_f (by decide)) ?_
          refine iconstV X18.here hexec rfl 1 (hb hbytes d50) (by decide) ?_
          refine XS.goto X18.here hexec rfl (pc0 := 51) rfl (hb hbytes d51) (by decide) rfl ?_
          exact Steps.refl _)
        exact ⟨T18, some (.int 1), _, _, _, X18, rfl, rfl, rfl, (fun h => by cases h), ⟨1, rfl, q18.trans hh16, Or.inl ⟨rfl, iff.mp he⟩⟩, fun fs hl => c19.trans (X18.ireturnOut hexec hret rfl (Or.inr (Or.inl rfl)) (hb hbytes d55) hl)⟩
      · have c19 : Steps p.tables e below (s₁.setTop (entryFrame m #[.ref x, .ref y] 3)) (T18.setTop (mkF m 55 #[.val (.ref x), .val (.ref y), .val (.ref y)] [.int 0])) := Steps.trans g18 (by
          refine XS.ifYes X18.here hexec rfl (pc0 := 47) rfl (hb hbytes d47) rfl (i0_eq_t rfl) (by decide) rfl ?_
          refine iconstV X18.here hexec rfl 0 (hb hbytes d54) (by decide) ?_
          exact Steps.refl _)
        exact ⟨T18, some (.int 0), _, _, _, X18, rfl, rfl, rfl, (fun h => by cases h), ⟨0, rfl, q18.trans hh16, Or.inr ⟨rfl, fun q => he (iff.mpr q)⟩⟩, fun fs hl => c19.trans (X18.ireturnOut hexec hret rfl (Or.inr (Or.inl rfl)) (hb hbytes d55) hl)⟩
    · have c13 : Steps p.tables e below (s₁.setTop (entryFrame m #[.ref x, .ref y] 3)) (T11.setTop (mkF m 55 #[.val (.ref x), .val (.ref y), .val (.ref y)] [.int 0])) := c12.trans (by
        refine XS.icmpYes X11.here hexec rfl (pc0 := 33) rfl (hb hbytes d33) rfl (ii_ne_t hcd) (by decide) rfl ?_
        refine iconstV X11.here hexec rfl 0 (hb hbytes d54) (by decide) ?_
        exact Steps.refl _)
      exact ⟨T11, some (.int 0), _, _, _, X11, rfl, rfl, rfl, (fun h => by cases h), ⟨0, rfl, hh11, Or.inr ⟨rfl, Cod.dif hx.2.2.2.2.1 hy.2.2.2.2.1 hcd⟩⟩, fun fs hl => c13.trans (X11.ireturnOut hexec hret rfl (Or.inr (Or.inl rfl)) (hb hbytes d55) hl)⟩
theorem pays {l : Launch} {R : Room} {p : Program} {e : Env} {below : List Frame} {s : State} {sargs : Array Value} {len W : Nat} (x t : Addr) (V : Cell) (cd : Int32) (n : Nat) (f : Nat → Int32) (y t' : Addr) (V' : Cell) (cd' : Int32) (k : Nat) (g : Nat → Int32) (z : Int32) (htab : tab.before sargs s = true) (hfr : 2 ≤ R.frames) (hlo : W + 28 ≤ R.locals) :
    Back l R p e below s sargs yN len W (fun A₁ a₁ => A₁.cells + 0 ≤ R.cells ∧ A₁.slots + 0 ≤ R.slots ∧ P x t V cd n f y t' V' cd' k g z a₁ A₁.U) (fun A₁ _ v₁ B₁ => Says01 (SameT n f k g) v₁ A₁.U B₁.U ∧ B₁.locs = A₁.locs ++ [] ∧ B₁.cells = A₁.cells + 0 ∧ B₁.slots = A₁.slots + 0) :=
  (law l x t V cd n f y t' V' cd' k g z).pays htab hfr (by omega)
end SEq
end StrChars
namespace StrChars.Road
open Jvm Sem ClassFile Op Lib Jvm.Stand Jvm.Free Jvm.Free.XT
open Jvm.Lib.Cold (StaticIs)
/-- the words of String.equals(Object) -/
abbrev wordsEq : List Jvm.Cond := [.code SEq.yN SEq.yB 3 (some .boolean), .initialized ST, .classLink ST 10 ST, .fieldLink ST 38 ST "COMPACT_STRINGS" "Z", .fieldLink ST 15 ST "coder" "B", .fieldLink ST 9 ST "value" "[B", .methodLink ST 541 LEq.yN, .static LEq.yN, .code LEq.yN LEq.yB 3 (some .boolean), .initialized "java/lang/StringLatin1"]
theorem tabEq_of {a : Array Value} {s : State} (h : ∀ w ∈ wordsEq, w.before a s = true) : SEq.tab.before a s = true := by
  have hl : LEq.tab.before a s = true := unparts (wk h (.code LEq.yN LEq.yB 3 (some .boolean))) (wks h (.initialized LEq.yN.cls :: LEq.site))
  have q := consq hl h
  exact unparts (wk q (.code SEq.yN SEq.yB 3 (some .boolean))) (wks q (.initialized SEq.yN.cls :: SEq.site))
theorem movedEq {Z s : State} {a0 args : Array Value} (hZ : Z.Warmed39 s.vm) (hw : ∀ d ∈ wordsEq, d.before a0 Z = true) : ∀ d ∈ wordsEq, d.before args s = true := fun d hd => by
  have t : ∀ d ∈ wordsEq, (d.onTables && d.keepsFace) = true := by decide +kernel
  exact RoadKit.mv hZ (hw d hd) (t d hd)
/-- the road's facts of a String, as the laws ask it -/
theorem txt_of {Z U : State} {a0 : Array Value} {kI : Nat} (wi : (Jvm.Cond.instantiable ST kI).before a0 Z = true) (al : Z.vm.Alike U.vm) {x t : Addr} {kb : ClassId} {cs : List Int32} {cd N2 : Int32} {vs : List Value} (E : RoadKit.Exa Z U.heap x ST) (V : RoadKit.Fld Z U.heap x ST "value" "[B" (.ref t)) (C : RoadKit.Fld Z U.heap x ST "coder" "B" (.int cd)) (K : RoadKit.Arv Z U.heap t kb .byte N2 vs (.int 0)) (hc : CodA cs cd N2 vs) (hb : ∀ c ∈ cs, ¬ c < 0 ∧ ¬ (65535 : Int32) < c) (l2 : cs.length ≤ 4000) :
    ∃ A, Txt x t A cd cs.length (fun j => cs.getD j 0) U := by
  obtain ⟨A, K1, K2, K3, K4, K5, K6⟩ := K
  have hcod := hc.cod (by omega) K3 K5
  obtain ⟨D, fV, fC, hB, F1, F2, g1, g2, -, -⟩ := strObj wi al E V C
  exact ⟨A, ⟨_, hB.2.2.1, D, hB.1, rfl, by cases q : D.vm <;> first | rfl | exact absurd q (hB.2.1.2 _)⟩, Has.of hB F1 g1, Has.of hB F2 g2, ⟨K1.1, State.isArrayOf_alike al K1.2.1, K1.2.2, by rcases hcod with ⟨-, q, -⟩ | ⟨-, q, -⟩ <;> omega⟩, hcod, fun j hj => by
    have e : cs.getD j 0 = cs[j] := by simp [List.getD_eq_getElem?_getD, hj]
    show ¬ cs.getD j 0 < 0 ∧ ¬ 65535 < cs.getD j 0
    rw [e]; exact hb _ (List.getElem_mem _)⟩
theorem same_list (cs ds : List Int32) : SameT cs.length (fun j => cs.getD j 0) ds.length (fun j => ds.getD j 0) ↔ cs = ds := by
  constructor
  · rintro ⟨e, q⟩
    refine List.ext_getElem e fun j h1 h2 => ?_
    have := q j h1
    simpa [List.getD_eq_getElem?_getD, h1, h2] using this
  · rintro rfl
    exact ⟨rfl, fun _ _ => rfl⟩
/-- **equals(Object) OF TWO SUCH STRINGS**: 1 just where the chars are the same -/
theorem eqW {p : Program} {l : Launch} {e : Env} {R : Room} {s : State} {args : Array Value} {below : List Frame} {len W : Nat} {Z : State} {a0 : Array Value} {h : Heap} (hZ : Z.Warmed39 s.vm) (hw : ∀ d ∈ wordsEq, d.before a0 Z = true) {kI : Nat} (wi : (Jvm.Cond.instantiable ST kI).before a0 Z = true)
    {x t : Addr} {kb : ClassId} {cs : List Int32} {cd N2 : Int32} {vs : List Value} (E : RoadKit.Exa Z h x ST) (V : RoadKit.Fld Z h x ST "value" "[B" (.ref t)) (C : RoadKit.Fld Z h x ST "coder" "B" (.int cd)) (K : RoadKit.Arv Z h t kb .byte N2 vs (.int 0)) (hc : CodA cs cd N2 vs) (hb : ∀ c ∈ cs, ¬ c < 0 ∧ ¬ (65535 : Int32) < c) (l2 : cs.length ≤ 4000)
    {y t' : Addr} {kb' : ClassId} {ds : List Int32} {cd' N2' : Int32} {vs' : List Value} (E' : RoadKit.Exa Z h y ST) (V' : RoadKit.Fld Z h y ST "value" "[B" (.ref t')) (C' : RoadKit.Fld Z h y ST "coder" "B" (.int cd')) (K' : RoadKit.Arv Z h t' kb' .byte N2' vs' (.int 0)) (hc' : CodA ds cd' N2' vs') (hb' : ∀ c ∈ ds, ¬ c < 0 ∧ ¬ (65535 : Int32) < c) (l2' : ds.length ≤ 4000)
    {z : Int32} (S : RoadKit.Sta Z h ST "COMPACT_STRINGS" "Z" (.int z)) (hz : ¬ z = 0) (hfr : 2 ≤ R.frames) (hlo : W + 28 ≤ R.locals) :
    Back l R p e below s args (⟨"java/lang/String", "equals", "(Ljava/lang/Object;)Z"⟩ : MethodName) len W (fun P a => a = #[.ref x, .ref y] ∧ P.U.heap = h ∧ P.cells + 0 ≤ R.cells ∧ P.slots + 0 ≤ R.slots)
      (fun P _ v B => ∃ L, (((v = some (.int 1) ∧ cs = ds) ∨ (v = some (.int 0) ∧ ¬ cs = ds)) ∧ L = [] ∧ B.U.heap = h) ∧ B.locs = P.locs ++ L ∧ B.cells = P.cells + 0 ∧ B.slots = P.slots + 0) := by
  intro m meth c P g ig mk a X hg hsize hdg hW hn hp'
  obtain ⟨rfl, rfl, r1, r2⟩ := hp'
  have al : Z.vm.Alike P.U.vm := hZ.alike.trans X.warmed.alike
  obtain ⟨A, hx⟩ := txt_of wi al E V C K hc hb l2
  obtain ⟨A', hy⟩ := txt_of wi al E' V' C' K' hc' hb' l2'
  obtain ⟨v, B, X', ⟨⟨w, hv, hh, hq⟩, hl, hk, hs⟩, st⟩ := SEq.pays x t A cd cs.length (fun j => cs.getD j 0) y t' A' cd' ds.length (fun j => ds.getD j 0) z (tabEq_of (movedEq hZ hw)) hfr hlo m meth c P g ig mk _ X hg hsize hdg hW hn ⟨r1, r2, rfl, hx, hy, sta_is al S, hz⟩
  refine ⟨v, B, X', ⟨[], ⟨?_, rfl, hh⟩, hl, hk, hs⟩, st⟩
  rcases hq with ⟨rfl, q⟩ | ⟨rfl, q⟩
  · exact Or.inl ⟨hv, (same_list cs ds).mp q⟩
  · exact Or.inr ⟨hv, fun e => q ((same_list cs ds).mpr e)⟩
end StrChars.Road
namespace StrChars
open Jvm Sem ClassFile Op Lib Jvm.Stand Jvm.Free.XT Jvm.Free.ALB Jvm.Free.JM Jvm.Free
open Jvm.Lib.Cold (StaticIs)
namespace ChN
def yN : MethodName := ⟨"java/lang/String", "charAt", "(I)C"⟩
abbrev yB : ByteArray := jdk_42_method_56_code
theorem d0 : decode yB 0 = .ok (.aload_n 0, 1) := by decide +kernel
theorem d1 : decode yB 1 = .ok (.invokevirtual 492, 3) := by decide +kernel
theorem d4 : decode yB 4 = .ok (.ifCond (.eq) 12, 3) := by decide +kernel
theorem d7 : decode yB 7 = .ok (.aload_n 0, 1) := by decide +kernel
theorem d8 : decode yB 8 = .ok (.getfield 9, 3) := by decide +kernel
theorem d11 : decode yB 11 = .ok (.iload_n 1, 1) := by decide +kernel
theorem d12 : decode yB 12 = .ok (.invokestatic 495, 3) := by decide +kernel
theorem d15 : decode yB 15 = .ok (.ireturn, 1) := by decide +kernel
def site : List Cond := [.fieldLink "java/lang/String" 9 "java/lang/String" "value" "[B", IsL.tab, LChA.tab] ++ virtW "java/lang/String" 492 "java/lang/String" IsL.yN IsL.yN ++ staticW "java/lang/String" 495 LChA.yN
def tab : Cond := tabOf yN yB 2 (some .char) site
def P (x t : Addr) (V : Cell) (n : Nat) (f : Nat → Int32) (z : Int32) (fm : Value) (i : Nat) (args : Array Value) (s : State) : Prop := args = #[.ref x, .int (Int32.ofNat i)] ∧ Txt x t V 0 n f s ∧ i < n ∧ StaticIs s "java/lang/String" "COMPACT_STRINGS" "Z" (.int z) ∧ ¬ z = 0 ∧ StaticIs s "jdk/internal/util/Preconditions" "SIOOBE_FORMATTER" "Ljava/util/function/BiFunction;" fm ∧ fm.isRef = true
def E (f : Nat → Int32) (i : Nat) (r : Option Value) (s u : State) : Prop := XT.PureE (some (.int (f i))) r s u
/-- charAt(i) of a Latin-1 String of n chars, i < n: f i -/
theorem law (l : Launch) (x t : Addr) (V : Cell) (n : Nat) (f : Nat → Int32) (z : Int32) (fm : Value) (i : Nat) : Law l yN 2 1 3 40 yB 2 (some .char) site (P x t V n f z fm i) (E f i) [] 0 0 := by
  refine Law.of_walk (plainFor_of_name (by decide +kernel)) (by decide +kernel) (by decide +kernel) (by decide) (fun _ _ h => by rw [h.1]; rfl) (fun _ U U' hal hh h => ⟨h.1, h.2.1.mv hal hh, h.2.2.1, h.2.2.2.1.there hal hh, h.2.2.2.2.1, h.2.2.2.2.2.1.there hal hh, h.2.2.2.2.2.2⟩) (fun r U U' V V' h1 hal h2 h => XT.PureE.mv r U U' V V' h1 hal h2 h) ?_
  intro p e s m args below meth c s₁ X0 hexec hbytes hml hret hlk hnm hown hh0 W hP
  obtain ⟨rfl, hx, hi, s1, hz, s3, rf⟩ := hP
  have v31 := hx.2.2.2.1.2.2.2
  have hr := hx.2.2.2.2.2 i hi
  have hx0 := hx.mv X0.warmed.alike hh0
  have c1 : Steps p.tables e below (s₁.setTop (entryFrame m #[.ref x, .int (Int32.ofNat i)] 2)) (s₁.setTop (mkF m 1 #[.val (.ref x), .val (.int (Int32.ofNat i))] [.ref x])) := Steps.trans (entry rfl) (by
    show Steps p.tables e below (s₁.setTop (mkF m 0 #[.val (.ref x), .val (.int (Int32.ofNat i))] [])) _
    refine XS.aloadN X0.here hexec rfl (hb hbytes d0) rfl rfl ?_
    exact Steps.refl _)
  obtain ⟨v2, T2, X2, E2, g2⟩ := X0.callV hexec (IsL.law l x 0 z) hown (wks W (virtW "java/lang/String" 492 "java/lang/String" IsL.yN IsL.yN)) rfl (by decide) (wk W IsL.tab) (W := 0) (Nat.le_of_ble_eq_true rfl) (Nat.le_of_ble_eq_true rfl) (Nat.le_refl _) (Nat.le_refl _) (hx0.1.fc X0.warmed.alike) hx0.1.is (g := (mkF m 1 #[.val (.ref x), .val (.int (Int32.ofNat i))] [.ref x])) rfl (by rw [hml]; rfl) c1 (argsL := []) (rest := []) rfl rfl (by show 2 * 0 + 0 ≤ _; decide) (hb hbytes d1) (⟨rfl, hx0.2.2.1, hx.2.2.2.2.1.cd, s1.there X0.warmed.alike hh0, hz⟩)
  obtain ⟨rfl, q2⟩ := E2
  have hh2 := q2.trans hh0
  have hx2 := hx.mv X2.warmed.alike hh2
  obtain ⟨-, k1, k2⟩ | ⟨k0, -⟩ := hx.2.2.2.2.1
  · have c3 : Steps p.tables e below (s₁.setTop (entryFrame m #[.ref x, .int (Int32.ofNat i)] 2)) (T2.setTop (mkF m 8 #[.val (.ref x), .val (.int (Int32.ofNat i))] [.ref x])) := Steps.trans g2 (by
      refine XS.ifNo X2.here hexec rfl (hb hbytes d4) rfl (i0_eq_f (by decide)) ?_
      refine XS.aloadN X2.here hexec rfl (hb hbytes d7) rfl rfl ?_
      exact Steps.refl _)
    obtain ⟨T4, X4, q4, st4⟩ := X2.hget hexec hown (wk W (.fieldLink "java/lang/String" 9 "java/lang/String" "value" "[B")) hx2.2.1 (g := (mkF m 8 #[.val (.ref x), .val (.int (Int32.ofNat i))] [.ref x])) rfl (rest := []) rfl (hb hbytes d8)
    have hh4 := q4.trans hh2
    have c5 : Steps p.tables e below (s₁.setTop (entryFrame m #[.ref x, .int (Int32.ofNat i)] 2)) (T4.setTop (mkF m 12 #[.val (.ref x), .val (.int (Int32.ofNat i))] [.int (Int32.ofNat i), .ref t])) := (c3.trans (st4 _ (Steps.refl _))).trans (by
      refine XS.iloadN X4.here hexec rfl (hb hbytes d11) rfl ?_
      exact Steps.refl _)
    obtain ⟨v6, T6, X6, E6, g6⟩ := X4.callS hexec (LChA.law l t V i (lo8 (f i)) fm) hown (wks W (staticW "java/lang/String" 495 LChA.yN)) (wk W LChA.tab) (W := 0) (Nat.le_of_ble_eq_true rfl) (Nat.le_of_ble_eq_true rfl) (Nat.le_refl _) (Nat.le_refl _) (g := (mkF m 12 #[.val (.ref x), .val (.int (Int32.ofNat i))] [.int (Int32.ofNat i), .ref t])) rfl (by rw [hml]; rfl) c5 (argsL := [.ref t, .int (Int32.ofNat i)]) (rest := []) rfl rfl (by show 2 * 0 + 0 ≤ _; decide) (hb hbytes d12) (⟨rfl, hx.2.2.2.1.mv X4.warmed.alike hh4, (k2 i hi).1, s3.there X4.warmed.alike hh4, rf⟩)
    obtain ⟨rfl, q6⟩ := E6
    rw [chr8_lo8 hr.1 (k2 i hi).2] at g6
    exact ⟨T6, some (.int (f i)), _, _, _, X6, rfl, rfl, rfl, (fun h => by cases h), ⟨rfl, q6.trans hh4⟩, fun fs hl => Steps.trans g6 (X6.ireturnOut hexec hret (narrow_ch hr.1 hr.2) (Or.inr (Or.inr (Or.inr (Or.inl rfl)))) (hb hbytes d15) hl)⟩
  · exact absurd k0 (by decide)
theorem pays {l : Launch} {R : Room} {p : Program} {e : Env} {below : List Frame} {s : State} {sargs : Array Value} {len W : Nat} (x t : Addr) (V : Cell) (n : Nat) (f : Nat → Int32) (z : Int32) (fm : Value) (i : Nat) (htab : tab.before sargs s = true) (hfr : 4 ≤ R.frames) (hlo : W + 53 ≤ R.locals) :
    Back l R p e below s sargs yN len W (fun A₁ a₁ => A₁.cells + 0 ≤ R.cells ∧ A₁.slots + 0 ≤ R.slots ∧ P x t V n f z fm i a₁ A₁.U) (fun A₁ _ v₁ B₁ => E f i v₁ A₁.U B₁.U ∧ B₁.locs = A₁.locs ++ [] ∧ B₁.cells = A₁.cells + 0 ∧ B₁.slots = A₁.slots + 0) :=
  (law l x t V n f z fm i).pays htab hfr (by omega)
end ChN
end StrChars
namespace StrChars.Road
open Jvm Sem ClassFile Op Lib Jvm.Stand Jvm.Free Jvm.Free.XT
open Jvm.Lib.Cold (StaticIs)
/-- the words of String.charAt(int), the Latin-1 road alone -/
abbrev wordsChN : List Jvm.Cond := [.code ChN.yN ChN.yB 2 (some .char), .initialized ST, .fieldLink ST 9 ST "value" "[B", .fieldLink ST 38 ST "COMPACT_STRINGS" "Z", .fieldLink ST 15 ST "coder" "B", .code IsL.yN IsL.yB 1 (some .boolean), .methodLink ST 492 IsL.yN, .declares IsL.yN, .selects ST IsL.yN IsL.yN, .instanceMethod IsL.yN,
  .methodLink ST 495 LChA.yN, .static LChA.yN, .code LChA.yN LChA.yB 2 (some .char), .initialized "java/lang/StringLatin1", .methodLink "java/lang/StringLatin1" 9 JO.Str_checkIndex.yN, .static JO.Str_checkIndex.yN, .code JO.Str_checkIndex.yN JO.Str_checkIndex.yB 2 none,
  .fieldLink ST 1053 "jdk/internal/util/Preconditions" "SIOOBE_FORMATTER" "Ljava/util/function/BiFunction;", .methodLink ST 1059 JC.PreCheck.yN, .static JC.PreCheck.yN, .code JC.PreCheck.yN JC.PreCheck.yB 3 (some .int), .initialized "jdk/internal/util/Preconditions"]
theorem tabChN_of {a : Array Value} {s : State} (h : ∀ w ∈ wordsChN, w.before a s = true) : ChN.tab.before a s = true := by
  have hp : JC.PreCheck.tab.before a s = true := unparts (wk h (.code JC.PreCheck.yN JC.PreCheck.yB 3 (some .int))) (wks h (.initialized JC.PreCheck.yN.cls :: JC.PreCheck.site))
  have qk := consq hp h
  have hk : JO.Str_checkIndex.tab.before a s = true := unparts (wk qk (.code JO.Str_checkIndex.yN JO.Str_checkIndex.yB 2 none)) (wks qk (.initialized JO.Str_checkIndex.yN.cls :: JO.Str_checkIndex.site))
  have ql := consq hk h
  have hl : LChA.tab.before a s = true := unparts (wk ql (.code LChA.yN LChA.yB 2 (some .char))) (wks ql (.initialized LChA.yN.cls :: LChA.site))
  have hi : IsL.tab.before a s = true := unparts (wk h (.code IsL.yN IsL.yB 1 (some .boolean))) (wks h (.initialized IsL.yN.cls :: IsL.site))
  have q := consq hi (consq hl h)
  exact unparts (wk q (.code ChN.yN ChN.yB 2 (some .char))) (wks q (.initialized ChN.yN.cls :: ChN.site))
theorem movedChN {Z s : State} {a0 args : Array Value} (hZ : Z.Warmed39 s.vm) (hw : ∀ d ∈ wordsChN, d.before a0 Z = true) : ∀ d ∈ wordsChN, d.before args s = true := fun d hd => by
  have t : ∀ d ∈ wordsChN, (d.onTables && d.keepsFace) = true := by decide +kernel
  exact RoadKit.mv hZ (hw d hd) (t d hd)
/-- **charAt(i) OF A LATIN-1 STRING**, i < n: the char -/
theorem chN {p : Program} {l : Launch} {e : Env} {R : Room} {s : State} {args : Array Value} {below : List Frame} {len W : Nat} {Z : State} {a0 : Array Value} {h : Heap} (hZ : Z.Warmed39 s.vm) (hw : ∀ d ∈ wordsChN, d.before a0 Z = true) {kI : Nat} (wi : (Jvm.Cond.instantiable ST kI).before a0 Z = true)
    {x t : Addr} {kb : ClassId} {cs : List Int32} {N2 z : Int32} {vs : List Value} {fm : Value} {i : Nat} {j : Int32} (E : RoadKit.Exa Z h x ST) (V : RoadKit.Fld Z h x ST "value" "[B" (.ref t)) (C : RoadKit.Fld Z h x ST "coder" "B" (.int 0)) (K : RoadKit.Arv Z h t kb .byte N2 vs (.int 0)) (hc : CodA cs 0 N2 vs) (hb : ∀ c ∈ cs, ¬ c < 0 ∧ ¬ (65535 : Int32) < c)
    (S : RoadKit.Sta Z h ST "COMPACT_STRINGS" "Z" (.int z)) (hz : ¬ z = 0) (F : RoadKit.Sta Z h "jdk/internal/util/Preconditions" "SIOOBE_FORMATTER" "Ljava/util/function/BiFunction;" fm) (rf : fm.isRef = true) (l2 : cs.length ≤ 4000) (hi : i < cs.length) (hj : j = Int32.ofNat i) (hfr : 4 ≤ R.frames) (hlo : W + 53 ≤ R.locals) :
    Back l R p e below s args (⟨"java/lang/String", "charAt", "(I)C"⟩ : MethodName) len W (fun P a => a = #[.ref x, .int j] ∧ P.U.heap = h ∧ P.cells + 0 ≤ R.cells ∧ P.slots + 0 ≤ R.slots)
      (fun P _ v B => ∃ L, (v = some (.int (cs.getD i 0)) ∧ L = [] ∧ B.U.heap = h) ∧ B.locs = P.locs ++ L ∧ B.cells = P.cells + 0 ∧ B.slots = P.slots + 0) := by
  subst hj
  intro m meth c P g ig mk a X hg hsize hdg hW hn hp'
  obtain ⟨rfl, rfl, r1, r2⟩ := hp'
  have al : Z.vm.Alike P.U.vm := hZ.alike.trans X.warmed.alike
  obtain ⟨A, hx⟩ := txt_of wi al E V C K hc hb l2
  obtain ⟨v, B, X', ⟨⟨hv, hh⟩, hl, hk, hs⟩, st⟩ := ChN.pays x t A cs.length (fun j => cs.getD j 0) z fm i (tabChN_of (movedChN hZ hw)) hfr hlo m meth c P g ig mk _ X hg hsize hdg hW hn ⟨r1, r2, rfl, hx, hi, sta_is al S, hz, sta_is al F, rf⟩
  exact ⟨v, B, X', ⟨[], ⟨hv, rfl, hh⟩, hl, hk, hs⟩, st⟩
/-- what backV says of its String, as the contracts of this text ask it: cs's low bytes, coder 0 -/
theorem codOf {cs : List Int32} {n : Nat} (hn : cs.length = n) (hb : ∀ c ∈ cs, ¬ 255 < c) : CodA cs 0 (Int32.ofNat n) ((cs.map lo8).map Value.int) := Or.inl ⟨rfl, by rw [hn], by simp [List.map_map, Function.comp_def], hb⟩
end StrChars.Road
end Jvm.Pilot.@@N@@
namespace Jvm.Pilot.@@N@@
open Jvm Jvm.ClassFile Sem Op Lib Jvm.Free Jvm.Stand Jvm.LawKit Jvm.RoadKit Bundle Jvm.Own Jvm.Pilot.@@N@@.Jvm.D
theorem own_pd0 : parseMethodDescriptor "([CIILjava/lang/Void;)V" = some ⟨[(.array .char), .int, .int, (.object "java/lang/Void")], none⟩ := by decide +kernel
theorem own_pd1 : parseMethodDescriptor "(Ljava/lang/Object;)Ljava/lang/Object;" = some ⟨[(.object "java/lang/Object")], some (.object "java/lang/Object")⟩ := by decide +kernel
theorem own_pd2 : parseMethodDescriptor "(Ljava/lang/Object;)V" = some ⟨[(.object "java/lang/Object")], none⟩ := by decide +kernel
theorem own_pd3 : parseMethodDescriptor "()[Lcom/example/tally3/tally3/plan/PlanKind;" = some ⟨[], some (.array (.object "com/example/tally3/tally3/plan/PlanKind"))⟩ := by decide +kernel
theorem own_pd4 : parseMethodDescriptor "(Ljava/lang/Object;)Z" = some ⟨[(.object "java/lang/Object")], some .boolean⟩ := by decide +kernel
theorem own_pd5 : parseMethodDescriptor "(Ljava/lang/Object;)Ljava/util/Optional;" = some ⟨[(.object "java/lang/Object")], some (.object "java/util/Optional")⟩ := by decide +kernel
theorem own_pd6 : parseMethodDescriptor "()Ljava/util/Optional;" = some ⟨[], some (.object "java/util/Optional")⟩ := by decide +kernel
theorem own_pd7 : parseMethodDescriptor "(JII)C" = some ⟨[.long, .int, .int], some .char⟩ := by decide +kernel
theorem own_pd8 : parseMethodDescriptor "()I" = some ⟨[], some .int⟩ := by decide +kernel
theorem own_pd9 : parseMethodDescriptor "(I)C" = some ⟨[.int], some .char⟩ := by decide +kernel
theorem own_pd10 : parseMethodDescriptor "(Ljava/lang/String;)Ljava/util/Optional;" = some ⟨[(.object "java/lang/String")], some (.object "java/util/Optional")⟩ := by decide +kernel
theorem own_pd11 : parseMethodDescriptor "()Z" = some ⟨[], some .boolean⟩ := by decide +kernel
theorem own_pd12 : parseMethodDescriptor "(II)I" = some ⟨[.int, .int], some .int⟩ := by decide +kernel
theorem own_pd13 : parseMethodDescriptor "([CILjava/lang/String;ZJI)V" = some ⟨[(.array .char), .int, (.object "java/lang/String"), .boolean, .long, .int], none⟩ := by decide +kernel
theorem own_pd14 : parseMethodDescriptor "([C)V" = some ⟨[(.array .char)], none⟩ := by decide +kernel
theorem own_pd15 : parseMethodDescriptor "(Ljava/lang/String;)Lcom/example/tally3/tally3/plan/PlanKind;" = some ⟨[(.object "java/lang/String")], some (.object "com/example/tally3/tally3/plan/PlanKind")⟩ := by decide +kernel
theorem own_pd16 : parseMethodDescriptor "()Ljava/lang/Object;" = some ⟨[], some (.object "java/lang/Object")⟩ := by decide +kernel
theorem own_pn0 : plainFor (⟨"java/lang/String", "<init>", "([CIILjava/lang/Void;)V"⟩ : MethodName) = true := by first | exact plainFor_of_name (by first | (simp [plainName, overriddenIn, x]; done) | decide +kernel) | decide +kernel
theorem own_pn1 : plainFor (⟨"java/lang/String", "<init>", "([C)V"⟩ : MethodName) = true := by first | exact plainFor_of_name (by first | (simp [plainName, overriddenIn, x]; done) | decide +kernel) | decide +kernel
theorem own_pn2 : plainFor (⟨"java/lang/Math", "max", "(II)I"⟩ : MethodName) = true := by first | exact plainFor_of_name (by first | (simp [plainName, overriddenIn, x]; done) | decide +kernel) | decide +kernel
theorem own_pn3 : plainFor (⟨"com/example/tally3/tally3/plan/PlanKind", "values", "()[Lcom/example/tally3/tally3/plan/PlanKind;"⟩ : MethodName) = true := by first | exact plainFor_of_name (by first | (simp [plainName, overriddenIn, x]; done) | decide +kernel) | decide +kernel
theorem own_pn4 : plainFor (⟨"java/util/Objects", "requireNonNull", "(Ljava/lang/Object;)Ljava/lang/Object;"⟩ : MethodName) = true := by first | exact plainFor_of_name (by first | (simp [plainName, overriddenIn, x]; done) | decide +kernel) | decide +kernel
theorem own_pn5 : plainFor (⟨"java/util/Optional", "<init>", "(Ljava/lang/Object;)V"⟩ : MethodName) = true := by first | exact plainFor_of_name (by first | (simp [plainName, overriddenIn, x]; done) | decide +kernel) | decide +kernel
theorem own_pn6 : plainFor (⟨"java/util/Optional", "of", "(Ljava/lang/Object;)Ljava/util/Optional;"⟩ : MethodName) = true := by first | exact plainFor_of_name (by first | (simp [plainName, overriddenIn, x]; done) | decide +kernel) | decide +kernel
theorem own_pn7 : plainFor (⟨"java/util/Optional", "empty", "()Ljava/util/Optional;"⟩ : MethodName) = true := by first | exact plainFor_of_name (by first | (simp [plainName, overriddenIn, x]; done) | decide +kernel) | decide +kernel
theorem own_pn8 : plainFor (⟨"java/util/Optional", "isPresent", "()Z"⟩ : MethodName) = true := by first | exact plainFor_of_name (by first | (simp [plainName, overriddenIn, x]; done) | decide +kernel) | decide +kernel
theorem own_pn9 : plainFor (⟨"java/util/Optional", "get", "()Ljava/lang/Object;"⟩ : MethodName) = true := by first | exact plainFor_of_name (by first | (simp [plainName, overriddenIn, x]; done) | decide +kernel) | decide +kernel
theorem own_pn10 : plainFor (⟨"java/lang/String", "equals", "(Ljava/lang/Object;)Z"⟩ : MethodName) = true := by first | exact plainFor_of_name (by first | (simp [plainName, overriddenIn, x]; done) | decide +kernel) | decide +kernel
theorem own_pn11 : plainFor (⟨"com/example/tally3/tally3/plan/PlanKind", "ofApiName", "(Ljava/lang/String;)Ljava/util/Optional;"⟩ : MethodName) = true := by first | exact plainFor_of_name (by first | (simp [plainName, overriddenIn, x]; done) | decide +kernel) | decide +kernel
theorem own_pn12 : plainFor (⟨"com/example/tally3/tally3/plan/PlanKindOfApiNamePinLaw", "expected", "(Ljava/lang/String;)Lcom/example/tally3/tally3/plan/PlanKind;"⟩ : MethodName) = true := by first | exact plainFor_of_name (by first | (simp [plainName, overriddenIn, x]; done) | decide +kernel) | decide +kernel
theorem own_pn13 : plainFor (⟨"com/example/tally3/tally3/plan/PlanKindOfApiNamePinLaw", "drawn", "(JII)C"⟩ : MethodName) = true := by first | exact plainFor_of_name (by first | (simp [plainName, overriddenIn, x]; done) | decide +kernel) | decide +kernel
theorem own_pn14 : plainFor (⟨"com/example/tally3/tally3/plan/PlanKindOfApiNamePinLaw", "put", "([CILjava/lang/String;ZJI)V"⟩ : MethodName) = true := by first | exact plainFor_of_name (by first | (simp [plainName, overriddenIn, x]; done) | decide +kernel) | decide +kernel
theorem own_pn15 : plainFor x = true := by first | exact plainFor_of_name (by first | (simp [plainName, overriddenIn, x]; done) | decide +kernel) | decide +kernel
theorem al0 {α : Type} {P : α → Prop} : ∀ c ∈ ([] : List α), P c := fun _ q => nomatch q
theorem alS {α : Type} {P : α → Prop} {a : α} {L : List α} (q : P a) (r : ∀ c ∈ L, P c) : ∀ c ∈ a :: L, P c := fun c z => (List.mem_cons.mp z).elim (fun u => u ▸ q) (r c)
theorem ifc {P Q : Prop} [Decidable P] [Decidable Q] {a b : Int32} (h : P ↔ Q) : (if P then a else b) = (if Q then a else b) := by
  by_cases q : P
  · rw [if_pos q, if_pos (h.mp q)]
  · rw [if_neg q, if_neg (fun z => q (h.mpr z))]
theorem jn {A G : Prop} (h1 : A → G) (h2 : A) : G := h1 h2
/-- C (whose superclass is O, which has none) is no K -/
theorem notSub {Z : State} {a0 : Array Value} {C O K : String} {n : Nat} (w1 : (Jvm.Cond.superclass C O).before a0 Z = true) (w2 : (Jvm.Cond.noSuperclass O).before a0 Z = true) (w3 : (Jvm.Cond.instantiable K n).before a0 Z = true) (h1 : C ≠ K) (h2 : O ≠ K) : ∃ c t, Z.vm.findClass C = some c ∧ Z.vm.findClass K = some t ∧ Z.vm.assignable c t = false := by
  obtain ⟨c, hc⟩ := found_sup w1
  obtain ⟨q, k, kq, a1, a2, a3, a4, a5, a6, a7⟩ := Cond.superclass_spec hc w1
  obtain ⟨q', kq', b1, b2, b3, b4, b5⟩ := Cond.noSuperclass_spec w2
  cases a1.symm.trans b1
  cases a3.symm.trans b2
  obtain ⟨t, kt, d1, d2, d3, d4, -⟩ := Cond.instantiable_spec w3
  have n1 : c ≠ t := ids_ne hc d1 h1
  have n2 : q ≠ t := ids_ne b1 d1 h2
  have d5 : kt.isInterface = false := by
    cases hk : kt.isInterface with
    | false => rfl
    | true => rw [hk] at d4; simp at d4
  have s1 : ∀ fuel, Z.vm.isSubclassAux fuel q t = false := fun fuel => by
    cases fuel with
    | zero => rfl
    | succ f => simp [Vm.isSubclassAux, n2, b2, b3]
  have s2 : ∀ fuel, Z.vm.isSubclassAux fuel c t = false := fun fuel => by
    cases fuel with
    | zero => rfl
    | succ f => simp [Vm.isSubclassAux, n1, a2, a4, s1]
  refine ⟨c, t, hc, d1, ?_⟩
  show Z.vm.assignableAux (255 + 1) c t = false
  simp [Vm.assignableAux, n1, a2, d2, a5, d3, d5, Vm.isSubclass, s2]
theorem insNo {Z : State} {h : Heap} {a : Addr} {C K : String} (E : Exa Z h a C) (q : ∃ c t, Z.vm.findClass C = some c ∧ Z.vm.findClass K = some t ∧ Z.vm.assignable c t = false) : Ins Z h a K false := by
  obtain ⟨c, t, q1, q2, q3⟩ := q
  obtain ⟨cell, k, e1, e2, -⟩ := E
  cases q1.symm.trans e2
  exact ⟨cell, t, e1, q2, by simp [q3]⟩
section StrKit
variable {p : Program} {l : Launch} {e : Env} {R : Room} {s : State} {args : Array Value} {below : List Frame} {Z : State} {a0 : Array Value} {EL : List (String × Nat)} {kn : Prop} {ws : List Addr} {h h' : Heap} {a b x y : Addr} {cs ds : List Int32} {G1 : Int32} {W : Nat}
/-- a String and its chars -/
def Str (Z : State) (h : Heap) (a : Addr) (cs : List Int32) : Prop := ∃ (t : Addr) (kb : ClassId) (cd N : Int32) (vs : List Value), Exa Z h a "java/lang/String" ∧ Fld Z h a "java/lang/String" "value" "[B" (.ref t) ∧ Fld Z h a "java/lang/String" "coder" "B" (.int cd) ∧ Arv Z h t kb .byte N vs (.int 0) ∧ StrChars.Road.CodA cs cd N vs ∧ (∀ c ∈ cs, ¬ c < 0 ∧ ¬ (65535 : Int32) < c) ∧ cs.length ≤ 4000
theorem Str.ext (S : Str Z h a cs) (E : Ext h h') : Str Z h' a cs := by
  obtain ⟨t, kb, cd, N, vs, s1, s2, s3, s4, r⟩ := S
  exact ⟨t, kb, cd, N, vs, s1.ext E, s2.ext E, s3.ext E, s4.ext E, r⟩
theorem Str.exa (S : Str Z h a cs) : Exa Z h a "java/lang/String" := by obtain ⟨t, kb, cd, N, vs, s1, -⟩ := S; exact s1
theorem Str.lt (S : Str Z h a cs) : a < h.size := S.exa.lt
theorem Str.wr {C : String} {kI sl : Nat} {v : Value} (S : Str Z h a cs) (W : Wr h h' b sl v) (E : Exa Z h b C) (hC : C ≠ "java/lang/String") (wi : (Jvm.Cond.instantiable C kI).before a0 Z = true) : Str Z h' a cs := by
  obtain ⟨t, kb, cd, N, vs, s1, s2, s3, s4, r⟩ := S
  have n1 : a ≠ b := Exa.ne s1 E (Ne.symm hC)
  have n2 : t ≠ b := (Exa.neArv E s4 wi).symm
  exact ⟨t, kb, cd, N, vs, s1.wr W, s2.other W (Or.inl n1), s3.other W (Or.inl n1), s4.other W n2, r⟩
theorem arv_ty {t : Addr} {kb : ClassId} {N : Int32} {vs us : List Value} {dv : Value} {ty ty' : FieldType} (F : Arv Z h t kb ty' N vs dv) (A : Own.Ary Z h b ty us) (hty : ty' ≠ ty) : t ≠ b := fun q => by
  subst q
  obtain ⟨c1, ⟨e1, ⟨-, k1, f1, m1, g1⟩, -⟩, -⟩ := F
  obtain ⟨c2, ⟨e2, ⟨-, k2, f2, m2, g2⟩, -⟩, -⟩ := A
  cases e1.symm.trans e2
  cases f1.symm.trans f2
  have := g1.symm.trans g2
  injection this with _ r
  exact hty r
theorem Str.wrA {sl kI : Nat} {v : Value} {us : List Value} {ty : FieldType} (S : Str Z h a cs) (W : Wr h h' b sl v) (A : Own.Ary Z h b ty us) (hty : FieldType.byte ≠ ty) (wi : (Jvm.Cond.instantiable "java/lang/String" kI).before a0 Z = true) : Str Z h' a cs := by
  obtain ⟨t, kb, cd, N, vs, s1, s2, s3, s4, r⟩ := S
  obtain ⟨kc, A'⟩ := A.arv .null
  have n1 : a ≠ b := Exa.neArv s1 A' wi
  have n2 : t ≠ b := arv_ty s4 A hty
  exact ⟨t, kb, cd, N, vs, s1.wr W, s2.other W (Or.inl n1), s3.other W (Or.inl n1), s4.other W n2, r⟩
theorem Str.keep {C : String} {kI : Nat} (S : Str Z h a cs) (K : Keep h h' [b]) (E : Exa Z h b C) (hC : C ≠ "java/lang/String") (wi : (Jvm.Cond.instantiable C kI).before a0 Z = true) : Str Z h' a cs := by
  obtain ⟨t, kb, cd, N, vs, s1, s2, s3, s4, r⟩ := S
  have n1 : a ≠ b := Exa.ne s1 E (Ne.symm hC)
  have n2 : t ≠ b := (Exa.neArv E s4 wi).symm
  exact ⟨t, kb, cd, N, vs, s1.keep K, s2.keep K (ninS n1 nin0), s3.keep K (ninS n1 nin0), s4.keep K (ninS n2 nin0), r⟩
theorem newStrPay (hw : ∀ d ∈ tables_1, d.before a0 Z = true) (hEL : EW Z a0 EL) (O2 : Sta Z Z.heap "java/lang/String" "COMPACT_STRINGS" "Z" (.int G1)) (P5 : ¬ G1 = 0) (hE : Ext Z.heap h) {v0 c0 : Value} (hx0 : Z.heap.size ≤ x) (hx : x ∈ ws) (E : Exa Z h x "java/lang/String") (V : Fld Z h x "java/lang/String" "value" "[B" v0) (C : Fld Z h x "java/lang/String" "coder" "B" c0) {vs : List Value} (hvs : vs = cs.map Value.int) (A : Own.Ary Z h b .char vs)
    {n : Nat} (hn : cs.length = n) (h0 : 0 < n) (h4 : n ≤ 4000) (hp : ∀ c ∈ cs, ¬ c < 0 ∧ ¬ (255 : Int32) < c) (hfr : 4 ≤ R.frames) (hlo : W + 65 ≤ R.locals) :
    Own.Pay l R p e below s args Z EL kn ws ⟨"java/lang/String", "<init>", "([C)V"⟩ 3 W 1 n #[.ref x, .ref b] h (fun v h' ws' => v = none ∧ Keep h h' [x] ∧ Str Z h' x cs ∧ ws' = []) := by
  subst hvs
  obtain ⟨kc, K⟩ := A.arv (.int 0)
  rw [List.length_map] at K
  have hws : ∀ d ∈ StrChars.Road.words, d.before a0 Z = true := fun d hd => hw d ((by decide +kernel : ∀ d ∈ StrChars.Road.words, d ∈ tables_1) d hd)
  refine Own.Pay.of_back (Q0 := fun v h' L => StrChars.Road.QV Z x (Int32.ofNat n) (cs.map fun c => c.toInt8.toInt32) h Z.heap.size v h' L) hEL (fun vm0 hZ => StrChars.Road.backV (s := s.setVm vm0) hZ hws (kI := 4) (hw _ (List.mem_of_getElem? (i := 2) rfl)) (cs := cs) (n := n) hx0 hE.1 E V C (hn ▸ K) (O2.ext hE) P5 hn rfl h0 h4 hp rfl hfr hlo) (fun v h' L q => ?_)
  obtain ⟨q1, q2, q3, q4, q5, t, kb, -, -, -, q6, q7⟩ := q
  refine ⟨[x], [], q3, fun y hy => ?_, q2, ⟨q1, q3, ⟨t, kb, 0, _, _, q4, q6, q5, q7, ?_, fun c hc => ⟨(hp c hc).1, fun r => (hp c hc).2 ?_⟩, by omega⟩, rfl⟩, fun y hy => by cases hy⟩
  · cases List.mem_singleton.mp hy; exact ⟨hx, hx0⟩
  · exact StrChars.Road.codOf hn (fun c hc => (hp c hc).2)
  · rw [Int32.lt_iff_toInt_lt] at r ⊢; have e1 : (65535 : Int32).toInt = 65535 := rfl; have e2 : (255 : Int32).toInt = 255 := rfl; omega
theorem eqPay (hw : ∀ d ∈ tables_1, d.before a0 Z = true) (hEL : EW Z a0 EL) (O2 : Sta Z Z.heap "java/lang/String" "COMPACT_STRINGS" "Z" (.int G1)) (P5 : ¬ G1 = 0) (hE : Ext Z.heap h) (S : Str Z h x cs) (S' : Str Z h y ds) (hfr : 2 ≤ R.frames) (hlo : W + 28 ≤ R.locals) :
    Own.Pay l R p e below s args Z EL kn ws ⟨"java/lang/String", "equals", "(Ljava/lang/Object;)Z"⟩ 3 W 0 0 #[.ref x, .ref y] h (fun v h' ws' => v = some (.int (if cs = ds then 1 else 0)) ∧ h' = h ∧ ws' = []) := by
  obtain ⟨t, kb, cd, N, vs, s1, s2, s3, s4, s5, s6, s7⟩ := S
  obtain ⟨t', kb', cd', N', vs', r1, r2, r3, r4, r5, r6, r7⟩ := S'
  have hws : ∀ d ∈ StrChars.Road.wordsEq, d.before a0 Z = true := fun d hd => hw d ((by decide +kernel : ∀ d ∈ StrChars.Road.wordsEq, d ∈ tables_1) d hd)
  refine Own.Pay.of_back (Q0 := fun v h' L => ((v = some (.int 1) ∧ cs = ds) ∨ (v = some (.int 0) ∧ ¬ cs = ds)) ∧ L = [] ∧ h' = h) hEL (fun vm0 hZ => StrChars.Road.eqW (s := s.setVm vm0) hZ hws (kI := 4) (hw _ (List.mem_of_getElem? (i := 2) rfl)) s1 s2 s3 s4 s5 s6 s7 r1 r2 r3 r4 r5 r6 r7 (O2.ext hE) P5 hfr hlo) (fun v h' L q => ?_)
  obtain ⟨q1, rfl, rfl⟩ := q
  refine ⟨[], [], Keep.refl _ _, fun y hy => (by cases hy), Fr.nil _, ⟨?_, rfl, rfl⟩, fun y hy => by cases hy⟩
  rcases q1 with ⟨rfl, q⟩ | ⟨rfl, q⟩
  · rw [if_pos q]
  · rw [if_neg q]
theorem lenPay (hw : ∀ d ∈ tables_1, d.before a0 Z = true) (hEL : EW Z a0 EL) (O2 : Sta Z Z.heap "java/lang/String" "COMPACT_STRINGS" "Z" (.int G1)) (P5 : ¬ G1 = 0) (hE : Ext Z.heap h) (S : Str Z h x cs) (hfr : 2 ≤ R.frames) (hlo : W + 25 ≤ R.locals) :
    Own.Pay l R p e below s args Z EL kn ws ⟨"java/lang/String", "length", "()I"⟩ 3 W 0 0 #[.ref x] h (fun v h' ws' => v = some (.int (Int32.ofNat cs.length)) ∧ h' = h ∧ ws' = []) := by
  obtain ⟨t, kb, cd, N, vs, s1, s2, s3, s4, s5, s6, s7⟩ := S
  have hws : ∀ d ∈ StrChars.Road.wordsLen, d.before a0 Z = true := fun d hd => hw d ((by decide +kernel : ∀ d ∈ StrChars.Road.wordsLen, d ∈ tables_1) d hd)
  refine Own.Pay.of_back (Q0 := fun v h' L => v = some (.int (Int32.ofNat cs.length)) ∧ L = [] ∧ h' = h) hEL (fun vm0 hZ => StrChars.Road.lenW (s := s.setVm vm0) hZ hws (kI := 4) (hw _ (List.mem_of_getElem? (i := 2) rfl)) s1 s2 s3 s4 s5 s6 (O2.ext hE) P5 s7 hfr hlo) (fun v h' L q => ?_)
  obtain ⟨q1, rfl, rfl⟩ := q
  exact ⟨[], [], Keep.refl _ _, fun y hy => (by cases hy), Fr.nil _, ⟨q1, rfl, rfl⟩, fun y hy => by cases hy⟩
end StrKit

/-- (char) ((x >>> k) & 0xff), as it lies in a char[] -/
def chA (x k : Int32) : Int32 := nar .char ((((x.toUInt32 >>> (k &&& 31).toUInt32).toInt32) &&& (255 : Int32)).toUInt32.toUInt16.toUInt32.toInt32)
theorem nar_toInt (y : Int32) (h0 : 0 ≤ y.toInt) (h1 : y.toInt < 65536) : (nar .char y.toUInt32.toUInt16.toUInt32.toInt32).toInt = y.toInt := by
  have q1 := c_i2c y
  have q2 := c_i2c y.toUInt32.toUInt16.toUInt32.toInt32
  show (y.toUInt32.toUInt16.toUInt32.toInt32.toUInt32.toUInt16.toUInt32.toInt32).toInt = _
  omega
theorem chA_toInt (x k : Int32) (n : Nat) (hk : k.toBitVec.toNat % 32 = n) (h0 : 0 < n) : (chA x k).toInt = ((x.toInt % 4294967296) / (2 ^ n : Nat)) % 256 := by
  have q1 := c_mask ((x.toUInt32 >>> (k &&& 31).toUInt32).toInt32) 255 8 (by decide) (by decide)
  have q2 := c_iushr x k n hk h0
  rw [q2] at q1
  have q3 : ((2 ^ 8 : Nat) : Int) = 256 := by decide
  rw [q3] at q1
  unfold chA
  rw [nar_toInt _ (by rw [q1]; omega) (by rw [q1]; omega), q1]
theorem chA_ok (x k : Int32) (n : Nat) (hk : k.toBitVec.toNat % 32 = n) (h0 : 0 < n) : ¬ chA x k < 0 ∧ ¬ (255 : Int32) < chA x k := by
  have q := chA_toInt x k n hk h0
  have e0 : (0 : Int32).toInt = 0 := rfl
  have e1 : (255 : Int32).toInt = 255 := rfl
  rw [Int32.lt_iff_toInt_lt, Int32.lt_iff_toInt_lt, e0, e1, q]
  omega
/-- (char) (x & 0xff), as it lies in a char[] -/
def chB (x : Int32) : Int32 := nar .char ((x &&& (255 : Int32)).toUInt32.toUInt16.toUInt32.toInt32)
theorem chB_toInt (x : Int32) : (chB x).toInt = x.toInt % 256 := by
  have q1 := c_mask x 255 8 (by decide) (by decide)
  have q3 : ((2 ^ 8 : Nat) : Int) = 256 := by decide
  rw [q3] at q1
  unfold chB
  rw [nar_toInt _ (by rw [q1]; omega) (by rw [q1]; omega), q1]
theorem chB_ok (x : Int32) : ¬ chB x < 0 ∧ ¬ (255 : Int32) < chB x := by
  have q := chB_toInt x
  have e0 : (0 : Int32).toInt = 0 := rfl
  have e1 : (255 : Int32).toInt = 255 := rfl
  rw [Int32.lt_iff_toInt_lt, Int32.lt_iff_toInt_lt, e0, e1, q]
  omega
theorem and3_cases (y : Int32) : (y &&& (3 : Int32)) = (0 : Int32) ∨ (y &&& (3 : Int32)) = (1 : Int32) ∨ (y &&& (3 : Int32)) = (2 : Int32) ∨ (y &&& (3 : Int32)) = (3 : Int32) := by
  have q := c_mask y 3 2 (by decide) (by decide)
  simp only [← Int32.toInt_inj]
  have e0 : (0 : Int32).toInt = 0 := rfl
  have e1 : (1 : Int32).toInt = 1 := rfl
  have e2 : (2 : Int32).toInt = 2 := rfl
  have e3 : (3 : Int32).toInt = 3 := rfl
  have q3 : ((2 ^ 2 : Nat) : Int) = 4 := by decide
  rw [e0, e1, e2, e3, q, q3]
  omega

theorem on_lt {a b : Nat} (ha : a < 2 ^ 31) (hb : b < 2 ^ 31) : Int32.ofNat a < Int32.ofNat b ↔ a < b := by
  have e1 : (Int32.ofNat a).toInt = a := Int32.toInt_ofNat_of_lt (by omega)
  have e2 : (Int32.ofNat b).toInt = b := Int32.toInt_ofNat_of_lt (by omega)
  rw [Int32.lt_iff_toInt_lt, e1, e2]; omega
theorem on_eq {a b : Nat} (ha : a < 2 ^ 31) (hb : b < 2 ^ 31) : Int32.ofNat a = Int32.ofNat b ↔ a = b := by
  have e1 : (Int32.ofNat a).toInt = a := Int32.toInt_ofNat_of_lt (by omega)
  have e2 : (Int32.ofNat b).toInt = b := Int32.toInt_ofNat_of_lt (by omega)
  rw [← Int32.toInt_inj, e1, e2]; omega
theorem on_succ (a : Nat) : Int32.ofNat a + (1 : Int32) = Int32.ofNat (a + 1) := by
  rw [Int32.ofNat_add]; rfl
theorem on_nn {a : Nat} (ha : a < 2 ^ 31) : ¬ Int32.ofNat a < 0 := Own.nn32 ha
/-- the first place from i on (in the list that stands at i) where ch stands, or -1 -/
def ixF : List Int32 → Int32 → Nat → Int32
  | [], _, _ => (-1 : Int32)
  | c :: r, ch, i => if c = ch then Int32.ofNat i else ixF r ch (i + 1)
theorem ixF_cases : ∀ (l : List Int32) (ch : Int32) (i : Nat), (ixF l ch i = (-1 : Int32) ∧ ch ∉ l) ∨ ∃ j, j < l.length ∧ ixF l ch i = Int32.ofNat (i + j) ∧ ch ∈ l
  | [], ch, i => Or.inl ⟨rfl, by simp⟩
  | c :: r, ch, i => by
    by_cases q : c = ch
    · exact Or.inr ⟨0, by simp, by simp [ixF, q], by simp [q]⟩
    · rcases ixF_cases r ch (i + 1) with ⟨h1, h2⟩ | ⟨j, h1, h2, h3⟩
      · exact Or.inl ⟨by simp [ixF, q, h1], by simp [h2, Ne.symm q]⟩
      · exact Or.inr ⟨j + 1, by simp [h1], by simp only [ixF, q, if_false, h2]; congr 1; omega, by simp [h3]⟩
/-- where skipFrom comes to -/
def sfV (cs : List Int32) (st : Int32) (i : Nat) : Int32 := if ixF (cs.drop i) st i < 0 then Int32.ofNat cs.length else ixF (cs.drop i) st i
theorem neg1 : (-1 : Int32) < 0 := by decide
theorem sfV_end (cs : List Int32) (st : Int32) (hl : cs.length ≤ 4000) : sfV cs st 0 = Int32.ofNat cs.length ↔ st ∉ cs := by
  unfold sfV
  rw [List.drop_zero]
  rcases ixF_cases cs st 0 with ⟨h1, h2⟩ | ⟨j, h1, h2, h3⟩
  · rw [h1, if_pos neg1]; simp [h2]
  · rw [h2, if_neg (on_nn (by omega)), on_eq (by omega) (by omega)]
    constructor
    · intro z; omega
    · intro z; exact absurd h3 z
/-- how many chars of white space lead -/
def wsL : List Int32 → Nat
  | [] => 0
  | c :: r => if c = (32 : Int32) ∨ c = (9 : Int32) then wsL r + 1 else 0
theorem wsL_le : ∀ l : List Int32, wsL l ≤ l.length
  | [] => Nat.le_refl _
  | c :: r => by
    have := wsL_le r
    unfold wsL; split <;> simp <;> omega
theorem wsL_all : ∀ l : List Int32, wsL l = l.length ↔ ∀ c ∈ l, c = (32 : Int32) ∨ c = (9 : Int32)
  | [] => by simp [wsL]
  | c :: r => by
    have q := wsL_le r
    unfold wsL
    by_cases z : c = (32 : Int32) ∨ c = (9 : Int32)
    · rw [if_pos z]; simp [z, wsL_all r]
    · rw [if_neg z]; simp [z]
theorem drop_at {cs : List Int32} {i : Nat} (h : i < cs.length) : cs.drop i = cs.getD i 0 :: cs.drop (i + 1) := by
  rw [List.drop_eq_getElem_cons h]; simp [List.getD_eq_getElem?_getD, h]
theorem lo8_eq {c ch : Int32} (h1 : ¬ c < 0 ∧ ¬ (255 : Int32) < c) (h2 : ¬ ch < 0 ∧ ¬ (255 : Int32) < ch) : c.toInt8.toInt32 = ch.toInt8.toInt32 ↔ c = ch := by
  have q1 := c_i2b c; have q2 := c_i2b ch
  have e0 : (0 : Int32).toInt = 0 := rfl
  have e1 : (255 : Int32).toInt = 255 := rfl
  rw [Int32.lt_iff_toInt_lt, Int32.lt_iff_toInt_lt, e0, e1] at h1 h2
  rw [← Int32.toInt_inj, ← Int32.toInt_inj]
  omega
theorem nar_id {c : Int32} (h1 : ¬ c < 0 ∧ ¬ (65535 : Int32) < c) : nar .char c = c := by
  have q := c_i2c c
  have e0 : (0 : Int32).toInt = 0 := rfl
  have e1 : (65535 : Int32).toInt = 65535 := rfl
  rw [Int32.lt_iff_toInt_lt, Int32.lt_iff_toInt_lt, e0, e1] at h1
  rw [← Int32.toInt_inj]
  show (c.toUInt32.toUInt16.toUInt32.toInt32).toInt = _
  omega
theorem up16 {c : Int32} (h : ¬ c < 0 ∧ ¬ (255 : Int32) < c) : ¬ c < 0 ∧ ¬ (65535 : Int32) < c := ⟨h.1, fun r => h.2 (by
  rw [Int32.lt_iff_toInt_lt] at r ⊢; have e1 : (65535 : Int32).toInt = 65535 := rfl; have e2 : (255 : Int32).toInt = 255 := rfl; omega)⟩
/-- a String of Latin-1 chars: her bytes -/
theorem Str.latin {Z : State} {h : Heap} {a : Addr} {cs : List Int32} (S : Str Z h a cs) (hl : ∀ c ∈ cs, ¬ (255 : Int32) < c) : ∃ t, Exa Z h a "java/lang/String" ∧ Fld Z h a "java/lang/String" "value" "[B" (.ref t) ∧ Fld Z h a "java/lang/String" "coder" "B" (.int 0) ∧ Own.Ary Z h t .byte (cs.map fun c => Value.int c.toInt8.toInt32) := by
  obtain ⟨t, kb, cd, N, vs, s1, s2, s3, s4, s5, s6, s7⟩ := S
  rcases s5 with ⟨rfl, rfl, rfl, -⟩ | ⟨-, -, -, c, hc, hw⟩
  · refine ⟨t, s1, s2, s3, Own.Ary.of_arv s4 ?_ (by simp; omega)⟩
    rw [Own.n32 (by omega)]; simp
  · exact absurd hw (hl c hc)
def wM : List Int32 := [(109 : Int32), (101 : Int32), (116 : Int32), (101 : Int32), (114 : Int32), (105 : Int32), (110 : Int32), (103 : Int32)]
def wR : List Int32 := [(114 : Int32), (97 : Int32), (116 : Int32), (105 : Int32), (110 : Int32), (103 : Int32)]
def wP : List Int32 := [(112 : Int32), (114 : Int32), (105 : Int32), (99 : Int32), (105 : Int32), (110 : Int32), (103 : Int32)]

/-- PlanKind's statics and Optional's, as the case says them -/
def PK (Z : State) (vv e0 e1 e2 s0 s1 s2 em : Addr) : Prop := (Sta Z Z.heap "com/example/tally3/tally3/plan/PlanKind" "$VALUES" "[Lcom/example/tally3/tally3/plan/PlanKind;" (.ref vv)) ∧ (Sta Z Z.heap "com/example/tally3/tally3/plan/PlanKind" "METERING" "Lcom/example/tally3/tally3/plan/PlanKind;" (.ref e0)) ∧ (Sta Z Z.heap "com/example/tally3/tally3/plan/PlanKind" "RATING" "Lcom/example/tally3/tally3/plan/PlanKind;" (.ref e1)) ∧ (Sta Z Z.heap "com/example/tally3/tally3/plan/PlanKind" "PRICING" "Lcom/example/tally3/tally3/plan/PlanKind;" (.ref e2)) ∧ (Exa Z Z.heap vv "[Lcom/example/tally3/tally3/plan/PlanKind;") ∧ (Own.Ary Z Z.heap vv (.object "com/example/tally3/tally3/plan/PlanKind") [.ref e0, .ref e1, .ref e2]) ∧ (Fld Z Z.heap e0 "com/example/tally3/tally3/plan/PlanKind" "apiName" "Ljava/lang/String;" (.ref s0)) ∧ (Fld Z Z.heap e1 "com/example/tally3/tally3/plan/PlanKind" "apiName" "Ljava/lang/String;" (.ref s1)) ∧ (Fld Z Z.heap e2 "com/example/tally3/tally3/plan/PlanKind" "apiName" "Ljava/lang/String;" (.ref s2)) ∧ (Str Z Z.heap s0 wM) ∧ (Str Z Z.heap s1 wR) ∧ (Str Z Z.heap s2 wP) ∧ (Sta Z Z.heap "java/util/Optional" "EMPTY" "Ljava/util/Optional;" (.ref em)) ∧ (Exa Z Z.heap em "java/util/Optional") ∧ (Fld Z Z.heap em "java/util/Optional" "value" "Ljava/lang/Object;" .null)
theorem PK.sv {Z : State} {vv e0 e1 e2 s0 s1 s2 em : Addr} (pk : PK Z vv e0 e1 e2 s0 s1 s2 em) : Sta Z Z.heap "com/example/tally3/tally3/plan/PlanKind" "$VALUES" "[Lcom/example/tally3/tally3/plan/PlanKind;" (.ref vv) := pk.1
theorem PK.m0 {Z : State} {vv e0 e1 e2 s0 s1 s2 em : Addr} (pk : PK Z vv e0 e1 e2 s0 s1 s2 em) : Sta Z Z.heap "com/example/tally3/tally3/plan/PlanKind" "METERING" "Lcom/example/tally3/tally3/plan/PlanKind;" (.ref e0) := pk.2.1
theorem PK.m1 {Z : State} {vv e0 e1 e2 s0 s1 s2 em : Addr} (pk : PK Z vv e0 e1 e2 s0 s1 s2 em) : Sta Z Z.heap "com/example/tally3/tally3/plan/PlanKind" "RATING" "Lcom/example/tally3/tally3/plan/PlanKind;" (.ref e1) := pk.2.2.1
theorem PK.m2 {Z : State} {vv e0 e1 e2 s0 s1 s2 em : Addr} (pk : PK Z vv e0 e1 e2 s0 s1 s2 em) : Sta Z Z.heap "com/example/tally3/tally3/plan/PlanKind" "PRICING" "Lcom/example/tally3/tally3/plan/PlanKind;" (.ref e2) := pk.2.2.2.1
theorem PK.xv {Z : State} {vv e0 e1 e2 s0 s1 s2 em : Addr} (pk : PK Z vv e0 e1 e2 s0 s1 s2 em) : Exa Z Z.heap vv "[Lcom/example/tally3/tally3/plan/PlanKind;" := pk.2.2.2.2.1
theorem PK.av {Z : State} {vv e0 e1 e2 s0 s1 s2 em : Addr} (pk : PK Z vv e0 e1 e2 s0 s1 s2 em) : Own.Ary Z Z.heap vv (.object "com/example/tally3/tally3/plan/PlanKind") [.ref e0, .ref e1, .ref e2] := pk.2.2.2.2.2.1
theorem PK.f0 {Z : State} {vv e0 e1 e2 s0 s1 s2 em : Addr} (pk : PK Z vv e0 e1 e2 s0 s1 s2 em) : Fld Z Z.heap e0 "com/example/tally3/tally3/plan/PlanKind" "apiName" "Ljava/lang/String;" (.ref s0) := pk.2.2.2.2.2.2.1
theorem PK.f1 {Z : State} {vv e0 e1 e2 s0 s1 s2 em : Addr} (pk : PK Z vv e0 e1 e2 s0 s1 s2 em) : Fld Z Z.heap e1 "com/example/tally3/tally3/plan/PlanKind" "apiName" "Ljava/lang/String;" (.ref s1) := pk.2.2.2.2.2.2.2.1
theorem PK.f2 {Z : State} {vv e0 e1 e2 s0 s1 s2 em : Addr} (pk : PK Z vv e0 e1 e2 s0 s1 s2 em) : Fld Z Z.heap e2 "com/example/tally3/tally3/plan/PlanKind" "apiName" "Ljava/lang/String;" (.ref s2) := pk.2.2.2.2.2.2.2.2.1
theorem PK.t0 {Z : State} {vv e0 e1 e2 s0 s1 s2 em : Addr} (pk : PK Z vv e0 e1 e2 s0 s1 s2 em) : Str Z Z.heap s0 wM := pk.2.2.2.2.2.2.2.2.2.1
theorem PK.t1 {Z : State} {vv e0 e1 e2 s0 s1 s2 em : Addr} (pk : PK Z vv e0 e1 e2 s0 s1 s2 em) : Str Z Z.heap s1 wR := pk.2.2.2.2.2.2.2.2.2.2.1
theorem PK.t2 {Z : State} {vv e0 e1 e2 s0 s1 s2 em : Addr} (pk : PK Z vv e0 e1 e2 s0 s1 s2 em) : Str Z Z.heap s2 wP := pk.2.2.2.2.2.2.2.2.2.2.2.1
theorem PK.sm {Z : State} {vv e0 e1 e2 s0 s1 s2 em : Addr} (pk : PK Z vv e0 e1 e2 s0 s1 s2 em) : Sta Z Z.heap "java/util/Optional" "EMPTY" "Ljava/util/Optional;" (.ref em) := pk.2.2.2.2.2.2.2.2.2.2.2.2.1
theorem PK.xm {Z : State} {vv e0 e1 e2 s0 s1 s2 em : Addr} (pk : PK Z vv e0 e1 e2 s0 s1 s2 em) : Exa Z Z.heap em "java/util/Optional" := pk.2.2.2.2.2.2.2.2.2.2.2.2.2.1
theorem PK.fm {Z : State} {vv e0 e1 e2 s0 s1 s2 em : Addr} (pk : PK Z vv e0 e1 e2 s0 s1 s2 em) : Fld Z Z.heap em "java/util/Optional" "value" "Ljava/lang/Object;" .null := pk.2.2.2.2.2.2.2.2.2.2.2.2.2.2
def pkV (cs : List Int32) (e0 e1 e2 : Addr) : Value := if wM = cs then .ref e0 else if wR = cs then .ref e1 else if wP = cs then .ref e2 else .null
theorem pkV_cases (cs : List Int32) (e0 e1 e2 : Addr) : pkV cs e0 e1 e2 = .null ∨ ∃ q, pkV cs e0 e1 e2 = .ref q := by
  unfold pkV
  split
  · exact Or.inr ⟨_, rfl⟩
  · split
    · exact Or.inr ⟨_, rfl⟩
    · split
      · exact Or.inr ⟨_, rfl⟩
      · exact Or.inl rfl
def Lat (cs : List Int32) : Prop := ∀ c ∈ cs, ¬ c < 0 ∧ ¬ (255 : Int32) < c
theorem Lat.set {cs : List Int32} (q : Lat cs) {i : Nat} {y : Int32} (hy : ¬ y < 0 ∧ ¬ (255 : Int32) < y) : Lat (cs.set i y) := fun c hc => by
  rcases List.mem_or_eq_of_mem_set hc with z | rfl
  · exact q c z
  · exact hy
theorem Str.keepA {Z : State} {a0 : Array Value} {h h' : Heap} {a b : Addr} {cs : List Int32} {kI : Nat} {us : List Value} {ty : FieldType} (S : Str Z h a cs) (K : Keep h h' [b]) (A : Own.Ary Z h b ty us) (hty : FieldType.byte ≠ ty) (wi : (Jvm.Cond.instantiable "java/lang/String" kI).before a0 Z = true) : Str Z h' a cs := by
  obtain ⟨t, kb, cd, N, vs, s1, s2, s3, s4, r⟩ := S
  obtain ⟨kc, A'⟩ := A.arv .null
  have n1 : a ≠ b := Exa.neArv s1 A' wi
  have n2 : t ≠ b := arv_ty s4 A hty
  exact ⟨t, kb, cd, N, vs, s1.keep K, s2.keep K (ninS n1 nin0), s3.keep K (ninS n1 nin0), s4.keep K (ninS n2 nin0), r⟩
theorem and7 (y : Int32) : ∃ k, k ≤ 10 ∧ (y &&& (7 : Int32)) = Int32.ofNat k := by
  have q := c_mask y 7 3 (by decide) (by decide)
  have q3 : ((2 ^ 3 : Nat) : Int) = 8 := by decide
  rw [q3] at q
  refine ⟨(y.toInt % 8).toNat, by omega, ?_⟩
  have e1 : (Int32.ofNat (y.toInt % 8).toNat).toInt = (y.toInt % 8).toNat := Int32.toInt_ofNat_of_lt (by omega)
  rw [← Int32.toInt_inj, q, e1]
  omega
theorem len3 (n : Nat) (hn : n = 6 ∨ n = 7 ∨ n = 8) (y : Int32) : ∃ k, k ≤ 10 ∧ (if (0 : Int32) < (Int32.ofNat n + (y &&& (3 : Int32))) - (1 : Int32) then (Int32.ofNat n + (y &&& (3 : Int32))) - (1 : Int32) else (0 : Int32)) = Int32.ofNat k := by
  rcases and3_cases y with q | q | q | q <;> rw [q] <;> rcases hn with rfl | rfl | rfl
  · exact ⟨5, by decide, by decide⟩
  · exact ⟨6, by decide, by decide⟩
  · exact ⟨7, by decide, by decide⟩
  · exact ⟨6, by decide, by decide⟩
  · exact ⟨7, by decide, by decide⟩
  · exact ⟨8, by decide, by decide⟩
  · exact ⟨7, by decide, by decide⟩
  · exact ⟨8, by decide, by decide⟩
  · exact ⟨9, by decide, by decide⟩
  · exact ⟨8, by decide, by decide⟩
  · exact ⟨9, by decide, by decide⟩
  · exact ⟨10, by decide, by decide⟩
theorem remN (y : Int32) (N : Nat) (h0 : 0 < N) (h1 : N ≤ 10) : ∃ k, k < N ∧ (y &&& (2147483647 : Int32)) % Int32.ofNat N = Int32.ofNat k := by
  have q := c_mask y 2147483647 31 (by decide) (by decide)
  have hm : (Int32.ofNat N).toInt = (N : Int) := Int32.toInt_ofNat_of_lt (by omega)
  have b0 := Int.emod_nonneg y.toInt (show ((2 ^ 31 : Nat) : Int) ≠ 0 by decide)
  have r := (c_irem (y &&& (2147483647 : Int32)) (Int32.ofNat N) N hm).1 (by rw [q]; exact b0)
  have b1 := Int.emod_nonneg (y &&& (2147483647 : Int32)).toInt (show (N : Int) ≠ 0 by omega)
  have b2 := Int.emod_lt_of_pos (y &&& (2147483647 : Int32)).toInt (show (0 : Int) < (N : Int) by omega)
  refine ⟨((y &&& (2147483647 : Int32)).toInt % (N : Int)).toNat, by omega, ?_⟩
  have e1 : (Int32.ofNat ((y &&& (2147483647 : Int32)).toInt % (N : Int)).toNat).toInt = ((y &&& (2147483647 : Int32)).toInt % (N : Int)).toNat := Int32.toInt_ofNat_of_lt (by omega)
  rw [← Int32.toInt_inj, r, e1]
  omega
theorem m255 (y : Int32) (h : ∃ w : Int32, y = w &&& (255 : Int32)) : ¬ nar .char y.toUInt32.toUInt16.toUInt32.toInt32 < 0 ∧ ¬ (255 : Int32) < nar .char y.toUInt32.toUInt16.toUInt32.toInt32 := by
  obtain ⟨w, rfl⟩ := h
  exact chB_ok w
theorem m255L (y : Int64) : ¬ nar .char (y &&& (255 : Int64)).toInt32.toUInt32.toUInt16.toUInt32.toInt32 < 0 ∧ ¬ (255 : Int32) < nar .char (y &&& (255 : Int64)).toInt32.toUInt32.toUInt16.toUInt32.toInt32 := by
  have q1 := c_maskL y 255 8 (by decide) (by decide)
  have q3 : ((2 ^ 8 : Nat) : Int) = 256 := by decide
  rw [q3] at q1
  have q2 := c_l2i (y &&& (255 : Int64))
  have b1 := Int32.toInt_lt (y &&& (255 : Int64)).toInt32
  have b2 := Int32.le_toInt (y &&& (255 : Int64)).toInt32
  have q4 := nar_toInt (y &&& (255 : Int64)).toInt32 (by omega) (by omega)
  have e0 : (0 : Int32).toInt = 0 := rfl
  have e1 : (255 : Int32).toInt = 255 := rfl
  rw [Int32.lt_iff_toInt_lt, Int32.lt_iff_toInt_lt, e0, e1, q4]
  omega
theorem onN0 {N : Nat} (h0 : 0 < N) (h1 : N ≤ 10) : Int32.ofNat N ≠ 0 := fun z => by
  have := (on_eq (a := N) (b := 0) (by omega) (by omega)).mp z
  omega

theorem chPay {p : Program} {l : Launch} {e : Env} {R : Room} {s : State} {args : Array Value} {below : List Frame} {Z : State} {a0 : Array Value} {EL : List (String × Nat)} {kn : Prop} {ws : List Addr} {h : Heap} {x : Addr} {cs : List Int32} {G1 : Int32} {G3 : Value} {W i : Nat} {j : Int32} (hw : ∀ d ∈ tables_1, d.before a0 Z = true) (hEL : EW Z a0 EL) (O2 : Sta Z Z.heap "java/lang/String" "COMPACT_STRINGS" "Z" (.int G1)) (P5 : ¬ G1 = 0) (O4 : Sta Z Z.heap "jdk/internal/util/Preconditions" "SIOOBE_FORMATTER" "Ljava/util/function/BiFunction;" G3) (rG3 : G3.isRef = true) (hE : Ext Z.heap h) (S : Str Z h x cs) (hl : ∀ c ∈ cs, ¬ (255 : Int32) < c) (hi : i < cs.length) (hj : j = Int32.ofNat i) (hfr : 4 ≤ R.frames) (hlo : W + 53 ≤ R.locals) :
    Own.Pay l R p e below s args Z EL kn ws ⟨"java/lang/String", "charAt", "(I)C"⟩ 3 W 0 0 #[.ref x, .int j] h (fun v h' ws' => v = some (.int (cs.getD i 0)) ∧ h' = h ∧ ws' = []) := by
  obtain ⟨t, kb, cd, N, vs, s1, s2, s3, s4, s5, s6, s7⟩ := S
  have hws : ∀ d ∈ StrChars.Road.wordsChN, d.before a0 Z = true := fun d hd => hw d ((by decide +kernel : ∀ d ∈ StrChars.Road.wordsChN, d ∈ tables_1) d hd)
  have hcd : cd = 0 := by
    rcases s5 with ⟨q, -⟩ | ⟨-, -, -, c, hc, hw'⟩
    · exact q
    · exact absurd hw' (hl c hc)
  subst hcd
  refine Own.Pay.of_back (Q0 := fun v h' L => v = some (.int (cs.getD i 0)) ∧ L = [] ∧ h' = h) hEL (fun vm0 hZ => StrChars.Road.chN (s := s.setVm vm0) hZ hws (kI := 4) (hw _ (List.mem_of_getElem? (i := 2) rfl)) s1 s2 s3 s4 s5 s6 (O2.ext hE) P5 (O4.ext hE) rG3 s7 hi hj hfr hlo) (fun v h' L q => ?_)
  obtain ⟨q1, rfl, rfl⟩ := q
  exact ⟨[], [], Keep.refl _ _, fun y hy => (by cases hy), Fr.nil _, ⟨q1, rfl, rfl⟩, fun y hy => by cases hy⟩
theorem d12_0 : decode jdk_42_method_149_code 0 = .ok (.aload_n 0, 1) := by decide +kernel
theorem d12_1 : decode jdk_42_method_149_code 1 = .ok (.invokespecial 1, 3) := by decide +kernel
theorem d12_4 : decode jdk_42_method_149_code 4 = .ok (.iload_n 3, 1) := by decide +kernel
theorem d12_5 : decode jdk_42_method_149_code 5 = .ok (.ifCond .ne 22, 3) := by decide +kernel
theorem d12_8 : decode jdk_42_method_149_code 8 = .ok (.aload_n 0, 1) := by decide +kernel
theorem d12_9 : decode jdk_42_method_149_code 9 = .ok (.ldc 7, 2) := by decide +kernel
theorem d12_11 : decode jdk_42_method_149_code 11 = .ok (.getfield 9, 3) := by decide +kernel
theorem d12_14 : decode jdk_42_method_149_code 14 = .ok (.putfield 9, 3) := by decide +kernel
theorem d12_17 : decode jdk_42_method_149_code 17 = .ok (.aload_n 0, 1) := by decide +kernel
theorem d12_18 : decode jdk_42_method_149_code 18 = .ok (.ldc 7, 2) := by decide +kernel
theorem d12_20 : decode jdk_42_method_149_code 20 = .ok (.getfield 15, 3) := by decide +kernel
theorem d12_23 : decode jdk_42_method_149_code 23 = .ok (.putfield 15, 3) := by decide +kernel
theorem d12_26 : decode jdk_42_method_149_code 26 = .ok (.return_, 1) := by decide +kernel
theorem d11_0 : decode jdk_42_method_3_code 0 = .ok (.aload_n 0, 1) := by decide +kernel
theorem d11_1 : decode jdk_42_method_3_code 1 = .ok (.aload_n 1, 1) := by decide +kernel
theorem d11_2 : decode jdk_42_method_3_code 2 = .ok (.iconst 0, 1) := by decide +kernel
theorem d11_3 : decode jdk_42_method_3_code 3 = .ok (.aload_n 1, 1) := by decide +kernel
theorem d11_4 : decode jdk_42_method_3_code 4 = .ok (.arraylength, 1) := by decide +kernel
theorem d11_5 : decode jdk_42_method_3_code 5 = .ok (.aconst_null, 1) := by decide +kernel
theorem d11_6 : decode jdk_42_method_3_code 6 = .ok (.invokespecial 27, 3) := by decide +kernel
theorem d11_9 : decode jdk_42_method_3_code 9 = .ok (.return_, 1) := by decide +kernel
theorem ef_sI2 (m : MethodId) (x : Addr) (b : Addr) (z2 : Int32) (z3 : Int32) : entryFrame m #[(.ref x), (.ref b), (.int z2), (.int z3), .null] 6 = mkF m 0 #[.val (.ref x), .val (.ref b), .val (.int z2), .val (.int z3), .val .null, .unset] [] := by first | (simp [entryFrame, mkF, argsToLocals, Value.category]; done) | rfl
set_option maxRecDepth 65536 in
set_option maxHeartbeats 40000000 in
theorem sI2 (l : Launch) (Z : State) (a0 : Array Value) (hw : ∀ d ∈ tables_1, d.before a0 Z = true) (hEL : EW Z a0 consts_1) (x : Addr) (b : Addr) (z2 : Int32) (z3 : Int32) (h : Heap) (hE : Ext Z.heap h) (g_x : Z.heap.size ≤ x) (E_x : Exa Z h x "java/lang/String") (F_x_value : Fld Z h x "java/lang/String" "value" "[B" .null) (F_x_coder : Fld Z h x "java/lang/String" "coder" "B" (.int (0 : Int32))) (hz3 : z3 = (0 : Int32)) :
    Con l Z consts_1 False (⟨"java/lang/String", "<init>", "([CIILjava/lang/Void;)V"⟩ : MethodName) jdk_42_method_149_code 6 none ({ frames := 1, cells := 4, slots := 8, locals := 12 } : Room) [x] #[(.ref x), (.ref b), (.int z2), (.int z3), .null] h (fun v h' ws' => v = none ∧ Keep h h' [x] ∧ Str Z h' x [] ∧ ws' = []) := by
  refine Con.intro own_pn0 (fun p e s m below meth c T X => ?_)
  rw [ef_sI2 m x b z2 z3]
  have K_ : Keep h h [x] := Keep.refl _ _
  refine s_aloadN X (pc' := 1) d12_0 rfl rfl rfl ?_
  refine s_initO X (pc' := 4) (W := 0) d12_1 (hw _ (List.mem_of_getElem? (i := 63) rfl)) (hw _ (List.mem_of_getElem? (i := 64) rfl)) (b' := object_method_1_code) rfl (hw _ (List.mem_of_getElem? (i := 65) rfl)) (Nat.le_of_ble_eq_true rfl) (by decide) (by decide) rfl rfl (fun T X => ?_)
  refine s_iloadN X (pc' := 5) d12_4 rfl rfl ?_
  refine s_ifF X (pc' := 8) d12_5 hz3 rfl ?_
  refine s_aloadN X (pc' := 9) d12_8 rfl rfl rfl ?_
  refine s_ldcS X (pc' := 11) (k' := 2) (n' := 4) (nn := 0) (vs := []) (z := (0 : Int32)) hEL d12_9 (hw _ (List.mem_of_getElem? (i := 151) rfl)) (fun d hd => hw d ((by decide +kernel : ∀ d ∈ Bundle.stringAtoms, d ∈ tables_1) d hd)) (by simp [consts_1]) (by decide) (by decide) (by decide) (by decide) (by decide) (by decide) (by decide) (by decide) (by decide) rfl (fun T h1 a1 b1 kc_b1 X' E2 E_a1 F_a1_coder F_a1_value V_b1 nw_ => ?_)
  replace E_x := E_x.ext E2
  replace F_x_value := F_x_value.ext E2
  replace F_x_coder := F_x_coder.ext E2
  replace K_ := K_.ext E2
  replace X := X'
  have ne_x_a1 : x ≠ a1 := (nw_ x (by simp)).1
  have ne_x_b1 : x ≠ b1 := (nw_ x (by simp)).2
  refine s_getf X (pc' := 14) d12_11 (hw _ (List.mem_of_getElem? (i := 13) rfl)) Via.refl F_a1_value rfl (fun T X => ?_)
  refine s_putf X (pc' := 17) d12_14 (hw _ (List.mem_of_getElem? (i := 13) rfl)) Via.refl F_x_value E_x (Or.inr ⟨(hw _ (List.mem_of_getElem? (i := 4) rfl)), rfl, rfl⟩) (hw _ (List.mem_of_getElem? (i := 2) rfl)) (ty := (.array .byte)) (by decide) rfl rfl g_x (by simp) rfl (fun T h3 X W4 => ?_)
  replace F_x_value := F_x_value.same W4
  replace F_x_coder := F_x_coder.other W4 (Or.inr (slot_ne (Or.inr (hw _ (List.mem_of_getElem? (i := 5) rfl))) (Or.inr (hw _ (List.mem_of_getElem? (i := 4) rfl))) (t := .byte) (t' := (.array .byte)) (by decide) (by decide) (by decide)))
  replace F_a1_coder := F_a1_coder.other W4 (Or.inl ne_x_a1.symm)
  replace F_a1_value := F_a1_value.other W4 (Or.inl ne_x_a1.symm)
  replace V_b1 := V_b1.other W4 ne_x_b1.symm
  replace E_x := E_x.wr W4
  replace E_a1 := E_a1.wr W4
  replace K_ := K_.wr W4 (Or.inl (by simp))
  refine s_aloadN X (pc' := 18) d12_17 rfl rfl rfl ?_
  refine s_ldcS X (pc' := 20) (k' := 4) (n' := 8) (nn := 0) (vs := []) (z := (0 : Int32)) hEL d12_18 (hw _ (List.mem_of_getElem? (i := 151) rfl)) (fun d hd => hw d ((by decide +kernel : ∀ d ∈ Bundle.stringAtoms, d ∈ tables_1) d hd)) (by simp [consts_1]) (by decide) (by decide) (by decide) (by decide) (by decide) (by decide) (by decide) (by decide) (by decide) rfl (fun T h5 a2 b2 kc_b2 X' E6 E_a2 F_a2_coder F_a2_value V_b2 nw_ => ?_)
  replace E_x := E_x.ext E6
  replace E_a1 := E_a1.ext E6
  replace F_x_value := F_x_value.ext E6
  replace F_x_coder := F_x_coder.ext E6
  replace F_a1_coder := F_a1_coder.ext E6
  replace F_a1_value := F_a1_value.ext E6
  replace V_b1 := V_b1.ext E6
  replace K_ := K_.ext E6
  replace X := X'
  have ne_x_a2 : x ≠ a2 := (nw_ x (by simp)).1
  have ne_x_b2 : x ≠ b2 := (nw_ x (by simp)).2
  refine s_getf X (pc' := 23) d12_20 (hw _ (List.mem_of_getElem? (i := 20) rfl)) Via.refl F_a2_coder rfl (fun T X => ?_)
  refine s_putf X (pc' := 26) d12_23 (hw _ (List.mem_of_getElem? (i := 20) rfl)) Via.refl F_x_coder E_x (Or.inr ⟨(hw _ (List.mem_of_getElem? (i := 5) rfl)), rfl, rfl⟩) (hw _ (List.mem_of_getElem? (i := 2) rfl)) (ty := .byte) (by decide) rfl rfl g_x (by simp) rfl (fun T h7 X W8 => ?_)
  replace F_x_value := F_x_value.other W8 (Or.inr (slot_ne (Or.inr (hw _ (List.mem_of_getElem? (i := 4) rfl))) (Or.inr (hw _ (List.mem_of_getElem? (i := 5) rfl))) (t := (.array .byte)) (t' := .byte) (by decide) (by decide) (by decide)))
  replace F_x_coder := F_x_coder.same W8
  replace F_a1_coder := F_a1_coder.other W8 (Or.inl ne_x_a1.symm)
  replace F_a1_value := F_a1_value.other W8 (Or.inl ne_x_a1.symm)
  replace F_a2_coder := F_a2_coder.other W8 (Or.inl ne_x_a2.symm)
  replace F_a2_value := F_a2_value.other W8 (Or.inl ne_x_a2.symm)
  replace V_b1 := V_b1.other W8 ne_x_b1.symm
  replace V_b2 := V_b2.other W8 ne_x_b2.symm
  replace E_x := E_x.wr W8
  replace E_a1 := E_a1.wr W8
  replace E_a2 := E_a2.wr W8
  replace K_ := K_.wr W8 (Or.inl (by simp))
  exact s_ret X hEL (ws' := []) d12_26 (by decide) (by decide) (fun x q => by simp at q) ⟨rfl, K_, ⟨b1, kc_b1, 0, 0, [], E_x, F_x_value, F_x_coder, V_b1, Or.inl ⟨rfl, rfl, rfl, (by simp)⟩, (by simp), (by simp)⟩, rfl⟩
theorem ef_sI1 (m : MethodId) (x : Addr) (b : Addr) : entryFrame m #[(.ref x), (.ref b)] 2 = mkF m 0 #[.val (.ref x), .val (.ref b)] [] := by first | (simp [entryFrame, mkF, argsToLocals, Value.category]; done) | rfl
set_option maxRecDepth 65536 in
set_option maxHeartbeats 40000000 in
theorem sI1 (l : Launch) (Z : State) (a0 : Array Value) (hw : ∀ d ∈ tables_1, d.before a0 Z = true) (hEL : EW Z a0 consts_1) (x : Addr) (b : Addr) (h : Heap) (hE : Ext Z.heap h) (g_x : Z.heap.size ≤ x) (E_x : Exa Z h x "java/lang/String") (F_x_value : Fld Z h x "java/lang/String" "value" "[B" .null) (F_x_coder : Fld Z h x "java/lang/String" "coder" "B" (.int (0 : Int32))) (A_b : Ary Z h b .char []) :
    Con l Z consts_1 False (⟨"java/lang/String", "<init>", "([C)V"⟩ : MethodName) jdk_42_method_3_code 2 none ({ frames := 2, cells := 4, slots := 8, locals := 29 } : Room) [x] #[(.ref x), (.ref b)] h (fun v h' ws' => v = none ∧ Keep h h' [x] ∧ Str Z h' x [] ∧ ws' = []) := by
  refine Con.intro own_pn1 (fun p e s m below meth c T X => ?_)
  rw [ef_sI1 m x b]
  refine s_aloadN X (pc' := 1) d11_0 rfl rfl rfl ?_
  refine s_aloadN X (pc' := 2) d11_1 rfl rfl rfl ?_
  refine s_iconst X (pc' := 3) d11_2 (v := (0 : Int32)) rfl rfl ?_
  refine s_aloadN X (pc' := 4) d11_3 rfl rfl rfl ?_
  refine s_alen X (pc' := 5) (z := (0 : Int32)) d11_4 A_b rfl rfl ?_
  refine s_aconst X (pc' := 6) d11_5 rfl ?_
  refine s_special X (pc' := 9) (W := 0) (as' := [(.ref b), (.int (0 : Int32)), (.int (0 : Int32)), .null]) (S := []) (k' := 4) (n' := 8) d11_6 rfl (hw _ (List.mem_of_getElem? (i := 59) rfl)) (hw _ (List.mem_of_getElem? (i := 60) rfl)) (hw _ (List.mem_of_getElem? (i := 62) rfl)) (by decide) own_pd0 rfl ((sI2 l Z a0 hw hEL x b (0 : Int32) (0 : Int32) h hE g_x E_x F_x_value F_x_coder rfl).payS (by simp) (hw _ (List.mem_of_getElem? (i := 62) rfl)) (hw _ (List.mem_of_getElem? (i := 1) rfl)) hEL (by decide) (by decide)) (Nat.le_of_ble_eq_true rfl) rfl rfl (by decide) (by decide) (by decide) (by decide) rfl (fun T h9 v_ ws_ X hgr_ q10 => ?_)
  obtain ⟨rfl, K_, S_, rfl⟩ := q10
  show Go p e below _ T (mkF m 9 #[.val (.ref x), .val (.ref b)] [])
  replace X := X.sub (ws' := [x]) (by simp)
  exact s_ret X hEL (ws' := []) d11_9 (by decide) (by decide) (fun x q => by simp at q) ⟨rfl, K_, S_, rfl⟩
theorem d3_0 : decode jdk_29_method_65_code 0 = .ok (.iload_n 0, 1) := by decide +kernel
theorem d3_1 : decode jdk_29_method_65_code 1 = .ok (.iload_n 1, 1) := by decide +kernel
theorem d3_2 : decode jdk_29_method_65_code 2 = .ok (.if_icmp .lt 7, 3) := by decide +kernel
theorem d3_5 : decode jdk_29_method_65_code 5 = .ok (.iload_n 0, 1) := by decide +kernel
theorem d3_6 : decode jdk_29_method_65_code 6 = .ok (.goto 4, 3) := by decide +kernel
theorem d3_9 : decode jdk_29_method_65_code 9 = .ok (.iload_n 1, 1) := by decide +kernel
theorem d3_10 : decode jdk_29_method_65_code 10 = .ok (.ireturn, 1) := by decide +kernel
theorem ef_own_max (m : MethodId) (x : Int32) (y : Int32) : entryFrame m #[(.int x), (.int y)] 2 = mkF m 0 #[.val (.int x), .val (.int y)] [] := by first | (simp [entryFrame, mkF, argsToLocals, Value.category]; done) | rfl
set_option maxRecDepth 65536 in
set_option maxHeartbeats 40000000 in
theorem own_max (l : Launch) (Z : State) (a0 : Array Value) (hw : ∀ d ∈ tables_1, d.before a0 Z = true) (hEL : EW Z a0 consts_1) (x : Int32) (y : Int32) (h : Heap) :
    Con l Z consts_1 False (⟨"java/lang/Math", "max", "(II)I"⟩ : MethodName) jdk_29_method_65_code 2 (some .int) ({ frames := 0, cells := 0, slots := 0, locals := 0 } : Room) [] #[(.int x), (.int y)] h (fun v h' ws' => v = some (.int (if x < y then y else x)) ∧ h' = h ∧ ws' = []) := by
  refine Con.intro own_pn2 (fun p e s m below meth c T X => ?_)
  rw [ef_own_max m x y]
  refine s_iloadN X (pc' := 1) d3_0 rfl rfl ?_
  refine s_iloadN X (pc' := 2) d3_1 rfl rfl ?_
  refine s_icmp X (pc' := 9) (pcF := 5) d3_2 (by decide) (by decide) rfl (fun (q : x < y) => ?_) (fun (q : ¬ x < y) => ?_)
  · refine s_iloadN X (pc' := 10) d3_9 rfl rfl ?_
    exact s_iret X hEL (ws' := []) d3_10 (by decide) (by decide) (fun x q => by simp at q) ⟨by rw [if_pos q], rfl, rfl⟩
  · refine s_iloadN X (pc' := 6) d3_5 rfl rfl ?_
    refine s_goto X (pc' := 10) d3_6 (by decide) (by decide) ?_
    exact s_iret X hEL (ws' := []) d3_10 (by decide) (by decide) (fun x q => by simp at q) ⟨by rw [if_neg q], rfl, rfl⟩
theorem d18_0 : decode prog_29_method_1_code 0 = .ok (.getstatic 13, 3) := by decide +kernel
theorem d18_3 : decode prog_29_method_1_code 3 = .ok (.invokevirtual 17, 3) := by decide +kernel
theorem d18_6 : decode prog_29_method_1_code 6 = .ok (.checkcast 18, 3) := by decide +kernel
theorem d18_9 : decode prog_29_method_1_code 9 = .ok (.areturn, 1) := by decide +kernel
theorem ef_own_vals (m : MethodId)  : entryFrame m #[] 0 = mkF m 0 #[] [] := by first | (simp [entryFrame, mkF, argsToLocals, Value.category]; done) | rfl
set_option maxRecDepth 65536 in
set_option maxHeartbeats 40000000 in
theorem own_vals (l : Launch) (Z : State) (a0 : Array Value) (hw : ∀ d ∈ tables_1, d.before a0 Z = true) (hEL : EW Z a0 consts_1)  {vv e0 e1 e2 s0 s1 s2 em : Addr} (h : Heap) (pk : PK Z vv e0 e1 e2 s0 s1 s2 em) :
    Con l Z consts_1 False (⟨"com/example/tally3/tally3/plan/PlanKind", "values", "()[Lcom/example/tally3/tally3/plan/PlanKind;"⟩ : MethodName) prog_29_method_1_code 0 (some (.array (.object "com/example/tally3/tally3/plan/PlanKind"))) ({ frames := 1, cells := 1, slots := 3, locals := 14 } : Room) [] #[] h (fun v h' ws' => ∃ b, v = some (.ref b) ∧ Ext h h' ∧ Ary Z h' b (.object "com/example/tally3/tally3/plan/PlanKind") [.ref e0, .ref e1, .ref e2] ∧ ws' = []) := by
  refine Con.intro own_pn3 (fun p e s m below meth c T X => ?_)
  rw [ef_own_vals m ]
  have R_ : Ext h h := ext_refl _
  refine s_gets X (pc' := 3) d18_0 (hw _ (List.mem_of_getElem? (i := 83) rfl)) Via.refl pk.sv rfl (fun T X => ?_)
  refine s_clone X (pc' := 6) (k' := 1) (n' := 3) (W := 0) d18_3 (hw _ (List.mem_of_getElem? (i := 85) rfl)) (hw _ (List.mem_of_getElem? (i := 86) rfl)) (hw _ (List.mem_of_getElem? (i := 90) rfl)) (hw _ (List.mem_of_getElem? (i := 88) rfl)) (hw _ (List.mem_of_getElem? (i := 89) rfl)) (hw _ (List.mem_of_getElem? (i := 91) rfl)) (pk.av.ext X.old) (pk.xv.ext X.old) rfl (Nat.le_of_ble_eq_true rfl) (by decide) (by decide) (by decide) (Nat.le_of_ble_eq_true rfl) (by decide) (by decide) rfl (fun T h1 b gb X' E1 A_b E_b => ?_)
  have sz_R__b : h.size ≤ b := by rw [gb]; exact R_.1
  replace R_ := ext_trans R_ E1
  replace X := X'
  refine s_castY X (pc' := 9) d18_6 (hw _ (List.mem_of_getElem? (i := 96) rfl)) (Ins.self E_b) rfl (fun T X => ?_)
  exact s_aret X hEL (ws' := []) (t := (.array (.object "com/example/tally3/tally3/plan/PlanKind"))) d18_9 rfl rfl rfl rfl (by decide) (by decide) (fun x q => by simp at q) ⟨b, rfl, R_, A_b, rfl⟩
theorem d25_0 : decode jdk_31_method_10_code 0 = .ok (.aload_n 0, 1) := by decide +kernel
theorem d25_1 : decode jdk_31_method_10_code 1 = .ok (.ifnonnull 11, 3) := by decide +kernel
theorem d25_12 : decode jdk_31_method_10_code 12 = .ok (.aload_n 0, 1) := by decide +kernel
theorem d25_13 : decode jdk_31_method_10_code 13 = .ok (.areturn, 1) := by decide +kernel
theorem ef_own_rnn (m : MethodId) (a : Addr) : entryFrame m #[(.ref a)] 1 = mkF m 0 #[.val (.ref a)] [] := by first | (simp [entryFrame, mkF, argsToLocals, Value.category]; done) | rfl
set_option maxRecDepth 65536 in
set_option maxHeartbeats 40000000 in
theorem own_rnn (l : Launch) (Z : State) (a0 : Array Value) (hw : ∀ d ∈ tables_1, d.before a0 Z = true) (hEL : EW Z a0 consts_1) (a : Addr) (h : Heap) :
    Con l Z consts_1 False (⟨"java/util/Objects", "requireNonNull", "(Ljava/lang/Object;)Ljava/lang/Object;"⟩ : MethodName) jdk_31_method_10_code 1 (some (.object "java/lang/Object")) ({ frames := 0, cells := 0, slots := 0, locals := 0 } : Room) [] #[(.ref a)] h (fun v h' ws' => v = some (.ref a) ∧ h' = h ∧ ws' = []) := by
  refine Con.intro own_pn4 (fun p e s m below meth c T X => ?_)
  rw [ef_own_rnn m a]
  refine s_aloadN X (pc' := 1) d25_0 rfl rfl rfl ?_
  refine s_ifnonnullT X (pc' := 12) d25_1 (by decide) (by decide) ?_
  refine s_aloadN X (pc' := 13) d25_12 rfl rfl rfl ?_
  exact s_aret X hEL (ws' := []) (t := (.object "java/lang/Object")) d25_13 rfl rfl rfl rfl (by decide) (by decide) (fun x q => by simp at q) ⟨rfl, rfl, rfl⟩
theorem d26_0 : decode jdk_32_method_2_code 0 = .ok (.aload_n 0, 1) := by decide +kernel
theorem d26_1 : decode jdk_32_method_2_code 1 = .ok (.invokespecial 7, 3) := by decide +kernel
theorem d26_4 : decode jdk_32_method_2_code 4 = .ok (.aload_n 0, 1) := by decide +kernel
theorem d26_5 : decode jdk_32_method_2_code 5 = .ok (.aload_n 1, 1) := by decide +kernel
theorem d26_6 : decode jdk_32_method_2_code 6 = .ok (.putfield 13, 3) := by decide +kernel
theorem d26_9 : decode jdk_32_method_2_code 9 = .ok (.return_, 1) := by decide +kernel
theorem ef_own_oini (m : MethodId) (k : Addr) (a : Addr) : entryFrame m #[(.ref k), (.ref a)] 2 = mkF m 0 #[.val (.ref k), .val (.ref a)] [] := by first | (simp [entryFrame, mkF, argsToLocals, Value.category]; done) | rfl
set_option maxRecDepth 65536 in
set_option maxHeartbeats 40000000 in
theorem own_oini (l : Launch) (Z : State) (a0 : Array Value) (hw : ∀ d ∈ tables_1, d.before a0 Z = true) (hEL : EW Z a0 consts_1) (k : Addr) (a : Addr) (h : Heap) (g_k : Z.heap.size ≤ k) (E_k : Exa Z h k "java/util/Optional") (F_k_value : Fld Z h k "java/util/Optional" "value" "Ljava/lang/Object;" .null) :
    Con l Z consts_1 False (⟨"java/util/Optional", "<init>", "(Ljava/lang/Object;)V"⟩ : MethodName) jdk_32_method_2_code 2 none ({ frames := 1, cells := 0, slots := 0, locals := 12 } : Room) [k] #[(.ref k), (.ref a)] h (fun v h' ws' => v = none ∧ Keep h h' [k] ∧ Fld Z h' k "java/util/Optional" "value" "Ljava/lang/Object;" (.ref a) ∧ ws' = []) := by
  refine Con.intro own_pn5 (fun p e s m below meth c T X => ?_)
  rw [ef_own_oini m k a]
  have K_ : Keep h h [k] := Keep.refl _ _
  refine s_aloadN X (pc' := 1) d26_0 rfl rfl rfl ?_
  refine s_initO X (pc' := 4) (W := 0) d26_1 (hw _ (List.mem_of_getElem? (i := 143) rfl)) (hw _ (List.mem_of_getElem? (i := 64) rfl)) (b' := object_method_1_code) rfl (hw _ (List.mem_of_getElem? (i := 65) rfl)) (Nat.le_of_ble_eq_true rfl) (by decide) (by decide) rfl rfl (fun T X => ?_)
  refine s_aloadN X (pc' := 5) d26_4 rfl rfl rfl ?_
  refine s_aloadN X (pc' := 6) d26_5 rfl rfl rfl ?_
  refine s_putf X (pc' := 9) d26_6 (hw _ (List.mem_of_getElem? (i := 125) rfl)) Via.refl F_k_value E_k (Or.inr ⟨(hw _ (List.mem_of_getElem? (i := 126) rfl)), rfl, rfl⟩) (hw _ (List.mem_of_getElem? (i := 134) rfl)) (ty := (.object "java/lang/Object")) (by decide) rfl rfl g_k (by simp) rfl (fun T h11 X W12 => ?_)
  replace F_k_value := F_k_value.same W12
  replace E_k := E_k.wr W12
  replace K_ := K_.wr W12 (Or.inl (by simp))
  exact s_ret X hEL (ws' := []) d26_9 (by decide) (by decide) (fun x q => by simp at q) ⟨rfl, K_, F_k_value, rfl⟩
theorem d24_0 : decode jdk_32_method_3_code 0 = .ok (.new 2, 3) := by decide +kernel
theorem d24_3 : decode jdk_32_method_3_code 3 = .ok (.dup, 1) := by decide +kernel
theorem d24_4 : decode jdk_32_method_3_code 4 = .ok (.aload_n 0, 1) := by decide +kernel
theorem d24_5 : decode jdk_32_method_3_code 5 = .ok (.invokestatic 17, 3) := by decide +kernel
theorem d24_8 : decode jdk_32_method_3_code 8 = .ok (.invokespecial 23, 3) := by decide +kernel
theorem d24_11 : decode jdk_32_method_3_code 11 = .ok (.areturn, 1) := by decide +kernel
theorem ef_own_of (m : MethodId) (a : Addr) : entryFrame m #[(.ref a)] 1 = mkF m 0 #[.val (.ref a)] [] := by first | (simp [entryFrame, mkF, argsToLocals, Value.category]; done) | rfl
set_option maxRecDepth 65536 in
set_option maxHeartbeats 40000000 in
theorem own_of (l : Launch) (Z : State) (a0 : Array Value) (hw : ∀ d ∈ tables_1, d.before a0 Z = true) (hEL : EW Z a0 consts_1) (a : Addr) (h : Heap) :
    Con l Z consts_1 False (⟨"java/util/Optional", "of", "(Ljava/lang/Object;)Ljava/util/Optional;"⟩ : MethodName) jdk_32_method_3_code 1 (some (.object "java/util/Optional")) ({ frames := 2, cells := 1, slots := 1, locals := 26 } : Room) [] #[(.ref a)] h (fun v h' ws' => ∃ o, v = some (.ref o) ∧ Ext h h' ∧ Exa Z h' o "java/util/Optional" ∧ Fld Z h' o "java/util/Optional" "value" "Ljava/lang/Object;" (.ref a) ∧ ws' = []) := by
  refine Con.intro own_pn6 (fun p e s m below meth c T X => ?_)
  rw [ef_own_of m a]
  have R_ : Ext h h := ext_refl _
  refine s_new X (pc' := 3) (k' := 1) (n' := 1) d24_0 (hw _ (List.mem_of_getElem? (i := 133) rfl)) (hw _ (List.mem_of_getElem? (i := 134) rfl)) (hw _ (List.mem_of_getElem? (i := 111) rfl)) (by decide) (by decide) (by decide) (by decide) rfl (fun T h14 b13 gb_b13 X' E15 E_b13 D_b13 U_b13 => ?_)
  have g_b13 : Z.heap.size ≤ b13 := by rw [gb_b13]; exact X.lt
  have sz_R__b13 : h.size ≤ b13 := by rw [gb_b13]; exact R_.1
  replace R_ := ext_trans R_ E15
  replace X := X'
  have F_b13_value : Fld Z h14 b13 "java/util/Optional" "value" "Ljava/lang/Object;" .null := D_b13 (Or.inr (hw _ (List.mem_of_getElem? (i := 126) rfl))) (ty := (.object "java/lang/Object")) (by decide)
  refine s_dup X (pc' := 4) d24_3 rfl rfl ?_
  refine s_aloadN X (pc' := 5) d24_4 rfl rfl rfl ?_
  refine s_static X (pc' := 8) (W := 2) (as' := [(.ref a)]) (S := [(.ref b13), (.ref b13)]) (k' := 1) (n' := 1) d24_5 (hw _ (List.mem_of_getElem? (i := 135) rfl)) (hw _ (List.mem_of_getElem? (i := 136) rfl)) (hw _ (List.mem_of_getElem? (i := 137) rfl)) (hw _ (List.mem_of_getElem? (i := 138) rfl)) (by decide) own_pd1 rfl ((own_rnn l Z a0 hw hEL a _).payS (by simp) (hw _ (List.mem_of_getElem? (i := 138) rfl)) (hw _ (List.mem_of_getElem? (i := 137) rfl)) hEL (by decide) (by decide)) (Nat.le_of_ble_eq_true rfl) rfl rfl (by decide) (by decide) (by decide) (by decide) rfl (fun T h16 v_ ws_ X hgr_ q17 => ?_)
  obtain ⟨rfl, e_, rfl⟩ := q17
  rw [e_] at X
  show Go p e below _ T (mkF m 8 #[.val (.ref a)] [(.ref a), (.ref b13), (.ref b13)])
  replace X := X.sub (ws' := [b13]) (by simp)
  refine s_special X (pc' := 11) (W := 1) (as' := [(.ref a)]) (S := [(.ref b13)]) (k' := 1) (n' := 1) d24_8 rfl (hw _ (List.mem_of_getElem? (i := 139) rfl)) (hw _ (List.mem_of_getElem? (i := 140) rfl)) (hw _ (List.mem_of_getElem? (i := 142) rfl)) (by decide) own_pd2 rfl ((own_oini l Z a0 hw hEL b13 a _ g_b13 E_b13 F_b13_value).payS (by simp) (hw _ (List.mem_of_getElem? (i := 142) rfl)) (hw _ (List.mem_of_getElem? (i := 111) rfl)) hEL (by decide) (by decide)) (Nat.le_of_ble_eq_true rfl) rfl rfl (by decide) (by decide) (by decide) (by decide) rfl (fun T h18 v_ ws_ X hgr_ q19 => ?_)
  obtain ⟨rfl, K_, F', rfl⟩ := q19
  show Go p e below _ T (mkF m 11 #[.val (.ref a)] [(.ref b13)])
  replace X := X.sub (ws' := []) (by simp)
  replace E_b13 := E_b13.keep K_
  replace R_ := ext_keep R_ K_ (allS sz_R__b13 all0)
  exact s_aret X hEL (ws' := []) (t := (.object "java/util/Optional")) d24_11 rfl rfl rfl rfl (by decide) (by decide) (fun x q => by simp at q) ⟨b13, rfl, R_, E_b13, F', rfl⟩
theorem d21_0 : decode jdk_32_method_1_code 0 = .ok (.getstatic 1, 3) := by decide +kernel
theorem d21_3 : decode jdk_32_method_1_code 3 = .ok (.astore_n 0, 1) := by decide +kernel
theorem d21_4 : decode jdk_32_method_1_code 4 = .ok (.aload_n 0, 1) := by decide +kernel
theorem d21_5 : decode jdk_32_method_1_code 5 = .ok (.areturn, 1) := by decide +kernel
theorem ef_own_emp (m : MethodId)  : entryFrame m #[] 1 = mkF m 0 #[.unset] [] := by first | (simp [entryFrame, mkF, argsToLocals, Value.category]; done) | rfl
set_option maxRecDepth 65536 in
set_option maxHeartbeats 40000000 in
theorem own_emp (l : Launch) (Z : State) (a0 : Array Value) (hw : ∀ d ∈ tables_1, d.before a0 Z = true) (hEL : EW Z a0 consts_1)  {vv e0 e1 e2 s0 s1 s2 em : Addr} (h : Heap) (pk : PK Z vv e0 e1 e2 s0 s1 s2 em) :
    Con l Z consts_1 False (⟨"java/util/Optional", "empty", "()Ljava/util/Optional;"⟩ : MethodName) jdk_32_method_1_code 1 (some (.object "java/util/Optional")) ({ frames := 0, cells := 0, slots := 0, locals := 0 } : Room) [] #[] h (fun v h' ws' => v = some (.ref em) ∧ h' = h ∧ ws' = []) := by
  refine Con.intro own_pn7 (fun p e s m below meth c T X => ?_)
  rw [ef_own_emp m ]
  refine s_gets X (pc' := 3) d21_0 (hw _ (List.mem_of_getElem? (i := 113) rfl)) Via.refl pk.sm rfl (fun T X => ?_)
  refine s_astoreN X (pc' := 4) (L' := #[.val (.ref em)]) d21_3 rfl rfl rfl ?_
  refine s_aloadN X (pc' := 5) d21_4 rfl rfl rfl ?_
  exact s_aret X hEL (ws' := []) (t := (.object "java/util/Optional")) d21_5 rfl rfl rfl rfl (by decide) (by decide) (fun x q => by simp at q) ⟨rfl, rfl, rfl⟩
theorem d23_0 : decode jdk_32_method_6_code 0 = .ok (.aload_n 0, 1) := by decide +kernel
theorem d23_1 : decode jdk_32_method_6_code 1 = .ok (.getfield 13, 3) := by decide +kernel
theorem d23_4 : decode jdk_32_method_6_code 4 = .ok (.ifnull 7, 3) := by decide +kernel
theorem d23_7 : decode jdk_32_method_6_code 7 = .ok (.iconst 1, 1) := by decide +kernel
theorem d23_8 : decode jdk_32_method_6_code 8 = .ok (.goto 4, 3) := by decide +kernel
theorem d23_11 : decode jdk_32_method_6_code 11 = .ok (.iconst 0, 1) := by decide +kernel
theorem d23_12 : decode jdk_32_method_6_code 12 = .ok (.ireturn, 1) := by decide +kernel
theorem ef_own_ip0 (m : MethodId) (k : Addr) : entryFrame m #[(.ref k)] 1 = mkF m 0 #[.val (.ref k)] [] := by first | (simp [entryFrame, mkF, argsToLocals, Value.category]; done) | rfl
set_option maxRecDepth 65536 in
set_option maxHeartbeats 40000000 in
theorem own_ip0 (l : Launch) (Z : State) (a0 : Array Value) (hw : ∀ d ∈ tables_1, d.before a0 Z = true) (hEL : EW Z a0 consts_1) (k : Addr) {q : Addr} (h : Heap) (F_k_value : Fld Z h k "java/util/Optional" "value" "Ljava/lang/Object;" .null) :
    Con l Z consts_1 False (⟨"java/util/Optional", "isPresent", "()Z"⟩ : MethodName) jdk_32_method_6_code 1 (some .boolean) ({ frames := 0, cells := 0, slots := 0, locals := 0 } : Room) [] #[(.ref k)] h (fun v h' ws' => v = some (.int (0)) ∧ h' = h ∧ ws' = []) := by
  refine Con.intro own_pn8 (fun p e s m below meth c T X => ?_)
  rw [ef_own_ip0 m k]
  refine s_aloadN X (pc' := 1) d23_0 rfl rfl rfl ?_
  refine s_getf X (pc' := 4) d23_1 (hw _ (List.mem_of_getElem? (i := 125) rfl)) Via.refl F_k_value rfl (fun T X => ?_)
  refine s_ifnullT X (b := 0) (pc' := 11) d23_4 (by decide) (by decide) ?_
  refine s_iconst X (pc' := 12) d23_11 (v := (0 : Int32)) rfl rfl ?_
  exact s_iretN X hEL (ws' := []) (t := .boolean) d23_12 rfl (by simp) (by decide) (by decide) (fun x q => by simp at q) ⟨rfl, rfl, rfl⟩
theorem ef_own_ip1 (m : MethodId) (k : Addr) : entryFrame m #[(.ref k)] 1 = mkF m 0 #[.val (.ref k)] [] := by first | (simp [entryFrame, mkF, argsToLocals, Value.category]; done) | rfl
set_option maxRecDepth 65536 in
set_option maxHeartbeats 40000000 in
theorem own_ip1 (l : Launch) (Z : State) (a0 : Array Value) (hw : ∀ d ∈ tables_1, d.before a0 Z = true) (hEL : EW Z a0 consts_1) (k : Addr) {q : Addr} (h : Heap) (F_k_value : Fld Z h k "java/util/Optional" "value" "Ljava/lang/Object;" (.ref q)) :
    Con l Z consts_1 False (⟨"java/util/Optional", "isPresent", "()Z"⟩ : MethodName) jdk_32_method_6_code 1 (some .boolean) ({ frames := 0, cells := 0, slots := 0, locals := 0 } : Room) [] #[(.ref k)] h (fun v h' ws' => v = some (.int (1)) ∧ h' = h ∧ ws' = []) := by
  refine Con.intro own_pn8 (fun p e s m below meth c T X => ?_)
  rw [ef_own_ip1 m k]
  refine s_aloadN X (pc' := 1) d23_0 rfl rfl rfl ?_
  refine s_getf X (pc' := 4) d23_1 (hw _ (List.mem_of_getElem? (i := 125) rfl)) Via.refl F_k_value rfl (fun T X => ?_)
  refine s_ifnullF X (pc' := 7) d23_4 rfl ?_
  refine s_iconst X (pc' := 8) d23_7 (v := (1 : Int32)) rfl rfl ?_
  refine s_goto X (pc' := 12) d23_8 (by decide) (by decide) ?_
  exact s_iretN X hEL (ws' := []) (t := .boolean) d23_12 rfl (by simp) (by decide) (by decide) (fun x q => by simp at q) ⟨rfl, rfl, rfl⟩
theorem d27_0 : decode jdk_32_method_5_code 0 = .ok (.aload_n 0, 1) := by decide +kernel
theorem d27_1 : decode jdk_32_method_5_code 1 = .ok (.getfield 13, 3) := by decide +kernel
theorem d27_4 : decode jdk_32_method_5_code 4 = .ok (.ifnonnull 13, 3) := by decide +kernel
theorem d27_17 : decode jdk_32_method_5_code 17 = .ok (.aload_n 0, 1) := by decide +kernel
theorem d27_18 : decode jdk_32_method_5_code 18 = .ok (.getfield 13, 3) := by decide +kernel
theorem d27_21 : decode jdk_32_method_5_code 21 = .ok (.areturn, 1) := by decide +kernel
theorem ef_own_get (m : MethodId) (k : Addr) : entryFrame m #[(.ref k)] 1 = mkF m 0 #[.val (.ref k)] [] := by first | (simp [entryFrame, mkF, argsToLocals, Value.category]; done) | rfl
set_option maxRecDepth 65536 in
set_option maxHeartbeats 40000000 in
theorem own_get (l : Launch) (Z : State) (a0 : Array Value) (hw : ∀ d ∈ tables_1, d.before a0 Z = true) (hEL : EW Z a0 consts_1) (k : Addr) {q : Addr} (h : Heap) (F_k_value : Fld Z h k "java/util/Optional" "value" "Ljava/lang/Object;" (.ref q)) :
    Con l Z consts_1 False (⟨"java/util/Optional", "get", "()Ljava/lang/Object;"⟩ : MethodName) jdk_32_method_5_code 1 (some (.object "java/lang/Object")) ({ frames := 0, cells := 0, slots := 0, locals := 0 } : Room) [] #[(.ref k)] h (fun v h' ws' => v = some (.ref q) ∧ h' = h ∧ ws' = []) := by
  refine Con.intro own_pn9 (fun p e s m below meth c T X => ?_)
  rw [ef_own_get m k]
  refine s_aloadN X (pc' := 1) d27_0 rfl rfl rfl ?_
  refine s_getf X (pc' := 4) d27_1 (hw _ (List.mem_of_getElem? (i := 125) rfl)) Via.refl F_k_value rfl (fun T X => ?_)
  refine s_ifnonnullT X (pc' := 17) d27_4 (by decide) (by decide) ?_
  refine s_aloadN X (pc' := 18) d27_17 rfl rfl rfl ?_
  refine s_getf X (pc' := 21) d27_18 (hw _ (List.mem_of_getElem? (i := 125) rfl)) Via.refl F_k_value rfl (fun T X => ?_)
  exact s_aret X hEL (ws' := []) (t := (.object "java/lang/Object")) d27_21 rfl rfl rfl rfl (by decide) (by decide) (fun x q => by simp at q) ⟨rfl, rfl, rfl⟩
theorem d19_0 : decode jdk_42_method_66_code 0 = .ok (.aload_n 0, 1) := by decide +kernel
theorem d19_1 : decode jdk_42_method_66_code 1 = .ok (.aload_n 1, 1) := by decide +kernel
theorem d19_2 : decode jdk_42_method_66_code 2 = .ok (.if_acmp .ne 5, 3) := by decide +kernel
theorem d19_7 : decode jdk_42_method_66_code 7 = .ok (.aload_n 1, 1) := by decide +kernel
theorem d19_8 : decode jdk_42_method_66_code 8 = .ok (.instanceof 10, 3) := by decide +kernel
theorem d19_11 : decode jdk_42_method_66_code 11 = .ok (.ifCond .eq 43, 3) := by decide +kernel
theorem d19_54 : decode jdk_42_method_66_code 54 = .ok (.iconst 0, 1) := by decide +kernel
theorem d19_55 : decode jdk_42_method_66_code 55 = .ok (.ireturn, 1) := by decide +kernel
theorem ef_own_eqn (m : MethodId) (a : Addr) : entryFrame m #[(.ref a), .null] 3 = mkF m 0 #[.val (.ref a), .val .null, .unset] [] := by first | (simp [entryFrame, mkF, argsToLocals, Value.category]; done) | rfl
set_option maxRecDepth 65536 in
set_option maxHeartbeats 40000000 in
theorem own_eqn (l : Launch) (Z : State) (a0 : Array Value) (hw : ∀ d ∈ tables_1, d.before a0 Z = true) (hEL : EW Z a0 consts_1) (a : Addr) (h : Heap) :
    Con l Z consts_1 False (⟨"java/lang/String", "equals", "(Ljava/lang/Object;)Z"⟩ : MethodName) jdk_42_method_66_code 3 (some .boolean) ({ frames := 0, cells := 0, slots := 0, locals := 0 } : Room) [] #[(.ref a), .null] h (fun v h' ws' => v = some (.int (0)) ∧ h' = h ∧ ws' = []) := by
  refine Con.intro own_pn10 (fun p e s m below meth c T X => ?_)
  rw [ef_own_eqn m a]
  refine s_aloadN X (pc' := 1) d19_0 rfl rfl rfl ?_
  refine s_aloadN X (pc' := 2) d19_1 rfl rfl rfl ?_
  refine s_acmpT X (pc' := 7) d19_2 rfl rfl rfl (by decide) (by decide) ?_
  refine s_aloadN X (pc' := 8) d19_7 rfl rfl rfl ?_
  refine s_instNull X (pc' := 11) d19_8 rfl ?_
  refine s_ifT X (pc' := 54) d19_11 (show (0 : Int32) = (0 : Int32) by decide) (by decide) (by decide) ?_
  refine s_iconst X (pc' := 55) d19_54 (v := (0 : Int32)) rfl rfl ?_
  exact s_iretN X hEL (ws' := []) (t := .boolean) d19_55 rfl (by simp) (by decide) (by decide) (fun x q => by simp at q) ⟨rfl, rfl, rfl⟩
theorem d17_0 : decode prog_29_method_5_code 0 = .ok (.invokestatic 40, 3) := by decide +kernel
theorem d17_3 : decode prog_29_method_5_code 3 = .ok (.astore_n 1, 1) := by decide +kernel
theorem d17_4 : decode prog_29_method_5_code 4 = .ok (.aload_n 1, 1) := by decide +kernel
theorem d17_5 : decode prog_29_method_5_code 5 = .ok (.arraylength, 1) := by decide +kernel
theorem d17_6 : decode prog_29_method_5_code 6 = .ok (.istore_n 2, 1) := by decide +kernel
theorem d17_7 : decode prog_29_method_5_code 7 = .ok (.iconst 0, 1) := by decide +kernel
theorem d17_8 : decode prog_29_method_5_code 8 = .ok (.istore_n 3, 1) := by decide +kernel
theorem d17_9 : decode prog_29_method_5_code 9 = .ok (.iload_n 3, 1) := by decide +kernel
theorem d17_10 : decode prog_29_method_5_code 10 = .ok (.iload_n 2, 1) := by decide +kernel
theorem d17_11 : decode prog_29_method_5_code 11 = .ok (.if_icmp .ge 32, 3) := by decide +kernel
theorem d17_14 : decode prog_29_method_5_code 14 = .ok (.aload_n 1, 1) := by decide +kernel
theorem d17_15 : decode prog_29_method_5_code 15 = .ok (.iload_n 3, 1) := by decide +kernel
theorem d17_16 : decode prog_29_method_5_code 16 = .ok (.aaload, 1) := by decide +kernel
theorem d17_17 : decode prog_29_method_5_code 17 = .ok (.astore 4, 2) := by decide +kernel
theorem d17_19 : decode prog_29_method_5_code 19 = .ok (.aload 4, 2) := by decide +kernel
theorem d17_21 : decode prog_29_method_5_code 21 = .ok (.getfield 32, 3) := by decide +kernel
theorem d17_24 : decode prog_29_method_5_code 24 = .ok (.aload_n 0, 1) := by decide +kernel
theorem d17_25 : decode prog_29_method_5_code 25 = .ok (.invokevirtual 44, 3) := by decide +kernel
theorem d17_28 : decode prog_29_method_5_code 28 = .ok (.ifCond .eq 9, 3) := by decide +kernel
theorem d17_31 : decode prog_29_method_5_code 31 = .ok (.aload 4, 2) := by decide +kernel
theorem d17_33 : decode prog_29_method_5_code 33 = .ok (.invokestatic 50, 3) := by decide +kernel
theorem d17_36 : decode prog_29_method_5_code 36 = .ok (.areturn, 1) := by decide +kernel
theorem d17_37 : decode prog_29_method_5_code 37 = .ok (.iinc 3 1, 3) := by decide +kernel
theorem d17_40 : decode prog_29_method_5_code 40 = .ok (.goto (-31), 3) := by decide +kernel
theorem d17_43 : decode prog_29_method_5_code 43 = .ok (.invokestatic 56, 3) := by decide +kernel
theorem d17_46 : decode prog_29_method_5_code 46 = .ok (.areturn, 1) := by decide +kernel
theorem ef_own_api (m : MethodId) (r : Addr) : entryFrame m #[(.ref r)] 5 = mkF m 0 #[.val (.ref r), .unset, .unset, .unset, .unset] [] := by first | (simp [entryFrame, mkF, argsToLocals, Value.category]; done) | rfl
set_option maxRecDepth 65536 in
set_option maxHeartbeats 40000000 in
theorem own_api (l : Launch) (Z : State) (a0 : Array Value) (hw : ∀ d ∈ tables_1, d.before a0 Z = true) (hEL : EW Z a0 consts_1) (r : Addr) {vv e0 e1 e2 s0 s1 s2 em : Addr} {cs : List Int32} {G1 : Int32} (h : Heap) (S_r : Str Z h r cs) (O2 : Sta Z Z.heap "java/lang/String" "COMPACT_STRINGS" "Z" (.int G1)) (P5 : ¬ (G1 = (0 : Int32))) (pk : PK Z vv e0 e1 e2 s0 s1 s2 em) :
    Con l Z consts_1 False (⟨"com/example/tally3/tally3/plan/PlanKind", "ofApiName", "(Ljava/lang/String;)Ljava/util/Optional;"⟩ : MethodName) prog_29_method_5_code 5 (some (.object "java/util/Optional")) ({ frames := 3, cells := 2, slots := 4, locals := 38 } : Room) [] #[(.ref r)] h (fun v h' ws' => ∃ o, v = some (.ref o) ∧ Ext h h' ∧ Exa Z h' o "java/util/Optional" ∧ Fld Z h' o "java/util/Optional" "value" "Ljava/lang/Object;" (pkV cs e0 e1 e2) ∧ ws' = []) := by
  refine Con.intro own_pn11 (fun p e s m below meth c T X => ?_)
  rw [ef_own_api m r]
  have R_ : Ext h h := ext_refl _
  refine s_static X (pc' := 3) (W := 0) (as' := []) (S := []) (k' := 1) (n' := 3) d17_0 (hw _ (List.mem_of_getElem? (i := 80) rfl)) (hw _ (List.mem_of_getElem? (i := 81) rfl)) (hw _ (List.mem_of_getElem? (i := 78) rfl)) (hw _ (List.mem_of_getElem? (i := 82) rfl)) (by decide) own_pd3 rfl ((own_vals l Z a0 hw hEL _ pk).payS (by simp) (hw _ (List.mem_of_getElem? (i := 82) rfl)) (hw _ (List.mem_of_getElem? (i := 78) rfl)) hEL (by decide) (by decide)) (Nat.le_of_ble_eq_true rfl) rfl rfl (by decide) (by decide) (by decide) (by decide) rfl (fun T h20 v_ ws_ X hgr_ q21 => ?_)
  obtain ⟨b, rfl, E_, A_b, rfl⟩ := q21
  show Go p e below _ T (mkF m 3 #[.val (.ref r), .unset, .unset, .unset, .unset] [(.ref b)])
  replace X := X.sub (ws' := []) (by simp)
  replace S_r := S_r.ext E_
  replace R_ := ext_trans R_ E_
  have F_e0_apiName := pk.f0.ext X.old
  have S_s0 := pk.t0.ext X.old
  have E_s0 := S_s0.exa
  have F_e1_apiName := pk.f1.ext X.old
  have S_s1 := pk.t1.ext X.old
  have E_s1 := S_s1.exa
  have F_e2_apiName := pk.f2.ext X.old
  have S_s2 := pk.t2.ext X.old
  have E_s2 := S_s2.exa
  refine s_astoreN X (pc' := 4) (L' := #[.val (.ref r), .val (.ref b), .unset, .unset, .unset]) d17_3 rfl rfl rfl ?_
  refine s_aloadN X (pc' := 5) d17_4 rfl rfl rfl ?_
  refine s_alen X (pc' := 6) (z := (3 : Int32)) d17_5 A_b rfl rfl ?_
  refine s_istoreN X (pc' := 7) (L' := #[.val (.ref r), .val (.ref b), .val (.int (3 : Int32)), .unset, .unset]) d17_6 rfl rfl ?_
  refine s_iconst X (pc' := 8) d17_7 (v := (0 : Int32)) rfl rfl ?_
  refine s_istoreN X (pc' := 9) (L' := #[.val (.ref r), .val (.ref b), .val (.int (3 : Int32)), .val (.int (0 : Int32)), .unset]) d17_8 rfl rfl ?_
  refine s_iloadN X (pc' := 10) d17_9 rfl rfl ?_
  refine s_iloadN X (pc' := 11) d17_10 rfl rfl ?_
  refine s_icmpF X (pc' := 14) d17_11 (show (0 : Int32) < (3 : Int32) by decide) rfl ?_
  refine s_aloadN X (pc' := 15) d17_14 rfl rfl rfl ?_
  refine s_iloadN X (pc' := 16) d17_15 rfl rfl ?_
  refine s_aaload X (pc' := 17) (i := 0) (v := (.ref e0)) d17_16 A_b rfl rfl rfl rfl ?_
  refine s_astore X (pc' := 19) (L' := #[.val (.ref r), .val (.ref b), .val (.int (3 : Int32)), .val (.int (0 : Int32)), .val (.ref e0)]) d17_17 rfl rfl rfl ?_
  refine s_aload X (pc' := 21) d17_19 rfl rfl rfl ?_
  refine s_getf X (pc' := 24) d17_21 (hw _ (List.mem_of_getElem? (i := 98) rfl)) Via.refl F_e0_apiName rfl (fun T X => ?_)
  refine s_aloadN X (pc' := 25) d17_24 rfl rfl rfl ?_
  refine s_virtual X (pc' := 28) (W := 0) (as' := [(.ref r)]) (S := []) (k' := 1) (n' := 3) d17_25 (hw _ (List.mem_of_getElem? (i := 100) rfl)) (hw _ (List.mem_of_getElem? (i := 101) rfl)) (hw _ (List.mem_of_getElem? (i := 103) rfl)) (hw _ (List.mem_of_getElem? (i := 102) rfl)) (nface (hw _ (List.mem_of_getElem? (i := 103) rfl))) (by decide) own_pd4 rfl E_s0 (eqPay hw hEL O2 P5 X.old S_s0 S_r (by decide) (by decide)) (Nat.le_of_ble_eq_true rfl) rfl rfl (by decide) (by decide) (by decide) (by decide) rfl (fun T h22 v_ ws_ X hgr_ q23 => ?_)
  obtain ⟨rfl, e_, rfl⟩ := q23
  rw [e_] at X
  show Go p e below _ T (mkF m 28 #[.val (.ref r), .val (.ref b), .val (.int (3 : Int32)), .val (.int (0 : Int32)), .val (.ref e0)] [(.int (if wM = cs then 1 else 0))])
  replace X := X.sub (ws' := []) (by simp)
  refine s_if X (pc' := 37) (pcF := 31) d17_28 (by decide) (by decide) rfl (fun (q0 : (if wM = cs then 1 else 0) = (0 : Int32)) => ?_) (fun (q0 : ¬ (if wM = cs then 1 else 0) = (0 : Int32)) => ?_)
  · have n0 : ¬ wM = cs := fun z => by rw [if_pos z] at q0; exact absurd q0 (by decide)
    refine s_iinc X (pc' := 40) (L' := #[.val (.ref r), .val (.ref b), .val (.int (3 : Int32)), .val (.int (1 : Int32)), .val (.ref e0)]) d17_37 (v := (1 : Int32)) (by decide) rfl rfl rfl ?_
    refine s_goto X (pc' := 9) d17_40 (by decide) (by decide) ?_
    refine s_iloadN X (pc' := 10) d17_9 rfl rfl ?_
    refine s_iloadN X (pc' := 11) d17_10 rfl rfl ?_
    refine s_icmpF X (pc' := 14) d17_11 (show (1 : Int32) < (3 : Int32) by decide) rfl ?_
    refine s_aloadN X (pc' := 15) d17_14 rfl rfl rfl ?_
    refine s_iloadN X (pc' := 16) d17_15 rfl rfl ?_
    refine s_aaload X (pc' := 17) (i := 1) (v := (.ref e1)) d17_16 A_b rfl rfl rfl rfl ?_
    refine s_astore X (pc' := 19) (L' := #[.val (.ref r), .val (.ref b), .val (.int (3 : Int32)), .val (.int (1 : Int32)), .val (.ref e1)]) d17_17 rfl rfl rfl ?_
    refine s_aload X (pc' := 21) d17_19 rfl rfl rfl ?_
    refine s_getf X (pc' := 24) d17_21 (hw _ (List.mem_of_getElem? (i := 98) rfl)) Via.refl F_e1_apiName rfl (fun T X => ?_)
    refine s_aloadN X (pc' := 25) d17_24 rfl rfl rfl ?_
    refine s_virtual X (pc' := 28) (W := 0) (as' := [(.ref r)]) (S := []) (k' := 1) (n' := 3) d17_25 (hw _ (List.mem_of_getElem? (i := 100) rfl)) (hw _ (List.mem_of_getElem? (i := 101) rfl)) (hw _ (List.mem_of_getElem? (i := 103) rfl)) (hw _ (List.mem_of_getElem? (i := 102) rfl)) (nface (hw _ (List.mem_of_getElem? (i := 103) rfl))) (by decide) own_pd4 rfl E_s1 (eqPay hw hEL O2 P5 X.old S_s1 S_r (by decide) (by decide)) (Nat.le_of_ble_eq_true rfl) rfl rfl (by decide) (by decide) (by decide) (by decide) rfl (fun T h26 v_ ws_ X hgr_ q27 => ?_)
    obtain ⟨rfl, e_, rfl⟩ := q27
    rw [e_] at X
    show Go p e below _ T (mkF m 28 #[.val (.ref r), .val (.ref b), .val (.int (3 : Int32)), .val (.int (1 : Int32)), .val (.ref e1)] [(.int (if wR = cs then 1 else 0))])
    replace X := X.sub (ws' := []) (by simp)
    refine s_if X (pc' := 37) (pcF := 31) d17_28 (by decide) (by decide) rfl (fun (q1 : (if wR = cs then 1 else 0) = (0 : Int32)) => ?_) (fun (q1 : ¬ (if wR = cs then 1 else 0) = (0 : Int32)) => ?_)
    · have n1 : ¬ wR = cs := fun z => by rw [if_pos z] at q1; exact absurd q1 (by decide)
      refine s_iinc X (pc' := 40) (L' := #[.val (.ref r), .val (.ref b), .val (.int (3 : Int32)), .val (.int (2 : Int32)), .val (.ref e1)]) d17_37 (v := (1 : Int32)) (by decide) rfl rfl rfl ?_
      refine s_goto X (pc' := 9) d17_40 (by decide) (by decide) ?_
      refine s_iloadN X (pc' := 10) d17_9 rfl rfl ?_
      refine s_iloadN X (pc' := 11) d17_10 rfl rfl ?_
      refine s_icmpF X (pc' := 14) d17_11 (show (2 : Int32) < (3 : Int32) by decide) rfl ?_
      refine s_aloadN X (pc' := 15) d17_14 rfl rfl rfl ?_
      refine s_iloadN X (pc' := 16) d17_15 rfl rfl ?_
      refine s_aaload X (pc' := 17) (i := 2) (v := (.ref e2)) d17_16 A_b rfl rfl rfl rfl ?_
      refine s_astore X (pc' := 19) (L' := #[.val (.ref r), .val (.ref b), .val (.int (3 : Int32)), .val (.int (2 : Int32)), .val (.ref e2)]) d17_17 rfl rfl rfl ?_
      refine s_aload X (pc' := 21) d17_19 rfl rfl rfl ?_
      refine s_getf X (pc' := 24) d17_21 (hw _ (List.mem_of_getElem? (i := 98) rfl)) Via.refl F_e2_apiName rfl (fun T X => ?_)
      refine s_aloadN X (pc' := 25) d17_24 rfl rfl rfl ?_
      refine s_virtual X (pc' := 28) (W := 0) (as' := [(.ref r)]) (S := []) (k' := 1) (n' := 3) d17_25 (hw _ (List.mem_of_getElem? (i := 100) rfl)) (hw _ (List.mem_of_getElem? (i := 101) rfl)) (hw _ (List.mem_of_getElem? (i := 103) rfl)) (hw _ (List.mem_of_getElem? (i := 102) rfl)) (nface (hw _ (List.mem_of_getElem? (i := 103) rfl))) (by decide) own_pd4 rfl E_s2 (eqPay hw hEL O2 P5 X.old S_s2 S_r (by decide) (by decide)) (Nat.le_of_ble_eq_true rfl) rfl rfl (by decide) (by decide) (by decide) (by decide) rfl (fun T h30 v_ ws_ X hgr_ q31 => ?_)
      obtain ⟨rfl, e_, rfl⟩ := q31
      rw [e_] at X
      show Go p e below _ T (mkF m 28 #[.val (.ref r), .val (.ref b), .val (.int (3 : Int32)), .val (.int (2 : Int32)), .val (.ref e2)] [(.int (if wP = cs then 1 else 0))])
      replace X := X.sub (ws' := []) (by simp)
      refine s_if X (pc' := 37) (pcF := 31) d17_28 (by decide) (by decide) rfl (fun (q2 : (if wP = cs then 1 else 0) = (0 : Int32)) => ?_) (fun (q2 : ¬ (if wP = cs then 1 else 0) = (0 : Int32)) => ?_)
      · have n2 : ¬ wP = cs := fun z => by rw [if_pos z] at q2; exact absurd q2 (by decide)
        refine s_iinc X (pc' := 40) (L' := #[.val (.ref r), .val (.ref b), .val (.int (3 : Int32)), .val (.int (3 : Int32)), .val (.ref e2)]) d17_37 (v := (1 : Int32)) (by decide) rfl rfl rfl ?_
        refine s_goto X (pc' := 9) d17_40 (by decide) (by decide) ?_
        refine s_iloadN X (pc' := 10) d17_9 rfl rfl ?_
        refine s_iloadN X (pc' := 11) d17_10 rfl rfl ?_
        refine s_icmpT X (pc' := 43) d17_11 (show ¬ (3 : Int32) < (3 : Int32) by decide) (by decide) (by decide) ?_
        refine s_static X (pc' := 46) (W := 0) (as' := []) (S := []) (k' := 1) (n' := 3) d17_43 (hw _ (List.mem_of_getElem? (i := 109) rfl)) (hw _ (List.mem_of_getElem? (i := 110) rfl)) (hw _ (List.mem_of_getElem? (i := 111) rfl)) (hw _ (List.mem_of_getElem? (i := 112) rfl)) (by decide) own_pd6 rfl ((own_emp l Z a0 hw hEL _ pk).payS (by simp) (hw _ (List.mem_of_getElem? (i := 112) rfl)) (hw _ (List.mem_of_getElem? (i := 111) rfl)) hEL (by decide) (by decide)) (Nat.le_of_ble_eq_true rfl) rfl rfl (by decide) (by decide) (by decide) (by decide) rfl (fun T h34 v_ ws_ X hgr_ q35 => ?_)
        obtain ⟨rfl, e_, rfl⟩ := q35
        rw [e_] at X
        show Go p e below _ T (mkF m 46 #[.val (.ref r), .val (.ref b), .val (.int (3 : Int32)), .val (.int (3 : Int32)), .val (.ref e2)] [(.ref em)])
        replace X := X.sub (ws' := []) (by simp)
        exact s_aret X hEL (ws' := []) (t := (.object "java/util/Optional")) d17_46 rfl rfl rfl rfl (by decide) (by decide) (fun x q => by simp at q) ⟨em, rfl, R_, pk.xm.ext X.old, (by rw [pkV, if_neg n0, if_neg n1, if_neg n2]; exact pk.fm.ext X.old), rfl⟩
      · have y2 : wP = cs := Classical.byContradiction fun z => by rw [if_neg z] at q2; exact q2 rfl
        refine s_aload X (pc' := 33) d17_31 rfl rfl rfl ?_
        refine s_static X (pc' := 36) (W := 0) (as' := [(.ref e2)]) (S := []) (k' := 2) (n' := 4) d17_33 (hw _ (List.mem_of_getElem? (i := 130) rfl)) (hw _ (List.mem_of_getElem? (i := 131) rfl)) (hw _ (List.mem_of_getElem? (i := 111) rfl)) (hw _ (List.mem_of_getElem? (i := 132) rfl)) (by decide) own_pd5 rfl ((own_of l Z a0 hw hEL e2 _).payS (by simp) (hw _ (List.mem_of_getElem? (i := 132) rfl)) (hw _ (List.mem_of_getElem? (i := 111) rfl)) hEL (by decide) (by decide)) (Nat.le_of_ble_eq_true rfl) rfl rfl (by decide) (by decide) (by decide) (by decide) rfl (fun T h32 v_ ws_ X hgr_ q33 => ?_)
        obtain ⟨o, rfl, E_, E_o, F_o, rfl⟩ := q33
        show Go p e below _ T (mkF m 36 #[.val (.ref r), .val (.ref b), .val (.int (3 : Int32)), .val (.int (2 : Int32)), .val (.ref e2)] [(.ref o)])
        replace X := X.sub (ws' := []) (by simp)
        replace E_s0 := E_s0.ext E_
        replace E_s1 := E_s1.ext E_
        replace E_s2 := E_s2.ext E_
        replace F_e0_apiName := F_e0_apiName.ext E_
        replace F_e1_apiName := F_e1_apiName.ext E_
        replace F_e2_apiName := F_e2_apiName.ext E_
        replace A_b := A_b.ext E_
        replace S_r := S_r.ext E_
        replace S_s0 := S_s0.ext E_
        replace S_s1 := S_s1.ext E_
        replace S_s2 := S_s2.ext E_
        replace R_ := ext_trans R_ E_
        exact s_aret X hEL (ws' := []) (t := (.object "java/util/Optional")) d17_36 rfl rfl rfl rfl (by decide) (by decide) (fun x q => by simp at q) ⟨o, rfl, R_, E_o, (by rw [pkV, if_neg n0, if_neg n1, if_pos y2]; exact F_o), rfl⟩
    · have y1 : wR = cs := Classical.byContradiction fun z => by rw [if_neg z] at q1; exact q1 rfl
      refine s_aload X (pc' := 33) d17_31 rfl rfl rfl ?_
      refine s_static X (pc' := 36) (W := 0) (as' := [(.ref e1)]) (S := []) (k' := 2) (n' := 4) d17_33 (hw _ (List.mem_of_getElem? (i := 130) rfl)) (hw _ (List.mem_of_getElem? (i := 131) rfl)) (hw _ (List.mem_of_getElem? (i := 111) rfl)) (hw _ (List.mem_of_getElem? (i := 132) rfl)) (by decide) own_pd5 rfl ((own_of l Z a0 hw hEL e1 _).payS (by simp) (hw _ (List.mem_of_getElem? (i := 132) rfl)) (hw _ (List.mem_of_getElem? (i := 111) rfl)) hEL (by decide) (by decide)) (Nat.le_of_ble_eq_true rfl) rfl rfl (by decide) (by decide) (by decide) (by decide) rfl (fun T h28 v_ ws_ X hgr_ q29 => ?_)
      obtain ⟨o, rfl, E_, E_o, F_o, rfl⟩ := q29
      show Go p e below _ T (mkF m 36 #[.val (.ref r), .val (.ref b), .val (.int (3 : Int32)), .val (.int (1 : Int32)), .val (.ref e1)] [(.ref o)])
      replace X := X.sub (ws' := []) (by simp)
      replace E_s0 := E_s0.ext E_
      replace E_s1 := E_s1.ext E_
      replace E_s2 := E_s2.ext E_
      replace F_e0_apiName := F_e0_apiName.ext E_
      replace F_e1_apiName := F_e1_apiName.ext E_
      replace F_e2_apiName := F_e2_apiName.ext E_
      replace A_b := A_b.ext E_
      replace S_r := S_r.ext E_
      replace S_s0 := S_s0.ext E_
      replace S_s1 := S_s1.ext E_
      replace S_s2 := S_s2.ext E_
      replace R_ := ext_trans R_ E_
      exact s_aret X hEL (ws' := []) (t := (.object "java/util/Optional")) d17_36 rfl rfl rfl rfl (by decide) (by decide) (fun x q => by simp at q) ⟨o, rfl, R_, E_o, (by rw [pkV, if_neg n0, if_pos y1]; exact F_o), rfl⟩
  · have y0 : wM = cs := Classical.byContradiction fun z => by rw [if_neg z] at q0; exact q0 rfl
    refine s_aload X (pc' := 33) d17_31 rfl rfl rfl ?_
    refine s_static X (pc' := 36) (W := 0) (as' := [(.ref e0)]) (S := []) (k' := 2) (n' := 4) d17_33 (hw _ (List.mem_of_getElem? (i := 130) rfl)) (hw _ (List.mem_of_getElem? (i := 131) rfl)) (hw _ (List.mem_of_getElem? (i := 111) rfl)) (hw _ (List.mem_of_getElem? (i := 132) rfl)) (by decide) own_pd5 rfl ((own_of l Z a0 hw hEL e0 _).payS (by simp) (hw _ (List.mem_of_getElem? (i := 132) rfl)) (hw _ (List.mem_of_getElem? (i := 111) rfl)) hEL (by decide) (by decide)) (Nat.le_of_ble_eq_true rfl) rfl rfl (by decide) (by decide) (by decide) (by decide) rfl (fun T h24 v_ ws_ X hgr_ q25 => ?_)
    obtain ⟨o, rfl, E_, E_o, F_o, rfl⟩ := q25
    show Go p e below _ T (mkF m 36 #[.val (.ref r), .val (.ref b), .val (.int (3 : Int32)), .val (.int (0 : Int32)), .val (.ref e0)] [(.ref o)])
    replace X := X.sub (ws' := []) (by simp)
    replace E_s0 := E_s0.ext E_
    replace E_s1 := E_s1.ext E_
    replace E_s2 := E_s2.ext E_
    replace F_e0_apiName := F_e0_apiName.ext E_
    replace F_e1_apiName := F_e1_apiName.ext E_
    replace F_e2_apiName := F_e2_apiName.ext E_
    replace A_b := A_b.ext E_
    replace S_r := S_r.ext E_
    replace S_s0 := S_s0.ext E_
    replace S_s1 := S_s1.ext E_
    replace S_s2 := S_s2.ext E_
    replace R_ := ext_trans R_ E_
    exact s_aret X hEL (ws' := []) (t := (.object "java/util/Optional")) d17_36 rfl rfl rfl rfl (by decide) (by decide) (fun x q => by simp at q) ⟨o, rfl, R_, E_o, (by rw [pkV, if_pos y0]; exact F_o), rfl⟩
theorem ef_own_apiN (m : MethodId)  : entryFrame m #[.null] 5 = mkF m 0 #[.val .null, .unset, .unset, .unset, .unset] [] := by first | (simp [entryFrame, mkF, argsToLocals, Value.category]; done) | rfl
set_option maxRecDepth 65536 in
set_option maxHeartbeats 40000000 in
theorem own_apiN (l : Launch) (Z : State) (a0 : Array Value) (hw : ∀ d ∈ tables_1, d.before a0 Z = true) (hEL : EW Z a0 consts_1)  {vv e0 e1 e2 s0 s1 s2 em : Addr} (h : Heap)  (pk : PK Z vv e0 e1 e2 s0 s1 s2 em) :
    Con l Z consts_1 False (⟨"com/example/tally3/tally3/plan/PlanKind", "ofApiName", "(Ljava/lang/String;)Ljava/util/Optional;"⟩ : MethodName) prog_29_method_5_code 5 (some (.object "java/util/Optional")) ({ frames := 3, cells := 2, slots := 4, locals := 38 } : Room) [] #[.null] h (fun v h' ws' => ∃ o, v = some (.ref o) ∧ Ext h h' ∧ Exa Z h' o "java/util/Optional" ∧ Fld Z h' o "java/util/Optional" "value" "Ljava/lang/Object;" .null ∧ ws' = []) := by
  refine Con.intro own_pn11 (fun p e s m below meth c T X => ?_)
  rw [ef_own_apiN m ]
  have R_ : Ext h h := ext_refl _
  refine s_static X (pc' := 3) (W := 0) (as' := []) (S := []) (k' := 1) (n' := 3) d17_0 (hw _ (List.mem_of_getElem? (i := 80) rfl)) (hw _ (List.mem_of_getElem? (i := 81) rfl)) (hw _ (List.mem_of_getElem? (i := 78) rfl)) (hw _ (List.mem_of_getElem? (i := 82) rfl)) (by decide) own_pd3 rfl ((own_vals l Z a0 hw hEL _ pk).payS (by simp) (hw _ (List.mem_of_getElem? (i := 82) rfl)) (hw _ (List.mem_of_getElem? (i := 78) rfl)) hEL (by decide) (by decide)) (Nat.le_of_ble_eq_true rfl) rfl rfl (by decide) (by decide) (by decide) (by decide) rfl (fun T h36 v_ ws_ X hgr_ q37 => ?_)
  obtain ⟨b, rfl, E_, A_b, rfl⟩ := q37
  show Go p e below _ T (mkF m 3 #[.val .null, .unset, .unset, .unset, .unset] [(.ref b)])
  replace X := X.sub (ws' := []) (by simp)
  replace R_ := ext_trans R_ E_
  have F_e0_apiName := pk.f0.ext X.old
  have S_s0 := pk.t0.ext X.old
  have E_s0 := S_s0.exa
  have F_e1_apiName := pk.f1.ext X.old
  have S_s1 := pk.t1.ext X.old
  have E_s1 := S_s1.exa
  have F_e2_apiName := pk.f2.ext X.old
  have S_s2 := pk.t2.ext X.old
  have E_s2 := S_s2.exa
  refine s_astoreN X (pc' := 4) (L' := #[.val .null, .val (.ref b), .unset, .unset, .unset]) d17_3 rfl rfl rfl ?_
  refine s_aloadN X (pc' := 5) d17_4 rfl rfl rfl ?_
  refine s_alen X (pc' := 6) (z := (3 : Int32)) d17_5 A_b rfl rfl ?_
  refine s_istoreN X (pc' := 7) (L' := #[.val .null, .val (.ref b), .val (.int (3 : Int32)), .unset, .unset]) d17_6 rfl rfl ?_
  refine s_iconst X (pc' := 8) d17_7 (v := (0 : Int32)) rfl rfl ?_
  refine s_istoreN X (pc' := 9) (L' := #[.val .null, .val (.ref b), .val (.int (3 : Int32)), .val (.int (0 : Int32)), .unset]) d17_8 rfl rfl ?_
  refine s_iloadN X (pc' := 10) d17_9 rfl rfl ?_
  refine s_iloadN X (pc' := 11) d17_10 rfl rfl ?_
  refine s_icmpF X (pc' := 14) d17_11 (show (0 : Int32) < (3 : Int32) by decide) rfl ?_
  refine s_aloadN X (pc' := 15) d17_14 rfl rfl rfl ?_
  refine s_iloadN X (pc' := 16) d17_15 rfl rfl ?_
  refine s_aaload X (pc' := 17) (i := 0) (v := (.ref e0)) d17_16 A_b rfl rfl rfl rfl ?_
  refine s_astore X (pc' := 19) (L' := #[.val .null, .val (.ref b), .val (.int (3 : Int32)), .val (.int (0 : Int32)), .val (.ref e0)]) d17_17 rfl rfl rfl ?_
  refine s_aload X (pc' := 21) d17_19 rfl rfl rfl ?_
  refine s_getf X (pc' := 24) d17_21 (hw _ (List.mem_of_getElem? (i := 98) rfl)) Via.refl F_e0_apiName rfl (fun T X => ?_)
  refine s_aloadN X (pc' := 25) d17_24 rfl rfl rfl ?_
  refine s_virtual X (pc' := 28) (W := 0) (as' := [.null]) (S := []) (k' := 1) (n' := 3) d17_25 (hw _ (List.mem_of_getElem? (i := 100) rfl)) (hw _ (List.mem_of_getElem? (i := 101) rfl)) (hw _ (List.mem_of_getElem? (i := 103) rfl)) (hw _ (List.mem_of_getElem? (i := 102) rfl)) (nface (hw _ (List.mem_of_getElem? (i := 103) rfl))) (by decide) own_pd4 rfl E_s0 ((own_eqn l Z a0 hw hEL s0 _).payS (by simp) (hw _ (List.mem_of_getElem? (i := 104) rfl)) (hw _ (List.mem_of_getElem? (i := 1) rfl)) hEL (by decide) (by decide)) (Nat.le_of_ble_eq_true rfl) rfl rfl (by decide) (by decide) (by decide) (by decide) rfl (fun T h38 v_ ws_ X hgr_ q39 => ?_)
  obtain ⟨rfl, e_, rfl⟩ := q39
  rw [e_] at X
  show Go p e below _ T (mkF m 28 #[.val .null, .val (.ref b), .val (.int (3 : Int32)), .val (.int (0 : Int32)), .val (.ref e0)] [(.int (0 : Int32))])
  replace X := X.sub (ws' := []) (by simp)
  refine s_ifT X (pc' := 37) d17_28 (show (0 : Int32) = (0 : Int32) by decide) (by decide) (by decide) ?_
  refine s_iinc X (pc' := 40) (L' := #[.val .null, .val (.ref b), .val (.int (3 : Int32)), .val (.int (1 : Int32)), .val (.ref e0)]) d17_37 (v := (1 : Int32)) (by decide) rfl rfl rfl ?_
  refine s_goto X (pc' := 9) d17_40 (by decide) (by decide) ?_
  refine s_iloadN X (pc' := 10) d17_9 rfl rfl ?_
  refine s_iloadN X (pc' := 11) d17_10 rfl rfl ?_
  refine s_icmpF X (pc' := 14) d17_11 (show (1 : Int32) < (3 : Int32) by decide) rfl ?_
  refine s_aloadN X (pc' := 15) d17_14 rfl rfl rfl ?_
  refine s_iloadN X (pc' := 16) d17_15 rfl rfl ?_
  refine s_aaload X (pc' := 17) (i := 1) (v := (.ref e1)) d17_16 A_b rfl rfl rfl rfl ?_
  refine s_astore X (pc' := 19) (L' := #[.val .null, .val (.ref b), .val (.int (3 : Int32)), .val (.int (1 : Int32)), .val (.ref e1)]) d17_17 rfl rfl rfl ?_
  refine s_aload X (pc' := 21) d17_19 rfl rfl rfl ?_
  refine s_getf X (pc' := 24) d17_21 (hw _ (List.mem_of_getElem? (i := 98) rfl)) Via.refl F_e1_apiName rfl (fun T X => ?_)
  refine s_aloadN X (pc' := 25) d17_24 rfl rfl rfl ?_
  refine s_virtual X (pc' := 28) (W := 0) (as' := [.null]) (S := []) (k' := 1) (n' := 3) d17_25 (hw _ (List.mem_of_getElem? (i := 100) rfl)) (hw _ (List.mem_of_getElem? (i := 101) rfl)) (hw _ (List.mem_of_getElem? (i := 103) rfl)) (hw _ (List.mem_of_getElem? (i := 102) rfl)) (nface (hw _ (List.mem_of_getElem? (i := 103) rfl))) (by decide) own_pd4 rfl E_s1 ((own_eqn l Z a0 hw hEL s1 _).payS (by simp) (hw _ (List.mem_of_getElem? (i := 104) rfl)) (hw _ (List.mem_of_getElem? (i := 1) rfl)) hEL (by decide) (by decide)) (Nat.le_of_ble_eq_true rfl) rfl rfl (by decide) (by decide) (by decide) (by decide) rfl (fun T h40 v_ ws_ X hgr_ q41 => ?_)
  obtain ⟨rfl, e_, rfl⟩ := q41
  rw [e_] at X
  show Go p e below _ T (mkF m 28 #[.val .null, .val (.ref b), .val (.int (3 : Int32)), .val (.int (1 : Int32)), .val (.ref e1)] [(.int (0 : Int32))])
  replace X := X.sub (ws' := []) (by simp)
  refine s_ifT X (pc' := 37) d17_28 (show (0 : Int32) = (0 : Int32) by decide) (by decide) (by decide) ?_
  refine s_iinc X (pc' := 40) (L' := #[.val .null, .val (.ref b), .val (.int (3 : Int32)), .val (.int (2 : Int32)), .val (.ref e1)]) d17_37 (v := (1 : Int32)) (by decide) rfl rfl rfl ?_
  refine s_goto X (pc' := 9) d17_40 (by decide) (by decide) ?_
  refine s_iloadN X (pc' := 10) d17_9 rfl rfl ?_
  refine s_iloadN X (pc' := 11) d17_10 rfl rfl ?_
  refine s_icmpF X (pc' := 14) d17_11 (show (2 : Int32) < (3 : Int32) by decide) rfl ?_
  refine s_aloadN X (pc' := 15) d17_14 rfl rfl rfl ?_
  refine s_iloadN X (pc' := 16) d17_15 rfl rfl ?_
  refine s_aaload X (pc' := 17) (i := 2) (v := (.ref e2)) d17_16 A_b rfl rfl rfl rfl ?_
  refine s_astore X (pc' := 19) (L' := #[.val .null, .val (.ref b), .val (.int (3 : Int32)), .val (.int (2 : Int32)), .val (.ref e2)]) d17_17 rfl rfl rfl ?_
  refine s_aload X (pc' := 21) d17_19 rfl rfl rfl ?_
  refine s_getf X (pc' := 24) d17_21 (hw _ (List.mem_of_getElem? (i := 98) rfl)) Via.refl F_e2_apiName rfl (fun T X => ?_)
  refine s_aloadN X (pc' := 25) d17_24 rfl rfl rfl ?_
  refine s_virtual X (pc' := 28) (W := 0) (as' := [.null]) (S := []) (k' := 1) (n' := 3) d17_25 (hw _ (List.mem_of_getElem? (i := 100) rfl)) (hw _ (List.mem_of_getElem? (i := 101) rfl)) (hw _ (List.mem_of_getElem? (i := 103) rfl)) (hw _ (List.mem_of_getElem? (i := 102) rfl)) (nface (hw _ (List.mem_of_getElem? (i := 103) rfl))) (by decide) own_pd4 rfl E_s2 ((own_eqn l Z a0 hw hEL s2 _).payS (by simp) (hw _ (List.mem_of_getElem? (i := 104) rfl)) (hw _ (List.mem_of_getElem? (i := 1) rfl)) hEL (by decide) (by decide)) (Nat.le_of_ble_eq_true rfl) rfl rfl (by decide) (by decide) (by decide) (by decide) rfl (fun T h42 v_ ws_ X hgr_ q43 => ?_)
  obtain ⟨rfl, e_, rfl⟩ := q43
  rw [e_] at X
  show Go p e below _ T (mkF m 28 #[.val .null, .val (.ref b), .val (.int (3 : Int32)), .val (.int (2 : Int32)), .val (.ref e2)] [(.int (0 : Int32))])
  replace X := X.sub (ws' := []) (by simp)
  refine s_ifT X (pc' := 37) d17_28 (show (0 : Int32) = (0 : Int32) by decide) (by decide) (by decide) ?_
  refine s_iinc X (pc' := 40) (L' := #[.val .null, .val (.ref b), .val (.int (3 : Int32)), .val (.int (3 : Int32)), .val (.ref e2)]) d17_37 (v := (1 : Int32)) (by decide) rfl rfl rfl ?_
  refine s_goto X (pc' := 9) d17_40 (by decide) (by decide) ?_
  refine s_iloadN X (pc' := 10) d17_9 rfl rfl ?_
  refine s_iloadN X (pc' := 11) d17_10 rfl rfl ?_
  refine s_icmpT X (pc' := 43) d17_11 (show ¬ (3 : Int32) < (3 : Int32) by decide) (by decide) (by decide) ?_
  refine s_static X (pc' := 46) (W := 0) (as' := []) (S := []) (k' := 1) (n' := 3) d17_43 (hw _ (List.mem_of_getElem? (i := 109) rfl)) (hw _ (List.mem_of_getElem? (i := 110) rfl)) (hw _ (List.mem_of_getElem? (i := 111) rfl)) (hw _ (List.mem_of_getElem? (i := 112) rfl)) (by decide) own_pd6 rfl ((own_emp l Z a0 hw hEL _ pk).payS (by simp) (hw _ (List.mem_of_getElem? (i := 112) rfl)) (hw _ (List.mem_of_getElem? (i := 111) rfl)) hEL (by decide) (by decide)) (Nat.le_of_ble_eq_true rfl) rfl rfl (by decide) (by decide) (by decide) (by decide) rfl (fun T h44 v_ ws_ X hgr_ q45 => ?_)
  obtain ⟨rfl, e_, rfl⟩ := q45
  rw [e_] at X
  show Go p e below _ T (mkF m 46 #[.val .null, .val (.ref b), .val (.int (3 : Int32)), .val (.int (3 : Int32)), .val (.ref e2)] [(.ref em)])
  replace X := X.sub (ws' := []) (by simp)
  exact s_aret X hEL (ws' := []) (t := (.object "java/util/Optional")) d17_46 rfl rfl rfl rfl (by decide) (by decide) (fun x q => by simp at q) ⟨em, rfl, R_, pk.xm.ext X.old, pk.fm.ext X.old, rfl⟩
theorem d22_0 : decode method_4_code 0 = .ok (.aload_n 0, 1) := by decide +kernel
theorem d22_1 : decode method_4_code 1 = .ok (.ldc 25, 2) := by decide +kernel
theorem d22_3 : decode method_4_code 3 = .ok (.invokevirtual 27, 3) := by decide +kernel
theorem d22_6 : decode method_4_code 6 = .ok (.ifCond .eq 7, 3) := by decide +kernel
theorem d22_9 : decode method_4_code 9 = .ok (.getstatic 31, 3) := by decide +kernel
theorem d22_12 : decode method_4_code 12 = .ok (.areturn, 1) := by decide +kernel
theorem d22_13 : decode method_4_code 13 = .ok (.aload_n 0, 1) := by decide +kernel
theorem d22_14 : decode method_4_code 14 = .ok (.ldc 37, 2) := by decide +kernel
theorem d22_16 : decode method_4_code 16 = .ok (.invokevirtual 27, 3) := by decide +kernel
theorem d22_19 : decode method_4_code 19 = .ok (.ifCond .eq 7, 3) := by decide +kernel
theorem d22_22 : decode method_4_code 22 = .ok (.getstatic 39, 3) := by decide +kernel
theorem d22_25 : decode method_4_code 25 = .ok (.areturn, 1) := by decide +kernel
theorem d22_26 : decode method_4_code 26 = .ok (.aload_n 0, 1) := by decide +kernel
theorem d22_27 : decode method_4_code 27 = .ok (.ldc 42, 2) := by decide +kernel
theorem d22_29 : decode method_4_code 29 = .ok (.invokevirtual 27, 3) := by decide +kernel
theorem d22_32 : decode method_4_code 32 = .ok (.ifCond .eq 7, 3) := by decide +kernel
theorem d22_35 : decode method_4_code 35 = .ok (.getstatic 44, 3) := by decide +kernel
theorem d22_38 : decode method_4_code 38 = .ok (.areturn, 1) := by decide +kernel
theorem d22_39 : decode method_4_code 39 = .ok (.aconst_null, 1) := by decide +kernel
theorem d22_40 : decode method_4_code 40 = .ok (.areturn, 1) := by decide +kernel
theorem ef_own_exp (m : MethodId) (r : Addr) : entryFrame m #[(.ref r)] 1 = mkF m 0 #[.val (.ref r)] [] := by first | (simp [entryFrame, mkF, argsToLocals, Value.category]; done) | rfl
set_option maxRecDepth 65536 in
set_option maxHeartbeats 40000000 in
theorem own_exp (l : Launch) (Z : State) (a0 : Array Value) (hw : ∀ d ∈ tables_1, d.before a0 Z = true) (hEL : EW Z a0 consts_1) (r : Addr) {vv e0 e1 e2 s0 s1 s2 em : Addr} {cs : List Int32} {G1 : Int32} (h : Heap) (S_r : Str Z h r cs) (O2 : Sta Z Z.heap "java/lang/String" "COMPACT_STRINGS" "Z" (.int G1)) (P5 : ¬ (G1 = (0 : Int32))) (pk : PK Z vv e0 e1 e2 s0 s1 s2 em) :
    Con l Z consts_1 False (⟨"com/example/tally3/tally3/plan/PlanKindOfApiNamePinLaw", "expected", "(Ljava/lang/String;)Lcom/example/tally3/tally3/plan/PlanKind;"⟩ : MethodName) method_4_code 1 (some (.object "com/example/tally3/tally3/plan/PlanKind")) ({ frames := 2, cells := 6, slots := 96, locals := 28 } : Room) [] #[(.ref r)] h (fun v h' ws' => v = some (pkV cs e0 e1 e2) ∧ Ext h h' ∧ ws' = []) := by
  refine Con.intro own_pn12 (fun p e s m below meth c T X => ?_)
  rw [ef_own_exp m r]
  have R_ : Ext h h := ext_refl _
  refine s_aloadN X (pc' := 1) d22_0 rfl rfl rfl ?_
  refine s_ldcS X (pc' := 3) (k' := 2) (n' := 36) (nn := 32) (vs := [(.int (109 : Int32)), (.int (101 : Int32)), (.int (116 : Int32)), (.int (101 : Int32)), (.int (114 : Int32)), (.int (105 : Int32)), (.int (110 : Int32)), (.int (103 : Int32))]) (z := (8 : Int32)) hEL d22_1 (hw _ (List.mem_of_getElem? (i := 0) rfl)) (fun d hd => hw d ((by decide +kernel : ∀ d ∈ Bundle.stringAtoms, d ∈ tables_1) d hd)) (by simp [consts_1]) (by decide) (by decide) (by decide) (by decide) (by decide) (by decide) (by decide) (by decide) (by decide) rfl (fun T h46 a0 b0 kc_b0 X' E47 E_a0 F_a0_coder F_a0_value V_b0 nw_ => ?_)
  replace S_r := S_r.ext E47
  replace R_ := ext_trans R_ E47
  replace X := X'
  have S_a0 : Str Z h46 a0 wM := ⟨b0, kc_b0, 0, 8, [(.int (109 : Int32)), (.int (101 : Int32)), (.int (116 : Int32)), (.int (101 : Int32)), (.int (114 : Int32)), (.int (105 : Int32)), (.int (110 : Int32)), (.int (103 : Int32))], E_a0, F_a0_value, F_a0_coder, V_b0, Or.inl ⟨rfl, rfl, rfl, by decide⟩, by decide, by decide⟩
  have E_r := S_r.exa
  refine s_virtual X (pc' := 6) (W := 0) (as' := [(.ref a0)]) (S := []) (k' := 2) (n' := 36) d22_3 (hw _ (List.mem_of_getElem? (i := 117) rfl)) (hw _ (List.mem_of_getElem? (i := 101) rfl)) (hw _ (List.mem_of_getElem? (i := 103) rfl)) (hw _ (List.mem_of_getElem? (i := 102) rfl)) (nface (hw _ (List.mem_of_getElem? (i := 103) rfl))) (by decide) own_pd4 rfl E_r (eqPay hw hEL O2 P5 X.old S_r S_a0 (by decide) (by decide)) (Nat.le_of_ble_eq_true rfl) rfl rfl (by decide) (by decide) (by decide) (by decide) rfl (fun T h48 v_ ws_ X hgr_ q49 => ?_)
  obtain ⟨rfl, e_, rfl⟩ := q49
  rw [e_] at X
  show Go p e below _ T (mkF m 6 #[.val (.ref r)] [(.int (if cs = wM then 1 else 0))])
  replace X := X.sub (ws' := []) (by simp)
  refine s_if X (pc' := 13) (pcF := 9) d22_6 (by decide) (by decide) rfl (fun (q0 : (if cs = wM then 1 else 0) = (0 : Int32)) => ?_) (fun (q0 : ¬ (if cs = wM then 1 else 0) = (0 : Int32)) => ?_)
  · have n0 : ¬ wM = cs := fun z => by rw [if_pos z.symm] at q0; exact absurd q0 (by decide)
    refine s_aloadN X (pc' := 14) d22_13 rfl rfl rfl ?_
    refine s_ldcS X (pc' := 16) (k' := 4) (n' := 64) (nn := 24) (vs := [(.int (114 : Int32)), (.int (97 : Int32)), (.int (116 : Int32)), (.int (105 : Int32)), (.int (110 : Int32)), (.int (103 : Int32))]) (z := (6 : Int32)) hEL d22_14 (hw _ (List.mem_of_getElem? (i := 118) rfl)) (fun d hd => hw d ((by decide +kernel : ∀ d ∈ Bundle.stringAtoms, d ∈ tables_1) d hd)) (by simp [consts_1]) (by decide) (by decide) (by decide) (by decide) (by decide) (by decide) (by decide) (by decide) (by decide) rfl (fun T h50 a1 b1 kc_b1 X' E51 E_a1 F_a1_coder F_a1_value V_b1 nw_ => ?_)
    replace S_r := S_r.ext E51
    replace S_a0 := S_a0.ext E51
    replace R_ := ext_trans R_ E51
    replace X := X'
    have S_a1 : Str Z h50 a1 wR := ⟨b1, kc_b1, 0, 6, [(.int (114 : Int32)), (.int (97 : Int32)), (.int (116 : Int32)), (.int (105 : Int32)), (.int (110 : Int32)), (.int (103 : Int32))], E_a1, F_a1_value, F_a1_coder, V_b1, Or.inl ⟨rfl, rfl, rfl, by decide⟩, by decide, by decide⟩
    have E_r := S_r.exa
    refine s_virtual X (pc' := 19) (W := 0) (as' := [(.ref a1)]) (S := []) (k' := 4) (n' := 64) d22_16 (hw _ (List.mem_of_getElem? (i := 117) rfl)) (hw _ (List.mem_of_getElem? (i := 101) rfl)) (hw _ (List.mem_of_getElem? (i := 103) rfl)) (hw _ (List.mem_of_getElem? (i := 102) rfl)) (nface (hw _ (List.mem_of_getElem? (i := 103) rfl))) (by decide) own_pd4 rfl E_r (eqPay hw hEL O2 P5 X.old S_r S_a1 (by decide) (by decide)) (Nat.le_of_ble_eq_true rfl) rfl rfl (by decide) (by decide) (by decide) (by decide) rfl (fun T h52 v_ ws_ X hgr_ q53 => ?_)
    obtain ⟨rfl, e_, rfl⟩ := q53
    rw [e_] at X
    show Go p e below _ T (mkF m 19 #[.val (.ref r)] [(.int (if cs = wR then 1 else 0))])
    replace X := X.sub (ws' := []) (by simp)
    refine s_if X (pc' := 26) (pcF := 22) d22_19 (by decide) (by decide) rfl (fun (q1 : (if cs = wR then 1 else 0) = (0 : Int32)) => ?_) (fun (q1 : ¬ (if cs = wR then 1 else 0) = (0 : Int32)) => ?_)
    · have n1 : ¬ wR = cs := fun z => by rw [if_pos z.symm] at q1; exact absurd q1 (by decide)
      refine s_aloadN X (pc' := 27) d22_26 rfl rfl rfl ?_
      refine s_ldcS X (pc' := 29) (k' := 6) (n' := 96) (nn := 28) (vs := [(.int (112 : Int32)), (.int (114 : Int32)), (.int (105 : Int32)), (.int (99 : Int32)), (.int (105 : Int32)), (.int (110 : Int32)), (.int (103 : Int32))]) (z := (7 : Int32)) hEL d22_27 (hw _ (List.mem_of_getElem? (i := 119) rfl)) (fun d hd => hw d ((by decide +kernel : ∀ d ∈ Bundle.stringAtoms, d ∈ tables_1) d hd)) (by simp [consts_1]) (by decide) (by decide) (by decide) (by decide) (by decide) (by decide) (by decide) (by decide) (by decide) rfl (fun T h54 a2 b2 kc_b2 X' E55 E_a2 F_a2_coder F_a2_value V_b2 nw_ => ?_)
      replace S_r := S_r.ext E55
      replace S_a0 := S_a0.ext E55
      replace S_a1 := S_a1.ext E55
      replace R_ := ext_trans R_ E55
      replace X := X'
      have S_a2 : Str Z h54 a2 wP := ⟨b2, kc_b2, 0, 7, [(.int (112 : Int32)), (.int (114 : Int32)), (.int (105 : Int32)), (.int (99 : Int32)), (.int (105 : Int32)), (.int (110 : Int32)), (.int (103 : Int32))], E_a2, F_a2_value, F_a2_coder, V_b2, Or.inl ⟨rfl, rfl, rfl, by decide⟩, by decide, by decide⟩
      have E_r := S_r.exa
      refine s_virtual X (pc' := 32) (W := 0) (as' := [(.ref a2)]) (S := []) (k' := 6) (n' := 96) d22_29 (hw _ (List.mem_of_getElem? (i := 117) rfl)) (hw _ (List.mem_of_getElem? (i := 101) rfl)) (hw _ (List.mem_of_getElem? (i := 103) rfl)) (hw _ (List.mem_of_getElem? (i := 102) rfl)) (nface (hw _ (List.mem_of_getElem? (i := 103) rfl))) (by decide) own_pd4 rfl E_r (eqPay hw hEL O2 P5 X.old S_r S_a2 (by decide) (by decide)) (Nat.le_of_ble_eq_true rfl) rfl rfl (by decide) (by decide) (by decide) (by decide) rfl (fun T h56 v_ ws_ X hgr_ q57 => ?_)
      obtain ⟨rfl, e_, rfl⟩ := q57
      rw [e_] at X
      show Go p e below _ T (mkF m 32 #[.val (.ref r)] [(.int (if cs = wP then 1 else 0))])
      replace X := X.sub (ws' := []) (by simp)
      refine s_if X (pc' := 39) (pcF := 35) d22_32 (by decide) (by decide) rfl (fun (q2 : (if cs = wP then 1 else 0) = (0 : Int32)) => ?_) (fun (q2 : ¬ (if cs = wP then 1 else 0) = (0 : Int32)) => ?_)
      · have n2 : ¬ wP = cs := fun z => by rw [if_pos z.symm] at q2; exact absurd q2 (by decide)
        refine s_aconst X (pc' := 40) d22_39 rfl ?_
        exact s_aret X hEL (ws' := []) (t := (.object "com/example/tally3/tally3/plan/PlanKind")) d22_40 rfl rfl rfl rfl (by decide) (by decide) (fun x q => by simp at q) ⟨by rw [pkV, if_neg n0, if_neg n1, if_neg n2], R_, rfl⟩
      · have y2 : wP = cs := (Classical.byContradiction fun z => by rw [if_neg z] at q2; exact q2 rfl : cs = wP).symm
        refine s_gets X (pc' := 38) d22_35 (hw _ (List.mem_of_getElem? (i := 152) rfl)) Via.refl pk.m2 rfl (fun T X => ?_)
        exact s_aret X hEL (ws' := []) (t := (.object "com/example/tally3/tally3/plan/PlanKind")) d22_38 rfl rfl rfl rfl (by decide) (by decide) (fun x q => by simp at q) ⟨by rw [pkV, if_neg n0, if_neg n1, if_pos y2], R_, rfl⟩
    · have y1 : wR = cs := (Classical.byContradiction fun z => by rw [if_neg z] at q1; exact q1 rfl : cs = wR).symm
      refine s_gets X (pc' := 25) d22_22 (hw _ (List.mem_of_getElem? (i := 144) rfl)) Via.refl pk.m1 rfl (fun T X => ?_)
      exact s_aret X hEL (ws' := []) (t := (.object "com/example/tally3/tally3/plan/PlanKind")) d22_25 rfl rfl rfl rfl (by decide) (by decide) (fun x q => by simp at q) ⟨by rw [pkV, if_neg n0, if_pos y1], R_, rfl⟩
  · have y0 : wM = cs := (Classical.byContradiction fun z => by rw [if_neg z] at q0; exact q0 rfl : cs = wM).symm
    refine s_gets X (pc' := 12) d22_9 (hw _ (List.mem_of_getElem? (i := 150) rfl)) Via.refl pk.m0 rfl (fun T X => ?_)
    exact s_aret X hEL (ws' := []) (t := (.object "com/example/tally3/tally3/plan/PlanKind")) d22_12 rfl rfl rfl rfl (by decide) (by decide) (fun x q => by simp at q) ⟨by rw [pkV, if_pos y0], R_, rfl⟩
theorem d10_0 : decode method_2_code 0 = .ok (.iload_n 3, 1) := by decide +kernel
theorem d10_1 : decode method_2_code 1 = .ok (.bipush 8, 2) := by decide +kernel
theorem d10_3 : decode method_2_code 3 = .ok (.if_icmp .ge 16, 3) := by decide +kernel
theorem d10_6 : decode method_2_code 6 = .ok (.lload_n 0, 1) := by decide +kernel
theorem d10_7 : decode method_2_code 7 = .ok (.bipush 8, 2) := by decide +kernel
theorem d10_9 : decode method_2_code 9 = .ok (.iload_n 3, 1) := by decide +kernel
theorem d10_10 : decode method_2_code 10 = .ok (.imul, 1) := by decide +kernel
theorem d10_11 : decode method_2_code 11 = .ok (.lushr, 1) := by decide +kernel
theorem d10_12 : decode method_2_code 12 = .ok (.ldc2_w 7, 3) := by decide +kernel
theorem d10_15 : decode method_2_code 15 = .ok (.land, 1) := by decide +kernel
theorem d10_16 : decode method_2_code 16 = .ok (.l2i, 1) := by decide +kernel
theorem d10_17 : decode method_2_code 17 = .ok (.i2c, 1) := by decide +kernel
theorem d10_18 : decode method_2_code 18 = .ok (.ireturn, 1) := by decide +kernel
theorem d10_19 : decode method_2_code 19 = .ok (.iload_n 2, 1) := by decide +kernel
theorem d10_20 : decode method_2_code 20 = .ok (.sipush 255, 3) := by decide +kernel
theorem d10_23 : decode method_2_code 23 = .ok (.iand, 1) := by decide +kernel
theorem d10_24 : decode method_2_code 24 = .ok (.i2c, 1) := by decide +kernel
theorem d10_25 : decode method_2_code 25 = .ok (.ireturn, 1) := by decide +kernel
theorem ef_own_drawn (m : MethodId) (xb : Int64) (xc : Int32) (xi : Int32) : entryFrame m #[(.long xb), (.int xc), (.int xi)] 4 = mkF m 0 #[.val (.long xb), .second, .val (.int xc), .val (.int xi)] [] := by first | (simp [entryFrame, mkF, argsToLocals, Value.category]; done) | rfl
set_option maxRecDepth 65536 in
set_option maxHeartbeats 40000000 in
theorem own_drawn (l : Launch) (Z : State) (a0 : Array Value) (hw : ∀ d ∈ tables_1, d.before a0 Z = true) (hEL : EW Z a0 consts_1) (xb : Int64) (xc : Int32) (xi : Int32) (h : Heap) :
    Con l Z consts_1 False (⟨"com/example/tally3/tally3/plan/PlanKindOfApiNamePinLaw", "drawn", "(JII)C"⟩ : MethodName) method_2_code 4 (some .char) ({ frames := 0, cells := 0, slots := 0, locals := 0 } : Room) [] #[(.long xb), (.int xc), (.int xi)] h (fun v h' ws' => ∃ z, v = some (.int z) ∧ (¬ z < 0 ∧ ¬ (255 : Int32) < z) ∧ h' = h ∧ ws' = []) := by
  refine Con.intro own_pn13 (fun p e s m below meth c T X => ?_)
  rw [ef_own_drawn m xb xc xi]
  refine s_iloadN X (pc' := 1) d10_0 rfl rfl ?_
  refine s_bipush X (pc' := 3) d10_1 (v := (8 : Int32)) (by decide) rfl ?_
  refine s_icmp X (pc' := 19) (pcF := 6) d10_3 (by decide) (by decide) rfl (fun (q1 : ¬ xi < (8 : Int32)) => ?_) (fun (q1 : xi < (8 : Int32)) => ?_)
  · refine s_iloadN X (pc' := 20) d10_19 rfl rfl ?_
    refine s_sipush X (pc' := 23) d10_20 (v := (255 : Int32)) (by decide) rfl ?_
    refine s_iand X (pc' := 24) d10_23 rfl ?_
    refine s_i2c X (pc' := 25) d10_24 rfl ?_
    exact s_iretN X hEL (ws' := []) (t := .char) d10_25 rfl (by simp) (by decide) (by decide) (fun x q => by simp at q) ⟨_, rfl, m255 _ ⟨_, rfl⟩, rfl, rfl⟩
  · refine s_lloadN X (pc' := 7) d10_6 rfl rfl ?_
    refine s_bipush X (pc' := 9) d10_7 (v := (8 : Int32)) (by decide) rfl ?_
    refine s_iloadN X (pc' := 10) d10_9 rfl rfl ?_
    refine s_imul X (pc' := 11) d10_10 rfl ?_
    refine s_lushr X (pc' := 12) d10_11 rfl ?_
    refine s_ldc2J X (pc' := 15) d10_12 (hw _ (List.mem_of_getElem? (i := 127) rfl)) rfl ?_
    refine s_land X (pc' := 16) d10_15 rfl ?_
    refine s_l2i X (pc' := 17) d10_16 rfl ?_
    refine s_i2c X (pc' := 18) d10_17 rfl ?_
    exact s_iretN X hEL (ws' := []) (t := .char) d10_18 rfl (by simp) (by decide) (by decide) (fun x q => by simp at q) ⟨_, rfl, m255L _, rfl, rfl⟩
theorem d4_0 : decode method_3_code 0 = .ok (.iload_n 1, 1) := by decide +kernel
theorem d4_1 : decode method_3_code 1 = .ok (.aload_n 0, 1) := by decide +kernel
theorem d4_2 : decode method_3_code 2 = .ok (.arraylength, 1) := by decide +kernel
theorem d4_3 : decode method_3_code 3 = .ok (.if_icmp .ge 37, 3) := by decide +kernel
theorem d4_6 : decode method_3_code 6 = .ok (.iload_n 3, 1) := by decide +kernel
theorem d4_7 : decode method_3_code 7 = .ok (.ifCond .ne 22, 3) := by decide +kernel
theorem d4_10 : decode method_3_code 10 = .ok (.iload_n 1, 1) := by decide +kernel
theorem d4_11 : decode method_3_code 11 = .ok (.aload_n 2, 1) := by decide +kernel
theorem d4_12 : decode method_3_code 12 = .ok (.invokevirtual 9, 3) := by decide +kernel
theorem d4_15 : decode method_3_code 15 = .ok (.if_icmp .ge 14, 3) := by decide +kernel
theorem d4_18 : decode method_3_code 18 = .ok (.aload_n 0, 1) := by decide +kernel
theorem d4_19 : decode method_3_code 19 = .ok (.iload_n 1, 1) := by decide +kernel
theorem d4_20 : decode method_3_code 20 = .ok (.aload_n 2, 1) := by decide +kernel
theorem d4_21 : decode method_3_code 21 = .ok (.iload_n 1, 1) := by decide +kernel
theorem d4_22 : decode method_3_code 22 = .ok (.invokevirtual 15, 3) := by decide +kernel
theorem d4_25 : decode method_3_code 25 = .ok (.castore, 1) := by decide +kernel
theorem d4_26 : decode method_3_code 26 = .ok (.goto 14, 3) := by decide +kernel
theorem d4_29 : decode method_3_code 29 = .ok (.aload_n 0, 1) := by decide +kernel
theorem d4_30 : decode method_3_code 30 = .ok (.iload_n 1, 1) := by decide +kernel
theorem d4_31 : decode method_3_code 31 = .ok (.lload 4, 2) := by decide +kernel
theorem d4_33 : decode method_3_code 33 = .ok (.iload 6, 2) := by decide +kernel
theorem d4_35 : decode method_3_code 35 = .ok (.iload_n 1, 1) := by decide +kernel
theorem d4_36 : decode method_3_code 36 = .ok (.invokestatic 19, 3) := by decide +kernel
theorem d4_39 : decode method_3_code 39 = .ok (.castore, 1) := by decide +kernel
theorem d4_40 : decode method_3_code 40 = .ok (.return_, 1) := by decide +kernel
theorem ef_own_put (m : MethodId) (b : Addr) (i : Nat) (a : Addr) (da : Int32) (xb : Int64) (xc : Int32) : entryFrame m #[(.ref b), (.int (Int32.ofNat i)), (.ref a), (.int da), (.long xb), (.int xc)] 7 = mkF m 0 #[.val (.ref b), .val (.int (Int32.ofNat i)), .val (.ref a), .val (.int da), .val (.long xb), .second, .val (.int xc)] [] := by first | (simp [entryFrame, mkF, argsToLocals, Value.category]; done) | rfl
set_option maxRecDepth 65536 in
set_option maxHeartbeats 40000000 in
theorem own_put (l : Launch) (Z : State) (a0 : Array Value) (hw : ∀ d ∈ tables_1, d.before a0 Z = true) (hEL : EW Z a0 consts_1) (b : Addr) (i : Nat) (a : Addr) (da : Int32) (xb : Int64) (xc : Int32) {cs bs : List Int32} {G1 : Int32} {G3 : Value} (h : Heap) (A_b : Ary Z h b .char (cs.map Value.int)) (hcs : Lat cs) (hn : cs.length ≤ 10) (g_b : Z.heap.size ≤ b) (S_a : Str Z h a bs) (hbs : Lat bs) (hi : i ≤ 10) (O2 : Sta Z Z.heap "java/lang/String" "COMPACT_STRINGS" "Z" (.int G1)) (P5 : ¬ (G1 = (0 : Int32))) (O4 : Sta Z Z.heap "jdk/internal/util/Preconditions" "SIOOBE_FORMATTER" "Ljava/util/function/BiFunction;" G3) (rG3 : G3.isRef = true) :
    Con l Z consts_1 False (⟨"com/example/tally3/tally3/plan/PlanKindOfApiNamePinLaw", "put", "([CILjava/lang/String;ZJI)V"⟩ : MethodName) method_3_code 7 none ({ frames := 4, cells := 0, slots := 0, locals := 55 } : Room) [b] #[(.ref b), (.int (Int32.ofNat i)), (.ref a), (.int da), (.long xb), (.int xc)] h (fun v h' ws' => v = none ∧ Keep h h' [b] ∧ (∃ ds, ds.length = cs.length ∧ Lat ds ∧ Ary Z h' b .char (ds.map Value.int)) ∧ ws' = [b]) := by
  refine Con.intro own_pn14 (fun p e s m below meth c T X => ?_)
  rw [ef_own_put m b i a da xb xc]
  have K_ : Keep h h [b] := Keep.refl _ _
  have E_a := S_a.exa
  have hbl : bs.length ≤ 4000 := by obtain ⟨_, _, _, _, _, _, _, _, _, _, _, q⟩ := S_a; exact q
  refine s_iloadN X (pc' := 1) d4_0 rfl rfl ?_
  refine s_aloadN X (pc' := 2) d4_1 rfl rfl rfl ?_
  refine s_alen X (pc' := 3) (z := Int32.ofNat cs.length) d4_2 A_b (by rw [List.length_map]) rfl ?_
  refine s_icmp X (pc' := 40) (pcF := 6) d4_3 (by decide) (by decide) rfl (fun (q1 : ¬ (Int32.ofNat i) < (Int32.ofNat cs.length)) => ?_) (fun (q1 : (Int32.ofNat i) < (Int32.ofNat cs.length)) => ?_)
  · exact s_ret X hEL (ws' := [b]) d4_40 (by decide) (by decide) (by simp) ⟨rfl, K_, ⟨cs, rfl, hcs, A_b⟩, rfl⟩
  · have hi' : i < cs.length := (on_lt (by omega) (by omega)).mp q1
    refine s_iloadN X (pc' := 7) d4_6 rfl rfl ?_
    refine s_if X (pc' := 29) (pcF := 10) d4_7 (by decide) (by decide) rfl (fun (q2 : ¬ da = (0 : Int32)) => ?_) (fun (q2 : da = (0 : Int32)) => ?_)
    · refine s_aloadN X (pc' := 30) d4_29 rfl rfl rfl ?_
      refine s_iloadN X (pc' := 31) d4_30 rfl rfl ?_
      refine s_lload X (pc' := 33) d4_31 rfl rfl ?_
      refine s_iload X (pc' := 35) d4_33 rfl rfl ?_
      refine s_iloadN X (pc' := 36) d4_35 rfl rfl ?_
      refine s_static X (pc' := 39) (W := 2) (as' := [(.long xb), (.int xc), (.int (Int32.ofNat i))]) (S := [(.int (Int32.ofNat i)), (.ref b)]) (k' := 0) (n' := 0) d4_36 (hw _ (List.mem_of_getElem? (i := 52) rfl)) (hw _ (List.mem_of_getElem? (i := 53) rfl)) (hw _ (List.mem_of_getElem? (i := 28) rfl)) (hw _ (List.mem_of_getElem? (i := 54) rfl)) (by decide) own_pd7 rfl ((own_drawn l Z a0 hw hEL xb xc (Int32.ofNat i) _).payS (by simp) (hw _ (List.mem_of_getElem? (i := 54) rfl)) (hw _ (List.mem_of_getElem? (i := 28) rfl)) hEL (by decide) (by decide)) (Nat.le_of_ble_eq_true rfl) rfl rfl (by decide) (by decide) (by decide) (by decide) rfl (fun T h58 v_ ws_ X hgr_ q59 => ?_)
      obtain ⟨z, rfl, hz, e_, rfl⟩ := q59
      rw [e_] at X
      show Go p e below _ T (mkF m 39 #[.val (.ref b), .val (.int (Int32.ofNat i)), .val (.ref a), .val (.int da), .val (.long xb), .second, .val (.int xc)] [(.int z), (.int (Int32.ofNat i)), (.ref b)])
      replace X := X.sub (ws' := [b]) (by simp)
      refine s_castore X (pc' := 40) (i := i) d4_39 A_b rfl (by rw [List.length_map]; exact hi') g_b (by simp) rfl (fun T h60 X W61 A_b => ?_)
      replace K_ := K_.wr W61 (Or.inl (by simp))
      exact s_ret X hEL (ws' := [b]) d4_40 (by decide) (by decide) (by simp) ⟨rfl, K_, ⟨cs.set i z, List.length_set, hcs.set hz, by rw [nar_id (up16 hz), ← List.map_set] at A_b; exact A_b⟩, rfl⟩
    · refine s_iloadN X (pc' := 11) d4_10 rfl rfl ?_
      refine s_aloadN X (pc' := 12) d4_11 rfl rfl rfl ?_
      refine s_virtual X (pc' := 15) (W := 1) (as' := []) (S := [(.int (Int32.ofNat i))]) (k' := 0) (n' := 0) d4_12 (hw _ (List.mem_of_getElem? (i := 8) rfl)) (hw _ (List.mem_of_getElem? (i := 9) rfl)) (hw _ (List.mem_of_getElem? (i := 11) rfl)) (hw _ (List.mem_of_getElem? (i := 10) rfl)) (nface (hw _ (List.mem_of_getElem? (i := 11) rfl))) (by decide) own_pd8 rfl E_a (lenPay hw hEL O2 P5 X.old S_a (by decide) (by decide)) (Nat.le_of_ble_eq_true rfl) rfl rfl (by decide) (by decide) (by decide) (by decide) rfl (fun T h62 v_ ws_ X hgr_ q63 => ?_)
      obtain ⟨rfl, e_, rfl⟩ := q63
      rw [e_] at X
      show Go p e below _ T (mkF m 15 #[.val (.ref b), .val (.int (Int32.ofNat i)), .val (.ref a), .val (.int da), .val (.long xb), .second, .val (.int xc)] [(.int (Int32.ofNat bs.length)), (.int (Int32.ofNat i))])
      replace X := X.sub (ws' := [b]) (by simp)
      refine s_icmp X (pc' := 29) (pcF := 18) d4_15 (by decide) (by decide) rfl (fun (q3 : ¬ (Int32.ofNat i) < (Int32.ofNat bs.length)) => ?_) (fun (q3 : (Int32.ofNat i) < (Int32.ofNat bs.length)) => ?_)
      · refine s_aloadN X (pc' := 30) d4_29 rfl rfl rfl ?_
        refine s_iloadN X (pc' := 31) d4_30 rfl rfl ?_
        refine s_lload X (pc' := 33) d4_31 rfl rfl ?_
        refine s_iload X (pc' := 35) d4_33 rfl rfl ?_
        refine s_iloadN X (pc' := 36) d4_35 rfl rfl ?_
        refine s_static X (pc' := 39) (W := 2) (as' := [(.long xb), (.int xc), (.int (Int32.ofNat i))]) (S := [(.int (Int32.ofNat i)), (.ref b)]) (k' := 0) (n' := 0) d4_36 (hw _ (List.mem_of_getElem? (i := 52) rfl)) (hw _ (List.mem_of_getElem? (i := 53) rfl)) (hw _ (List.mem_of_getElem? (i := 28) rfl)) (hw _ (List.mem_of_getElem? (i := 54) rfl)) (by decide) own_pd7 rfl ((own_drawn l Z a0 hw hEL xb xc (Int32.ofNat i) _).payS (by simp) (hw _ (List.mem_of_getElem? (i := 54) rfl)) (hw _ (List.mem_of_getElem? (i := 28) rfl)) hEL (by decide) (by decide)) (Nat.le_of_ble_eq_true rfl) rfl rfl (by decide) (by decide) (by decide) (by decide) rfl (fun T h64 v_ ws_ X hgr_ q65 => ?_)
        obtain ⟨z, rfl, hz, e_, rfl⟩ := q65
        rw [e_] at X
        show Go p e below _ T (mkF m 39 #[.val (.ref b), .val (.int (Int32.ofNat i)), .val (.ref a), .val (.int da), .val (.long xb), .second, .val (.int xc)] [(.int z), (.int (Int32.ofNat i)), (.ref b)])
        replace X := X.sub (ws' := [b]) (by simp)
        refine s_castore X (pc' := 40) (i := i) d4_39 A_b rfl (by rw [List.length_map]; exact hi') g_b (by simp) rfl (fun T h66 X W67 A_b => ?_)
        replace K_ := K_.wr W67 (Or.inl (by simp))
        exact s_ret X hEL (ws' := [b]) d4_40 (by decide) (by decide) (by simp) ⟨rfl, K_, ⟨cs.set i z, List.length_set, hcs.set hz, by rw [nar_id (up16 hz), ← List.map_set] at A_b; exact A_b⟩, rfl⟩
      · have hi2 : i < bs.length := (on_lt (by omega) (by omega)).mp q3
        have hz := hbs _ (show bs.getD i 0 ∈ bs by rw [List.getD_eq_getElem?_getD, List.getElem?_eq_getElem hi2]; simp)
        refine s_aloadN X (pc' := 19) d4_18 rfl rfl rfl ?_
        refine s_iloadN X (pc' := 20) d4_19 rfl rfl ?_
        refine s_aloadN X (pc' := 21) d4_20 rfl rfl rfl ?_
        refine s_iloadN X (pc' := 22) d4_21 rfl rfl ?_
        refine s_virtual X (pc' := 25) (W := 2) (as' := [(.int (Int32.ofNat i))]) (S := [(.int (Int32.ofNat i)), (.ref b)]) (k' := 0) (n' := 0) d4_22 (hw _ (List.mem_of_getElem? (i := 30) rfl)) (hw _ (List.mem_of_getElem? (i := 31) rfl)) (hw _ (List.mem_of_getElem? (i := 33) rfl)) (hw _ (List.mem_of_getElem? (i := 32) rfl)) (nface (hw _ (List.mem_of_getElem? (i := 33) rfl))) (by decide) own_pd9 rfl E_a (chPay hw hEL O2 P5 O4 rG3 X.old S_a (fun c hc => (hbs c hc).2) (i := i) hi2 rfl (by decide) (by decide)) (Nat.le_of_ble_eq_true rfl) rfl rfl (by decide) (by decide) (by decide) (by decide) rfl (fun T h68 v_ ws_ X hgr_ q69 => ?_)
        obtain ⟨rfl, e_, rfl⟩ := q69
        rw [e_] at X
        show Go p e below _ T (mkF m 25 #[.val (.ref b), .val (.int (Int32.ofNat i)), .val (.ref a), .val (.int da), .val (.long xb), .second, .val (.int xc)] [(.int (bs.getD i 0)), (.int (Int32.ofNat i)), (.ref b)])
        replace X := X.sub (ws' := [b]) (by simp)
        refine s_castore X (pc' := 26) (i := i) d4_25 A_b rfl (by rw [List.length_map]; exact hi') g_b (by simp) rfl (fun T h70 X W71 A_b => ?_)
        replace K_ := K_.wr W71 (Or.inl (by simp))
        refine s_goto X (pc' := 40) d4_26 (by decide) (by decide) ?_
        exact s_ret X hEL (ws' := [b]) d4_40 (by decide) (by decide) (by simp) ⟨rfl, K_, ⟨cs.set i (bs.getD i 0), List.length_set, hcs.set hz, by rw [nar_id (up16 hz), ← List.map_set] at A_b; exact A_b⟩, rfl⟩
theorem ef_own_law (m : MethodId) (xs : Int32) (xl : Int32) (xp : Int32) (xc : Int32) (xb : Int64) : entryFrame m #[(.int xs), (.int xl), (.int xp), (.int xc), (.long xb)] maxLocals = mkF m 0 #[.val (.int xs), .val (.int xl), .val (.int xp), .val (.int xc), .val (.long xb), .second, .unset, .unset, .unset, .unset, .unset, .unset, .unset, .unset] [] := by first | (simp [entryFrame, mkF, argsToLocals, Value.category, maxLocals]; done) | rfl
set_option maxRecDepth 65536 in
set_option maxHeartbeats 40000000 in
theorem own_law (l : Launch) (Z : State) (a0 : Array Value) (hw : ∀ d ∈ tables_1, d.before a0 Z = true) (hEL : EW Z a0 consts_1) (xs : Int32) (xl : Int32) (xp : Int32) (xc : Int32) (xb : Int64) (h : Heap) {G1 : Int32} {G3 : Value} {vv e0 e1 e2 s0 s1 s2 em : Addr} (O2 : Sta Z Z.heap "java/lang/String" "COMPACT_STRINGS" "Z" (.int G1)) (P5 : ¬ (G1 = (0 : Int32))) (O4 : Sta Z Z.heap "jdk/internal/util/Preconditions" "SIOOBE_FORMATTER" "Ljava/util/function/BiFunction;" G3) (rG3 : G3.isRef = true) (pk : PK Z vv e0 e1 e2 s0 s1 s2 em) :
    Con l Z consts_1 False x code maxLocals ret room_1 [] #[(.int xs), (.int xl), (.int xp), (.int xc), (.long xb)] h (fun v h' ws' => v = some (.int 1)) := by
  refine Con.intro own_pn15 (fun p e s m below meth c T X => ?_)
  rw [ef_own_law m xs xl xp xc xb]
  refine s_iloadN X (pc' := 1) at_0 rfl rfl ?_
  refine s_bipush X (pc' := 3) at_1 (v := (112 : Int32)) (by decide) rfl ?_
  refine s_iand X (pc' := 4) at_3 rfl ?_
  refine s_bipush X (pc' := 6) at_4 (v := (112 : Int32)) (by decide) rfl ?_
  refine s_icmp X (pc' := 29) (pcF := 9) at_6 (by decide) (by decide) rfl (fun (q0 : ¬ (xs &&& (112 : Int32)) = (112 : Int32)) => ?_) (fun (q0 : (xs &&& (112 : Int32)) = (112 : Int32)) => ?_)
  · refine s_iloadN X (pc' := 30) at_29 rfl rfl ?_
    refine s_iconst X (pc' := 31) at_30 (v := (3 : Int32)) rfl rfl ?_
    refine s_iand X (pc' := 32) at_31 rfl ?_
    refine jn (A := ∀ T h1 (kk da : Int32) (N : Nat) (a : Addr) (bs : List Int32), N ≤ 10 → Str Z h1 a bs → Lat bs → Cx p l e room_1 s m #[(.int xs), (.int xl), (.int xp), (.int xc), (.long xb)] below meth c Z consts_1 False x code maxLocals ret [] T h1 2 36 → Go p e below (Post Z consts_1 s room_1 (fun v h' ws' => v = some (.int 1))) T (mkF m 122 #[.val (.int xs), .val (.int xl), .val (.int xp), .val (.int xc), .val (.long xb), .second, .val (.int kk), .val (.ref a), .val (.int da), .val (.int (Int32.ofNat N)), .unset, .unset, .unset, .unset] [])) (fun J => ?_) (fun T h1 kk da N a bs hN S_a hbs X => ?_)
    · rcases and3_cases xs with pq | pq | pq | pq
      · refine go_int (z := (0 : Int32)) (pq) ?_
        refine s_istore X (pc' := 34) (L' := #[.val (.int xs), .val (.int xl), .val (.int xp), .val (.int xc), .val (.long xb), .second, .val (.int (0 : Int32)), .unset, .unset, .unset, .unset, .unset, .unset, .unset]) at_32 rfl rfl ?_
        refine s_iload X (pc' := 36) at_34 rfl rfl ?_
        refine s_ifF X (pc' := 39) at_36 (show (0 : Int32) = (0 : Int32) by decide) rfl ?_
        refine s_ldcS X (pc' := 41) (k' := 2) (n' := 36) (nn := 32) (vs := [(.int (109 : Int32)), (.int (101 : Int32)), (.int (116 : Int32)), (.int (101 : Int32)), (.int (114 : Int32)), (.int (105 : Int32)), (.int (110 : Int32)), (.int (103 : Int32))]) (z := (8 : Int32)) hEL at_39 (hw _ (List.mem_of_getElem? (i := 0) rfl)) (fun d hd => hw d ((by decide +kernel : ∀ d ∈ Bundle.stringAtoms, d ∈ tables_1) d hd)) (by simp [consts_1, x]) (by decide) (by decide) (by decide) (by decide) (by decide) (by decide) (by decide) (by decide) (by decide) rfl (fun T h76 a b kc_b X' E77 E_a F_a_coder F_a_value V_b nw_ => ?_)
        replace X := X'
        have S_a : Str Z h76 a wM := ⟨b, kc_b, 0, 8, [(.int (109 : Int32)), (.int (101 : Int32)), (.int (116 : Int32)), (.int (101 : Int32)), (.int (114 : Int32)), (.int (105 : Int32)), (.int (110 : Int32)), (.int (103 : Int32))], E_a, F_a_value, F_a_coder, V_b, Or.inl ⟨rfl, rfl, rfl, by decide⟩, by decide, by decide⟩
        refine s_astore X (pc' := 43) (L' := #[.val (.int xs), .val (.int xl), .val (.int xp), .val (.int xc), .val (.long xb), .second, .val (.int (0 : Int32)), .val (.ref a), .unset, .unset, .unset, .unset, .unset, .unset]) at_41 rfl rfl rfl ?_
        refine s_goto X (pc' := 76) at_43 (by decide) (by decide) ?_
        refine s_iloadN X (pc' := 77) at_76 rfl rfl ?_
        refine s_bipush X (pc' := 79) at_77 (v := (8 : Int32)) (by decide) rfl ?_
        refine s_iand X (pc' := 80) at_79 rfl ?_
        refine s_if X (pc' := 87) (pcF := 83) at_80 (by decide) (by decide) rfl (fun (q8 : (xs &&& (8 : Int32)) = (0 : Int32)) => ?_) (fun (q8 : ¬ (xs &&& (8 : Int32)) = (0 : Int32)) => ?_)
        · have E_a := S_a.exa
          refine s_iconst X (pc' := 88) at_87 (v := (0 : Int32)) rfl rfl ?_
          refine s_istore X (pc' := 90) (L' := #[.val (.int xs), .val (.int xl), .val (.int xp), .val (.int xc), .val (.long xb), .second, .val (.int (0 : Int32)), .val (.ref a), .val (.int (0 : Int32)), .unset, .unset, .unset, .unset, .unset]) at_88 rfl rfl ?_
          refine s_iload X (pc' := 92) at_90 rfl rfl ?_
          refine s_iconst X (pc' := 93) at_92 (v := (3 : Int32)) rfl rfl ?_
          refine s_icmpT X (pc' := 105) at_93 (show ¬ (0 : Int32) = (3 : Int32) by decide) (by decide) (by decide) ?_
          refine s_iconst X (pc' := 106) at_105 (v := (0 : Int32)) rfl rfl ?_
          refine s_aload X (pc' := 108) at_106 rfl rfl rfl ?_
          refine s_virtual X (pc' := 111) (W := 1) (as' := []) (S := [(.int (0 : Int32))]) (k' := 2) (n' := 36) at_108 (hw _ (List.mem_of_getElem? (i := 8) rfl)) (hw _ (List.mem_of_getElem? (i := 9) rfl)) (hw _ (List.mem_of_getElem? (i := 11) rfl)) (hw _ (List.mem_of_getElem? (i := 10) rfl)) (nface (hw _ (List.mem_of_getElem? (i := 11) rfl))) (by decide) own_pd8 rfl E_a (lenPay hw hEL O2 P5 X.old S_a (by decide) (by decide)) (Nat.le_of_ble_eq_true rfl) rfl rfl (by decide) (by decide) (by decide) (by decide) rfl (fun T h78 v_ ws_ X hgr_ q79 => ?_)
          obtain ⟨rfl, e_, rfl⟩ := q79
          rw [e_] at X
          show Go p e below _ T (mkF m 111 #[.val (.int xs), .val (.int xl), .val (.int xp), .val (.int xc), .val (.long xb), .second, .val (.int (0 : Int32)), .val (.ref a), .val (.int (0 : Int32)), .unset, .unset, .unset, .unset, .unset] [(.int (Int32.ofNat wM.length)), (.int (0 : Int32))])
          replace X := X.sub (ws' := []) (by simp)
          refine go_int (z := (Int32.ofNat 8)) (rfl) ?_
          refine s_iloadN X (pc' := 112) at_111 rfl rfl ?_
          refine s_iconst X (pc' := 113) at_112 (v := (3 : Int32)) rfl rfl ?_
          refine s_iand X (pc' := 114) at_113 rfl ?_
          refine s_iadd X (pc' := 115) at_114 rfl ?_
          refine s_iconst X (pc' := 116) at_115 (v := (1 : Int32)) rfl rfl ?_
          refine s_isub X (pc' := 117) at_116 rfl ?_
          refine s_static X (pc' := 120) (W := 0) (as' := [(.int (0 : Int32)), (.int (((Int32.ofNat 8) + (xl &&& (3 : Int32))) - (1 : Int32)))]) (S := []) (k' := 2) (n' := 36) at_117 (hw _ (List.mem_of_getElem? (i := 21) rfl)) (hw _ (List.mem_of_getElem? (i := 22) rfl)) (hw _ (List.mem_of_getElem? (i := 23) rfl)) (hw _ (List.mem_of_getElem? (i := 24) rfl)) (by decide) own_pd12 rfl ((own_max l Z a0 hw hEL (0 : Int32) (((Int32.ofNat 8) + (xl &&& (3 : Int32))) - (1 : Int32)) _).payS (by simp) (hw _ (List.mem_of_getElem? (i := 24) rfl)) (hw _ (List.mem_of_getElem? (i := 23) rfl)) hEL (by decide) (by decide)) (Nat.le_of_ble_eq_true rfl) rfl rfl (by decide) (by decide) (by decide) (by decide) rfl (fun T h80 v_ ws_ X hgr_ q81 => ?_)
          obtain ⟨rfl, e_, rfl⟩ := q81
          rw [e_] at X
          show Go p e below _ T (mkF m 120 #[.val (.int xs), .val (.int xl), .val (.int xp), .val (.int xc), .val (.long xb), .second, .val (.int (0 : Int32)), .val (.ref a), .val (.int (0 : Int32)), .unset, .unset, .unset, .unset, .unset] [(.int (if (0 : Int32) < (((Int32.ofNat 8) + (xl &&& (3 : Int32))) - (1 : Int32)) then (((Int32.ofNat 8) + (xl &&& (3 : Int32))) - (1 : Int32)) else (0 : Int32)))])
          replace X := X.sub (ws' := []) (by simp)
          obtain ⟨N, hN, gN⟩ := len3 8 (by decide) xl
          refine go_int (z := (Int32.ofNat N)) (gN) ?_
          refine s_istore X (pc' := 122) (L' := #[.val (.int xs), .val (.int xl), .val (.int xp), .val (.int xc), .val (.long xb), .second, .val (.int (0 : Int32)), .val (.ref a), .val (.int (0 : Int32)), .val (.int (Int32.ofNat N)), .unset, .unset, .unset, .unset]) at_120 rfl rfl ?_
          exact J T h76 (0 : Int32) (0 : Int32) N a _ hN S_a (show ∀ c ∈ wM, ¬ c < 0 ∧ ¬ (255 : Int32) < c by decide) (X.more (by decide) (by decide))
        · have E_a := S_a.exa
          refine s_iconst X (pc' := 84) at_83 (v := (1 : Int32)) rfl rfl ?_
          refine s_goto X (pc' := 88) at_84 (by decide) (by decide) ?_
          refine s_istore X (pc' := 90) (L' := #[.val (.int xs), .val (.int xl), .val (.int xp), .val (.int xc), .val (.long xb), .second, .val (.int (0 : Int32)), .val (.ref a), .val (.int (1 : Int32)), .unset, .unset, .unset, .unset, .unset]) at_88 rfl rfl ?_
          refine s_iload X (pc' := 92) at_90 rfl rfl ?_
          refine s_iconst X (pc' := 93) at_92 (v := (3 : Int32)) rfl rfl ?_
          refine s_icmpT X (pc' := 105) at_93 (show ¬ (0 : Int32) = (3 : Int32) by decide) (by decide) (by decide) ?_
          refine s_iconst X (pc' := 106) at_105 (v := (0 : Int32)) rfl rfl ?_
          refine s_aload X (pc' := 108) at_106 rfl rfl rfl ?_
          refine s_virtual X (pc' := 111) (W := 1) (as' := []) (S := [(.int (0 : Int32))]) (k' := 2) (n' := 36) at_108 (hw _ (List.mem_of_getElem? (i := 8) rfl)) (hw _ (List.mem_of_getElem? (i := 9) rfl)) (hw _ (List.mem_of_getElem? (i := 11) rfl)) (hw _ (List.mem_of_getElem? (i := 10) rfl)) (nface (hw _ (List.mem_of_getElem? (i := 11) rfl))) (by decide) own_pd8 rfl E_a (lenPay hw hEL O2 P5 X.old S_a (by decide) (by decide)) (Nat.le_of_ble_eq_true rfl) rfl rfl (by decide) (by decide) (by decide) (by decide) rfl (fun T h82 v_ ws_ X hgr_ q83 => ?_)
          obtain ⟨rfl, e_, rfl⟩ := q83
          rw [e_] at X
          show Go p e below _ T (mkF m 111 #[.val (.int xs), .val (.int xl), .val (.int xp), .val (.int xc), .val (.long xb), .second, .val (.int (0 : Int32)), .val (.ref a), .val (.int (1 : Int32)), .unset, .unset, .unset, .unset, .unset] [(.int (Int32.ofNat wM.length)), (.int (0 : Int32))])
          replace X := X.sub (ws' := []) (by simp)
          refine go_int (z := (Int32.ofNat 8)) (rfl) ?_
          refine s_iloadN X (pc' := 112) at_111 rfl rfl ?_
          refine s_iconst X (pc' := 113) at_112 (v := (3 : Int32)) rfl rfl ?_
          refine s_iand X (pc' := 114) at_113 rfl ?_
          refine s_iadd X (pc' := 115) at_114 rfl ?_
          refine s_iconst X (pc' := 116) at_115 (v := (1 : Int32)) rfl rfl ?_
          refine s_isub X (pc' := 117) at_116 rfl ?_
          refine s_static X (pc' := 120) (W := 0) (as' := [(.int (0 : Int32)), (.int (((Int32.ofNat 8) + (xl &&& (3 : Int32))) - (1 : Int32)))]) (S := []) (k' := 2) (n' := 36) at_117 (hw _ (List.mem_of_getElem? (i := 21) rfl)) (hw _ (List.mem_of_getElem? (i := 22) rfl)) (hw _ (List.mem_of_getElem? (i := 23) rfl)) (hw _ (List.mem_of_getElem? (i := 24) rfl)) (by decide) own_pd12 rfl ((own_max l Z a0 hw hEL (0 : Int32) (((Int32.ofNat 8) + (xl &&& (3 : Int32))) - (1 : Int32)) _).payS (by simp) (hw _ (List.mem_of_getElem? (i := 24) rfl)) (hw _ (List.mem_of_getElem? (i := 23) rfl)) hEL (by decide) (by decide)) (Nat.le_of_ble_eq_true rfl) rfl rfl (by decide) (by decide) (by decide) (by decide) rfl (fun T h84 v_ ws_ X hgr_ q85 => ?_)
          obtain ⟨rfl, e_, rfl⟩ := q85
          rw [e_] at X
          show Go p e below _ T (mkF m 120 #[.val (.int xs), .val (.int xl), .val (.int xp), .val (.int xc), .val (.long xb), .second, .val (.int (0 : Int32)), .val (.ref a), .val (.int (1 : Int32)), .unset, .unset, .unset, .unset, .unset] [(.int (if (0 : Int32) < (((Int32.ofNat 8) + (xl &&& (3 : Int32))) - (1 : Int32)) then (((Int32.ofNat 8) + (xl &&& (3 : Int32))) - (1 : Int32)) else (0 : Int32)))])
          replace X := X.sub (ws' := []) (by simp)
          obtain ⟨N, hN, gN⟩ := len3 8 (by decide) xl
          refine go_int (z := (Int32.ofNat N)) (gN) ?_
          refine s_istore X (pc' := 122) (L' := #[.val (.int xs), .val (.int xl), .val (.int xp), .val (.int xc), .val (.long xb), .second, .val (.int (0 : Int32)), .val (.ref a), .val (.int (1 : Int32)), .val (.int (Int32.ofNat N)), .unset, .unset, .unset, .unset]) at_120 rfl rfl ?_
          exact J T h76 (0 : Int32) (1 : Int32) N a _ hN S_a (show ∀ c ∈ wM, ¬ c < 0 ∧ ¬ (255 : Int32) < c by decide) (X.more (by decide) (by decide))
      · refine go_int (z := (1 : Int32)) (pq) ?_
        refine s_istore X (pc' := 34) (L' := #[.val (.int xs), .val (.int xl), .val (.int xp), .val (.int xc), .val (.long xb), .second, .val (.int (1 : Int32)), .unset, .unset, .unset, .unset, .unset, .unset, .unset]) at_32 rfl rfl ?_
        refine s_iload X (pc' := 36) at_34 rfl rfl ?_
        refine s_ifT X (pc' := 46) at_36 (show ¬ (1 : Int32) = (0 : Int32) by decide) (by decide) (by decide) ?_
        refine s_iload X (pc' := 48) at_46 rfl rfl ?_
        refine s_iconst X (pc' := 49) at_48 (v := (1 : Int32)) rfl rfl ?_
        refine s_icmpF X (pc' := 52) at_49 (show (1 : Int32) = (1 : Int32) by decide) rfl ?_
        refine s_ldcS X (pc' := 54) (k' := 2) (n' := 28) (nn := 24) (vs := [(.int (114 : Int32)), (.int (97 : Int32)), (.int (116 : Int32)), (.int (105 : Int32)), (.int (110 : Int32)), (.int (103 : Int32))]) (z := (6 : Int32)) hEL at_52 (hw _ (List.mem_of_getElem? (i := 118) rfl)) (fun d hd => hw d ((by decide +kernel : ∀ d ∈ Bundle.stringAtoms, d ∈ tables_1) d hd)) (by simp [consts_1, x]) (by decide) (by decide) (by decide) (by decide) (by decide) (by decide) (by decide) (by decide) (by decide) rfl (fun T h86 a b kc_b X' E87 E_a F_a_coder F_a_value V_b nw_ => ?_)
        replace X := X'
        have S_a : Str Z h86 a wR := ⟨b, kc_b, 0, 6, [(.int (114 : Int32)), (.int (97 : Int32)), (.int (116 : Int32)), (.int (105 : Int32)), (.int (110 : Int32)), (.int (103 : Int32))], E_a, F_a_value, F_a_coder, V_b, Or.inl ⟨rfl, rfl, rfl, by decide⟩, by decide, by decide⟩
        refine s_astore X (pc' := 56) (L' := #[.val (.int xs), .val (.int xl), .val (.int xp), .val (.int xc), .val (.long xb), .second, .val (.int (1 : Int32)), .val (.ref a), .unset, .unset, .unset, .unset, .unset, .unset]) at_54 rfl rfl rfl ?_
        refine s_goto X (pc' := 76) at_56 (by decide) (by decide) ?_
        refine s_iloadN X (pc' := 77) at_76 rfl rfl ?_
        refine s_bipush X (pc' := 79) at_77 (v := (8 : Int32)) (by decide) rfl ?_
        refine s_iand X (pc' := 80) at_79 rfl ?_
        refine s_if X (pc' := 87) (pcF := 83) at_80 (by decide) (by decide) rfl (fun (q8 : (xs &&& (8 : Int32)) = (0 : Int32)) => ?_) (fun (q8 : ¬ (xs &&& (8 : Int32)) = (0 : Int32)) => ?_)
        · have E_a := S_a.exa
          refine s_iconst X (pc' := 88) at_87 (v := (0 : Int32)) rfl rfl ?_
          refine s_istore X (pc' := 90) (L' := #[.val (.int xs), .val (.int xl), .val (.int xp), .val (.int xc), .val (.long xb), .second, .val (.int (1 : Int32)), .val (.ref a), .val (.int (0 : Int32)), .unset, .unset, .unset, .unset, .unset]) at_88 rfl rfl ?_
          refine s_iload X (pc' := 92) at_90 rfl rfl ?_
          refine s_iconst X (pc' := 93) at_92 (v := (3 : Int32)) rfl rfl ?_
          refine s_icmpT X (pc' := 105) at_93 (show ¬ (1 : Int32) = (3 : Int32) by decide) (by decide) (by decide) ?_
          refine s_iconst X (pc' := 106) at_105 (v := (0 : Int32)) rfl rfl ?_
          refine s_aload X (pc' := 108) at_106 rfl rfl rfl ?_
          refine s_virtual X (pc' := 111) (W := 1) (as' := []) (S := [(.int (0 : Int32))]) (k' := 2) (n' := 28) at_108 (hw _ (List.mem_of_getElem? (i := 8) rfl)) (hw _ (List.mem_of_getElem? (i := 9) rfl)) (hw _ (List.mem_of_getElem? (i := 11) rfl)) (hw _ (List.mem_of_getElem? (i := 10) rfl)) (nface (hw _ (List.mem_of_getElem? (i := 11) rfl))) (by decide) own_pd8 rfl E_a (lenPay hw hEL O2 P5 X.old S_a (by decide) (by decide)) (Nat.le_of_ble_eq_true rfl) rfl rfl (by decide) (by decide) (by decide) (by decide) rfl (fun T h88 v_ ws_ X hgr_ q89 => ?_)
          obtain ⟨rfl, e_, rfl⟩ := q89
          rw [e_] at X
          show Go p e below _ T (mkF m 111 #[.val (.int xs), .val (.int xl), .val (.int xp), .val (.int xc), .val (.long xb), .second, .val (.int (1 : Int32)), .val (.ref a), .val (.int (0 : Int32)), .unset, .unset, .unset, .unset, .unset] [(.int (Int32.ofNat wR.length)), (.int (0 : Int32))])
          replace X := X.sub (ws' := []) (by simp)
          refine go_int (z := (Int32.ofNat 6)) (rfl) ?_
          refine s_iloadN X (pc' := 112) at_111 rfl rfl ?_
          refine s_iconst X (pc' := 113) at_112 (v := (3 : Int32)) rfl rfl ?_
          refine s_iand X (pc' := 114) at_113 rfl ?_
          refine s_iadd X (pc' := 115) at_114 rfl ?_
          refine s_iconst X (pc' := 116) at_115 (v := (1 : Int32)) rfl rfl ?_
          refine s_isub X (pc' := 117) at_116 rfl ?_
          refine s_static X (pc' := 120) (W := 0) (as' := [(.int (0 : Int32)), (.int (((Int32.ofNat 6) + (xl &&& (3 : Int32))) - (1 : Int32)))]) (S := []) (k' := 2) (n' := 28) at_117 (hw _ (List.mem_of_getElem? (i := 21) rfl)) (hw _ (List.mem_of_getElem? (i := 22) rfl)) (hw _ (List.mem_of_getElem? (i := 23) rfl)) (hw _ (List.mem_of_getElem? (i := 24) rfl)) (by decide) own_pd12 rfl ((own_max l Z a0 hw hEL (0 : Int32) (((Int32.ofNat 6) + (xl &&& (3 : Int32))) - (1 : Int32)) _).payS (by simp) (hw _ (List.mem_of_getElem? (i := 24) rfl)) (hw _ (List.mem_of_getElem? (i := 23) rfl)) hEL (by decide) (by decide)) (Nat.le_of_ble_eq_true rfl) rfl rfl (by decide) (by decide) (by decide) (by decide) rfl (fun T h90 v_ ws_ X hgr_ q91 => ?_)
          obtain ⟨rfl, e_, rfl⟩ := q91
          rw [e_] at X
          show Go p e below _ T (mkF m 120 #[.val (.int xs), .val (.int xl), .val (.int xp), .val (.int xc), .val (.long xb), .second, .val (.int (1 : Int32)), .val (.ref a), .val (.int (0 : Int32)), .unset, .unset, .unset, .unset, .unset] [(.int (if (0 : Int32) < (((Int32.ofNat 6) + (xl &&& (3 : Int32))) - (1 : Int32)) then (((Int32.ofNat 6) + (xl &&& (3 : Int32))) - (1 : Int32)) else (0 : Int32)))])
          replace X := X.sub (ws' := []) (by simp)
          obtain ⟨N, hN, gN⟩ := len3 6 (by decide) xl
          refine go_int (z := (Int32.ofNat N)) (gN) ?_
          refine s_istore X (pc' := 122) (L' := #[.val (.int xs), .val (.int xl), .val (.int xp), .val (.int xc), .val (.long xb), .second, .val (.int (1 : Int32)), .val (.ref a), .val (.int (0 : Int32)), .val (.int (Int32.ofNat N)), .unset, .unset, .unset, .unset]) at_120 rfl rfl ?_
          exact J T h86 (1 : Int32) (0 : Int32) N a _ hN S_a (show ∀ c ∈ wR, ¬ c < 0 ∧ ¬ (255 : Int32) < c by decide) (X.more (by decide) (by decide))
        · have E_a := S_a.exa
          refine s_iconst X (pc' := 84) at_83 (v := (1 : Int32)) rfl rfl ?_
          refine s_goto X (pc' := 88) at_84 (by decide) (by decide) ?_
          refine s_istore X (pc' := 90) (L' := #[.val (.int xs), .val (.int xl), .val (.int xp), .val (.int xc), .val (.long xb), .second, .val (.int (1 : Int32)), .val (.ref a), .val (.int (1 : Int32)), .unset, .unset, .unset, .unset, .unset]) at_88 rfl rfl ?_
          refine s_iload X (pc' := 92) at_90 rfl rfl ?_
          refine s_iconst X (pc' := 93) at_92 (v := (3 : Int32)) rfl rfl ?_
          refine s_icmpT X (pc' := 105) at_93 (show ¬ (1 : Int32) = (3 : Int32) by decide) (by decide) (by decide) ?_
          refine s_iconst X (pc' := 106) at_105 (v := (0 : Int32)) rfl rfl ?_
          refine s_aload X (pc' := 108) at_106 rfl rfl rfl ?_
          refine s_virtual X (pc' := 111) (W := 1) (as' := []) (S := [(.int (0 : Int32))]) (k' := 2) (n' := 28) at_108 (hw _ (List.mem_of_getElem? (i := 8) rfl)) (hw _ (List.mem_of_getElem? (i := 9) rfl)) (hw _ (List.mem_of_getElem? (i := 11) rfl)) (hw _ (List.mem_of_getElem? (i := 10) rfl)) (nface (hw _ (List.mem_of_getElem? (i := 11) rfl))) (by decide) own_pd8 rfl E_a (lenPay hw hEL O2 P5 X.old S_a (by decide) (by decide)) (Nat.le_of_ble_eq_true rfl) rfl rfl (by decide) (by decide) (by decide) (by decide) rfl (fun T h92 v_ ws_ X hgr_ q93 => ?_)
          obtain ⟨rfl, e_, rfl⟩ := q93
          rw [e_] at X
          show Go p e below _ T (mkF m 111 #[.val (.int xs), .val (.int xl), .val (.int xp), .val (.int xc), .val (.long xb), .second, .val (.int (1 : Int32)), .val (.ref a), .val (.int (1 : Int32)), .unset, .unset, .unset, .unset, .unset] [(.int (Int32.ofNat wR.length)), (.int (0 : Int32))])
          replace X := X.sub (ws' := []) (by simp)
          refine go_int (z := (Int32.ofNat 6)) (rfl) ?_
          refine s_iloadN X (pc' := 112) at_111 rfl rfl ?_
          refine s_iconst X (pc' := 113) at_112 (v := (3 : Int32)) rfl rfl ?_
          refine s_iand X (pc' := 114) at_113 rfl ?_
          refine s_iadd X (pc' := 115) at_114 rfl ?_
          refine s_iconst X (pc' := 116) at_115 (v := (1 : Int32)) rfl rfl ?_
          refine s_isub X (pc' := 117) at_116 rfl ?_
          refine s_static X (pc' := 120) (W := 0) (as' := [(.int (0 : Int32)), (.int (((Int32.ofNat 6) + (xl &&& (3 : Int32))) - (1 : Int32)))]) (S := []) (k' := 2) (n' := 28) at_117 (hw _ (List.mem_of_getElem? (i := 21) rfl)) (hw _ (List.mem_of_getElem? (i := 22) rfl)) (hw _ (List.mem_of_getElem? (i := 23) rfl)) (hw _ (List.mem_of_getElem? (i := 24) rfl)) (by decide) own_pd12 rfl ((own_max l Z a0 hw hEL (0 : Int32) (((Int32.ofNat 6) + (xl &&& (3 : Int32))) - (1 : Int32)) _).payS (by simp) (hw _ (List.mem_of_getElem? (i := 24) rfl)) (hw _ (List.mem_of_getElem? (i := 23) rfl)) hEL (by decide) (by decide)) (Nat.le_of_ble_eq_true rfl) rfl rfl (by decide) (by decide) (by decide) (by decide) rfl (fun T h94 v_ ws_ X hgr_ q95 => ?_)
          obtain ⟨rfl, e_, rfl⟩ := q95
          rw [e_] at X
          show Go p e below _ T (mkF m 120 #[.val (.int xs), .val (.int xl), .val (.int xp), .val (.int xc), .val (.long xb), .second, .val (.int (1 : Int32)), .val (.ref a), .val (.int (1 : Int32)), .unset, .unset, .unset, .unset, .unset] [(.int (if (0 : Int32) < (((Int32.ofNat 6) + (xl &&& (3 : Int32))) - (1 : Int32)) then (((Int32.ofNat 6) + (xl &&& (3 : Int32))) - (1 : Int32)) else (0 : Int32)))])
          replace X := X.sub (ws' := []) (by simp)
          obtain ⟨N, hN, gN⟩ := len3 6 (by decide) xl
          refine go_int (z := (Int32.ofNat N)) (gN) ?_
          refine s_istore X (pc' := 122) (L' := #[.val (.int xs), .val (.int xl), .val (.int xp), .val (.int xc), .val (.long xb), .second, .val (.int (1 : Int32)), .val (.ref a), .val (.int (1 : Int32)), .val (.int (Int32.ofNat N)), .unset, .unset, .unset, .unset]) at_120 rfl rfl ?_
          exact J T h86 (1 : Int32) (1 : Int32) N a _ hN S_a (show ∀ c ∈ wR, ¬ c < 0 ∧ ¬ (255 : Int32) < c by decide) (X.more (by decide) (by decide))
      · refine go_int (z := (2 : Int32)) (pq) ?_
        refine s_istore X (pc' := 34) (L' := #[.val (.int xs), .val (.int xl), .val (.int xp), .val (.int xc), .val (.long xb), .second, .val (.int (2 : Int32)), .unset, .unset, .unset, .unset, .unset, .unset, .unset]) at_32 rfl rfl ?_
        refine s_iload X (pc' := 36) at_34 rfl rfl ?_
        refine s_ifT X (pc' := 46) at_36 (show ¬ (2 : Int32) = (0 : Int32) by decide) (by decide) (by decide) ?_
        refine s_iload X (pc' := 48) at_46 rfl rfl ?_
        refine s_iconst X (pc' := 49) at_48 (v := (1 : Int32)) rfl rfl ?_
        refine s_icmpT X (pc' := 59) at_49 (show ¬ (2 : Int32) = (1 : Int32) by decide) (by decide) (by decide) ?_
        refine s_iload X (pc' := 61) at_59 rfl rfl ?_
        refine s_iconst X (pc' := 62) at_61 (v := (2 : Int32)) rfl rfl ?_
        refine s_icmpF X (pc' := 65) at_62 (show (2 : Int32) = (2 : Int32) by decide) rfl ?_
        refine s_ldcS X (pc' := 67) (k' := 2) (n' := 32) (nn := 28) (vs := [(.int (112 : Int32)), (.int (114 : Int32)), (.int (105 : Int32)), (.int (99 : Int32)), (.int (105 : Int32)), (.int (110 : Int32)), (.int (103 : Int32))]) (z := (7 : Int32)) hEL at_65 (hw _ (List.mem_of_getElem? (i := 119) rfl)) (fun d hd => hw d ((by decide +kernel : ∀ d ∈ Bundle.stringAtoms, d ∈ tables_1) d hd)) (by simp [consts_1, x]) (by decide) (by decide) (by decide) (by decide) (by decide) (by decide) (by decide) (by decide) (by decide) rfl (fun T h96 a b kc_b X' E97 E_a F_a_coder F_a_value V_b nw_ => ?_)
        replace X := X'
        have S_a : Str Z h96 a wP := ⟨b, kc_b, 0, 7, [(.int (112 : Int32)), (.int (114 : Int32)), (.int (105 : Int32)), (.int (99 : Int32)), (.int (105 : Int32)), (.int (110 : Int32)), (.int (103 : Int32))], E_a, F_a_value, F_a_coder, V_b, Or.inl ⟨rfl, rfl, rfl, by decide⟩, by decide, by decide⟩
        refine s_astore X (pc' := 69) (L' := #[.val (.int xs), .val (.int xl), .val (.int xp), .val (.int xc), .val (.long xb), .second, .val (.int (2 : Int32)), .val (.ref a), .unset, .unset, .unset, .unset, .unset, .unset]) at_67 rfl rfl rfl ?_
        refine s_goto X (pc' := 76) at_69 (by decide) (by decide) ?_
        refine s_iloadN X (pc' := 77) at_76 rfl rfl ?_
        refine s_bipush X (pc' := 79) at_77 (v := (8 : Int32)) (by decide) rfl ?_
        refine s_iand X (pc' := 80) at_79 rfl ?_
        refine s_if X (pc' := 87) (pcF := 83) at_80 (by decide) (by decide) rfl (fun (q8 : (xs &&& (8 : Int32)) = (0 : Int32)) => ?_) (fun (q8 : ¬ (xs &&& (8 : Int32)) = (0 : Int32)) => ?_)
        · have E_a := S_a.exa
          refine s_iconst X (pc' := 88) at_87 (v := (0 : Int32)) rfl rfl ?_
          refine s_istore X (pc' := 90) (L' := #[.val (.int xs), .val (.int xl), .val (.int xp), .val (.int xc), .val (.long xb), .second, .val (.int (2 : Int32)), .val (.ref a), .val (.int (0 : Int32)), .unset, .unset, .unset, .unset, .unset]) at_88 rfl rfl ?_
          refine s_iload X (pc' := 92) at_90 rfl rfl ?_
          refine s_iconst X (pc' := 93) at_92 (v := (3 : Int32)) rfl rfl ?_
          refine s_icmpT X (pc' := 105) at_93 (show ¬ (2 : Int32) = (3 : Int32) by decide) (by decide) (by decide) ?_
          refine s_iconst X (pc' := 106) at_105 (v := (0 : Int32)) rfl rfl ?_
          refine s_aload X (pc' := 108) at_106 rfl rfl rfl ?_
          refine s_virtual X (pc' := 111) (W := 1) (as' := []) (S := [(.int (0 : Int32))]) (k' := 2) (n' := 32) at_108 (hw _ (List.mem_of_getElem? (i := 8) rfl)) (hw _ (List.mem_of_getElem? (i := 9) rfl)) (hw _ (List.mem_of_getElem? (i := 11) rfl)) (hw _ (List.mem_of_getElem? (i := 10) rfl)) (nface (hw _ (List.mem_of_getElem? (i := 11) rfl))) (by decide) own_pd8 rfl E_a (lenPay hw hEL O2 P5 X.old S_a (by decide) (by decide)) (Nat.le_of_ble_eq_true rfl) rfl rfl (by decide) (by decide) (by decide) (by decide) rfl (fun T h98 v_ ws_ X hgr_ q99 => ?_)
          obtain ⟨rfl, e_, rfl⟩ := q99
          rw [e_] at X
          show Go p e below _ T (mkF m 111 #[.val (.int xs), .val (.int xl), .val (.int xp), .val (.int xc), .val (.long xb), .second, .val (.int (2 : Int32)), .val (.ref a), .val (.int (0 : Int32)), .unset, .unset, .unset, .unset, .unset] [(.int (Int32.ofNat wP.length)), (.int (0 : Int32))])
          replace X := X.sub (ws' := []) (by simp)
          refine go_int (z := (Int32.ofNat 7)) (rfl) ?_
          refine s_iloadN X (pc' := 112) at_111 rfl rfl ?_
          refine s_iconst X (pc' := 113) at_112 (v := (3 : Int32)) rfl rfl ?_
          refine s_iand X (pc' := 114) at_113 rfl ?_
          refine s_iadd X (pc' := 115) at_114 rfl ?_
          refine s_iconst X (pc' := 116) at_115 (v := (1 : Int32)) rfl rfl ?_
          refine s_isub X (pc' := 117) at_116 rfl ?_
          refine s_static X (pc' := 120) (W := 0) (as' := [(.int (0 : Int32)), (.int (((Int32.ofNat 7) + (xl &&& (3 : Int32))) - (1 : Int32)))]) (S := []) (k' := 2) (n' := 32) at_117 (hw _ (List.mem_of_getElem? (i := 21) rfl)) (hw _ (List.mem_of_getElem? (i := 22) rfl)) (hw _ (List.mem_of_getElem? (i := 23) rfl)) (hw _ (List.mem_of_getElem? (i := 24) rfl)) (by decide) own_pd12 rfl ((own_max l Z a0 hw hEL (0 : Int32) (((Int32.ofNat 7) + (xl &&& (3 : Int32))) - (1 : Int32)) _).payS (by simp) (hw _ (List.mem_of_getElem? (i := 24) rfl)) (hw _ (List.mem_of_getElem? (i := 23) rfl)) hEL (by decide) (by decide)) (Nat.le_of_ble_eq_true rfl) rfl rfl (by decide) (by decide) (by decide) (by decide) rfl (fun T h100 v_ ws_ X hgr_ q101 => ?_)
          obtain ⟨rfl, e_, rfl⟩ := q101
          rw [e_] at X
          show Go p e below _ T (mkF m 120 #[.val (.int xs), .val (.int xl), .val (.int xp), .val (.int xc), .val (.long xb), .second, .val (.int (2 : Int32)), .val (.ref a), .val (.int (0 : Int32)), .unset, .unset, .unset, .unset, .unset] [(.int (if (0 : Int32) < (((Int32.ofNat 7) + (xl &&& (3 : Int32))) - (1 : Int32)) then (((Int32.ofNat 7) + (xl &&& (3 : Int32))) - (1 : Int32)) else (0 : Int32)))])
          replace X := X.sub (ws' := []) (by simp)
          obtain ⟨N, hN, gN⟩ := len3 7 (by decide) xl
          refine go_int (z := (Int32.ofNat N)) (gN) ?_
          refine s_istore X (pc' := 122) (L' := #[.val (.int xs), .val (.int xl), .val (.int xp), .val (.int xc), .val (.long xb), .second, .val (.int (2 : Int32)), .val (.ref a), .val (.int (0 : Int32)), .val (.int (Int32.ofNat N)), .unset, .unset, .unset, .unset]) at_120 rfl rfl ?_
          exact J T h96 (2 : Int32) (0 : Int32) N a _ hN S_a (show ∀ c ∈ wP, ¬ c < 0 ∧ ¬ (255 : Int32) < c by decide) (X.more (by decide) (by decide))
        · have E_a := S_a.exa
          refine s_iconst X (pc' := 84) at_83 (v := (1 : Int32)) rfl rfl ?_
          refine s_goto X (pc' := 88) at_84 (by decide) (by decide) ?_
          refine s_istore X (pc' := 90) (L' := #[.val (.int xs), .val (.int xl), .val (.int xp), .val (.int xc), .val (.long xb), .second, .val (.int (2 : Int32)), .val (.ref a), .val (.int (1 : Int32)), .unset, .unset, .unset, .unset, .unset]) at_88 rfl rfl ?_
          refine s_iload X (pc' := 92) at_90 rfl rfl ?_
          refine s_iconst X (pc' := 93) at_92 (v := (3 : Int32)) rfl rfl ?_
          refine s_icmpT X (pc' := 105) at_93 (show ¬ (2 : Int32) = (3 : Int32) by decide) (by decide) (by decide) ?_
          refine s_iconst X (pc' := 106) at_105 (v := (0 : Int32)) rfl rfl ?_
          refine s_aload X (pc' := 108) at_106 rfl rfl rfl ?_
          refine s_virtual X (pc' := 111) (W := 1) (as' := []) (S := [(.int (0 : Int32))]) (k' := 2) (n' := 32) at_108 (hw _ (List.mem_of_getElem? (i := 8) rfl)) (hw _ (List.mem_of_getElem? (i := 9) rfl)) (hw _ (List.mem_of_getElem? (i := 11) rfl)) (hw _ (List.mem_of_getElem? (i := 10) rfl)) (nface (hw _ (List.mem_of_getElem? (i := 11) rfl))) (by decide) own_pd8 rfl E_a (lenPay hw hEL O2 P5 X.old S_a (by decide) (by decide)) (Nat.le_of_ble_eq_true rfl) rfl rfl (by decide) (by decide) (by decide) (by decide) rfl (fun T h102 v_ ws_ X hgr_ q103 => ?_)
          obtain ⟨rfl, e_, rfl⟩ := q103
          rw [e_] at X
          show Go p e below _ T (mkF m 111 #[.val (.int xs), .val (.int xl), .val (.int xp), .val (.int xc), .val (.long xb), .second, .val (.int (2 : Int32)), .val (.ref a), .val (.int (1 : Int32)), .unset, .unset, .unset, .unset, .unset] [(.int (Int32.ofNat wP.length)), (.int (0 : Int32))])
          replace X := X.sub (ws' := []) (by simp)
          refine go_int (z := (Int32.ofNat 7)) (rfl) ?_
          refine s_iloadN X (pc' := 112) at_111 rfl rfl ?_
          refine s_iconst X (pc' := 113) at_112 (v := (3 : Int32)) rfl rfl ?_
          refine s_iand X (pc' := 114) at_113 rfl ?_
          refine s_iadd X (pc' := 115) at_114 rfl ?_
          refine s_iconst X (pc' := 116) at_115 (v := (1 : Int32)) rfl rfl ?_
          refine s_isub X (pc' := 117) at_116 rfl ?_
          refine s_static X (pc' := 120) (W := 0) (as' := [(.int (0 : Int32)), (.int (((Int32.ofNat 7) + (xl &&& (3 : Int32))) - (1 : Int32)))]) (S := []) (k' := 2) (n' := 32) at_117 (hw _ (List.mem_of_getElem? (i := 21) rfl)) (hw _ (List.mem_of_getElem? (i := 22) rfl)) (hw _ (List.mem_of_getElem? (i := 23) rfl)) (hw _ (List.mem_of_getElem? (i := 24) rfl)) (by decide) own_pd12 rfl ((own_max l Z a0 hw hEL (0 : Int32) (((Int32.ofNat 7) + (xl &&& (3 : Int32))) - (1 : Int32)) _).payS (by simp) (hw _ (List.mem_of_getElem? (i := 24) rfl)) (hw _ (List.mem_of_getElem? (i := 23) rfl)) hEL (by decide) (by decide)) (Nat.le_of_ble_eq_true rfl) rfl rfl (by decide) (by decide) (by decide) (by decide) rfl (fun T h104 v_ ws_ X hgr_ q105 => ?_)
          obtain ⟨rfl, e_, rfl⟩ := q105
          rw [e_] at X
          show Go p e below _ T (mkF m 120 #[.val (.int xs), .val (.int xl), .val (.int xp), .val (.int xc), .val (.long xb), .second, .val (.int (2 : Int32)), .val (.ref a), .val (.int (1 : Int32)), .unset, .unset, .unset, .unset, .unset] [(.int (if (0 : Int32) < (((Int32.ofNat 7) + (xl &&& (3 : Int32))) - (1 : Int32)) then (((Int32.ofNat 7) + (xl &&& (3 : Int32))) - (1 : Int32)) else (0 : Int32)))])
          replace X := X.sub (ws' := []) (by simp)
          obtain ⟨N, hN, gN⟩ := len3 7 (by decide) xl
          refine go_int (z := (Int32.ofNat N)) (gN) ?_
          refine s_istore X (pc' := 122) (L' := #[.val (.int xs), .val (.int xl), .val (.int xp), .val (.int xc), .val (.long xb), .second, .val (.int (2 : Int32)), .val (.ref a), .val (.int (1 : Int32)), .val (.int (Int32.ofNat N)), .unset, .unset, .unset, .unset]) at_120 rfl rfl ?_
          exact J T h96 (2 : Int32) (1 : Int32) N a _ hN S_a (show ∀ c ∈ wP, ¬ c < 0 ∧ ¬ (255 : Int32) < c by decide) (X.more (by decide) (by decide))
      · refine go_int (z := (3 : Int32)) (pq) ?_
        refine s_istore X (pc' := 34) (L' := #[.val (.int xs), .val (.int xl), .val (.int xp), .val (.int xc), .val (.long xb), .second, .val (.int (3 : Int32)), .unset, .unset, .unset, .unset, .unset, .unset, .unset]) at_32 rfl rfl ?_
        refine s_iload X (pc' := 36) at_34 rfl rfl ?_
        refine s_ifT X (pc' := 46) at_36 (show ¬ (3 : Int32) = (0 : Int32) by decide) (by decide) (by decide) ?_
        refine s_iload X (pc' := 48) at_46 rfl rfl ?_
        refine s_iconst X (pc' := 49) at_48 (v := (1 : Int32)) rfl rfl ?_
        refine s_icmpT X (pc' := 59) at_49 (show ¬ (3 : Int32) = (1 : Int32) by decide) (by decide) (by decide) ?_
        refine s_iload X (pc' := 61) at_59 rfl rfl ?_
        refine s_iconst X (pc' := 62) at_61 (v := (2 : Int32)) rfl rfl ?_
        refine s_icmpT X (pc' := 72) at_62 (show ¬ (3 : Int32) = (2 : Int32) by decide) (by decide) (by decide) ?_
        refine s_ldcS X (pc' := 74) (k' := 2) (n' := 4) (nn := 0) (vs := []) (z := (0 : Int32)) hEL at_72 (hw _ (List.mem_of_getElem? (i := 129) rfl)) (fun d hd => hw d ((by decide +kernel : ∀ d ∈ Bundle.stringAtoms, d ∈ tables_1) d hd)) (by simp [consts_1, x]) (by decide) (by decide) (by decide) (by decide) (by decide) (by decide) (by decide) (by decide) (by decide) rfl (fun T h106 a b kc_b X' E107 E_a F_a_coder F_a_value V_b nw_ => ?_)
        replace X := X'
        have S_a : Str Z h106 a [] := ⟨b, kc_b, 0, 0, [], E_a, F_a_value, F_a_coder, V_b, Or.inl ⟨rfl, rfl, rfl, by decide⟩, by decide, by decide⟩
        refine s_astore X (pc' := 76) (L' := #[.val (.int xs), .val (.int xl), .val (.int xp), .val (.int xc), .val (.long xb), .second, .val (.int (3 : Int32)), .val (.ref a), .unset, .unset, .unset, .unset, .unset, .unset]) at_74 rfl rfl rfl ?_
        refine s_iloadN X (pc' := 77) at_76 rfl rfl ?_
        refine s_bipush X (pc' := 79) at_77 (v := (8 : Int32)) (by decide) rfl ?_
        refine s_iand X (pc' := 80) at_79 rfl ?_
        refine s_if X (pc' := 87) (pcF := 83) at_80 (by decide) (by decide) rfl (fun (q8 : (xs &&& (8 : Int32)) = (0 : Int32)) => ?_) (fun (q8 : ¬ (xs &&& (8 : Int32)) = (0 : Int32)) => ?_)
        · have E_a := S_a.exa
          refine s_iconst X (pc' := 88) at_87 (v := (0 : Int32)) rfl rfl ?_
          refine s_istore X (pc' := 90) (L' := #[.val (.int xs), .val (.int xl), .val (.int xp), .val (.int xc), .val (.long xb), .second, .val (.int (3 : Int32)), .val (.ref a), .val (.int (0 : Int32)), .unset, .unset, .unset, .unset, .unset]) at_88 rfl rfl ?_
          refine s_iload X (pc' := 92) at_90 rfl rfl ?_
          refine s_iconst X (pc' := 93) at_92 (v := (3 : Int32)) rfl rfl ?_
          refine s_icmpF X (pc' := 96) at_93 (show (3 : Int32) = (3 : Int32) by decide) rfl ?_
          refine s_iloadN X (pc' := 97) at_96 rfl rfl ?_
          refine s_bipush X (pc' := 99) at_97 (v := (7 : Int32)) (by decide) rfl ?_
          refine s_iand X (pc' := 100) at_99 rfl ?_
          obtain ⟨N, hN, gN⟩ := and7 xl
          refine go_int (z := (Int32.ofNat N)) (gN) ?_
          refine s_istore X (pc' := 102) (L' := #[.val (.int xs), .val (.int xl), .val (.int xp), .val (.int xc), .val (.long xb), .second, .val (.int (3 : Int32)), .val (.ref a), .val (.int (0 : Int32)), .val (.int (Int32.ofNat N)), .unset, .unset, .unset, .unset]) at_100 rfl rfl ?_
          refine s_goto X (pc' := 122) at_102 (by decide) (by decide) ?_
          exact J T h106 (3 : Int32) (0 : Int32) N a _ hN S_a (fun c hc => nomatch hc) (X.more (by decide) (by decide))
        · have E_a := S_a.exa
          refine s_iconst X (pc' := 84) at_83 (v := (1 : Int32)) rfl rfl ?_
          refine s_goto X (pc' := 88) at_84 (by decide) (by decide) ?_
          refine s_istore X (pc' := 90) (L' := #[.val (.int xs), .val (.int xl), .val (.int xp), .val (.int xc), .val (.long xb), .second, .val (.int (3 : Int32)), .val (.ref a), .val (.int (1 : Int32)), .unset, .unset, .unset, .unset, .unset]) at_88 rfl rfl ?_
          refine s_iload X (pc' := 92) at_90 rfl rfl ?_
          refine s_iconst X (pc' := 93) at_92 (v := (3 : Int32)) rfl rfl ?_
          refine s_icmpF X (pc' := 96) at_93 (show (3 : Int32) = (3 : Int32) by decide) rfl ?_
          refine s_iloadN X (pc' := 97) at_96 rfl rfl ?_
          refine s_bipush X (pc' := 99) at_97 (v := (7 : Int32)) (by decide) rfl ?_
          refine s_iand X (pc' := 100) at_99 rfl ?_
          obtain ⟨N, hN, gN⟩ := and7 xl
          refine go_int (z := (Int32.ofNat N)) (gN) ?_
          refine s_istore X (pc' := 102) (L' := #[.val (.int xs), .val (.int xl), .val (.int xp), .val (.int xc), .val (.long xb), .second, .val (.int (3 : Int32)), .val (.ref a), .val (.int (1 : Int32)), .val (.int (Int32.ofNat N)), .unset, .unset, .unset, .unset]) at_100 rfl rfl ?_
          refine s_goto X (pc' := 122) at_102 (by decide) (by decide) ?_
          exact J T h106 (3 : Int32) (1 : Int32) N a _ hN S_a (fun c hc => nomatch hc) (X.more (by decide) (by decide))
    · refine s_iload X (pc' := 124) at_122 rfl rfl ?_
      refine s_newarr X (pc' := 126) (k' := 3) (n' := 46) (N := N) at_124 (hw _ (List.mem_of_getElem? (i := 25) rfl)) rfl (by omega) (by decide) (by omega) (by decide) (by decide) rfl (fun T h2 b gb X' E2 A_b => ?_)
      have g_b : Z.heap.size ≤ b := by rw [gb]; exact X.lt
      replace S_a := S_a.ext E2
      replace X := X'
      obtain ⟨cs, hcl, hcs, A_b⟩ : ∃ cs : List Int32, cs.length = N ∧ Lat cs ∧ Ary Z h2 b .char (cs.map Value.int) := ⟨List.replicate N 0, by simp, fun c hc => by rw [(List.mem_replicate.mp hc).2]; decide, by rw [List.map_replicate]; exact A_b⟩
      refine s_astore X (pc' := 128) (L' := #[.val (.int xs), .val (.int xl), .val (.int xp), .val (.int xc), .val (.long xb), .second, .val (.int kk), .val (.ref a), .val (.int da), .val (.int (Int32.ofNat N)), .val (.ref b), .unset, .unset, .unset]) at_126 rfl rfl rfl ?_
      refine s_aload X (pc' := 130) at_128 rfl rfl rfl ?_
      refine s_iconst X (pc' := 131) at_130 (v := (0 : Int32)) rfl rfl ?_
      refine s_aload X (pc' := 133) at_131 rfl rfl rfl ?_
      refine s_iload X (pc' := 135) at_133 rfl rfl ?_
      refine s_lload X (pc' := 137) at_135 rfl rfl ?_
      refine s_iloadN X (pc' := 138) at_137 rfl rfl ?_
      refine s_static X (pc' := 141) (W := 0) (as' := [(.ref b), (.int (0 : Int32)), (.ref a), (.int da), (.long xb), (.int xc)]) (S := []) (k' := 3) (n' := 46) at_138 (hw _ (List.mem_of_getElem? (i := 26) rfl)) (hw _ (List.mem_of_getElem? (i := 27) rfl)) (hw _ (List.mem_of_getElem? (i := 28) rfl)) (hw _ (List.mem_of_getElem? (i := 29) rfl)) (by decide) own_pd13 rfl ((own_put l Z a0 hw hEL b 0 a da xb xc _ A_b hcs (by omega) g_b S_a hbs (by decide) O2 P5 O4 rG3).payS (by simp) (hw _ (List.mem_of_getElem? (i := 29) rfl)) (hw _ (List.mem_of_getElem? (i := 28) rfl)) hEL (by decide) (by decide)) (Nat.le_of_ble_eq_true rfl) rfl rfl (by decide) (by decide) (by decide) (by decide) rfl (fun T h108 v_ ws_ X hgr_ q109 => ?_)
      obtain ⟨rfl, K_, ⟨ds, hdl, hds, A_d⟩, rfl⟩ := q109
      show Go p e below _ T (mkF m 141 #[.val (.int xs), .val (.int xl), .val (.int xp), .val (.int xc), .val (.long xb), .second, .val (.int kk), .val (.ref a), .val (.int da), .val (.int (Int32.ofNat N)), .val (.ref b), .unset, .unset, .unset] [])
      replace X := X.sub (ws' := [b]) (by simp)
      replace S_a := S_a.keepA K_ A_b (by decide) (hw _ (List.mem_of_getElem? (i := 2) rfl))
      obtain ⟨hcl, hcs, A_b⟩ := (⟨hdl.trans hcl, hds, A_d⟩ : ds.length = N ∧ Lat ds ∧ Ary Z h108 b .char (ds.map Value.int))
      clear hdl hds A_d
      obtain ⟨cs, gcs⟩ : ∃ cs, cs = ds := ⟨_, rfl⟩
      rw [← gcs] at hcl hcs A_b
      clear gcs
      refine s_aload X (pc' := 143) at_141 rfl rfl rfl ?_
      refine s_iconst X (pc' := 144) at_143 (v := (1 : Int32)) rfl rfl ?_
      refine s_aload X (pc' := 146) at_144 rfl rfl rfl ?_
      refine s_iload X (pc' := 148) at_146 rfl rfl ?_
      refine s_lload X (pc' := 150) at_148 rfl rfl ?_
      refine s_iloadN X (pc' := 151) at_150 rfl rfl ?_
      refine s_static X (pc' := 154) (W := 0) (as' := [(.ref b), (.int (1 : Int32)), (.ref a), (.int da), (.long xb), (.int xc)]) (S := []) (k' := 3) (n' := 46) at_151 (hw _ (List.mem_of_getElem? (i := 26) rfl)) (hw _ (List.mem_of_getElem? (i := 27) rfl)) (hw _ (List.mem_of_getElem? (i := 28) rfl)) (hw _ (List.mem_of_getElem? (i := 29) rfl)) (by decide) own_pd13 rfl ((own_put l Z a0 hw hEL b 1 a da xb xc _ A_b hcs (by omega) g_b S_a hbs (by decide) O2 P5 O4 rG3).payS (by simp) (hw _ (List.mem_of_getElem? (i := 29) rfl)) (hw _ (List.mem_of_getElem? (i := 28) rfl)) hEL (by decide) (by decide)) (Nat.le_of_ble_eq_true rfl) rfl rfl (by decide) (by decide) (by decide) (by decide) rfl (fun T h110 v_ ws_ X hgr_ q111 => ?_)
      obtain ⟨rfl, K_, ⟨ds, hdl, hds, A_d⟩, rfl⟩ := q111
      show Go p e below _ T (mkF m 154 #[.val (.int xs), .val (.int xl), .val (.int xp), .val (.int xc), .val (.long xb), .second, .val (.int kk), .val (.ref a), .val (.int da), .val (.int (Int32.ofNat N)), .val (.ref b), .unset, .unset, .unset] [])
      replace X := X.sub (ws' := [b]) (by simp)
      replace S_a := S_a.keepA K_ A_b (by decide) (hw _ (List.mem_of_getElem? (i := 2) rfl))
      obtain ⟨hcl, hcs, A_b⟩ := (⟨hdl.trans hcl, hds, A_d⟩ : ds.length = N ∧ Lat ds ∧ Ary Z h110 b .char (ds.map Value.int))
      clear hdl hds A_d
      obtain ⟨cs, gcs⟩ : ∃ cs, cs = ds := ⟨_, rfl⟩
      rw [← gcs] at hcl hcs A_b
      clear gcs
      refine s_aload X (pc' := 156) at_154 rfl rfl rfl ?_
      refine s_iconst X (pc' := 157) at_156 (v := (2 : Int32)) rfl rfl ?_
      refine s_aload X (pc' := 159) at_157 rfl rfl rfl ?_
      refine s_iload X (pc' := 161) at_159 rfl rfl ?_
      refine s_lload X (pc' := 163) at_161 rfl rfl ?_
      refine s_iloadN X (pc' := 164) at_163 rfl rfl ?_
      refine s_static X (pc' := 167) (W := 0) (as' := [(.ref b), (.int (2 : Int32)), (.ref a), (.int da), (.long xb), (.int xc)]) (S := []) (k' := 3) (n' := 46) at_164 (hw _ (List.mem_of_getElem? (i := 26) rfl)) (hw _ (List.mem_of_getElem? (i := 27) rfl)) (hw _ (List.mem_of_getElem? (i := 28) rfl)) (hw _ (List.mem_of_getElem? (i := 29) rfl)) (by decide) own_pd13 rfl ((own_put l Z a0 hw hEL b 2 a da xb xc _ A_b hcs (by omega) g_b S_a hbs (by decide) O2 P5 O4 rG3).payS (by simp) (hw _ (List.mem_of_getElem? (i := 29) rfl)) (hw _ (List.mem_of_getElem? (i := 28) rfl)) hEL (by decide) (by decide)) (Nat.le_of_ble_eq_true rfl) rfl rfl (by decide) (by decide) (by decide) (by decide) rfl (fun T h112 v_ ws_ X hgr_ q113 => ?_)
      obtain ⟨rfl, K_, ⟨ds, hdl, hds, A_d⟩, rfl⟩ := q113
      show Go p e below _ T (mkF m 167 #[.val (.int xs), .val (.int xl), .val (.int xp), .val (.int xc), .val (.long xb), .second, .val (.int kk), .val (.ref a), .val (.int da), .val (.int (Int32.ofNat N)), .val (.ref b), .unset, .unset, .unset] [])
      replace X := X.sub (ws' := [b]) (by simp)
      replace S_a := S_a.keepA K_ A_b (by decide) (hw _ (List.mem_of_getElem? (i := 2) rfl))
      obtain ⟨hcl, hcs, A_b⟩ := (⟨hdl.trans hcl, hds, A_d⟩ : ds.length = N ∧ Lat ds ∧ Ary Z h112 b .char (ds.map Value.int))
      clear hdl hds A_d
      obtain ⟨cs, gcs⟩ : ∃ cs, cs = ds := ⟨_, rfl⟩
      rw [← gcs] at hcl hcs A_b
      clear gcs
      refine s_aload X (pc' := 169) at_167 rfl rfl rfl ?_
      refine s_iconst X (pc' := 170) at_169 (v := (3 : Int32)) rfl rfl ?_
      refine s_aload X (pc' := 172) at_170 rfl rfl rfl ?_
      refine s_iload X (pc' := 174) at_172 rfl rfl ?_
      refine s_lload X (pc' := 176) at_174 rfl rfl ?_
      refine s_iloadN X (pc' := 177) at_176 rfl rfl ?_
      refine s_static X (pc' := 180) (W := 0) (as' := [(.ref b), (.int (3 : Int32)), (.ref a), (.int da), (.long xb), (.int xc)]) (S := []) (k' := 3) (n' := 46) at_177 (hw _ (List.mem_of_getElem? (i := 26) rfl)) (hw _ (List.mem_of_getElem? (i := 27) rfl)) (hw _ (List.mem_of_getElem? (i := 28) rfl)) (hw _ (List.mem_of_getElem? (i := 29) rfl)) (by decide) own_pd13 rfl ((own_put l Z a0 hw hEL b 3 a da xb xc _ A_b hcs (by omega) g_b S_a hbs (by decide) O2 P5 O4 rG3).payS (by simp) (hw _ (List.mem_of_getElem? (i := 29) rfl)) (hw _ (List.mem_of_getElem? (i := 28) rfl)) hEL (by decide) (by decide)) (Nat.le_of_ble_eq_true rfl) rfl rfl (by decide) (by decide) (by decide) (by decide) rfl (fun T h114 v_ ws_ X hgr_ q115 => ?_)
      obtain ⟨rfl, K_, ⟨ds, hdl, hds, A_d⟩, rfl⟩ := q115
      show Go p e below _ T (mkF m 180 #[.val (.int xs), .val (.int xl), .val (.int xp), .val (.int xc), .val (.long xb), .second, .val (.int kk), .val (.ref a), .val (.int da), .val (.int (Int32.ofNat N)), .val (.ref b), .unset, .unset, .unset] [])
      replace X := X.sub (ws' := [b]) (by simp)
      replace S_a := S_a.keepA K_ A_b (by decide) (hw _ (List.mem_of_getElem? (i := 2) rfl))
      obtain ⟨hcl, hcs, A_b⟩ := (⟨hdl.trans hcl, hds, A_d⟩ : ds.length = N ∧ Lat ds ∧ Ary Z h114 b .char (ds.map Value.int))
      clear hdl hds A_d
      obtain ⟨cs, gcs⟩ : ∃ cs, cs = ds := ⟨_, rfl⟩
      rw [← gcs] at hcl hcs A_b
      clear gcs
      refine s_aload X (pc' := 182) at_180 rfl rfl rfl ?_
      refine s_iconst X (pc' := 183) at_182 (v := (4 : Int32)) rfl rfl ?_
      refine s_aload X (pc' := 185) at_183 rfl rfl rfl ?_
      refine s_iload X (pc' := 187) at_185 rfl rfl ?_
      refine s_lload X (pc' := 189) at_187 rfl rfl ?_
      refine s_iloadN X (pc' := 190) at_189 rfl rfl ?_
      refine s_static X (pc' := 193) (W := 0) (as' := [(.ref b), (.int (4 : Int32)), (.ref a), (.int da), (.long xb), (.int xc)]) (S := []) (k' := 3) (n' := 46) at_190 (hw _ (List.mem_of_getElem? (i := 26) rfl)) (hw _ (List.mem_of_getElem? (i := 27) rfl)) (hw _ (List.mem_of_getElem? (i := 28) rfl)) (hw _ (List.mem_of_getElem? (i := 29) rfl)) (by decide) own_pd13 rfl ((own_put l Z a0 hw hEL b 4 a da xb xc _ A_b hcs (by omega) g_b S_a hbs (by decide) O2 P5 O4 rG3).payS (by simp) (hw _ (List.mem_of_getElem? (i := 29) rfl)) (hw _ (List.mem_of_getElem? (i := 28) rfl)) hEL (by decide) (by decide)) (Nat.le_of_ble_eq_true rfl) rfl rfl (by decide) (by decide) (by decide) (by decide) rfl (fun T h116 v_ ws_ X hgr_ q117 => ?_)
      obtain ⟨rfl, K_, ⟨ds, hdl, hds, A_d⟩, rfl⟩ := q117
      show Go p e below _ T (mkF m 193 #[.val (.int xs), .val (.int xl), .val (.int xp), .val (.int xc), .val (.long xb), .second, .val (.int kk), .val (.ref a), .val (.int da), .val (.int (Int32.ofNat N)), .val (.ref b), .unset, .unset, .unset] [])
      replace X := X.sub (ws' := [b]) (by simp)
      replace S_a := S_a.keepA K_ A_b (by decide) (hw _ (List.mem_of_getElem? (i := 2) rfl))
      obtain ⟨hcl, hcs, A_b⟩ := (⟨hdl.trans hcl, hds, A_d⟩ : ds.length = N ∧ Lat ds ∧ Ary Z h116 b .char (ds.map Value.int))
      clear hdl hds A_d
      obtain ⟨cs, gcs⟩ : ∃ cs, cs = ds := ⟨_, rfl⟩
      rw [← gcs] at hcl hcs A_b
      clear gcs
      refine s_aload X (pc' := 195) at_193 rfl rfl rfl ?_
      refine s_iconst X (pc' := 196) at_195 (v := (5 : Int32)) rfl rfl ?_
      refine s_aload X (pc' := 198) at_196 rfl rfl rfl ?_
      refine s_iload X (pc' := 200) at_198 rfl rfl ?_
      refine s_lload X (pc' := 202) at_200 rfl rfl ?_
      refine s_iloadN X (pc' := 203) at_202 rfl rfl ?_
      refine s_static X (pc' := 206) (W := 0) (as' := [(.ref b), (.int (5 : Int32)), (.ref a), (.int da), (.long xb), (.int xc)]) (S := []) (k' := 3) (n' := 46) at_203 (hw _ (List.mem_of_getElem? (i := 26) rfl)) (hw _ (List.mem_of_getElem? (i := 27) rfl)) (hw _ (List.mem_of_getElem? (i := 28) rfl)) (hw _ (List.mem_of_getElem? (i := 29) rfl)) (by decide) own_pd13 rfl ((own_put l Z a0 hw hEL b 5 a da xb xc _ A_b hcs (by omega) g_b S_a hbs (by decide) O2 P5 O4 rG3).payS (by simp) (hw _ (List.mem_of_getElem? (i := 29) rfl)) (hw _ (List.mem_of_getElem? (i := 28) rfl)) hEL (by decide) (by decide)) (Nat.le_of_ble_eq_true rfl) rfl rfl (by decide) (by decide) (by decide) (by decide) rfl (fun T h118 v_ ws_ X hgr_ q119 => ?_)
      obtain ⟨rfl, K_, ⟨ds, hdl, hds, A_d⟩, rfl⟩ := q119
      show Go p e below _ T (mkF m 206 #[.val (.int xs), .val (.int xl), .val (.int xp), .val (.int xc), .val (.long xb), .second, .val (.int kk), .val (.ref a), .val (.int da), .val (.int (Int32.ofNat N)), .val (.ref b), .unset, .unset, .unset] [])
      replace X := X.sub (ws' := [b]) (by simp)
      replace S_a := S_a.keepA K_ A_b (by decide) (hw _ (List.mem_of_getElem? (i := 2) rfl))
      obtain ⟨hcl, hcs, A_b⟩ := (⟨hdl.trans hcl, hds, A_d⟩ : ds.length = N ∧ Lat ds ∧ Ary Z h118 b .char (ds.map Value.int))
      clear hdl hds A_d
      obtain ⟨cs, gcs⟩ : ∃ cs, cs = ds := ⟨_, rfl⟩
      rw [← gcs] at hcl hcs A_b
      clear gcs
      refine s_aload X (pc' := 208) at_206 rfl rfl rfl ?_
      refine s_bipush X (pc' := 210) at_208 (v := (6 : Int32)) (by decide) rfl ?_
      refine s_aload X (pc' := 212) at_210 rfl rfl rfl ?_
      refine s_iload X (pc' := 214) at_212 rfl rfl ?_
      refine s_lload X (pc' := 216) at_214 rfl rfl ?_
      refine s_iloadN X (pc' := 217) at_216 rfl rfl ?_
      refine s_static X (pc' := 220) (W := 0) (as' := [(.ref b), (.int (6 : Int32)), (.ref a), (.int da), (.long xb), (.int xc)]) (S := []) (k' := 3) (n' := 46) at_217 (hw _ (List.mem_of_getElem? (i := 26) rfl)) (hw _ (List.mem_of_getElem? (i := 27) rfl)) (hw _ (List.mem_of_getElem? (i := 28) rfl)) (hw _ (List.mem_of_getElem? (i := 29) rfl)) (by decide) own_pd13 rfl ((own_put l Z a0 hw hEL b 6 a da xb xc _ A_b hcs (by omega) g_b S_a hbs (by decide) O2 P5 O4 rG3).payS (by simp) (hw _ (List.mem_of_getElem? (i := 29) rfl)) (hw _ (List.mem_of_getElem? (i := 28) rfl)) hEL (by decide) (by decide)) (Nat.le_of_ble_eq_true rfl) rfl rfl (by decide) (by decide) (by decide) (by decide) rfl (fun T h120 v_ ws_ X hgr_ q121 => ?_)
      obtain ⟨rfl, K_, ⟨ds, hdl, hds, A_d⟩, rfl⟩ := q121
      show Go p e below _ T (mkF m 220 #[.val (.int xs), .val (.int xl), .val (.int xp), .val (.int xc), .val (.long xb), .second, .val (.int kk), .val (.ref a), .val (.int da), .val (.int (Int32.ofNat N)), .val (.ref b), .unset, .unset, .unset] [])
      replace X := X.sub (ws' := [b]) (by simp)
      replace S_a := S_a.keepA K_ A_b (by decide) (hw _ (List.mem_of_getElem? (i := 2) rfl))
      obtain ⟨hcl, hcs, A_b⟩ := (⟨hdl.trans hcl, hds, A_d⟩ : ds.length = N ∧ Lat ds ∧ Ary Z h120 b .char (ds.map Value.int))
      clear hdl hds A_d
      obtain ⟨cs, gcs⟩ : ∃ cs, cs = ds := ⟨_, rfl⟩
      rw [← gcs] at hcl hcs A_b
      clear gcs
      refine s_aload X (pc' := 222) at_220 rfl rfl rfl ?_
      refine s_bipush X (pc' := 224) at_222 (v := (7 : Int32)) (by decide) rfl ?_
      refine s_aload X (pc' := 226) at_224 rfl rfl rfl ?_
      refine s_iload X (pc' := 228) at_226 rfl rfl ?_
      refine s_lload X (pc' := 230) at_228 rfl rfl ?_
      refine s_iloadN X (pc' := 231) at_230 rfl rfl ?_
      refine s_static X (pc' := 234) (W := 0) (as' := [(.ref b), (.int (7 : Int32)), (.ref a), (.int da), (.long xb), (.int xc)]) (S := []) (k' := 3) (n' := 46) at_231 (hw _ (List.mem_of_getElem? (i := 26) rfl)) (hw _ (List.mem_of_getElem? (i := 27) rfl)) (hw _ (List.mem_of_getElem? (i := 28) rfl)) (hw _ (List.mem_of_getElem? (i := 29) rfl)) (by decide) own_pd13 rfl ((own_put l Z a0 hw hEL b 7 a da xb xc _ A_b hcs (by omega) g_b S_a hbs (by decide) O2 P5 O4 rG3).payS (by simp) (hw _ (List.mem_of_getElem? (i := 29) rfl)) (hw _ (List.mem_of_getElem? (i := 28) rfl)) hEL (by decide) (by decide)) (Nat.le_of_ble_eq_true rfl) rfl rfl (by decide) (by decide) (by decide) (by decide) rfl (fun T h122 v_ ws_ X hgr_ q123 => ?_)
      obtain ⟨rfl, K_, ⟨ds, hdl, hds, A_d⟩, rfl⟩ := q123
      show Go p e below _ T (mkF m 234 #[.val (.int xs), .val (.int xl), .val (.int xp), .val (.int xc), .val (.long xb), .second, .val (.int kk), .val (.ref a), .val (.int da), .val (.int (Int32.ofNat N)), .val (.ref b), .unset, .unset, .unset] [])
      replace X := X.sub (ws' := [b]) (by simp)
      replace S_a := S_a.keepA K_ A_b (by decide) (hw _ (List.mem_of_getElem? (i := 2) rfl))
      obtain ⟨hcl, hcs, A_b⟩ := (⟨hdl.trans hcl, hds, A_d⟩ : ds.length = N ∧ Lat ds ∧ Ary Z h122 b .char (ds.map Value.int))
      clear hdl hds A_d
      obtain ⟨cs, gcs⟩ : ∃ cs, cs = ds := ⟨_, rfl⟩
      rw [← gcs] at hcl hcs A_b
      clear gcs
      refine s_aload X (pc' := 236) at_234 rfl rfl rfl ?_
      refine s_bipush X (pc' := 238) at_236 (v := (8 : Int32)) (by decide) rfl ?_
      refine s_aload X (pc' := 240) at_238 rfl rfl rfl ?_
      refine s_iload X (pc' := 242) at_240 rfl rfl ?_
      refine s_lload X (pc' := 244) at_242 rfl rfl ?_
      refine s_iloadN X (pc' := 245) at_244 rfl rfl ?_
      refine s_static X (pc' := 248) (W := 0) (as' := [(.ref b), (.int (8 : Int32)), (.ref a), (.int da), (.long xb), (.int xc)]) (S := []) (k' := 3) (n' := 46) at_245 (hw _ (List.mem_of_getElem? (i := 26) rfl)) (hw _ (List.mem_of_getElem? (i := 27) rfl)) (hw _ (List.mem_of_getElem? (i := 28) rfl)) (hw _ (List.mem_of_getElem? (i := 29) rfl)) (by decide) own_pd13 rfl ((own_put l Z a0 hw hEL b 8 a da xb xc _ A_b hcs (by omega) g_b S_a hbs (by decide) O2 P5 O4 rG3).payS (by simp) (hw _ (List.mem_of_getElem? (i := 29) rfl)) (hw _ (List.mem_of_getElem? (i := 28) rfl)) hEL (by decide) (by decide)) (Nat.le_of_ble_eq_true rfl) rfl rfl (by decide) (by decide) (by decide) (by decide) rfl (fun T h124 v_ ws_ X hgr_ q125 => ?_)
      obtain ⟨rfl, K_, ⟨ds, hdl, hds, A_d⟩, rfl⟩ := q125
      show Go p e below _ T (mkF m 248 #[.val (.int xs), .val (.int xl), .val (.int xp), .val (.int xc), .val (.long xb), .second, .val (.int kk), .val (.ref a), .val (.int da), .val (.int (Int32.ofNat N)), .val (.ref b), .unset, .unset, .unset] [])
      replace X := X.sub (ws' := [b]) (by simp)
      replace S_a := S_a.keepA K_ A_b (by decide) (hw _ (List.mem_of_getElem? (i := 2) rfl))
      obtain ⟨hcl, hcs, A_b⟩ := (⟨hdl.trans hcl, hds, A_d⟩ : ds.length = N ∧ Lat ds ∧ Ary Z h124 b .char (ds.map Value.int))
      clear hdl hds A_d
      obtain ⟨cs, gcs⟩ : ∃ cs, cs = ds := ⟨_, rfl⟩
      rw [← gcs] at hcl hcs A_b
      clear gcs
      refine s_iloadN X (pc' := 249) at_248 rfl rfl ?_
      refine s_iconst X (pc' := 250) at_249 (v := (4 : Int32)) rfl rfl ?_
      refine s_iand X (pc' := 251) at_250 rfl ?_
      refine jn (A := ∀ T h3 (ds : List Int32), ds.length = N → Lat ds → Ary Z h3 b .char (ds.map Value.int) → Cx p l e room_1 s m #[(.int xs), (.int xl), (.int xp), (.int xc), (.long xb)] below meth c Z consts_1 False x code maxLocals ret [b] T h3 3 46 → Go p e below (Post Z consts_1 s room_1 (fun v h' ws' => v = some (.int 1))) T (mkF m 278 #[.val (.int xs), .val (.int xl), .val (.int xp), .val (.int xc), .val (.long xb), .second, .val (.int kk), .val (.ref a), .val (.int da), .val (.int (Int32.ofNat N)), .val (.ref b), .unset, .unset, .unset] [])) (fun J => ?_) (fun T h3 ds hdl hds A_b X => ?_)
      · refine s_if X (pc' := 278) (pcF := 254) at_251 (by decide) (by decide) rfl (fun (q4 : (xs &&& (4 : Int32)) = (0 : Int32)) => ?_) (fun (q4 : ¬ (xs &&& (4 : Int32)) = (0 : Int32)) => ?_)
        · exact J T _ cs hcl hcs A_b X
        · refine s_iload X (pc' := 256) at_254 rfl rfl ?_
          refine s_if X (pc' := 278) (pcF := 259) at_256 (by decide) (by decide) rfl (fun (q5 : ¬ (0 : Int32) < (Int32.ofNat N)) => ?_) (fun (q5 : (0 : Int32) < (Int32.ofNat N)) => ?_)
          · exact J T _ cs hcl hcs A_b X
          · have h0 : 0 < N := by
              rcases Nat.eq_zero_or_pos N with z | z
              · rw [z] at q5; exact absurd q5 (by decide)
              · exact z
            refine s_aload X (pc' := 261) at_259 rfl rfl rfl ?_
            refine s_iloadN X (pc' := 262) at_261 rfl rfl ?_
            refine s_ldcI X (pc' := 264) at_262 (hw _ (List.mem_of_getElem? (i := 128) rfl)) rfl ?_
            refine s_iand X (pc' := 265) at_264 rfl ?_
            refine s_iload X (pc' := 267) at_265 rfl rfl ?_
            refine s_irem X (pc' := 268) at_267 (onN0 h0 hN) rfl ?_
            obtain ⟨ki, hki, gki⟩ := remN xp N h0 hN
            refine go_int (z := (Int32.ofNat ki)) (gki) ?_
            refine s_iloadN X (pc' := 269) at_268 rfl rfl ?_
            refine s_bipush X (pc' := 271) at_269 (v := (8 : Int32)) (by decide) rfl ?_
            refine s_iushr X (pc' := 272) at_271 rfl ?_
            refine s_sipush X (pc' := 275) at_272 (v := (255 : Int32)) (by decide) rfl ?_
            refine s_iand X (pc' := 276) at_275 rfl ?_
            refine s_i2c X (pc' := 277) at_276 rfl ?_
            refine s_castore X (pc' := 278) (i := ki) at_277 A_b rfl (by rw [List.length_map, hcl]; exact hki) g_b (by simp) rfl (fun T h4 X W4 A_b => ?_)
            rw [← List.map_set] at A_b
            exact J T _ _ (List.length_set.trans hcl) (hcs.set (m255 _ ⟨_, rfl⟩)) A_b X
      · refine s_new X (pc' := 281) (k' := 4) (n' := 50) at_278 (hw _ (List.mem_of_getElem? (i := 55) rfl)) (hw _ (List.mem_of_getElem? (i := 2) rfl)) (hw _ (List.mem_of_getElem? (i := 1) rfl)) (by decide) (by decide) (by decide) (by decide) rfl (fun T h127 b126 gb_b126 X' E128 E_b126 D_b126 U_b126 => ?_)
        have g_b126 : Z.heap.size ≤ b126 := by rw [gb_b126]; exact X.lt
        have ne_b_b126 : b ≠ b126 := Nat.ne_of_lt (by rw [gb_b126]; exact A_b.lt)
        replace A_b := A_b.ext E128
        replace X := X'
        have F_b126_value : Fld Z h127 b126 "java/lang/String" "value" "[B" .null := D_b126 (Or.inr (hw _ (List.mem_of_getElem? (i := 4) rfl))) (ty := (.array .byte)) (by decide)
        have F_b126_coder : Fld Z h127 b126 "java/lang/String" "coder" "B" (.int (0 : Int32)) := D_b126 (Or.inr (hw _ (List.mem_of_getElem? (i := 5) rfl))) (ty := .byte) (by decide)
        refine s_dup X (pc' := 282) at_281 rfl rfl ?_
        refine s_aload X (pc' := 284) at_282 rfl rfl rfl ?_
        refine jn (A := ∀ T h5, Str Z h5 b126 ds → Cx p l e room_1 s m #[(.int xs), (.int xl), (.int xp), (.int xc), (.long xb)] below meth c Z consts_1 False x code maxLocals ret [] T h5 8 60 → Go p e below (Post Z consts_1 s room_1 (fun v h' ws' => v = some (.int 1))) T (mkF m 287 #[.val (.int xs), .val (.int xl), .val (.int xp), .val (.int xc), .val (.long xb), .second, .val (.int kk), .val (.ref a), .val (.int da), .val (.int (Int32.ofNat N)), .val (.ref b), .unset, .unset, .unset] [.ref b126])) (fun J => ?_) (fun T h5 S_x X => ?_)
        · rcases Nat.eq_zero_or_pos N with h0 | h0
          · obtain rfl : ds = [] := List.length_eq_zero_iff.mp (hdl.trans h0)
            replace A_b : Ary Z h127 b .char [] := A_b
            refine s_special X (pc' := 287) (W := 1) (as' := [(.ref b)]) (S := [(.ref b126)]) (k' := 8) (n' := 58) at_284 rfl (hw _ (List.mem_of_getElem? (i := 56) rfl)) (hw _ (List.mem_of_getElem? (i := 57) rfl)) (hw _ (List.mem_of_getElem? (i := 58) rfl)) (by decide) own_pd14 rfl ((sI1 l Z a0 hw hEL b126 b _ X.old g_b126 E_b126 F_b126_value F_b126_coder A_b).payS (by simp) (hw _ (List.mem_of_getElem? (i := 58) rfl)) (hw _ (List.mem_of_getElem? (i := 1) rfl)) hEL (by decide) (by decide)) (Nat.le_of_ble_eq_true rfl) rfl rfl (by decide) (by decide) (by decide) (by decide) rfl (fun T h129 v_ ws_ X hgr_ q130 => ?_)
            obtain ⟨rfl, K_, S_b126, rfl⟩ := q130
            show Go p e below _ T (mkF m 287 #[.val (.int xs), .val (.int xl), .val (.int xp), .val (.int xc), .val (.long xb), .second, .val (.int kk), .val (.ref a), .val (.int da), .val (.int (Int32.ofNat N)), .val (.ref b), .unset, .unset, .unset] [(.ref b126)])
            replace E_b126 := E_b126.keep K_
            exact J T _ S_b126 (Cx.sub (X.more (by decide) (by decide)) (by simp))
          · refine s_special X (pc' := 287) (W := 1) (as' := [(.ref b)]) (S := [(.ref b126)]) (k' := 5) (n' := 60) at_284 rfl (hw _ (List.mem_of_getElem? (i := 56) rfl)) (hw _ (List.mem_of_getElem? (i := 57) rfl)) (hw _ (List.mem_of_getElem? (i := 58) rfl)) (by decide) own_pd14 rfl (newStrPay hw hEL O2 P5 X.old g_b126 (by simp) E_b126 F_b126_value F_b126_coder (cs := ds) rfl A_b (n := N) hdl h0 (by omega) hds (by decide) (by decide)) (Nat.le_of_ble_eq_true rfl) rfl rfl (by decide) (by omega) (by decide) (by decide) rfl (fun T h131 v_ ws_ X hgr_ q132 => ?_)
            obtain ⟨rfl, K_, S_b126, rfl⟩ := q132
            show Go p e below _ T (mkF m 287 #[.val (.int xs), .val (.int xl), .val (.int xp), .val (.int xc), .val (.long xb), .second, .val (.int kk), .val (.ref a), .val (.int da), .val (.int (Int32.ofNat N)), .val (.ref b), .unset, .unset, .unset] [(.ref b126)])
            exact J T _ S_b126 (Cx.sub (X.more (by decide) (by decide)) (by simp))
        · have S_b126 := S_x
          refine s_astore X (pc' := 289) (L' := #[.val (.int xs), .val (.int xl), .val (.int xp), .val (.int xc), .val (.long xb), .second, .val (.int kk), .val (.ref a), .val (.int da), .val (.int (Int32.ofNat N)), .val (.ref b), .val (.ref b126), .unset, .unset]) at_287 rfl rfl rfl ?_
          refine s_aload X (pc' := 291) at_289 rfl rfl rfl ?_
          refine s_static X (pc' := 294) (W := 0) (as' := [(.ref b126)]) (S := []) (k' := 10) (n' := 64) at_291 (hw _ (List.mem_of_getElem? (i := 76) rfl)) (hw _ (List.mem_of_getElem? (i := 77) rfl)) (hw _ (List.mem_of_getElem? (i := 78) rfl)) (hw _ (List.mem_of_getElem? (i := 79) rfl)) (by decide) own_pd10 rfl ((own_api l Z a0 hw hEL b126 _ S_b126 O2 P5 pk).payS (by simp) (hw _ (List.mem_of_getElem? (i := 79) rfl)) (hw _ (List.mem_of_getElem? (i := 78) rfl)) hEL (by decide) (by decide)) (Nat.le_of_ble_eq_true rfl) rfl rfl (by decide) (by decide) (by decide) (by decide) rfl (fun T h133 v_ ws_ X hgr_ q134 => ?_)
          obtain ⟨o, rfl, E_, E_o, F_o_value, rfl⟩ := q134
          show Go p e below _ T (mkF m 294 #[.val (.int xs), .val (.int xl), .val (.int xp), .val (.int xc), .val (.long xb), .second, .val (.int kk), .val (.ref a), .val (.int da), .val (.int (Int32.ofNat N)), .val (.ref b), .val (.ref b126), .unset, .unset] [(.ref o)])
          replace X := X.sub (ws' := []) (by simp)
          replace S_b126 := S_b126.ext E_
          refine s_astore X (pc' := 296) (L' := #[.val (.int xs), .val (.int xl), .val (.int xp), .val (.int xc), .val (.long xb), .second, .val (.int kk), .val (.ref a), .val (.int da), .val (.int (Int32.ofNat N)), .val (.ref b), .val (.ref b126), .val (.ref o), .unset]) at_294 rfl rfl rfl ?_
          refine s_aload X (pc' := 298) at_296 rfl rfl rfl ?_
          refine s_static X (pc' := 301) (W := 0) (as' := [(.ref b126)]) (S := []) (k' := 16) (n' := 160) at_298 (hw _ (List.mem_of_getElem? (i := 114) rfl)) (hw _ (List.mem_of_getElem? (i := 115) rfl)) (hw _ (List.mem_of_getElem? (i := 28) rfl)) (hw _ (List.mem_of_getElem? (i := 116) rfl)) (by decide) own_pd15 rfl ((own_exp l Z a0 hw hEL b126 _ S_b126 O2 P5 pk).payS (by simp) (hw _ (List.mem_of_getElem? (i := 116) rfl)) (hw _ (List.mem_of_getElem? (i := 28) rfl)) hEL (by decide) (by decide)) (Nat.le_of_ble_eq_true rfl) rfl rfl (by decide) (by decide) (by decide) (by decide) rfl (fun T h135 v_ ws_ X hgr_ q136 => ?_)
          obtain ⟨rfl, E_, rfl⟩ := q136
          show Go p e below _ T (mkF m 301 #[.val (.int xs), .val (.int xl), .val (.int xp), .val (.int xc), .val (.long xb), .second, .val (.int kk), .val (.ref a), .val (.int da), .val (.int (Int32.ofNat N)), .val (.ref b), .val (.ref b126), .val (.ref o), .unset] [(pkV ds e0 e1 e2)])
          replace X := X.sub (ws' := []) (by simp)
          replace E_o := E_o.ext E_
          replace F_o_value := F_o_value.ext E_
          replace S_b126 := S_b126.ext E_
          rcases pkV_cases ds e0 e1 e2 with hV | ⟨q, hV⟩ <;> rw [hV] at F_o_value ⊢
          · refine s_astore X (pc' := 303) (L' := #[.val (.int xs), .val (.int xl), .val (.int xp), .val (.int xc), .val (.long xb), .second, .val (.int kk), .val (.ref a), .val (.int da), .val (.int (Int32.ofNat N)), .val (.ref b), .val (.ref b126), .val (.ref o), .val .null]) at_301 rfl rfl rfl ?_
            refine s_aload X (pc' := 305) at_303 rfl rfl rfl ?_
            refine s_ifnonnullF X (b := 0) (pc' := 308) at_305 rfl ?_
            refine s_aload X (pc' := 310) at_308 rfl rfl rfl ?_
            refine s_virtual X (pc' := 313) (W := 0) (as' := []) (S := []) (k' := 16) (n' := 160) at_310 (hw _ (List.mem_of_getElem? (i := 120) rfl)) (hw _ (List.mem_of_getElem? (i := 121) rfl)) (hw _ (List.mem_of_getElem? (i := 123) rfl)) (hw _ (List.mem_of_getElem? (i := 122) rfl)) (nface (hw _ (List.mem_of_getElem? (i := 123) rfl))) (by decide) own_pd11 rfl E_o ((own_ip0 l Z a0 hw hEL o (q := 0) _ F_o_value).payS (by simp) (hw _ (List.mem_of_getElem? (i := 124) rfl)) (hw _ (List.mem_of_getElem? (i := 111) rfl)) hEL (by decide) (by decide)) (Nat.le_of_ble_eq_true rfl) rfl rfl (by decide) (by decide) (by decide) (by decide) rfl (fun T h137 v_ ws_ X hgr_ q138 => ?_)
            obtain ⟨rfl, e_, rfl⟩ := q138
            rw [e_] at X
            show Go p e below _ T (mkF m 313 #[.val (.int xs), .val (.int xl), .val (.int xp), .val (.int xc), .val (.long xb), .second, .val (.int kk), .val (.ref a), .val (.int da), .val (.int (Int32.ofNat N)), .val (.ref b), .val (.ref b126), .val (.ref o), .val .null] [(.int (0 : Int32))])
            replace X := X.sub (ws' := []) (by simp)
            refine s_ifF X (pc' := 316) at_313 (show (0 : Int32) = (0 : Int32) by decide) rfl ?_
            refine s_iconst X (pc' := 317) at_316 (v := (1 : Int32)) rfl rfl ?_
            refine s_goto X (pc' := 321) at_317 (by decide) (by decide) ?_
            exact s_iretN X hEL (ws' := []) (t := .boolean) at_321 rfl (by simp) (by decide) (by decide) (fun x q => by simp at q) rfl
          · refine s_astore X (pc' := 303) (L' := #[.val (.int xs), .val (.int xl), .val (.int xp), .val (.int xc), .val (.long xb), .second, .val (.int kk), .val (.ref a), .val (.int da), .val (.int (Int32.ofNat N)), .val (.ref b), .val (.ref b126), .val (.ref o), .val (.ref q)]) at_301 rfl rfl rfl ?_
            refine s_aload X (pc' := 305) at_303 rfl rfl rfl ?_
            refine s_ifnonnullT X (pc' := 322) at_305 (by decide) (by decide) ?_
            refine s_aload X (pc' := 324) at_322 rfl rfl rfl ?_
            refine s_virtual X (pc' := 327) (W := 0) (as' := []) (S := []) (k' := 16) (n' := 160) at_324 (hw _ (List.mem_of_getElem? (i := 120) rfl)) (hw _ (List.mem_of_getElem? (i := 121) rfl)) (hw _ (List.mem_of_getElem? (i := 123) rfl)) (hw _ (List.mem_of_getElem? (i := 122) rfl)) (nface (hw _ (List.mem_of_getElem? (i := 123) rfl))) (by decide) own_pd11 rfl E_o ((own_ip1 l Z a0 hw hEL o (q := q) _ F_o_value).payS (by simp) (hw _ (List.mem_of_getElem? (i := 124) rfl)) (hw _ (List.mem_of_getElem? (i := 111) rfl)) hEL (by decide) (by decide)) (Nat.le_of_ble_eq_true rfl) rfl rfl (by decide) (by decide) (by decide) (by decide) rfl (fun T h139 v_ ws_ X hgr_ q140 => ?_)
            obtain ⟨rfl, e_, rfl⟩ := q140
            rw [e_] at X
            show Go p e below _ T (mkF m 327 #[.val (.int xs), .val (.int xl), .val (.int xp), .val (.int xc), .val (.long xb), .second, .val (.int kk), .val (.ref a), .val (.int da), .val (.int (Int32.ofNat N)), .val (.ref b), .val (.ref b126), .val (.ref o), .val (.ref q)] [(.int (1 : Int32))])
            replace X := X.sub (ws' := []) (by simp)
            refine s_ifF X (pc' := 330) at_327 (show ¬ (1 : Int32) = (0 : Int32) by decide) rfl ?_
            refine s_aload X (pc' := 332) at_330 rfl rfl rfl ?_
            refine s_virtual X (pc' := 335) (W := 0) (as' := []) (S := []) (k' := 16) (n' := 160) at_332 (hw _ (List.mem_of_getElem? (i := 145) rfl)) (hw _ (List.mem_of_getElem? (i := 146) rfl)) (hw _ (List.mem_of_getElem? (i := 148) rfl)) (hw _ (List.mem_of_getElem? (i := 147) rfl)) (nface (hw _ (List.mem_of_getElem? (i := 148) rfl))) (by decide) own_pd16 rfl E_o ((own_get l Z a0 hw hEL o (q := q) _ F_o_value).payS (by simp) (hw _ (List.mem_of_getElem? (i := 149) rfl)) (hw _ (List.mem_of_getElem? (i := 111) rfl)) hEL (by decide) (by decide)) (Nat.le_of_ble_eq_true rfl) rfl rfl (by decide) (by decide) (by decide) (by decide) rfl (fun T h141 v_ ws_ X hgr_ q142 => ?_)
            obtain ⟨rfl, e_, rfl⟩ := q142
            rw [e_] at X
            show Go p e below _ T (mkF m 335 #[.val (.int xs), .val (.int xl), .val (.int xp), .val (.int xc), .val (.long xb), .second, .val (.int kk), .val (.ref a), .val (.int da), .val (.int (Int32.ofNat N)), .val (.ref b), .val (.ref b126), .val (.ref o), .val (.ref q)] [(.ref q)])
            replace X := X.sub (ws' := []) (by simp)
            refine s_aload X (pc' := 337) at_335 rfl rfl rfl ?_
            refine s_acmpF X (pc' := 340) at_337 rfl rfl (by simp [XT.acmp]) rfl ?_
            refine s_iconst X (pc' := 341) at_340 (v := (1 : Int32)) rfl rfl ?_
            refine s_goto X (pc' := 345) at_341 (by decide) (by decide) ?_
            exact s_iretN X hEL (ws' := []) (t := .boolean) at_345 rfl (by simp) (by decide) (by decide) (fun x q => by simp at q) rfl
  · refine s_aconst X (pc' := 10) at_9 rfl ?_
    refine s_static X (pc' := 13) (W := 0) (as' := [.null]) (S := []) (k' := 2) (n' := 4) at_10 (hw _ (List.mem_of_getElem? (i := 76) rfl)) (hw _ (List.mem_of_getElem? (i := 77) rfl)) (hw _ (List.mem_of_getElem? (i := 78) rfl)) (hw _ (List.mem_of_getElem? (i := 79) rfl)) (by decide) own_pd10 rfl ((own_apiN l Z a0 hw hEL _ pk).payS (by simp) (hw _ (List.mem_of_getElem? (i := 79) rfl)) (hw _ (List.mem_of_getElem? (i := 78) rfl)) hEL (by decide) (by decide)) (Nat.le_of_ble_eq_true rfl) rfl rfl (by decide) (by decide) (by decide) (by decide) rfl (fun T h72 v_ ws_ X hgr_ q73 => ?_)
    obtain ⟨o, rfl, E_, E_o, F_o_value, rfl⟩ := q73
    show Go p e below _ T (mkF m 13 #[.val (.int xs), .val (.int xl), .val (.int xp), .val (.int xc), .val (.long xb), .second, .unset, .unset, .unset, .unset, .unset, .unset, .unset, .unset] [(.ref o)])
    replace X := X.sub (ws' := []) (by simp)
    refine s_astore X (pc' := 15) (L' := #[.val (.int xs), .val (.int xl), .val (.int xp), .val (.int xc), .val (.long xb), .second, .val (.ref o), .unset, .unset, .unset, .unset, .unset, .unset, .unset]) at_13 rfl rfl rfl ?_
    refine s_aload X (pc' := 17) at_15 rfl rfl rfl ?_
    refine s_virtual X (pc' := 20) (W := 0) (as' := []) (S := []) (k' := 2) (n' := 4) at_17 (hw _ (List.mem_of_getElem? (i := 120) rfl)) (hw _ (List.mem_of_getElem? (i := 121) rfl)) (hw _ (List.mem_of_getElem? (i := 123) rfl)) (hw _ (List.mem_of_getElem? (i := 122) rfl)) (nface (hw _ (List.mem_of_getElem? (i := 123) rfl))) (by decide) own_pd11 rfl E_o ((own_ip0 l Z a0 hw hEL o (q := 0) _ F_o_value).payS (by simp) (hw _ (List.mem_of_getElem? (i := 124) rfl)) (hw _ (List.mem_of_getElem? (i := 111) rfl)) hEL (by decide) (by decide)) (Nat.le_of_ble_eq_true rfl) rfl rfl (by decide) (by decide) (by decide) (by decide) rfl (fun T h74 v_ ws_ X hgr_ q75 => ?_)
    obtain ⟨rfl, e_, rfl⟩ := q75
    rw [e_] at X
    show Go p e below _ T (mkF m 20 #[.val (.int xs), .val (.int xl), .val (.int xp), .val (.int xc), .val (.long xb), .second, .val (.ref o), .unset, .unset, .unset, .unset, .unset, .unset, .unset] [(.int (0 : Int32))])
    replace X := X.sub (ws' := []) (by simp)
    refine s_ifF X (pc' := 23) at_20 (show (0 : Int32) = (0 : Int32) by decide) rfl ?_
    refine s_iconst X (pc' := 24) at_23 (v := (1 : Int32)) rfl rfl ?_
    refine s_goto X (pc' := 28) at_24 (by decide) (by decide) ?_
    exact s_iretN X hEL (ws' := []) (t := .boolean) at_28 rfl (by simp) (by decide) (by decide) (fun x q => by simp at q) rfl
set_option maxRecDepth 65536 in
set_option maxHeartbeats 40000000 in
theorem comes_1 {Post' : Tables → Env → Array Value → State → Outcome → State → Prop} (hpost : ∀ tb e args s v u, (limb_1_1.after args s (.returned v) u = true ∧ limb_1_2.after args s (.returned v) u = true ∧ True) → ReturnedEndW s (.returned v) u (Jvm.fieldLocs frame_1_writes args s ++ Jvm.arrayLocs frame_1_arrays args s ++ Jvm.staticLocs frame_1_statics s) 32 5312 → Post' tb e args s (.returned v) u) :
    ArmFor flags0 classFile x code maxLocals ret World_1 tables_1 room_1 Calls_1 rest_1 Pre_1 Post' := by
  intro l hfl _ _ p e ha hc hk s m args below hf hA hF happ hP
  obtain ⟨hcalls, hrest, hpre⟩ := hP
  obtain ⟨-, -, -, hnamed, -, -, -, hat⟩ := (Spec.applies_iff hf).mp happ
  obtain ⟨hg, hnr⟩ := and_e (Cond.before_iff.mp (show (Jvm.Cond.and given_1 narrow_1).before args s = true from hpre))
  obtain ⟨hg0, hg1⟩ := and_e hg
  obtain ⟨ha0, hg2⟩ := and_e hg1
  obtain ⟨ha1, hg3⟩ := and_e hg2
  obtain ⟨ha2, hg4⟩ := and_e hg3
  obtain ⟨ha3, hg5⟩ := and_e hg4
  obtain ⟨w0, w1, w2, w3, w4, rfl⟩ : ∃ w0 w1 w2 w3 w4 : Value, args = #[w0, w1, w2, w3, w4] := by
    have hs : args.size = 5 := by simpa [Cond.value, given_1] using hg0
    obtain ⟨L⟩ := args
    match L, hs with
    | [w0, w1, w2, w3, w4], _ => exact ⟨w0, w1, w2, w3, w4, rfl⟩
  have hw := fun d (hd : d ∈ tables_1) => atoms_spec (ws := Jvm.Cond.code x code maxLocals ret :: tables_1) hat d (List.mem_cons_of_mem _ hd)
  obtain ⟨hsets, hown0⟩ := atoms_of _ (rest_1_c_eq ▸ (show rest_1_c.before _ s = true from hrest))
  have hfit : Fit s := fun {y c} hc i hi => by
    obtain ⟨ha, rfl⟩ := Array.getElem?_eq_some_iff.mp hc
    have q := List.all_eq_true.mp ((Array.all_eq_true_iff_forall_mem.mp hF) _ (Array.getElem_mem ha)) i (List.mem_range.mpr hi)
    simpa [Array.getElem?_eq_getElem hi] using q
  have n5 := not_v (Cond.before_iff.mp (hsets _ (List.mem_of_getElem? (i := 2) rfl)))
  obtain ⟨i0, e0⟩ := is_v ha0
  obtain rfl : w0 = (.int i0) := Option.some.inj e0
  obtain ⟨i1, e1⟩ := is_v ha1
  obtain rfl : w1 = (.int i1) := Option.some.inj e1
  obtain ⟨i2, e2⟩ := is_v ha2
  obtain rfl : w2 = (.int i2) := Option.some.inj e2
  obtain ⟨i3, e3⟩ := is_v ha3
  obtain rfl : w3 = (.int i3) := Option.some.inj e3
  obtain ⟨i4, e4⟩ := isL_v hg5
  obtain rfl : w4 = (.long i4) := Option.some.inj e4
  obtain ⟨G1, eG1⟩ := is_v (Cond.before_iff.mp (hsets _ (List.mem_of_getElem? (i := 1) rfl)))
  have O2 : Sta s s.heap "java/lang/String" "COMPACT_STRINGS" "Z" (.int G1) := Sta.start eG1 (Or.inl (hsets _ (List.mem_of_getElem? (i := 0) rfl)))
  have P5 : ¬ (G1 = (0 : Int32)) := gotF (Cond.eq_ints eG1 (Term.int_eval (0))) n5
  obtain ⟨G3, eG3, rG3⟩ := isR_v (Cond.before_iff.mp (hsets _ (List.mem_of_getElem? (i := 8) rfl)))
  have O4 : Sta s s.heap "jdk/internal/util/Preconditions" "SIOOBE_FORMATTER" "Ljava/util/function/BiFunction;" G3 := Sta.start eG3 (Or.inl (hsets _ (List.mem_of_getElem? (i := 7) rfl)))
  have hEL : EW s _ consts_1 := (EW.cons (hw _ (List.mem_of_getElem? (i := 0) rfl)) (by decide) (EW.cons (hw _ (List.mem_of_getElem? (i := 118) rfl)) (by decide) (EW.cons (hw _ (List.mem_of_getElem? (i := 119) rfl)) (by decide) (EW.cons (hw _ (List.mem_of_getElem? (i := 129) rfl)) (by decide) (EW.cons (hw _ (List.mem_of_getElem? (i := 151) rfl)) (by decide) EW.nil)))))
  have hCH : CHv s consts_1 s.vm s.heap := CHv.start hEL (fun q hq => hcalls.1 q hq) (hsets _ (List.mem_of_getElem? (i := 2) rfl)) (hw _ (List.mem_of_getElem? (i := 3) rfl)) (hw _ (List.mem_of_getElem? (i := 2) rfl))
  obtain ⟨n0, m1⟩ := and_e hnr
  obtain ⟨n1, m2⟩ := and_e m1
  obtain ⟨n2, m3⟩ := and_e m2
  obtain ⟨n3, m4⟩ := and_e m3
  obtain ⟨n4, m5⟩ := and_e m4
  obtain ⟨n5, m6⟩ := and_e m5
  obtain ⟨n6, m7⟩ := and_e m6
  obtain ⟨n7, m8⟩ := and_e m7
  obtain ⟨n8, m9⟩ := and_e m8
  obtain ⟨n9, m10⟩ := and_e m9
  obtain ⟨n10, m11⟩ := and_e m10
  obtain ⟨n11, m12⟩ := and_e m11
  obtain ⟨n12, m13⟩ := and_e m12
  obtain ⟨n13, m14⟩ := and_e m13
  obtain ⟨n14, m15⟩ := and_e m14
  obtain ⟨n15, m16⟩ := and_e m15
  obtain ⟨n16, m17⟩ := and_e m16
  obtain ⟨n17, m18⟩ := and_e m17
  obtain ⟨n18, m19⟩ := and_e m18
  obtain ⟨n19, m20⟩ := and_e m19
  obtain ⟨n20, m21⟩ := and_e m20
  obtain ⟨n21, m22⟩ := and_e m21
  obtain ⟨n22, m23⟩ := and_e m22
  obtain ⟨n23, m24⟩ := and_e m23
  obtain ⟨n24, m25⟩ := and_e m24
  obtain ⟨n25, m26⟩ := and_e m25
  obtain ⟨n26, m27⟩ := and_e m26
  obtain ⟨n27, m28⟩ := and_e m27
  obtain ⟨n28, m29⟩ := and_e m28
  obtain ⟨n29, m30⟩ := and_e m29
  obtain ⟨n30, m31⟩ := and_e m30
  obtain ⟨n31, m32⟩ := and_e m31
  obtain ⟨n32, m33⟩ := and_e m32
  obtain ⟨n33, m34⟩ := and_e m33
  obtain ⟨n34, m35⟩ := and_e m34
  obtain ⟨n35, m36⟩ := and_e m35
  obtain ⟨n36, m37⟩ := and_e m36
  obtain ⟨n37, m38⟩ := and_e m37
  obtain ⟨n38, m39⟩ := and_e m38
  obtain ⟨n39, m40⟩ := and_e m39
  obtain ⟨n40, m41⟩ := and_e m40
  have n41 := m41
  obtain ⟨vv, ev⟩ := exa_v n1
  obtain ⟨e0', ee0⟩ := exa_v n3
  obtain ⟨s0', es0⟩ := exa_v n9
  obtain ⟨t0', et0⟩ := arr_v n11
  obtain ⟨c0', ec0, hc0⟩ := Cond.eq_worth n10
  obtain rfl : c0' = .int 0 := Option.some.inj (hc0.symm.trans (Term.int_eval 0))
  obtain ⟨x0_0, ex0_0, hx0_0⟩ := Cond.eq_worth n21
  obtain rfl := Option.some.inj (hx0_0.symm.trans (Term.int_eval (109 : Int32)))
  obtain ⟨x0_1, ex0_1, hx0_1⟩ := Cond.eq_worth n22
  obtain rfl := Option.some.inj (hx0_1.symm.trans (Term.int_eval (101 : Int32)))
  obtain ⟨x0_2, ex0_2, hx0_2⟩ := Cond.eq_worth n23
  obtain rfl := Option.some.inj (hx0_2.symm.trans (Term.int_eval (116 : Int32)))
  obtain ⟨x0_3, ex0_3, hx0_3⟩ := Cond.eq_worth n24
  obtain rfl := Option.some.inj (hx0_3.symm.trans (Term.int_eval (101 : Int32)))
  obtain ⟨x0_4, ex0_4, hx0_4⟩ := Cond.eq_worth n25
  obtain rfl := Option.some.inj (hx0_4.symm.trans (Term.int_eval (114 : Int32)))
  obtain ⟨x0_5, ex0_5, hx0_5⟩ := Cond.eq_worth n26
  obtain rfl := Option.some.inj (hx0_5.symm.trans (Term.int_eval (105 : Int32)))
  obtain ⟨x0_6, ex0_6, hx0_6⟩ := Cond.eq_worth n27
  obtain rfl := Option.some.inj (hx0_6.symm.trans (Term.int_eval (110 : Int32)))
  obtain ⟨x0_7, ex0_7, hx0_7⟩ := Cond.eq_worth n28
  obtain rfl := Option.some.inj (hx0_7.symm.trans (Term.int_eval (103 : Int32)))
  have yt0 := ary_start (vs := [(.int (109 : Int32)), (.int (101 : Int32)), (.int (116 : Int32)), (.int (101 : Int32)), (.int (114 : Int32)), (.int (105 : Int32)), (.int (110 : Int32)), (.int (103 : Int32))]) hfit et0 n11 n12 rfl (by decide) ⟨ex0_0, ex0_1, ex0_2, ex0_3, ex0_4, ex0_5, ex0_6, ex0_7, trivial⟩
  obtain ⟨kb0, yv0⟩ := yt0.arv (.int 0)
  have T0 : Str s s.heap s0' wM := ⟨t0', kb0, 0, 8, _, Exa.start es0 n9, Fld.start ((fld_at es0).symm.trans et0), Fld.start ((fld_at es0).symm.trans ec0), yv0, Or.inl ⟨rfl, rfl, rfl, by decide⟩, by decide, by decide⟩
  obtain ⟨w0', ew0, hw0⟩ := Cond.eq_worth n4
  obtain rfl : w0' = .ref e0' := Option.some.inj (hw0.symm.trans ee0)
  obtain ⟨e1', ee1⟩ := exa_v n5
  obtain ⟨s1', es1⟩ := exa_v n13
  obtain ⟨t1', et1⟩ := arr_v n15
  obtain ⟨c1', ec1, hc1⟩ := Cond.eq_worth n14
  obtain rfl : c1' = .int 0 := Option.some.inj (hc1.symm.trans (Term.int_eval 0))
  obtain ⟨x1_0, ex1_0, hx1_0⟩ := Cond.eq_worth n29
  obtain rfl := Option.some.inj (hx1_0.symm.trans (Term.int_eval (114 : Int32)))
  obtain ⟨x1_1, ex1_1, hx1_1⟩ := Cond.eq_worth n30
  obtain rfl := Option.some.inj (hx1_1.symm.trans (Term.int_eval (97 : Int32)))
  obtain ⟨x1_2, ex1_2, hx1_2⟩ := Cond.eq_worth n31
  obtain rfl := Option.some.inj (hx1_2.symm.trans (Term.int_eval (116 : Int32)))
  obtain ⟨x1_3, ex1_3, hx1_3⟩ := Cond.eq_worth n32
  obtain rfl := Option.some.inj (hx1_3.symm.trans (Term.int_eval (105 : Int32)))
  obtain ⟨x1_4, ex1_4, hx1_4⟩ := Cond.eq_worth n33
  obtain rfl := Option.some.inj (hx1_4.symm.trans (Term.int_eval (110 : Int32)))
  obtain ⟨x1_5, ex1_5, hx1_5⟩ := Cond.eq_worth n34
  obtain rfl := Option.some.inj (hx1_5.symm.trans (Term.int_eval (103 : Int32)))
  have yt1 := ary_start (vs := [(.int (114 : Int32)), (.int (97 : Int32)), (.int (116 : Int32)), (.int (105 : Int32)), (.int (110 : Int32)), (.int (103 : Int32))]) hfit et1 n15 n16 rfl (by decide) ⟨ex1_0, ex1_1, ex1_2, ex1_3, ex1_4, ex1_5, trivial⟩
  obtain ⟨kb1, yv1⟩ := yt1.arv (.int 0)
  have T1 : Str s s.heap s1' wR := ⟨t1', kb1, 0, 6, _, Exa.start es1 n13, Fld.start ((fld_at es1).symm.trans et1), Fld.start ((fld_at es1).symm.trans ec1), yv1, Or.inl ⟨rfl, rfl, rfl, by decide⟩, by decide, by decide⟩
  obtain ⟨w1', ew1, hw1⟩ := Cond.eq_worth n6
  obtain rfl : w1' = .ref e1' := Option.some.inj (hw1.symm.trans ee1)
  obtain ⟨e2', ee2⟩ := exa_v n7
  obtain ⟨s2', es2⟩ := exa_v n17
  obtain ⟨t2', et2⟩ := arr_v n19
  obtain ⟨c2', ec2, hc2⟩ := Cond.eq_worth n18
  obtain rfl : c2' = .int 0 := Option.some.inj (hc2.symm.trans (Term.int_eval 0))
  obtain ⟨x2_0, ex2_0, hx2_0⟩ := Cond.eq_worth n35
  obtain rfl := Option.some.inj (hx2_0.symm.trans (Term.int_eval (112 : Int32)))
  obtain ⟨x2_1, ex2_1, hx2_1⟩ := Cond.eq_worth n36
  obtain rfl := Option.some.inj (hx2_1.symm.trans (Term.int_eval (114 : Int32)))
  obtain ⟨x2_2, ex2_2, hx2_2⟩ := Cond.eq_worth n37
  obtain rfl := Option.some.inj (hx2_2.symm.trans (Term.int_eval (105 : Int32)))
  obtain ⟨x2_3, ex2_3, hx2_3⟩ := Cond.eq_worth n38
  obtain rfl := Option.some.inj (hx2_3.symm.trans (Term.int_eval (99 : Int32)))
  obtain ⟨x2_4, ex2_4, hx2_4⟩ := Cond.eq_worth n39
  obtain rfl := Option.some.inj (hx2_4.symm.trans (Term.int_eval (105 : Int32)))
  obtain ⟨x2_5, ex2_5, hx2_5⟩ := Cond.eq_worth n40
  obtain rfl := Option.some.inj (hx2_5.symm.trans (Term.int_eval (110 : Int32)))
  obtain ⟨x2_6, ex2_6, hx2_6⟩ := Cond.eq_worth n41
  obtain rfl := Option.some.inj (hx2_6.symm.trans (Term.int_eval (103 : Int32)))
  have yt2 := ary_start (vs := [(.int (112 : Int32)), (.int (114 : Int32)), (.int (105 : Int32)), (.int (99 : Int32)), (.int (105 : Int32)), (.int (110 : Int32)), (.int (103 : Int32))]) hfit et2 n19 n20 rfl (by decide) ⟨ex2_0, ex2_1, ex2_2, ex2_3, ex2_4, ex2_5, ex2_6, trivial⟩
  obtain ⟨kb2, yv2⟩ := yt2.arv (.int 0)
  have T2 : Str s s.heap s2' wP := ⟨t2', kb2, 0, 7, _, Exa.start es2 n17, Fld.start ((fld_at es2).symm.trans et2), Fld.start ((fld_at es2).symm.trans ec2), yv2, Or.inl ⟨rfl, rfl, rfl, by decide⟩, by decide, by decide⟩
  obtain ⟨w2', ew2, hw2⟩ := Cond.eq_worth n8
  obtain rfl : w2' = .ref e2' := Option.some.inj (hw2.symm.trans ee2)
  have AV := ary_start (vs := [.ref e0', .ref e1', .ref e2']) hfit ev n0 n2 rfl (Nat.le_of_ble_eq_true rfl) ⟨ew0, ew1, ew2, trivial⟩
  have xE := Cond.before_iff.mp (hsets _ (List.mem_of_getElem? (i := 11) rfl))
  obtain ⟨em, eem⟩ := exa_v xE
  have vE := null_v (Cond.before_iff.mp (hsets _ (List.mem_of_getElem? (i := 12) rfl)))
  have pk : PK s vv e0' e1' e2' s0' s1' s2' em := ⟨Sta.start ev (Or.inr ⟨(hw _ (List.mem_of_getElem? (i := 78) rfl)), (hw _ (List.mem_of_getElem? (i := 84) rfl))⟩), Sta.start ee0 (Or.inr ⟨(hw _ (List.mem_of_getElem? (i := 78) rfl)), (hw _ (List.mem_of_getElem? (i := 92) rfl))⟩), Sta.start ee1 (Or.inr ⟨(hw _ (List.mem_of_getElem? (i := 78) rfl)), (hw _ (List.mem_of_getElem? (i := 93) rfl))⟩), Sta.start ee2 (Or.inr ⟨(hw _ (List.mem_of_getElem? (i := 78) rfl)), (hw _ (List.mem_of_getElem? (i := 94) rfl))⟩), Exa.start ev n1, AV, Fld.start ((fld_at ee0).symm.trans es0), Fld.start ((fld_at ee1).symm.trans es1), Fld.start ((fld_at ee2).symm.trans es2), T0, T1, T2, Sta.start eem (Or.inl (hsets _ (List.mem_of_getElem? (i := 10) rfl))), Exa.start eem xE, Fld.start ((fld_at eem).symm.trans vE)⟩
  have C := own_law l s _ hw hEL i0 i1 i2 i3 i4 s.heap (O2 := O2) (P5 := P5) (O4 := O4) (rG3 := rG3) (pk := pk)
  obtain ⟨n, o, h1, h2, h3, v, L, ws', rfl, hv, N, -, -, -, hq⟩ := C tables_1 p e ha hc hk s m _ below hf ((Spec.applies_iff_loose hf).mp happ).1 ⟨rfl, State.Warmed39.refl s, rfl, hCH, (fun q hq => by simp at hq), ext_refl _⟩ (fun q => q.elim)
  obtain rfl : v = some (.int 1) := hv
  exact ⟨n, _, h1, h2, h3, hpost _ _ _ _ _ _ ⟨Cond.after_iff.mpr rfl, Cond.after_iff.mpr (eq_i res_at (Term.int_eval (1)) rfl), trivial⟩ ⟨hq.1, hq.2.1, hq.2.2.1, (hq.2.2.2.sift fun y hy => Or.inr (N y hy)).mono (by decide) (by decide)⟩⟩
theorem main_1_1 : Claimed_1_1 := comes_1 fun _ _ _ _ _ _ h hF => ⟨h.1, hF⟩
theorem main_1_2 : Claimed_1_2 := comes_1 fun _ _ _ _ _ _ h hF => ⟨h.2.1, hF⟩
end Jvm.Pilot.@@N@@
namespace Jvm.Pilot.@@N@@
open Jvm Jvm.ClassFile Sem Op Lib Jvm.Free Jvm.Stand Jvm.Pilot.@@N@@.Jvm.D
/-! MADE BY PROGRAM (witnessworld.py) out of the Statement's table words and the real class files: 25 classes; the members and pool entries that the words name. The judged class is class 1, her method 4. -/
namespace start1
open Jvm.ClassFile
def u (s : String) : CpInfo := .utf8 (stringToUtf16 s)
/-- a pool by its gaps: so many unusable entries, then the entry; so many at the end -/
def gap : Nat → List CpInfo → List CpInfo
  | 0, r => r
  | n + 1, r => .unusable :: gap n r
def poolList (es : List (Nat × CpInfo)) (last : Nat) : List CpInfo := es.foldr (fun e r => gap e.1 (e.2 :: r)) (gap last [])
def pool (es : List (Nat × CpInfo)) (last : Nat) : Array CpInfo := ⟨poolList es last⟩
def fileOf (pool : Array CpInfo) (this : Nat) (attrs : Array Attribute := #[]) (ms : Array MethodInfo := #[]) (fl : Nat := 33) (sup : Nat := 0) (ifs : Array Nat := #[]) (fds : Array FieldInfo := #[]) : ClassFile where
  minorVersion := 0
  majorVersion := 65
  constantPool := pool
  accessFlags := fl
  thisClass := this
  superClass := sup
  interfaces := ifs
  fields := fds
  methods := ms
  attributes := attrs
def plain (name : String) (sup : Option ClassId) : Class where
  name := name
  kind := .ordinary
  loader := none
  accessFlags := 33
  super := sup
  interfaces := #[]
  cf := none
  fields := #[]
  methods := #[]
  instanceTypes := #[]
  staticTypes := #[]
  resolved := #[]
  callSites := []
  init := .initialized
  statics := none
  mirror := none

def pool0 : Array CpInfo := pool [(5, u "<init>"), (0, u "()V"), (1, .class_ 10), (1, u "java/lang/Object"), (85, u "clone"), (0, u "()Ljava/lang/Object;")] 26

def k0c0 : Code := { maxStack := 0, maxLocals := 1, code := object_method_1_code, exceptionTable := #[], attributes := #[] }
def k0m0 : Method := { name := "<init>", desc := "()V", sig := { parameters := [], returnType := none }, accessFlags := 1, code := some k0c0 }
def k0m1 : Method := { name := "clone", desc := "()Ljava/lang/Object;", sig := { parameters := [], returnType := some (.object "java/lang/Object") }, accessFlags := 260, code := none }
/-- java/lang/Object -/
def k0 : Class := { plain "java/lang/Object" none with
  accessFlags := 33
  interfaces := #[]
  cf := some (fileOf pool0 8 #[] #[{ accessFlags := 1, nameIndex := 5, descriptorIndex := 6, attributes := #[] }, { accessFlags := 260, nameIndex := 96, descriptorIndex := 97, attributes := #[] }] 33 0 #[] #[])
  fields := #[]
  methods := #[k0m0, k0m1]
  instanceTypes := #[]
  staticTypes := #[]
  resolved := Array.replicate 124 none
  statics := none }

def pool1 : Array CpInfo := pool [(2, .class_ 4), (1, u "java/lang/Object"), (0, u "<init>"), (0, u "()V"), (0, .long 255), (1, .methodref 10 11), (0, .class_ 12), (0, .nameAndType 13 14), (0, u "java/lang/String"), (0, u "length"), (0, u "()I"), (0, .methodref 10 16), (0, .nameAndType 17 18), (0, u "charAt"), (0, u "(I)C"), (0, .methodref 20 21), (0, .class_ 22), (0, .nameAndType 23 24), (0, u "com/example/tally3/tally3/plan/PlanKindOfApiNamePinLaw"), (0, u "drawn"), (0, u "(JII)C"), (0, .string 26), (0, u "metering"), (0, .methodref 10 28), (0, .nameAndType 29 30), (0, u "equals"), (0, u "(Ljava/lang/Object;)Z"), (0, .fieldref 32 33), (0, .class_ 34), (0, .nameAndType 35 36), (0, u "com/example/tally3/tally3/plan/PlanKind"), (0, u "METERING"), (0, u "Lcom/example/tally3/tally3/plan/PlanKind;"), (0, .string 38), (0, u "rating"), (0, .fieldref 32 40), (0, .nameAndType 41 36), (0, u "RATING"), (0, .string 43), (0, u "pricing"), (0, .fieldref 32 45), (0, .nameAndType 46 36), (0, u "PRICING"), (0, .methodref 32 48), (0, .nameAndType 49 50), (0, u "ofApiName"), (0, u "(Ljava/lang/String;)Ljava/util/Optional;"), (0, .methodref 52 53), (0, .class_ 54), (0, .nameAndType 55 56), (0, u "java/util/Optional"), (0, u "isPresent"), (0, u "()Z"), (0, .string 58), (0, u ""), (0, .methodref 60 61), (0, .class_ 62), (0, .nameAndType 63 64), (0, u "java/lang/Math"), (0, u "max"), (0, u "(II)I"), (0, .methodref 20 66), (0, .nameAndType 67 68), (0, u "put"), (0, u "([CILjava/lang/String;ZJI)V"), (0, .integer 2147483647), (0, .methodref 10 71), (0, .nameAndType 5 72), (0, u "([C)V"), (0, .methodref 20 74), (0, .nameAndType 75 76), (0, u "expected"), (0, u "(Ljava/lang/String;)Lcom/example/tally3/tally3/plan/PlanKind;"), (0, .methodref 52 78), (0, .nameAndType 79 80), (0, u "get"), (0, u "()Ljava/lang/Object;"), (3, u "law"), (0, u "(IIIIJ)Z")] 4

def k1m0 : Method := { name := "<init>", desc := "()V", sig := { parameters := [], returnType := none }, accessFlags := 1, code := none }
def k1c1 : Code := { maxStack := 4, maxLocals := 4, code := method_2_code, exceptionTable := #[], attributes := #[] }
def k1m1 : Method := { name := "drawn", desc := "(JII)C", sig := { parameters := [.long, .int, .int], returnType := some .char }, accessFlags := 10, code := some k1c1 }
def k1c2 : Code := { maxStack := 6, maxLocals := 7, code := method_3_code, exceptionTable := #[], attributes := #[] }
def k1m2 : Method := { name := "put", desc := "([CILjava/lang/String;ZJI)V", sig := { parameters := [(.array .char), .int, (.object "java/lang/String"), .boolean, .long, .int], returnType := none }, accessFlags := 10, code := some k1c2 }
def k1c3 : Code := { maxStack := 2, maxLocals := 1, code := method_4_code, exceptionTable := #[], attributes := #[] }
def k1m3 : Method := { name := "expected", desc := "(Ljava/lang/String;)Lcom/example/tally3/tally3/plan/PlanKind;", sig := { parameters := [(.object "java/lang/String")], returnType := some (.object "com/example/tally3/tally3/plan/PlanKind") }, accessFlags := 10, code := some k1c3 }
def k1c4 : Code := { maxStack := 7, maxLocals := 14, code := code, exceptionTable := #[], attributes := #[] }
def k1m4 : Method := { name := "law", desc := "(IIIIJ)Z", sig := { parameters := [.int, .int, .int, .int, .long], returnType := some .boolean }, accessFlags := 9, code := some k1c4 }
/-- com/example/tally3/tally3/plan/PlanKindOfApiNamePinLaw -/
def k1 : Class := { plain "com/example/tally3/tally3/plan/PlanKindOfApiNamePinLaw" (some 0) with
  accessFlags := 49
  interfaces := #[]
  cf := some (fileOf pool1 20 #[] #[{ accessFlags := 1, nameIndex := 5, descriptorIndex := 6, attributes := #[] }, { accessFlags := 10, nameIndex := 23, descriptorIndex := 24, attributes := #[] }, { accessFlags := 10, nameIndex := 67, descriptorIndex := 68, attributes := #[] }, { accessFlags := 10, nameIndex := 75, descriptorIndex := 76, attributes := #[] }, { accessFlags := 9, nameIndex := 84, descriptorIndex := 85, attributes := #[] }] 49 2 #[] #[])
  fields := #[]
  methods := #[k1m0, k1m1, k1m2, k1m3, k1m4]
  instanceTypes := #[]
  staticTypes := #[]
  resolved := Array.replicate 90 none
  statics := none }

def pool2 : Array CpInfo := pool [(1, .class_ 2), (0, u "java/io/Serializable"), (0, .class_ 4), (0, u "java/lang/Object")] 2

/-- java/io/Serializable -/
def k2 : Class := { plain "java/io/Serializable" (some 0) with
  accessFlags := 1537
  interfaces := #[]
  cf := some (fileOf pool2 1 #[] #[] 1537 3 #[] #[])
  fields := #[]
  methods := #[]
  instanceTypes := #[]
  staticTypes := #[]
  resolved := Array.replicate 7 none
  statics := none }

def pool3 : Array CpInfo := pool [(1, .class_ 2), (0, u "java/lang/Comparable"), (0, .class_ 4), (0, u "java/lang/Object")] 7

/-- java/lang/Comparable -/
def k3 : Class := { plain "java/lang/Comparable" (some 0) with
  accessFlags := 1537
  interfaces := #[]
  cf := some (fileOf pool3 1 #[] #[] 1537 3 #[] #[])
  fields := #[]
  methods := #[]
  instanceTypes := #[]
  staticTypes := #[]
  resolved := Array.replicate 12 none
  statics := none }

def pool4 : Array CpInfo := pool [(2, .class_ 4), (1, u "java/lang/CharSequence"), (42, .class_ 48), (0, u "java/lang/CharSequence$1CodePointIterator"), (10, .class_ 60), (0, u "java/lang/CharSequence$1CharIterator"), (5, .class_ 67), (0, u "java/lang/Object")] 63

/-- java/lang/CharSequence -/
def k4 : Class := { plain "java/lang/CharSequence" (some 0) with
  accessFlags := 1537
  interfaces := #[]
  cf := some (fileOf pool4 2 #[.nestMembers #[47, 59]] #[] 1537 66 #[] #[])
  fields := #[]
  methods := #[]
  instanceTypes := #[]
  staticTypes := #[]
  resolved := Array.replicate 131 none
  statics := none }

def pool5 : Array CpInfo := pool [(1, .class_ 2), (0, u "java/lang/constant/Constable"), (0, .class_ 4), (0, u "java/lang/Object")] 6

/-- java/lang/constant/Constable -/
def k5 : Class := { plain "java/lang/constant/Constable" (some 0) with
  accessFlags := 1537
  interfaces := #[]
  cf := some (fileOf pool5 1 #[] #[] 1537 3 #[] #[])
  fields := #[]
  methods := #[]
  instanceTypes := #[]
  staticTypes := #[]
  resolved := Array.replicate 11 none
  statics := none }

def pool6 : Array CpInfo := pool [(1, .class_ 2), (0, u "java/lang/constant/ConstantDesc"), (0, .class_ 4), (0, u "java/lang/Object")] 32

/-- java/lang/constant/ConstantDesc -/
def k6 : Class := { plain "java/lang/constant/ConstantDesc" (some 0) with
  accessFlags := 1537
  interfaces := #[]
  cf := some (fileOf pool6 1 #[] #[] 1537 3 #[] #[])
  fields := #[]
  methods := #[]
  instanceTypes := #[]
  staticTypes := #[]
  resolved := Array.replicate 37 none
  statics := none }

def pool7 : Array CpInfo := pool [(1, .methodref 2 3), (0, .class_ 4), (0, .nameAndType 5 6), (0, u "java/lang/Object"), (0, u "<init>"), (0, u "()V"), (0, .string 8), (0, u ""), (0, .fieldref 10 11), (0, .class_ 12), (0, .nameAndType 13 14), (0, u "java/lang/String"), (0, u "value"), (0, u "[B"), (0, .fieldref 10 16), (0, .nameAndType 17 18), (0, u "coder"), (0, u "B"), (2, u "hash"), (0, u "I"), (2, u "hashIsZero"), (0, u "Z"), (0, .methodref 10 28), (0, .nameAndType 5 29), (0, u "([CIILjava/lang/Void;)V"), (8, .fieldref 10 39), (0, .nameAndType 40 26), (0, u "COMPACT_STRINGS"), (1, .class_ 44), (1, u "java/lang/StringUTF16"), (0, u "compress"), (1, .methodref 42 48), (0, .nameAndType 49 50), (0, u "coderFromArrayLen"), (0, u "([BI)B"), (56, .class_ 109), (1, u "java/lang/StringLatin1"), (32, u "()Z"), (34, .methodref 42 178), (0, .nameAndType 45 179), (0, u "([CII)[B"), (154, u "()I"), (0, .methodref 10 336), (0, .nameAndType 17 337), (0, u "()B"), (25, u "([BI)C"), (27, u "(II)V"), (35, u "(I)C"), (64, .methodref 10 493), (0, .nameAndType 494 142), (0, u "isLatin1"), (0, .methodref 107 496), (0, .nameAndType 497 363), (0, u "charAt"), (3, u "checkIndex"), (5, u "length"), (33, .methodref 107 542), (0, .nameAndType 543 544), (0, u "equals"), (0, u "([B[B)Z"), (28, u "(Ljava/lang/Object;)Z"), (1, .class_ 576), (0, u "java/lang/CharSequence"), (22, u "CASE_INSENSITIVE_ORDER"), (0, u "Ljava/util/Comparator;"), (409, u "([C)V"), (42, .fieldref 1054 1055), (0, .class_ 1056), (0, .nameAndType 1057 1058), (0, u "jdk/internal/util/Preconditions"), (0, u "SIOOBE_FORMATTER"), (0, u "Ljava/util/function/BiFunction;"), (0, .methodref 1054 1060), (0, .nameAndType 501 1061), (0, u "(IILjava/util/function/BiFunction;)I"), (39, u "serialPersistentFields"), (0, u "[Ljava/io/ObjectStreamField;"), (0, .class_ 1104), (0, u "java/lang/String$CaseInsensitiveComparator"), (1, .class_ 1107), (0, u "java/io/Serializable"), (0, .class_ 1109), (0, u "java/lang/Comparable"), (0, .class_ 1111), (0, u "java/lang/constant/Constable"), (0, .class_ 1113), (0, u "java/lang/constant/ConstantDesc"), (2, u "serialVersionUID"), (0, u "J"), (3, u "REPL"), (0, u "C"), (2, u "LATIN1"), (1, u "UTF16")] 323

def k7m0 : Method := { name := "<init>", desc := "()V", sig := { parameters := [], returnType := none }, accessFlags := 1, code := none }
def k7c1 : Code := { maxStack := 5, maxLocals := 2, code := jdk_42_method_3_code, exceptionTable := #[], attributes := #[] }
def k7m1 : Method := { name := "<init>", desc := "([C)V", sig := { parameters := [(.array .char)], returnType := none }, accessFlags := 1, code := some k7c1 }
def k7c2 : Code := { maxStack := 2, maxLocals := 1, code := jdk_42_method_54_code, exceptionTable := #[], attributes := #[] }
def k7m2 : Method := { name := "length", desc := "()I", sig := { parameters := [], returnType := some .int }, accessFlags := 1, code := some k7c2 }
def k7c3 : Code := { maxStack := 2, maxLocals := 2, code := jdk_42_method_56_code, exceptionTable := #[], attributes := #[] }
def k7m3 : Method := { name := "charAt", desc := "(I)C", sig := { parameters := [.int], returnType := some .char }, accessFlags := 1, code := some k7c3 }
def k7c4 : Code := { maxStack := 2, maxLocals := 3, code := jdk_42_method_66_code, exceptionTable := #[], attributes := #[] }
def k7m4 : Method := { name := "equals", desc := "(Ljava/lang/Object;)Z", sig := { parameters := [(.object "java/lang/Object")], returnType := some .boolean }, accessFlags := 1, code := some k7c4 }
def k7c5 : Code := { maxStack := 4, maxLocals := 6, code := jdk_42_method_149_code, exceptionTable := #[], attributes := #[] }
def k7m5 : Method := { name := "<init>", desc := "([CIILjava/lang/Void;)V", sig := { parameters := [(.array .char), .int, .int, (.object "java/lang/Void")], returnType := none }, accessFlags := 2, code := some k7c5 }
def k7c6 : Code := { maxStack := 1, maxLocals := 1, code := jdk_42_method_152_code, exceptionTable := #[], attributes := #[] }
def k7m6 : Method := { name := "coder", desc := "()B", sig := { parameters := [], returnType := some .byte }, accessFlags := 0, code := some k7c6 }
def k7c7 : Code := { maxStack := 1, maxLocals := 1, code := jdk_42_method_154_code, exceptionTable := #[], attributes := #[] }
def k7m7 : Method := { name := "isLatin1", desc := "()Z", sig := { parameters := [], returnType := some .boolean }, accessFlags := 0, code := some k7c7 }
def k7c8 : Code := { maxStack := 3, maxLocals := 2, code := jdk_42_method_155_code, exceptionTable := #[], attributes := #[] }
def k7m8 : Method := { name := "checkIndex", desc := "(II)V", sig := { parameters := [.int, .int], returnType := none }, accessFlags := 8, code := some k7c8 }
/-- java/lang/String -/
def k7 : Class := { plain "java/lang/String" (some 0) with
  accessFlags := 49
  interfaces := #[2, 3, 4, 5, 6]
  cf := some (fileOf pool7 10 #[.nestMembers #[1103]] #[{ accessFlags := 1, nameIndex := 5, descriptorIndex := 6, attributes := #[] }, { accessFlags := 1, nameIndex := 5, descriptorIndex := 1010, attributes := #[] }, { accessFlags := 1, nameIndex := 507, descriptorIndex := 334, attributes := #[] }, { accessFlags := 1, nameIndex := 497, descriptorIndex := 427, attributes := #[] }, { accessFlags := 1, nameIndex := 543, descriptorIndex := 573, attributes := #[] }, { accessFlags := 2, nameIndex := 5, descriptorIndex := 29, attributes := #[] }, { accessFlags := 0, nameIndex := 17, descriptorIndex := 337, attributes := #[] }, { accessFlags := 0, nameIndex := 494, descriptorIndex := 142, attributes := #[] }, { accessFlags := 8, nameIndex := 501, descriptorIndex := 391, attributes := #[] }] 49 2 #[1106, 1108, 575, 1110, 1112] #[{ accessFlags := 18, nameIndex := 13, descriptorIndex := 14, attributes := #[] }, { accessFlags := 18, nameIndex := 17, descriptorIndex := 18, attributes := #[] }, { accessFlags := 2, nameIndex := 21, descriptorIndex := 22, attributes := #[] }, { accessFlags := 2, nameIndex := 25, descriptorIndex := 26, attributes := #[] }, { accessFlags := 26, nameIndex := 1116, descriptorIndex := 1117, attributes := #[] }, { accessFlags := 24, nameIndex := 40, descriptorIndex := 26, attributes := #[] }, { accessFlags := 26, nameIndex := 1101, descriptorIndex := 1102, attributes := #[] }, { accessFlags := 26, nameIndex := 1121, descriptorIndex := 1122, attributes := #[] }, { accessFlags := 25, nameIndex := 599, descriptorIndex := 600, attributes := #[] }, { accessFlags := 24, nameIndex := 1125, descriptorIndex := 18, attributes := #[] }, { accessFlags := 24, nameIndex := 1127, descriptorIndex := 18, attributes := #[] }])
  fields := #[{ name := "value", type := (.array .byte), accessFlags := 18, slot := 0, constantValue := 0 }, { name := "coder", type := .byte, accessFlags := 18, slot := 1, constantValue := 0 }, { name := "hash", type := .int, accessFlags := 2, slot := 2, constantValue := 0 }, { name := "hashIsZero", type := .boolean, accessFlags := 2, slot := 3, constantValue := 0 }, { name := "serialVersionUID", type := .long, accessFlags := 26, slot := 0, constantValue := 0 }, { name := "COMPACT_STRINGS", type := .boolean, accessFlags := 24, slot := 1, constantValue := 0 }, { name := "serialPersistentFields", type := (.array (.object "java/io/ObjectStreamField")), accessFlags := 26, slot := 2, constantValue := 0 }, { name := "REPL", type := .char, accessFlags := 26, slot := 3, constantValue := 0 }, { name := "CASE_INSENSITIVE_ORDER", type := (.object "java/util/Comparator"), accessFlags := 25, slot := 4, constantValue := 0 }, { name := "LATIN1", type := .byte, accessFlags := 24, slot := 5, constantValue := 0 }, { name := "UTF16", type := .byte, accessFlags := 24, slot := 6, constantValue := 0 }]
  methods := #[k7m0, k7m1, k7m2, k7m3, k7m4, k7m5, k7m6, k7m7, k7m8]
  instanceTypes := #[(.array .byte), .byte, .int, .boolean]
  staticTypes := #[.long, .boolean, (.array (.object "java/io/ObjectStreamField")), .char, (.object "java/util/Comparator"), .byte, .byte]
  resolved := Array.replicate 1451 none
  statics := some 0 }

def pool8 : Array CpInfo := pool [(1, .class_ 2), (0, u "java/lang/Math"), (1, .class_ 6), (1, u "java/lang/Object"), (0, u "<init>"), (0, u "()V"), (89, .class_ 100), (1, u "java/lang/Math$RandomNumberGeneratorHolder"), (71, u "negativeZeroFloatBits"), (0, u "J"), (2, u "negativeZeroDoubleBits"), (21, u "max"), (46, u "$assertionsDisabled"), (0, u "Z"), (88, u "(II)I"), (2, u "twoToTheDoubleScaleDown"), (0, u "D"), (4, u "twoToTheDoubleScaleUp"), (9, u "E"), (3, u "PI"), (2, u "TAU"), (2, u "DEGREES_TO_RADIANS"), (0, u "RADIANS_TO_DEGREES")] 94

def k8m0 : Method := { name := "<init>", desc := "()V", sig := { parameters := [], returnType := none }, accessFlags := 2, code := none }
def k8c1 : Code := { maxStack := 2, maxLocals := 2, code := jdk_29_method_65_code, exceptionTable := #[], attributes := #[] }
def k8m1 : Method := { name := "max", desc := "(II)I", sig := { parameters := [.int, .int], returnType := some .int }, accessFlags := 9, code := some k8c1 }
/-- java/lang/Math -/
def k8 : Class := { plain "java/lang/Math" (some 0) with
  accessFlags := 49
  interfaces := #[]
  cf := some (fileOf pool8 1 #[.nestMembers #[98]] #[{ accessFlags := 2, nameIndex := 7, descriptorIndex := 8, attributes := #[] }, { accessFlags := 9, nameIndex := 198, descriptorIndex := 335, attributes := #[] }] 49 4 #[] #[{ accessFlags := 25, nameIndex := 354, descriptorIndex := 339, attributes := #[] }, { accessFlags := 25, nameIndex := 358, descriptorIndex := 339, attributes := #[] }, { accessFlags := 25, nameIndex := 361, descriptorIndex := 339, attributes := #[] }, { accessFlags := 26, nameIndex := 364, descriptorIndex := 339, attributes := #[] }, { accessFlags := 26, nameIndex := 365, descriptorIndex := 339, attributes := #[] }, { accessFlags := 26, nameIndex := 172, descriptorIndex := 173, attributes := #[] }, { accessFlags := 26, nameIndex := 176, descriptorIndex := 173, attributes := #[] }, { accessFlags := 8, nameIndex := 344, descriptorIndex := 339, attributes := #[] }, { accessFlags := 8, nameIndex := 338, descriptorIndex := 339, attributes := #[] }, { accessFlags := 4120, nameIndex := 245, descriptorIndex := 246, attributes := #[] }])
  fields := #[{ name := "E", type := .double, accessFlags := 25, slot := 0, constantValue := 0 }, { name := "PI", type := .double, accessFlags := 25, slot := 1, constantValue := 0 }, { name := "TAU", type := .double, accessFlags := 25, slot := 2, constantValue := 0 }, { name := "DEGREES_TO_RADIANS", type := .double, accessFlags := 26, slot := 3, constantValue := 0 }, { name := "RADIANS_TO_DEGREES", type := .double, accessFlags := 26, slot := 4, constantValue := 0 }, { name := "negativeZeroFloatBits", type := .long, accessFlags := 26, slot := 5, constantValue := 0 }, { name := "negativeZeroDoubleBits", type := .long, accessFlags := 26, slot := 6, constantValue := 0 }, { name := "twoToTheDoubleScaleUp", type := .double, accessFlags := 8, slot := 7, constantValue := 0 }, { name := "twoToTheDoubleScaleDown", type := .double, accessFlags := 8, slot := 8, constantValue := 0 }, { name := "$assertionsDisabled", type := .boolean, accessFlags := 4120, slot := 9, constantValue := 0 }]
  methods := #[k8m0, k8m1]
  instanceTypes := #[]
  staticTypes := #[.double, .double, .double, .double, .double, .long, .long, .double, .double, .boolean]
  resolved := Array.replicate 460 none
  statics := none }

def pool9 : Array CpInfo := pool [(1, .class_ 2), (0, u "java/lang/String"), (1, .class_ 6), (1, u "java/lang/Object"), (0, u "<init>"), (0, u "()V"), (0, .methodref 1 10), (0, .nameAndType 11 12), (0, u "checkIndex"), (0, u "(II)V"), (1, .class_ 16), (1, u "java/lang/StringLatin1"), (36, u "([BI)C"), (67, u "$assertionsDisabled"), (0, u "Z"), (98, .class_ 223), (1, u "java/lang/StringLatin1$LinesSpliterator"), (28, u "charAt"), (28, u "equals"), (0, u "([B[B)Z"), (107, .class_ 391), (0, u "java/lang/StringLatin1$CharsSpliterator")] 3

def k9m0 : Method := { name := "<init>", desc := "()V", sig := { parameters := [], returnType := none }, accessFlags := 0, code := none }
def k9c1 : Code := { maxStack := 2, maxLocals := 2, code := jdk_43_method_2_code, exceptionTable := #[], attributes := #[] }
def k9m1 : Method := { name := "charAt", desc := "([BI)C", sig := { parameters := [(.array .byte), .int], returnType := some .char }, accessFlags := 9, code := some k9c1 }
def k9c2 : Code := { maxStack := 3, maxLocals := 3, code := jdk_43_method_13_code, exceptionTable := #[], attributes := #[] }
def k9m2 : Method := { name := "equals", desc := "([B[B)Z", sig := { parameters := [(.array .byte), (.array .byte)], returnType := some .boolean }, accessFlags := 9, code := some k9c2 }
/-- java/lang/StringLatin1 -/
def k9 : Class := { plain "java/lang/StringLatin1" (some 0) with
  accessFlags := 48
  interfaces := #[]
  cf := some (fileOf pool9 14 #[.nestMembers #[390, 221]] #[{ accessFlags := 0, nameIndex := 7, descriptorIndex := 8, attributes := #[] }, { accessFlags := 9, nameIndex := 252, descriptorIndex := 53, attributes := #[] }, { accessFlags := 9, nameIndex := 281, descriptorIndex := 282, attributes := #[] }] 48 4 #[] #[{ accessFlags := 4120, nameIndex := 121, descriptorIndex := 122, attributes := #[] }])
  fields := #[{ name := "$assertionsDisabled", type := .boolean, accessFlags := 4120, slot := 0, constantValue := 0 }]
  methods := #[k9m0, k9m1, k9m2]
  instanceTypes := #[]
  staticTypes := #[.boolean]
  resolved := Array.replicate 395 none
  statics := none }

def pool10 : Array CpInfo := pool [(2, .class_ 4), (1, u "java/lang/Object"), (0, u "<init>"), (0, u "()V"), (17, .class_ 26), (1, u "jdk/internal/util/Preconditions"), (6, u "checkIndex"), (21, .class_ 56), (0, u "jdk/internal/util/Preconditions$4"), (57, .class_ 115), (0, u "jdk/internal/util/Preconditions$1"), (7, u "SIOOBE_FORMATTER"), (0, u "Ljava/util/function/BiFunction;"), (0, .class_ 126), (0, u "jdk/internal/util/Preconditions$2"), (3, u "AIOOBE_FORMATTER"), (0, .class_ 132), (0, u "jdk/internal/util/Preconditions$3"), (3, u "IOOBE_FORMATTER"), (41, u "(IILjava/util/function/BiFunction;)I")] 15

def k10m0 : Method := { name := "<init>", desc := "()V", sig := { parameters := [], returnType := none }, accessFlags := 1, code := none }
def k10c1 : Code := { maxStack := 3, maxLocals := 3, code := jdk_41_method_11_code, exceptionTable := #[], attributes := #[] }
def k10m1 : Method := { name := "checkIndex", desc := "(IILjava/util/function/BiFunction;)I", sig := { parameters := [.int, .int, (.object "java/util/function/BiFunction")], returnType := some .int }, accessFlags := 9, code := some k10c1 }
/-- jdk/internal/util/Preconditions -/
def k10 : Class := { plain "jdk/internal/util/Preconditions" (some 0) with
  accessFlags := 33
  interfaces := #[]
  cf := some (fileOf pool10 24 #[.nestMembers #[55, 131, 125, 114]] #[{ accessFlags := 1, nameIndex := 5, descriptorIndex := 6, attributes := #[] }, { accessFlags := 9, nameIndex := 33, descriptorIndex := 178, attributes := #[] }] 33 2 #[] #[{ accessFlags := 25, nameIndex := 123, descriptorIndex := 124, attributes := #[] }, { accessFlags := 25, nameIndex := 130, descriptorIndex := 124, attributes := #[] }, { accessFlags := 25, nameIndex := 136, descriptorIndex := 124, attributes := #[] }])
  fields := #[{ name := "SIOOBE_FORMATTER", type := (.object "java/util/function/BiFunction"), accessFlags := 25, slot := 0, constantValue := 0 }, { name := "AIOOBE_FORMATTER", type := (.object "java/util/function/BiFunction"), accessFlags := 25, slot := 1, constantValue := 0 }, { name := "IOOBE_FORMATTER", type := (.object "java/util/function/BiFunction"), accessFlags := 25, slot := 2, constantValue := 0 }]
  methods := #[k10m0, k10m1]
  instanceTypes := #[]
  staticTypes := #[(.object "java/util/function/BiFunction"), (.object "java/util/function/BiFunction"), (.object "java/util/function/BiFunction")]
  resolved := Array.replicate 194 none
  statics := some 1 }

def pool11 : Array CpInfo := pool [(6, .class_ 8), (1, u "java/lang/Object"), (0, u "<init>"), (0, u "()V"), (1, .class_ 14), (1, u "java/lang/StringUTF16"), (31, u "$assertionsDisabled"), (0, u "Z"), (13, u "HI_BYTE_SHIFT"), (0, u "I"), (2, u "LO_BYTE_SHIFT"), (49, .methodref 12 116), (0, .nameAndType 117 118), (0, u "compress"), (0, u "([CI[BII)I"), (3, u "([CII)[B"), (138, u "coderFromArrayLen"), (0, u "([BI)B"), (106, .class_ 371), (1, u "java/lang/StringUTF16$LinesSpliterator"), (58, u "MAX_LENGTH"), (196, .class_ 628), (0, u "java/lang/StringUTF16$CodePointsSpliterator"), (0, .class_ 630), (0, u "java/lang/StringUTF16$CharsSpliterator")] 4

def k11m0 : Method := { name := "<init>", desc := "()V", sig := { parameters := [], returnType := none }, accessFlags := 0, code := none }
def k11c1 : Code := { maxStack := 2, maxLocals := 2, code := jdk_52_method_15_code, exceptionTable := #[], attributes := #[] }
def k11m1 : Method := { name := "coderFromArrayLen", desc := "([BI)B", sig := { parameters := [(.array .byte), .int], returnType := some .byte }, accessFlags := 8, code := some k11c1 }
def k11c2 : Code := { maxStack := 5, maxLocals := 6, code := jdk_52_method_16_code, exceptionTable := #[], attributes := #[] }
def k11m2 : Method := { name := "compress", desc := "([CII)[B", sig := { parameters := [(.array .char), .int, .int], returnType := some (.array .byte) }, accessFlags := 9, code := some k11c2 }
def k11c3 : Code := { maxStack := 3, maxLocals := 7, code := jdk_52_method_21_code, exceptionTable := #[], attributes := #[] }
def k11m3 : Method := { name := "compress", desc := "([CI[BII)I", sig := { parameters := [(.array .char), .int, (.array .byte), .int, .int], returnType := some .int }, accessFlags := 9, code := some k11c3 }
/-- java/lang/StringUTF16 -/
def k11 : Class := { plain "java/lang/StringUTF16" (some 0) with
  accessFlags := 48
  interfaces := #[]
  cf := some (fileOf pool11 12 #[.nestMembers #[627, 629, 369]] #[{ accessFlags := 0, nameIndex := 9, descriptorIndex := 10, attributes := #[] }, { accessFlags := 8, nameIndex := 261, descriptorIndex := 262, attributes := #[] }, { accessFlags := 9, nameIndex := 117, descriptorIndex := 122, attributes := #[] }, { accessFlags := 9, nameIndex := 117, descriptorIndex := 118, attributes := #[] }] 48 6 #[] #[{ accessFlags := 26, nameIndex := 61, descriptorIndex := 62, attributes := #[] }, { accessFlags := 26, nameIndex := 65, descriptorIndex := 62, attributes := #[] }, { accessFlags := 24, nameIndex := 430, descriptorIndex := 62, attributes := #[] }, { accessFlags := 4120, nameIndex := 46, descriptorIndex := 47, attributes := #[] }])
  fields := #[{ name := "HI_BYTE_SHIFT", type := .int, accessFlags := 26, slot := 0, constantValue := 0 }, { name := "LO_BYTE_SHIFT", type := .int, accessFlags := 26, slot := 1, constantValue := 0 }, { name := "MAX_LENGTH", type := .int, accessFlags := 24, slot := 2, constantValue := 0 }, { name := "$assertionsDisabled", type := .boolean, accessFlags := 4120, slot := 3, constantValue := 0 }]
  methods := #[k11m0, k11m1, k11m2, k11m3]
  instanceTypes := #[]
  staticTypes := #[.int, .int, .int, .boolean]
  resolved := Array.replicate 635 none
  statics := none }

def pool12 : Array CpInfo := pool [(2, .class_ 4), (1, u "java/lang/Enum"), (0, u "name"), (0, u "Ljava/lang/String;"), (2, u "ordinal"), (0, u "I"), (1, .class_ 14), (1, u "java/lang/Object"), (4, u "hash"), (86, .class_ 108), (1, u "java/lang/Enum$EnumDesc"), (2, .class_ 112), (0, u "java/lang/constant/Constable"), (0, .class_ 114), (0, u "java/lang/Comparable"), (0, .class_ 116), (0, u "java/io/Serializable")] 87

/-- java/lang/Enum -/
def k12 : Class := { plain "java/lang/Enum" (some 0) with
  accessFlags := 1057
  interfaces := #[5, 3, 2]
  cf := some (fileOf pool12 2 #[.nestMembers #[106]] #[] 1057 12 #[111, 113, 115] #[{ accessFlags := 18, nameIndex := 5, descriptorIndex := 6, attributes := #[] }, { accessFlags := 18, nameIndex := 9, descriptorIndex := 10, attributes := #[] }, { accessFlags := 2, nameIndex := 19, descriptorIndex := 10, attributes := #[] }])
  fields := #[{ name := "name", type := (.object "java/lang/String"), accessFlags := 18, slot := 0, constantValue := 0 }, { name := "ordinal", type := .int, accessFlags := 18, slot := 1, constantValue := 0 }, { name := "hash", type := .int, accessFlags := 2, slot := 2, constantValue := 0 }]
  methods := #[]
  instanceTypes := #[(.object "java/lang/String"), .int, .int]
  staticTypes := #[]
  resolved := Array.replicate 204 none
  statics := none }

def pool13 : Array CpInfo := pool [(1, .class_ 2), (0, u "com/example/tally3/tally3/plan/PlanKind"), (2, u "METERING"), (0, u "Lcom/example/tally3/tally3/plan/PlanKind;"), (2, u "RATING"), (2, u "PRICING"), (0, .fieldref 1 14), (0, .nameAndType 15 16), (0, u "$VALUES"), (0, u "[Lcom/example/tally3/tally3/plan/PlanKind;"), (0, .methodref 18 19), (0, .class_ 16), (0, .nameAndType 20 21), (0, u "clone"), (0, u "()Ljava/lang/Object;"), (1, .class_ 25), (1, u "java/lang/Enum"), (6, .fieldref 1 33), (0, .nameAndType 34 35), (0, u "apiName"), (0, u "Ljava/lang/String;"), (2, u "formulas"), (0, u "Ljava/util/List;"), (0, .methodref 1 41), (0, .nameAndType 42 43), (0, u "values"), (0, u "()[Lcom/example/tally3/tally3/plan/PlanKind;"), (0, .methodref 45 46), (0, .class_ 47), (0, .nameAndType 48 49), (0, u "java/lang/String"), (0, u "equals"), (0, u "(Ljava/lang/Object;)Z"), (0, .methodref 51 52), (0, .class_ 53), (0, .nameAndType 54 55), (0, u "java/util/Optional"), (0, u "of"), (0, u "(Ljava/lang/Object;)Ljava/util/Optional;"), (0, .methodref 51 57), (0, .nameAndType 58 59), (0, u "empty"), (0, u "()Ljava/util/Optional;"), (46, u "ofApiName"), (0, u "(Ljava/lang/String;)Ljava/util/Optional;")] 8

def k13c0 : Code := { maxStack := 1, maxLocals := 0, code := prog_29_method_1_code, exceptionTable := #[], attributes := #[] }
def k13m0 : Method := { name := "values", desc := "()[Lcom/example/tally3/tally3/plan/PlanKind;", sig := { parameters := [], returnType := some (.array (.object "com/example/tally3/tally3/plan/PlanKind")) }, accessFlags := 9, code := some k13c0 }
def k13c1 : Code := { maxStack := 2, maxLocals := 5, code := prog_29_method_5_code, exceptionTable := #[], attributes := #[] }
def k13m1 : Method := { name := "ofApiName", desc := "(Ljava/lang/String;)Ljava/util/Optional;", sig := { parameters := [(.object "java/lang/String")], returnType := some (.object "java/util/Optional") }, accessFlags := 9, code := some k13c1 }
/-- com/example/tally3/tally3/plan/PlanKind -/
def k13 : Class := { plain "com/example/tally3/tally3/plan/PlanKind" (some 12) with
  accessFlags := 16433
  interfaces := #[]
  cf := some (fileOf pool13 1 #[] #[{ accessFlags := 9, nameIndex := 42, descriptorIndex := 43, attributes := #[] }, { accessFlags := 9, nameIndex := 106, descriptorIndex := 107, attributes := #[] }] 16433 23 #[] #[{ accessFlags := 16409, nameIndex := 5, descriptorIndex := 6, attributes := #[] }, { accessFlags := 16409, nameIndex := 9, descriptorIndex := 6, attributes := #[] }, { accessFlags := 16409, nameIndex := 12, descriptorIndex := 6, attributes := #[] }, { accessFlags := 18, nameIndex := 34, descriptorIndex := 35, attributes := #[] }, { accessFlags := 18, nameIndex := 38, descriptorIndex := 39, attributes := #[] }, { accessFlags := 4122, nameIndex := 15, descriptorIndex := 16, attributes := #[] }])
  fields := #[{ name := "METERING", type := (.object "com/example/tally3/tally3/plan/PlanKind"), accessFlags := 16409, slot := 0, constantValue := 0 }, { name := "RATING", type := (.object "com/example/tally3/tally3/plan/PlanKind"), accessFlags := 16409, slot := 1, constantValue := 0 }, { name := "PRICING", type := (.object "com/example/tally3/tally3/plan/PlanKind"), accessFlags := 16409, slot := 2, constantValue := 0 }, { name := "apiName", type := (.object "java/lang/String"), accessFlags := 18, slot := 3, constantValue := 0 }, { name := "formulas", type := (.object "java/util/List"), accessFlags := 18, slot := 4, constantValue := 0 }, { name := "$VALUES", type := (.array (.object "com/example/tally3/tally3/plan/PlanKind")), accessFlags := 4122, slot := 3, constantValue := 0 }]
  methods := #[k13m0, k13m1]
  instanceTypes := #[(.object "java/lang/String"), .int, .int, (.object "java/lang/String"), (.object "java/util/List")]
  staticTypes := #[(.object "com/example/tally3/tally3/plan/PlanKind"), (.object "com/example/tally3/tally3/plan/PlanKind"), (.object "com/example/tally3/tally3/plan/PlanKind"), (.array (.object "com/example/tally3/tally3/plan/PlanKind"))]
  resolved := Array.replicate 116 none
  statics := some 2 }

def pool14 : Array CpInfo := pool [(1, .class_ 2), (0, u "java/lang/Cloneable"), (0, .class_ 4), (0, u "java/lang/Object")] 2

/-- java/lang/Cloneable -/
def k14 : Class := { plain "java/lang/Cloneable" (some 0) with
  accessFlags := 1537
  interfaces := #[]
  cf := some (fileOf pool14 1 #[] #[] 1537 3 #[] #[])
  fields := #[]
  methods := #[]
  instanceTypes := #[]
  staticTypes := #[]
  resolved := Array.replicate 7 none
  statics := none }

def pool15 : Array CpInfo := pool [(1, .fieldref 2 3), (0, .class_ 4), (0, .nameAndType 5 6), (0, u "java/util/Optional"), (0, u "EMPTY"), (0, u "Ljava/util/Optional;"), (0, .methodref 8 9), (0, .class_ 10), (0, .nameAndType 11 12), (0, u "java/lang/Object"), (0, u "<init>"), (0, u "()V"), (0, .fieldref 2 14), (0, .nameAndType 15 16), (0, u "value"), (0, u "Ljava/lang/Object;"), (0, .methodref 18 19), (0, .class_ 20), (0, .nameAndType 21 22), (0, u "java/util/Objects"), (0, u "requireNonNull"), (0, u "(Ljava/lang/Object;)Ljava/lang/Object;"), (0, .methodref 2 24), (0, .nameAndType 11 25), (0, u "(Ljava/lang/Object;)V"), (20, u "()Z"), (8, u "empty"), (0, u "()Ljava/util/Optional;"), (8, u "(Ljava/lang/Object;)Ljava/util/Optional;"), (2, u "isPresent"), (4, u "get"), (0, u "()Ljava/lang/Object;"), (7, u "of")] 104

def k15c0 : Code := { maxStack := 1, maxLocals := 1, code := jdk_32_method_1_code, exceptionTable := #[], attributes := #[] }
def k15m0 : Method := { name := "empty", desc := "()Ljava/util/Optional;", sig := { parameters := [], returnType := some (.object "java/util/Optional") }, accessFlags := 9, code := some k15c0 }
def k15c1 : Code := { maxStack := 2, maxLocals := 2, code := jdk_32_method_2_code, exceptionTable := #[], attributes := #[] }
def k15m1 : Method := { name := "<init>", desc := "(Ljava/lang/Object;)V", sig := { parameters := [(.object "java/lang/Object")], returnType := none }, accessFlags := 2, code := some k15c1 }
def k15c2 : Code := { maxStack := 3, maxLocals := 1, code := jdk_32_method_3_code, exceptionTable := #[], attributes := #[] }
def k15m2 : Method := { name := "of", desc := "(Ljava/lang/Object;)Ljava/util/Optional;", sig := { parameters := [(.object "java/lang/Object")], returnType := some (.object "java/util/Optional") }, accessFlags := 9, code := some k15c2 }
def k15c3 : Code := { maxStack := 3, maxLocals := 1, code := jdk_32_method_5_code, exceptionTable := #[], attributes := #[] }
def k15m3 : Method := { name := "get", desc := "()Ljava/lang/Object;", sig := { parameters := [], returnType := some (.object "java/lang/Object") }, accessFlags := 1, code := some k15c3 }
def k15c4 : Code := { maxStack := 1, maxLocals := 1, code := jdk_32_method_6_code, exceptionTable := #[], attributes := #[] }
def k15m4 : Method := { name := "isPresent", desc := "()Z", sig := { parameters := [], returnType := some .boolean }, accessFlags := 1, code := some k15c4 }
/-- java/util/Optional -/
def k15 : Class := { plain "java/util/Optional" (some 0) with
  accessFlags := 49
  interfaces := #[]
  cf := some (fileOf pool15 2 #[] #[{ accessFlags := 9, nameIndex := 55, descriptorIndex := 56, attributes := #[] }, { accessFlags := 2, nameIndex := 11, descriptorIndex := 25, attributes := #[] }, { accessFlags := 9, nameIndex := 82, descriptorIndex := 65, attributes := #[] }, { accessFlags := 1, nameIndex := 73, descriptorIndex := 74, attributes := #[] }, { accessFlags := 1, nameIndex := 68, descriptorIndex := 46, attributes := #[] }] 49 8 #[] #[{ accessFlags := 26, nameIndex := 5, descriptorIndex := 6, attributes := #[] }, { accessFlags := 18, nameIndex := 15, descriptorIndex := 16, attributes := #[] }])
  fields := #[{ name := "EMPTY", type := (.object "java/util/Optional"), accessFlags := 26, slot := 0, constantValue := 0 }, { name := "value", type := (.object "java/lang/Object"), accessFlags := 18, slot := 0, constantValue := 0 }]
  methods := #[k15m0, k15m1, k15m2, k15m3, k15m4]
  instanceTypes := #[(.object "java/lang/Object")]
  staticTypes := #[(.object "java/util/Optional")]
  resolved := Array.replicate 187 none
  statics := some 3 }

def pool16 : Array CpInfo := pool [(2, .class_ 4), (1, u "java/lang/Object"), (0, u "<init>"), (0, u "()V"), (35, .class_ 44), (1, u "java/util/Objects"), (0, u "requireNonNull"), (0, u "(Ljava/lang/Object;)Ljava/lang/Object;")] 137

def k16m0 : Method := { name := "<init>", desc := "()V", sig := { parameters := [], returnType := none }, accessFlags := 2, code := none }
def k16c1 : Code := { maxStack := 2, maxLocals := 1, code := jdk_31_method_10_code, exceptionTable := #[], attributes := #[] }
def k16m1 : Method := { name := "requireNonNull", desc := "(Ljava/lang/Object;)Ljava/lang/Object;", sig := { parameters := [(.object "java/lang/Object")], returnType := some (.object "java/lang/Object") }, accessFlags := 9, code := some k16c1 }
/-- java/util/Objects -/
def k16 : Class := { plain "java/util/Objects" (some 0) with
  accessFlags := 49
  interfaces := #[]
  cf := some (fileOf pool16 42 #[] #[{ accessFlags := 2, nameIndex := 5, descriptorIndex := 6, attributes := #[] }, { accessFlags := 9, nameIndex := 45, descriptorIndex := 46, attributes := #[] }] 49 2 #[] #[])
  fields := #[]
  methods := #[k16m0, k16m1]
  instanceTypes := #[]
  staticTypes := #[]
  resolved := Array.replicate 184 none
  statics := none }

def pool17 : Array CpInfo := pool [(9, u "<init>"), (6, .class_ 18), (1, u "java/lang/Object"), (0, u "()V"), (1, .class_ 23), (1, u "jdk/internal/util/ArraysSupport"), (0, u "LOG2_ARRAY_LONG_INDEX_SCALE"), (0, u "I"), (2, u "U"), (0, u "Ljdk/internal/misc/Unsafe;"), (8, u "BIG_ENDIAN"), (0, u "Z"), (8, u "LOG2_BYTE_BIT_SIZE"), (4, u "LOG2_ARRAY_INT_INDEX_SCALE"), (54, u "JLA"), (0, u "Ljdk/internal/access/JavaLangAccess;"), (11, u "LOG2_ARRAY_BOOLEAN_INDEX_SCALE"), (9, u "LOG2_ARRAY_BYTE_INDEX_SCALE"), (5, u "LOG2_ARRAY_CHAR_INDEX_SCALE"), (5, u "LOG2_ARRAY_SHORT_INDEX_SCALE"), (18, u "LOG2_ARRAY_FLOAT_INDEX_SCALE"), (24, u "LOG2_ARRAY_DOUBLE_INDEX_SCALE"), (89, u "T_BOOLEAN"), (2, u "T_CHAR"), (1, u "T_FLOAT"), (1, u "T_DOUBLE"), (1, u "T_BYTE"), (1, u "T_SHORT"), (1, u "T_INT"), (1, u "T_LONG"), (1, u "SOFT_MAX_ARRAY_LENGTH")] 83

def k17m0 : Method := { name := "<init>", desc := "()V", sig := { parameters := [], returnType := none }, accessFlags := 2, code := none }
/-- jdk/internal/util/ArraysSupport -/
def k17 : Class := { plain "jdk/internal/util/ArraysSupport" (some 0) with
  accessFlags := 33
  interfaces := #[]
  cf := some (fileOf pool17 21 #[] #[{ accessFlags := 2, nameIndex := 9, descriptorIndex := 19, attributes := #[] }] 33 16 #[] #[{ accessFlags := 24, nameIndex := 28, descriptorIndex := 29, attributes := #[] }, { accessFlags := 26, nameIndex := 38, descriptorIndex := 39, attributes := #[] }, { accessFlags := 25, nameIndex := 121, descriptorIndex := 25, attributes := #[] }, { accessFlags := 25, nameIndex := 131, descriptorIndex := 25, attributes := #[] }, { accessFlags := 25, nameIndex := 137, descriptorIndex := 25, attributes := #[] }, { accessFlags := 25, nameIndex := 143, descriptorIndex := 25, attributes := #[] }, { accessFlags := 25, nameIndex := 53, descriptorIndex := 25, attributes := #[] }, { accessFlags := 25, nameIndex := 24, descriptorIndex := 25, attributes := #[] }, { accessFlags := 25, nameIndex := 162, descriptorIndex := 25, attributes := #[] }, { accessFlags := 25, nameIndex := 187, descriptorIndex := 25, attributes := #[] }, { accessFlags := 26, nameIndex := 48, descriptorIndex := 25, attributes := #[] }, { accessFlags := 25, nameIndex := 277, descriptorIndex := 25, attributes := #[] }, { accessFlags := 25, nameIndex := 280, descriptorIndex := 25, attributes := #[] }, { accessFlags := 25, nameIndex := 282, descriptorIndex := 25, attributes := #[] }, { accessFlags := 25, nameIndex := 284, descriptorIndex := 25, attributes := #[] }, { accessFlags := 25, nameIndex := 286, descriptorIndex := 25, attributes := #[] }, { accessFlags := 25, nameIndex := 288, descriptorIndex := 25, attributes := #[] }, { accessFlags := 25, nameIndex := 290, descriptorIndex := 25, attributes := #[] }, { accessFlags := 25, nameIndex := 292, descriptorIndex := 25, attributes := #[] }, { accessFlags := 26, nameIndex := 108, descriptorIndex := 109, attributes := #[] }, { accessFlags := 25, nameIndex := 294, descriptorIndex := 25, attributes := #[] }])
  fields := #[{ name := "U", type := (.object "jdk/internal/misc/Unsafe"), accessFlags := 24, slot := 0, constantValue := 0 }, { name := "BIG_ENDIAN", type := .boolean, accessFlags := 26, slot := 1, constantValue := 0 }, { name := "LOG2_ARRAY_BOOLEAN_INDEX_SCALE", type := .int, accessFlags := 25, slot := 2, constantValue := 0 }, { name := "LOG2_ARRAY_BYTE_INDEX_SCALE", type := .int, accessFlags := 25, slot := 3, constantValue := 0 }, { name := "LOG2_ARRAY_CHAR_INDEX_SCALE", type := .int, accessFlags := 25, slot := 4, constantValue := 0 }, { name := "LOG2_ARRAY_SHORT_INDEX_SCALE", type := .int, accessFlags := 25, slot := 5, constantValue := 0 }, { name := "LOG2_ARRAY_INT_INDEX_SCALE", type := .int, accessFlags := 25, slot := 6, constantValue := 0 }, { name := "LOG2_ARRAY_LONG_INDEX_SCALE", type := .int, accessFlags := 25, slot := 7, constantValue := 0 }, { name := "LOG2_ARRAY_FLOAT_INDEX_SCALE", type := .int, accessFlags := 25, slot := 8, constantValue := 0 }, { name := "LOG2_ARRAY_DOUBLE_INDEX_SCALE", type := .int, accessFlags := 25, slot := 9, constantValue := 0 }, { name := "LOG2_BYTE_BIT_SIZE", type := .int, accessFlags := 26, slot := 10, constantValue := 0 }, { name := "T_BOOLEAN", type := .int, accessFlags := 25, slot := 11, constantValue := 0 }, { name := "T_CHAR", type := .int, accessFlags := 25, slot := 12, constantValue := 0 }, { name := "T_FLOAT", type := .int, accessFlags := 25, slot := 13, constantValue := 0 }, { name := "T_DOUBLE", type := .int, accessFlags := 25, slot := 14, constantValue := 0 }, { name := "T_BYTE", type := .int, accessFlags := 25, slot := 15, constantValue := 0 }, { name := "T_SHORT", type := .int, accessFlags := 25, slot := 16, constantValue := 0 }, { name := "T_INT", type := .int, accessFlags := 25, slot := 17, constantValue := 0 }, { name := "T_LONG", type := .int, accessFlags := 25, slot := 18, constantValue := 0 }, { name := "JLA", type := (.object "jdk/internal/access/JavaLangAccess"), accessFlags := 26, slot := 19, constantValue := 0 }, { name := "SOFT_MAX_ARRAY_LENGTH", type := .int, accessFlags := 25, slot := 20, constantValue := 0 }]
  methods := #[k17m0]
  instanceTypes := #[]
  staticTypes := #[(.object "jdk/internal/misc/Unsafe"), .boolean, .int, .int, .int, .int, .int, .int, .int, .int, .int, .int, .int, .int, .int, .int, .int, .int, .int, (.object "jdk/internal/access/JavaLangAccess"), .int]
  resolved := Array.replicate 378 none
  statics := none }

/-- the primitive byte -/
def k18 : Class := { plain "byte" none with kind := .primitive 'B', accessFlags := 0x411 }
/-- [B -/
def k19 : Class := { plain "[B" (some 0) with kind := .array 18 .byte, interfaces := #[14, 2], accessFlags := 1041 }

/-- the primitive char -/
def k20 : Class := { plain "char" none with kind := .primitive 'C', accessFlags := 0x411 }
/-- [C -/
def k21 : Class := { plain "[C" (some 0) with kind := .array 20 .char, interfaces := #[14, 2], accessFlags := 1041 }

/-- the primitive int -/
def k22 : Class := { plain "int" none with kind := .primitive 'I', accessFlags := 0x411 }
/-- [I -/
def k23 : Class := { plain "[I" (some 0) with kind := .array 22 .int, interfaces := #[14, 2], accessFlags := 1041 }

/-- [Lcom/example/tally3/tally3/plan/PlanKind; -/
def k24 : Class := { plain "[Lcom/example/tally3/tally3/plan/PlanKind;" (some 0) with kind := .array 13 (.object "com/example/tally3/tally3/plan/PlanKind"), interfaces := #[14, 2], accessFlags := 1041 }

def heap : Heap := #[{ cls := 7, slots := #[.long 0, .int 1, .null, .int 0, .null, .int 0, .int 0], vm := .statics 7 },
  { cls := 10, slots := #[.null, .null, .null], vm := .statics 10 },
  { cls := 13, slots := #[.ref 5, .ref 6, .ref 7, .ref 4], vm := .statics 13 },
  { cls := 15, slots := #[.ref 14], vm := .statics 15 },
  { cls := 24, slots := #[.ref 5, .ref 6, .ref 7], vm := .none },
  { cls := 13, slots := #[.null, .int 0, .int 0, .ref 8, .null], vm := .none },
  { cls := 13, slots := #[.null, .int 1, .int 0, .ref 9, .null], vm := .none },
  { cls := 13, slots := #[.null, .int 2, .int 0, .ref 10, .null], vm := .none },
  { cls := 7, slots := #[.ref 11, .int 0, .int 0, .int 0], vm := .none },
  { cls := 7, slots := #[.ref 12, .int 0, .int 0, .int 0], vm := .none },
  { cls := 7, slots := #[.ref 13, .int 0, .int 0, .int 0], vm := .none },
  { cls := 19, slots := #[.int 109, .int 101, .int 116, .int 101, .int 114, .int 105, .int 110, .int 103], vm := .none },
  { cls := 19, slots := #[.int 114, .int 97, .int 116, .int 105, .int 110, .int 103], vm := .none },
  { cls := 19, slots := #[.int 112, .int 114, .int 105, .int 99, .int 105, .int 110, .int 103], vm := .none },
  { cls := 15, slots := #[.null], vm := .none }]
def classes : Array Class := #[k0, k1, k2, k3, k4, k5, k6, k7, k8, k9, k10, k11, k12, k13, k14, k15, k16, k17, k18, k19, k20, k21, k22, k23, k24]
def interned : List (Array UInt16 × Addr) := []
def slotsUsed : Nat := 67
def theMethod : MethodId := ⟨1, 4⟩
def args0 : Array Value := #[.int 5, .int 5, .int 5, .int 5, .long 5]
def aboutOver (below : List Frame) : State where
  vm := { classes := classes, interned := interned.toArray }
  heap := heap
  slotsUsed := slotsUsed
  threads := #[{ frames := .invoking theMethod args0 :: below }]
def below0 : List Frame := [.native { method := ⟨0, 0⟩, args := #[] }]
def about1 : State := aboutOver below0
def p0 : Program := .bare "" "" ""
def e0 : Env := launch0.env 0 0 0
theorem w_frames : about1.frames = Frame.invoking theMethod args0 :: below0 := rfl
set_option maxRecDepth 65536 in
theorem w_args : argsFit about1.vm theMethod args0 = true := by decide +kernel
set_option maxRecDepth 65536 in
theorem w_heap : heapFits about1 = true := by decide +kernel
set_option maxRecDepth 65536 in
theorem w_runnable : about1.curStatus? = some .runnable := by decide +kernel
set_option maxRecDepth 65536 in
theorem w_alone : about1.alone = true := by decide +kernel
set_option maxRecDepth 65536 in
theorem w_named : about1.methodNamed? x = some theMethod := by decide +kernel
set_option maxRecDepth 65536 in
theorem w_hears : about1.hears theMethod below0 = true := by decide +kernel
set_option maxRecDepth 65536 in
theorem w_ripe : about1.ripe theMethod args0 below0 = true := by decide +kernel
theorem w_running : about1.status = .running := rfl
set_option maxRecDepth 65536 in
theorem w_room : about1.hasRoom e0.platform room_1 = true :=
  launch0.hasRoom_least _ room_1 (by decide +kernel) (by decide +kernel) (by decide +kernel) (by decide +kernel) (by decide +kernel) (by decide +kernel)
theorem allAtoms_all (ts : List Jvm.Cond) (a : Array Jvm.Value) (st : Jvm.State) : (allAtoms ts).before a st = ts.all (fun c => c.before a st) := by
  induction ts with
  | nil => rfl
  | cons c t ih =>
    show (Jvm.Cond.and c (allAtoms t)).before a st = _
    rw [Jvm.Cond.before_and, ih, List.all_cons]
def words1 : List Jvm.Cond := Jvm.Cond.code x code maxLocals ret :: tables_1
/-- a 'code' word, met by the world's own term for the bytes: nothing is compared byte by byte -/
theorem code_word {y : MethodName} {bytes : ByteArray} {mx : Nat} {rt : Option FieldType} {a : Array Value} {s : State} {m : MethodId} {meth : Method} {c : Code} (h1 : s.methodNamed? y = some m) (h2 : s.vm.method? m = some meth) (h3 : meth.code = some c) (h4 : c.code = bytes)
    (h5 : (c.maxLocals == mx && c.exceptionTable.isEmpty && decide (c.maxStack ≤ mostOperands) && decide (meth.sig.returnType = rt) && !meth.locks && decide (parseMethodDescriptor y.desc = some meth.sig)) = true) : (Jvm.Cond.code y bytes mx rt).before a s = true := by
  simp only [Bool.and_eq_true, beq_iff_eq, Bool.not_eq_true', decide_eq_true_eq] at h5
  obtain ⟨⟨⟨⟨⟨g1, g2⟩, g3⟩, g4⟩, g5⟩, g6⟩ := h5
  simp [Cond.before, Cond.holds, Cond.value, h1, h2, h3, h4, g1, g2, g3, g4, g5, g6]
def isCode : Jvm.Cond → Bool
  | .code _ _ _ _ => true
  | _ => false
theorem all_split {L : List Jvm.Cond} {P : Jvm.Cond → Bool} (h1 : L.all (fun c => isCode c || P c) = true) (h2 : ∀ c ∈ L.filter isCode, P c = true) : L.all P = true := by
  refine List.all_eq_true.mpr fun c hc => ?_
  have h := List.all_eq_true.mp h1 c hc
  rcases Bool.eq_false_or_eq_true (isCode c) with hi | hi
  · exact h2 c (List.mem_filter.mpr ⟨hc, hi⟩)
  · simpa [hi] using h
set_option maxRecDepth 65536 in
theorem w_c0 : (Jvm.Cond.code x code maxLocals ret).before args0 about1 = true := code_word (m := ⟨1, 4⟩) (meth := k1m4) (c := k1c4) (by decide +kernel) rfl rfl rfl (by decide +kernel)
set_option maxRecDepth 65536 in
theorem w_c1 : (Jvm.Cond.code ({ cls := "java/lang/String", name := "length", desc := "()I" } : Jvm.MethodName) jdk_42_method_54_code (1 : Nat) (Option.some Jvm.ClassFile.FieldType.int)).before args0 about1 = true := code_word (m := ⟨7, 2⟩) (meth := k7m2) (c := k7c2) (by decide +kernel) rfl rfl rfl (by decide +kernel)
set_option maxRecDepth 65536 in
theorem w_c2 : (Jvm.Cond.code ({ cls := "java/lang/String", name := "coder", desc := "()B" } : Jvm.MethodName) jdk_42_method_152_code (1 : Nat) (Option.some Jvm.ClassFile.FieldType.byte)).before args0 about1 = true := code_word (m := ⟨7, 6⟩) (meth := k7m6) (c := k7c6) (by decide +kernel) rfl rfl rfl (by decide +kernel)
set_option maxRecDepth 65536 in
theorem w_c3 : (Jvm.Cond.code ({ cls := "java/lang/Math", name := "max", desc := "(II)I" } : Jvm.MethodName) jdk_29_method_65_code (2 : Nat) (Option.some Jvm.ClassFile.FieldType.int)).before args0 about1 = true := code_word (m := ⟨8, 1⟩) (meth := k8m1) (c := k8c1) (by decide +kernel) rfl rfl rfl (by decide +kernel)
set_option maxRecDepth 65536 in
theorem w_c4 : (Jvm.Cond.code ({ cls := "com/example/tally3/tally3/plan/PlanKindOfApiNamePinLaw", name := "put", desc := "([CILjava/lang/String;ZJI)V" } : Jvm.MethodName) method_3_code (7 : Nat) (Option.none : Option Jvm.ClassFile.FieldType)).before args0 about1 = true := code_word (m := ⟨1, 2⟩) (meth := k1m2) (c := k1c2) (by decide +kernel) rfl rfl rfl (by decide +kernel)
set_option maxRecDepth 65536 in
theorem w_c5 : (Jvm.Cond.code ({ cls := "java/lang/String", name := "charAt", desc := "(I)C" } : Jvm.MethodName) jdk_42_method_56_code (2 : Nat) (Option.some Jvm.ClassFile.FieldType.char)).before args0 about1 = true := code_word (m := ⟨7, 3⟩) (meth := k7m3) (c := k7c3) (by decide +kernel) rfl rfl rfl (by decide +kernel)
set_option maxRecDepth 65536 in
theorem w_c6 : (Jvm.Cond.code ({ cls := "java/lang/String", name := "isLatin1", desc := "()Z" } : Jvm.MethodName) jdk_42_method_154_code (1 : Nat) (Option.some Jvm.ClassFile.FieldType.boolean)).before args0 about1 = true := code_word (m := ⟨7, 7⟩) (meth := k7m7) (c := k7c7) (by decide +kernel) rfl rfl rfl (by decide +kernel)
set_option maxRecDepth 65536 in
theorem w_c7 : (Jvm.Cond.code ({ cls := "java/lang/StringLatin1", name := "charAt", desc := "([BI)C" } : Jvm.MethodName) jdk_43_method_2_code (2 : Nat) (Option.some Jvm.ClassFile.FieldType.char)).before args0 about1 = true := code_word (m := ⟨9, 1⟩) (meth := k9m1) (c := k9c1) (by decide +kernel) rfl rfl rfl (by decide +kernel)
set_option maxRecDepth 65536 in
theorem w_c8 : (Jvm.Cond.code ({ cls := "java/lang/String", name := "checkIndex", desc := "(II)V" } : Jvm.MethodName) jdk_42_method_155_code (2 : Nat) (Option.none : Option Jvm.ClassFile.FieldType)).before args0 about1 = true := code_word (m := ⟨7, 8⟩) (meth := k7m8) (c := k7c8) (by decide +kernel) rfl rfl rfl (by decide +kernel)
set_option maxRecDepth 65536 in
theorem w_c9 : (Jvm.Cond.code ({ cls := "jdk/internal/util/Preconditions", name := "checkIndex", desc := "(IILjava/util/function/BiFunction;)I" } : Jvm.MethodName) jdk_41_method_11_code (3 : Nat) (Option.some Jvm.ClassFile.FieldType.int)).before args0 about1 = true := code_word (m := ⟨10, 1⟩) (meth := k10m1) (c := k10c1) (by decide +kernel) rfl rfl rfl (by decide +kernel)
set_option maxRecDepth 65536 in
theorem w_c10 : (Jvm.Cond.code ({ cls := "com/example/tally3/tally3/plan/PlanKindOfApiNamePinLaw", name := "drawn", desc := "(JII)C" } : Jvm.MethodName) method_2_code (4 : Nat) (Option.some Jvm.ClassFile.FieldType.char)).before args0 about1 = true := code_word (m := ⟨1, 1⟩) (meth := k1m1) (c := k1c1) (by decide +kernel) rfl rfl rfl (by decide +kernel)
set_option maxRecDepth 65536 in
theorem w_c11 : (Jvm.Cond.code ({ cls := "java/lang/String", name := "<init>", desc := "([C)V" } : Jvm.MethodName) jdk_42_method_3_code (2 : Nat) (Option.none : Option Jvm.ClassFile.FieldType)).before args0 about1 = true := code_word (m := ⟨7, 1⟩) (meth := k7m1) (c := k7c1) (by decide +kernel) rfl rfl rfl (by decide +kernel)
set_option maxRecDepth 65536 in
theorem w_c12 : (Jvm.Cond.code ({ cls := "java/lang/String", name := "<init>", desc := "([CIILjava/lang/Void;)V" } : Jvm.MethodName) jdk_42_method_149_code (6 : Nat) (Option.none : Option Jvm.ClassFile.FieldType)).before args0 about1 = true := code_word (m := ⟨7, 5⟩) (meth := k7m5) (c := k7c5) (by decide +kernel) rfl rfl rfl (by decide +kernel)
set_option maxRecDepth 65536 in
theorem w_c13 : (Jvm.Cond.code ({ cls := "java/lang/Object", name := "<init>", desc := "()V" } : Jvm.MethodName) object_method_1_code (1 : Nat) (Option.none : Option Jvm.ClassFile.FieldType)).before args0 about1 = true := code_word (m := ⟨0, 0⟩) (meth := k0m0) (c := k0c0) (by decide +kernel) rfl rfl rfl (by decide +kernel)
set_option maxRecDepth 65536 in
theorem w_c14 : (Jvm.Cond.code ({ cls := "java/lang/StringUTF16", name := "compress", desc := "([CII)[B" } : Jvm.MethodName) jdk_52_method_16_code (6 : Nat) (Option.some (Jvm.ClassFile.FieldType.array Jvm.ClassFile.FieldType.byte))).before args0 about1 = true := code_word (m := ⟨11, 2⟩) (meth := k11m2) (c := k11c2) (by decide +kernel) rfl rfl rfl (by decide +kernel)
set_option maxRecDepth 65536 in
theorem w_c15 : (Jvm.Cond.code ({ cls := "java/lang/StringUTF16", name := "compress", desc := "([CI[BII)I" } : Jvm.MethodName) jdk_52_method_21_code (7 : Nat) (Option.some Jvm.ClassFile.FieldType.int)).before args0 about1 = true := code_word (m := ⟨11, 3⟩) (meth := k11m3) (c := k11c3) (by decide +kernel) rfl rfl rfl (by decide +kernel)
set_option maxRecDepth 65536 in
theorem w_c16 : (Jvm.Cond.code ({ cls := "java/lang/StringUTF16", name := "coderFromArrayLen", desc := "([BI)B" } : Jvm.MethodName) jdk_52_method_15_code (2 : Nat) (Option.some Jvm.ClassFile.FieldType.byte)).before args0 about1 = true := code_word (m := ⟨11, 1⟩) (meth := k11m1) (c := k11c1) (by decide +kernel) rfl rfl rfl (by decide +kernel)
set_option maxRecDepth 65536 in
theorem w_c17 : (Jvm.Cond.code ({ cls := "com/example/tally3/tally3/plan/PlanKind", name := "ofApiName", desc := "(Ljava/lang/String;)Ljava/util/Optional;" } : Jvm.MethodName) prog_29_method_5_code (5 : Nat) (Option.some (Jvm.ClassFile.FieldType.object "java/util/Optional"))).before args0 about1 = true := code_word (m := ⟨13, 1⟩) (meth := k13m1) (c := k13c1) (by decide +kernel) rfl rfl rfl (by decide +kernel)
set_option maxRecDepth 65536 in
theorem w_c18 : (Jvm.Cond.code ({ cls := "com/example/tally3/tally3/plan/PlanKind", name := "values", desc := "()[Lcom/example/tally3/tally3/plan/PlanKind;" } : Jvm.MethodName) prog_29_method_1_code (0 : Nat) (Option.some (Jvm.ClassFile.FieldType.array (Jvm.ClassFile.FieldType.object "com/example/tally3/tally3/plan/PlanKind")))).before args0 about1 = true := code_word (m := ⟨13, 0⟩) (meth := k13m0) (c := k13c0) (by decide +kernel) rfl rfl rfl (by decide +kernel)
set_option maxRecDepth 65536 in
theorem w_c19 : (Jvm.Cond.code ({ cls := "java/lang/String", name := "equals", desc := "(Ljava/lang/Object;)Z" } : Jvm.MethodName) jdk_42_method_66_code (3 : Nat) (Option.some Jvm.ClassFile.FieldType.boolean)).before args0 about1 = true := code_word (m := ⟨7, 4⟩) (meth := k7m4) (c := k7c4) (by decide +kernel) rfl rfl rfl (by decide +kernel)
set_option maxRecDepth 65536 in
theorem w_c20 : (Jvm.Cond.code ({ cls := "java/lang/StringLatin1", name := "equals", desc := "([B[B)Z" } : Jvm.MethodName) jdk_43_method_13_code (3 : Nat) (Option.some Jvm.ClassFile.FieldType.boolean)).before args0 about1 = true := code_word (m := ⟨9, 2⟩) (meth := k9m2) (c := k9c2) (by decide +kernel) rfl rfl rfl (by decide +kernel)
set_option maxRecDepth 65536 in
theorem w_c21 : (Jvm.Cond.code ({ cls := "java/util/Optional", name := "empty", desc := "()Ljava/util/Optional;" } : Jvm.MethodName) jdk_32_method_1_code (1 : Nat) (Option.some (Jvm.ClassFile.FieldType.object "java/util/Optional"))).before args0 about1 = true := code_word (m := ⟨15, 0⟩) (meth := k15m0) (c := k15c0) (by decide +kernel) rfl rfl rfl (by decide +kernel)
set_option maxRecDepth 65536 in
theorem w_c22 : (Jvm.Cond.code ({ cls := "com/example/tally3/tally3/plan/PlanKindOfApiNamePinLaw", name := "expected", desc := "(Ljava/lang/String;)Lcom/example/tally3/tally3/plan/PlanKind;" } : Jvm.MethodName) method_4_code (1 : Nat) (Option.some (Jvm.ClassFile.FieldType.object "com/example/tally3/tally3/plan/PlanKind"))).before args0 about1 = true := code_word (m := ⟨1, 3⟩) (meth := k1m3) (c := k1c3) (by decide +kernel) rfl rfl rfl (by decide +kernel)
set_option maxRecDepth 65536 in
theorem w_c23 : (Jvm.Cond.code ({ cls := "java/util/Optional", name := "isPresent", desc := "()Z" } : Jvm.MethodName) jdk_32_method_6_code (1 : Nat) (Option.some Jvm.ClassFile.FieldType.boolean)).before args0 about1 = true := code_word (m := ⟨15, 4⟩) (meth := k15m4) (c := k15c4) (by decide +kernel) rfl rfl rfl (by decide +kernel)
set_option maxRecDepth 65536 in
theorem w_c24 : (Jvm.Cond.code ({ cls := "java/util/Optional", name := "of", desc := "(Ljava/lang/Object;)Ljava/util/Optional;" } : Jvm.MethodName) jdk_32_method_3_code (1 : Nat) (Option.some (Jvm.ClassFile.FieldType.object "java/util/Optional"))).before args0 about1 = true := code_word (m := ⟨15, 2⟩) (meth := k15m2) (c := k15c2) (by decide +kernel) rfl rfl rfl (by decide +kernel)
set_option maxRecDepth 65536 in
theorem w_c25 : (Jvm.Cond.code ({ cls := "java/util/Objects", name := "requireNonNull", desc := "(Ljava/lang/Object;)Ljava/lang/Object;" } : Jvm.MethodName) jdk_31_method_10_code (1 : Nat) (Option.some (Jvm.ClassFile.FieldType.object "java/lang/Object"))).before args0 about1 = true := code_word (m := ⟨16, 1⟩) (meth := k16m1) (c := k16c1) (by decide +kernel) rfl rfl rfl (by decide +kernel)
set_option maxRecDepth 65536 in
theorem w_c26 : (Jvm.Cond.code ({ cls := "java/util/Optional", name := "<init>", desc := "(Ljava/lang/Object;)V" } : Jvm.MethodName) jdk_32_method_2_code (2 : Nat) (Option.none : Option Jvm.ClassFile.FieldType)).before args0 about1 = true := code_word (m := ⟨15, 1⟩) (meth := k15m1) (c := k15c1) (by decide +kernel) rfl rfl rfl (by decide +kernel)
set_option maxRecDepth 65536 in
theorem w_c27 : (Jvm.Cond.code ({ cls := "java/util/Optional", name := "get", desc := "()Ljava/lang/Object;" } : Jvm.MethodName) jdk_32_method_5_code (1 : Nat) (Option.some (Jvm.ClassFile.FieldType.object "java/lang/Object"))).before args0 about1 = true := code_word (m := ⟨15, 3⟩) (meth := k15m3) (c := k15c3) (by decide +kernel) rfl rfl rfl (by decide +kernel)
def codes1 : List Jvm.Cond := [Jvm.Cond.code x code maxLocals ret, Jvm.Cond.code ({ cls := "java/lang/String", name := "length", desc := "()I" } : Jvm.MethodName) jdk_42_method_54_code (1 : Nat) (Option.some Jvm.ClassFile.FieldType.int), Jvm.Cond.code ({ cls := "java/lang/String", name := "coder", desc := "()B" } : Jvm.MethodName) jdk_42_method_152_code (1 : Nat) (Option.some Jvm.ClassFile.FieldType.byte), Jvm.Cond.code ({ cls := "java/lang/Math", name := "max", desc := "(II)I" } : Jvm.MethodName) jdk_29_method_65_code (2 : Nat) (Option.some Jvm.ClassFile.FieldType.int), Jvm.Cond.code ({ cls := "com/example/tally3/tally3/plan/PlanKindOfApiNamePinLaw", name := "put", desc := "([CILjava/lang/String;ZJI)V" } : Jvm.MethodName) method_3_code (7 : Nat) (Option.none : Option Jvm.ClassFile.FieldType), Jvm.Cond.code ({ cls := "java/lang/String", name := "charAt", desc := "(I)C" } : Jvm.MethodName) jdk_42_method_56_code (2 : Nat) (Option.some Jvm.ClassFile.FieldType.char), Jvm.Cond.code ({ cls := "java/lang/String", name := "isLatin1", desc := "()Z" } : Jvm.MethodName) jdk_42_method_154_code (1 : Nat) (Option.some Jvm.ClassFile.FieldType.boolean), Jvm.Cond.code ({ cls := "java/lang/StringLatin1", name := "charAt", desc := "([BI)C" } : Jvm.MethodName) jdk_43_method_2_code (2 : Nat) (Option.some Jvm.ClassFile.FieldType.char), Jvm.Cond.code ({ cls := "java/lang/String", name := "checkIndex", desc := "(II)V" } : Jvm.MethodName) jdk_42_method_155_code (2 : Nat) (Option.none : Option Jvm.ClassFile.FieldType), Jvm.Cond.code ({ cls := "jdk/internal/util/Preconditions", name := "checkIndex", desc := "(IILjava/util/function/BiFunction;)I" } : Jvm.MethodName) jdk_41_method_11_code (3 : Nat) (Option.some Jvm.ClassFile.FieldType.int), Jvm.Cond.code ({ cls := "com/example/tally3/tally3/plan/PlanKindOfApiNamePinLaw", name := "drawn", desc := "(JII)C" } : Jvm.MethodName) method_2_code (4 : Nat) (Option.some Jvm.ClassFile.FieldType.char), Jvm.Cond.code ({ cls := "java/lang/String", name := "<init>", desc := "([C)V" } : Jvm.MethodName) jdk_42_method_3_code (2 : Nat) (Option.none : Option Jvm.ClassFile.FieldType), Jvm.Cond.code ({ cls := "java/lang/String", name := "<init>", desc := "([CIILjava/lang/Void;)V" } : Jvm.MethodName) jdk_42_method_149_code (6 : Nat) (Option.none : Option Jvm.ClassFile.FieldType), Jvm.Cond.code ({ cls := "java/lang/Object", name := "<init>", desc := "()V" } : Jvm.MethodName) object_method_1_code (1 : Nat) (Option.none : Option Jvm.ClassFile.FieldType), Jvm.Cond.code ({ cls := "java/lang/StringUTF16", name := "compress", desc := "([CII)[B" } : Jvm.MethodName) jdk_52_method_16_code (6 : Nat) (Option.some (Jvm.ClassFile.FieldType.array Jvm.ClassFile.FieldType.byte)), Jvm.Cond.code ({ cls := "java/lang/StringUTF16", name := "compress", desc := "([CI[BII)I" } : Jvm.MethodName) jdk_52_method_21_code (7 : Nat) (Option.some Jvm.ClassFile.FieldType.int), Jvm.Cond.code ({ cls := "java/lang/StringUTF16", name := "coderFromArrayLen", desc := "([BI)B" } : Jvm.MethodName) jdk_52_method_15_code (2 : Nat) (Option.some Jvm.ClassFile.FieldType.byte), Jvm.Cond.code ({ cls := "com/example/tally3/tally3/plan/PlanKind", name := "ofApiName", desc := "(Ljava/lang/String;)Ljava/util/Optional;" } : Jvm.MethodName) prog_29_method_5_code (5 : Nat) (Option.some (Jvm.ClassFile.FieldType.object "java/util/Optional")), Jvm.Cond.code ({ cls := "com/example/tally3/tally3/plan/PlanKind", name := "values", desc := "()[Lcom/example/tally3/tally3/plan/PlanKind;" } : Jvm.MethodName) prog_29_method_1_code (0 : Nat) (Option.some (Jvm.ClassFile.FieldType.array (Jvm.ClassFile.FieldType.object "com/example/tally3/tally3/plan/PlanKind"))), Jvm.Cond.code ({ cls := "java/lang/String", name := "equals", desc := "(Ljava/lang/Object;)Z" } : Jvm.MethodName) jdk_42_method_66_code (3 : Nat) (Option.some Jvm.ClassFile.FieldType.boolean), Jvm.Cond.code ({ cls := "java/lang/StringLatin1", name := "equals", desc := "([B[B)Z" } : Jvm.MethodName) jdk_43_method_13_code (3 : Nat) (Option.some Jvm.ClassFile.FieldType.boolean), Jvm.Cond.code ({ cls := "java/util/Optional", name := "empty", desc := "()Ljava/util/Optional;" } : Jvm.MethodName) jdk_32_method_1_code (1 : Nat) (Option.some (Jvm.ClassFile.FieldType.object "java/util/Optional")), Jvm.Cond.code ({ cls := "com/example/tally3/tally3/plan/PlanKindOfApiNamePinLaw", name := "expected", desc := "(Ljava/lang/String;)Lcom/example/tally3/tally3/plan/PlanKind;" } : Jvm.MethodName) method_4_code (1 : Nat) (Option.some (Jvm.ClassFile.FieldType.object "com/example/tally3/tally3/plan/PlanKind")), Jvm.Cond.code ({ cls := "java/util/Optional", name := "isPresent", desc := "()Z" } : Jvm.MethodName) jdk_32_method_6_code (1 : Nat) (Option.some Jvm.ClassFile.FieldType.boolean), Jvm.Cond.code ({ cls := "java/util/Optional", name := "of", desc := "(Ljava/lang/Object;)Ljava/util/Optional;" } : Jvm.MethodName) jdk_32_method_3_code (1 : Nat) (Option.some (Jvm.ClassFile.FieldType.object "java/util/Optional")), Jvm.Cond.code ({ cls := "java/util/Objects", name := "requireNonNull", desc := "(Ljava/lang/Object;)Ljava/lang/Object;" } : Jvm.MethodName) jdk_31_method_10_code (1 : Nat) (Option.some (Jvm.ClassFile.FieldType.object "java/lang/Object")), Jvm.Cond.code ({ cls := "java/util/Optional", name := "<init>", desc := "(Ljava/lang/Object;)V" } : Jvm.MethodName) jdk_32_method_2_code (2 : Nat) (Option.none : Option Jvm.ClassFile.FieldType), Jvm.Cond.code ({ cls := "java/util/Optional", name := "get", desc := "()Ljava/lang/Object;" } : Jvm.MethodName) jdk_32_method_5_code (1 : Nat) (Option.some (Jvm.ClassFile.FieldType.object "java/lang/Object"))]
set_option maxRecDepth 65536 in
theorem codes_eq : words1.filter isCode = codes1 := rfl
theorem w_codes : ∀ c ∈ words1.filter isCode, c.before args0 about1 = true := by
  rw [codes_eq]
  intro c hc
  simp only [codes1, List.mem_cons, List.not_mem_nil, or_false] at hc
  rcases hc with rfl | rfl | rfl | rfl | rfl | rfl | rfl | rfl | rfl | rfl | rfl | rfl | rfl | rfl | rfl | rfl | rfl | rfl | rfl | rfl | rfl | rfl | rfl | rfl | rfl | rfl | rfl | rfl
  · exact w_c0
  · exact w_c1
  · exact w_c2
  · exact w_c3
  · exact w_c4
  · exact w_c5
  · exact w_c6
  · exact w_c7
  · exact w_c8
  · exact w_c9
  · exact w_c10
  · exact w_c11
  · exact w_c12
  · exact w_c13
  · exact w_c14
  · exact w_c15
  · exact w_c16
  · exact w_c17
  · exact w_c18
  · exact w_c19
  · exact w_c20
  · exact w_c21
  · exact w_c22
  · exact w_c23
  · exact w_c24
  · exact w_c25
  · exact w_c26
  · exact w_c27
set_option maxRecDepth 65536 in
theorem w_t1 : (words1.take 24).all (fun c => isCode c || c.before args0 about1) = true := by decide +kernel
set_option maxRecDepth 65536 in
theorem w_t2 : ((words1.drop 24).take 24).all (fun c => isCode c || c.before args0 about1) = true := by decide +kernel
set_option maxRecDepth 65536 in
theorem w_t3 : (((words1.drop 24).drop 24).take 24).all (fun c => isCode c || c.before args0 about1) = true := by decide +kernel
set_option maxRecDepth 65536 in
theorem w_t4 : ((((words1.drop 24).drop 24).drop 24).take 24).all (fun c => isCode c || c.before args0 about1) = true := by decide +kernel
set_option maxRecDepth 65536 in
theorem w_t5 : (((((words1.drop 24).drop 24).drop 24).drop 24).take 24).all (fun c => isCode c || c.before args0 about1) = true := by decide +kernel
set_option maxRecDepth 65536 in
theorem w_t6 : ((((((words1.drop 24).drop 24).drop 24).drop 24).drop 24).take 24).all (fun c => isCode c || c.before args0 about1) = true := by decide +kernel
set_option maxRecDepth 65536 in
theorem w_t7 : ((((((words1.drop 24).drop 24).drop 24).drop 24).drop 24).drop 24).all (fun c => isCode c || c.before args0 about1) = true := by decide +kernel
theorem w_tables : (allAtoms (Jvm.Cond.code x code maxLocals ret :: tables_1)).before args0 about1 = true := by
  rw [allAtoms_all]
  show words1.all (fun c => c.before args0 about1) = true
  refine all_split ?_ w_codes
  rw [← List.take_append_drop 24 words1, List.all_append, w_t1, ← List.take_append_drop 24 (words1.drop 24), List.all_append, w_t2, ← List.take_append_drop 24 ((words1.drop 24).drop 24), List.all_append, w_t3, ← List.take_append_drop 24 (((words1.drop 24).drop 24).drop 24), List.all_append, w_t4, ← List.take_append_drop 24 ((((words1.drop 24).drop 24).drop 24).drop 24), List.all_append, w_t5, ← List.take_append_drop 24 (((((words1.drop 24).drop 24).drop 24).drop 24).drop 24), List.all_append, w_t6, w_t7]
  rfl
set_option maxRecDepth 65536 in
theorem w_rest : rest_1_c.before args0 about1 = true := by decide +kernel
set_option maxRecDepth 65536 in
theorem w_case : (Jvm.Cond.and given_1 narrow_1).before args0 about1 = true := by decide +kernel
set_option maxRecDepth 65536 in
theorem w_consts : constsHeld consts_1 about1 := Jvm.Lit.constsHeldB_iff.mp (by decide +kernel)
theorem w_applies : (headSpec (Jvm.Cond.code x code maxLocals ret :: tables_1) room_1).applies x e0.platform about1 = true :=
  (Spec.applies_iff w_frames).mpr ⟨w_running, w_runnable, w_alone, w_named, w_hears, w_ripe, w_room, w_tables⟩
theorem atStart : AtStart classFile x code maxLocals ret World_1 tables_1 room_1 Calls_1 rest_1 Pre_1 launch0 p0 e0 about1 theMethod args0 below0 :=
  ⟨lists_1, trivial, launch0.admits_env _ _ _, launch0.least_env, fairChoices_fair.cas, fairChoices_fair.clock, w_frames, w_args, w_heap, w_applies, ⟨w_consts, trivial⟩, w_rest, w_case⟩
end start1
theorem witness_1 : WitnessClaimed_1 := ⟨start1.p0, start1.e0, start1.about1, start1.theMethod, start1.args0, start1.below0, start1.atStart⟩
end Jvm.Pilot.@@N@@
