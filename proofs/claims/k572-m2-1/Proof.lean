import JvmDerived
import JvmDerived.Pilot.@@N@@Statement
import JvmDerived.Pilot.@@N@@Code
set_option linter.unusedVariables false
set_option linter.unusedSimpArgs false
namespace Jvm.Own
open Sem ClassFile Op Lib Bundle Jvm.Stand Jvm.Free Jvm.LawKit Jvm.RoadKit
/-- from this frame the walk ends, and ends well -/
def Go (p : Program) (e : Env) (below : List Frame) (Q : Outcome → State → Prop) (T : State) (g : JFrame) : Prop :=
  ∃ s₂ o, Steps p.tables e below (T.setTop g) s₂ ∧ s₂.status = .running ∧ Ended s₂ below o ∧ Q o s₂
/-- where a walk stands; the tables at hand are hidden -/
def Cx (p : Program) (l : Launch) (e : Env) (R : Room) (s : State) (m : MethodId) (args : Array Value) (below : List Frame) (meth : Method) (c : Code)
    (Z : State) (EL : List (String × Nat)) (kn : Prop) (y : MethodName) (bytes : ByteArray) (maxL : Nat) (ret : Option FieldType)
    (ws : List Addr) (T : State) (h : Heap) (k n : Nat) : Prop :=
  (p.tables.exec = Jvm.exec ∧ c.code = bytes ∧ c.maxLocals = maxL ∧ meth.sig.returnType = ret ∧ meth.locks = false ∧ meth.name = y.name) ∧
  ∃ (vm0 : Vm) (k0 : Nat) (locs : List Loc), Stand p l e R (s.setVm vm0) m args below meth c T locs k n ∧ T.heap = h ∧ Z.Warmed39 vm0 ∧ vm0.findClass y.cls = some m.cls ∧ s.Since vm0 k0 ∧ k0 ≤ h.size ∧
    Fr Z.heap.size locs ∧ CHr Z EL s.vm s.heap vm0 h ∧ (∀ x ∈ ws, Safe Z EL vm0 h x ∧ x < h.size) ∧ Ext Z.heap h ∧ (kn → vm0.MethodsKnown ∧ vm0.FramesKnown below)
section Own
variable {p : Program} {l : Launch} {e : Env} {R : Room} {s : State} {m : MethodId} {args : Array Value} {below : List Frame} {meth : Method} {c : Code} {Z : State} {a0 : Array Value} {EL : List (String × Nat)} {kn : Prop} {y : MethodName} {bytes : ByteArray} {maxL : Nat} {ret : Option FieldType}
  {ws : List Addr} {T T' : State} {h h' : Heap} {k n : Nat} {Q : Outcome → State → Prop} {g g' : JFrame} {pc pc' : Nat} {L L' : Array Slot} {S : List Value}
theorem Go.of (st : ∀ t, Steps p.tables e below (T'.setTop g') t → Steps p.tables e below (T.setTop g) t) (K : Go p e below Q T' g') : Go p e below Q T g := by
  obtain ⟨s2, o, h1, h2⟩ := K; exact ⟨s2, o, st _ h1, h2⟩
theorem Cx.exec (X : Cx p l e R s m args below meth c Z EL kn y bytes maxL ret ws T h k n) : p.tables.exec = Jvm.exec := X.1.1
theorem Cx.code (X : Cx p l e R s m args below meth c Z EL kn y bytes maxL ret ws T h k n) : c.code = bytes := X.1.2.1
theorem Cx.at (X : Cx p l e R s m args below meth c Z EL kn y bytes maxL ret ws T h k n) : At T m c below := by obtain ⟨-, vm0, k0, locs, S, -⟩ := X; exact S.here
theorem Cx.old (X : Cx p l e R s m args below meth c Z EL kn y bytes maxL ret ws T h k n) : Ext Z.heap h := by obtain ⟨-, vm0, k0, locs, -, -, -, -, -, -, -, -, -, E, -⟩ := X; exact E
theorem Cx.lt (X : Cx p l e R s m args below meth c Z EL kn y bytes maxL ret ws T h k n) : Z.heap.size ≤ h.size := X.old.1
theorem s_iload (X : Cx p l e R s m args below meth c Z EL kn y bytes maxL ret ws T h k n) {j : Nat} {v : Int32} (hd : decode bytes pc = .ok (.iload j, 2)) (hl : L[j]? = some (.val (.int v))) (hp : pc + 2 = pc') (K : Go p e below Q T (mkF m pc' L (.int v :: S))) : Go p e below Q T (mkF m pc L (S)) := by
  subst hp
  exact Go.of (fun t q => XS.iload X.at X.exec rfl (hb X.code hd) hl q) K
theorem s_iloadN (X : Cx p l e R s m args below meth c Z EL kn y bytes maxL ret ws T h k n) {j : Fin 4} {v : Int32} (hd : decode bytes pc = .ok (.iload_n j, 1)) (hl : L[j.val]? = some (.val (.int v))) (hp : pc + 1 = pc') (K : Go p e below Q T (mkF m pc' L (.int v :: S))) : Go p e below Q T (mkF m pc L (S)) := by
  subst hp
  exact Go.of (fun t q => XS.iloadN X.at X.exec rfl (hb X.code hd) hl q) K
theorem s_lload (X : Cx p l e R s m args below meth c Z EL kn y bytes maxL ret ws T h k n) {j : Nat} {v : Int64} (hd : decode bytes pc = .ok (.lload j, 2)) (hl : L[j]? = some (.val (.long v))) (hp : pc + 2 = pc') (K : Go p e below Q T (mkF m pc' L (.long v :: S))) : Go p e below Q T (mkF m pc L (S)) := by
  subst hp
  exact Go.of (fun t q => XS.lload X.at X.exec rfl (hb X.code hd) hl q) K
theorem s_lloadN (X : Cx p l e R s m args below meth c Z EL kn y bytes maxL ret ws T h k n) {j : Fin 4} {v : Int64} (hd : decode bytes pc = .ok (.lload_n j, 1)) (hl : L[j.val]? = some (.val (.long v))) (hp : pc + 1 = pc') (K : Go p e below Q T (mkF m pc' L (.long v :: S))) : Go p e below Q T (mkF m pc L (S)) := by
  subst hp
  exact Go.of (fun t q => XS.lloadN X.at X.exec rfl (hb X.code hd) hl q) K
theorem s_aload (X : Cx p l e R s m args below meth c Z EL kn y bytes maxL ret ws T h k n) {j : Nat} {v : Value} (hd : decode bytes pc = .ok (.aload j, 2)) (hl : L[j]? = some (.val v)) (hv : v.isRef = true) (hp : pc + 2 = pc') (K : Go p e below Q T (mkF m pc' L (v :: S))) : Go p e below Q T (mkF m pc L (S)) := by
  subst hp
  exact Go.of (fun t q => XS.aload X.at X.exec rfl (hb X.code hd) hl hv q) K
theorem s_aloadN (X : Cx p l e R s m args below meth c Z EL kn y bytes maxL ret ws T h k n) {j : Fin 4} {v : Value} (hd : decode bytes pc = .ok (.aload_n j, 1)) (hl : L[j.val]? = some (.val v)) (hv : v.isRef = true) (hp : pc + 1 = pc') (K : Go p e below Q T (mkF m pc' L (v :: S))) : Go p e below Q T (mkF m pc L (S)) := by
  subst hp
  exact Go.of (fun t q => XS.aloadN X.at X.exec rfl (hb X.code hd) hl hv q) K
theorem s_istore (X : Cx p l e R s m args below meth c Z EL kn y bytes maxL ret ws T h k n) {j : Nat} {v : Int32} (hd : decode bytes pc = .ok (.istore j, 2)) (hl : storeLocals L j (.int v) = some L') (hp : pc + 2 = pc') (K : Go p e below Q T (mkF m pc' L' (S))) : Go p e below Q T (mkF m pc L (.int v :: S)) := by
  subst hp
  exact Go.of (fun t q => XS.istore X.at X.exec rfl (hb X.code hd) rfl hl q) K
theorem s_istoreN (X : Cx p l e R s m args below meth c Z EL kn y bytes maxL ret ws T h k n) {j : Fin 4} {v : Int32} (hd : decode bytes pc = .ok (.istore_n j, 1)) (hl : storeLocals L j.val (.int v) = some L') (hp : pc + 1 = pc') (K : Go p e below Q T (mkF m pc' L' (S))) : Go p e below Q T (mkF m pc L (.int v :: S)) := by
  subst hp
  exact Go.of (fun t q => XS.istoreN X.at X.exec rfl (hb X.code hd) rfl hl q) K
theorem s_lstore (X : Cx p l e R s m args below meth c Z EL kn y bytes maxL ret ws T h k n) {j : Nat} {v : Int64} (hd : decode bytes pc = .ok (.lstore j, 2)) (hl : storeLocals L j (.long v) = some L') (hp : pc + 2 = pc') (K : Go p e below Q T (mkF m pc' L' (S))) : Go p e below Q T (mkF m pc L (.long v :: S)) := by
  subst hp
  exact Go.of (fun t q => XS.lstore X.at X.exec rfl (hb X.code hd) rfl hl q) K
theorem s_lstoreN (X : Cx p l e R s m args below meth c Z EL kn y bytes maxL ret ws T h k n) {j : Fin 4} {v : Int64} (hd : decode bytes pc = .ok (.lstore_n j, 1)) (hl : storeLocals L j.val (.long v) = some L') (hp : pc + 1 = pc') (K : Go p e below Q T (mkF m pc' L' (S))) : Go p e below Q T (mkF m pc L (.long v :: S)) := by
  subst hp
  exact Go.of (fun t q => XS.lstoreN X.at X.exec rfl (hb X.code hd) rfl hl q) K
theorem s_astore (X : Cx p l e R s m args below meth c Z EL kn y bytes maxL ret ws T h k n) {j : Nat} {v : Value} (hd : decode bytes pc = .ok (.astore j, 2)) (hv : v.isRef = true) (hl : storeLocals L j v = some L') (hp : pc + 2 = pc') (K : Go p e below Q T (mkF m pc' L' (S))) : Go p e below Q T (mkF m pc L (v :: S)) := by
  subst hp
  exact Go.of (fun t q => XS.astore X.at X.exec rfl (hb X.code hd) rfl hv hl q) K
theorem s_astoreN (X : Cx p l e R s m args below meth c Z EL kn y bytes maxL ret ws T h k n) {j : Fin 4} {v : Value} (hd : decode bytes pc = .ok (.astore_n j, 1)) (hv : v.isRef = true) (hl : storeLocals L j.val v = some L') (hp : pc + 1 = pc') (K : Go p e below Q T (mkF m pc' L' (S))) : Go p e below Q T (mkF m pc L (v :: S)) := by
  subst hp
  exact Go.of (fun t q => XS.astoreN X.at X.exec rfl (hb X.code hd) rfl hv hl q) K
theorem s_iconst (X : Cx p l e R s m args below meth c Z EL kn y bytes maxL ret ws T h k n) {i : Int} {v : Int32} (hd : decode bytes pc = .ok (.iconst i, 1)) (hv : Int32.ofInt i = v) (hp : pc + 1 = pc') (K : Go p e below Q T (mkF m pc' L (.int v :: S))) : Go p e below Q T (mkF m pc L (S)) := by
  subst hp
  exact Go.of (fun t q => XT.iconstV X.at X.exec rfl v (hb X.code hd) hv q) K
theorem s_bipush (X : Cx p l e R s m args below meth c Z EL kn y bytes maxL ret ws T h k n) {i : Int} {v : Int32} (hd : decode bytes pc = .ok (.bipush i, 2)) (hv : (Int8.ofInt i).toInt32 = v) (hp : pc + 2 = pc') (K : Go p e below Q T (mkF m pc' L (.int v :: S))) : Go p e below Q T (mkF m pc L (S)) := by
  subst hp
  exact Go.of (fun t q => XT.bipushV X.at X.exec rfl v (hb X.code hd) hv q) K
theorem s_sipush (X : Cx p l e R s m args below meth c Z EL kn y bytes maxL ret ws T h k n) {i : Int} {v : Int32} (hd : decode bytes pc = .ok (.sipush i, 3)) (hv : (Int16.ofInt i).toInt32 = v) (hp : pc + 3 = pc') (K : Go p e below Q T (mkF m pc' L (.int v :: S))) : Go p e below Q T (mkF m pc L (S)) := by
  subst hp
  exact Go.of (fun t q => XT.sipushV X.at X.exec rfl v (hb X.code hd) hv q) K
theorem s_lconst (X : Cx p l e R s m args below meth c Z EL kn y bytes maxL ret ws T h k n) {i : Fin 2} {v : Int64} (hd : decode bytes pc = .ok (.lconst i, 1)) (hv : Int64.ofNat i = v) (hp : pc + 1 = pc') (K : Go p e below Q T (mkF m pc' L (.long v :: S))) : Go p e below Q T (mkF m pc L (S)) := by
  subst hp
  exact Go.of (fun t q => XT.lconstV X.at X.exec rfl v (hb X.code hd) hv q) K
theorem s_aconst (X : Cx p l e R s m args below meth c Z EL kn y bytes maxL ret ws T h k n)  (hd : decode bytes pc = .ok (.aconst_null, 1)) (hp : pc + 1 = pc') (K : Go p e below Q T (mkF m pc' L (.null :: S))) : Go p e below Q T (mkF m pc L (S)) := by
  subst hp
  exact Go.of (fun t q => XS.aconstNull X.at X.exec rfl (hb X.code hd) q) K
theorem s_dup (X : Cx p l e R s m args below meth c Z EL kn y bytes maxL ret ws T h k n) {v : Value} (hd : decode bytes pc = .ok (.dup, 1)) (hc : v.category = 1) (hp : pc + 1 = pc') (K : Go p e below Q T (mkF m pc' L (v :: v :: S))) : Go p e below Q T (mkF m pc L (v :: S)) := by
  subst hp
  exact Go.of (fun t q => XS.dup X.at X.exec rfl (hb X.code hd) rfl hc q) K
theorem s_pop (X : Cx p l e R s m args below meth c Z EL kn y bytes maxL ret ws T h k n) {v : Value} (hd : decode bytes pc = .ok (.pop, 1)) (hc : v.category = 1) (hp : pc + 1 = pc') (K : Go p e below Q T (mkF m pc' L (S))) : Go p e below Q T (mkF m pc L (v :: S)) := by
  subst hp
  exact Go.of (fun t q => XS.pop X.at X.exec rfl (hb X.code hd) rfl hc q) K
theorem s_iadd (X : Cx p l e R s m args below meth c Z EL kn y bytes maxL ret ws T h k n) {x z : Int32} (hd : decode bytes pc = .ok (.iadd, 1)) (hp : pc + 1 = pc') (K : Go p e below Q T (mkF m pc' L (.int (x + z) :: S))) : Go p e below Q T (mkF m pc L (.int z :: .int x :: S)) := by
  subst hp
  exact Go.of (fun t q => XS.iadd X.at X.exec rfl (hb X.code hd) rfl q) K
theorem s_isub (X : Cx p l e R s m args below meth c Z EL kn y bytes maxL ret ws T h k n) {x z : Int32} (hd : decode bytes pc = .ok (.isub, 1)) (hp : pc + 1 = pc') (K : Go p e below Q T (mkF m pc' L (.int (x - z) :: S))) : Go p e below Q T (mkF m pc L (.int z :: .int x :: S)) := by
  subst hp
  exact Go.of (fun t q => XS.isub X.at X.exec rfl (hb X.code hd) rfl q) K
theorem s_imul (X : Cx p l e R s m args below meth c Z EL kn y bytes maxL ret ws T h k n) {x z : Int32} (hd : decode bytes pc = .ok (.imul, 1)) (hp : pc + 1 = pc') (K : Go p e below Q T (mkF m pc' L (.int (x * z) :: S))) : Go p e below Q T (mkF m pc L (.int z :: .int x :: S)) := by
  subst hp
  exact Go.of (fun t q => XS.imul X.at X.exec rfl (hb X.code hd) rfl q) K
theorem s_iand (X : Cx p l e R s m args below meth c Z EL kn y bytes maxL ret ws T h k n) {x z : Int32} (hd : decode bytes pc = .ok (.iand, 1)) (hp : pc + 1 = pc') (K : Go p e below Q T (mkF m pc' L (.int (x &&& z) :: S))) : Go p e below Q T (mkF m pc L (.int z :: .int x :: S)) := by
  subst hp
  exact Go.of (fun t q => XS.iand X.at X.exec rfl (hb X.code hd) rfl q) K
theorem s_ior (X : Cx p l e R s m args below meth c Z EL kn y bytes maxL ret ws T h k n) {x z : Int32} (hd : decode bytes pc = .ok (.ior, 1)) (hp : pc + 1 = pc') (K : Go p e below Q T (mkF m pc' L (.int (x ||| z) :: S))) : Go p e below Q T (mkF m pc L (.int z :: .int x :: S)) := by
  subst hp
  exact Go.of (fun t q => XS.ior X.at X.exec rfl (hb X.code hd) rfl q) K
theorem s_ixor (X : Cx p l e R s m args below meth c Z EL kn y bytes maxL ret ws T h k n) {x z : Int32} (hd : decode bytes pc = .ok (.ixor, 1)) (hp : pc + 1 = pc') (K : Go p e below Q T (mkF m pc' L (.int (x ^^^ z) :: S))) : Go p e below Q T (mkF m pc L (.int z :: .int x :: S)) := by
  subst hp
  exact Go.of (fun t q => XS.ixor X.at X.exec rfl (hb X.code hd) rfl q) K
theorem s_ishl (X : Cx p l e R s m args below meth c Z EL kn y bytes maxL ret ws T h k n) {x z : Int32} (hd : decode bytes pc = .ok (.ishl, 1)) (hp : pc + 1 = pc') (K : Go p e below Q T (mkF m pc' L (.int (x <<< (z &&& 31)) :: S))) : Go p e below Q T (mkF m pc L (.int z :: .int x :: S)) := by
  subst hp
  exact Go.of (fun t q => XS.ishl X.at X.exec rfl (hb X.code hd) rfl q) K
theorem s_ishr (X : Cx p l e R s m args below meth c Z EL kn y bytes maxL ret ws T h k n) {x z : Int32} (hd : decode bytes pc = .ok (.ishr, 1)) (hp : pc + 1 = pc') (K : Go p e below Q T (mkF m pc' L (.int (x >>> (z &&& 31)) :: S))) : Go p e below Q T (mkF m pc L (.int z :: .int x :: S)) := by
  subst hp
  exact Go.of (fun t q => XS.ishr X.at X.exec rfl (hb X.code hd) rfl q) K
theorem s_iushr (X : Cx p l e R s m args below meth c Z EL kn y bytes maxL ret ws T h k n) {x z : Int32} (hd : decode bytes pc = .ok (.iushr, 1)) (hp : pc + 1 = pc') (K : Go p e below Q T (mkF m pc' L (.int ((x.toUInt32 >>> (z &&& 31).toUInt32).toInt32) :: S))) : Go p e below Q T (mkF m pc L (.int z :: .int x :: S)) := by
  subst hp
  exact Go.of (fun t q => XS.iushr X.at X.exec rfl (hb X.code hd) rfl q) K
theorem s_idiv (X : Cx p l e R s m args below meth c Z EL kn y bytes maxL ret ws T h k n) {x z : Int32} (hd : decode bytes pc = .ok (.idiv, 1)) (hz : z ≠ 0) (hp : pc + 1 = pc') (K : Go p e below Q T (mkF m pc' L (.int (x / z) :: S))) : Go p e below Q T (mkF m pc L (.int z :: .int x :: S)) := by
  subst hp
  exact Go.of (fun t q => XS.idiv X.at X.exec rfl (hb X.code hd) rfl hz q) K
theorem s_irem (X : Cx p l e R s m args below meth c Z EL kn y bytes maxL ret ws T h k n) {x z : Int32} (hd : decode bytes pc = .ok (.irem, 1)) (hz : z ≠ 0) (hp : pc + 1 = pc') (K : Go p e below Q T (mkF m pc' L (.int (x % z) :: S))) : Go p e below Q T (mkF m pc L (.int z :: .int x :: S)) := by
  subst hp
  obtain ⟨-, vm0, k0, locs, St, -⟩ := id X
  exact Go.of (fun t q => iremM St X.exec rfl (hb X.code hd) rfl hz q) K
theorem s_ineg (X : Cx p l e R s m args below meth c Z EL kn y bytes maxL ret ws T h k n) {x : Int32} (hd : decode bytes pc = .ok (.ineg, 1)) (hp : pc + 1 = pc') (K : Go p e below Q T (mkF m pc' L (.int (-x) :: S))) : Go p e below Q T (mkF m pc L (.int x :: S)) := by
  subst hp
  exact Go.of (fun t q => XS.ineg X.at X.exec rfl (hb X.code hd) rfl q) K
theorem s_ladd (X : Cx p l e R s m args below meth c Z EL kn y bytes maxL ret ws T h k n) {x z : Int64} (hd : decode bytes pc = .ok (.ladd, 1)) (hp : pc + 1 = pc') (K : Go p e below Q T (mkF m pc' L (.long (x + z) :: S))) : Go p e below Q T (mkF m pc L (.long z :: .long x :: S)) := by
  subst hp
  exact Go.of (fun t q => XS.ladd X.at X.exec rfl (hb X.code hd) rfl q) K
theorem s_lsub (X : Cx p l e R s m args below meth c Z EL kn y bytes maxL ret ws T h k n) {x z : Int64} (hd : decode bytes pc = .ok (.lsub, 1)) (hp : pc + 1 = pc') (K : Go p e below Q T (mkF m pc' L (.long (x - z) :: S))) : Go p e below Q T (mkF m pc L (.long z :: .long x :: S)) := by
  subst hp
  exact Go.of (fun t q => XS.lsub X.at X.exec rfl (hb X.code hd) rfl q) K
theorem s_land (X : Cx p l e R s m args below meth c Z EL kn y bytes maxL ret ws T h k n) {x z : Int64} (hd : decode bytes pc = .ok (.land, 1)) (hp : pc + 1 = pc') (K : Go p e below Q T (mkF m pc' L (.long (x &&& z) :: S))) : Go p e below Q T (mkF m pc L (.long z :: .long x :: S)) := by
  subst hp
  exact Go.of (fun t q => XS.land X.at X.exec rfl (hb X.code hd) rfl q) K
theorem s_lrem (X : Cx p l e R s m args below meth c Z EL kn y bytes maxL ret ws T h k n) {x z : Int64} (hd : decode bytes pc = .ok (.lrem, 1)) (hz : z ≠ 0) (hp : pc + 1 = pc') (K : Go p e below Q T (mkF m pc' L (.long (x - (x / z) * z) :: S))) : Go p e below Q T (mkF m pc L (.long z :: .long x :: S)) := by
  subst hp
  exact Go.of (fun t q => XS.lrem X.at X.exec rfl (hb X.code hd) rfl hz q) K
theorem s_lneg (X : Cx p l e R s m args below meth c Z EL kn y bytes maxL ret ws T h k n) {x : Int64} (hd : decode bytes pc = .ok (.lneg, 1)) (hp : pc + 1 = pc') (K : Go p e below Q T (mkF m pc' L (.long (-x) :: S))) : Go p e below Q T (mkF m pc L (.long x :: S)) := by
  subst hp
  exact Go.of (fun t q => XS.lneg X.at X.exec rfl (hb X.code hd) rfl q) K
theorem s_lushr (X : Cx p l e R s m args below meth c Z EL kn y bytes maxL ret ws T h k n) {x : Int64} {z : Int32} (hd : decode bytes pc = .ok (.lushr, 1)) (hp : pc + 1 = pc') (K : Go p e below Q T (mkF m pc' L (.long ((x.toUInt64 >>> (z &&& 0x3f).toInt64.toUInt64).toInt64) :: S))) : Go p e below Q T (mkF m pc L (.int z :: .long x :: S)) := by
  subst hp
  exact Go.of (fun t q => XS.lushr X.at X.exec rfl (hb X.code hd) rfl q) K
theorem s_lcmp (X : Cx p l e R s m args below meth c Z EL kn y bytes maxL ret ws T h k n) {x z : Int64} (hd : decode bytes pc = .ok (.lcmp, 1)) (hp : pc + 1 = pc') (K : Go p e below Q T (mkF m pc' L (.int (lcmpW x z) :: S))) : Go p e below Q T (mkF m pc L (.long z :: .long x :: S)) := by
  subst hp
  exact Go.of (fun t q => XS.lcmp X.at X.exec rfl (hb X.code hd) rfl q) K
theorem s_i2c (X : Cx p l e R s m args below meth c Z EL kn y bytes maxL ret ws T h k n) {x : Int32} (hd : decode bytes pc = .ok (.i2c, 1)) (hp : pc + 1 = pc') (K : Go p e below Q T (mkF m pc' L (.int (x.toUInt32.toUInt16.toUInt32.toInt32) :: S))) : Go p e below Q T (mkF m pc L (.int x :: S)) := by
  subst hp
  exact Go.of (fun t q => XS.i2c X.at X.exec rfl (hb X.code hd) rfl q) K
theorem s_i2b (X : Cx p l e R s m args below meth c Z EL kn y bytes maxL ret ws T h k n) {x : Int32} (hd : decode bytes pc = .ok (.i2b, 1)) (hp : pc + 1 = pc') (K : Go p e below Q T (mkF m pc' L (.int (x.toInt8.toInt32) :: S))) : Go p e below Q T (mkF m pc L (.int x :: S)) := by
  subst hp
  exact Go.of (fun t q => XS.i2b X.at X.exec rfl (hb X.code hd) rfl q) K
theorem s_i2l (X : Cx p l e R s m args below meth c Z EL kn y bytes maxL ret ws T h k n) {x : Int32} (hd : decode bytes pc = .ok (.i2l, 1)) (hp : pc + 1 = pc') (K : Go p e below Q T (mkF m pc' L (.long (x.toInt64) :: S))) : Go p e below Q T (mkF m pc L (.int x :: S)) := by
  subst hp
  exact Go.of (fun t q => XS.i2l X.at X.exec rfl (hb X.code hd) rfl q) K
theorem s_l2i (X : Cx p l e R s m args below meth c Z EL kn y bytes maxL ret ws T h k n) {x : Int64} (hd : decode bytes pc = .ok (.l2i, 1)) (hp : pc + 1 = pc') (K : Go p e below Q T (mkF m pc' L (.int (x.toInt32) :: S))) : Go p e below Q T (mkF m pc L (.long x :: S)) := by
  subst hp
  exact Go.of (fun t q => XS.l2i X.at X.exec rfl (hb X.code hd) rfl q) K
theorem s_iinc (X : Cx p l e R s m args below meth c Z EL kn y bytes maxL ret ws T h k n) {j : Nat} {i : Int} {x v : Int32} (hd : decode bytes pc = .ok (.iinc j i, 3)) (hv : Int32.ofInt i = v) (hl : L[j]? = some (.val (.int x))) (hl' : storeLocals L j (.int (x + v)) = some L') (hp : pc + 3 = pc') (K : Go p e below Q T (mkF m pc' L' (S))) : Go p e below Q T (mkF m pc L (S)) := by
  subst hp
  exact Go.of (fun t q => XT.iincV X.at X.exec rfl v (hb X.code hd) hv hl hl' q) K
theorem s_goto (X : Cx p l e R s m args below meth c Z EL kn y bytes maxL ret ws T h k n) {o : Int} (hd : decode bytes pc = .ok (.goto o, 3)) (ho : 0 ≤ (pc : Int) + o) (hp : ((pc : Int) + o).toNat = pc') (K : Go p e below Q T (mkF m pc' L S)) : Go p e below Q T (mkF m pc L S) :=
  Go.of (fun t q => XS.goto X.at X.exec rfl (pc0 := pc) rfl (hb X.code hd) ho hp q) K
/-- a comparison, said plainly -/
def tst : ClassFile.Cond → Int32 → Int32 → Prop
  | .eq, x, z => x = z
  | .ne, x, z => ¬ x = z
  | .lt, x, z => x < z
  | .ge, x, z => ¬ x < z
  | .gt, x, z => z < x
  | .le, x, z => ¬ z < x
/-- .. and its contrary -/
def nts : ClassFile.Cond → Int32 → Int32 → Prop
  | .eq, x, z => ¬ x = z
  | .ne, x, z => x = z
  | .lt, x, z => ¬ x < z
  | .ge, x, z => x < z
  | .gt, x, z => ¬ z < x
  | .le, x, z => z < x
theorem tst_t {cd : ClassFile.Cond} {x z : Int32} (q : tst cd x z) : if_icmp.holds cd x z = true := by
  cases cd
  · exact XT.ii_eq_t q
  · exact XT.ii_ne_t q
  · exact XT.ii_lt_t q
  · exact XT.ii_ge_t q
  · exact XT.ii_gt_t q
  · exact XT.ii_le_t q
theorem nts_f {cd : ClassFile.Cond} {x z : Int32} (q : nts cd x z) : if_icmp.holds cd x z = false := by
  cases cd
  · exact XT.ii_eq_f q
  · exact XT.ii_ne_f q
  · exact XT.ii_lt_f q
  · exact XT.ii_ge_f q
  · exact XT.ii_gt_f q
  · exact XT.ii_le_f q
theorem tst_or (cd : ClassFile.Cond) (x z : Int32) : tst cd x z ∨ nts cd x z := by
  cases cd
  · exact Classical.em (x = z)
  · exact (Classical.em (x = z)).symm
  · exact Classical.em (x < z)
  · exact (Classical.em (x < z)).symm
  · exact Classical.em (z < x)
  · exact (Classical.em (z < x)).symm
theorem s_icmpT (X : Cx p l e R s m args below meth c Z EL kn y bytes maxL ret ws T h k n) {cd : ClassFile.Cond} {x z : Int32} {o : Int} (hd : decode bytes pc = .ok (.if_icmp cd o, 3)) (q : tst cd x z) (ho : 0 ≤ (pc : Int) + o) (hp : ((pc : Int) + o).toNat = pc') (K : Go p e below Q T (mkF m pc' L S)) : Go p e below Q T (mkF m pc L (.int z :: .int x :: S)) :=
  Go.of (fun t r => XS.icmpYes X.at X.exec rfl (pc0 := pc) rfl (hb X.code hd) rfl (tst_t q) ho hp r) K
theorem s_icmpF (X : Cx p l e R s m args below meth c Z EL kn y bytes maxL ret ws T h k n) {cd : ClassFile.Cond} {x z : Int32} {o : Int} (hd : decode bytes pc = .ok (.if_icmp cd o, 3)) (q : nts cd x z) (hp : pc + 3 = pc') (K : Go p e below Q T (mkF m pc' L S)) : Go p e below Q T (mkF m pc L (.int z :: .int x :: S)) := by
  subst hp
  exact Go.of (fun t r => XS.icmpNo X.at X.exec rfl (hb X.code hd) rfl (nts_f q) r) K
theorem s_ifT (X : Cx p l e R s m args below meth c Z EL kn y bytes maxL ret ws T h k n) {cd : ClassFile.Cond} {x : Int32} {o : Int} (hd : decode bytes pc = .ok (.ifCond cd o, 3)) (q : tst cd x 0) (ho : 0 ≤ (pc : Int) + o) (hp : ((pc : Int) + o).toNat = pc') (K : Go p e below Q T (mkF m pc' L S)) : Go p e below Q T (mkF m pc L (.int x :: S)) :=
  Go.of (fun t r => XS.ifYes X.at X.exec rfl (pc0 := pc) rfl (hb X.code hd) rfl ((if0 _ _).trans (tst_t q)) ho hp r) K
theorem s_ifF (X : Cx p l e R s m args below meth c Z EL kn y bytes maxL ret ws T h k n) {cd : ClassFile.Cond} {x : Int32} {o : Int} (hd : decode bytes pc = .ok (.ifCond cd o, 3)) (q : nts cd x 0) (hp : pc + 3 = pc') (K : Go p e below Q T (mkF m pc' L S)) : Go p e below Q T (mkF m pc L (.int x :: S)) := by
  subst hp
  exact Go.of (fun t r => XS.ifNo X.at X.exec rfl (hb X.code hd) rfl ((if0 _ _).trans (nts_f q)) r) K
theorem s_icmp (X : Cx p l e R s m args below meth c Z EL kn y bytes maxL ret ws T h k n) {cd : ClassFile.Cond} {x z : Int32} {o : Int} {pcF : Nat} (hd : decode bytes pc = .ok (.if_icmp cd o, 3)) (ho : 0 ≤ (pc : Int) + o) (hp : ((pc : Int) + o).toNat = pc') (hf : pc + 3 = pcF) (K : tst cd x z → Go p e below Q T (mkF m pc' L S)) (K' : nts cd x z → Go p e below Q T (mkF m pcF L S)) : Go p e below Q T (mkF m pc L (.int z :: .int x :: S)) :=
  (tst_or cd x z).elim (fun q => s_icmpT X hd q ho hp (K q)) (fun q => s_icmpF X hd q hf (K' q))
theorem s_if (X : Cx p l e R s m args below meth c Z EL kn y bytes maxL ret ws T h k n) {cd : ClassFile.Cond} {x : Int32} {o : Int} {pcF : Nat} (hd : decode bytes pc = .ok (.ifCond cd o, 3)) (ho : 0 ≤ (pc : Int) + o) (hp : ((pc : Int) + o).toNat = pc') (hf : pc + 3 = pcF) (K : tst cd x 0 → Go p e below Q T (mkF m pc' L S)) (K' : nts cd x 0 → Go p e below Q T (mkF m pcF L S)) : Go p e below Q T (mkF m pc L (.int x :: S)) :=
  (tst_or cd x 0).elim (fun q => s_ifT X hd q ho hp (K q)) (fun q => s_ifF X hd q hf (K' q))
theorem s_acmpT (X : Cx p l e R s m args below meth c Z EL kn y bytes maxL ret ws T h k n) {cd : ClassFile.ACond} {x z : Value} {o : Int} (hd : decode bytes pc = .ok (.if_acmp cd o, 3)) (hx' : x.isRef = true) (hz' : z.isRef = true) (q : XT.acmp cd x z = true) (ho : 0 ≤ (pc : Int) + o) (hp : ((pc : Int) + o).toNat = pc') (K : Go p e below Q T (mkF m pc' L S)) : Go p e below Q T (mkF m pc L (z :: x :: S)) :=
  Go.of (fun t r => XT.acmpYes X.at X.exec rfl (pc0 := pc) rfl (hb X.code hd) rfl hx' hz' q ho hp r) K
theorem s_acmpF (X : Cx p l e R s m args below meth c Z EL kn y bytes maxL ret ws T h k n) {cd : ClassFile.ACond} {x z : Value} {o : Int} (hd : decode bytes pc = .ok (.if_acmp cd o, 3)) (hx' : x.isRef = true) (hz' : z.isRef = true) (q : XT.acmp cd x z = false) (hp : pc + 3 = pc') (K : Go p e below Q T (mkF m pc' L S)) : Go p e below Q T (mkF m pc L (z :: x :: S)) := by
  subst hp
  exact Go.of (fun t r => XT.acmpNo X.at X.exec rfl (hb X.code hd) rfl hx' hz' q r) K
theorem s_ifnullT (X : Cx p l e R s m args below meth c Z EL kn y bytes maxL ret ws T h k n) {b : Addr} {o : Int} (hd : decode bytes pc = .ok (.ifnull o, 3)) (ho : 0 ≤ (pc : Int) + o) (hp : ((pc : Int) + o).toNat = pc') (K : Go p e below Q T (mkF m pc' L S)) : Go p e below Q T (mkF m pc L (.null :: S)) :=
  Go.of (fun t r => XS.ifnullYes X.at X.exec rfl (pc0 := pc) rfl (hb X.code hd) rfl ho hp r) K
theorem s_ifnullF (X : Cx p l e R s m args below meth c Z EL kn y bytes maxL ret ws T h k n) {b : Addr} {o : Int} (hd : decode bytes pc = .ok (.ifnull o, 3)) (hp : pc + 3 = pc') (K : Go p e below Q T (mkF m pc' L S)) : Go p e below Q T (mkF m pc L (.ref b :: S)) := by
  subst hp
  exact Go.of (fun t r => XS.ifnullNo X.at X.exec rfl (hb X.code hd) rfl r) K
theorem s_ifnonnullT (X : Cx p l e R s m args below meth c Z EL kn y bytes maxL ret ws T h k n) {b : Addr} {o : Int} (hd : decode bytes pc = .ok (.ifnonnull o, 3)) (ho : 0 ≤ (pc : Int) + o) (hp : ((pc : Int) + o).toNat = pc') (K : Go p e below Q T (mkF m pc' L S)) : Go p e below Q T (mkF m pc L (.ref b :: S)) :=
  Go.of (fun t r => XS.ifnonnullYes X.at X.exec rfl (pc0 := pc) rfl (hb X.code hd) rfl ho hp r) K
theorem s_ifnonnullF (X : Cx p l e R s m args below meth c Z EL kn y bytes maxL ret ws T h k n) {b : Addr} {o : Int} (hd : decode bytes pc = .ok (.ifnonnull o, 3)) (hp : pc + 3 = pc') (K : Go p e below Q T (mkF m pc' L S)) : Go p e below Q T (mkF m pc L (.null :: S)) := by
  subst hp
  exact Go.of (fun t r => XS.ifnonnullNo X.at X.exec rfl (hb X.code hd) rfl r) K
theorem go_int {x z : Int32} (q : x = z) (K : Go p e below Q T (mkF m pc L (.int z :: S))) : Go p e below Q T (mkF m pc L (.int x :: S)) := by subst q; exact K
theorem Cx.more (X : Cx p l e R s m args below meth c Z EL kn y bytes maxL ret ws T h k n) {k' n' : Nat} (hk : k ≤ k') (hn : n ≤ n') : Cx p l e R s m args below meth c Z EL kn y bytes maxL ret ws T h k' n' := by
  obtain ⟨c0, vm0, k0, locs, St, r⟩ := X
  exact ⟨c0, vm0, k0, locs, St.mono hk hn, r⟩
theorem Cx.sub (X : Cx p l e R s m args below meth c Z EL kn y bytes maxL ret ws T h k n) {ws' : List Addr} (hs : ∀ x ∈ ws', x ∈ ws) : Cx p l e R s m args below meth c Z EL kn y bytes maxL ret ws' T h k n := by
  obtain ⟨c0, vm0, k0, locs, St, eT, hZ, hown, hS, hk, N, H, hsf, E, hkn⟩ := X
  exact ⟨c0, vm0, k0, locs, St, eT, hZ, hown, hS, hk, N, H, fun x q => hsf x (hs x q), E, hkn⟩
theorem Cx.wlt (X : Cx p l e R s m args below meth c Z EL kn y bytes maxL ret ws T h k n) {x : Addr} (q : x ∈ ws) : x < h.size := by
  obtain ⟨c0, vm0, k0, locs, St, eT, hZ, hown, hS, hk, N, H, hsf, E, hkn⟩ := X
  exact (hsf x q).2
theorem ext_refl (h : Heap) : Ext h h := ⟨Nat.le_refl _, fun _ _ q => q⟩
theorem ext_trans {h1 h2 h3 : Heap} (E : Ext h1 h2) (F : Ext h2 h3) : Ext h1 h3 := ⟨Nat.le_trans E.1 F.1, fun a c q => F.2 a c (E.2 a c q)⟩
theorem ext_keep {h1 h2 h3 : Heap} {ws : List Addr} (E : Ext h1 h2) (K : Keep h2 h3 ws) (q : ∀ x ∈ ws, h1.size ≤ x) : Ext h1 h3 :=
  ⟨Nat.le_trans E.1 K.1, fun a c r => K.2.1 a c (E.2 a c r) fun z => absurd (Array.getElem?_eq_some_iff.mp r).1 (Nat.not_lt.mpr (q a z))⟩
theorem ext_wr {h1 h2 h3 : Heap} {a : Addr} {sl : Nat} {v : Value} (E : Ext h1 h2) (W : Wr h2 h3 a sl v) (q : h1.size ≤ a) : Ext h1 h3 := ext_keep E (Keep.of_wr W) (allS q all0)
theorem s_getf (X : Cx p l e R s m args below meth c Z EL kn y bytes maxL ret ws T h k n) {index : Nat} {R0 O nm d : String} {a : Addr} {v : Value} (hd : decode bytes pc = .ok (.getfield index, 3)) (w : (Cond.fieldLink y.cls index R0 nm d).before a0 Z = true) (via : Via Z R0 O nm d) (F : Fld Z h a O nm d v) (hp : pc + 3 = pc')
    (K : ∀ T', Cx p l e R s m args below meth c Z EL kn y bytes maxL ret ws T' h k n → Go p e below Q T' (mkF m pc' L (v :: S))) : Go p e below Q T (mkF m pc L (.ref a :: S)) := by
  subst hp
  obtain ⟨c0, vm0, k0, locs, St, eT, hZ, hown, hS, hk, N, H, hsf, E, hkn⟩ := X
  obtain ⟨T', X', e', st⟩ := getF St c0.1 hZ hown (host := "") (Or.inl w) via eT F (g := mkF m pc L (.ref a :: S)) rfl rfl (hb c0.2.1 hd)
  exact Go.of st (K T' ⟨c0, vm0, k0, locs, X', e', hZ, hown, hS, hk, N, H, hsf, E, hkn⟩)
theorem s_getfN (X : Cx p l e R s m args below meth c Z EL kn y bytes maxL ret ws T h k n) {index : Nat} {R0 O nm d host : String} {a : Addr} {v : Value} (hd : decode bytes pc = .ok (.getfield index, 3)) (w : (Cond.fieldLinkNest y.cls index R0 nm d host).before a0 Z = true) (via : Via Z R0 O nm d) (F : Fld Z h a O nm d v) (hp : pc + 3 = pc')
    (K : ∀ T', Cx p l e R s m args below meth c Z EL kn y bytes maxL ret ws T' h k n → Go p e below Q T' (mkF m pc' L (v :: S))) : Go p e below Q T (mkF m pc L (.ref a :: S)) := by
  subst hp
  obtain ⟨c0, vm0, k0, locs, St, eT, hZ, hown, hS, hk, N, H, hsf, E, hkn⟩ := X
  obtain ⟨T', X', e', st⟩ := getF St c0.1 hZ hown (host := host) (Or.inr w) via eT F (g := mkF m pc L (.ref a :: S)) rfl rfl (hb c0.2.1 hd)
  exact Go.of st (K T' ⟨c0, vm0, k0, locs, X', e', hZ, hown, hS, hk, N, H, hsf, E, hkn⟩)
theorem s_gets (X : Cx p l e R s m args below meth c Z EL kn y bytes maxL ret ws T h k n) {index : Nat} {R0 O nm d : String} {v : Value} (hd : decode bytes pc = .ok (.getstatic index, 3)) (w : (Cond.fieldLink y.cls index R0 nm d).before a0 Z = true) (via : Via Z R0 O nm d) (F : Sta Z Z.heap O nm d v) (hp : pc + 3 = pc')
    (K : ∀ T', Cx p l e R s m args below meth c Z EL kn y bytes maxL ret ws T' h k n → Go p e below Q T' (mkF m pc' L (v :: S))) : Go p e below Q T (mkF m pc L S) := by
  subst hp
  obtain ⟨c0, vm0, k0, locs, St, eT, hZ, hown, hS, hk, N, H, hsf, E, hkn⟩ := X
  obtain ⟨T', X', e', st⟩ := getS St c0.1 hZ hown (host := "") w via eT (F.ext E) (g := mkF m pc L S) rfl (hb c0.2.1 hd)
  exact Go.of st (K T' ⟨c0, vm0, k0, locs, X', e', hZ, hown, hS, hk, N, H, hsf, E, hkn⟩)
theorem s_putf (X : Cx p l e R s m args below meth c Z EL kn y bytes maxL ret ws T h k n) {index kk : Nat} {R0 O nm d C : String} {ty : FieldType} {a : Addr} {v old : Value} (hd : decode bytes pc = .ok (.putfield index, 3)) (w : (Cond.fieldLink y.cls index R0 nm d).before a0 Z = true) (via : Via Z R0 O nm d) (F : Fld Z h a O nm d old) (E0 : Exa Z h a C)
    (Lf : (Cond.lays C O nm d).before a0 Z = true ∨ ((Cond.laysFinal C O nm d).before a0 Z = true ∧ y.cls = O ∧ y.name = "<init>")) (wi : (Cond.instantiable C kk).before a0 Z = true) (hty : parseFieldDescriptor d = some ty) (hn : narrow ty v = v) (hf : fits ty v = true) (ha : Z.heap.size ≤ a) (hm : a ∈ ws) (hp : pc + 3 = pc')
    (K : ∀ T' h', Cx p l e R s m args below meth c Z EL kn y bytes maxL ret ws T' h' k n → Wr h h' a (RoadKit.slotOf Z O nm d) v → Go p e below Q T' (mkF m pc' L S)) : Go p e below Q T (mkF m pc L (v :: .ref a :: S)) := by
  subst hp
  obtain ⟨c0, vm0, k0, locs, St, eT, hZ, hown, hS, hk, N, H, hsf, E, hkn⟩ := X
  obtain ⟨T', h', X', e', W, st⟩ := putF St c0.1 hZ hown (host := "") (Or.inl w) via eT F E0 (Lf.imp id fun q => ⟨q.1, q.2.1, c0.2.2.2.2.2.trans q.2.2⟩) wi hty hn hf (g := mkF m pc L (v :: .ref a :: S)) rfl rfl (hb c0.2.1 hd)
  have Sa := (hsf a hm).1
  exact Go.of st (K T' h' ⟨c0, vm0, k0, _, X', e', hZ, hown, hS, by rw [W.size]; exact hk, Fr.snoc X' N ha, H.trans (CHr.wr W Sa H.1), fun x q => ⟨Safe.wr W Sa H.1 (hsf x q).1, by rw [W.size]; exact (hsf x q).2⟩, ext_wr E W ha, hkn⟩ W)
theorem s_new (X : Cx p l e R s m args below meth c Z EL kn y bytes maxL ret ws T h k n) {index nn : Nat} {C : String} {k' n' : Nat} (hd : decode bytes pc = .ok (.new index, 3)) (w : (Cond.classLink y.cls index C).before a0 Z = true) (wi : (Cond.instantiable C nn).before a0 Z = true) (wz : (Cond.initialized C).before a0 Z = true)
    (hk' : k + 1 ≤ k') (hn' : n + nn ≤ n') (hkR : k' ≤ R.cells) (hnR : n' ≤ R.slots) (hp : pc + 3 = pc')
    (K : ∀ (T' : State) (h' : Heap) (a : Addr), a = h.size → Cx p l e R s m args below meth c Z EL kn y bytes maxL ret (a :: ws) T' h' k' n' → Ext h h' → Exa Z h' a C → (∀ {O nm d : String} {ty : FieldType}, Laid Z a0 C O nm d → parseFieldDescriptor d = some ty → Fld Z h' a O nm d (defaultValue ty)) → Unt h' a → Go p e below Q T' (mkF m pc' L (.ref a :: S))) : Go p e below Q T (mkF m pc L S) := by
  subst hp
  obtain ⟨c0, vm0, k0, locs, St, eT, hZ, hown, hS, hk, N, H, hsf, E, hkn⟩ := X
  obtain ⟨T', h', X', e', E', A, D, U, st⟩ := newO St c0.1 hZ hown w wi wz eT (g := mkF m pc L S) rfl (hb c0.2.1 hd) (Nat.le_trans hk' hkR) (Nat.le_trans hn' hnR)
  refine Go.of st (K T' h' h.size rfl ⟨c0, vm0, k0, _, X'.mono hk' hn', e', hZ, hown, hS, Nat.le_trans hk E'.1, N, H.trans (CHr.ext E' H.1), fun x q => ?_, ext_trans E E', hkn⟩ E' A D U)
  rcases List.mem_cons.mp q with rfl | q
  · exact ⟨Safe.ext E' H.1 (Safe.new (Nat.le_refl _)), A.lt⟩
  · exact ⟨Safe.ext E' H.1 (hsf x q).1, Nat.lt_of_lt_of_le (hsf x q).2 E'.1⟩
/-- an array: what she holds, whole -/
def Ary (Z : State) (h : Heap) (a : Addr) (ty : FieldType) (vs : List Value) : Prop := ∃ cl : Cell, RoadKit.Arr Z h a cl ty ∧ cl.slots.toList = vs ∧ vs.length < 2 ^ 31 ∧ ∀ v ∈ vs, fits ty v = true
theorem Ary.ext {a : Addr} {ty : FieldType} {vs : List Value} (A : Ary Z h a ty vs) (E : Ext h h') : Ary Z h' a ty vs := by obtain ⟨cl, q, r⟩ := A; exact ⟨cl, q.ext E, r⟩
theorem Ary.keep {a : Addr} {ty : FieldType} {vs : List Value} {wr : List Addr} (A : Ary Z h a ty vs) (K : Keep h h' wr) (q : a ∉ wr) : Ary Z h' a ty vs := by obtain ⟨cl, r1, r⟩ := A; exact ⟨cl, ⟨K.2.1 a cl r1.1 q, r1.2⟩, r⟩
theorem Ary.other {a b : Addr} {sl : Nat} {v : Value} {ty : FieldType} {vs : List Value} (A : Ary Z h a ty vs) (W : Wr h h' b sl v) (q : a ≠ b) : Ary Z h' a ty vs := by obtain ⟨cl, r1, r⟩ := A; exact ⟨cl, r1.other W q, r⟩
theorem Ary.lt {a : Addr} {ty : FieldType} {vs : List Value} (A : Ary Z h a ty vs) : a < h.size := by obtain ⟨cl, q, r⟩ := A; exact q.lt
theorem n32 {N : Nat} (q : N < 2 ^ 31) : (Int32.ofNat N).toNatClampNeg = N := by
  have e : (Int32.ofNat N).toInt = N := Int32.toInt_ofNat_of_lt (by omega)
  simp [Int32.toNatClampNeg, e]
theorem nn32 {N : Nat} (q : N < 2 ^ 31) : ¬ Int32.ofNat N < 0 := by
  have e : (Int32.ofNat N).toInt = N := Int32.toInt_ofNat_of_lt (by omega)
  rw [Int32.lt_iff_toInt_lt, e]; show ¬ (N : Int) < 0; omega
theorem Ary.arv {a : Addr} {ty : FieldType} {vs : List Value} (A : Ary Z h a ty vs) (dv : Value) : ∃ kc, Arv Z h a kc ty (Int32.ofNat vs.length) vs dv := by
  obtain ⟨cl, q, r1, r2, r3⟩ := A
  have sz : cl.slots.size = vs.length := by rw [← r1]; simp
  have ga : ∀ i, i < vs.length → vs.getD i dv = vs[i]! := fun i hi => by simp [List.getD_eq_getElem?_getD, hi]
  refine ⟨cl.cls, cl, q, rfl, by rw [sz, n32 r2], nn32 r2, fun i hi => ?_, fun i hi => ?_⟩
  · have hi' : i < vs.length := sz ▸ hi
    rw [← Array.getElem?_toList, r1, List.getElem?_eq_getElem hi']; simp [List.getD_eq_getElem?_getD, hi']
  · have hi' : i < vs.length := sz ▸ hi
    have : vs.getD i dv = vs[i] := by simp [List.getD_eq_getElem?_getD, hi']
    rw [this]; exact r3 _ (List.getElem_mem _)
theorem Ary.of_arv {a : Addr} {ty : FieldType} {vs : List Value} {kc : ClassId} {z : Int32} {dv : Value} (A : Arv Z h a kc ty z vs dv) (hl : z.toNatClampNeg = vs.length) (hb : vs.length < 2 ^ 31) : Ary Z h a ty vs := by
  obtain ⟨cl, q, r1, r2, r3, r4, r5⟩ := A
  have sz : cl.slots.size = vs.length := r2.trans hl
  refine ⟨cl, q, List.ext_getElem? fun i => ?_, hb, fun v hv => ?_⟩
  · rw [Array.getElem?_toList]
    rcases Nat.lt_or_ge i cl.slots.size with hi | hi
    · have hi' : i < vs.length := sz ▸ hi
      rw [r4 i hi, List.getElem?_eq_getElem hi']; simp [List.getD_eq_getElem?_getD, hi']
    · rw [Array.getElem?_eq_none hi, List.getElem?_eq_none (by omega)]
  · obtain ⟨i, hi, rfl⟩ := List.mem_iff_getElem.mp hv
    have := r5 i (by omega)
    simpa [List.getD_eq_getElem?_getD, hi] using this
theorem s_newarr (X : Cx p l e R s m args below meth c Z EL kn y bytes maxL ret ws T h k n) {aty : ArrayType} {z : Int32} {N : Nat} {k' n' : Nat} (hd : decode bytes pc = .ok (.newarray aty, 2)) (w : (Cond.arrayClass (newarray.typeOf aty)).before a0 Z = true) (hz : z = Int32.ofNat N) (hN : N ≤ 67108864)
    (hk' : k + 1 ≤ k') (hn' : n + N ≤ n') (hkR : k' ≤ R.cells) (hnR : n' ≤ R.slots) (hp : pc + 2 = pc')
    (K : ∀ (T' : State) (h' : Heap) (a : Addr), a = h.size → Cx p l e R s m args below meth c Z EL kn y bytes maxL ret (a :: ws) T' h' k' n' → Ext h h' → Ary Z h' a (newarray.typeOf aty) (List.replicate N (defaultValue (newarray.typeOf aty))) → Go p e below Q T' (mkF m pc' L (.ref a :: S))) : Go p e below Q T (mkF m pc L (.int z :: S)) := by
  subst hp; subst hz
  have hN' : N < 2 ^ 31 := by omega
  obtain ⟨c0, vm0, k0, locs, St, eT, hZ, hown, hS, hk, N0, H, hsf, E, hkn⟩ := X
  obtain ⟨T', h', cA, X', e', E', A, st⟩ := newP St c0.1 hZ w eT (g := mkF m pc L (.int (Int32.ofNat N) :: S)) rfl (hb c0.2.1 hd) rfl (nn32 hN') (cap := N) (Nat.le_of_eq (n32 hN')) (by omega) (Nat.le_trans hk' hkR) (Nat.le_trans hn' hnR)
  refine Go.of st (K T' h' h.size rfl ⟨c0, vm0, k0, _, X'.mono hk' hn', e', hZ, hown, hS, Nat.le_trans hk E'.1, N0, H.trans (CHr.ext E' H.1), fun x q => ?_, ext_trans E E', hkn⟩ E' ⟨_, A, ?_, by simpa using hN', ?_⟩)
  · rcases List.mem_cons.mp q with rfl | q
    · exact ⟨Safe.ext E' H.1 (Safe.new (Nat.le_refl _)), A.lt⟩
    · exact ⟨Safe.ext E' H.1 (hsf x q).1, Nat.lt_of_lt_of_le (hsf x q).2 E'.1⟩
  · simp [newA, n32 hN']
  · intro v hv
    rw [(List.mem_replicate.mp hv).2]
    cases aty <;> rfl
theorem Ary.set {a : Addr} {ty : FieldType} {vs : List Value} {i : Nat} {v : Value} {cl : Cell} (A : RoadKit.Arr Z h a cl ty) (q1 : cl.slots.toList = vs) (q2 : vs.length < 2 ^ 31) (q3 : ∀ v ∈ vs, fits ty v = true) (hv : fits ty v = true) (W : Wr h h' a i v) : Ary Z h' a ty (vs.set i v) := by
  refine ⟨_, A.same W, ?_, by simpa using q2, fun x hx => ?_⟩
  · show (cl.slots.setIfInBounds i v).toList = _
    rw [Array.toList_setIfInBounds, q1]
  · rcases List.mem_or_eq_of_mem_set hx with r | rfl
    · exact q3 x r
    · exact hv
theorem s_castore (X : Cx p l e R s m args below meth c Z EL kn y bytes maxL ret ws T h k n) {a : Addr} {vs : List Value} {i : Nat} {j x : Int32} (hd : decode bytes pc = .ok (.castore, 1)) (A : Ary Z h a .char vs) (hj : j = Int32.ofNat i) (hi : i < vs.length) (ha : Z.heap.size ≤ a) (hm : a ∈ ws) (hp : pc + 1 = pc')
    (K : ∀ T' h', Cx p l e R s m args below meth c Z EL kn y bytes maxL ret ws T' h' k n → Wr h h' a i (.int (nar .char x)) → Ary Z h' a .char (vs.set i (.int (nar .char x))) → Go p e below Q T' (mkF m pc' L S)) : Go p e below Q T (mkF m pc L (.int x :: .int j :: .ref a :: S)) := by
  subst hp; subst hj
  obtain ⟨cl, q, r1, r2, r3⟩ := A
  have sz : cl.slots.size = vs.length := by rw [← r1]; simp
  have hi2 : i < 2 ^ 31 := Nat.lt_trans hi r2
  obtain ⟨c0, vm0, k0, locs, St, eT, hZ, hown, hS, hk, N, H, hsf, E, hkn⟩ := X
  obtain ⟨T', h', X', e', W, st⟩ := stC St c0.1 hZ eT q (j := Int32.ofNat i) (x := x) (fun z => z.elim (nn32 hi2) (fun z => by rw [n32 hi2] at z; omega)) (g := mkF m pc L (.int x :: .int (Int32.ofNat i) :: .ref a :: S)) rfl rfl (hb c0.2.1 hd)
  rw [n32 hi2] at W X'
  have Sa := (hsf a hm).1
  exact Go.of st (K T' h' ⟨c0, vm0, k0, _, X', e', hZ, hown, hS, by rw [W.size]; exact hk, Fr.snoc X' N ha, H.trans (CHr.wr W Sa H.1), fun x q => ⟨Safe.wr W Sa H.1 (hsf x q).1, by rw [W.size]; exact (hsf x q).2⟩, ext_wr E W ha, hkn⟩ W (Ary.set q r1 r2 r3 (fits_nar_char x) W))
theorem fits_nar_byte (x : Int32) : fits .byte (.int (nar .byte x)) = true := by
  have h1 := c_i2b x
  show fits .byte (.int x.toInt8.toInt32) = true
  simp only [fits, Bool.and_eq_true, decide_eq_true_eq, Int32.le_iff_toInt_le]
  exact ⟨by show (-128 : Int) ≤ _; omega, by show _ ≤ (127 : Int); omega⟩
theorem s_bastore (X : Cx p l e R s m args below meth c Z EL kn y bytes maxL ret ws T h k n) {a : Addr} {vs : List Value} {i : Nat} {j x : Int32} (hd : decode bytes pc = .ok (.bastore, 1)) (A : Ary Z h a .byte vs) (hj : j = Int32.ofNat i) (hi : i < vs.length) (ha : Z.heap.size ≤ a) (hm : a ∈ ws) (hp : pc + 1 = pc')
    (K : ∀ T' h', Cx p l e R s m args below meth c Z EL kn y bytes maxL ret ws T' h' k n → Wr h h' a i (.int (nar .byte x)) → Ary Z h' a .byte (vs.set i (.int (nar .byte x))) → Go p e below Q T' (mkF m pc' L S)) : Go p e below Q T (mkF m pc L (.int x :: .int j :: .ref a :: S)) := by
  subst hp; subst hj
  obtain ⟨cl, q, r1, r2, r3⟩ := A
  have sz : cl.slots.size = vs.length := by rw [← r1]; simp
  have hi2 : i < 2 ^ 31 := Nat.lt_trans hi r2
  obtain ⟨c0, vm0, k0, locs, St, eT, hZ, hown, hS, hk, N, H, hsf, E, hkn⟩ := X
  obtain ⟨T', h', X', e', W, st⟩ := stB St c0.1 hZ eT q (j := Int32.ofNat i) (x := x) (fun z => z.elim (nn32 hi2) (fun z => by rw [n32 hi2] at z; omega)) (g := mkF m pc L (.int x :: .int (Int32.ofNat i) :: .ref a :: S)) rfl rfl (hb c0.2.1 hd)
  rw [n32 hi2] at W X'
  have Sa := (hsf a hm).1
  exact Go.of st (K T' h' ⟨c0, vm0, k0, _, X', e', hZ, hown, hS, by rw [W.size]; exact hk, Fr.snoc X' N ha, H.trans (CHr.wr W Sa H.1), fun x q => ⟨Safe.wr W Sa H.1 (hsf x q).1, by rw [W.size]; exact (hsf x q).2⟩, ext_wr E W ha, hkn⟩ W (Ary.set q r1 r2 r3 (fits_nar_byte x) W))
theorem ary_at {cl : Cell} {vs : List Value} {i : Nat} {v : Value} (r1 : cl.slots.toList = vs) (r2 : vs.length < 2 ^ 31) (hv : vs[i]? = some v) : ¬ (Int32.ofNat i < 0 ∨ cl.slots.size ≤ (Int32.ofNat i).toNatClampNeg) ∧ cl.slots[(Int32.ofNat i).toNatClampNeg]? = some v := by
  have hi : i < vs.length := by
    rcases Nat.lt_or_ge i vs.length with q | q
    · exact q
    · rw [List.getElem?_eq_none q] at hv; cases hv
  have sz : cl.slots.size = vs.length := by rw [← r1]; simp
  have hi2 : i < 2 ^ 31 := Nat.lt_trans hi r2
  refine ⟨fun z => z.elim (nn32 hi2) (fun z => by rw [n32 hi2] at z; omega), ?_⟩
  rw [n32 hi2, ← Array.getElem?_toList, r1]; exact hv
theorem s_caload (X : Cx p l e R s m args below meth c Z EL kn y bytes maxL ret ws T h k n) {a : Addr} {vs : List Value} {i : Nat} {j : Int32} {v : Value} (hd : decode bytes pc = .ok (.caload, 1)) (A : Ary Z h a .char vs) (hj : j = Int32.ofNat i) (hv : vs[i]? = some v) (hp : pc + 1 = pc')
    (K : Go p e below Q T (mkF m pc' L (v :: S))) : Go p e below Q T (mkF m pc L (.int j :: .ref a :: S)) := by
  subst hp; subst hj
  obtain ⟨cl, q, r1, r2, r3⟩ := A
  obtain ⟨i1, i2⟩ := ary_at r1 r2 hv
  obtain ⟨c0, vm0, k0, locs, St, eT, hZ, r⟩ := X
  exact Go.of (St.caload c0.1 (by rw [eT]; exact q.1) (State.isArrayOf_alike hZ.alike q.2.1) q.2.2 i1 i2 (g := mkF m pc L (.int (Int32.ofNat i) :: .ref a :: S)) rfl rfl (hb c0.2.1 hd)) K
theorem s_baload (X : Cx p l e R s m args below meth c Z EL kn y bytes maxL ret ws T h k n) {a : Addr} {vs : List Value} {i : Nat} {j : Int32} {v : Value} (hd : decode bytes pc = .ok (.baload, 1)) (A : Ary Z h a .byte vs) (hj : j = Int32.ofNat i) (hv : vs[i]? = some v) (hp : pc + 1 = pc')
    (K : Go p e below Q T (mkF m pc' L (v :: S))) : Go p e below Q T (mkF m pc L (.int j :: .ref a :: S)) := by
  subst hp; subst hj
  obtain ⟨cl, q, r1, r2, r3⟩ := A
  obtain ⟨i1, i2⟩ := ary_at r1 r2 hv
  obtain ⟨c0, vm0, k0, locs, St, eT, hZ, r⟩ := X
  exact Go.of (St.baloadBytes c0.1 (by rw [eT]; exact q.1) (State.isArrayOf_alike hZ.alike q.2.1) q.2.2 i1 i2 (g := mkF m pc L (.int (Int32.ofNat i) :: .ref a :: S)) rfl rfl (hb c0.2.1 hd)) K
theorem s_aaload (X : Cx p l e R s m args below meth c Z EL kn y bytes maxL ret ws T h k n) {a : Addr} {vs : List Value} {i : Nat} {j : Int32} {v : Value} {ty : FieldType} (hd : decode bytes pc = .ok (.aaload, 1)) (A : Ary Z h a ty vs) (hty : ty.isReference = true) (hj : j = Int32.ofNat i) (hv : vs[i]? = some v) (hp : pc + 1 = pc')
    (K : Go p e below Q T (mkF m pc' L (v :: S))) : Go p e below Q T (mkF m pc L (.int j :: .ref a :: S)) := by
  subst hp; subst hj
  obtain ⟨cl, q, r1, r2, r3⟩ := A
  obtain ⟨i1, i2⟩ := ary_at r1 r2 hv
  obtain ⟨c0, vm0, k0, locs, St, eT, hZ, r⟩ := X
  exact Go.of (St.aaload c0.1 (by rw [eT]; exact q.1) (State.isArrayOf_alike hZ.alike q.2.1) hty q.2.2 i1 i2 (g := mkF m pc L (.int (Int32.ofNat i) :: .ref a :: S)) rfl rfl (hb c0.2.1 hd)) K
theorem s_alen (X : Cx p l e R s m args below meth c Z EL kn y bytes maxL ret ws T h k n) {a : Addr} {vs : List Value} {ty : FieldType} {z : Int32} (hd : decode bytes pc = .ok (.arraylength, 1)) (A : Ary Z h a ty vs) (hz : Int32.ofNat vs.length = z) (hp : pc + 1 = pc')
    (K : Go p e below Q T (mkF m pc' L (.int z :: S))) : Go p e below Q T (mkF m pc L (.ref a :: S)) := by
  subst hp; subst hz
  obtain ⟨cl, q, r1, r2, r3⟩ := A
  have sz : cl.slots.size = vs.length := by rw [← r1]; simp
  obtain ⟨c0, vm0, k0, locs, St, eT, hZ, r⟩ := X
  rw [← sz] at K
  exact Go.of (St.arraylength c0.1 (by rw [eT]; exact q.1) (State.isArrayOf_alike hZ.alike q.2.1) (g := mkF m pc L (.ref a :: S)) rfl rfl (hb c0.2.1 hd)) K
theorem s_ldcI (X : Cx p l e R s m args below meth c Z EL kn y bytes maxL ret ws T h k n) {index : Nat} {v : Int32} (hd : decode bytes pc = .ok (.ldc index, 2)) (w : (Cond.constant y.cls index v).before a0 Z = true) (hp : pc + 2 = pc') (K : Go p e below Q T (mkF m pc' L (.int v :: S))) : Go p e below Q T (mkF m pc L S) := by
  subst hp
  obtain ⟨c0, vm0, k0, locs, St, eT, hZ, hown, r⟩ := X
  exact Go.of (fun t q => Jvm.Stand.ldcI St c0.1 hown (mvT hZ w) (g := mkF m pc L S) rfl (hb c0.2.1 hd) q) K
theorem s_ldc2J (X : Cx p l e R s m args below meth c Z EL kn y bytes maxL ret ws T h k n) {index : Nat} {v : Int64} (hd : decode bytes pc = .ok (.ldc2_w index, 3)) (w : (Cond.constantLong y.cls index v).before a0 Z = true) (hp : pc + 3 = pc') (K : Go p e below Q T (mkF m pc' L (.long v :: S))) : Go p e below Q T (mkF m pc L S) := by
  subst hp
  obtain ⟨c0, vm0, k0, locs, St, eT, hZ, hown, r⟩ := X
  exact Go.of (fun t q => Jvm.Stand.ldc2J St c0.1 hown (mvT hZ w) (g := mkF m pc L S) rfl (hb c0.2.1 hd) q) K
theorem s_instY (X : Cx p l e R s m args below meth c Z EL kn y bytes maxL ret ws T h k n) {index : Nat} {K0 : String} {a : Addr} (hd : decode bytes pc = .ok (.instanceof index, 3)) (w : (Cond.classLink y.cls index K0).before a0 Z = true) (F : Ins Z h a K0 true) (hp : pc + 3 = pc')
    (K : ∀ T', Cx p l e R s m args below meth c Z EL kn y bytes maxL ret ws T' h k n → Go p e below Q T' (mkF m pc' L (.int 1 :: S))) : Go p e below Q T (mkF m pc L (.ref a :: S)) := by
  subst hp
  obtain ⟨c0, vm0, k0, locs, St, eT, hZ, hown, hS, hk, N, H, hsf, E, hkn⟩ := X
  obtain ⟨T', X', e', st⟩ := instY St c0.1 hZ hown w eT F (g := mkF m pc L (.ref a :: S)) rfl rfl (hb c0.2.1 hd)
  exact Go.of st (K T' ⟨c0, vm0, k0, locs, X', e', hZ, hown, hS, hk, N, H, hsf, E, hkn⟩)
theorem s_instN (X : Cx p l e R s m args below meth c Z EL kn y bytes maxL ret ws T h k n) {index : Nat} {K0 C : String} {a : Addr} (hd : decode bytes pc = .ok (.instanceof index, 3)) (w : (Cond.classLink y.cls index K0).before a0 Z = true) (E0 : Exa Z h a C) (F : Ins Z h a K0 false) (hp : pc + 3 = pc')
    (K : ∀ T', Cx p l e R s m args below meth c Z EL kn y bytes maxL ret ws T' h k n → Go p e below Q T' (mkF m pc' L (.int 0 :: S))) : Go p e below Q T (mkF m pc L (.ref a :: S)) := by
  subst hp
  obtain ⟨c0, vm0, k0, locs, St, eT, hZ, hown, hS, hk, N, H, hsf, E, hkn⟩ := X
  obtain ⟨cell, cT, h1, h2, h3⟩ := F
  obtain ⟨cell', kk, e1, -, e3, e4, -⟩ := E0
  cases h1.symm.trans e1
  have hZ' : Z.Warmed39 (s.setVm vm0).vm := hZ
  obtain ⟨k', q, -⟩ := hZ'.alike.2.2 _ _ e3
  obtain ⟨vm', X', st⟩ := Jvm.Sym.instanceofNoAt St c0.1 hown (mv hZ w) (by rw [eT]; exact h1) e4 q (by rw [hZ'.alike.findClass]; exact h2) (by rw [hZ'.alike.assignable]; simpa [e4] using h3) (g := mkF m pc L (.ref a :: S)) rfl rfl (hb c0.2.1 hd)
  exact Go.of st (K _ ⟨c0, vm0, k0, locs, X', eT, hZ, hown, hS, hk, N, H, hsf, E, hkn⟩)
theorem s_instNull (X : Cx p l e R s m args below meth c Z EL kn y bytes maxL ret ws T h k n) {index : Nat} (hd : decode bytes pc = .ok (.instanceof index, 3)) (hp : pc + 3 = pc') (K : Go p e below Q T (mkF m pc' L (.int 0 :: S))) : Go p e below Q T (mkF m pc L (.null :: S)) := by
  subst hp
  obtain ⟨c0, vm0, k0, locs, St, r⟩ := X
  exact Go.of (St.instanceofNull c0.1 (g := mkF m pc L (.null :: S)) rfl rfl (hb c0.2.1 hd)) K
theorem s_castY (X : Cx p l e R s m args below meth c Z EL kn y bytes maxL ret ws T h k n) {index : Nat} {K0 : String} {a : Addr} (hd : decode bytes pc = .ok (.checkcast index, 3)) (w : (Cond.classLink y.cls index K0).before a0 Z = true) (F : Ins Z h a K0 true) (hp : pc + 3 = pc')
    (K : ∀ T', Cx p l e R s m args below meth c Z EL kn y bytes maxL ret ws T' h k n → Go p e below Q T' (mkF m pc' L (.ref a :: S))) : Go p e below Q T (mkF m pc L (.ref a :: S)) := by
  subst hp
  obtain ⟨c0, vm0, k0, locs, St, eT, hZ, hown, hS, hk, N, H, hsf, E, hkn⟩ := X
  obtain ⟨T', X', e', st⟩ := castY St c0.1 hZ hown w eT F (g := mkF m pc L (.ref a :: S)) rfl rfl (hb c0.2.1 hd)
  exact Go.of st (K T' ⟨c0, vm0, k0, locs, X', e', hZ, hown, hS, hk, N, H, hsf, E, hkn⟩)
/-- the end of a walk -/
def Post (Z : State) (EL : List (String × Nat)) (U : State) (rm : Room) (Qc : Option Value → Heap → List Addr → Prop) (o : Outcome) (U' : State) : Prop :=
  ∃ v L ws', o = .returned v ∧ Qc v U'.heap ws' ∧ Fr Z.heap.size L ∧ Ext Z.heap U'.heap ∧ CHr Z EL U.vm U.heap U'.vm U'.heap ∧ (∀ x ∈ ws', Safe Z EL U'.vm U'.heap x ∧ x < U'.heap.size) ∧ ReturnedEndW U o U' L rm.cells rm.slots
/-- a body's contract -/
def Con (l : Launch) (Z : State) (EL : List (String × Nat)) (kn : Prop) (y : MethodName) (bytes : ByteArray) (maxL : Nat) (ret : Option FieldType) (rm : Room) (ws : List Addr) (as' : Array Value) (h : Heap) (Qc : Option Value → Heap → List Addr → Prop) : Prop :=
  ∀ wds : List Jvm.Cond, MetFree l y (head1 (Jvm.Cond.code y bytes maxL ret :: wds) rm) (fun a U => a = as' ∧ Z.Warmed39 U.vm ∧ U.heap = h ∧ CHv Z EL U.vm h ∧ (∀ x ∈ ws, Safe Z EL U.vm h x ∧ x < h.size) ∧ Ext Z.heap h) (fun _ _ bl U _ => kn → U.vm.MethodsKnown ∧ U.vm.FramesKnown bl) (fun _ U o U' => Post Z EL U rm Qc o U')
theorem Con.intro {rm : Room} {as' : Array Value} {Qc : Option Value → Heap → List Addr → Prop} (pn : plainName y.cls = true)
    (body : ∀ p e s m below meth c T, Cx p l e rm s m as' below meth c Z EL kn y bytes maxL ret ws T h 0 0 → Go p e below (Post Z EL s rm Qc) T (entryFrame m as' maxL)) : Con l Z EL kn y bytes maxL ret rm ws as' h Qc := by
  intro wds
  refine MetFree.of_bodySF (plainFor_of_name pn) hisR ?_
  intro p e s m args below meth c s₁ Bd hml0 hP hK
  obtain ⟨rfl, hZ, hh, hCH, hsf, hE⟩ := hP
  have St : Stand p l e rm s m args below meth c s₁ [] 0 0 := Stand.of_body Bd
  have e0 : s₁.heap = h := by rw [← hh, Bd.state]; rfl
  have hown : s.vm.findClass y.cls = some m.cls := findClass_of_methodNamed Bd.named
  have hnm := (name_of_methodNamed Bd.named Bd.method).1
  exact body p e s m below meth c s₁ ⟨⟨Bd.exec, Bd.bytes, hml0, Bd.returns, Bd.notSynchronized, hnm⟩, s.vm, 0, [], St, e0, hZ, hown, (State.WarmedH.refl s).since 0, Nat.zero_le _, Fr.nil _, by rw [← hh] at hCH ⊢; exact CHr.refl hCH, hsf, hE, hK⟩
theorem rew_mono {U U' : State} {o : Outcome} {Lc : List Loc} {k1 n1 k2 n2 : Nat} (q : ReturnedEndW U o U' Lc k1 n1) (hk : k1 ≤ k2) (hn : n1 ≤ n2) : ReturnedEndW U o U' Lc k2 n2 := ⟨q.1, q.2.1, q.2.2.1, q.2.2.2.mono hk hn⟩
theorem Cx.fin (X : Cx p l e R s m args below meth c Z EL kn y bytes maxL ret ws T h k n) (hEL : EW Z a0 EL) {rm : Room} {Qc : Option Value → Heap → List Addr → Prop} {v : Option Value} {ws' : List Addr} (hv : ret = none → v = none) (hk : k ≤ rm.cells) (hn : n ≤ rm.slots) (hQ : Qc v h ws') (hws : ∀ x ∈ ws', x ∈ ws) {gf : JFrame}
    (st : ∀ fs, (∀ (f : JFrame) (acts : List Action), f.method = m → f.locked = none → f.entered = [] → (doReturn e (T.setTop f) acts v).1 = T.setFrames fs) → Steps p.tables e below (T.setTop gf) (T.setFrames fs)) : Go p e below (Post Z EL s rm Qc) T gf := by
  obtain ⟨c0, vm0, k0, locs, St, eT, hZ, hown, hS, hk0, N, H, hsf, E, hkn⟩ := X
  obtain ⟨fs, h1, h2, h3, h4⟩ := St.leaveW hS (by rw [eT]; exact hk0) (v := v) (fun q => hv (c0.2.2.2.1.symm.trans q)) (hlocks := c0.2.2.2.2.1)
  have C := CHv.at St hZ hEL H.1
  refine ⟨T.setFrames fs, .returned v, st fs h1, h2, h3, v, locs, ws', rfl, ?_, N, ?_, ?_, fun x q => ?_, rew_mono h4 hk hn⟩
  · show Qc v T.heap ws'; rw [eT]; exact hQ
  · show Ext Z.heap T.heap; rw [eT]; exact E
  · show CHr Z EL s.vm s.heap T.vm T.heap; rw [eT]; exact H.trans C
  · show Safe Z EL T.vm T.heap x ∧ x < T.heap.size
    rw [eT]; exact ⟨C.safe (hsf x (hws x q)).2 (hsf x (hws x q)).1, (hsf x (hws x q)).2⟩
theorem Cx.stand (X : Cx p l e R s m args below meth c Z EL kn y bytes maxL ret ws T h k n) : ∃ vm0 locs, Stand p l e R (s.setVm vm0) m args below meth c T locs k n := by obtain ⟨c0, vm0, k0, locs, St, -⟩ := X; exact ⟨vm0, locs, St⟩
theorem s_ret (X : Cx p l e R s m args below meth c Z EL kn y bytes maxL none ws T h k n) (hEL : EW Z a0 EL) {rm : Room} {Qc : Option Value → Heap → List Addr → Prop} {ws' : List Addr} (hd : decode bytes pc = .ok (.return_, 1)) (hk : k ≤ rm.cells) (hn : n ≤ rm.slots) (hws : ∀ x ∈ ws', x ∈ ws) (hQ : Qc none h ws') : Go p e below (Post Z EL s rm Qc) T (mkF m pc L []) := by
  obtain ⟨vm0, locs, St⟩ := X.stand
  exact X.fin hEL (fun _ => rfl) hk hn hQ hws fun fs q => St.returnOut X.exec X.1.2.2.2.1 (hb X.code hd) q
theorem s_iretN (X : Cx p l e R s m args below meth c Z EL kn y bytes maxL ret ws T h k n) (hEL : EW Z a0 EL) {rm : Room} {Qc : Option Value → Heap → List Addr → Prop} {ws' : List Addr} {t : FieldType} {z : Int32} (hd : decode bytes pc = .ok (.ireturn, 1)) (hr : ret = some t) (ht : t = .boolean ∨ t = .byte ∨ t = .char ∨ t = .short) (hk : k ≤ rm.cells) (hn : n ≤ rm.slots) (hws : ∀ x ∈ ws', x ∈ ws) (hQ : Qc (some (.int (nar t z))) h ws') : Go p e below (Post Z EL s rm Qc) T (mkF m pc L (.int z :: S)) := by
  obtain ⟨vm0, locs, St⟩ := X.stand
  exact X.fin hEL (fun q => by rw [hr] at q; cases q) hk hn hQ hws fun fs q => retN St X.exec (X.1.2.2.2.1.trans hr) ht (hb X.code hd) q
theorem s_iret (X : Cx p l e R s m args below meth c Z EL kn y bytes maxL (some .int) ws T h k n) (hEL : EW Z a0 EL) {rm : Room} {Qc : Option Value → Heap → List Addr → Prop} {ws' : List Addr} {z : Int32} (hd : decode bytes pc = .ok (.ireturn, 1)) (hk : k ≤ rm.cells) (hn : n ≤ rm.slots) (hws : ∀ x ∈ ws', x ∈ ws) (hQ : Qc (some (.int z)) h ws') : Go p e below (Post Z EL s rm Qc) T (mkF m pc L (.int z :: S)) := by
  obtain ⟨vm0, locs, St⟩ := X.stand
  exact X.fin hEL (fun q => by cases q) hk hn hQ hws fun fs q => retOut St X.exec X.1.2.2.2.1 rfl (Or.inl ⟨rfl, Or.inl rfl, _, rfl⟩) (hb X.code hd) q
theorem s_aret (X : Cx p l e R s m args below meth c Z EL kn y bytes maxL ret ws T h k n) (hEL : EW Z a0 EL) {rm : Room} {Qc : Option Value → Heap → List Addr → Prop} {ws' : List Addr} {t : FieldType} {v : Value} (hd : decode bytes pc = .ok (.areturn, 1)) (hr : ret = some t) (ht : t.isReference = true) (hnr : narrow t v = v) (hv : v.isRef = true) (hk : k ≤ rm.cells) (hn : n ≤ rm.slots) (hws : ∀ x ∈ ws', x ∈ ws) (hQ : Qc (some v) h ws') : Go p e below (Post Z EL s rm Qc) T (mkF m pc L (v :: S)) := by
  obtain ⟨vm0, locs, St⟩ := X.stand
  exact X.fin hEL (fun q => by rw [hr] at q; cases q) hk hn hQ hws fun fs q => retOut St X.exec (X.1.2.2.2.1.trans hr) hnr (Or.inr (Or.inr (Or.inr (Or.inr ⟨rfl, ht, hv⟩)))) (hb X.code hd) q
/-- who pays a call -/
def Pay (l : Launch) (R : Room) (p : Program) (e : Env) (below : List Frame) (s : State) (args : Array Value) (Z : State) (EL : List (String × Nat)) (kn : Prop) (ws : List Addr) (y : MethodName) (len W ck sk : Nat) (as' : Array Value) (h : Heap) (Qc : Option Value → Heap → List Addr → Prop) : Prop :=
  ∀ vm0 : Vm, Z.Warmed39 vm0 → CHv Z EL vm0 h → (∀ x ∈ ws, Safe Z EL vm0 h x ∧ x < h.size) → Ext Z.heap h → (kn → vm0.MethodsKnown ∧ vm0.FramesKnown below) →
    BackS l R p e below (s.setVm vm0) args y len W (fun A a => a = as' ∧ A.U.heap = h ∧ A.cells + ck ≤ R.cells ∧ A.slots + sk ≤ R.slots)
      (fun A _ v B => ∃ L ws', Qc v B.U.heap ws' ∧ Fr Z.heap.size L ∧ Ext Z.heap B.U.heap ∧ B.locs = A.locs ++ L ∧ B.cells = A.cells + ck ∧ B.slots = A.slots + sk ∧ CHr Z EL vm0 h B.U.vm B.U.heap ∧ ∀ x ∈ ws', Safe Z EL B.U.vm B.U.heap x ∧ x < B.U.heap.size)
theorem safe_at {vm0 : Vm} {locs : List Loc} (St : Stand p l e R (s.setVm vm0) m args below meth c T locs k n) (hZ : Z.Warmed39 vm0) (hEL : EW Z a0 EL) (H : CHv Z EL vm0 h) (hsf : ∀ x ∈ ws, Safe Z EL vm0 h x ∧ x < h.size) : ∀ x ∈ ws, Safe Z EL T.vm h x ∧ x < h.size := fun x q => ⟨(CHv.at St hZ hEL H).safe (hsf x q).2 (hsf x q).1, (hsf x q).2⟩
theorem Con.pay {z : MethodName} {b' : ByteArray} {mL' : Nat} {r' : Option FieldType} {rm : Room} {as' : Array Value} {Qc : Option Value → Heap → List Addr → Prop} {len W : Nat} (C : Con l Z EL kn z b' mL' r' rm ws as' h Qc) (wc : (Jvm.Cond.code z b' mL' r').before a0 Z = true) (wz : (Jvm.Cond.initialized z.cls).before a0 Z = true) (hEL : EW Z a0 EL) (hf : rm.frames + 1 ≤ R.frames) (hl : W + (mL' + 11) + rm.locals ≤ R.locals) :
    Pay l R p e below s args Z EL kn ws z len W rm.cells rm.slots as' h Qc := by
  intro vm0 hZ H hsf hE hkn
  refine BackS.of_freeWG (bytes := b') (maxL := mL') (ret := r') (E := fun _ first o t L k n => k = rm.cells ∧ n = rm.slots ∧ (∃ v ws', o = .returned v ∧ Qc v t.heap ws' ∧ Fr Z.heap.size L ∧ Ext Z.heap t.heap ∧ ∀ x ∈ ws', Safe Z EL t.vm t.heap x ∧ x < t.heap.size) ∧ CHr Z EL first.vm first.heap t.vm t.heap) (C []) hf hl
    (fun m meth c A a Y hp => have hU : Z.Warmed39 A.U.vm := wtrans (s := s.setVm vm0) hZ Y.warmed
      ⟨by show (Jvm.Cond.and _ .tt).before a A.U = true; rw [Cond.before_and, mv hU wc]; rfl, mv hU wc, mv hU wz, hp.2.2.1, hp.2.2.2⟩)
    (fun m meth c A a g mk Y hp => ⟨hp.1, wtrans (s := s.setVm vm0) hZ Y.warmed, hp.2.1, (CHv.at Y hZ hEL H).1, safe_at (T := A.U) Y hZ hEL H hsf, hE⟩)
    (fun m meth c A a g mk Y _ hg hk => known_frames Y hg (hkn hk).1 (hkn hk).2)
    (fun _ _ _ _ ⟨v, L, ws', h1, h2, h3, h4, h5, h6, h7⟩ => ⟨L, _, _, h7, rfl, rfl, ⟨v, ws', h1, h2, h3, h4, h6⟩, h5⟩) ?_
  intro m meth c A a g mk v t L k n Y hp _ _ hE'
  obtain ⟨e1, e2, ⟨v', ws', e3, e4, e5, e6, e7⟩, e8⟩ := hE'
  cases e3; subst e1 e2
  refine ⟨L, ws', e4, e5, e6, rfl, rfl, rfl, (CHv.at Y hZ hEL H).trans ?_, e7⟩
  rw [← hp.2.1]; exact e8
theorem Pay.sub {z : MethodName} {as' : Array Value} {Qc : Option Value → Heap → List Addr → Prop} {len W ck sk : Nat} {ws0 : List Addr} (P : Pay l R p e below s args Z EL kn ws0 z len W ck sk as' h Qc) (hs : ∀ x ∈ ws0, x ∈ ws) : Pay l R p e below s args Z EL kn ws z len W ck sk as' h Qc :=
  fun vm0 hZ H hsf hE hkn => P vm0 hZ H (fun x q => hsf x (hs x q)) hE hkn
theorem Con.payS {z : MethodName} {b' : ByteArray} {mL' : Nat} {r' : Option FieldType} {rm : Room} {as' : Array Value} {Qc : Option Value → Heap → List Addr → Prop} {len W : Nat} {ws0 : List Addr} (C : Con l Z EL kn z b' mL' r' rm ws0 as' h Qc) (hs : ∀ x ∈ ws0, x ∈ ws) (wc : (Jvm.Cond.code z b' mL' r').before a0 Z = true) (wz : (Jvm.Cond.initialized z.cls).before a0 Z = true) (hEL : EW Z a0 EL) (hf : rm.frames + 1 ≤ R.frames) (hl : W + (mL' + 11) + rm.locals ≤ R.locals) :
    Pay l R p e below s args Z EL kn ws z len W rm.cells rm.slots as' h Qc := (C.pay wc wz hEL hf hl).sub hs
theorem Pay.of_back {z : MethodName} {as' : Array Value} {Q0 : Option Value → Heap → List Loc → Prop} {Qc : Option Value → Heap → List Addr → Prop} {len W ck sk : Nat} (hEL : EW Z a0 EL)
    (B : ∀ vm0 : Vm, Z.Warmed39 vm0 → Back l R p e below (s.setVm vm0) args z len W (fun P a => a = as' ∧ P.U.heap = h ∧ P.cells + ck ≤ R.cells ∧ P.slots + sk ≤ R.slots) (fun P _ v B => ∃ L, Q0 v B.U.heap L ∧ B.locs = P.locs ++ L ∧ B.cells = P.cells + ck ∧ B.slots = P.slots + sk))
    (hq : ∀ v h' L, Q0 v h' L → ∃ wr ws', Keep h h' wr ∧ (∀ x ∈ wr, x ∈ ws ∧ Z.heap.size ≤ x) ∧ Fr Z.heap.size L ∧ Qc v h' ws' ∧ ∀ x ∈ ws', x ∈ ws ∨ (h.size ≤ x ∧ x < h'.size)) : Pay l R p e below s args Z EL kn ws z len W ck sk as' h Qc := by
  intro vm0 hZ H hsf hE hkn m meth c A g ig mk a X hg hsize hdg hW hn hp
  obtain ⟨v, B1, X', ⟨L, q0, r1, r2, r3⟩, st⟩ := B vm0 hZ m meth c A g ig mk a X hg hsize hdg hW hn hp
  obtain ⟨wr, ws', K, k1, k2, k3, k4⟩ := hq _ _ _ q0
  have sw : ∀ x ∈ wr, Safe Z EL vm0 h x := fun x q => (hsf x (k1 x q).1).1
  have C1 : CHr Z EL vm0 h vm0 B1.U.heap := CHr.keep K sw H
  have C2 := CHv.at X' hZ hEL C1.1
  refine ⟨v, B1, X'.retabled X'.warmed.wide, X'.warmed.since _, by rw [hp.2.1]; exact K.1, ⟨L, ws', k3, k2, ext_keep hE K fun x q => (k1 x q).2, r1, r2, r3, C1.trans C2, fun x q => ?_⟩, st⟩
  have lt : x < B1.U.heap.size := (k4 x q).elim (fun r => Nat.lt_of_lt_of_le (hsf x r).2 K.1) (fun r => r.2)
  refine ⟨C2.safe lt ?_, lt⟩
  exact Safe.keep K sw H ((k4 x q).elim (fun r => (hsf x r).1) (fun r => Safe.new r.1))
theorem after {vm0 : Vm} {k0 : Nat} {locs L' : List Loc} {ws' : List Addr} {ck sk : Nat} {U : State} (c0 : p.tables.exec = Jvm.exec ∧ c.code = bytes ∧ c.maxLocals = maxL ∧ meth.sig.returnType = ret ∧ meth.locks = false ∧ meth.name = y.name)
    (X' : Stand p l e R ((s.setVm vm0).setVm U.vm) m args below meth c U (locs ++ L') (k + ck) (n + sk)) (hZ : Z.Warmed39 vm0) (hown : vm0.findClass y.cls = some m.cls) (hS : s.Since vm0 k0) (hk : k0 ≤ h.size) (N : Fr Z.heap.size locs) (H : CHr Z EL s.vm s.heap vm0 h) (hsf : ∀ x ∈ ws, Safe Z EL vm0 h x ∧ x < h.size) (hkn : kn → vm0.MethodsKnown ∧ vm0.FramesKnown below)
    (h2 : (s.setVm vm0).Since U.vm U.heap.size) (hgr : h.size ≤ U.heap.size) (N' : Fr Z.heap.size L') (E' : Ext Z.heap U.heap) (H' : CHr Z EL vm0 h U.vm U.heap) (hsf' : ∀ x ∈ ws', Safe Z EL U.vm U.heap x ∧ x < U.heap.size) :
    Cx p l e R s m args below meth c Z EL kn y bytes maxL ret (ws' ++ ws) U U.heap (k + ck) (n + sk) := by
  have al : vm0.Alike U.vm := h2.1.alike
  refine ⟨c0, U.vm, _, _, X', rfl, State.Warmed39.trans (t := s.setVm vm0) hZ h2.1, (al.findClass _ _).trans hown, hS.trans h2 (Nat.le_trans hk hgr), Nat.le_refl _, N.app N', H.trans H', fun x q => ?_, E', fun q => ⟨Vm.MethodsKnown.alikeC al (hkn q).1, fun fr hfr m' hm' => knowsMethod_alike al ((hkn q).2 fr hfr m' hm')⟩⟩
  rcases List.mem_append.mp q with q | q
  · exact hsf' x q
  · exact ⟨H'.safe (hsf x q).2 (hsf x q).1, Nat.lt_of_lt_of_le (hsf x q).2 hgr⟩
theorem s_static (X : Cx p l e R s m args below meth c Z EL kn y bytes maxL ret ws T h k n) {index : Nat} {z : MethodName} {b' : ByteArray} {mL' : Nat} {r' : Option FieldType} {W ck sk : Nat} {as' : List Value} {Qc : Option Value → Heap → List Addr → Prop} {ps : List FieldType} {rr : Option FieldType} {stk : List Value} {k' n' : Nat} (hd : decode bytes pc = .ok (.invokestatic index, 3))
    (w1 : (Jvm.Cond.methodLink y.cls index z).before a0 Z = true) (w2 : (Jvm.Cond.static z).before a0 Z = true) (w3 : (Jvm.Cond.initialized z.cls).before a0 Z = true) (w4 : (Jvm.Cond.code z b' mL' r').before a0 Z = true) (hz : z.cls ≠ "java/lang/invoke/MethodHandle" ∧ z.cls ≠ "java/lang/invoke/VarHandle") (hpd : parseMethodDescriptor z.desc = some ⟨ps, rr⟩) (hlen : as'.length = ps.length)
    (P : Pay l R p e below s args Z EL kn ws z 3 W ck sk as'.toArray h Qc) (hW : (S.map fun v => v.category).sum ≤ W) (hsz : L.size = maxL) (hst : stk = as'.reverse ++ S) (hk' : k + ck ≤ k') (hn' : n + sk ≤ n') (hkR : k' ≤ R.cells) (hnR : n' ≤ R.slots) (hp : pc + 3 = pc')
    (K : ∀ T' h' v ws', Cx p l e R s m args below meth c Z EL kn y bytes maxL ret (ws' ++ ws) T' h' k' n' → h.size ≤ h'.size → Qc v h' ws' → Go p e below Q T' (mkF m pc' L (v.toList ++ S))) : Go p e below Q T (mkF m pc L stk) := by
  subst hp; subst hst
  obtain ⟨c0, vm0, k0, locs, St, eT, hZ, hown, hS, hk, N, H, hsf, E, hkn⟩ := X
  have hP := P vm0 hZ H.1 hsf E hkn
  obtain ⟨v, vm₁, B, hw, X', h2, hgr, ⟨L', ws', q1, q2, q3, q4, q5, q6, q7, q8⟩, st⟩ := callSS St c0.1 hown (mvT hZ w1) (mvT hZ w2) (mvT hZ w3) (mvT hZ w4) hz hP (g := mkF m pc L (as'.reverse ++ S)) rfl (hsz.trans c0.2.2.1.symm) (lenOf hpd hlen) rfl (by show 2 * 0 + _ ≤ _; omega) (hb c0.2.1 hd) (fun _ _ => ⟨rfl, eT, Nat.le_trans hk' hkR, Nat.le_trans hn' hnR⟩)
  obtain ⟨U, Lb, kb, nb⟩ := B
  dsimp only [Pt.U, Pt.locs, Pt.cells, Pt.slots] at X' h2 hgr q1 q2 q3 q4 q5 q6 q7 q8 st
  subst q4 q5 q6
  rw [eT] at hgr
  exact Go.of (fun t q => st.trans q) (K U U.heap v ws' ((after c0 X' hZ hown hS hk N H hsf hkn h2 hgr q2 q3 q7 q8).more hk' hn') hgr q1)
theorem s_special (X : Cx p l e R s m args below meth c Z EL kn y bytes maxL ret ws T h k n) {index : Nat} {z : MethodName} {b' : ByteArray} {mL' : Nat} {W ck sk : Nat} {a : Addr} {as' : List Value} {Qc : Option Value → Heap → List Addr → Prop} {ps : List FieldType} {rr : Option FieldType} {stk : List Value} {k' n' : Nat} (hd : decode bytes pc = .ok (.invokespecial index, 3)) (hz1 : z.name = "<init>")
    (w1 : (Jvm.Cond.methodLink y.cls index z).before a0 Z = true) (w2 : (Jvm.Cond.instanceMethod z).before a0 Z = true) (w4 : (Jvm.Cond.code z b' mL' none).before a0 Z = true) (hz : z.cls ≠ "java/lang/invoke/MethodHandle" ∧ z.cls ≠ "java/lang/invoke/VarHandle") (hpd : parseMethodDescriptor z.desc = some ⟨ps, rr⟩) (hlen : as'.length = ps.length)
    (P : Pay l R p e below s args Z EL kn ws z 3 W ck sk (.ref a :: as').toArray h Qc) (hW : (S.map fun v => v.category).sum ≤ W) (hsz : L.size = maxL) (hst : stk = as'.reverse ++ .ref a :: S) (hk' : k + ck ≤ k') (hn' : n + sk ≤ n') (hkR : k' ≤ R.cells) (hnR : n' ≤ R.slots) (hp : pc + 3 = pc')
    (K : ∀ T' h' v ws', Cx p l e R s m args below meth c Z EL kn y bytes maxL ret (ws' ++ ws) T' h' k' n' → h.size ≤ h'.size → Qc v h' ws' → Go p e below Q T' (mkF m pc' L (v.toList ++ S))) : Go p e below Q T (mkF m pc L stk) := by
  subst hp; subst hst
  obtain ⟨c0, vm0, k0, locs, St, eT, hZ, hown, hS, hk, N, H, hsf, E, hkn⟩ := X
  have hP := P vm0 hZ H.1 hsf E hkn
  obtain ⟨v, vm₁, B, hw, X', h2, hgr, ⟨L', ws', q1, q2, q3, q4, q5, q6, q7, q8⟩, st⟩ := St.specialBackS c0.1 hz1 hown (mvT hZ w1) (mvT hZ w2) (mvT hZ w4) hz hP (g := mkF m pc L (as'.reverse ++ .ref a :: S)) rfl (hsz.trans c0.2.2.1.symm) (Steps.refl _) (lenOf hpd hlen) rfl (by show 2 * 0 + _ ≤ _; omega) (hb c0.2.1 hd) (fun _ _ => ⟨rfl, eT, Nat.le_trans hk' hkR, Nat.le_trans hn' hnR⟩)
  obtain ⟨U, Lb, kb, nb⟩ := B
  dsimp only [Pt.U, Pt.locs, Pt.cells, Pt.slots] at X' h2 hgr q1 q2 q3 q4 q5 q6 q7 q8 st
  subst q4 q5 q6
  rw [eT] at hgr
  exact Go.of (fun t q => st.trans q) (K U U.heap v ws' ((after c0 X' hZ hown hS hk N H hsf hkn h2 hgr q2 q3 q7 q8).more hk' hn') hgr q1)
theorem nface {C : String} {z : MethodName} (w : (Jvm.Cond.selects C z z).before a0 Z = true) : ∀ s : State, Z.Warmed39 s.vm → NotFace s z := fun s hZ => notFace_of_selects (args := #[]) (mvT hZ w)
theorem s_virtual (X : Cx p l e R s m args below meth c Z EL kn y bytes maxL ret ws T h k n) {index : Nat} {C : String} {z z' : MethodName} {W ck sk : Nat} {a : Addr} {as' : List Value} {Qc : Option Value → Heap → List Addr → Prop} {ps : List FieldType} {rr : Option FieldType} {stk : List Value} {k' n' : Nat} (hd : decode bytes pc = .ok (.invokevirtual index, 3))
    (w1 : (Jvm.Cond.methodLink y.cls index z).before a0 Z = true) (w2 : (Jvm.Cond.declares z).before a0 Z = true) (w3 : (Jvm.Cond.selects C z z').before a0 Z = true) (w4 : (Jvm.Cond.instanceMethod z').before a0 Z = true) (nf : ∀ s : State, Z.Warmed39 s.vm → NotFace s z) (hz : z.cls ≠ "java/lang/invoke/MethodHandle" ∧ z.cls ≠ "java/lang/invoke/VarHandle") (hpd : parseMethodDescriptor z.desc = some ⟨ps, rr⟩) (hlen : as'.length = ps.length) (E0 : Exa Z h a C)
    (P : Pay l R p e below s args Z EL kn ws z' 3 W ck sk (.ref a :: as').toArray h Qc) (hW : (S.map fun v => v.category).sum ≤ W) (hsz : L.size = maxL) (hst : stk = as'.reverse ++ .ref a :: S) (hk' : k + ck ≤ k') (hn' : n + sk ≤ n') (hkR : k' ≤ R.cells) (hnR : n' ≤ R.slots) (hp : pc + 3 = pc')
    (K : ∀ T' h' v ws', Cx p l e R s m args below meth c Z EL kn y bytes maxL ret (ws' ++ ws) T' h' k' n' → h.size ≤ h'.size → Qc v h' ws' → Go p e below Q T' (mkF m pc' L (v.toList ++ S))) : Go p e below Q T (mkF m pc L stk) := by
  subst hp; subst hst
  obtain ⟨c0, vm0, k0, locs, St, eT, hZ, hown, hS, hk, N, H, hsf, E, hkn⟩ := X
  have hP := P vm0 hZ H.1 hsf E hkn
  have hZ' : Z.Warmed39 (s.setVm vm0).vm := hZ
  obtain ⟨cq, kq, qa, qb, qc⟩ := isOf hZ' eT E0
  obtain ⟨v, vm₁, B, hw, X', h2, hgr, ⟨L', ws', q1, q2, q3, q4, q5, q6, q7, q8⟩, st⟩ := St.virtualBackS c0.1 hown (mvT hZ w1) (mvT hZ w2) (nf (s.setVm vm0) hZ) (mvT hZ w3) (mvT hZ w4) hz hP qa qc (g := mkF m pc L (as'.reverse ++ .ref a :: S)) rfl (hsz.trans c0.2.2.1.symm) (Steps.refl _) (lenOf hpd hlen) rfl (by show 2 * 0 + _ ≤ _; omega) (hb c0.2.1 hd) (fun _ _ => ⟨rfl, eT, Nat.le_trans hk' hkR, Nat.le_trans hn' hnR⟩)
  obtain ⟨U, Lb, kb, nb⟩ := B
  dsimp only [Pt.U, Pt.locs, Pt.cells, Pt.slots] at X' h2 hgr q1 q2 q3 q4 q5 q6 q7 q8 st
  subst q4 q5 q6
  rw [eT] at hgr
  exact Go.of (fun t q => st.trans q) (K U U.heap v ws' ((after c0 X' hZ hown hS hk N H hsf hkn h2 hgr q2 q3 q7 q8).more hk' hn') hgr q1)
theorem s_initO (X : Cx p l e R s m args below meth c Z EL kn y bytes maxL ret ws T h k n) {index : Nat} {a : Addr} (hd : decode bytes pc = .ok (.invokespecial index, 3))
    (w1 : (Jvm.Cond.methodLink y.cls index ⟨"java/lang/Object", "<init>", "()V"⟩).before a0 Z = true) (w2 : (Jvm.Cond.instanceMethod ⟨"java/lang/Object", "<init>", "()V"⟩).before a0 Z = true) {b' : ByteArray} (hb0 : b' = ⟨#[0xb1]⟩) (w4 : (Jvm.Cond.code ⟨"java/lang/Object", "<init>", "()V"⟩ b' 1 none).before a0 Z = true)
    {W : Nat} (hW : (S.map fun v => v.category).sum ≤ W) (hfr : 1 ≤ R.frames) (hlo : W + 12 ≤ R.locals) (hsz : L.size = maxL) (hp : pc + 3 = pc')
    (K : ∀ T', Cx p l e R s m args below meth c Z EL kn y bytes maxL ret ws T' h k n → Go p e below Q T' (mkF m pc' L S)) : Go p e below Q T (mkF m pc L (.ref a :: S)) := by
  subst hp; subst hb0
  obtain ⟨c0, vm0, k0, locs, St, eT, hZ, hown, hS, hk, N, H, hsf, E, hkn⟩ := X
  obtain ⟨T', X', e', st⟩ := initO St c0.1 hZ hown w1 w2 w4 eT (g := mkF m pc L (.ref a :: S)) rfl (hsz.trans c0.2.2.1.symm) rfl (hb c0.2.1 hd) hfr (W := W) (by show 2 * 0 + _ ≤ _; omega) hlo
  exact Go.of st (K T' ⟨c0, vm0, k0, locs, X', e', hZ, hown, hS, hk, N, H, hsf, E, hkn⟩)
/-- ldc of a String constant that is held: the text read -/
theorem s_ldcS (X : Cx p l e R s m args below meth c Z EL kn y bytes maxL ret ws T h k n) {index : Nat} {text : String} (hEL : EW Z a0 EL) (hd : decode bytes pc = .ok (.ldc index, 2)) (w : (Jvm.Cond.stringLink y.cls index text).before a0 Z = true) (wS : ∀ a ∈ Bundle.stringAtoms, a.before a0 Z = true) (hmem : (y.cls, index) ∈ EL)
    {vs : List Value} {z : Int32} (ht : (∀ c ∈ text.toList, c.toNat < 256) ∧ text.toList.map (fun c => Value.int (Jvm.Lit.byteI c.toNat.toUInt16)) = vs) (hz : ¬ z < 0) (hl : z.toNatClampNeg = vs.length) {nn k' n' : Nat} (hnn : 4 * text.toList.length ≤ nn) (hbig : nn ≤ 536870912) (hk' : k + 2 ≤ k') (hn' : n + (nn + 4) ≤ n') (hkR : k' ≤ R.cells) (hnR : n' ≤ R.slots) (hp : pc + 2 = pc')
    (K : ∀ T' h' (a b : Addr) (kc : ClassId), Cx p l e R s m args below meth c Z EL kn y bytes maxL ret ws T' h' k' n' → Ext h h' → Exa Z h' a "java/lang/String" → Fld Z h' a "java/lang/String" "coder" "B" (.int 0) → Fld Z h' a "java/lang/String" "value" "[B" (.ref b) → Arv Z h' b kc .byte z vs (.int 0) → (∀ x ∈ ws, x ≠ a ∧ x ≠ b) → Go p e below Q T' (mkF m pc' L (.ref a :: S))) : Go p e below Q T (mkF m pc L S) := by
  subst hp
  obtain ⟨c0, vm0, k0, locs, St, eT, hZ, hown, hS, hk, N, H, hsf, E, hkn⟩ := X
  obtain ⟨a, T', h', k1, b, kc, X', e', E', hS', hk1, hZ', hown', A1, A2, A3, A4, l1, l2, C, -, sf, st⟩ := ldcCH St c0.1 hZ hown w wS eT hS hk hEL hmem H.1 ht hz hl (g := mkF m pc L S) rfl (hb c0.2.1 hd) hnn hbig (Nat.le_trans hk' hkR) (Nat.le_trans hn' hnR)
  have al : vm0.Alike T'.vm := hS.1.alike.symm.trans hS'.1.alike
  exact Go.of st (K T' h' a b kc ⟨c0, T'.vm, k1, _, X'.mono hk' hn', e', hZ', hown', hS', hk1, N, H.trans C, fun x q => ⟨C.safe (hsf x q).2 (hsf x q).1, Nat.lt_of_lt_of_le (hsf x q).2 E'.1⟩, ext_trans E E', fun q => ⟨Vm.MethodsKnown.alikeC al (hkn q).1, fun fr hfr m' hm' => knowsMethod_alike al ((hkn q).2 fr hfr m' hm')⟩⟩ E' A1 A2 A3 A4 (fun x q => sf x (C.safe (hsf x q).2 (hsf x q).1)))
end Own
end Jvm.Own
/- laws to paste: Road.backV, Road.eqW, Road.codOf (cut by pick.py; bodies as the Statement names them) -/
namespace Jvm.Pilot.@@N@@
namespace StrChars
open Jvm Sem ClassFile Op Lib Jvm.Stand Jvm.Free.XT Jvm.Free.ALB Jvm.Free.JM Jvm.Free
open Jvm.Lib.Cold (StaticIs)
/-- a char array whose places are chars -/
def Ch (a : Addr) (A : Cell) (U : State) : Prop := Arr .char a A U ∧ Typed .char A
theorem Ch.mv {a : Addr} {A : Cell} {U U' : State} (h : Ch a A U) (hal : U.vm.Alike U'.vm) (hh : U'.heap = U.heap) : Ch a A U' := ⟨h.1.mv hal hh, h.2⟩
theorem Ch.keep {a : Addr} {A : Cell} {U U' : State} (h : Ch a A U) (hal : U.vm.Alike U'.vm) (hk : U'.heap[a]? = some A) : Ch a A U' := ⟨h.1.keep hal hk, h.2⟩
/-- what place i of a char[]'s cell holds -/
def cv (A : Cell) (i : Nat) : Int32 := match A.slots[i]? with | some (.int x) => x | _ => 0
theorem Ch.get {a : Addr} {A : Cell} {U : State} (h : Ch a A U) {i : Nat} (hi : i < A.slots.size) : A.slots[i]? = some (.int (cv A i)) := by
  have e := Array.getElem?_eq_getElem hi
  have f := h.2 i _ e
  unfold cv; rw [e]
  generalize A.slots[i] = v at f
  cases v <;> simp [fits] at f ⊢
/-- the byte that i2b leaves of a char -/
def lo8 (x : Int32) : Int32 := x.toInt8.toInt32
theorem fits_lo8 (y : Int32) : fits .byte (.int (lo8 y)) = true := by
  have h1 := y.toInt8.le_toInt
  have h2 := y.toInt8.toInt_lt
  simp only [lo8, fits, Bool.and_eq_true, decide_eq_true_eq, Int32.le_iff_toInt_le, Int8.toInt_toInt32, show (-128 : Int32).toInt = -128 from by decide, show (127 : Int32).toInt = 127 from by decide]
  omega
/-- A' is A but that each place j of lo .. hi - 1 holds f j -/
def Laid (A A' : Cell) (lo hi : Nat) (f : Nat → Value) : Prop := A'.cls = A.cls ∧ A'.vm = A.vm ∧ A'.slots.size = A.slots.size ∧ ∀ i, A'.slots[i]? = if lo ≤ i ∧ i < hi then some (f i) else A.slots[i]?
theorem Laid.zero (A : Cell) (lo : Nat) (f : Nat → Value) : Laid A A lo (lo + 0) f := ⟨rfl, rfl, rfl, fun i => by rw [if_neg (by omega)]⟩
theorem Laid.step {A Ak : Cell} {lo k : Nat} {f : Nat → Value} {v : Value} (h : Laid A Ak lo k f) (hlo : lo ≤ k) (hk : k < Ak.slots.size) (hv : v = f k) : Laid A (Ak.setSlot k v) lo (k + 1) f := by
  refine ⟨h.1, h.2.1, by simpa [Cell.setSlot] using h.2.2.1, fun i => ?_⟩
  by_cases e : k = i
  · subst e; rw [Cell.slots_setSlot_self v hk, if_pos (by omega), hv]
  · rw [Cell.slots_setSlot_ne v e, h.2.2.2 i]
    by_cases q : lo ≤ i ∧ i < k
    · rw [if_pos q, if_pos (by omega)]
    · rw [if_neg q, if_neg (by omega)]
def U16 : String := "java/lang/StringUTF16"
namespace Cmp5
def yN : MethodName := ⟨"java/lang/StringUTF16", "compress", "([CI[BII)I"⟩
abbrev yB : ByteArray := jdk_52_method_21_code
theorem d0 : decode yB 0 = .ok (.iconst 0, 1) := by decide +kernel
theorem d1 : decode yB 1 = .ok (.istore 5, 2) := by decide +kernel
theorem d3 : decode yB 3 = .ok (.iload 5, 2) := by decide +kernel
theorem d5 : decode yB 5 = .ok (.iload 4, 2) := by decide +kernel
theorem d7 : decode yB 7 = .ok (.if_icmp (.ge) 37, 3) := by decide +kernel
theorem d10 : decode yB 10 = .ok (.aload_n 0, 1) := by decide +kernel
theorem d11 : decode yB 11 = .ok (.iload_n 1, 1) := by decide +kernel
theorem d12 : decode yB 12 = .ok (.caload, 1) := by decide +kernel
theorem d13 : decode yB 13 = .ok (.istore 6, 2) := by decide +kernel
theorem d15 : decode yB 15 = .ok (.iload 6, 2) := by decide +kernel
theorem d17 : decode yB 17 = .ok (.sipush 255, 3) := by decide +kernel
theorem d20 : decode yB 20 = .ok (.if_icmp (.le) 6, 3) := by decide +kernel
theorem d26 : decode yB 26 = .ok (.aload_n 2, 1) := by decide +kernel
theorem d27 : decode yB 27 = .ok (.iload_n 3, 1) := by decide +kernel
theorem d28 : decode yB 28 = .ok (.iload 6, 2) := by decide +kernel
theorem d30 : decode yB 30 = .ok (.i2b, 1) := by decide +kernel
theorem d31 : decode yB 31 = .ok (.bastore, 1) := by decide +kernel
theorem d32 : decode yB 32 = .ok (.iinc 1 1, 3) := by decide +kernel
theorem d35 : decode yB 35 = .ok (.iinc 3 1, 3) := by decide +kernel
theorem d38 : decode yB 38 = .ok (.iinc 5 1, 3) := by decide +kernel
theorem d41 : decode yB 41 = .ok (.goto (-38), 3) := by decide +kernel
theorem d44 : decode yB 44 = .ok (.iload 4, 2) := by decide +kernel
theorem d46 : decode yB 46 = .ok (.ireturn, 1) := by decide +kernel
def site : List Cond := []
def tab : Cond := tabOf yN yB 7 (some .int) site
def P (b : Addr) (A : Cell) (d : Addr) (B : Cell) (o q len : Nat) (args : Array Value) (s : State) : Prop := args = #[.ref b, .int (Int32.ofNat o), .ref d, .int (Int32.ofNat q), .int (Int32.ofNat len)] ∧ Ch b A s ∧ Arr .byte d B s ∧ b ≠ d ∧ o + len ≤ A.slots.size ∧ q + len ≤ B.slots.size ∧ ∀ i, i < len → ¬ 255 < cv A (o + i)
def E (b : Addr) (A : Cell) (d : Addr) (B : Cell) (o q len : Nat) (r : Option Value) (s u : State) : Prop := r = some (.int (Int32.ofNat len)) ∧ ∃ B', Put d B' s u ∧ Laid B B' q (q + len) (fun j => Value.int (lo8 (cv A (o + (j - q)))))
/-- no char of the range above 255: len; the places written hold each char's low byte -/
theorem law (l : Launch) (b : Addr) (A : Cell) (d : Addr) (B : Cell) (o q len : Nat) : Law l yN 5 5 0 0 yB 7 (some .int) site (P b A d B o q len) (E b A d B o q len) (copyLocs d q len) 0 0 := by
  refine Law.of_walk (plainFor_of_name (by decide +kernel)) (by decide +kernel) (by decide +kernel) (by decide) (fun _ _ h => by rw [h.1]; rfl) (fun _ U U' hal hh h => ⟨h.1, h.2.1.mv hal hh, h.2.2.1.mv hal hh, h.2.2.2⟩) (fun r U U' V V' h1 hal h2 h => ⟨h.1, h.2.elim fun B' q => ⟨B', q.1.mv h1 h2, q.2⟩⟩) ?_
  intro p e s m args below meth c s₁ X0 hexec hbytes hml hret hlk hnm hown hh0 W hP
  obtain ⟨rfl, hA, hB, hne, l1, l2, hp⟩ := hP
  have c1 : Steps p.tables e below (s₁.setTop (entryFrame m #[.ref b, .int (Int32.ofNat o), .ref d, .int (Int32.ofNat q), .int (Int32.ofNat len)] 7)) (s₁.setTop (mkF m 0 #[.val (.ref b), .val (.int (Int32.ofNat o)), .val (.ref d), .val (.int (Int32.ofNat q)), .val (.int (Int32.ofNat len)), .unset, .unset] [])) := entry rfl
  have hA0 := hA.1.mv X0.warmed.alike hh0
  have hB0 := hB.mv X0.warmed.alike hh0
  have a31 := hA.1.2.2.2
  have c2 : Steps p.tables e below (s₁.setTop (entryFrame m #[.ref b, .int (Int32.ofNat o), .ref d, .int (Int32.ofNat q), .int (Int32.ofNat len)] 7)) (s₁.setTop (mkF m 3 #[.val (.ref b), .val (.int (Int32.ofNat o)), .val (.ref d), .val (.int (Int32.ofNat q)), .val (.int (Int32.ofNat len)), .val (.int 0), .unset] [])) := c1.trans (by
    refine iconstV X0.here hexec rfl 0 (hb hbytes d0) (by decide) ?_
    refine XS.istore X0.here hexec rfl (hb hbytes d1) rfl rfl ?_
    exact Steps.refl _)
  have loop : ∀ (r i : Nat), i + r = len → ∀ (z : Slot), (z = .unset ∨ ∃ w, z = .val w ∧ w.category = 1) → ∀ (Tl : State) (Bk : Cell), Stand p l e { frames := 0, locals := 0, cells := 0, slots := 0 } s m #[.ref b, .int (Int32.ofNat o), .ref d, .int (Int32.ofNat q), .int (Int32.ofNat len)] below meth c Tl ([] ++ copyLocs d q i) 0 0 → Put d Bk s₁ Tl → Laid B Bk q (q + i) (fun j => Value.int (lo8 (cv A (o + (j - q))))) →
      Steps p.tables e below (s₁.setTop (entryFrame m #[.ref b, .int (Int32.ofNat o), .ref d, .int (Int32.ofNat q), .int (Int32.ofNat len)] 7)) (Tl.setTop (mkF m 3 #[.val (.ref b), .val (.int (Int32.ofNat (o + i))), .val (.ref d), .val (.int (Int32.ofNat (q + i))), .val (.int (Int32.ofNat len)), .val (.int (Int32.ofNat i)), z] [])) → ∃ (T' : State) (B' : Cell) (z' : Slot), Stand p l e { frames := 0, locals := 0, cells := 0, slots := 0 } s m #[.ref b, .int (Int32.ofNat o), .ref d, .int (Int32.ofNat q), .int (Int32.ofNat len)] below meth c T' ([] ++ copyLocs d q len) 0 0 ∧ Put d B' s₁ T' ∧ Laid B B' q (q + len) (fun j => Value.int (lo8 (cv A (o + (j - q))))) ∧
      Steps p.tables e below (s₁.setTop (entryFrame m #[.ref b, .int (Int32.ofNat o), .ref d, .int (Int32.ofNat q), .int (Int32.ofNat len)] 7)) (T'.setTop (mkF m 3 #[.val (.ref b), .val (.int (Int32.ofNat (o + len))), .val (.ref d), .val (.int (Int32.ofNat (q + len))), .val (.int (Int32.ofNat len)), .val (.int (Int32.ofNat len)), z'] [])) := by
    intro r
    induction r with
    | zero =>
      intro i hi z hz Tl Bk Xl pl fl cl
      have hil : i = len := by omega
      rw [hil] at Xl fl cl
      exact ⟨Tl, Bk, z, Xl, pl, fl, cl⟩
    | succ r ih =>
      intro i hi z hz Tl Bk Xl pl fl cl
      have all := X0.warmed.alike.symm.trans Xl.warmed.alike
      have hAl := hA0.keep all (pl.other hne hA0.1)
      have hBk := hB0.like all pl.1 fl.1 fl.2.1 fl.2.2.1
      have hlt : q + i < Bk.slots.size := by rw [fl.2.2.1]; omega
      have c3 : Steps p.tables e below (s₁.setTop (entryFrame m #[.ref b, .int (Int32.ofNat o), .ref d, .int (Int32.ofNat q), .int (Int32.ofNat len)] 7)) (Tl.setTop (mkF m 12 #[.val (.ref b), .val (.int (Int32.ofNat (o + i))), .val (.ref d), .val (.int (Int32.ofNat (q + i))), .val (.int (Int32.ofNat len)), .val (.int (Int32.ofNat i)), z] [.int (Int32.ofNat (o + i)), .ref b])) := cl.trans (by
        refine XS.iload Xl.here hexec rfl (hb hbytes d3) rfl ?_
        refine XS.iload Xl.here hexec rfl (hb hbytes d5) rfl ?_
        refine XS.icmpNo Xl.here hexec rfl (hb hbytes d7) rfl (ii_ge_f (lt32 (by omega) (by omega))) ?_
        refine XS.aloadN Xl.here hexec rfl (hb hbytes d10) rfl rfl ?_
        refine XS.iloadN Xl.here hexec rfl (hb hbytes d11) rfl ?_
        exact Steps.refl _)
      have c4 : Steps p.tables e below (s₁.setTop (entryFrame m #[.ref b, .int (Int32.ofNat o), .ref d, .int (Int32.ofNat q), .int (Int32.ofNat len)] 7)) (Tl.setTop (mkF m 13 #[.val (.ref b), .val (.int (Int32.ofNat (o + i))), .val (.ref d), .val (.int (Int32.ofNat (q + i))), .val (.int (Int32.ofNat len)), .val (.int (Int32.ofNat i)), z] [.int (cv A (o + i))])) := c3.trans (by
        refine Xl.aget hexec hAl rfl (hA.get (i := o + i) (by omega)) rfl rfl (hb hbytes d12) ?_
        exact Steps.refl _)
      have c5 : Steps p.tables e below (s₁.setTop (entryFrame m #[.ref b, .int (Int32.ofNat o), .ref d, .int (Int32.ofNat q), .int (Int32.ofNat len)] 7)) (Tl.setTop (mkF m 15 #[.val (.ref b), .val (.int (Int32.ofNat (o + i))), .val (.ref d), .val (.int (Int32.ofNat (q + i))), .val (.int (Int32.ofNat len)), .val (.int (Int32.ofNat i)), .val (.int (cv A (o + i)))] [])) := c4.trans (by
        refine XS.istoreS Xl.here hexec rfl (hb hbytes d13) rfl rfl hz ?_
        exact Steps.refl _)
      have c6 : Steps p.tables e below (s₁.setTop (entryFrame m #[.ref b, .int (Int32.ofNat o), .ref d, .int (Int32.ofNat q), .int (Int32.ofNat len)] 7)) (Tl.setTop (mkF m 31 #[.val (.ref b), .val (.int (Int32.ofNat (o + i))), .val (.ref d), .val (.int (Int32.ofNat (q + i))), .val (.int (Int32.ofNat len)), .val (.int (Int32.ofNat i)), .val (.int (cv A (o + i)))] [.int (lo8 (cv A (o + i))), .int (Int32.ofNat (q + i)), .ref d])) := c5.trans (by
        refine XS.iload Xl.here hexec rfl (hb hbytes d15) rfl ?_
        refine sipushV Xl.here hexec rfl 255 (hb hbytes d17) (by decide) ?_
        refine XS.icmpYes Xl.here hexec rfl (pc0 := 20) rfl (hb hbytes d20) rfl (ii_le_t (hp i (by omega))) (by decide) rfl ?_
        refine XS.aloadN Xl.here hexec rfl (hb hbytes d26) rfl rfl ?_
        refine XS.iloadN Xl.here hexec rfl (hb hbytes d27) rfl ?_
        refine XS.iload Xl.here hexec rfl (hb hbytes d28) rfl ?_
        refine i2b Xl.here hexec rfl (hb hbytes d30) rfl ?_
        exact Steps.refl _)
      obtain ⟨T7, X7, p7, st7⟩ := Xl.aput hexec hBk rfl hlt rfl (fits_lo8 (cv A (o + i))) (g := (mkF m 31 #[.val (.ref b), .val (.int (Int32.ofNat (o + i))), .val (.ref d), .val (.int (Int32.ofNat (q + i))), .val (.int (Int32.ofNat len)), .val (.int (Int32.ofNat i)), .val (.int (cv A (o + i)))] [.int (lo8 (cv A (o + i))), .int (Int32.ofNat (q + i)), .ref d])) rfl (rest := []) rfl (hb hbytes d31)
      have c8 : Steps p.tables e below (s₁.setTop (entryFrame m #[.ref b, .int (Int32.ofNat o), .ref d, .int (Int32.ofNat q), .int (Int32.ofNat len)] 7)) (T7.setTop (mkF m 32 #[.val (.ref b), .val (.int (Int32.ofNat (o + i))), .val (.ref d), .val (.int (Int32.ofNat (q + i))), .val (.int (Int32.ofNat len)), .val (.int (Int32.ofNat i)), .val (.int (cv A (o + i)))] [])) := c6.trans (st7 _ (Steps.refl _))
      have c9 : Steps p.tables e below (s₁.setTop (entryFrame m #[.ref b, .int (Int32.ofNat o), .ref d, .int (Int32.ofNat q), .int (Int32.ofNat len)] 7)) (T7.setTop (mkF m 3 #[.val (.ref b), .val (.int (Int32.ofNat (o + i) + 1)), .val (.ref d), .val (.int (Int32.ofNat (q + i) + 1)), .val (.int (Int32.ofNat len)), .val (.int (Int32.ofNat i + 1)), .val (.int (cv A (o + i)))] [])) := c8.trans (by
        refine iincV X7.here hexec rfl 1 (hb hbytes d32) (by decide) rfl rfl ?_
        refine iincV X7.here hexec rfl 1 (hb hbytes d35) (by decide) rfl rfl ?_
        refine iincV X7.here hexec rfl 1 (hb hbytes d38) (by decide) rfl rfl ?_
        refine XS.goto X7.here hexec rfl (pc0 := 41) rfl (hb hbytes d41) (by decide) rfl ?_
        exact Steps.refl _)
      have c10 : Steps p.tables e below (s₁.setTop (entryFrame m #[.ref b, .int (Int32.ofNat o), .ref d, .int (Int32.ofNat q), .int (Int32.ofNat len)] 7)) (T7.setTop (mkF m 3 #[.val (.ref b), .val (.int (Int32.ofNat (o + (i + 1)))), .val (.ref d), .val (.int (Int32.ofNat (q + (i + 1)))), .val (.int (Int32.ofNat len)), .val (.int (Int32.ofNat (i + 1))), .val (.int (cv A (o + i)))] [])) := by
        have := c9
        rw [succ32, succ32, succ32] at this
        exact this
      exact ih (i + 1) (by omega) _ (Or.inr ⟨_, rfl, rfl⟩) T7 _ (by rw [copyLocs_step, ← List.append_assoc]; exact X7) (pl.trans p7) (fl.step (by omega) hlt (by simp)) c10
  obtain ⟨T9, B9, z9, X9, p9, f9, g9⟩ := loop len 0 (by omega) .unset (Or.inl rfl) s₁ B (by simpa [copyLocs] using X0) ⟨hB0.1, fun _ _ => rfl, rfl⟩ (Laid.zero _ _ _) c2
  have c11 : Steps p.tables e below (s₁.setTop (entryFrame m #[.ref b, .int (Int32.ofNat o), .ref d, .int (Int32.ofNat q), .int (Int32.ofNat len)] 7)) (T9.setTop (mkF m 46 #[.val (.ref b), .val (.int (Int32.ofNat (o + len))), .val (.ref d), .val (.int (Int32.ofNat (q + len))), .val (.int (Int32.ofNat len)), .val (.int (Int32.ofNat len)), z9] [.int (Int32.ofNat len)])) := g9.trans (by
    refine XS.iload X9.here hexec rfl (hb hbytes d3) rfl ?_
    refine XS.iload X9.here hexec rfl (hb hbytes d5) rfl ?_
    refine XS.icmpYes X9.here hexec rfl (pc0 := 7) rfl (hb hbytes d7) rfl (ii_ge_t (nlt32 (by omega) (Nat.le_refl _))) (by decide) rfl ?_
    refine XS.iload X9.here hexec rfl (hb hbytes d44) rfl ?_
    exact Steps.refl _)
  exact ⟨T9, some (.int (Int32.ofNat len)), _, _, _, X9, by simp, rfl, rfl, (fun h => by cases h), ⟨rfl, B9, p9.from hh0, f9⟩, fun fs hl => c11.trans (X9.ireturnOut hexec hret rfl (Or.inl rfl) (hb hbytes d46) hl)⟩
end Cmp5
namespace Cmp3
def yN : MethodName := ⟨"java/lang/StringUTF16", "compress", "([CII)[B"⟩
abbrev yB : ByteArray := jdk_52_method_16_code
theorem d0 : decode yB 0 = .ok (.iload_n 2, 1) := by decide +kernel
theorem d1 : decode yB 1 = .ok (.newarray .byte, 2) := by decide +kernel
theorem d3 : decode yB 3 = .ok (.astore_n 3, 1) := by decide +kernel
theorem d4 : decode yB 4 = .ok (.aload_n 0, 1) := by decide +kernel
theorem d5 : decode yB 5 = .ok (.iload_n 1, 1) := by decide +kernel
theorem d6 : decode yB 6 = .ok (.aload_n 3, 1) := by decide +kernel
theorem d7 : decode yB 7 = .ok (.iconst 0, 1) := by decide +kernel
theorem d8 : decode yB 8 = .ok (.iload_n 2, 1) := by decide +kernel
theorem d9 : decode yB 9 = .ok (.invokestatic 115, 3) := by decide +kernel
theorem d12 : decode yB 12 = .ok (.istore 4, 2) := by decide +kernel
theorem d14 : decode yB 14 = .ok (.iload 4, 2) := by decide +kernel
theorem d16 : decode yB 16 = .ok (.iload_n 2, 1) := by decide +kernel
theorem d17 : decode yB 17 = .ok (.if_icmp (.eq) 40, 3) := by decide +kernel
theorem d57 : decode yB 57 = .ok (.aload_n 3, 1) := by decide +kernel
theorem d58 : decode yB 58 = .ok (.areturn, 1) := by decide +kernel
def site : List Cond := [.arrayClass .byte, Cmp5.tab] ++ staticW U16 115 Cmp5.yN
def tab : Cond := tabOf yN yB 6 (some (.array .byte)) site
def P (b : Addr) (A : Cell) (o len : Nat) (args : Array Value) (s : State) : Prop := args = #[.ref b, .int (Int32.ofNat o), .int (Int32.ofNat len)] ∧ Ch b A s ∧ o + len ≤ A.slots.size ∧ len ≤ 536870912 ∧ ∀ i, i < len → ¬ 255 < cv A (o + i)
def E (b : Addr) (A : Cell) (o len : Nat) (r : Option Value) (s u : State) : Prop := NewArr .byte "[B" len (fun j => .int (lo8 (cv A (o + j)))) r s u ∧ u.heap.size = s.heap.size + 1
/-- no char of the range above 255: a new byte[] of their low bytes -/
theorem law (l : Launch) (b : Addr) (A : Cell) (o len : Nat) : Law l yN 3 3 1 18 yB 6 (some (.array .byte)) site (P b A o len) (E b A o len) [] 1 len := by
  refine Law.of_walk (plainFor_of_name (by decide +kernel)) (by decide +kernel) (by decide +kernel) (by decide) (fun _ _ h => by rw [h.1]; rfl) (fun _ U U' hal hh h => ⟨h.1, h.2.1.mv hal hh, h.2.2⟩) (fun r U U' V V' h1 hal h2 h => ⟨NewArr.mv r U U' V V' h1 hal h2 h.1, by rw [h1, h2]; exact h.2⟩) ?_
  intro p e s m args below meth c s₁ X0 hexec hbytes hml hret hlk hnm hown hh0 W hP
  obtain ⟨rfl, hA, l1, l2, hp⟩ := hP
  have a31 := hA.1.2.2.2
  have c1 : Steps p.tables e below (s₁.setTop (entryFrame m #[.ref b, .int (Int32.ofNat o), .int (Int32.ofNat len)] 6)) (s₁.setTop (mkF m 0 #[.val (.ref b), .val (.int (Int32.ofNat o)), .val (.int (Int32.ofNat len)), .unset, .unset, .unset] [])) := entry rfl
  have c2 : Steps p.tables e below (s₁.setTop (entryFrame m #[.ref b, .int (Int32.ofNat o), .int (Int32.ofNat len)] 6)) (s₁.setTop (mkF m 1 #[.val (.ref b), .val (.int (Int32.ofNat o)), .val (.int (Int32.ofNat len)), .unset, .unset, .unset] [.int (Int32.ofNat len)])) := c1.trans (by
    refine XS.iloadN X0.here hexec rfl (hb hbytes d0) rfl ?_
    exact Steps.refl _)
  obtain ⟨T3, B3, X3, ba3, bs3, bv3, bh3, bf3, st3⟩ := X0.anew hexec (atype := .byte) (wk W (.arrayClass .byte)) rfl (by show len * 1 ≤ _; omega) (by omega) (g := (mkF m 1 #[.val (.ref b), .val (.int (Int32.ofNat o)), .val (.int (Int32.ofNat len)), .unset, .unset, .unset] [.int (Int32.ofNat len)])) rfl (hb hbytes d1) (rest := []) rfl (Nat.le_refl _) (by show 0 + len ≤ len; omega)
  rw [hh0] at ba3 st3
  have kp3 : XT.Kept s T3 := (XT.Kept.of_eq hh0).push bh3
  have hA3 := hA.keep X3.warmed.alike (kp3 _ _ hA.1.1)
  have hne : b ≠ s.heap.size := hA.1.ne
  have c4 : Steps p.tables e below (s₁.setTop (entryFrame m #[.ref b, .int (Int32.ofNat o), .int (Int32.ofNat len)] 6)) (T3.setTop (mkF m 3 #[.val (.ref b), .val (.int (Int32.ofNat o)), .val (.int (Int32.ofNat len)), .unset, .unset, .unset] [.ref s.heap.size])) := c2.trans (st3 _ (Steps.refl _))
  have c5 : Steps p.tables e below (s₁.setTop (entryFrame m #[.ref b, .int (Int32.ofNat o), .int (Int32.ofNat len)] 6)) (T3.setTop (mkF m 9 #[.val (.ref b), .val (.int (Int32.ofNat o)), .val (.int (Int32.ofNat len)), .val (.ref s.heap.size), .unset, .unset] [.int (Int32.ofNat len), .int 0, .ref s.heap.size, .int (Int32.ofNat o), .ref b])) := c4.trans (by
    refine XS.astoreN X3.here hexec rfl (hb hbytes d3) rfl rfl rfl ?_
    refine XS.aloadN X3.here hexec rfl (hb hbytes d4) rfl rfl ?_
    refine XS.iloadN X3.here hexec rfl (hb hbytes d5) rfl ?_
    refine XS.aloadN X3.here hexec rfl (hb hbytes d6) rfl rfl ?_
    refine iconstV X3.here hexec rfl 0 (hb hbytes d7) (by decide) ?_
    refine XS.iloadN X3.here hexec rfl (hb hbytes d8) rfl ?_
    exact Steps.refl _)
  obtain ⟨v6, T6, X6, E6, g6⟩ := X3.callS hexec (Cmp5.law l b A s.heap.size B3 o 0 len) hown (wks W (staticW U16 115 Cmp5.yN)) (wk W Cmp5.tab) (W := 0) (Nat.le_of_ble_eq_true rfl) (Nat.le_of_ble_eq_true rfl) (Nat.le_refl _) (by show 0 + len + 0 ≤ len; omega) (g := (mkF m 9 #[.val (.ref b), .val (.int (Int32.ofNat o)), .val (.int (Int32.ofNat len)), .val (.ref s.heap.size), .unset, .unset] [.int (Int32.ofNat len), .int (Int32.ofNat 0), .ref s.heap.size, .int (Int32.ofNat o), .ref b])) rfl (by rw [hml]; rfl) c5 (argsL := [.ref b, .int (Int32.ofNat o), .ref s.heap.size, .int (Int32.ofNat 0), .int (Int32.ofNat len)]) (rest := []) rfl rfl (by show 2 * 0 + 0 ≤ _; decide) (hb hbytes d9) (⟨rfl, hA3, ba3, hne, l1, by rw [bs3]; simp, hp⟩)
  obtain ⟨rfl, B6, p6, f6⟩ := E6
  have c7 : Steps p.tables e below (s₁.setTop (entryFrame m #[.ref b, .int (Int32.ofNat o), .int (Int32.ofNat len)] 6)) (T6.setTop (mkF m 12 #[.val (.ref b), .val (.int (Int32.ofNat o)), .val (.int (Int32.ofNat len)), .val (.ref s.heap.size), .unset, .unset] [.int (Int32.ofNat len)])) := g6
  have c8 : Steps p.tables e below (s₁.setTop (entryFrame m #[.ref b, .int (Int32.ofNat o), .int (Int32.ofNat len)] 6)) (T6.setTop (mkF m 58 #[.val (.ref b), .val (.int (Int32.ofNat o)), .val (.int (Int32.ofNat len)), .val (.ref s.heap.size), .val (.int (Int32.ofNat len)), .unset] [.ref s.heap.size])) := c7.trans (by
    refine XS.istore X6.here hexec rfl (hb hbytes d12) rfl rfl ?_
    refine XS.iload X6.here hexec rfl (hb hbytes d14) rfl ?_
    refine XS.iloadN X6.here hexec rfl (hb hbytes d16) rfl ?_
    refine XS.icmpYes X6.here hexec rfl (pc0 := 17) rfl (hb hbytes d17) rfl (ii_eq_t rfl) (by decide) rfl ?_
    refine XS.aloadN X6.here hexec rfl (hb hbytes d57) rfl rfl ?_
    exact Steps.refl _)
  have X8 := X6.wide (L' := []) (cells' := 1) (slots' := len) (fun x hx hlt => by
    simp only [List.nil_append, copyLocs, List.mem_map, List.mem_range] at hx
    obtain ⟨i, -, rfl⟩ := hx
    exact absurd hlt (Nat.lt_irrefl _)) (Nat.le_refl _) (by omega)
  exact ⟨T6, some (.ref s.heap.size), _, _, _, X8, rfl, rfl, rfl, (fun h => by cases h), ⟨⟨rfl, B6, ba3.like (X3.warmed.alike.symm.trans X6.warmed.alike) p6.1 f6.1 f6.2.1 f6.2.2.1, f6.2.1.trans bv3, by rw [X6.warmed.alike.findClass, f6.1]; exact bf3, by rw [f6.2.2.1, bs3]; simp, fun j hj => by rw [f6.2.2.2 j, if_pos (by omega)]; rfl, kp3.put p6 (Nat.le_refl _)⟩, by rw [p6.2.2, bh3, hh0]; simp⟩, fun fs hl => c8.trans (X8.areturnOut hexec rfl hret rfl (hb hbytes d58) hl)⟩
end Cmp3
namespace CodL
def yN : MethodName := ⟨"java/lang/StringUTF16", "coderFromArrayLen", "([BI)B"⟩
abbrev yB : ByteArray := jdk_52_method_15_code
theorem d0 : decode yB 0 = .ok (.iload_n 1, 1) := by decide +kernel
theorem d1 : decode yB 1 = .ok (.aload_n 0, 1) := by decide +kernel
theorem d2 : decode yB 2 = .ok (.arraylength, 1) := by decide +kernel
theorem d3 : decode yB 3 = .ok (.isub, 1) := by decide +kernel
theorem d4 : decode yB 4 = .ok (.bipush 31, 2) := by decide +kernel
theorem d6 : decode yB 6 = .ok (.iushr, 1) := by decide +kernel
theorem d7 : decode yB 7 = .ok (.i2b, 1) := by decide +kernel
theorem d8 : decode yB 8 = .ok (.ireturn, 1) := by decide +kernel
def site : List Cond := []
def tab : Cond := tabOf yN yB 2 (some .byte) site
def P (d : Addr) (B : Cell) (args : Array Value) (s : State) : Prop := args = #[.ref d, .int (Int32.ofNat B.slots.size)] ∧ Arr .byte d B s
def E (r : Option Value) (s u : State) : Prop := XT.PureE (some (.int 0)) r s u
/-- an array as long as the number of chars: LATIN1 -/
theorem law (l : Launch) (d : Addr) (B : Cell) : Law l yN 2 2 0 0 yB 2 (some .byte) site (P d B) E [] 0 0 := by
  refine Law.of_walk (plainFor_of_name (by decide +kernel)) (by decide +kernel) (by decide +kernel) (by decide) (fun _ _ h => by rw [h.1]; rfl) (fun _ U U' hal hh h => ⟨h.1, h.2.mv hal hh⟩) (fun r U U' V V' h1 hal h2 h => XT.PureE.mv r U U' V V' h1 hal h2 h) ?_
  intro p e s m args below meth c s₁ X0 hexec hbytes hml hret hlk hnm hown hh0 W hP
  obtain ⟨rfl, hB⟩ := hP
  have hB0 := hB.mv X0.warmed.alike hh0
  have c1 : Steps p.tables e below (s₁.setTop (entryFrame m #[.ref d, .int (Int32.ofNat B.slots.size)] 2)) (s₁.setTop (mkF m 0 #[.val (.ref d), .val (.int (Int32.ofNat B.slots.size))] [])) := entry rfl
  have c2 : Steps p.tables e below (s₁.setTop (entryFrame m #[.ref d, .int (Int32.ofNat B.slots.size)] 2)) (s₁.setTop (mkF m 2 #[.val (.ref d), .val (.int (Int32.ofNat B.slots.size))] [.ref d, .int (Int32.ofNat B.slots.size)])) := c1.trans (by
    refine XS.iloadN X0.here hexec rfl (hb hbytes d0) rfl ?_
    refine XS.aloadN X0.here hexec rfl (hb hbytes d1) rfl rfl ?_
    exact Steps.refl _)
  have c3 : Steps p.tables e below (s₁.setTop (entryFrame m #[.ref d, .int (Int32.ofNat B.slots.size)] 2)) (s₁.setTop (mkF m 8 #[.val (.ref d), .val (.int (Int32.ofNat B.slots.size))] [.int (lo8 (ushr (Int32.ofNat B.slots.size - Int32.ofNat B.slots.size) 31))])) := c2.trans (by
    refine X0.alen hexec hB0 rfl rfl (hb hbytes d2) ?_
    refine XS.isub X0.here hexec rfl (hb hbytes d3) rfl ?_
    refine bipushV X0.here hexec rfl 31 (hb hbytes d4) (by decide) ?_
    refine iushr X0.here hexec rfl (hb hbytes d6) rfl ?_
    refine i2b X0.here hexec rfl (hb hbytes d7) rfl ?_
    exact Steps.refl _)
  have e0 : lo8 (ushr (Int32.ofNat B.slots.size - Int32.ofNat B.slots.size) 31) = 0 := by rw [Int32.sub_self]; decide
  rw [e0] at c3
  exact ⟨s₁, some (.int 0), _, _, _, X0, rfl, rfl, rfl, (fun h => by cases h), ⟨rfl, hh0⟩, fun fs hl => c3.trans (X0.ireturnOut hexec hret rfl (Or.inr (Or.inr (Or.inl rfl))) (hb hbytes d8) hl)⟩
end CodL
/-- the String at a is Latin-1 over a new byte[] (the heap's one new cell): the low bytes of the len chars of A from o on; every cell but a is kept -/
def Got (a : Addr) (D : Cell) (fV fC : Field) (A : Cell) (o len : Nat) (r : Option Value) (s u : State) : Prop := r = none ∧ ∃ D' V : Cell, Blank "java/lang/String" a D' u ∧ Same D D' [fV.slot, fC.slot] ∧ D'.slots[fV.slot]? = some (.ref s.heap.size) ∧ D'.slots[fC.slot]? = some (.int 0) ∧ Arr .byte s.heap.size V u ∧ V.vm = .none ∧ u.vm.findClass "[B" = some V.cls ∧ V.slots.size = len ∧ (∀ j, j < len → V.slots[j]? = some (.int (lo8 (cv A (o + j))))) ∧ (∀ (y : Addr) (c : Cell), y ≠ a → s.heap[y]? = some c → u.heap[y]? = some c) ∧ u.heap.size = s.heap.size + 1
theorem Got.mv {a : Addr} {D A : Cell} {fV fC : Field} {o len : Nat} : ∀ r (U U' V V' : State), U'.heap = U.heap → V.vm.Alike V'.vm → V'.heap = V.heap → Got a D fV fC A o len r U V → Got a D fV fC A o len r U' V' :=
  fun r U U' V V' h1 hal h2 ⟨e0, D', X, a1, a2, a3, a4, a5, a6, a7, a8, a9, a10, a11⟩ => ⟨e0, D', X, a1.mv hal h2, a2, by rw [h1]; exact a3, a4, by rw [h1]; exact a5.mv hal h2, a6, by rw [hal.findClass]; exact a7, a8, a9, by rw [h1, h2]; exact a10, by rw [h1, h2]; exact a11⟩
namespace New4
def yN : MethodName := ⟨"java/lang/String", "<init>", "([CIILjava/lang/Void;)V"⟩
abbrev yB : ByteArray := jdk_42_method_149_code
theorem d0 : decode yB 0 = .ok (.aload_n 0, 1) := by decide +kernel
theorem d1 : decode yB 1 = .ok (.invokespecial 1, 3) := by decide +kernel
theorem d4 : decode yB 4 = .ok (.iload_n 3, 1) := by decide +kernel
theorem d5 : decode yB 5 = .ok (.ifCond (.ne) 22, 3) := by decide +kernel
theorem d27 : decode yB 27 = .ok (.getstatic 38, 3) := by decide +kernel
theorem d30 : decode yB 30 = .ok (.ifCond (.eq) 28, 3) := by decide +kernel
theorem d33 : decode yB 33 = .ok (.aload_n 1, 1) := by decide +kernel
theorem d34 : decode yB 34 = .ok (.iload_n 2, 1) := by decide +kernel
theorem d35 : decode yB 35 = .ok (.iload_n 3, 1) := by decide +kernel
theorem d36 : decode yB 36 = .ok (.invokestatic 177, 3) := by decide +kernel
theorem d39 : decode yB 39 = .ok (.astore 5, 2) := by decide +kernel
theorem d41 : decode yB 41 = .ok (.aload_n 0, 1) := by decide +kernel
theorem d42 : decode yB 42 = .ok (.aload 5, 2) := by decide +kernel
theorem d44 : decode yB 44 = .ok (.iload_n 3, 1) := by decide +kernel
theorem d45 : decode yB 45 = .ok (.invokestatic 47, 3) := by decide +kernel
theorem d48 : decode yB 48 = .ok (.putfield 15, 3) := by decide +kernel
theorem d51 : decode yB 51 = .ok (.aload_n 0, 1) := by decide +kernel
theorem d52 : decode yB 52 = .ok (.aload 5, 2) := by decide +kernel
theorem d54 : decode yB 54 = .ok (.putfield 9, 3) := by decide +kernel
theorem d57 : decode yB 57 = .ok (.return_, 1) := by decide +kernel
def site : List Cond := [.fieldLink "java/lang/String" 38 "java/lang/String" "COMPACT_STRINGS" "Z", Cmp3.tab, CodL.tab, .laysFinal "java/lang/String" "java/lang/String" "value" "[B", .fieldLink "java/lang/String" 9 "java/lang/String" "value" "[B", .laysFinal "java/lang/String" "java/lang/String" "coder" "B", .fieldLink "java/lang/String" 15 "java/lang/String" "coder" "B"] ++ objW "java/lang/String" 1 ++ staticW "java/lang/String" 177 Cmp3.yN ++ staticW "java/lang/String" 47 CodL.yN
def tab : Cond := tabOf yN yB 6 none site
def P (a : Addr) (D : Cell) (fV fC : Field) (b : Addr) (A : Cell) (z : Int32) (o len : Nat) (args : Array Value) (s : State) : Prop := args = #[.ref a, .ref b, .int (Int32.ofNat o), .int (Int32.ofNat len), .null] ∧ Blank "java/lang/String" a D s ∧ Found "java/lang/String" "value" "[B" fV s ∧ Found "java/lang/String" "coder" "B" fC s ∧ Ch b A s ∧ StaticIs s "java/lang/String" "COMPACT_STRINGS" "Z" (.int z) ∧ ¬ z = 0 ∧ 0 < len ∧ o + len ≤ A.slots.size ∧ len ≤ 536870912 ∧ ∀ i, i < len → ¬ 255 < cv A (o + i)
def E (a : Addr) (D : Cell) (fV fC : Field) (A : Cell) (o len : Nat) (r : Option Value) (s u : State) : Prop := Got a D fV fC A o len r s u
/-- len > 0, no char of the range above 255: a Latin-1 String of their low bytes -/
theorem law (l : Launch) (a : Addr) (D : Cell) (fV fC : Field) (b : Addr) (A : Cell) (z : Int32) (o len : Nat) : Law l yN 5 4 2 35 yB 6 none site (P a D fV fC b A z o len) (E a D fV fC A o len) [⟨a, fC.slot⟩, ⟨a, fV.slot⟩] 1 len := by
  refine Law.of_walk (plainFor_of_name (by decide +kernel)) (by decide +kernel) (by decide +kernel) (by decide) (fun _ _ h => by rw [h.1]; rfl) (fun _ U U' hal hh h => ⟨h.1, h.2.1.mv hal hh, h.2.2.1.al hal, h.2.2.2.1.al hal, h.2.2.2.2.1.mv hal hh, h.2.2.2.2.2.1.there hal hh, h.2.2.2.2.2.2⟩) (fun r U U' V V' h1 hal h2 h => Got.mv r U U' V V' h1 hal h2 h) ?_
  intro p e s m args below meth c s₁ X0 hexec hbytes hml hret hlk hnm hown hh0 W hP
  obtain ⟨rfl, hB, f1, f2, hA, s1, hz, l0, l1, l2, hp⟩ := hP
  have a31 := hA.1.2.2.2
  have c1 : Steps p.tables e below (s₁.setTop (entryFrame m #[.ref a, .ref b, .int (Int32.ofNat o), .int (Int32.ofNat len), .null] 6)) (s₁.setTop (mkF m 0 #[.val (.ref a), .val (.ref b), .val (.int (Int32.ofNat o)), .val (.int (Int32.ofNat len)), .val .null, .unset] [])) := entry rfl
  have c2 : Steps p.tables e below (s₁.setTop (entryFrame m #[.ref a, .ref b, .int (Int32.ofNat o), .int (Int32.ofNat len), .null] 6)) (s₁.setTop (mkF m 1 #[.val (.ref a), .val (.ref b), .val (.int (Int32.ofNat o)), .val (.int (Int32.ofNat len)), .val .null, .unset] [.ref a])) := c1.trans (by
    refine XS.aloadN X0.here hexec rfl (hb hbytes d0) rfl rfl ?_
    exact Steps.refl _)
  obtain ⟨T3, X3, q3, st3⟩ := X0.oinit hexec hown (wks W (objW "java/lang/String" 1)) (g := (mkF m 1 #[.val (.ref a), .val (.ref b), .val (.int (Int32.ofNat o)), .val (.int (Int32.ofNat len)), .val .null, .unset] [.ref a])) rfl (by rw [hml]; rfl) (rest := []) rfl (hb hbytes d1) (W := 0) (by show 2 * 0 + 0 ≤ _; decide) (Nat.le_of_ble_eq_true rfl) (Nat.le_of_ble_eq_true rfl)
  have hh3 := q3.trans hh0
  have c4 : Steps p.tables e below (s₁.setTop (entryFrame m #[.ref a, .ref b, .int (Int32.ofNat o), .int (Int32.ofNat len), .null] 6)) (T3.setTop (mkF m 27 #[.val (.ref a), .val (.ref b), .val (.int (Int32.ofNat o)), .val (.int (Int32.ofNat len)), .val .null, .unset] [])) := (c2.trans (st3 _ (Steps.refl _))).trans (by
    refine XS.iloadN X3.here hexec rfl (hb hbytes d4) rfl ?_
    refine XS.ifYes X3.here hexec rfl (pc0 := 5) rfl (hb hbytes d5) rfl (i0_ne_t (nz32 (by omega) l0)) (by decide) rfl ?_
    exact Steps.refl _)
  obtain ⟨T5, X5, q5, st5⟩ := X3.sget hexec hown (wk W (.fieldLink "java/lang/String" 38 "java/lang/String" "COMPACT_STRINGS" "Z")) s1 (fun _ _ h => by rw [hh3]; exact h) (g := (mkF m 27 #[.val (.ref a), .val (.ref b), .val (.int (Int32.ofNat o)), .val (.int (Int32.ofNat len)), .val .null, .unset] [])) rfl (hb hbytes d27)
  have hh5 := q5.trans hh3
  have c6 : Steps p.tables e below (s₁.setTop (entryFrame m #[.ref a, .ref b, .int (Int32.ofNat o), .int (Int32.ofNat len), .null] 6)) (T5.setTop (mkF m 30 #[.val (.ref a), .val (.ref b), .val (.int (Int32.ofNat o)), .val (.int (Int32.ofNat len)), .val .null, .unset] [.int z])) := c4.trans (st5 _ (Steps.refl _))
  have c7 : Steps p.tables e below (s₁.setTop (entryFrame m #[.ref a, .ref b, .int (Int32.ofNat o), .int (Int32.ofNat len), .null] 6)) (T5.setTop (mkF m 36 #[.val (.ref a), .val (.ref b), .val (.int (Int32.ofNat o)), .val (.int (Int32.ofNat len)), .val .null, .unset] [.int (Int32.ofNat len), .int (Int32.ofNat o), .ref b])) := c6.trans (by
    refine XS.ifNo X5.here hexec rfl (hb hbytes d30) rfl (i0_eq_f hz) ?_
    refine XS.aloadN X5.here hexec rfl (hb hbytes d33) rfl rfl ?_
    refine XS.iloadN X5.here hexec rfl (hb hbytes d34) rfl ?_
    refine XS.iloadN X5.here hexec rfl (hb hbytes d35) rfl ?_
    exact Steps.refl _)
  obtain ⟨v8, T8, X8, E8, g8⟩ := X5.callS hexec (Cmp3.law l b A o len) hown (wks W (staticW "java/lang/String" 177 Cmp3.yN)) (wk W Cmp3.tab) (W := 0) (Nat.le_of_ble_eq_true rfl) (Nat.le_of_ble_eq_true rfl) (Nat.le_refl _) (by show 0 + len ≤ len; omega) (g := (mkF m 36 #[.val (.ref a), .val (.ref b), .val (.int (Int32.ofNat o)), .val (.int (Int32.ofNat len)), .val .null, .unset] [.int (Int32.ofNat len), .int (Int32.ofNat o), .ref b])) rfl (by rw [hml]; rfl) c7 (argsL := [.ref b, .int (Int32.ofNat o), .int (Int32.ofNat len)]) (rest := []) rfl rfl (by show 2 * 0 + 0 ≤ _; decide) (hb hbytes d36) (⟨rfl, hA.mv X5.warmed.alike hh5, l1, l2, hp⟩)
  obtain ⟨e8, z8⟩ := E8
  obtain ⟨rfl, N, n1, n2, n3, n4, n5, n6⟩ := NewArr.mv _ T5 s _ _ hh5.symm (Vm.Alike.refl _) rfl e8
  rw [hh5] at z8
  have hB1 := hB.keep X8.warmed.alike (n6 _ _ hB.1)
  have hne : s.heap.size ≠ a := (Nat.ne_of_lt (Array.getElem?_eq_some_iff.mp hB.1).1).symm
  have c9 : Steps p.tables e below (s₁.setTop (entryFrame m #[.ref a, .ref b, .int (Int32.ofNat o), .int (Int32.ofNat len), .null] 6)) (T8.setTop (mkF m 39 #[.val (.ref a), .val (.ref b), .val (.int (Int32.ofNat o)), .val (.int (Int32.ofNat len)), .val .null, .unset] [.ref s.heap.size])) := g8
  have c10 : Steps p.tables e below (s₁.setTop (entryFrame m #[.ref a, .ref b, .int (Int32.ofNat o), .int (Int32.ofNat len), .null] 6)) (T8.setTop (mkF m 45 #[.val (.ref a), .val (.ref b), .val (.int (Int32.ofNat o)), .val (.int (Int32.ofNat len)), .val .null, .val (.ref s.heap.size)] [.int (Int32.ofNat N.slots.size), .ref s.heap.size, .ref a])) := by
    have hc : Steps p.tables e below (s₁.setTop (entryFrame m #[.ref a, .ref b, .int (Int32.ofNat o), .int (Int32.ofNat len), .null] 6)) (T8.setTop (mkF m 45 #[.val (.ref a), .val (.ref b), .val (.int (Int32.ofNat o)), .val (.int (Int32.ofNat len)), .val .null, .val (.ref s.heap.size)] [.int (Int32.ofNat len), .ref s.heap.size, .ref a])) := c9.trans (by
      refine XS.astore X8.here hexec rfl (hb hbytes d39) rfl rfl rfl ?_
      refine XS.aloadN X8.here hexec rfl (hb hbytes d41) rfl rfl ?_
      refine XS.aload X8.here hexec rfl (hb hbytes d42) rfl rfl ?_
      refine XS.iloadN X8.here hexec rfl (hb hbytes d44) rfl ?_
      exact Steps.refl _)
    rw [n4]; exact hc
  obtain ⟨v11, T11, X11, E11, g11⟩ := X8.callS hexec (CodL.law l s.heap.size N) hown (wks W (staticW "java/lang/String" 47 CodL.yN)) (wk W CodL.tab) (W := 1) (Nat.le_of_ble_eq_true rfl) (Nat.le_of_ble_eq_true rfl) (Nat.le_refl _) (by show 0 + len + 0 ≤ len; omega) (g := (mkF m 45 #[.val (.ref a), .val (.ref b), .val (.int (Int32.ofNat o)), .val (.int (Int32.ofNat len)), .val .null, .val (.ref s.heap.size)] [.int (Int32.ofNat N.slots.size), .ref s.heap.size, .ref a])) rfl (by rw [hml]; rfl) c10 (argsL := [.ref s.heap.size, .int (Int32.ofNat N.slots.size)]) (rest := [.ref a]) rfl rfl (by show 2 * 0 + (1 + 0) ≤ _; decide) (hb hbytes d45) (⟨rfl, n1⟩)
  obtain ⟨rfl, q11⟩ := E11
  have hB11 := hB1.mv (X8.warmed.alike.symm.trans X11.warmed.alike) q11
  have c12 : Steps p.tables e below (s₁.setTop (entryFrame m #[.ref a, .ref b, .int (Int32.ofNat o), .int (Int32.ofNat len), .null] 6)) (T11.setTop (mkF m 48 #[.val (.ref a), .val (.ref b), .val (.int (Int32.ofNat o)), .val (.int (Int32.ofNat len)), .val .null, .val (.ref s.heap.size)] [.int 0, .ref a])) := g11
  obtain ⟨T13, X13, p13, bl13, sl13, st13⟩ := X11.finit hexec hown (wk W (.fieldLink "java/lang/String" 15 "java/lang/String" "coder" "B")) (Or.inr ⟨_, (wk W (.laysFinal "java/lang/String" "java/lang/String" "coder" "B"))⟩) (Or.inl ⟨rfl, hnm⟩) f2 (Or.inl rfl) hB11 (t := .byte) (by decide +kernel) rfl (g := (mkF m 48 #[.val (.ref a), .val (.ref b), .val (.int (Int32.ofNat o)), .val (.int (Int32.ofNat len)), .val .null, .val (.ref s.heap.size)] [.int 0, .ref a])) rfl (rest := []) rfl (hb hbytes d48)
  have c14 : Steps p.tables e below (s₁.setTop (entryFrame m #[.ref a, .ref b, .int (Int32.ofNat o), .int (Int32.ofNat len), .null] 6)) (T13.setTop (mkF m 54 #[.val (.ref a), .val (.ref b), .val (.int (Int32.ofNat o)), .val (.int (Int32.ofNat len)), .val .null, .val (.ref s.heap.size)] [.ref s.heap.size, .ref a])) := (c12.trans (st13 _ (Steps.refl _))).trans (by
    refine XS.aloadN X13.here hexec rfl (hb hbytes d51) rfl rfl ?_
    refine XS.aload X13.here hexec rfl (hb hbytes d52) rfl rfl ?_
    exact Steps.refl _)
  obtain ⟨T15, X15, p15, bl15, sl15, st15⟩ := X13.finit hexec hown (wk W (.fieldLink "java/lang/String" 9 "java/lang/String" "value" "[B")) (Or.inr ⟨_, (wk W (.laysFinal "java/lang/String" "java/lang/String" "value" "[B"))⟩) (Or.inl ⟨rfl, hnm⟩) f1 (Or.inl rfl) bl13 (t := (.array .byte)) (by decide +kernel) rfl (g := (mkF m 54 #[.val (.ref a), .val (.ref b), .val (.int (Int32.ofNat o)), .val (.int (Int32.ofNat len)), .val .null, .val (.ref s.heap.size)] [.ref s.heap.size, .ref a])) rfl (rest := []) rfl (hb hbytes d54)
  have c16 : Steps p.tables e below (s₁.setTop (entryFrame m #[.ref a, .ref b, .int (Int32.ofNat o), .int (Int32.ofNat len), .null] 6)) (T15.setTop (mkF m 57 #[.val (.ref a), .val (.ref b), .val (.int (Int32.ofNat o)), .val (.int (Int32.ofNat len)), .val .null, .val (.ref s.heap.size)] [])) := c14.trans (st15 _ (Steps.refl _))
  have ap := apart (Or.inr ⟨_, (wk W (.laysFinal "java/lang/String" "java/lang/String" "value" "[B"))⟩) (Or.inr ⟨_, (wk W (.laysFinal "java/lang/String" "java/lang/String" "coder" "B"))⟩) f1 f2 (t₁ := .array .byte) (t₂ := .byte) (by decide +kernel) (by decide +kernel) (by decide)
  have al := X8.warmed.alike.symm.trans X15.warmed.alike
  have n7 : T11.heap[s.heap.size]? = some N := by rw [q11]; exact n1.1
  exact ⟨T15, none, _, _, _, X15, by simp, rfl, by omega, (fun _ => rfl), ⟨rfl, _, N, bl15, ((Same.refl D _).set _ (by simp)).set _ (by simp), sl15, (Cell.slots_setSlot_ne _ ap).trans sl13, n1.keep al (p15.other hne (p13.other hne n7)), n2, by rw [al.findClass]; exact n3, n4, n5, fun y c h1 h2 => p15.other h1 (p13.other h1 (by rw [q11]; exact n6 y c h2)), by rw [p15.2.2, p13.2.2, q11]; exact z8⟩, fun fs hl => c16.trans (X15.returnOut hexec hret (hb hbytes d57) hl)⟩
end New4
namespace New1
def yN : MethodName := ⟨"java/lang/String", "<init>", "([C)V"⟩
abbrev yB : ByteArray := jdk_42_method_3_code
theorem d0 : decode yB 0 = .ok (.aload_n 0, 1) := by decide +kernel
theorem d1 : decode yB 1 = .ok (.aload_n 1, 1) := by decide +kernel
theorem d2 : decode yB 2 = .ok (.iconst 0, 1) := by decide +kernel
theorem d3 : decode yB 3 = .ok (.aload_n 1, 1) := by decide +kernel
theorem d4 : decode yB 4 = .ok (.arraylength, 1) := by decide +kernel
theorem d5 : decode yB 5 = .ok (.aconst_null, 1) := by decide +kernel
theorem d6 : decode yB 6 = .ok (.invokespecial 27, 3) := by decide +kernel
theorem d9 : decode yB 9 = .ok (.return_, 1) := by decide +kernel
def site : List Cond := [New4.tab] ++ initW "java/lang/String" 27 New4.yN
def tab : Cond := tabOf yN yB 2 none site
def P (a : Addr) (D : Cell) (fV fC : Field) (b : Addr) (A : Cell) (z : Int32) (args : Array Value) (s : State) : Prop := args = #[.ref a, .ref b] ∧ Blank "java/lang/String" a D s ∧ Found "java/lang/String" "value" "[B" fV s ∧ Found "java/lang/String" "coder" "B" fC s ∧ Ch b A s ∧ StaticIs s "java/lang/String" "COMPACT_STRINGS" "Z" (.int z) ∧ ¬ z = 0 ∧ 0 < A.slots.size ∧ A.slots.size ≤ 536870912 ∧ ∀ i, i < A.slots.size → ¬ 255 < cv A i
def E (a : Addr) (D : Cell) (fV fC : Field) (A : Cell) (r : Option Value) (s u : State) : Prop := Got a D fV fC A 0 A.slots.size r s u
/-- new String(chars), not empty, no char above 255: a Latin-1 String of their low bytes -/
theorem law (l : Launch) (a : Addr) (D : Cell) (fV fC : Field) (b : Addr) (A : Cell) (z : Int32) : Law l yN 2 1 3 52 yB 2 none site (P a D fV fC b A z) (E a D fV fC A) [⟨a, fC.slot⟩, ⟨a, fV.slot⟩] 1 A.slots.size := by
  refine Law.of_walk (plainFor_of_name (by decide +kernel)) (by decide +kernel) (by decide +kernel) (by decide) (fun _ _ h => by rw [h.1]; rfl) (fun _ U U' hal hh h => ⟨h.1, h.2.1.mv hal hh, h.2.2.1.al hal, h.2.2.2.1.al hal, h.2.2.2.2.1.mv hal hh, h.2.2.2.2.2.1.there hal hh, h.2.2.2.2.2.2⟩) (fun r U U' V V' h1 hal h2 h => Got.mv r U U' V V' h1 hal h2 h) ?_
  intro p e s m args below meth c s₁ X0 hexec hbytes hml hret hlk hnm hown hh0 W hP
  obtain ⟨rfl, hB, f1, f2, hA, s1, hz, l0, l2, hp⟩ := hP
  have c1 : Steps p.tables e below (s₁.setTop (entryFrame m #[.ref a, .ref b] 2)) (s₁.setTop (mkF m 0 #[.val (.ref a), .val (.ref b)] [])) := entry rfl
  have c2 : Steps p.tables e below (s₁.setTop (entryFrame m #[.ref a, .ref b] 2)) (s₁.setTop (mkF m 6 #[.val (.ref a), .val (.ref b)] [.null, .int (Int32.ofNat A.slots.size), .int 0, .ref b, .ref a])) := c1.trans (by
    refine XS.aloadN X0.here hexec rfl (hb hbytes d0) rfl rfl ?_
    refine XS.aloadN X0.here hexec rfl (hb hbytes d1) rfl rfl ?_
    refine iconstV X0.here hexec rfl 0 (hb hbytes d2) (by decide) ?_
    refine XS.aloadN X0.here hexec rfl (hb hbytes d3) rfl rfl ?_
    refine X0.alen hexec (hA.1.mv X0.warmed.alike hh0) rfl rfl (hb hbytes d4) ?_
    refine XS.aconstNull X0.here hexec rfl (hb hbytes d5) ?_
    exact Steps.refl _)
  obtain ⟨v3, T3, X3, E3, g3⟩ := X0.callN hexec (New4.law l a D fV fC b A z 0 A.slots.size) rfl hown (wks W (initW "java/lang/String" 27 New4.yN)) (W New4.tab (by simp only [site, List.mem_cons, List.mem_append, true_or, or_true])) (W := 0) (Nat.le_of_ble_eq_true rfl) (Nat.le_of_ble_eq_true rfl) (Nat.le_refl _) (by show 0 + A.slots.size ≤ A.slots.size; omega) (g := (mkF m 6 #[.val (.ref a), .val (.ref b)] [.null, .int (Int32.ofNat A.slots.size), .int (Int32.ofNat 0), .ref b, .ref a])) rfl (by rw [hml]; rfl) c2 (argsL := [.ref b, .int (Int32.ofNat 0), .int (Int32.ofNat A.slots.size), .null]) (rest := []) rfl rfl (by show 2 * 0 + 0 ≤ _; decide) (hb hbytes d6) (⟨rfl, hB.mv X0.warmed.alike hh0, f1.al X0.warmed.alike, f2.al X0.warmed.alike, hA.mv X0.warmed.alike hh0, s1.there X0.warmed.alike hh0, hz, l0, by omega, l2, fun i hi => by rw [Nat.zero_add]; exact hp i hi⟩)
  have e0 := Got.mv _ s₁ s _ _ hh0.symm (Vm.Alike.refl _) rfl E3
  obtain rfl := e0.1
  have c4 : Steps p.tables e below (s₁.setTop (entryFrame m #[.ref a, .ref b] 2)) (T3.setTop (mkF m 9 #[.val (.ref a), .val (.ref b)] [])) := g3
  exact ⟨T3, none, _, _, _, X3, by simp, rfl, by omega, (fun _ => rfl), e0, fun fs hl => c4.trans (X3.returnOut hexec hret (hb hbytes d9) hl)⟩
theorem pays {l : Launch} {R : Room} {p : Program} {e : Env} {below : List Frame} {s : State} {sargs : Array Value} {len W : Nat} (a : Addr) (D : Cell) (fV fC : Field) (b : Addr) (A : Cell) (z : Int32) (htab : tab.before sargs s = true) (hfr : 4 ≤ R.frames) (hlo : W + 65 ≤ R.locals) :
    Back l R p e below s sargs yN len W (fun A₁ a₁ => A₁.cells + 1 ≤ R.cells ∧ A₁.slots + A.slots.size ≤ R.slots ∧ P a D fV fC b A z a₁ A₁.U) (fun A₁ _ v₁ B₁ => E a D fV fC A v₁ A₁.U B₁.U ∧ B₁.locs = A₁.locs ++ [⟨a, fC.slot⟩, ⟨a, fV.slot⟩] ∧ B₁.cells = A₁.cells + 1 ∧ B₁.slots = A₁.slots + A.slots.size) :=
  (law l a D fV fC b A z).pays htab hfr (by omega)
end New1
/-- the byte, read back as charAt reads it, is the char -/
theorem lo8_mask {x : Int32} (h0 : ¬ x < 0) (h1 : ¬ 255 < x) : lo8 x &&& 255 = x := by
  have t : ∀ k : Fin 256, lo8 (Int32.ofNat k.val) &&& 255 = Int32.ofNat k.val := by decide +kernel
  rw [Int32.lt_iff_toInt_lt] at h0 h1
  have e0 : (0 : Int32).toInt = 0 := rfl
  have e1 : (255 : Int32).toInt = 255 := rfl
  obtain ⟨k, hk⟩ : ∃ k : Nat, x.toInt = k := ⟨x.toInt.toNat, by omega⟩
  have hx : x = Int32.ofNat k := Int32.toInt_inj.mp (by rw [hk, Int32.toInt_ofNat_small (by omega)])
  rw [hx]
  exact t ⟨k, by omega⟩
end StrChars
namespace StrChars.Road
open Jvm Sem ClassFile Op Lib Jvm.Stand Jvm.Free Jvm.Free.XT
open Jvm.Lib.Cold (StaticIs)
abbrev ST : String := "java/lang/String"
/-- every table word that New1's law asks, flat -/
abbrev words : List Jvm.Cond := [.code New1.yN New1.yB 2 none, .initialized ST, .methodLink ST 27 New4.yN, .instanceMethod New4.yN,
  .code New4.yN New4.yB 6 none, .fieldLink ST 38 ST "COMPACT_STRINGS" "Z", .laysFinal ST ST "value" "[B", .fieldLink ST 9 ST "value" "[B", .laysFinal ST ST "coder" "B", .fieldLink ST 15 ST "coder" "B",
  .methodLink ST 1 Lib.objectInit, .instanceMethod Lib.objectInit, .code Lib.objectInit ⟨#[0xb1]⟩ 1 none, .methodLink ST 177 Cmp3.yN, .static Cmp3.yN, .methodLink ST 47 CodL.yN, .static CodL.yN,
  .code Cmp3.yN Cmp3.yB 6 (some (.array .byte)), .initialized U16, .arrayClass .byte, .methodLink U16 115 Cmp5.yN, .static Cmp5.yN, .code Cmp5.yN Cmp5.yB 7 (some .int), .code CodL.yN CodL.yB 2 (some .byte)]
theorem tab_of {a : Array Value} {s : State} (h : ∀ w ∈ words, w.before a s = true) : New1.tab.before a s = true := by
  have h5 : Cmp5.tab.before a s = true := unparts (wk h (.code Cmp5.yN Cmp5.yB 7 (some .int))) (wks h (.initialized Cmp5.yN.cls :: Cmp5.site))
  have hc : CodL.tab.before a s = true := unparts (wk h (.code CodL.yN CodL.yB 2 (some .byte))) (wks h (.initialized CodL.yN.cls :: CodL.site))
  have q5 : ∀ w ∈ Cmp5.tab :: words, w.before a s = true := fun w hw => (List.mem_cons.mp hw).elim (fun e => e ▸ h5) (h w)
  have h3 : Cmp3.tab.before a s = true := unparts (wk q5 (.code Cmp3.yN Cmp3.yB 6 (some (.array .byte)))) (wks q5 (.initialized Cmp3.yN.cls :: Cmp3.site))
  have q3 : ∀ w ∈ Cmp3.tab :: CodL.tab :: words, w.before a s = true := fun w hw => (List.mem_cons.mp hw).elim (fun e => e ▸ h3) fun hw => (List.mem_cons.mp hw).elim (fun e => e ▸ hc) (h w)
  have h4 : New4.tab.before a s = true := unparts (wk q3 (.code New4.yN New4.yB 6 none)) (wks q3 (.initialized New4.yN.cls :: New4.site))
  have q4 : ∀ w ∈ New4.tab :: words, w.before a s = true := fun w hw => (List.mem_cons.mp hw).elim (fun e => e ▸ h4) (h w)
  exact unparts (wk q4 (.code New1.yN New1.yB 2 none)) (wks q4 (.initialized New1.yN.cls :: New1.site))
/-- the words ride from the start Z to the walk's own state -/
theorem moved {Z s : State} {a0 args : Array Value} (hZ : Z.Warmed39 s.vm) (hw : ∀ d ∈ words, d.before a0 Z = true) : ∀ d ∈ words, d.before args s = true := fun d hd => by
  have q := hw d hd
  have t : ∀ d ∈ words, d = .arrayClass .byte ∨ (d.onTables && d.keepsFace) = true := by decide +kernel
  rcases t d hd with rfl | t
  · exact RoadKit.mvA hZ q
  · exact RoadKit.mv hZ q t
/-- WHAT COMES BACK, over the tables of the start Z: h the heap at the call, h' behind it -/
def Q (Z : State) (x : Addr) (A : Cell) (h : Heap) (v : Option Value) (h' : Heap) (L : List Loc) : Prop := v = none ∧ (∀ y ∈ L, y.base = x) ∧ RoadKit.Keep h h' [x] ∧ h'.size = h.size + 1 ∧ RoadKit.Exa Z h' x ST ∧ RoadKit.Fld Z h' x ST "value" "[B" (.ref h.size) ∧ RoadKit.Fld Z h' x ST "coder" "B" (.int 0) ∧
  (∃ V : Cell, RoadKit.Arr Z h' h.size V .byte ∧ V.vm = .none ∧ Z.vm.findClass "[B" = some V.cls ∧ V.slots.size = A.slots.size ∧ ∀ j, j < A.slots.size → V.slots[j]? = some (.int (lo8 (cv A j)))) ∧
  ∀ (O n d : String) (w : Value), RoadKit.Fld Z h x O n d w → RoadKit.slotOf Z O n d ≠ RoadKit.slotOf Z ST "value" "[B" → RoadKit.slotOf Z O n d ≠ RoadKit.slotOf Z ST "coder" "B" → RoadKit.Fld Z h' x O n d w
/-- **new String(chars) AT A CALL, IN THE ROAD'S FORM**: for specialBack behind newO: x the fresh String, b the char[] with the cell A -/
theorem back {p : Program} {l : Launch} {e : Env} {R : Room} {s : State} {args : Array Value} {below : List Frame} {len W : Nat} {Z : State} {a0 : Array Value} {h : Heap} (hZ : Z.Warmed39 s.vm) (hw : ∀ d ∈ words, d.before a0 Z = true) {kI : Nat} (wi : (Jvm.Cond.instantiable ST kI).before a0 Z = true)
    {x b : Addr} {A : Cell} {z : Int32} {v0 c0 : Value} (E : RoadKit.Exa Z h x ST) (V : RoadKit.Fld Z h x ST "value" "[B" v0) (C : RoadKit.Fld Z h x ST "coder" "B" c0) (K : RoadKit.Arr Z h b A .char) (hty : Typed .char A) (S : RoadKit.Sta Z h ST "COMPACT_STRINGS" "Z" (.int z)) (hz : ¬ z = 0)
    (l0 : 0 < A.slots.size) (l2 : A.slots.size ≤ 536870912) (hp : ∀ i, i < A.slots.size → ¬ 255 < cv A i) (hfr : 4 ≤ R.frames) (hlo : W + 65 ≤ R.locals) :
    Back l R p e below s args New1.yN len W (fun P a => a = #[.ref x, .ref b] ∧ P.U.heap = h ∧ P.cells + 1 ≤ R.cells ∧ P.slots + A.slots.size ≤ R.slots)
      (fun P _ v B => ∃ L, Q Z x A h v B.U.heap L ∧ B.locs = P.locs ++ L ∧ B.cells = P.cells + 1 ∧ B.slots = P.slots + A.slots.size) := by
  intro m meth c P g ig mk a X hg hsize hdg hW hn hp'
  obtain ⟨rfl, rfl, r1, r2⟩ := hp'
  have al : Z.vm.Alike P.U.vm := hZ.alike.trans X.warmed.alike
  obtain ⟨D, cfV, kV, iV, fV, hD, gV, stV, knV, obV, asV, slV⟩ := id V
  obtain ⟨D', cfC, kC, iC, fC, hD', gC, stC, -, -, asC, slC⟩ := id C
  cases hD.symm.trans hD'
  obtain ⟨D2, kD, e1, e2, e3, e4, e5⟩ := id E
  cases hD.symm.trans e1
  obtain ⟨c2, k2, i1, i2, i3, -⟩ := Cond.instantiable_spec wi
  cases e2.symm.trans i1
  cases e3.symm.trans i2
  obtain ⟨kU, u1, u2⟩ := al.2.2 _ _ e3
  have hB : Blank ST x D P.U := ⟨hD, ⟨knV, fun q hq => by rw [hq] at obV; cases obV⟩, by rw [al.findClass]; exact e2, kU, u1, by rw [u2]; exact i3, by rw [u2]; exact e5 i3⟩
  have F1 : Found ST "value" "[B" fV P.U := ⟨SBG.found_only al ⟨cfV, kV, iV, gV⟩, stV⟩
  have F2 : Found ST "coder" "B" fC P.U := ⟨SBG.found_only al ⟨cfC, kC, iC, gC⟩, stC⟩
  have hA : Ch b A P.U := ⟨⟨K.1, State.isArrayOf_alike al K.2.1, K.2.2, by omega⟩, hty⟩
  have hS : StaticIs P.U ST "COMPACT_STRINGS" "Z" (.int z) := by
    obtain ⟨cfS, iS, kS, fS, st, cS, t1, t2, t3, t4, t5, t6, t7⟩ := S
    exact StaticIs.there (s := { Z with heap := P.U.heap }) ⟨cfS, iS, kS, fS, st, cS, t1, t2, t3, t4, t5, (fun q => by rw [q] at t6; cases t6), t7⟩ al rfl
  obtain ⟨v, B, X', ⟨⟨hv, E', V', q1, q2, q3, q4, q5, q6, q7, q8, q9, q10, q11⟩, hl, hc, hs⟩, st⟩ := New1.pays x D fV fC b A z (tab_of (moved hZ hw)) hfr hlo m meth c P g ig mk _ X hg hsize hdg hW hn ⟨r1, r2, rfl, hB, F1, F2, hA, hS, hz, l0, l2, hp⟩
  have al' : Z.vm.Alike B.U.vm := hZ.alike.trans X'.warmed.alike
  have hsz : E'.slots.size = D.slots.size := by
    obtain ⟨-, -, -, kB, w1, w2, w3⟩ := q1
    obtain ⟨kB', y1, y2⟩ := al'.2.2 _ _ e3
    rw [q2.2.1] at w1
    cases w1.symm.trans y1
    rw [w3, e5 i3, y2]
  refine ⟨v, B, X', ⟨_, ⟨hv, ?_, ⟨by omega, fun y cy hy hn' => q10 y cy (by simpa using hn') hy, fun y cy hy => ?_⟩, q11, ⟨E', _, q1.1, by rw [q2.2.1]; exact e2, by rw [q2.2.1]; exact e3, by rw [q2.1]; exact obV, fun _ => by rw [hsz]; exact e5 i3⟩,
    ⟨E', cfV, kV, iV, fV, q1.1, gV, stV, by rw [q2.1]; exact knV, by rw [q2.1]; exact obV, by rw [q2.2.1]; exact asV, q3⟩, ⟨E', cfC, kC, iC, fC, q1.1, gC, stC, by rw [q2.1]; exact knV, by rw [q2.1]; exact obV, by rw [q2.2.1]; exact asC, q4⟩,
    ⟨V', ⟨q5.1, State.isArrayOf_alike al'.symm q5.2.1, q5.2.2.1⟩, q6, by rw [← al'.findClass]; exact q7, q8, fun j hj => by have := q9 j hj; rwa [Nat.zero_add] at this⟩, fun O n d w F n1 n2 => ?_⟩, hl, hc, hs⟩, st⟩
  · intro y hy
    simp only [List.mem_cons, List.not_mem_nil, or_false] at hy
    rcases hy with rfl | rfl <;> rfl
  · by_cases q : y = x
    · subst q
      cases hD.symm.trans hy
      exact ⟨E', q1.1, q2.2.1, q2.1, hsz⟩
    · exact ⟨cy, q10 y cy q hy, rfl, rfl, rfl⟩
  · obtain ⟨D3, cf, k, i, f, g1, g2, g3, g4, g5, g6, g7⟩ := F
    cases hD.symm.trans g1
    simp only [RoadKit.slotOf, g2, gV, gC, Option.map_some, Option.getD_some] at n1 n2
    exact ⟨E', cf, k, i, f, q1.1, g2, g3, by rw [q2.1]; exact g4, by rw [q2.1]; exact g5, by rw [q2.2.1]; exact g6, by rw [q2.2.2 f.slot (by simp [n1, n2])]; exact g7⟩
end StrChars.Road
namespace StrChars.Road
open Jvm Sem ClassFile Op Lib Jvm.Stand Jvm.Free Jvm.Free.XT
/-- WHAT COMES BACK, the byte[] as a list of values -/
def QA (Z : State) (x : Addr) (zn : Int32) (cs : List Int32) (h : Heap) (v : Option Value) (h' : Heap) (L : List Loc) : Prop := v = none ∧ (∀ y ∈ L, y.base = x) ∧ RoadKit.Keep h h' [x] ∧ h'.size = h.size + 1 ∧ RoadKit.Exa Z h' x ST ∧ RoadKit.Fld Z h' x ST "value" "[B" (.ref h.size) ∧ RoadKit.Fld Z h' x ST "coder" "B" (.int 0) ∧
  (∃ kb, Z.vm.findClass "[B" = some kb ∧ RoadKit.Arv Z h' h.size kb .byte zn (cs.map fun c => .int (lo8 c)) (.int 0)) ∧
  ∀ (O n d : String) (w : Value), RoadKit.Fld Z h x O n d w → RoadKit.slotOf Z O n d ≠ RoadKit.slotOf Z ST "value" "[B" → RoadKit.slotOf Z O n d ≠ RoadKit.slotOf Z ST "coder" "B" → RoadKit.Fld Z h' x O n d w
/-- **new String(chars) AT A CALL, THE ARRAYS AS LISTS**: the char[] at b holds cs, not empty, no char above 255 -/
theorem backArv {p : Program} {l : Launch} {e : Env} {R : Room} {s : State} {args : Array Value} {below : List Frame} {len W : Nat} {Z : State} {a0 : Array Value} {h : Heap} (hZ : Z.Warmed39 s.vm) (hw : ∀ d ∈ words, d.before a0 Z = true) {kI : Nat} (wi : (Jvm.Cond.instantiable ST kI).before a0 Z = true)
    {x b : Addr} {k : ClassId} {zn z : Int32} {cs : List Int32} {dv v0 c0 : Value} (E : RoadKit.Exa Z h x ST) (V : RoadKit.Fld Z h x ST "value" "[B" v0) (C : RoadKit.Fld Z h x ST "coder" "B" c0) (K : RoadKit.Arv Z h b k .char zn (cs.map Value.int) dv) (S : RoadKit.Sta Z h ST "COMPACT_STRINGS" "Z" (.int z)) (hz : ¬ z = 0)
    (hlen : zn.toNatClampNeg = cs.length) (h0 : 0 < cs.length) (hbig : cs.length ≤ 536870912) (hall : ∀ c ∈ cs, ¬ 255 < c) (hfr : 4 ≤ R.frames) (hlo : W + 65 ≤ R.locals) :
    Back l R p e below s args New1.yN len W (fun P a => a = #[.ref x, .ref b] ∧ P.U.heap = h ∧ P.cells + 1 ≤ R.cells ∧ P.slots + cs.length ≤ R.slots)
      (fun P _ v B => ∃ L, QA Z x zn cs h v B.U.heap L ∧ B.locs = P.locs ++ L ∧ B.cells = P.cells + 1 ∧ B.slots = P.slots + cs.length) := by
  obtain ⟨A, K1, K2, K3, K4, K5, K6⟩ := K
  have e : A.slots.size = cs.length := K3.trans hlen
  have hat : ∀ (i : Nat) (hi : i < cs.length), A.slots[i]? = some (.int cs[i]) := fun i hi => by rw [K5 i (by omega)]; simp [List.getD_eq_getElem?_getD, hi]
  have hcv : ∀ (i : Nat) (hi : i < cs.length), cv A i = cs[i] := fun i hi => by unfold cv; rw [hat i hi]
  have hty : Typed .char A := fun i v hv => by
    have hi : i < A.slots.size := (Array.getElem?_eq_some_iff.mp hv).1
    have q := K5 i hi
    rw [hv] at q
    rw [Option.some.inj q]
    exact K6 i hi
  refine Back.mono (back hZ hw wi E V C K1 hty S hz (by omega) (by omega) (fun i hi => by rw [hcv i (by omega)]; exact hall _ (List.getElem_mem _)) hfr hlo) (fun P a hp => ⟨hp.1, hp.2.1, hp.2.2.1, by rw [e]; exact hp.2.2.2⟩) (fun P a v B hp hq => ?_)
  obtain ⟨L, ⟨q1, q2, q3, q4, q5, q6, q7, ⟨V', v1, v2, v3, v4, v5⟩, q9⟩, hl, hc, hs⟩ := hq
  refine ⟨L, ⟨q1, q2, q3, q4, q5, q6, q7, ⟨V'.cls, v3, V', v1, rfl, by rw [v4, e, hlen], K4, fun i hi => ?_, fun i hi => ?_⟩, q9⟩, hl, hc, by rw [hs, e]⟩
  · have hi' : i < cs.length := by omega
    rw [v5 i (by omega), hcv i hi']; simp [List.getD_eq_getElem?_getD, hi']
  · have hi' : i < cs.length := by omega
    simp only [List.getD_eq_getElem?_getD, List.getElem?_map, List.getElem?_eq_getElem hi', Option.map_some, Option.getD_some]
    exact fits_lo8 _
end StrChars.Road
namespace StrChars.Road
open Jvm Sem ClassFile Op Lib Jvm.Stand Jvm.Free Jvm.Free.XT
/-- WHAT COMES BACK, in the writer's own shape -/
def QV (Z : State) (x : Addr) (N : Int32) (bs : List Int32) (h : Heap) (n0 : Nat) (v : Option Value) (h' : Heap) (L : List Loc) : Prop := v = none ∧ RoadKit.Fr n0 L ∧ RoadKit.Keep h h' [x] ∧ RoadKit.Exa Z h' x ST ∧ RoadKit.Fld Z h' x ST "coder" "B" (.int 0) ∧
  ∃ (t : Addr) (kb : ClassId), n0 ≤ t ∧ h.size ≤ t ∧ ¬ t = x ∧ RoadKit.Fld Z h' x ST "value" "[B" (.ref t) ∧ RoadKit.Arv Z h' t kb .byte N (bs.map Value.int) (.int 0)
/-- **new String(chars) AT A CALL, FOR THE WRITER**: a char[] of n known ints, each 0 to 255 -/
theorem backV {p : Program} {l : Launch} {e : Env} {R : Room} {s : State} {args : Array Value} {below : List Frame} {len W : Nat} {Z : State} {a0 : Array Value} {h : Heap} (hZ : Z.Warmed39 s.vm) (hw : ∀ d ∈ words, d.before a0 Z = true) {kI : Nat} (wi : (Jvm.Cond.instantiable ST kI).before a0 Z = true)
    {x b : Addr} {kC : ClassId} {cs bs : List Int32} {d v0 c0 : Value} {z N : Int32} {n n0 : Nat} (hx0 : n0 ≤ x) (hh0 : n0 ≤ h.size) (E : RoadKit.Exa Z h x ST) (V : RoadKit.Fld Z h x ST "value" "[B" v0) (C : RoadKit.Fld Z h x ST "coder" "B" c0) (K : RoadKit.Arv Z h b kC .char N (cs.map Value.int) d) (S : RoadKit.Sta Z h ST "COMPACT_STRINGS" "Z" (.int z)) (hz : ¬ z = 0)
    (hn : cs.length = n) (hN : N = Int32.ofNat n) (l0 : 0 < n) (l2 : n ≤ 4000) (hp : ∀ c ∈ cs, ¬ c < 0 ∧ ¬ (255 : Int32) < c) (hb : bs = cs.map (fun c => c.toInt8.toInt32)) (hfr : 4 ≤ R.frames) (hlo : W + 65 ≤ R.locals) :
    Back l R p e below s args (⟨"java/lang/String", "<init>", "([C)V"⟩ : MethodName) len W (fun P a => a = #[.ref x, .ref b] ∧ P.U.heap = h ∧ P.cells + 1 ≤ R.cells ∧ P.slots + n ≤ R.slots)
      (fun P _ v B => ∃ L, QV Z x N bs h n0 v B.U.heap L ∧ B.locs = P.locs ++ L ∧ B.cells = P.cells + 1 ∧ B.slots = P.slots + n) := by
  subst hn hN hb
  refine Back.mono (backArv hZ hw wi E V C K S hz (n32 (by omega)) l0 (by omega) (fun c hc => (hp c hc).2) hfr hlo) (fun P a hp => hp) (fun P a v B hp hq => ?_)
  obtain ⟨L, ⟨q1, q2, q3, q4, q5, q6, q7, ⟨kb, v1, v2⟩, q9⟩, hl, hc, hs⟩ := hq
  exact ⟨L, ⟨q1, fun y hy => by rw [q2 y hy]; exact hx0, q3, q5, q7, h.size, kb, hh0, Nat.le_refl _, Nat.ne_of_gt E.lt, q6, by rw [List.map_map]; exact v2⟩, hl, hc, hs⟩
end StrChars.Road
namespace StrChars
open Jvm Sem ClassFile Op Lib Jvm.Stand Jvm.Free.XT Jvm.Free.ALB Jvm.Free.JM Jvm.Free
open Jvm.Lib.Cold (StaticIs)
def hi8 (x : Int32) : Int32 := lo8 (x >>> ((8 : Int32) &&& 31))
/-- what StringUTF16.getChar makes of two bytes -/
def pairCh (u v : Int32) : Int32 := (((u &&& 255) <<< ((0 : Int32) &&& 31)) ||| ((v &&& 255) <<< ((8 : Int32) &&& 31))).toUInt32.toUInt16.toUInt32.toInt32
theorem lo8_and (x : Int32) : (lo8 x &&& 255).toBitVec.toNat = x.toBitVec.toNat % 256 := by
  have h : (lo8 x).toBitVec = (x.toBitVec.signExtend 8).signExtend 32 := by rw [lo8, Int8.toBitVec_toInt32, Int32.toBitVec_toInt8]
  rw [Int32.toBitVec_and, BitVec.toNat_and, h]
  have e : ((x.toBitVec.signExtend 8).signExtend 32).toNat % 256 = x.toBitVec.toNat % 256 := by
    rw [BitVec.toNat_signExtend]
    have hlt := x.toBitVec.isLt
    simp only [BitVec.toNat_setWidth, BitVec.toNat_signExtend]
    split <;> split <;> omega
  rw [← e]
  exact Nat.and_two_pow_sub_one_eq_mod _ 8
theorem pair_says {c : Int32} (h0 : ¬ c < 0) (h1 : ¬ 65535 < c) : pairCh (lo8 c) (hi8 c) = c := by
  rw [Int32.lt_iff_toInt_lt] at h0 h1
  have e0 : (0 : Int32).toInt = 0 := rfl
  have e1 : (65535 : Int32).toInt = 65535 := rfl
  have hc : c.toInt = c.toBitVec.toNat := by
    have := c.toBitVec.isLt
    have e : c.toInt = c.toBitVec.toInt := rfl
    rw [e] at h0 h1
    rw [e]
    rw [BitVec.toInt_eq_toNat_cond] at h0 h1 ⊢
    split at h0 <;> split <;> omega
  have hn : c.toBitVec.toNat < 65536 := by omega
  have a1 := lo8_and c
  have a2 : (hi8 c &&& 255).toBitVec.toNat = c.toBitVec.toNat / 256 := by
    rw [hi8, lo8_and]
    have e : ((8 : Int32) &&& 31) = 8 := by decide
    rw [e, Int32.toBitVec_shiftRight]
    have e2 : ((8 : Int32).toBitVec.smod 32) = 8#32 := by decide
    rw [e2, BitVec.sshiftRight_eq', BitVec.toNat_sshiftRight_of_msb_false (by rw [BitVec.msb_eq_false_iff_two_mul_lt]; omega)]
    show c.toBitVec.toNat >>> 8 % 256 = _
    rw [Nat.shiftRight_eq_div_pow]
    omega
  unfold pairCh
  apply Int32.toBitVec_inj.mp
  apply BitVec.eq_of_toNat_eq
  have f0 : ((0 : Int32) &&& 31) = 0 := by decide
  have f8 : ((8 : Int32) &&& 31) = 8 := by decide
  rw [f0, f8]
  have g : (((lo8 c &&& 255) <<< (0 : Int32)) ||| ((hi8 c &&& 255) <<< (8 : Int32))).toBitVec.toNat = c.toBitVec.toNat := by
    rw [Int32.toBitVec_or, Int32.toBitVec_shiftLeft, Int32.toBitVec_shiftLeft]
    have s0 : ((0 : Int32).toBitVec.smod 32) = 0#32 := by decide
    have s8 : ((8 : Int32).toBitVec.smod 32) = 8#32 := by decide
    rw [s0, s8, BitVec.toNat_or]
    simp only [BitVec.shiftLeft_eq', BitVec.toNat_shiftLeft, a1, a2]
    show (c.toBitVec.toNat % 256) <<< 0 % 2 ^ 32 ||| (c.toBitVec.toNat / 256) <<< 8 % 2 ^ 32 = _
    rw [Nat.shiftLeft_zero, Nat.mod_eq_of_lt (show c.toBitVec.toNat % 256 < 2 ^ 32 by omega), Nat.mod_eq_of_lt (show (c.toBitVec.toNat / 256) <<< 8 < 2 ^ 32 by rw [Nat.shiftLeft_eq]; omega), Nat.or_comm, ← Nat.shiftLeft_add_eq_or_of_lt (by omega), Nat.shiftLeft_eq]
    omega
  show BitVec.toNat (((((lo8 c &&& 255) <<< (0 : Int32)) ||| ((hi8 c &&& 255) <<< (8 : Int32))).toBitVec.setWidth 16).setWidth 32) = _
  rw [BitVec.toNat_setWidth, BitVec.toNat_setWidth, g]
  omega
end StrChars
namespace StrChars
open Jvm Sem ClassFile Op Lib Jvm.Stand Jvm.Free.XT Jvm.Free.ALB Jvm.Free.JM Jvm.Free
open Jvm.Lib.Cold (StaticIs)
/-- the array's cell V codes the n chars f 0 .. f (n - 1) by the coder cd, as the JDK does: coder 1 just where some char is above 255 -/
def Cod (cd : Int32) (n : Nat) (f : Nat → Int32) (V : Cell) : Prop := (cd = 0 ∧ V.slots.size = n ∧ ∀ j, j < n → V.slots[j]? = some (.int (lo8 (f j))) ∧ ¬ 255 < f j) ∨ (cd = 1 ∧ V.slots.size = 2 * n ∧ (∀ j, j < n → V.slots[2 * j]? = some (.int (lo8 (f j))) ∧ V.slots[2 * j + 1]? = some (.int (hi8 (f j)))) ∧ ∃ j, j < n ∧ 255 < f j)
/-- **x is a String of the n chars f 0 .. f (n - 1)**, Latin-1 or UTF-16; its array at t has the cell V -/
def Txt (x t : Addr) (V : Cell) (cd : Int32) (n : Nat) (f : Nat → Int32) (U : State) : Prop := Exact "java/lang/String" x U ∧ Has x "java/lang/String" "value" "[B" (.ref t) U ∧ Has x "java/lang/String" "coder" "B" (.int cd) U ∧ XT.Arr .byte t V U ∧ Cod cd n f V ∧ ∀ j, j < n → ¬ f j < 0 ∧ ¬ 65535 < f j
theorem Txt.mv {x t : Addr} {V : Cell} {cd : Int32} {n : Nat} {f : Nat → Int32} {U U' : State} (h : Txt x t V cd n f U) (hal : U.vm.Alike U'.vm) (hh : U'.heap = U.heap) : Txt x t V cd n f U' := ⟨h.1.mv hal hh, h.2.1.mv hal hh, h.2.2.1.mv hal hh, h.2.2.2.1.mv hal hh, h.2.2.2.2⟩
end StrChars
namespace StrChars.Road
open Jvm Sem ClassFile Op Lib Jvm.Stand Jvm.Free Jvm.Free.XT
open Jvm.Lib.Cold (StaticIs)
theorem consq {a : Array Value} {s : State} {c : Jvm.Cond} {L : List Jvm.Cond} (h0 : c.before a s = true) (h : ∀ w ∈ L, w.before a s = true) : ∀ w ∈ c :: L, w.before a s = true := fun w hw => (List.mem_cons.mp hw).elim (fun e => e ▸ h0) (h w)
/-- the bytes of the chars cs, low before high -/
def wideBytes : List Int32 → List Value
  | [] => []
  | c :: cs => .int (lo8 c) :: .int (hi8 c) :: wideBytes cs
theorem wide_lo (d : Value) : ∀ (cs : List Int32) (j : Nat), j < cs.length → (wideBytes cs).getD (2 * j) d = .int (lo8 (cs.getD j 0))
  | [], j, h => absurd h (Nat.not_lt_zero j)
  | c :: cs, 0, _ => rfl
  | c :: cs, j + 1, h => by
    have q := wide_lo d cs j (by simpa using h)
    rw [show 2 * (j + 1) = 2 * j + 1 + 1 from by omega]
    simpa [wideBytes] using q
theorem wide_hi (d : Value) : ∀ (cs : List Int32) (j : Nat), j < cs.length → (wideBytes cs).getD (2 * j + 1) d = .int (hi8 (cs.getD j 0))
  | [], j, h => absurd h (Nat.not_lt_zero j)
  | c :: cs, 0, _ => rfl
  | c :: cs, j + 1, h => by
    have q := wide_hi d cs j (by simpa using h)
    rw [show 2 * (j + 1) + 1 = 2 * j + 1 + 1 + 1 from by omega]
    simpa [wideBytes] using q
theorem low_at (d : Value) (cs : List Int32) (j : Nat) (h : j < cs.length) : (cs.map fun c => Value.int (lo8 c)).getD j d = .int (lo8 (cs.getD j 0)) := by
  simp [List.getD_eq_getElem?_getD, h]
/-- an array of N2 bytes vs codes the chars cs by the coder cd -/
def CodA (cs : List Int32) (cd N2 : Int32) (vs : List Value) : Prop := (cd = 0 ∧ N2 = Int32.ofNat cs.length ∧ vs = (cs.map fun c => Value.int (lo8 c)) ∧ ∀ c ∈ cs, ¬ 255 < c) ∨ (cd = 1 ∧ N2 = Int32.ofNat (2 * cs.length) ∧ vs = wideBytes cs ∧ ∃ c ∈ cs, 255 < c)
theorem CodA.cod {cs : List Int32} {cd N2 : Int32} {vs : List Value} {V : Cell} (h : CodA cs cd N2 vs) (hn : 2 * cs.length < 2 ^ 31) (hs : V.slots.size = N2.toNatClampNeg) (hv : RoadKit.Has V vs (.int 0)) : Cod cd cs.length (fun j => cs.getD j 0) V := by
  rcases h with ⟨rfl, rfl, rfl, h⟩ | ⟨rfl, rfl, rfl, c, hc, hw⟩
  · rw [n32 (by omega)] at hs
    exact Or.inl ⟨rfl, hs, fun j hj => ⟨by rw [hv j (by omega), low_at _ _ _ hj], by
      have e : cs.getD j 0 = cs[j] := by simp [List.getD_eq_getElem?_getD, hj]
      show ¬ 255 < cs.getD j 0
      rw [e]; exact h _ (List.getElem_mem _)⟩⟩
  · rw [n32 (by omega)] at hs
    obtain ⟨j, hj, rfl⟩ := List.getElem_of_mem hc
    exact Or.inr ⟨rfl, hs, fun j hj => ⟨by rw [hv _ (by omega), wide_lo _ _ _ hj], by rw [hv _ (by omega), wide_hi _ _ _ hj]⟩, j, hj, by
      have e : cs.getD j 0 = cs[j] := by simp [List.getD_eq_getElem?_getD, hj]
      show 255 < cs.getD j 0
      rw [e]; exact hw⟩
/-- an object of exactly java/lang/String, its two fields found: as the laws ask it -/
theorem strObj {Z U : State} {a0 : Array Value} {kI : Nat} (wi : (Jvm.Cond.instantiable ST kI).before a0 Z = true) (al : Z.vm.Alike U.vm) {x : Addr} {v0 c0 : Value} (E : RoadKit.Exa Z U.heap x ST) (V : RoadKit.Fld Z U.heap x ST "value" "[B" v0) (C : RoadKit.Fld Z U.heap x ST "coder" "B" c0) :
    ∃ (D : Cell) (fV fC : Field), Blank ST x D U ∧ Found ST "value" "[B" fV U ∧ Found ST "coder" "B" fC U ∧ D.slots[fV.slot]? = some v0 ∧ D.slots[fC.slot]? = some c0 ∧ RoadKit.slotOf Z ST "value" "[B" = fV.slot ∧ RoadKit.slotOf Z ST "coder" "B" = fC.slot := by
  obtain ⟨D, cfV, kV, iV, fV, hD, gV, stV, knV, obV, asV, slV⟩ := V
  obtain ⟨D', cfC, kC, iC, fC, hD', gC, stC, -, -, asC, slC⟩ := C
  cases hD.symm.trans hD'
  obtain ⟨D2, kD, e1, e2, e3, e4, e5⟩ := E
  cases hD.symm.trans e1
  obtain ⟨c2, k2, i1, i2, i3, -⟩ := Cond.instantiable_spec wi
  cases e2.symm.trans i1
  cases e3.symm.trans i2
  obtain ⟨kU, u1, u2⟩ := al.2.2 _ _ e3
  exact ⟨D, fV, fC, ⟨hD, ⟨knV, fun q hq => by rw [hq] at obV; cases obV⟩, by rw [al.findClass]; exact e2, kU, u1, by rw [u2]; exact i3, by rw [u2]; exact e5 i3⟩, ⟨SBG.found_only al ⟨cfV, kV, iV, gV⟩, stV⟩, ⟨SBG.found_only al ⟨cfC, kC, iC, gC⟩, stC⟩, slV, slC, by simp [RoadKit.slotOf, gV], by simp [RoadKit.slotOf, gC]⟩
theorem sta_is {Z U : State} (al : Z.vm.Alike U.vm) {C n d : String} {v : Value} (S : RoadKit.Sta Z U.heap C n d v) : StaticIs U C n d v := by
  obtain ⟨cfS, iS, kS, fS, st, cS, t1, t2, t3, t4, t5, t6, t7⟩ := S
  exact StaticIs.there (s := { Z with heap := U.heap }) ⟨cfS, iS, kS, fS, st, cS, t1, t2, t3, t4, t5, (fun q => by rw [q] at t6; cases t6), t7⟩ al rfl
end StrChars.Road
namespace StrChars
open Jvm Sem ClassFile Op Lib Jvm.Stand Jvm.Free.XT Jvm.Free.ALB Jvm.Free.JM Jvm.Free
open Jvm.Lib.Cold (StaticIs)
/-- what place i of a byte[]'s cell holds -/
def yv (A : Cell) (i : Nat) : Int32 := match A.slots[i]? with | some (.int x) => x | _ => 0
theorem yv_get {a : Addr} {A : Cell} {U : State} (h : XT.Arr .byte a A U) (ht : Typed .byte A) {i : Nat} (hi : i < A.slots.size) : A.slots[i]? = some (.int (yv A i)) := by
  have e := Array.getElem?_eq_getElem hi
  have f := ht i _ e
  unfold yv; rw [e]
  generalize A.slots[i] = v at f
  cases v <;> simp [fits] at f ⊢
/-- the two arrays are equal, place for place -/
def EqC (A B : Cell) : Prop := A.slots.size = B.slots.size ∧ ∀ i, i < A.slots.size → yv A i = yv B i
/-- a boolean that says whether p -/
def Says01 (q : Prop) (r : Option Value) (s u : State) : Prop := ∃ v : Int32, r = some (.int v) ∧ u.heap = s.heap ∧ ((v = 1 ∧ q) ∨ (v = 0 ∧ ¬ q))
theorem Says01.mv {q : Prop} : ∀ r (U U' V V' : State), U'.heap = U.heap → V.vm.Alike V'.vm → V'.heap = V.heap → Says01 q r U V → Says01 q r U' V' :=
  fun r U U' V V' h1 _ h2 ⟨v, a, b, c⟩ => ⟨v, a, by rw [h1, h2]; exact b, c⟩
namespace LEq
def yN : MethodName := ⟨"java/lang/StringLatin1", "equals", "([B[B)Z"⟩
abbrev yB : ByteArray := jdk_43_method_13_code
theorem d0 : decode yB 0 = .ok (.aload_n 0, 1) := by decide +kernel
theorem d1 : decode yB 1 = .ok (.arraylength, 1) := by decide +kernel
theorem d2 : decode yB 2 = .ok (.aload_n 1, 1) := by decide +kernel
theorem d3 : decode yB 3 = .ok (.arraylength, 1) := by decide +kernel
theorem d4 : decode yB 4 = .ok (.if_icmp (.ne) 30, 3) := by decide +kernel
theorem d7 : decode yB 7 = .ok (.iconst 0, 1) := by decide +kernel
theorem d8 : decode yB 8 = .ok (.istore_n 2, 1) := by decide +kernel
theorem d9 : decode yB 9 = .ok (.iload_n 2, 1) := by decide +kernel
theorem d10 : decode yB 10 = .ok (.aload_n 0, 1) := by decide +kernel
theorem d11 : decode yB 11 = .ok (.arraylength, 1) := by decide +kernel
theorem d12 : decode yB 12 = .ok (.if_icmp (.ge) 20, 3) := by decide +kernel
theorem d15 : decode yB 15 = .ok (.aload_n 0, 1) := by decide +kernel
theorem d16 : decode yB 16 = .ok (.iload_n 2, 1) := by decide +kernel
theorem d17 : decode yB 17 = .ok (.baload, 1) := by decide +kernel
theorem d18 : decode yB 18 = .ok (.aload_n 1, 1) := by decide +kernel
theorem d19 : decode yB 19 = .ok (.iload_n 2, 1) := by decide +kernel
theorem d20 : decode yB 20 = .ok (.baload, 1) := by decide +kernel
theorem d21 : decode yB 21 = .ok (.if_icmp (.eq) 5, 3) := by decide +kernel
theorem d24 : decode yB 24 = .ok (.iconst 0, 1) := by decide +kernel
theorem d25 : decode yB 25 = .ok (.ireturn, 1) := by decide +kernel
theorem d26 : decode yB 26 = .ok (.iinc 2 1, 3) := by decide +kernel
theorem d29 : decode yB 29 = .ok (.goto (-20), 3) := by decide +kernel
theorem d32 : decode yB 32 = .ok (.iconst 1, 1) := by decide +kernel
theorem d33 : decode yB 33 = .ok (.ireturn, 1) := by decide +kernel
theorem d34 : decode yB 34 = .ok (.iconst 0, 1) := by decide +kernel
theorem d35 : decode yB 35 = .ok (.ireturn, 1) := by decide +kernel
def site : List Cond := []
def tab : Cond := tabOf yN yB 3 (some .boolean) site
def P (a : Addr) (A : Cell) (b : Addr) (B : Cell) (args : Array Value) (s : State) : Prop := args = #[.ref a, .ref b] ∧ XT.Arr .byte a A s ∧ Typed .byte A ∧ XT.Arr .byte b B s ∧ Typed .byte B
/-- whether two byte[] are equal, place for place -/
theorem law (l : Launch) (a : Addr) (A : Cell) (b : Addr) (B : Cell) : Law l yN 2 2 0 0 yB 3 (some .boolean) site (P a A b B) (Says01 (EqC A B)) [] 0 0 := by
  refine Law.of_walk (plainFor_of_name (by decide +kernel)) (by decide +kernel) (by decide +kernel) (by decide) (fun _ _ h => by rw [h.1]; rfl) (fun _ U U' hal hh h => ⟨h.1, h.2.1.mv hal hh, h.2.2.1, h.2.2.2.1.mv hal hh, h.2.2.2.2⟩) (fun r U U' V V' h1 hal h2 h => Says01.mv r U U' V V' h1 hal h2 h) ?_
  intro p e s m args below meth c s₁ X0 hexec hbytes hml hret hlk hnm hown hh0 W hP
  obtain ⟨rfl, hA, tA, hB, tB⟩ := hP
  have a31 := hA.2.2.2
  have b31 := hB.2.2.2
  have hA0 := hA.mv X0.warmed.alike hh0
  have hB0 := hB.mv X0.warmed.alike hh0
  have c1 : Steps p.tables e below (s₁.setTop (entryFrame m #[.ref a, .ref b] 3)) (s₁.setTop (mkF m 0 #[.val (.ref a), .val (.ref b), .unset] [])) := entry rfl
  have c2 : Steps p.tables e below (s₁.setTop (entryFrame m #[.ref a, .ref b] 3)) (s₁.setTop (mkF m 4 #[.val (.ref a), .val (.ref b), .unset] [.int (Int32.ofNat B.slots.size), .int (Int32.ofNat A.slots.size)])) := c1.trans (by
    refine XS.aloadN X0.here hexec rfl (hb hbytes d0) rfl rfl ?_
    refine X0.alen hexec hA0 rfl rfl (hb hbytes d1) ?_
    refine XS.aloadN X0.here hexec rfl (hb hbytes d2) rfl rfl ?_
    refine X0.alen hexec hB0 rfl rfl (hb hbytes d3) ?_
    exact Steps.refl _)
  by_cases hs : A.slots.size = B.slots.size
  · have c3 : Steps p.tables e below (s₁.setTop (entryFrame m #[.ref a, .ref b] 3)) (s₁.setTop (mkF m 9 #[.val (.ref a), .val (.ref b), .val (.int 0)] [])) := c2.trans (by
      refine XS.icmpNo X0.here hexec rfl (hb hbytes d4) rfl (ii_ne_f (by rw [hs])) ?_
      refine iconstV X0.here hexec rfl 0 (hb hbytes d7) (by decide) ?_
      refine XS.istoreN X0.here hexec rfl (hb hbytes d8) rfl rfl ?_
      exact Steps.refl _)
    have loop : ∀ (r i : Nat), i + r = A.slots.size → (∀ j, j < i → yv A j = yv B j) → Steps p.tables e below (s₁.setTop (entryFrame m #[.ref a, .ref b] 3)) (s₁.setTop (mkF m 9 #[.val (.ref a), .val (.ref b), .val (.int (Int32.ofNat i))] [])) → ∃ (pc : Nat) (Ls : Array Slot) (v : Int32), (pc = 25 ∨ pc = 33) ∧ ((v = 1 ∧ EqC A B) ∨ (v = 0 ∧ ¬ EqC A B)) ∧ Steps p.tables e below (s₁.setTop (entryFrame m #[.ref a, .ref b] 3)) (s₁.setTop (mkF m pc Ls [.int v])) := by
      intro r
      induction r with
      | zero =>
        intro i hi he cl
        exact ⟨33, _, 1, Or.inr rfl, Or.inl ⟨rfl, hs, fun j hj => he j (by omega)⟩, cl.trans (by
          refine XS.iloadN X0.here hexec rfl (hb hbytes d9) rfl ?_
          refine XS.aloadN X0.here hexec rfl (hb hbytes d10) rfl rfl ?_
          refine X0.alen hexec hA0 rfl rfl (hb hbytes d11) ?_
          refine XS.icmpYes X0.here hexec rfl (pc0 := 12) rfl (hb hbytes d12) rfl (ii_ge_t (nlt32 (by omega) (by omega))) (by decide) rfl ?_
          refine iconstV X0.here hexec rfl 1 (hb hbytes d32) (by decide) ?_
          exact Steps.refl _)⟩
      | succ r ih =>
        intro i hi he cl
        have c4 : Steps p.tables e below (s₁.setTop (entryFrame m #[.ref a, .ref b] 3)) (s₁.setTop (mkF m 21 #[.val (.ref a), .val (.ref b), .val (.int (Int32.ofNat i))] [.int (yv B i), .int (yv A i)])) := cl.trans (by
          refine XS.iloadN X0.here hexec rfl (hb hbytes d9) rfl ?_
          refine XS.aloadN X0.here hexec rfl (hb hbytes d10) rfl rfl ?_
          refine X0.alen hexec hA0 rfl rfl (hb hbytes d11) ?_
          refine XS.icmpNo X0.here hexec rfl (hb hbytes d12) rfl (ii_ge_f (lt32 (by omega) (by omega))) ?_
          refine XS.aloadN X0.here hexec rfl (hb hbytes d15) rfl rfl ?_
          refine XS.iloadN X0.here hexec rfl (hb hbytes d16) rfl ?_
          refine X0.aget hexec hA0 rfl (yv_get hA tA (i := i) (by omega)) rfl rfl (hb hbytes d17) ?_
          refine XS.aloadN X0.here hexec rfl (hb hbytes d18) rfl rfl ?_
          refine XS.iloadN X0.here hexec rfl (hb hbytes d19) rfl ?_
          refine X0.aget hexec hB0 rfl (yv_get hB tB (i := i) (by omega)) rfl rfl (hb hbytes d20) ?_
          exact Steps.refl _)
        by_cases hv : yv A i = yv B i
        · have c5 : Steps p.tables e below (s₁.setTop (entryFrame m #[.ref a, .ref b] 3)) (s₁.setTop (mkF m 9 #[.val (.ref a), .val (.ref b), .val (.int (Int32.ofNat i + 1))] [])) := c4.trans (by
            refine XS.icmpYes X0.here hexec rfl (pc0 := 21) rfl (hb hbytes d21) rfl (ii_eq_t hv) (by decide) rfl ?_
            refine iincV X0.here hexec rfl 1 (hb hbytes d26) (by decide) rfl rfl ?_
            refine XS.goto X0.here hexec rfl (pc0 := 29) rfl (hb hbytes d29) (by decide) rfl ?_
            exact Steps.refl _)
          rw [succ32] at c5
          exact ih (i + 1) (by omega) (fun j hj => by
            by_cases e : j = i
            · rw [e]; exact hv
            · exact he j (by omega)) c5
        · exact ⟨25, _, 0, Or.inl rfl, Or.inr ⟨rfl, fun q => hv (q.2 i (by omega))⟩, c4.trans (by
            refine XS.icmpNo X0.here hexec rfl (hb hbytes d21) rfl (ii_eq_f hv) ?_
            refine iconstV X0.here hexec rfl 0 (hb hbytes d24) (by decide) ?_
            exact Steps.refl _)⟩
    obtain ⟨pc, Ls, v, hpc, hv, cz⟩ := loop A.slots.size 0 (by omega) (fun j hj => absurd hj (Nat.not_lt_zero j)) c3
    have nv : narrow .boolean (.int v) = .int v := by rcases hv with ⟨rfl, -⟩ | ⟨rfl, -⟩ <;> rfl
    rcases hpc with rfl | rfl
    · exact ⟨s₁, some (.int v), _, _, _, X0, rfl, rfl, rfl, (fun h => by cases h), ⟨v, rfl, hh0, hv⟩, fun fs hl => cz.trans (X0.ireturnOut hexec hret nv (Or.inr (Or.inl rfl)) (hb hbytes d25) hl)⟩
    · exact ⟨s₁, some (.int v), _, _, _, X0, rfl, rfl, rfl, (fun h => by cases h), ⟨v, rfl, hh0, hv⟩, fun fs hl => cz.trans (X0.ireturnOut hexec hret nv (Or.inr (Or.inl rfl)) (hb hbytes d33) hl)⟩
  · have c3 : Steps p.tables e below (s₁.setTop (entryFrame m #[.ref a, .ref b] 3)) (s₁.setTop (mkF m 35 #[.val (.ref a), .val (.ref b), .unset] [.int 0])) := c2.trans (by
      refine XS.icmpYes X0.here hexec rfl (pc0 := 4) rfl (hb hbytes d4) rfl (ii_ne_t (ne32 a31 b31 hs)) (by decide) rfl ?_
      refine iconstV X0.here hexec rfl 0 (hb hbytes d34) (by decide) ?_
      exact Steps.refl _)
    exact ⟨s₁, some (.int 0), _, _, _, X0, rfl, rfl, rfl, (fun h => by cases h), ⟨0, rfl, hh0, Or.inr ⟨rfl, fun q => hs q.1⟩⟩, fun fs hl => c3.trans (X0.ireturnOut hexec hret rfl (Or.inr (Or.inl rfl)) (hb hbytes d35) hl)⟩
end LEq
theorem Cod.ty {cd : Int32} {n : Nat} {f : Nat → Int32} {V : Cell} (h : Cod cd n f V) : Typed .byte V := fun i v hv => by
  have hi : i < V.slots.size := (Array.getElem?_eq_some_iff.mp hv).1
  rcases h with ⟨-, k1, k2⟩ | ⟨-, k1, k2, -⟩
  · rw [(k2 i (by omega)).1] at hv; cases hv; exact fits_lo8 _
  · rcases Nat.mod_two_eq_zero_or_one i with e | e
    · obtain ⟨j, rfl⟩ : ∃ j, i = 2 * j := ⟨i / 2, by omega⟩
      rw [(k2 j (by omega)).1] at hv; cases hv; exact fits_lo8 _
    · obtain ⟨j, rfl⟩ : ∃ j, i = 2 * j + 1 := ⟨i / 2, by omega⟩
      rw [(k2 j (by omega)).2] at hv; cases hv; exact fits_lo8 _
/-- the same text -/
def SameT (n : Nat) (f : Nat → Int32) (k : Nat) (g : Nat → Int32) : Prop := n = k ∧ ∀ j, j < n → f j = g j
theorem lo8_inj {x y : Int32} (h0 : ¬ x < 0) (h1 : ¬ 255 < x) (k0 : ¬ y < 0) (k1 : ¬ 255 < y) (h : lo8 x = lo8 y) : x = y := by
  rw [← lo8_mask h0 h1, ← lo8_mask k0 k1, h]
/-- arrays coded by one coder are equal just where the texts are -/
theorem Cod.eqv {cd : Int32} {n k : Nat} {f g : Nat → Int32} {V V' : Cell} (h : Cod cd n f V) (h' : Cod cd k g V') (hf : ∀ j, j < n → ¬ f j < 0 ∧ ¬ 65535 < f j) (hg : ∀ j, j < k → ¬ g j < 0 ∧ ¬ 65535 < g j) : EqC V V' ↔ SameT n f k g := by
  have yvv : ∀ {W : Cell} {i : Nat} {x : Int32}, W.slots[i]? = some (.int x) → yv W i = x := fun q => by unfold yv; rw [q]
  rcases h with ⟨rfl, k1, k2⟩ | ⟨rfl, k1, k2, -⟩
  · rcases h' with ⟨-, m1, m2⟩ | ⟨e, -⟩
    · constructor
      · rintro ⟨e1, e2⟩
        refine ⟨by omega, fun j hj => ?_⟩
        have q := e2 j (by omega)
        rw [yvv (k2 j hj).1, yvv (m2 j (by omega)).1] at q
        exact lo8_inj (hf j hj).1 (k2 j hj).2 (hg j (by omega)).1 (m2 j (by omega)).2 q
      · rintro ⟨rfl, e2⟩
        refine ⟨by omega, fun j hj => ?_⟩
        rw [yvv (k2 j (by omega)).1, yvv (m2 j (by omega)).1, e2 j (by omega)]
    · exact absurd e (by decide)
  · rcases h' with ⟨e, -⟩ | ⟨-, m1, m2, -⟩
    · exact absurd e (by decide)
    · constructor
      · rintro ⟨e1, e2⟩
        refine ⟨by omega, fun j hj => ?_⟩
        have q1 := e2 (2 * j) (by omega)
        have q2 := e2 (2 * j + 1) (by omega)
        rw [yvv (k2 j hj).1, yvv (m2 j (by omega)).1] at q1
        rw [yvv (k2 j hj).2, yvv (m2 j (by omega)).2] at q2
        rw [← pair_says (hf j hj).1 (hf j hj).2, ← pair_says (hg j (by omega)).1 (hg j (by omega)).2, q1, q2]
      · rintro ⟨rfl, e2⟩
        refine ⟨by omega, fun i hi => ?_⟩
        rcases Nat.mod_two_eq_zero_or_one i with e | e
        · obtain ⟨j, rfl⟩ : ∃ j, i = 2 * j := ⟨i / 2, by omega⟩
          rw [yvv (k2 j (by omega)).1, yvv (m2 j (by omega)).1, e2 j (by omega)]
        · obtain ⟨j, rfl⟩ : ∃ j, i = 2 * j + 1 := ⟨i / 2, by omega⟩
          rw [yvv (k2 j (by omega)).2, yvv (m2 j (by omega)).2, e2 j (by omega)]
/-- two codings differ: so do the texts -/
theorem Cod.dif {cd cd' : Int32} {n k : Nat} {f g : Nat → Int32} {V V' : Cell} (h : Cod cd n f V) (h' : Cod cd' k g V') (hne : ¬ cd = cd') : ¬ SameT n f k g := by
  rintro ⟨rfl, e⟩
  rcases h with ⟨rfl, -, k2⟩ | ⟨rfl, -, -, j, hj, hw⟩
  · rcases h' with ⟨rfl, -⟩ | ⟨-, -, -, j, hj, hw⟩
    · exact hne rfl
    · exact (k2 j hj).2 (by rw [e j hj]; exact hw)
  · rcases h' with ⟨-, -, m2⟩ | ⟨rfl, -⟩
    · exact (m2 j hj).2 (by rw [← e j hj]; exact hw)
    · exact hne rfl
/-- an object of exactly C is an instance of C -/
theorem cinst {p : Program} {l : Launch} {e : Env} {R : Room} {s : State} {m : MethodId} {args : Array Value} {below : List Frame} {meth : Method} {c : Code} {T : State} {locs : List Loc} {cells slots : Nat} (X : Stand p l e R s m args below meth c T locs cells slots) (hexec : p.tables.exec = Jvm.exec) {own C : String} {index : Nat} (hown : s.vm.findClass own = some m.cls) (hlink : (Cond.classLink own index C).before args s = true) {a : Addr} (hE : Exact C a T)
    {g : JFrame} (hg : g.method = m) {rest : List Value} (hstack : g.stack = .ref a :: rest) (hdg : decode c.code g.pc = .ok (.instanceof index, 3)) :
    ∃ T', Stand p l e R s m args below meth c T' locs cells slots ∧ T'.heap = T.heap ∧ ∀ target, Steps p.tables e below (T'.setTop { g with pc := g.pc + 3, stack := .int 1 :: rest }) target → Steps p.tables e below (T.setTop g) target := by
  obtain ⟨cB, h1, D, h2, h3, h4⟩ := hE
  have h1' : s.vm.findClass C = some cB := by rw [← X.warmed.alike.findClass]; exact h1
  obtain ⟨vm', X', st⟩ := X.instanceofYes hexec hown hlink h2 h4 h1' (by rw [h3]; exact Jvm.Free.SB.assignable_self _ _) hg hstack hdg
  exact ⟨_, X', rfl, st⟩
theorem cself {p : Program} {l : Launch} {e : Env} {R : Room} {s : State} {m : MethodId} {args : Array Value} {below : List Frame} {meth : Method} {c : Code} {T : State} {locs : List Loc} {cells slots : Nat} (X : Stand p l e R s m args below meth c T locs cells slots) (hexec : p.tables.exec = Jvm.exec) {own C : String} {index : Nat} (hown : s.vm.findClass own = some m.cls) (hlink : (Cond.classLink own index C).before args s = true) {a : Addr} (hE : Exact C a T)
    {g : JFrame} (hg : g.method = m) {rest : List Value} (hstack : g.stack = .ref a :: rest) (hdg : decode c.code g.pc = .ok (.checkcast index, 3)) :
    ∃ T', Stand p l e R s m args below meth c T' locs cells slots ∧ T'.heap = T.heap ∧ ∀ target, Steps p.tables e below (T'.setTop { g with pc := g.pc + 3, stack := .ref a :: rest }) target → Steps p.tables e below (T.setTop g) target := by
  obtain ⟨cB, h1, D, h2, h3, h4⟩ := hE
  have h1' : s.vm.findClass C = some cB := by rw [← X.warmed.alike.findClass]; exact h1
  obtain ⟨vm', X', st⟩ := X.checkcastYes hexec hown hlink h2 h4 h1' (by rw [h3]; exact Jvm.Free.SB.assignable_self _ _) hg hstack hdg
  exact ⟨_, X', rfl, fun t h => st t (by rw [← hstack] at h; exact h)⟩
namespace SEq
def yN : MethodName := ⟨"java/lang/String", "equals", "(Ljava/lang/Object;)Z"⟩
abbrev yB : ByteArray := jdk_42_method_66_code
theorem d0 : decode yB 0 = .ok (.aload_n 0, 1) := by decide +kernel
theorem d1 : decode yB 1 = .ok (.aload_n 1, 1) := by decide +kernel
theorem d2 : decode yB 2 = .ok (.if_acmp (.ne) 5, 3) := by decide +kernel
theorem d5 : decode yB 5 = .ok (.iconst 1, 1) := by decide +kernel
theorem d6 : decode yB 6 = .ok (.ireturn, 1) := by decide +kernel
theorem d7 : decode yB 7 = .ok (.aload_n 1, 1) := by decide +kernel
theorem d8 : decode yB 8 = .ok (.instanceof 10, 3) := by decide +kernel
theorem d11 : decode yB 11 = .ok (.ifCond (.eq) 43, 3) := by decide +kernel
theorem d14 : decode yB 14 = .ok (.aload_n 1, 1) := by decide +kernel
theorem d15 : decode yB 15 = .ok (.checkcast 10, 3) := by decide +kernel
theorem d18 : decode yB 18 = .ok (.astore_n 2, 1) := by decide +kernel
theorem d19 : decode yB 19 = .ok (.getstatic 38, 3) := by decide +kernel
theorem d22 : decode yB 22 = .ok (.ifCond (.eq) 14, 3) := by decide +kernel
theorem d25 : decode yB 25 = .ok (.aload_n 0, 1) := by decide +kernel
theorem d26 : decode yB 26 = .ok (.getfield 15, 3) := by decide +kernel
theorem d29 : decode yB 29 = .ok (.aload_n 2, 1) := by decide +kernel
theorem d30 : decode yB 30 = .ok (.getfield 15, 3) := by decide +kernel
theorem d33 : decode yB 33 = .ok (.if_icmp (.ne) 21, 3) := by decide +kernel
theorem d36 : decode yB 36 = .ok (.aload_n 0, 1) := by decide +kernel
theorem d37 : decode yB 37 = .ok (.getfield 9, 3) := by decide +kernel
theorem d40 : decode yB 40 = .ok (.aload_n 2, 1) := by decide +kernel
theorem d41 : decode yB 41 = .ok (.getfield 9, 3) := by decide +kernel
theorem d44 : decode yB 44 = .ok (.invokestatic 541, 3) := by decide +kernel
theorem d47 : decode yB 47 = .ok (.ifCond (.eq) 7, 3) := by decide +kernel
theorem d50 : decode yB 50 = .ok (.iconst 1, 1) := by decide +kernel
theorem d51 : decode yB 51 = .ok (.goto 4, 3) := by decide +kernel
theorem d54 : decode yB 54 = .ok (.iconst 0, 1) := by decide +kernel
theorem d55 : decode yB 55 = .ok (.ireturn, 1) := by decide +kernel
def site : List Cond := [.classLink "java/lang/String" 10 "java/lang/String", .fieldLink "java/lang/String" 38 "java/lang/String" "COMPACT_STRINGS" "Z", .fieldLink "java/lang/String" 15 "java/lang/String" "coder" "B", .fieldLink "java/lang/String" 9 "java/lang/String" "value" "[B", LEq.tab] ++ staticW "java/lang/String" 541 LEq.yN
def tab : Cond := tabOf yN yB 3 (some .boolean) site
def P (x t : Addr) (V : Cell) (cd : Int32) (n : Nat) (f : Nat → Int32) (y t' : Addr) (V' : Cell) (cd' : Int32) (k : Nat) (g : Nat → Int32) (z : Int32) (args : Array Value) (s : State) : Prop := args = #[.ref x, .ref y] ∧ Txt x t V cd n f s ∧ Txt y t' V' cd' k g s ∧ StaticIs s "java/lang/String" "COMPACT_STRINGS" "Z" (.int z) ∧ ¬ z = 0
/-- equals(Object) of two Strings: whether the texts are the same -/
theorem law (l : Launch) (x t : Addr) (V : Cell) (cd : Int32) (n : Nat) (f : Nat → Int32) (y t' : Addr) (V' : Cell) (cd' : Int32) (k : Nat) (g : Nat → Int32) (z : Int32) : Law l yN 2 1 1 14 yB 3 (some .boolean) site (P x t V cd n f y t' V' cd' k g z) (Says01 (SameT n f k g)) [] 0 0 := by
  refine Law.of_walk (plainFor_of_name (by decide +kernel)) (by decide +kernel) (by decide +kernel) (by decide) (fun _ _ h => by rw [h.1]; rfl) (fun _ U U' hal hh h => ⟨h.1, h.2.1.mv hal hh, h.2.2.1.mv hal hh, h.2.2.2.1.there hal hh, h.2.2.2.2⟩) (fun r U U' V V' h1 hal h2 h => Says01.mv r U U' V V' h1 hal h2 h) ?_
  intro p e s m args below meth c s₁ X0 hexec hbytes hml hret hlk hnm hown hh0 W hP
  obtain ⟨rfl, hx, hy, s1, hz⟩ := hP
  have c1 : Steps p.tables e below (s₁.setTop (entryFrame m #[.ref x, .ref y] 3)) (s₁.setTop (mkF m 2 #[.val (.ref x), .val (.ref y), .unset] [.ref y, .ref x])) := Steps.trans (entry rfl) (by
    show Steps p.tables e below (s₁.setTop (mkF m 0 #[.val (.ref x), .val (.ref y), .unset] [])) _
    refine XS.aloadN X0.here hexec rfl (hb hbytes d0) rfl rfl ?_
    refine XS.aloadN X0.here hexec rfl (hb hbytes d1) rfl rfl ?_
    exact Steps.refl _)
  by_cases hxy : x = y
  · have c2 : Steps p.tables e below (s₁.setTop (entryFrame m #[.ref x, .ref y] 3)) (s₁.setTop (mkF m 6 #[.val (.ref x), .val (.ref y), .unset] [.int 1])) := c1.trans (by
      refine acmpNo X0.here hexec rfl (hb hbytes d2) rfl rfl rfl (by simp [acmp, hxy]) ?_
      refine iconstV X0.here hexec rfl 1 (hb hbytes d5) (by decide) ?_
      exact Steps.refl _)
    subst hxy
    have ec : cd = cd' := by
      obtain ⟨D, fd, a1, a2, a3⟩ := hx.2.2.1
      obtain ⟨D', fd', b1, b2, b3⟩ := hy.2.2.1
      cases a1.symm.trans b1
      obtain ⟨q1, q2, q3, q4⟩ := a2.1
      obtain ⟨r1, r2, r3, r4⟩ := b2.1
      cases q4.symm.trans r4
      cases a3.symm.trans b3; rfl
    have et : t = t' := by
      obtain ⟨D, fd, a1, a2, a3⟩ := hx.2.1
      obtain ⟨D', fd', b1, b2, b3⟩ := hy.2.1
      cases a1.symm.trans b1
      obtain ⟨q1, q2, q3, q4⟩ := a2.1
      obtain ⟨r1, r2, r3, r4⟩ := b2.1
      cases q4.symm.trans r4
      cases a3.symm.trans b3; rfl
    subst ec et
    have ev : V = V' := by cases hx.2.2.2.1.1.symm.trans hy.2.2.2.1.1; rfl
    subst ev
    have hs : SameT n f k g := (Cod.eqv hx.2.2.2.2.1 hy.2.2.2.2.1 hx.2.2.2.2.2 hy.2.2.2.2.2).mp ⟨rfl, fun _ _ => rfl⟩
    exact ⟨s₁, some (.int 1), _, _, _, X0, rfl, rfl, rfl, (fun h => by cases h), ⟨1, rfl, hh0, Or.inl ⟨rfl, hs⟩⟩, fun fs hl => c2.trans (X0.ireturnOut hexec hret rfl (Or.inr (Or.inl rfl)) (hb hbytes d6) hl)⟩
  · have c2 : Steps p.tables e below (s₁.setTop (entryFrame m #[.ref x, .ref y] 3)) (s₁.setTop (mkF m 8 #[.val (.ref x), .val (.ref y), .unset] [.ref y])) := c1.trans (by
      refine acmpYes X0.here hexec rfl (pc0 := 2) rfl (hb hbytes d2) rfl rfl rfl (by simp [acmp, hxy]) (by decide) rfl ?_
      refine XS.aloadN X0.here hexec rfl (hb hbytes d7) rfl rfl ?_
      exact Steps.refl _)
    obtain ⟨T3, X3, q3, st3⟩ := cinst X0 hexec hown (wk W (.classLink "java/lang/String" 10 "java/lang/String")) (hy.mv X0.warmed.alike hh0).1 (g := (mkF m 8 #[.val (.ref x), .val (.ref y), .unset] [.ref y])) rfl (rest := []) rfl (hb hbytes d8)
    have hh3 := q3.trans hh0
    have c4 : Steps p.tables e below (s₁.setTop (entryFrame m #[.ref x, .ref y] 3)) (T3.setTop (mkF m 15 #[.val (.ref x), .val (.ref y), .unset] [.ref y])) := (c2.trans (st3 _ (Steps.refl _))).trans (by
      refine XS.ifNo X3.here hexec rfl (hb hbytes d11) rfl (i0_eq_f (by decide)) ?_
      refine XS.aloadN X3.here hexec rfl (hb hbytes d14) rfl rfl ?_
      exact Steps.refl _)
    obtain ⟨T5, X5, q5, st5⟩ := cself X3 hexec hown (wk W (.classLink "java/lang/String" 10 "java/lang/String")) (hy.mv X3.warmed.alike hh3).1 (g := (mkF m 15 #[.val (.ref x), .val (.ref y), .unset] [.ref y])) rfl (rest := []) rfl (hb hbytes d15)
    have hh5 := q5.trans hh3
    have c6 : Steps p.tables e below (s₁.setTop (entryFrame m #[.ref x, .ref y] 3)) (T5.setTop (mkF m 19 #[.val (.ref x), .val (.ref y), .val (.ref y)] [])) := (c4.trans (st5 _ (Steps.refl _))).trans (by
      refine XS.astoreN X5.here hexec rfl (hb hbytes d18) rfl rfl rfl ?_
      exact Steps.refl _)
    obtain ⟨T7, X7, q7, st7⟩ := X5.sget hexec hown (wk W (.fieldLink "java/lang/String" 38 "java/lang/String" "COMPACT_STRINGS" "Z")) s1 (fun _ _ h => by rw [hh5]; exact h) (g := (mkF m 19 #[.val (.ref x), .val (.ref y), .val (.ref y)] [])) rfl (hb hbytes d19)
    have hh7 := q7.trans hh5
    have c8 : Steps p.tables e below (s₁.setTop (entryFrame m #[.ref x, .ref y] 3)) (T7.setTop (mkF m 26 #[.val (.ref x), .val (.ref y), .val (.ref y)] [.ref x])) := (c6.trans (st7 _ (Steps.refl _))).trans (by
      refine XS.ifNo X7.here hexec rfl (hb hbytes d22) rfl (i0_eq_f hz) ?_
      refine XS.aloadN X7.here hexec rfl (hb hbytes d25) rfl rfl ?_
      exact Steps.refl _)
    obtain ⟨T9, X9, q9, st9⟩ := X7.hget hexec hown (wk W (.fieldLink "java/lang/String" 15 "java/lang/String" "coder" "B")) (hx.mv X7.warmed.alike hh7).2.2.1 (g := (mkF m 26 #[.val (.ref x), .val (.ref y), .val (.ref y)] [.ref x])) rfl (rest := []) rfl (hb hbytes d26)
    have hh9 := q9.trans hh7
    have c10 : Steps p.tables e below (s₁.setTop (entryFrame m #[.ref x, .ref y] 3)) (T9.setTop (mkF m 30 #[.val (.ref x), .val (.ref y), .val (.ref y)] [.ref y, .int cd])) := (c8.trans (st9 _ (Steps.refl _))).trans (by
      refine XS.aloadN X9.here hexec rfl (hb hbytes d29) rfl rfl ?_
      exact Steps.refl _)
    obtain ⟨T11, X11, q11, st11⟩ := X9.hget hexec hown (wk W (.fieldLink "java/lang/String" 15 "java/lang/String" "coder" "B")) (hy.mv X9.warmed.alike hh9).2.2.1 (g := (mkF m 30 #[.val (.ref x), .val (.ref y), .val (.ref y)] [.ref y, .int cd])) rfl (rest := [.int cd]) rfl (hb hbytes d30)
    have hh11 := q11.trans hh9
    have c12 : Steps p.tables e below (s₁.setTop (entryFrame m #[.ref x, .ref y] 3)) (T11.setTop (mkF m 33 #[.val (.ref x), .val (.ref y), .val (.ref y)] [.int cd', .int cd])) := c10.trans (st11 _ (Steps.refl _))
    by_cases hcd : cd = cd'
    · subst hcd
      have c13 : Steps p.tables e below (s₁.setTop (entryFrame m #[.ref x, .ref y] 3)) (T11.setTop (mkF m 37 #[.val (.ref x), .val (.ref y), .val (.ref y)] [.ref x])) := c12.trans (by
        refine XS.icmpNo X11.here hexec rfl (hb hbytes d33) rfl (ii_ne_f rfl) ?_
        refine XS.aloadN X11.here hexec rfl (hb hbytes d36) rfl rfl ?_
        exact Steps.refl _)
      obtain ⟨T14, X14, q14, st14⟩ := X11.hget hexec hown (wk W (.fieldLink "java/lang/String" 9 "java/lang/String" "value" "[B")) (hx.mv X11.warmed.alike hh11).2.1 (g := (mkF m 37 #[.val (.ref x), .val (.ref y), .val (.ref y)] [.ref x])) rfl (rest := []) rfl (hb hbytes d37)
      have hh14 := q14.trans hh11
      have c15 : Steps p.tables e below (s₁.setTop (entryFrame m #[.ref x, .ref y] 3)) (T14.setTop (mkF m 41 #[.val (.ref x), .val (.ref y), .val (.ref y)] [.ref y, .ref t])) := (c13.trans (st14 _ (Steps.refl _))).trans (by
        refine XS.aloadN X14.here hexec rfl (hb hbytes d40) rfl rfl ?_
        exact Steps.refl _)
      obtain ⟨T16, X16, q16, st16⟩ := X14.hget hexec hown (wk W (.fieldLink "java/lang/String" 9 "java/lang/String" "value" "[B")) (hy.mv X14.warmed.alike hh14).2.1 (g := (mkF m 41 #[.val (.ref x), .val (.ref y), .val (.ref y)] [.ref y, .ref t])) rfl (rest := [.ref t]) rfl (hb hbytes d41)
      have hh16 := q16.trans hh14
      have c17 : Steps p.tables e below (s₁.setTop (entryFrame m #[.ref x, .ref y] 3)) (T16.setTop (mkF m 44 #[.val (.ref x), .val (.ref y), .val (.ref y)] [.ref t', .ref t])) := c15.trans (st16 _ (Steps.refl _))
      obtain ⟨v18, T18, X18, E18, g18⟩ := X16.callS hexec (LEq.law l t V t' V') hown (wks W (staticW "java/lang/String" 541 LEq.yN)) (wk W LEq.tab) (W := 0) (Nat.le_of_ble_eq_true rfl) (Nat.le_of_ble_eq_true rfl) (Nat.le_refl _) (Nat.le_refl _) (g := (mkF m 44 #[.val (.ref x), .val (.ref y), .val (.ref y)] [.ref t', .ref t])) rfl (by rw [hml]; rfl) c17 (argsL := [.ref t, .ref t']) (rest := []) rfl rfl (by show 2 * 0 + 0 ≤ _; decide) (hb hbytes d44) (⟨rfl, hx.2.2.2.1.mv X16.warmed.alike hh16, hx.2.2.2.2.1.ty, hy.2.2.2.1.mv X16.warmed.alike hh16, hy.2.2.2.2.1.ty⟩)
      obtain ⟨v, rfl, q18, hv⟩ := E18
      have iff := Cod.eqv hx.2.2.2.2.1 hy.2.2.2.2.1 hx.2.2.2.2.2 hy.2.2.2.2.2
      rcases hv with ⟨rfl, he⟩ | ⟨rfl, he⟩
      · have c19 : Steps p.tables e below (s₁.setTop (entryFrame m #[.ref x, .ref y] 3)) (T18.setTop (mkF m 55 #[.val (.ref x), .val (.ref y), .val (.ref y)] [.int 1])) := Steps.trans g18 (by
          refine XS.ifNo X18.here hexec rfl (hb hbytes d47) rfl (i0_eq_f (by decide)) ?_
          refine iconstV X18.here hexec rfl 1 (hb hbytes d50) (by decide) ?_
          refine XS.goto X18.here hexec rfl (pc0 := 51) rfl (hb hbytes d51) (by decide) rfl ?_
          exact Steps.refl _)
        exact ⟨T18, some (.int 1), _, _, _, X18, rfl, rfl, rfl, (fun h => by cases h), ⟨1, rfl, q18.trans hh16, Or.inl ⟨rfl, iff.mp he⟩⟩, fun fs hl => c19.trans (X18.ireturnOut hexec hret rfl (Or.inr (Or.inl rfl)) (hb hbytes d55) hl)⟩
      · have c19 : Steps p.tables e below (s₁.setTop (entryFrame m #[.ref x, .ref y] 3)) (T18.setTop (mkF m 55 #[.val (.ref x), .val (.ref y), .val (.ref y)] [.int 0])) := Steps.trans g18 (by
          refine XS.ifYes X18.here hexec rfl (pc0 := 47) rfl (hb hbytes d47) rfl (i0_eq_t rfl) (by decide) rfl ?_
          refine iconstV X18.here hexec rfl 0 (hb hbytes d54) (by decide) ?_
          exact Steps.refl _)
        exact ⟨T18, some (.int 0), _, _, _, X18, rfl, rfl, rfl, (fun h => by cases h), ⟨0, rfl, q18.trans hh16, Or.inr ⟨rfl, fun q => he (iff.mpr q)⟩⟩, fun fs hl => c19.trans (X18.ireturnOut hexec hret rfl (Or.inr (Or.inl rfl)) (hb hbytes d55) hl)⟩
    · have c13 : Steps p.tables e below (s₁.setTop (entryFrame m #[.ref x, .ref y] 3)) (T11.setTop (mkF m 55 #[.val (.ref x), .val (.ref y), .val (.ref y)] [.int 0])) := c12.trans (by
        refine XS.icmpYes X11.here hexec rfl (pc0 := 33) rfl (hb hbytes d33) rfl (ii_ne_t hcd) (by decide) rfl ?_
        refine iconstV X11.here hexec rfl 0 (hb hbytes d54) (by decide) ?_
        exact Steps.refl _)
      exact ⟨T11, some (.int 0), _, _, _, X11, rfl, rfl, rfl, (fun h => by cases h), ⟨0, rfl, hh11, Or.inr ⟨rfl, Cod.dif hx.2.2.2.2.1 hy.2.2.2.2.1 hcd⟩⟩, fun fs hl => c13.trans (X11.ireturnOut hexec hret rfl (Or.inr (Or.inl rfl)) (hb hbytes d55) hl)⟩
theorem pays {l : Launch} {R : Room} {p : Program} {e : Env} {below : List Frame} {s : State} {sargs : Array Value} {len W : Nat} (x t : Addr) (V : Cell) (cd : Int32) (n : Nat) (f : Nat → Int32) (y t' : Addr) (V' : Cell) (cd' : Int32) (k : Nat) (g : Nat → Int32) (z : Int32) (htab : tab.before sargs s = true) (hfr : 2 ≤ R.frames) (hlo : W + 28 ≤ R.locals) :
    Back l R p e below s sargs yN len W (fun A₁ a₁ => A₁.cells + 0 ≤ R.cells ∧ A₁.slots + 0 ≤ R.slots ∧ P x t V cd n f y t' V' cd' k g z a₁ A₁.U) (fun A₁ _ v₁ B₁ => Says01 (SameT n f k g) v₁ A₁.U B₁.U ∧ B₁.locs = A₁.locs ++ [] ∧ B₁.cells = A₁.cells + 0 ∧ B₁.slots = A₁.slots + 0) :=
  (law l x t V cd n f y t' V' cd' k g z).pays htab hfr (by omega)
end SEq
end StrChars
namespace StrChars.Road
open Jvm Sem ClassFile Op Lib Jvm.Stand Jvm.Free Jvm.Free.XT
open Jvm.Lib.Cold (StaticIs)
/-- the words of String.equals(Object) -/
abbrev wordsEq : List Jvm.Cond := [.code SEq.yN SEq.yB 3 (some .boolean), .initialized ST, .classLink ST 10 ST, .fieldLink ST 38 ST "COMPACT_STRINGS" "Z", .fieldLink ST 15 ST "coder" "B", .fieldLink ST 9 ST "value" "[B", .methodLink ST 541 LEq.yN, .static LEq.yN, .code LEq.yN LEq.yB 3 (some .boolean), .initialized "java/lang/StringLatin1"]
theorem tabEq_of {a : Array Value} {s : State} (h : ∀ w ∈ wordsEq, w.before a s = true) : SEq.tab.before a s = true := by
  have hl : LEq.tab.before a s = true := unparts (wk h (.code LEq.yN LEq.yB 3 (some .boolean))) (wks h (.initialized LEq.yN.cls :: LEq.site))
  have q := consq hl h
  exact unparts (wk q (.code SEq.yN SEq.yB 3 (some .boolean))) (wks q (.initialized SEq.yN.cls :: SEq.site))
theorem movedEq {Z s : State} {a0 args : Array Value} (hZ : Z.Warmed39 s.vm) (hw : ∀ d ∈ wordsEq, d.before a0 Z = true) : ∀ d ∈ wordsEq, d.before args s = true := fun d hd => by
  have t : ∀ d ∈ wordsEq, (d.onTables && d.keepsFace) = true := by decide +kernel
  exact RoadKit.mv hZ (hw d hd) (t d hd)
/-- the road's facts of a String, as the laws ask it -/
theorem txt_of {Z U : State} {a0 : Array Value} {kI : Nat} (wi : (Jvm.Cond.instantiable ST kI).before a0 Z = true) (al : Z.vm.Alike U.vm) {x t : Addr} {kb : ClassId} {cs : List Int32} {cd N2 : Int32} {vs : List Value} (E : RoadKit.Exa Z U.heap x ST) (V : RoadKit.Fld Z U.heap x ST "value" "[B" (.ref t)) (C : RoadKit.Fld Z U.heap x ST "coder" "B" (.int cd)) (K : RoadKit.Arv Z U.heap t kb .byte N2 vs (.int 0)) (hc : CodA cs cd N2 vs) (hb : ∀ c ∈ cs, ¬ c < 0 ∧ ¬ (65535 : Int32) < c) (l2 : cs.length ≤ 4000) :
    ∃ A, Txt x t A cd cs.length (fun j => cs.getD j 0) U := by
  obtain ⟨A, K1, K2, K3, K4, K5, K6⟩ := K
  have hcod := hc.cod (by omega) K3 K5
  obtain ⟨D, fV, fC, hB, F1, F2, g1, g2, -, -⟩ := strObj wi al E V C
  exact ⟨A, ⟨_, hB.2.2.1, D, hB.1, rfl, by cases q : D.vm <;> first | rfl | exact absurd q (hB.2.1.2 _)⟩, Has.of hB F1 g1, Has.of hB F2 g2, ⟨K1.1, State.isArrayOf_alike al K1.2.1, K1.2.2, by rcases hcod with ⟨-, q, -⟩ | ⟨-, q, -⟩ <;> omega⟩, hcod, fun j hj => by
    have e : cs.getD j 0 = cs[j] := by simp [List.getD_eq_getElem?_getD, hj]
    show ¬ cs.getD j 0 < 0 ∧ ¬ 65535 < cs.getD j 0
    rw [e]; exact hb _ (List.getElem_mem _)⟩
theorem same_list (cs ds : List Int32) : SameT cs.length (fun j => cs.getD j 0) ds.length (fun j => ds.getD j 0) ↔ cs = ds := by
  constructor
  · rintro ⟨e, q⟩
    refine List.ext_getElem e fun j h1 h2 => ?_
    have := q j h1
    simpa [List.getD_eq_getElem?_getD, h1, h2] using this
  · rintro rfl
    exact ⟨rfl, fun _ _ => rfl⟩
/-- **equals(Object) OF TWO SUCH STRINGS**: 1 just where the chars are the same -/
theorem eqW {p : Program} {l : Launch} {e : Env} {R : Room} {s : State} {args : Array Value} {below : List Frame} {len W : Nat} {Z : State} {a0 : Array Value} {h : Heap} (hZ : Z.Warmed39 s.vm) (hw : ∀ d ∈ wordsEq, d.before a0 Z = true) {kI : Nat} (wi : (Jvm.Cond.instantiable ST kI).before a0 Z = true)
    {x t : Addr} {kb : ClassId} {cs : List Int32} {cd N2 : Int32} {vs : List Value} (E : RoadKit.Exa Z h x ST) (V : RoadKit.Fld Z h x ST "value" "[B" (.ref t)) (C : RoadKit.Fld Z h x ST "coder" "B" (.int cd)) (K : RoadKit.Arv Z h t kb .byte N2 vs (.int 0)) (hc : CodA cs cd N2 vs) (hb : ∀ c ∈ cs, ¬ c < 0 ∧ ¬ (65535 : Int32) < c) (l2 : cs.length ≤ 4000)
    {y t' : Addr} {kb' : ClassId} {ds : List Int32} {cd' N2' : Int32} {vs' : List Value} (E' : RoadKit.Exa Z h y ST) (V' : RoadKit.Fld Z h y ST "value" "[B" (.ref t')) (C' : RoadKit.Fld Z h y ST "coder" "B" (.int cd')) (K' : RoadKit.Arv Z h t' kb' .byte N2' vs' (.int 0)) (hc' : CodA ds cd' N2' vs') (hb' : ∀ c ∈ ds, ¬ c < 0 ∧ ¬ (65535 : Int32) < c) (l2' : ds.length ≤ 4000)
    {z : Int32} (S : RoadKit.Sta Z h ST "COMPACT_STRINGS" "Z" (.int z)) (hz : ¬ z = 0) (hfr : 2 ≤ R.frames) (hlo : W + 28 ≤ R.locals) :
    Back l R p e below s args (⟨"java/lang/String", "equals", "(Ljava/lang/Object;)Z"⟩ : MethodName) len W (fun P a => a = #[.ref x, .ref y] ∧ P.U.heap = h ∧ P.cells + 0 ≤ R.cells ∧ P.slots + 0 ≤ R.slots)
      (fun P _ v B => ∃ L, (((v = some (.int 1) ∧ cs = ds) ∨ (v = some (.int 0) ∧ ¬ cs = ds)) ∧ L = [] ∧ B.U.heap = h) ∧ B.locs = P.locs ++ L ∧ B.cells = P.cells + 0 ∧ B.slots = P.slots + 0) := by
  intro m meth c P g ig mk a X hg hsize hdg hW hn hp'
  obtain ⟨rfl, rfl, r1, r2⟩ := hp'
  have al : Z.vm.Alike P.U.vm := hZ.alike.trans X.warmed.alike
  obtain ⟨A, hx⟩ := txt_of wi al E V C K hc hb l2
  obtain ⟨A', hy⟩ := txt_of wi al E' V' C' K' hc' hb' l2'
  obtain ⟨v, B, X', ⟨⟨w, hv, hh, hq⟩, hl, hk, hs⟩, st⟩ := SEq.pays x t A cd cs.length (fun j => cs.getD j 0) y t' A' cd' ds.length (fun j => ds.getD j 0) z (tabEq_of (movedEq hZ hw)) hfr hlo m meth c P g ig mk _ X hg hsize hdg hW hn ⟨r1, r2, rfl, hx, hy, sta_is al S, hz⟩
  refine ⟨v, B, X', ⟨[], ⟨?_, rfl, hh⟩, hl, hk, hs⟩, st⟩
  rcases hq with ⟨rfl, q⟩ | ⟨rfl, q⟩
  · exact Or.inl ⟨hv, (same_list cs ds).mp q⟩
  · exact Or.inr ⟨hv, fun e => q ((same_list cs ds).mpr e)⟩
end StrChars.Road
namespace StrChars.Road
open Jvm Sem ClassFile Op Lib Jvm.Stand Jvm.Free Jvm.Free.XT
open Jvm.Lib.Cold (StaticIs)
/-- what backV says of its String, as the contracts of this text ask it: cs's low bytes, coder 0 -/
theorem codOf {cs : List Int32} {n : Nat} (hn : cs.length = n) (hb : ∀ c ∈ cs, ¬ 255 < c) : CodA cs 0 (Int32.ofNat n) ((cs.map lo8).map Value.int) := Or.inl ⟨rfl, by rw [hn], by simp [List.map_map, Function.comp_def], hb⟩
end StrChars.Road
end Jvm.Pilot.@@N@@
namespace Jvm.Pilot.@@N@@
open Jvm Jvm.ClassFile Sem Op Lib Jvm.Free Jvm.Stand Jvm.LawKit Jvm.RoadKit Bundle Jvm.Own Jvm.Pilot.@@N@@.Jvm.D
theorem own_pd0 : parseMethodDescriptor "([CIILjava/lang/Void;)V" = some ⟨[(.array .char), .int, .int, (.object "java/lang/Void")], none⟩ := by decide +kernel
theorem own_pd1 : parseMethodDescriptor "([C)V" = some ⟨[(.array .char)], none⟩ := by decide +kernel
theorem own_pd2 : parseMethodDescriptor "(Ljava/lang/Object;)Z" = some ⟨[(.object "java/lang/Object")], some .boolean⟩ := by decide +kernel
theorem own_pd3 : parseMethodDescriptor "(II)I" = some ⟨[.int, .int], some .int⟩ := by decide +kernel
theorem own_pd4 : parseMethodDescriptor "(I)Ljava/lang/String;" = some ⟨[.int], some (.object "java/lang/String")⟩ := by decide +kernel
theorem own_pd5 : parseMethodDescriptor "(Ljava/lang/String;Ljava/lang/String;Ljava/lang/String;)V" = some ⟨[(.object "java/lang/String"), (.object "java/lang/String"), (.object "java/lang/String")], none⟩ := by decide +kernel
theorem own_pd6 : parseMethodDescriptor "(II)Z" = some ⟨[.int, .int], some .boolean⟩ := by decide +kernel
theorem own_pn0 : plainName "com/example/quadledger/quadledger/records/EnrolmentKeyEqualsPinLaw" = true := by first | (simp [plainName, overriddenIn]; done) | decide +kernel
theorem own_pn1 : plainName "java/lang/String" = true := by first | (simp [plainName, overriddenIn]; done) | decide +kernel
theorem own_pn2 : plainName "com/example/quadledger/quadledger/records/EnrolmentKey" = true := by first | (simp [plainName, overriddenIn]; done) | decide +kernel
theorem al0 {α : Type} {P : α → Prop} : ∀ c ∈ ([] : List α), P c := fun _ q => nomatch q
theorem alS {α : Type} {P : α → Prop} {a : α} {L : List α} (q : P a) (r : ∀ c ∈ L, P c) : ∀ c ∈ a :: L, P c := fun c z => (List.mem_cons.mp z).elim (fun u => u ▸ q) (r c)
theorem jn {A G : Prop} (h1 : A → G) (h2 : A) : G := h1 h2
/-- C (whose superclass is O, which has none) is no K -/
theorem notSub {Z : State} {a0 : Array Value} {C O K : String} {n : Nat} (w1 : (Jvm.Cond.superclass C O).before a0 Z = true) (w2 : (Jvm.Cond.noSuperclass O).before a0 Z = true) (w3 : (Jvm.Cond.instantiable K n).before a0 Z = true) (h1 : C ≠ K) (h2 : O ≠ K) : ∃ c t, Z.vm.findClass C = some c ∧ Z.vm.findClass K = some t ∧ Z.vm.assignable c t = false := by
  obtain ⟨c, hc⟩ := found_sup w1
  obtain ⟨q, k, kq, a1, a2, a3, a4, a5, a6, a7⟩ := Cond.superclass_spec hc w1
  obtain ⟨q', kq', b1, b2, b3, b4, b5⟩ := Cond.noSuperclass_spec w2
  cases a1.symm.trans b1
  cases a3.symm.trans b2
  obtain ⟨t, kt, d1, d2, d3, d4, -⟩ := Cond.instantiable_spec w3
  have n1 : c ≠ t := ids_ne hc d1 h1
  have n2 : q ≠ t := ids_ne b1 d1 h2
  have d5 : kt.isInterface = false := by
    cases hk : kt.isInterface with
    | false => rfl
    | true => rw [hk] at d4; simp at d4
  have s1 : ∀ fuel, Z.vm.isSubclassAux fuel q t = false := fun fuel => by
    cases fuel with
    | zero => rfl
    | succ f => simp [Vm.isSubclassAux, n2, b2, b3]
  have s2 : ∀ fuel, Z.vm.isSubclassAux fuel c t = false := fun fuel => by
    cases fuel with
    | zero => rfl
    | succ f => simp [Vm.isSubclassAux, n1, a2, a4, s1]
  refine ⟨c, t, hc, d1, ?_⟩
  show Z.vm.assignableAux (255 + 1) c t = false
  simp [Vm.assignableAux, n1, a2, d2, a5, d3, d5, Vm.isSubclass, s2]
theorem insNo {Z : State} {h : Heap} {a : Addr} {C K : String} (E : Exa Z h a C) (q : ∃ c t, Z.vm.findClass C = some c ∧ Z.vm.findClass K = some t ∧ Z.vm.assignable c t = false) : Ins Z h a K false := by
  obtain ⟨c, t, q1, q2, q3⟩ := q
  obtain ⟨cell, k, e1, e2, -⟩ := E
  cases q1.symm.trans e2
  exact ⟨cell, t, e1, q2, by simp [q3]⟩
section StrKit
variable {p : Program} {l : Launch} {e : Env} {R : Room} {s : State} {args : Array Value} {below : List Frame} {Z : State} {a0 : Array Value} {EL : List (String × Nat)} {kn : Prop} {ws : List Addr} {h h' : Heap} {a b x y : Addr} {cs ds : List Int32} {G1 : Int32} {W : Nat}
/-- a String and its chars -/
def Str (Z : State) (h : Heap) (a : Addr) (cs : List Int32) : Prop := ∃ (t : Addr) (kb : ClassId) (cd N : Int32) (vs : List Value), Exa Z h a "java/lang/String" ∧ Fld Z h a "java/lang/String" "value" "[B" (.ref t) ∧ Fld Z h a "java/lang/String" "coder" "B" (.int cd) ∧ Arv Z h t kb .byte N vs (.int 0) ∧ StrChars.Road.CodA cs cd N vs ∧ (∀ c ∈ cs, ¬ c < 0 ∧ ¬ (65535 : Int32) < c) ∧ cs.length ≤ 4000
theorem Str.ext (S : Str Z h a cs) (E : Ext h h') : Str Z h' a cs := by
  obtain ⟨t, kb, cd, N, vs, s1, s2, s3, s4, r⟩ := S
  exact ⟨t, kb, cd, N, vs, s1.ext E, s2.ext E, s3.ext E, s4.ext E, r⟩
theorem Str.exa (S : Str Z h a cs) : Exa Z h a "java/lang/String" := by obtain ⟨t, kb, cd, N, vs, s1, -⟩ := S; exact s1
theorem Str.lt (S : Str Z h a cs) : a < h.size := S.exa.lt
theorem Str.wr {C : String} {kI sl : Nat} {v : Value} (S : Str Z h a cs) (W : Wr h h' b sl v) (E : Exa Z h b C) (hC : C ≠ "java/lang/String") (wi : (Jvm.Cond.instantiable C kI).before a0 Z = true) : Str Z h' a cs := by
  obtain ⟨t, kb, cd, N, vs, s1, s2, s3, s4, r⟩ := S
  have n1 : a ≠ b := Exa.ne s1 E (Ne.symm hC)
  have n2 : t ≠ b := (Exa.neArv E s4 wi).symm
  exact ⟨t, kb, cd, N, vs, s1.wr W, s2.other W (Or.inl n1), s3.other W (Or.inl n1), s4.other W n2, r⟩
theorem arv_ty {t : Addr} {kb : ClassId} {N : Int32} {vs us : List Value} {dv : Value} {ty ty' : FieldType} (F : Arv Z h t kb ty' N vs dv) (A : Own.Ary Z h b ty us) (hty : ty' ≠ ty) : t ≠ b := fun q => by
  subst q
  obtain ⟨c1, ⟨e1, ⟨-, k1, f1, m1, g1⟩, -⟩, -⟩ := F
  obtain ⟨c2, ⟨e2, ⟨-, k2, f2, m2, g2⟩, -⟩, -⟩ := A
  cases e1.symm.trans e2
  cases f1.symm.trans f2
  have := g1.symm.trans g2
  injection this with _ r
  exact hty r
theorem Str.wrA {sl kI : Nat} {v : Value} {us : List Value} {ty : FieldType} (S : Str Z h a cs) (W : Wr h h' b sl v) (A : Own.Ary Z h b ty us) (hty : FieldType.byte ≠ ty) (wi : (Jvm.Cond.instantiable "java/lang/String" kI).before a0 Z = true) : Str Z h' a cs := by
  obtain ⟨t, kb, cd, N, vs, s1, s2, s3, s4, r⟩ := S
  obtain ⟨kc, A'⟩ := A.arv .null
  have n1 : a ≠ b := Exa.neArv s1 A' wi
  have n2 : t ≠ b := arv_ty s4 A hty
  exact ⟨t, kb, cd, N, vs, s1.wr W, s2.other W (Or.inl n1), s3.other W (Or.inl n1), s4.other W n2, r⟩
theorem Str.keep {C : String} {kI : Nat} (S : Str Z h a cs) (K : Keep h h' [b]) (E : Exa Z h b C) (hC : C ≠ "java/lang/String") (wi : (Jvm.Cond.instantiable C kI).before a0 Z = true) : Str Z h' a cs := by
  obtain ⟨t, kb, cd, N, vs, s1, s2, s3, s4, r⟩ := S
  have n1 : a ≠ b := Exa.ne s1 E (Ne.symm hC)
  have n2 : t ≠ b := (Exa.neArv E s4 wi).symm
  exact ⟨t, kb, cd, N, vs, s1.keep K, s2.keep K (ninS n1 nin0), s3.keep K (ninS n1 nin0), s4.keep K (ninS n2 nin0), r⟩
theorem newStrPay (hw : ∀ d ∈ tables_1, d.before a0 Z = true) (hEL : EW Z a0 EL) (O2 : Sta Z Z.heap "java/lang/String" "COMPACT_STRINGS" "Z" (.int G1)) (P5 : ¬ G1 = 0) (hE : Ext Z.heap h) {v0 c0 : Value} (hx0 : Z.heap.size ≤ x) (hx : x ∈ ws) (E : Exa Z h x "java/lang/String") (V : Fld Z h x "java/lang/String" "value" "[B" v0) (C : Fld Z h x "java/lang/String" "coder" "B" c0) {vs : List Value} (hvs : vs = cs.map Value.int) (A : Own.Ary Z h b .char vs)
    {n : Nat} (hn : cs.length = n) (h0 : 0 < n) (h4 : n ≤ 4000) (hp : ∀ c ∈ cs, ¬ c < 0 ∧ ¬ (255 : Int32) < c) (hfr : 4 ≤ R.frames) (hlo : W + 65 ≤ R.locals) :
    Own.Pay l R p e below s args Z EL kn ws ⟨"java/lang/String", "<init>", "([C)V"⟩ 3 W 1 n #[.ref x, .ref b] h (fun v h' ws' => v = none ∧ Keep h h' [x] ∧ Str Z h' x cs ∧ ws' = []) := by
  subst hvs
  obtain ⟨kc, K⟩ := A.arv (.int 0)
  rw [List.length_map] at K
  have hws : ∀ d ∈ StrChars.Road.words, d.before a0 Z = true := fun d hd => hw d ((by decide +kernel : ∀ d ∈ StrChars.Road.words, d ∈ tables_1) d hd)
  refine Own.Pay.of_back (Q0 := fun v h' L => StrChars.Road.QV Z x (Int32.ofNat n) (cs.map fun c => c.toInt8.toInt32) h Z.heap.size v h' L) hEL (fun vm0 hZ => StrChars.Road.backV (s := s.setVm vm0) hZ hws (kI := 4) (hw _ (List.mem_of_getElem? (i := 12) rfl)) (cs := cs) (n := n) hx0 hE.1 E V C (hn ▸ K) (O2.ext hE) P5 hn rfl h0 h4 hp rfl hfr hlo) (fun v h' L q => ?_)
  obtain ⟨q1, q2, q3, q4, q5, t, kb, -, -, -, q6, q7⟩ := q
  refine ⟨[x], [], q3, fun y hy => ?_, q2, ⟨q1, q3, ⟨t, kb, 0, _, _, q4, q6, q5, q7, ?_, fun c hc => ⟨(hp c hc).1, fun r => (hp c hc).2 ?_⟩, by omega⟩, rfl⟩, fun y hy => by cases hy⟩
  · cases List.mem_singleton.mp hy; exact ⟨hx, hx0⟩
  · exact StrChars.Road.codOf hn (fun c hc => (hp c hc).2)
  · rw [Int32.lt_iff_toInt_lt] at r ⊢; have e1 : (65535 : Int32).toInt = 65535 := rfl; have e2 : (255 : Int32).toInt = 255 := rfl; omega
theorem eqPay (hw : ∀ d ∈ tables_1, d.before a0 Z = true) (hEL : EW Z a0 EL) (O2 : Sta Z Z.heap "java/lang/String" "COMPACT_STRINGS" "Z" (.int G1)) (P5 : ¬ G1 = 0) (hE : Ext Z.heap h) (S : Str Z h x cs) (S' : Str Z h y ds) (hfr : 2 ≤ R.frames) (hlo : W + 28 ≤ R.locals) :
    Own.Pay l R p e below s args Z EL kn ws ⟨"java/lang/String", "equals", "(Ljava/lang/Object;)Z"⟩ 3 W 0 0 #[.ref x, .ref y] h (fun v h' ws' => v = some (.int (if cs = ds then 1 else 0)) ∧ h' = h ∧ ws' = []) := by
  obtain ⟨t, kb, cd, N, vs, s1, s2, s3, s4, s5, s6, s7⟩ := S
  obtain ⟨t', kb', cd', N', vs', r1, r2, r3, r4, r5, r6, r7⟩ := S'
  have hws : ∀ d ∈ StrChars.Road.wordsEq, d.before a0 Z = true := fun d hd => hw d ((by decide +kernel : ∀ d ∈ StrChars.Road.wordsEq, d ∈ tables_1) d hd)
  refine Own.Pay.of_back (Q0 := fun v h' L => ((v = some (.int 1) ∧ cs = ds) ∨ (v = some (.int 0) ∧ ¬ cs = ds)) ∧ L = [] ∧ h' = h) hEL (fun vm0 hZ => StrChars.Road.eqW (s := s.setVm vm0) hZ hws (kI := 4) (hw _ (List.mem_of_getElem? (i := 12) rfl)) s1 s2 s3 s4 s5 s6 s7 r1 r2 r3 r4 r5 r6 r7 (O2.ext hE) P5 hfr hlo) (fun v h' L q => ?_)
  obtain ⟨q1, rfl, rfl⟩ := q
  refine ⟨[], [], Keep.refl _ _, fun y hy => (by cases hy), Fr.nil _, ⟨?_, rfl, rfl⟩, fun y hy => by cases hy⟩
  rcases q1 with ⟨rfl, q⟩ | ⟨rfl, q⟩
  · rw [if_pos q]
  · rw [if_neg q]
end StrKit

/-- (char) ((x >>> k) & 0xff), as it lies in a char[] -/
def chA (x k : Int32) : Int32 := nar .char ((((x.toUInt32 >>> (k &&& 31).toUInt32).toInt32) &&& (255 : Int32)).toUInt32.toUInt16.toUInt32.toInt32)
theorem nar_toInt (y : Int32) (h0 : 0 ≤ y.toInt) (h1 : y.toInt < 65536) : (nar .char y.toUInt32.toUInt16.toUInt32.toInt32).toInt = y.toInt := by
  have q1 := c_i2c y
  have q2 := c_i2c y.toUInt32.toUInt16.toUInt32.toInt32
  show (y.toUInt32.toUInt16.toUInt32.toInt32.toUInt32.toUInt16.toUInt32.toInt32).toInt = _
  omega
theorem chA_toInt (x k : Int32) (n : Nat) (hk : k.toBitVec.toNat % 32 = n) (h0 : 0 < n) : (chA x k).toInt = ((x.toInt % 4294967296) / (2 ^ n : Nat)) % 256 := by
  have q1 := c_mask ((x.toUInt32 >>> (k &&& 31).toUInt32).toInt32) 255 8 (by decide) (by decide)
  have q2 := c_iushr x k n hk h0
  rw [q2] at q1
  have q3 : ((2 ^ 8 : Nat) : Int) = 256 := by decide
  rw [q3] at q1
  unfold chA
  rw [nar_toInt _ (by rw [q1]; omega) (by rw [q1]; omega), q1]
theorem chA_ok (x k : Int32) (n : Nat) (hk : k.toBitVec.toNat % 32 = n) (h0 : 0 < n) : ¬ chA x k < 0 ∧ ¬ (255 : Int32) < chA x k := by
  have q := chA_toInt x k n hk h0
  have e0 : (0 : Int32).toInt = 0 := rfl
  have e1 : (255 : Int32).toInt = 255 := rfl
  rw [Int32.lt_iff_toInt_lt, Int32.lt_iff_toInt_lt, e0, e1, q]
  omega
/-- (char) (x & 0xff), as it lies in a char[] -/
def chB (x : Int32) : Int32 := nar .char ((x &&& (255 : Int32)).toUInt32.toUInt16.toUInt32.toInt32)
theorem chB_toInt (x : Int32) : (chB x).toInt = x.toInt % 256 := by
  have q1 := c_mask x 255 8 (by decide) (by decide)
  have q3 : ((2 ^ 8 : Nat) : Int) = 256 := by decide
  rw [q3] at q1
  unfold chB
  rw [nar_toInt _ (by rw [q1]; omega) (by rw [q1]; omega), q1]
theorem chB_ok (x : Int32) : ¬ chB x < 0 ∧ ¬ (255 : Int32) < chB x := by
  have q := chB_toInt x
  have e0 : (0 : Int32).toInt = 0 := rfl
  have e1 : (255 : Int32).toInt = 255 := rfl
  rw [Int32.lt_iff_toInt_lt, Int32.lt_iff_toInt_lt, e0, e1, q]
  omega
theorem and3_cases (y : Int32) : (y &&& (3 : Int32)) = (0 : Int32) ∨ (y &&& (3 : Int32)) = (1 : Int32) ∨ (y &&& (3 : Int32)) = (2 : Int32) ∨ (y &&& (3 : Int32)) = (3 : Int32) := by
  have q := c_mask y 3 2 (by decide) (by decide)
  simp only [← Int32.toInt_inj]
  have e0 : (0 : Int32).toInt = 0 := rfl
  have e1 : (1 : Int32).toInt = 1 := rfl
  have e2 : (2 : Int32).toInt = 2 := rfl
  have e3 : (3 : Int32).toInt = 3 := rfl
  have q3 : ((2 ^ 2 : Nat) : Int) = 4 := by decide
  rw [e0, e1, e2, e3, q, q3]
  omega

def chars (x : Int32) : List Int32 := if (x &&& (3 : Int32)) = (0 : Int32) then [] else if (x &&& (3 : Int32)) = (1 : Int32) then [chA x 2] else if (x &&& (3 : Int32)) = (2 : Int32) then [chA x 2, chA x 10] else [chA x 2, chA x 10, chA x 18]
def partV (x y : Int32) : Int32 := if ((y.toUInt32 >>> ((26 : Int32) &&& 31).toUInt32).toInt32 &&& (1 : Int32)) = (0 : Int32) then x else x ^^^ (y &&& (67108863 : Int32))
def chI (x k : Int32) : Int32 := ((x.toUInt32 >>> (k &&& 31).toUInt32).toInt32) &&& (255 : Int32)
theorem chI_toInt (x k : Int32) (n : Nat) (hk : k.toBitVec.toNat % 32 = n) (h0 : 0 < n) : (chI x k).toInt = ((x.toInt % 4294967296) / (2 ^ n : Nat)) % 256 := by
  have q1 := c_mask ((x.toUInt32 >>> (k &&& 31).toUInt32).toInt32) 255 8 (by decide) (by decide)
  have q2 := c_iushr x k n hk h0
  rw [q2] at q1
  exact q1
theorem chA_inj (x y k : Int32) (n : Nat) (hk : k.toBitVec.toNat % 32 = n) (h0 : 0 < n) : chA x k = chA y k ↔ chI x k = chI y k := by
  rw [← Int32.toInt_inj, ← Int32.toInt_inj, chA_toInt x k n hk h0, chA_toInt y k n hk h0, chI_toInt x k n hk h0, chI_toInt y k n hk h0]
theorem le_lits : (¬ (0 : Int32) < 0) ∧ (0 : Int32) < 1 ∧ (0 : Int32) < 2 ∧ (0 : Int32) < 3 ∧ (¬ (1 : Int32) < 0) ∧ (¬ (1 : Int32) < 1) ∧ (1 : Int32) < 2 ∧ (1 : Int32) < 3 ∧ (¬ (2 : Int32) < 0) ∧ (¬ (2 : Int32) < 1) ∧ (¬ (2 : Int32) < 2) ∧ (2 : Int32) < 3 := by decide
theorem d1_0 : decode method_4_code 0 = .ok (.iload_n 1, 1) := by decide +kernel
theorem d1_1 : decode method_4_code 1 = .ok (.bipush 26, 2) := by decide +kernel
theorem d1_3 : decode method_4_code 3 = .ok (.iushr, 1) := by decide +kernel
theorem d1_4 : decode method_4_code 4 = .ok (.iconst 1, 1) := by decide +kernel
theorem d1_5 : decode method_4_code 5 = .ok (.iand, 1) := by decide +kernel
theorem d1_6 : decode method_4_code 6 = .ok (.ifCond .ne 7, 3) := by decide +kernel
theorem d1_9 : decode method_4_code 9 = .ok (.iload_n 0, 1) := by decide +kernel
theorem d1_10 : decode method_4_code 10 = .ok (.goto 9, 3) := by decide +kernel
theorem d1_13 : decode method_4_code 13 = .ok (.iload_n 0, 1) := by decide +kernel
theorem d1_14 : decode method_4_code 14 = .ok (.iload_n 1, 1) := by decide +kernel
theorem d1_15 : decode method_4_code 15 = .ok (.ldc 12, 2) := by decide +kernel
theorem d1_17 : decode method_4_code 17 = .ok (.iand, 1) := by decide +kernel
theorem d1_18 : decode method_4_code 18 = .ok (.ixor, 1) := by decide +kernel
theorem d1_19 : decode method_4_code 19 = .ok (.ireturn, 1) := by decide +kernel
theorem ef_own_part (m : MethodId) (x : Int32) (y : Int32) : entryFrame m #[(.int x), (.int y)] 2 = mkF m 0 #[.val (.int x), .val (.int y)] [] := by first | (simp [entryFrame, mkF, argsToLocals, Value.category]; done) | rfl
set_option maxRecDepth 65536 in
set_option maxHeartbeats 40000000 in
theorem own_part (l : Launch) (Z : State) (a0 : Array Value) (hw : ∀ d ∈ tables_1, d.before a0 Z = true) (hEL : EW Z a0 consts_1) (x : Int32) (y : Int32) (h : Heap) :
    Con l Z consts_1 False (⟨"com/example/quadledger/quadledger/records/EnrolmentKeyEqualsPinLaw", "partner", "(II)I"⟩ : MethodName) method_4_code 2 (some .int) ({ frames := 0, cells := 0, slots := 0, locals := 0 } : Room) [] #[(.int x), (.int y)] h (fun v h' ws' => v = some (.int (partV x y)) ∧ h' = h ∧ ws' = []) := by
  refine Con.intro own_pn0 (fun p e s m below meth c T X => ?_)
  rw [ef_own_part m x y]
  refine s_iloadN X (pc' := 1) d1_0 rfl rfl ?_
  refine s_bipush X (pc' := 3) d1_1 (v := (26 : Int32)) (by decide) rfl ?_
  refine s_iushr X (pc' := 4) d1_3 rfl ?_
  refine s_iconst X (pc' := 5) d1_4 (v := (1 : Int32)) rfl rfl ?_
  refine s_iand X (pc' := 6) d1_5 rfl ?_
  refine s_if X (pc' := 13) (pcF := 9) d1_6 (by decide) (by decide) rfl (fun (q : ¬ (((y.toUInt32 >>> ((26 : Int32) &&& 31).toUInt32).toInt32) &&& (1 : Int32)) = (0 : Int32)) => ?_) (fun (q : (((y.toUInt32 >>> ((26 : Int32) &&& 31).toUInt32).toInt32) &&& (1 : Int32)) = (0 : Int32)) => ?_)
  · refine s_iloadN X (pc' := 14) d1_13 rfl rfl ?_
    refine s_iloadN X (pc' := 15) d1_14 rfl rfl ?_
    refine s_ldcI X (pc' := 17) d1_15 (hw _ (List.mem_of_getElem? (i := 73) rfl)) rfl ?_
    refine s_iand X (pc' := 18) d1_17 rfl ?_
    refine s_ixor X (pc' := 19) d1_18 rfl ?_
    exact s_iret X hEL (ws' := []) d1_19 (by decide) (by decide) (fun x q => by simp at q) ⟨by rw [partV, if_neg q], rfl, rfl⟩
  · refine s_iloadN X (pc' := 10) d1_9 rfl rfl ?_
    refine s_goto X (pc' := 19) d1_10 (by decide) (by decide) ?_
    exact s_iret X hEL (ws' := []) d1_19 (by decide) (by decide) (fun x q => by simp at q) ⟨by rw [partV, if_pos q], rfl, rfl⟩

theorem own_len {x y : Int32} (h : chars x = chars y) (q : ¬ (x &&& (3 : Int32)) = (y &&& (3 : Int32))) : False := by
  have e1 : ∀ z : Int32, Int32.ofNat (chars z).length = (z &&& (3 : Int32)) := fun z => by
    rcases and3_cases z with p | p | p | p <;> simp [chars, p] <;> decide
  exact q (by rw [← e1 x, ← e1 y, h])
theorem d10_0 : decode method_3_code 0 = .ok (.iload_n 0, 1) := by decide +kernel
theorem d10_1 : decode method_3_code 1 = .ok (.iconst 3, 1) := by decide +kernel
theorem d10_2 : decode method_3_code 2 = .ok (.iand, 1) := by decide +kernel
theorem d10_3 : decode method_3_code 3 = .ok (.istore_n 2, 1) := by decide +kernel
theorem d10_4 : decode method_3_code 4 = .ok (.iload_n 2, 1) := by decide +kernel
theorem d10_5 : decode method_3_code 5 = .ok (.iload_n 1, 1) := by decide +kernel
theorem d10_6 : decode method_3_code 6 = .ok (.iconst 3, 1) := by decide +kernel
theorem d10_7 : decode method_3_code 7 = .ok (.iand, 1) := by decide +kernel
theorem d10_8 : decode method_3_code 8 = .ok (.if_icmp .eq 5, 3) := by decide +kernel
theorem d10_11 : decode method_3_code 11 = .ok (.iconst 0, 1) := by decide +kernel
theorem d10_12 : decode method_3_code 12 = .ok (.ireturn, 1) := by decide +kernel
theorem d10_13 : decode method_3_code 13 = .ok (.iload_n 2, 1) := by decide +kernel
theorem d10_14 : decode method_3_code 14 = .ok (.ifCond .le 22, 3) := by decide +kernel
theorem d10_17 : decode method_3_code 17 = .ok (.iload_n 0, 1) := by decide +kernel
theorem d10_18 : decode method_3_code 18 = .ok (.iconst 2, 1) := by decide +kernel
theorem d10_19 : decode method_3_code 19 = .ok (.iushr, 1) := by decide +kernel
theorem d10_20 : decode method_3_code 20 = .ok (.sipush 255, 3) := by decide +kernel
theorem d10_23 : decode method_3_code 23 = .ok (.iand, 1) := by decide +kernel
theorem d10_24 : decode method_3_code 24 = .ok (.iload_n 1, 1) := by decide +kernel
theorem d10_25 : decode method_3_code 25 = .ok (.iconst 2, 1) := by decide +kernel
theorem d10_26 : decode method_3_code 26 = .ok (.iushr, 1) := by decide +kernel
theorem d10_27 : decode method_3_code 27 = .ok (.sipush 255, 3) := by decide +kernel
theorem d10_30 : decode method_3_code 30 = .ok (.iand, 1) := by decide +kernel
theorem d10_31 : decode method_3_code 31 = .ok (.if_icmp .eq 5, 3) := by decide +kernel
theorem d10_34 : decode method_3_code 34 = .ok (.iconst 0, 1) := by decide +kernel
theorem d10_35 : decode method_3_code 35 = .ok (.ireturn, 1) := by decide +kernel
theorem d10_36 : decode method_3_code 36 = .ok (.iload_n 2, 1) := by decide +kernel
theorem d10_37 : decode method_3_code 37 = .ok (.iconst 1, 1) := by decide +kernel
theorem d10_38 : decode method_3_code 38 = .ok (.if_icmp .le 24, 3) := by decide +kernel
theorem d10_41 : decode method_3_code 41 = .ok (.iload_n 0, 1) := by decide +kernel
theorem d10_42 : decode method_3_code 42 = .ok (.bipush 10, 2) := by decide +kernel
theorem d10_44 : decode method_3_code 44 = .ok (.iushr, 1) := by decide +kernel
theorem d10_45 : decode method_3_code 45 = .ok (.sipush 255, 3) := by decide +kernel
theorem d10_48 : decode method_3_code 48 = .ok (.iand, 1) := by decide +kernel
theorem d10_49 : decode method_3_code 49 = .ok (.iload_n 1, 1) := by decide +kernel
theorem d10_50 : decode method_3_code 50 = .ok (.bipush 10, 2) := by decide +kernel
theorem d10_52 : decode method_3_code 52 = .ok (.iushr, 1) := by decide +kernel
theorem d10_53 : decode method_3_code 53 = .ok (.sipush 255, 3) := by decide +kernel
theorem d10_56 : decode method_3_code 56 = .ok (.iand, 1) := by decide +kernel
theorem d10_57 : decode method_3_code 57 = .ok (.if_icmp .eq 5, 3) := by decide +kernel
theorem d10_60 : decode method_3_code 60 = .ok (.iconst 0, 1) := by decide +kernel
theorem d10_61 : decode method_3_code 61 = .ok (.ireturn, 1) := by decide +kernel
theorem d10_62 : decode method_3_code 62 = .ok (.iload_n 2, 1) := by decide +kernel
theorem d10_63 : decode method_3_code 63 = .ok (.iconst 2, 1) := by decide +kernel
theorem d10_64 : decode method_3_code 64 = .ok (.if_icmp .le 24, 3) := by decide +kernel
theorem d10_67 : decode method_3_code 67 = .ok (.iload_n 0, 1) := by decide +kernel
theorem d10_68 : decode method_3_code 68 = .ok (.bipush 18, 2) := by decide +kernel
theorem d10_70 : decode method_3_code 70 = .ok (.iushr, 1) := by decide +kernel
theorem d10_71 : decode method_3_code 71 = .ok (.sipush 255, 3) := by decide +kernel
theorem d10_74 : decode method_3_code 74 = .ok (.iand, 1) := by decide +kernel
theorem d10_75 : decode method_3_code 75 = .ok (.iload_n 1, 1) := by decide +kernel
theorem d10_76 : decode method_3_code 76 = .ok (.bipush 18, 2) := by decide +kernel
theorem d10_78 : decode method_3_code 78 = .ok (.iushr, 1) := by decide +kernel
theorem d10_79 : decode method_3_code 79 = .ok (.sipush 255, 3) := by decide +kernel
theorem d10_82 : decode method_3_code 82 = .ok (.iand, 1) := by decide +kernel
theorem d10_83 : decode method_3_code 83 = .ok (.if_icmp .eq 5, 3) := by decide +kernel
theorem d10_86 : decode method_3_code 86 = .ok (.iconst 0, 1) := by decide +kernel
theorem d10_87 : decode method_3_code 87 = .ok (.ireturn, 1) := by decide +kernel
theorem d10_88 : decode method_3_code 88 = .ok (.iconst 1, 1) := by decide +kernel
theorem d10_89 : decode method_3_code 89 = .ok (.ireturn, 1) := by decide +kernel
theorem ef_own_same (m : MethodId) (x : Int32) (y : Int32) : entryFrame m #[(.int x), (.int y)] 3 = mkF m 0 #[.val (.int x), .val (.int y), .unset] [] := by first | (simp [entryFrame, mkF, argsToLocals, Value.category]; done) | rfl
set_option maxRecDepth 65536 in
set_option maxHeartbeats 40000000 in
theorem own_same (l : Launch) (Z : State) (a0 : Array Value) (hw : ∀ d ∈ tables_1, d.before a0 Z = true) (hEL : EW Z a0 consts_1) (x : Int32) (y : Int32) (h : Heap) :
    Con l Z consts_1 False (⟨"com/example/quadledger/quadledger/records/EnrolmentKeyEqualsPinLaw", "same", "(II)Z"⟩ : MethodName) method_3_code 3 (some .boolean) ({ frames := 0, cells := 0, slots := 0, locals := 0 } : Room) [] #[(.int x), (.int y)] h (fun v h' ws' => v = some (.int (if chars x = chars y then 1 else 0)) ∧ h' = h ∧ ws' = []) := by
  refine Con.intro own_pn0 (fun p e s m below meth c T X => ?_)
  rw [ef_own_same m x y]
  refine s_iloadN X (pc' := 1) d10_0 rfl rfl ?_
  refine s_iconst X (pc' := 2) d10_1 (v := (3 : Int32)) rfl rfl ?_
  refine s_iand X (pc' := 3) d10_2 rfl ?_
  refine s_istoreN X (pc' := 4) (L' := #[.val (.int x), .val (.int y), .val (.int (x &&& (3 : Int32)))]) d10_3 rfl rfl ?_
  refine s_iloadN X (pc' := 5) d10_4 rfl rfl ?_
  refine s_iloadN X (pc' := 6) d10_5 rfl rfl ?_
  refine s_iconst X (pc' := 7) d10_6 (v := (3 : Int32)) rfl rfl ?_
  refine s_iand X (pc' := 8) d10_7 rfl ?_
  refine s_icmp X (pc' := 13) (pcF := 11) d10_8 (by decide) (by decide) rfl (fun (q0 : (x &&& (3 : Int32)) = (y &&& (3 : Int32))) => ?_) (fun (q0 : ¬ (x &&& (3 : Int32)) = (y &&& (3 : Int32))) => ?_)
  · rcases and3_cases x with pq | pq | pq | pq
    · have pq' : (y &&& (3 : Int32)) = (0 : Int32) := q0.symm.trans pq
      rw [pq]
      refine s_iloadN X (pc' := 14) d10_13 rfl rfl ?_
      refine s_ifT X (pc' := 36) d10_14 (show ¬ (0 : Int32) < (0 : Int32) by decide) (by decide) (by decide) ?_
      refine s_iloadN X (pc' := 37) d10_36 rfl rfl ?_
      refine s_iconst X (pc' := 38) d10_37 (v := (1 : Int32)) rfl rfl ?_
      refine s_icmpT X (pc' := 62) d10_38 (show ¬ (1 : Int32) < (0 : Int32) by decide) (by decide) (by decide) ?_
      refine s_iloadN X (pc' := 63) d10_62 rfl rfl ?_
      refine s_iconst X (pc' := 64) d10_63 (v := (2 : Int32)) rfl rfl ?_
      refine s_icmpT X (pc' := 88) d10_64 (show ¬ (2 : Int32) < (0 : Int32) by decide) (by decide) (by decide) ?_
      refine s_iconst X (pc' := 89) d10_88 (v := (1 : Int32)) rfl rfl ?_
      exact s_iretN X hEL (ws' := []) (t := .boolean) d10_89 rfl (by simp) (by decide) (by decide) (fun x q => by simp at q) ⟨by rw [if_pos (by simp [chars, pq, pq'])]; rfl, rfl, rfl⟩
    · have pq' : (y &&& (3 : Int32)) = (1 : Int32) := q0.symm.trans pq
      rw [pq]
      refine s_iloadN X (pc' := 14) d10_13 rfl rfl ?_
      refine s_ifF X (pc' := 17) d10_14 (show (0 : Int32) < (1 : Int32) by decide) rfl ?_
      refine s_iloadN X (pc' := 18) d10_17 rfl rfl ?_
      refine s_iconst X (pc' := 19) d10_18 (v := (2 : Int32)) rfl rfl ?_
      refine s_iushr X (pc' := 20) d10_19 rfl ?_
      refine s_sipush X (pc' := 23) d10_20 (v := (255 : Int32)) (by decide) rfl ?_
      refine s_iand X (pc' := 24) d10_23 rfl ?_
      refine s_iloadN X (pc' := 25) d10_24 rfl rfl ?_
      refine s_iconst X (pc' := 26) d10_25 (v := (2 : Int32)) rfl rfl ?_
      refine s_iushr X (pc' := 27) d10_26 rfl ?_
      refine s_sipush X (pc' := 30) d10_27 (v := (255 : Int32)) (by decide) rfl ?_
      refine s_iand X (pc' := 31) d10_30 rfl ?_
      refine s_icmp X (pc' := 36) (pcF := 34) d10_31 (by decide) (by decide) rfl (fun (r0 : (((x.toUInt32 >>> ((2 : Int32) &&& 31).toUInt32).toInt32) &&& (255 : Int32)) = (((y.toUInt32 >>> ((2 : Int32) &&& 31).toUInt32).toInt32) &&& (255 : Int32))) => ?_) (fun (r0 : ¬ (((x.toUInt32 >>> ((2 : Int32) &&& 31).toUInt32).toInt32) &&& (255 : Int32)) = (((y.toUInt32 >>> ((2 : Int32) &&& 31).toUInt32).toInt32) &&& (255 : Int32))) => ?_)
      · have m0 : chA x 2 = chA y 2 := (chA_inj x y 2 2 (by decide) (by decide)).mpr r0
        refine s_iloadN X (pc' := 37) d10_36 rfl rfl ?_
        refine s_iconst X (pc' := 38) d10_37 (v := (1 : Int32)) rfl rfl ?_
        refine s_icmpT X (pc' := 62) d10_38 (show ¬ (1 : Int32) < (1 : Int32) by decide) (by decide) (by decide) ?_
        refine s_iloadN X (pc' := 63) d10_62 rfl rfl ?_
        refine s_iconst X (pc' := 64) d10_63 (v := (2 : Int32)) rfl rfl ?_
        refine s_icmpT X (pc' := 88) d10_64 (show ¬ (2 : Int32) < (1 : Int32) by decide) (by decide) (by decide) ?_
        refine s_iconst X (pc' := 89) d10_88 (v := (1 : Int32)) rfl rfl ?_
        exact s_iretN X hEL (ws' := []) (t := .boolean) d10_89 rfl (by simp) (by decide) (by decide) (fun x q => by simp at q) ⟨by rw [if_pos (by simp [chars, pq, pq', m0])]; rfl, rfl, rfl⟩
      · have m0 : ¬ chA x 2 = chA y 2 := fun z => r0 ((chA_inj x y 2 2 (by decide) (by decide)).mp z)
        refine s_iconst X (pc' := 35) d10_34 (v := (0 : Int32)) rfl rfl ?_
        exact s_iretN X hEL (ws' := []) (t := .boolean) d10_35 rfl (by simp) (by decide) (by decide) (fun x q => by simp at q) ⟨by rw [if_neg (fun z => by simp [chars, pq, pq', m0] at z)]; rfl, rfl, rfl⟩
    · have pq' : (y &&& (3 : Int32)) = (2 : Int32) := q0.symm.trans pq
      rw [pq]
      refine s_iloadN X (pc' := 14) d10_13 rfl rfl ?_
      refine s_ifF X (pc' := 17) d10_14 (show (0 : Int32) < (2 : Int32) by decide) rfl ?_
      refine s_iloadN X (pc' := 18) d10_17 rfl rfl ?_
      refine s_iconst X (pc' := 19) d10_18 (v := (2 : Int32)) rfl rfl ?_
      refine s_iushr X (pc' := 20) d10_19 rfl ?_
      refine s_sipush X (pc' := 23) d10_20 (v := (255 : Int32)) (by decide) rfl ?_
      refine s_iand X (pc' := 24) d10_23 rfl ?_
      refine s_iloadN X (pc' := 25) d10_24 rfl rfl ?_
      refine s_iconst X (pc' := 26) d10_25 (v := (2 : Int32)) rfl rfl ?_
      refine s_iushr X (pc' := 27) d10_26 rfl ?_
      refine s_sipush X (pc' := 30) d10_27 (v := (255 : Int32)) (by decide) rfl ?_
      refine s_iand X (pc' := 31) d10_30 rfl ?_
      refine s_icmp X (pc' := 36) (pcF := 34) d10_31 (by decide) (by decide) rfl (fun (r0 : (((x.toUInt32 >>> ((2 : Int32) &&& 31).toUInt32).toInt32) &&& (255 : Int32)) = (((y.toUInt32 >>> ((2 : Int32) &&& 31).toUInt32).toInt32) &&& (255 : Int32))) => ?_) (fun (r0 : ¬ (((x.toUInt32 >>> ((2 : Int32) &&& 31).toUInt32).toInt32) &&& (255 : Int32)) = (((y.toUInt32 >>> ((2 : Int32) &&& 31).toUInt32).toInt32) &&& (255 : Int32))) => ?_)
      · have m0 : chA x 2 = chA y 2 := (chA_inj x y 2 2 (by decide) (by decide)).mpr r0
        refine s_iloadN X (pc' := 37) d10_36 rfl rfl ?_
        refine s_iconst X (pc' := 38) d10_37 (v := (1 : Int32)) rfl rfl ?_
        refine s_icmpF X (pc' := 41) d10_38 (show (1 : Int32) < (2 : Int32) by decide) rfl ?_
        refine s_iloadN X (pc' := 42) d10_41 rfl rfl ?_
        refine s_bipush X (pc' := 44) d10_42 (v := (10 : Int32)) (by decide) rfl ?_
        refine s_iushr X (pc' := 45) d10_44 rfl ?_
        refine s_sipush X (pc' := 48) d10_45 (v := (255 : Int32)) (by decide) rfl ?_
        refine s_iand X (pc' := 49) d10_48 rfl ?_
        refine s_iloadN X (pc' := 50) d10_49 rfl rfl ?_
        refine s_bipush X (pc' := 52) d10_50 (v := (10 : Int32)) (by decide) rfl ?_
        refine s_iushr X (pc' := 53) d10_52 rfl ?_
        refine s_sipush X (pc' := 56) d10_53 (v := (255 : Int32)) (by decide) rfl ?_
        refine s_iand X (pc' := 57) d10_56 rfl ?_
        refine s_icmp X (pc' := 62) (pcF := 60) d10_57 (by decide) (by decide) rfl (fun (r1 : (((x.toUInt32 >>> ((10 : Int32) &&& 31).toUInt32).toInt32) &&& (255 : Int32)) = (((y.toUInt32 >>> ((10 : Int32) &&& 31).toUInt32).toInt32) &&& (255 : Int32))) => ?_) (fun (r1 : ¬ (((x.toUInt32 >>> ((10 : Int32) &&& 31).toUInt32).toInt32) &&& (255 : Int32)) = (((y.toUInt32 >>> ((10 : Int32) &&& 31).toUInt32).toInt32) &&& (255 : Int32))) => ?_)
        · have m1 : chA x 10 = chA y 10 := (chA_inj x y 10 10 (by decide) (by decide)).mpr r1
          refine s_iloadN X (pc' := 63) d10_62 rfl rfl ?_
          refine s_iconst X (pc' := 64) d10_63 (v := (2 : Int32)) rfl rfl ?_
          refine s_icmpT X (pc' := 88) d10_64 (show ¬ (2 : Int32) < (2 : Int32) by decide) (by decide) (by decide) ?_
          refine s_iconst X (pc' := 89) d10_88 (v := (1 : Int32)) rfl rfl ?_
          exact s_iretN X hEL (ws' := []) (t := .boolean) d10_89 rfl (by simp) (by decide) (by decide) (fun x q => by simp at q) ⟨by rw [if_pos (by simp [chars, pq, pq', m0, m1])]; rfl, rfl, rfl⟩
        · have m1 : ¬ chA x 10 = chA y 10 := fun z => r1 ((chA_inj x y 10 10 (by decide) (by decide)).mp z)
          refine s_iconst X (pc' := 61) d10_60 (v := (0 : Int32)) rfl rfl ?_
          exact s_iretN X hEL (ws' := []) (t := .boolean) d10_61 rfl (by simp) (by decide) (by decide) (fun x q => by simp at q) ⟨by rw [if_neg (fun z => by simp [chars, pq, pq', m1] at z)]; rfl, rfl, rfl⟩
      · have m0 : ¬ chA x 2 = chA y 2 := fun z => r0 ((chA_inj x y 2 2 (by decide) (by decide)).mp z)
        refine s_iconst X (pc' := 35) d10_34 (v := (0 : Int32)) rfl rfl ?_
        exact s_iretN X hEL (ws' := []) (t := .boolean) d10_35 rfl (by simp) (by decide) (by decide) (fun x q => by simp at q) ⟨by rw [if_neg (fun z => by simp [chars, pq, pq', m0] at z)]; rfl, rfl, rfl⟩
    · have pq' : (y &&& (3 : Int32)) = (3 : Int32) := q0.symm.trans pq
      rw [pq]
      refine s_iloadN X (pc' := 14) d10_13 rfl rfl ?_
      refine s_ifF X (pc' := 17) d10_14 (show (0 : Int32) < (3 : Int32) by decide) rfl ?_
      refine s_iloadN X (pc' := 18) d10_17 rfl rfl ?_
      refine s_iconst X (pc' := 19) d10_18 (v := (2 : Int32)) rfl rfl ?_
      refine s_iushr X (pc' := 20) d10_19 rfl ?_
      refine s_sipush X (pc' := 23) d10_20 (v := (255 : Int32)) (by decide) rfl ?_
      refine s_iand X (pc' := 24) d10_23 rfl ?_
      refine s_iloadN X (pc' := 25) d10_24 rfl rfl ?_
      refine s_iconst X (pc' := 26) d10_25 (v := (2 : Int32)) rfl rfl ?_
      refine s_iushr X (pc' := 27) d10_26 rfl ?_
      refine s_sipush X (pc' := 30) d10_27 (v := (255 : Int32)) (by decide) rfl ?_
      refine s_iand X (pc' := 31) d10_30 rfl ?_
      refine s_icmp X (pc' := 36) (pcF := 34) d10_31 (by decide) (by decide) rfl (fun (r0 : (((x.toUInt32 >>> ((2 : Int32) &&& 31).toUInt32).toInt32) &&& (255 : Int32)) = (((y.toUInt32 >>> ((2 : Int32) &&& 31).toUInt32).toInt32) &&& (255 : Int32))) => ?_) (fun (r0 : ¬ (((x.toUInt32 >>> ((2 : Int32) &&& 31).toUInt32).toInt32) &&& (255 : Int32)) = (((y.toUInt32 >>> ((2 : Int32) &&& 31).toUInt32).toInt32) &&& (255 : Int32))) => ?_)
      · have m0 : chA x 2 = chA y 2 := (chA_inj x y 2 2 (by decide) (by decide)).mpr r0
        refine s_iloadN X (pc' := 37) d10_36 rfl rfl ?_
        refine s_iconst X (pc' := 38) d10_37 (v := (1 : Int32)) rfl rfl ?_
        refine s_icmpF X (pc' := 41) d10_38 (show (1 : Int32) < (3 : Int32) by decide) rfl ?_
        refine s_iloadN X (pc' := 42) d10_41 rfl rfl ?_
        refine s_bipush X (pc' := 44) d10_42 (v := (10 : Int32)) (by decide) rfl ?_
        refine s_iushr X (pc' := 45) d10_44 rfl ?_
        refine s_sipush X (pc' := 48) d10_45 (v := (255 : Int32)) (by decide) rfl ?_
        refine s_iand X (pc' := 49) d10_48 rfl ?_
        refine s_iloadN X (pc' := 50) d10_49 rfl rfl ?_
        refine s_bipush X (pc' := 52) d10_50 (v := (10 : Int32)) (by decide) rfl ?_
        refine s_iushr X (pc' := 53) d10_52 rfl ?_
        refine s_sipush X (pc' := 56) d10_53 (v := (255 : Int32)) (by decide) rfl ?_
        refine s_iand X (pc' := 57) d10_56 rfl ?_
        refine s_icmp X (pc' := 62) (pcF := 60) d10_57 (by decide) (by decide) rfl (fun (r1 : (((x.toUInt32 >>> ((10 : Int32) &&& 31).toUInt32).toInt32) &&& (255 : Int32)) = (((y.toUInt32 >>> ((10 : Int32) &&& 31).toUInt32).toInt32) &&& (255 : Int32))) => ?_) (fun (r1 : ¬ (((x.toUInt32 >>> ((10 : Int32) &&& 31).toUInt32).toInt32) &&& (255 : Int32)) = (((y.toUInt32 >>> ((10 : Int32) &&& 31).toUInt32).toInt32) &&& (255 : Int32))) => ?_)
        · have m1 : chA x 10 = chA y 10 := (chA_inj x y 10 10 (by decide) (by decide)).mpr r1
          refine s_iloadN X (pc' := 63) d10_62 rfl rfl ?_
          refine s_iconst X (pc' := 64) d10_63 (v := (2 : Int32)) rfl rfl ?_
          refine s_icmpF X (pc' := 67) d10_64 (show (2 : Int32) < (3 : Int32) by decide) rfl ?_
          refine s_iloadN X (pc' := 68) d10_67 rfl rfl ?_
          refine s_bipush X (pc' := 70) d10_68 (v := (18 : Int32)) (by decide) rfl ?_
          refine s_iushr X (pc' := 71) d10_70 rfl ?_
          refine s_sipush X (pc' := 74) d10_71 (v := (255 : Int32)) (by decide) rfl ?_
          refine s_iand X (pc' := 75) d10_74 rfl ?_
          refine s_iloadN X (pc' := 76) d10_75 rfl rfl ?_
          refine s_bipush X (pc' := 78) d10_76 (v := (18 : Int32)) (by decide) rfl ?_
          refine s_iushr X (pc' := 79) d10_78 rfl ?_
          refine s_sipush X (pc' := 82) d10_79 (v := (255 : Int32)) (by decide) rfl ?_
          refine s_iand X (pc' := 83) d10_82 rfl ?_
          refine s_icmp X (pc' := 88) (pcF := 86) d10_83 (by decide) (by decide) rfl (fun (r2 : (((x.toUInt32 >>> ((18 : Int32) &&& 31).toUInt32).toInt32) &&& (255 : Int32)) = (((y.toUInt32 >>> ((18 : Int32) &&& 31).toUInt32).toInt32) &&& (255 : Int32))) => ?_) (fun (r2 : ¬ (((x.toUInt32 >>> ((18 : Int32) &&& 31).toUInt32).toInt32) &&& (255 : Int32)) = (((y.toUInt32 >>> ((18 : Int32) &&& 31).toUInt32).toInt32) &&& (255 : Int32))) => ?_)
          · have m2 : chA x 18 = chA y 18 := (chA_inj x y 18 18 (by decide) (by decide)).mpr r2
            refine s_iconst X (pc' := 89) d10_88 (v := (1 : Int32)) rfl rfl ?_
            exact s_iretN X hEL (ws' := []) (t := .boolean) d10_89 rfl (by simp) (by decide) (by decide) (fun x q => by simp at q) ⟨by rw [if_pos (by simp [chars, pq, pq', m0, m1, m2])]; rfl, rfl, rfl⟩
          · have m2 : ¬ chA x 18 = chA y 18 := fun z => r2 ((chA_inj x y 18 18 (by decide) (by decide)).mp z)
            refine s_iconst X (pc' := 87) d10_86 (v := (0 : Int32)) rfl rfl ?_
            exact s_iretN X hEL (ws' := []) (t := .boolean) d10_87 rfl (by simp) (by decide) (by decide) (fun x q => by simp at q) ⟨by rw [if_neg (fun z => by simp [chars, pq, pq', m2] at z)]; rfl, rfl, rfl⟩
        · have m1 : ¬ chA x 10 = chA y 10 := fun z => r1 ((chA_inj x y 10 10 (by decide) (by decide)).mp z)
          refine s_iconst X (pc' := 61) d10_60 (v := (0 : Int32)) rfl rfl ?_
          exact s_iretN X hEL (ws' := []) (t := .boolean) d10_61 rfl (by simp) (by decide) (by decide) (fun x q => by simp at q) ⟨by rw [if_neg (fun z => by simp [chars, pq, pq', m1] at z)]; rfl, rfl, rfl⟩
      · have m0 : ¬ chA x 2 = chA y 2 := fun z => r0 ((chA_inj x y 2 2 (by decide) (by decide)).mp z)
        refine s_iconst X (pc' := 35) d10_34 (v := (0 : Int32)) rfl rfl ?_
        exact s_iretN X hEL (ws' := []) (t := .boolean) d10_35 rfl (by simp) (by decide) (by decide) (fun x q => by simp at q) ⟨by rw [if_neg (fun z => by simp [chars, pq, pq', m0] at z)]; rfl, rfl, rfl⟩
  · refine s_iconst X (pc' := 12) d10_11 (v := (0 : Int32)) rfl rfl ?_
    exact s_iretN X hEL (ws' := []) (t := .boolean) d10_12 rfl (by simp) (by decide) (by decide) (fun x q => by simp at q) ⟨by rw [if_neg (fun z => own_len z q0)]; rfl, rfl, rfl⟩
theorem d4_0 : decode jdk_42_method_149_code 0 = .ok (.aload_n 0, 1) := by decide +kernel
theorem d4_1 : decode jdk_42_method_149_code 1 = .ok (.invokespecial 1, 3) := by decide +kernel
theorem d4_4 : decode jdk_42_method_149_code 4 = .ok (.iload_n 3, 1) := by decide +kernel
theorem d4_5 : decode jdk_42_method_149_code 5 = .ok (.ifCond .ne 22, 3) := by decide +kernel
theorem d4_8 : decode jdk_42_method_149_code 8 = .ok (.aload_n 0, 1) := by decide +kernel
theorem d4_9 : decode jdk_42_method_149_code 9 = .ok (.ldc 7, 2) := by decide +kernel
theorem d4_11 : decode jdk_42_method_149_code 11 = .ok (.getfield 9, 3) := by decide +kernel
theorem d4_14 : decode jdk_42_method_149_code 14 = .ok (.putfield 9, 3) := by decide +kernel
theorem d4_17 : decode jdk_42_method_149_code 17 = .ok (.aload_n 0, 1) := by decide +kernel
theorem d4_18 : decode jdk_42_method_149_code 18 = .ok (.ldc 7, 2) := by decide +kernel
theorem d4_20 : decode jdk_42_method_149_code 20 = .ok (.getfield 15, 3) := by decide +kernel
theorem d4_23 : decode jdk_42_method_149_code 23 = .ok (.putfield 15, 3) := by decide +kernel
theorem d4_26 : decode jdk_42_method_149_code 26 = .ok (.return_, 1) := by decide +kernel
theorem d3_0 : decode jdk_42_method_3_code 0 = .ok (.aload_n 0, 1) := by decide +kernel
theorem d3_1 : decode jdk_42_method_3_code 1 = .ok (.aload_n 1, 1) := by decide +kernel
theorem d3_2 : decode jdk_42_method_3_code 2 = .ok (.iconst 0, 1) := by decide +kernel
theorem d3_3 : decode jdk_42_method_3_code 3 = .ok (.aload_n 1, 1) := by decide +kernel
theorem d3_4 : decode jdk_42_method_3_code 4 = .ok (.arraylength, 1) := by decide +kernel
theorem d3_5 : decode jdk_42_method_3_code 5 = .ok (.aconst_null, 1) := by decide +kernel
theorem d3_6 : decode jdk_42_method_3_code 6 = .ok (.invokespecial 27, 3) := by decide +kernel
theorem d3_9 : decode jdk_42_method_3_code 9 = .ok (.return_, 1) := by decide +kernel
theorem ef_sI2 (m : MethodId) (x : Addr) (b : Addr) (z2 : Int32) (z3 : Int32) : entryFrame m #[(.ref x), (.ref b), (.int z2), (.int z3), .null] 6 = mkF m 0 #[.val (.ref x), .val (.ref b), .val (.int z2), .val (.int z3), .val .null, .unset] [] := by first | (simp [entryFrame, mkF, argsToLocals, Value.category]; done) | rfl
set_option maxRecDepth 65536 in
set_option maxHeartbeats 40000000 in
theorem sI2 (l : Launch) (Z : State) (a0 : Array Value) (hw : ∀ d ∈ tables_1, d.before a0 Z = true) (hEL : EW Z a0 consts_1) (x : Addr) (b : Addr) (z2 : Int32) (z3 : Int32) (h : Heap) (hE : Ext Z.heap h) (g_x : Z.heap.size ≤ x) (E_x : Exa Z h x "java/lang/String") (F_x_value : Fld Z h x "java/lang/String" "value" "[B" .null) (F_x_coder : Fld Z h x "java/lang/String" "coder" "B" (.int (0 : Int32))) (hz3 : z3 = (0 : Int32)) :
    Con l Z consts_1 False (⟨"java/lang/String", "<init>", "([CIILjava/lang/Void;)V"⟩ : MethodName) jdk_42_method_149_code 6 none ({ frames := 1, cells := 4, slots := 8, locals := 12 } : Room) [x] #[(.ref x), (.ref b), (.int z2), (.int z3), .null] h (fun v h' ws' => v = none ∧ Keep h h' [x] ∧ Str Z h' x [] ∧ ws' = []) := by
  refine Con.intro own_pn1 (fun p e s m below meth c T X => ?_)
  rw [ef_sI2 m x b z2 z3]
  have K_ : Keep h h [x] := Keep.refl _ _
  refine s_aloadN X (pc' := 1) d4_0 rfl rfl rfl ?_
  refine s_initO X (pc' := 4) (W := 0) d4_1 (hw _ (List.mem_of_getElem? (i := 21) rfl)) (hw _ (List.mem_of_getElem? (i := 22) rfl)) (b' := object_method_1_code) rfl (hw _ (List.mem_of_getElem? (i := 23) rfl)) (Nat.le_of_ble_eq_true rfl) (by decide) (by decide) rfl rfl (fun T X => ?_)
  refine s_iloadN X (pc' := 5) d4_4 rfl rfl ?_
  refine s_ifF X (pc' := 8) d4_5 hz3 rfl ?_
  refine s_aloadN X (pc' := 9) d4_8 rfl rfl rfl ?_
  refine s_ldcS X (pc' := 11) (k' := 2) (n' := 4) (nn := 0) (vs := []) (z := (0 : Int32)) hEL d4_9 (hw _ (List.mem_of_getElem? (i := 24) rfl)) (fun d hd => hw d ((by decide +kernel : ∀ d ∈ Bundle.stringAtoms, d ∈ tables_1) d hd)) (by simp [consts_1]) (by decide) (by decide) (by decide) (by decide) (by decide) (by decide) (by decide) (by decide) (by decide) rfl (fun T h1 a1 b1 kc_b1 X' E2 E_a1 F_a1_coder F_a1_value V_b1 nw_ => ?_)
  replace E_x := E_x.ext E2
  replace F_x_value := F_x_value.ext E2
  replace F_x_coder := F_x_coder.ext E2
  replace K_ := K_.ext E2
  replace X := X'
  have ne_x_a1 : x ≠ a1 := (nw_ x (by simp)).1
  have ne_x_b1 : x ≠ b1 := (nw_ x (by simp)).2
  refine s_getf X (pc' := 14) d4_11 (hw _ (List.mem_of_getElem? (i := 30) rfl)) Via.refl F_a1_value rfl (fun T X => ?_)
  refine s_putf X (pc' := 17) d4_14 (hw _ (List.mem_of_getElem? (i := 30) rfl)) Via.refl F_x_value E_x (Or.inr ⟨(hw _ (List.mem_of_getElem? (i := 26) rfl)), rfl, rfl⟩) (hw _ (List.mem_of_getElem? (i := 12) rfl)) (ty := (.array .byte)) (by decide) rfl rfl g_x (by simp) rfl (fun T h3 X W4 => ?_)
  replace F_x_value := F_x_value.same W4
  replace F_x_coder := F_x_coder.other W4 (Or.inr (slot_ne (Or.inr (hw _ (List.mem_of_getElem? (i := 27) rfl))) (Or.inr (hw _ (List.mem_of_getElem? (i := 26) rfl))) (t := .byte) (t' := (.array .byte)) (by decide) (by decide) (by decide)))
  replace F_a1_coder := F_a1_coder.other W4 (Or.inl ne_x_a1.symm)
  replace F_a1_value := F_a1_value.other W4 (Or.inl ne_x_a1.symm)
  replace V_b1 := V_b1.other W4 ne_x_b1.symm
  replace E_x := E_x.wr W4
  replace E_a1 := E_a1.wr W4
  replace K_ := K_.wr W4 (Or.inl (by simp))
  refine s_aloadN X (pc' := 18) d4_17 rfl rfl rfl ?_
  refine s_ldcS X (pc' := 20) (k' := 4) (n' := 8) (nn := 0) (vs := []) (z := (0 : Int32)) hEL d4_18 (hw _ (List.mem_of_getElem? (i := 24) rfl)) (fun d hd => hw d ((by decide +kernel : ∀ d ∈ Bundle.stringAtoms, d ∈ tables_1) d hd)) (by simp [consts_1]) (by decide) (by decide) (by decide) (by decide) (by decide) (by decide) (by decide) (by decide) (by decide) rfl (fun T h5 a2 b2 kc_b2 X' E6 E_a2 F_a2_coder F_a2_value V_b2 nw_ => ?_)
  replace E_x := E_x.ext E6
  replace E_a1 := E_a1.ext E6
  replace F_x_value := F_x_value.ext E6
  replace F_x_coder := F_x_coder.ext E6
  replace F_a1_coder := F_a1_coder.ext E6
  replace F_a1_value := F_a1_value.ext E6
  replace V_b1 := V_b1.ext E6
  replace K_ := K_.ext E6
  replace X := X'
  have ne_x_a2 : x ≠ a2 := (nw_ x (by simp)).1
  have ne_x_b2 : x ≠ b2 := (nw_ x (by simp)).2
  refine s_getf X (pc' := 23) d4_20 (hw _ (List.mem_of_getElem? (i := 31) rfl)) Via.refl F_a2_coder rfl (fun T X => ?_)
  refine s_putf X (pc' := 26) d4_23 (hw _ (List.mem_of_getElem? (i := 31) rfl)) Via.refl F_x_coder E_x (Or.inr ⟨(hw _ (List.mem_of_getElem? (i := 27) rfl)), rfl, rfl⟩) (hw _ (List.mem_of_getElem? (i := 12) rfl)) (ty := .byte) (by decide) rfl rfl g_x (by simp) rfl (fun T h7 X W8 => ?_)
  replace F_x_value := F_x_value.other W8 (Or.inr (slot_ne (Or.inr (hw _ (List.mem_of_getElem? (i := 26) rfl))) (Or.inr (hw _ (List.mem_of_getElem? (i := 27) rfl))) (t := (.array .byte)) (t' := .byte) (by decide) (by decide) (by decide)))
  replace F_x_coder := F_x_coder.same W8
  replace F_a1_coder := F_a1_coder.other W8 (Or.inl ne_x_a1.symm)
  replace F_a1_value := F_a1_value.other W8 (Or.inl ne_x_a1.symm)
  replace F_a2_coder := F_a2_coder.other W8 (Or.inl ne_x_a2.symm)
  replace F_a2_value := F_a2_value.other W8 (Or.inl ne_x_a2.symm)
  replace V_b1 := V_b1.other W8 ne_x_b1.symm
  replace V_b2 := V_b2.other W8 ne_x_b2.symm
  replace E_x := E_x.wr W8
  replace E_a1 := E_a1.wr W8
  replace E_a2 := E_a2.wr W8
  replace K_ := K_.wr W8 (Or.inl (by simp))
  exact s_ret X hEL (ws' := []) d4_26 (by decide) (by decide) (fun x q => by simp at q) ⟨rfl, K_, ⟨b1, kc_b1, 0, 0, [], E_x, F_x_value, F_x_coder, V_b1, Or.inl ⟨rfl, rfl, rfl, (by simp)⟩, (by simp), (by simp)⟩, rfl⟩
theorem ef_sI1 (m : MethodId) (x : Addr) (b : Addr) : entryFrame m #[(.ref x), (.ref b)] 2 = mkF m 0 #[.val (.ref x), .val (.ref b)] [] := by first | (simp [entryFrame, mkF, argsToLocals, Value.category]; done) | rfl
set_option maxRecDepth 65536 in
set_option maxHeartbeats 40000000 in
theorem sI1 (l : Launch) (Z : State) (a0 : Array Value) (hw : ∀ d ∈ tables_1, d.before a0 Z = true) (hEL : EW Z a0 consts_1) (x : Addr) (b : Addr) (h : Heap) (hE : Ext Z.heap h) (g_x : Z.heap.size ≤ x) (E_x : Exa Z h x "java/lang/String") (F_x_value : Fld Z h x "java/lang/String" "value" "[B" .null) (F_x_coder : Fld Z h x "java/lang/String" "coder" "B" (.int (0 : Int32))) (A_b : Ary Z h b .char []) :
    Con l Z consts_1 False (⟨"java/lang/String", "<init>", "([C)V"⟩ : MethodName) jdk_42_method_3_code 2 none ({ frames := 2, cells := 4, slots := 8, locals := 29 } : Room) [x] #[(.ref x), (.ref b)] h (fun v h' ws' => v = none ∧ Keep h h' [x] ∧ Str Z h' x [] ∧ ws' = []) := by
  refine Con.intro own_pn1 (fun p e s m below meth c T X => ?_)
  rw [ef_sI1 m x b]
  refine s_aloadN X (pc' := 1) d3_0 rfl rfl rfl ?_
  refine s_aloadN X (pc' := 2) d3_1 rfl rfl rfl ?_
  refine s_iconst X (pc' := 3) d3_2 (v := (0 : Int32)) rfl rfl ?_
  refine s_aloadN X (pc' := 4) d3_3 rfl rfl rfl ?_
  refine s_alen X (pc' := 5) (z := (0 : Int32)) d3_4 A_b rfl rfl ?_
  refine s_aconst X (pc' := 6) d3_5 rfl ?_
  refine s_special X (pc' := 9) (W := 0) (as' := [(.ref b), (.int (0 : Int32)), (.int (0 : Int32)), .null]) (S := []) (k' := 4) (n' := 8) d3_6 rfl (hw _ (List.mem_of_getElem? (i := 17) rfl)) (hw _ (List.mem_of_getElem? (i := 18) rfl)) (hw _ (List.mem_of_getElem? (i := 20) rfl)) (by decide) own_pd0 rfl ((sI2 l Z a0 hw hEL x b (0 : Int32) (0 : Int32) h hE g_x E_x F_x_value F_x_coder rfl).payS (by simp) (hw _ (List.mem_of_getElem? (i := 20) rfl)) (hw _ (List.mem_of_getElem? (i := 13) rfl)) hEL (by decide) (by decide)) (Nat.le_of_ble_eq_true rfl) rfl rfl (by decide) (by decide) (by decide) (by decide) rfl (fun T h9 v_ ws_ X hgr_ q10 => ?_)
  obtain ⟨rfl, K_, S_, rfl⟩ := q10
  show Go p e below _ T (mkF m 9 #[.val (.ref x), .val (.ref b)] [])
  replace X := X.sub (ws' := [x]) (by simp)
  exact s_ret X hEL (ws' := []) d3_9 (by decide) (by decide) (fun x q => by simp at q) ⟨rfl, K_, S_, rfl⟩
theorem d2_0 : decode method_2_code 0 = .ok (.iload_n 0, 1) := by decide +kernel
theorem d2_1 : decode method_2_code 1 = .ok (.iconst 3, 1) := by decide +kernel
theorem d2_2 : decode method_2_code 2 = .ok (.iand, 1) := by decide +kernel
theorem d2_3 : decode method_2_code 3 = .ok (.istore_n 1, 1) := by decide +kernel
theorem d2_4 : decode method_2_code 4 = .ok (.iload_n 1, 1) := by decide +kernel
theorem d2_5 : decode method_2_code 5 = .ok (.newarray .char, 2) := by decide +kernel
theorem d2_7 : decode method_2_code 7 = .ok (.astore_n 2, 1) := by decide +kernel
theorem d2_8 : decode method_2_code 8 = .ok (.iload_n 1, 1) := by decide +kernel
theorem d2_9 : decode method_2_code 9 = .ok (.ifCond .le 14, 3) := by decide +kernel
theorem d2_12 : decode method_2_code 12 = .ok (.aload_n 2, 1) := by decide +kernel
theorem d2_13 : decode method_2_code 13 = .ok (.iconst 0, 1) := by decide +kernel
theorem d2_14 : decode method_2_code 14 = .ok (.iload_n 0, 1) := by decide +kernel
theorem d2_15 : decode method_2_code 15 = .ok (.iconst 2, 1) := by decide +kernel
theorem d2_16 : decode method_2_code 16 = .ok (.iushr, 1) := by decide +kernel
theorem d2_17 : decode method_2_code 17 = .ok (.sipush 255, 3) := by decide +kernel
theorem d2_20 : decode method_2_code 20 = .ok (.iand, 1) := by decide +kernel
theorem d2_21 : decode method_2_code 21 = .ok (.i2c, 1) := by decide +kernel
theorem d2_22 : decode method_2_code 22 = .ok (.castore, 1) := by decide +kernel
theorem d2_23 : decode method_2_code 23 = .ok (.iload_n 1, 1) := by decide +kernel
theorem d2_24 : decode method_2_code 24 = .ok (.iconst 1, 1) := by decide +kernel
theorem d2_25 : decode method_2_code 25 = .ok (.if_icmp .le 15, 3) := by decide +kernel
theorem d2_28 : decode method_2_code 28 = .ok (.aload_n 2, 1) := by decide +kernel
theorem d2_29 : decode method_2_code 29 = .ok (.iconst 1, 1) := by decide +kernel
theorem d2_30 : decode method_2_code 30 = .ok (.iload_n 0, 1) := by decide +kernel
theorem d2_31 : decode method_2_code 31 = .ok (.bipush 10, 2) := by decide +kernel
theorem d2_33 : decode method_2_code 33 = .ok (.iushr, 1) := by decide +kernel
theorem d2_34 : decode method_2_code 34 = .ok (.sipush 255, 3) := by decide +kernel
theorem d2_37 : decode method_2_code 37 = .ok (.iand, 1) := by decide +kernel
theorem d2_38 : decode method_2_code 38 = .ok (.i2c, 1) := by decide +kernel
theorem d2_39 : decode method_2_code 39 = .ok (.castore, 1) := by decide +kernel
theorem d2_40 : decode method_2_code 40 = .ok (.iload_n 1, 1) := by decide +kernel
theorem d2_41 : decode method_2_code 41 = .ok (.iconst 2, 1) := by decide +kernel
theorem d2_42 : decode method_2_code 42 = .ok (.if_icmp .le 15, 3) := by decide +kernel
theorem d2_45 : decode method_2_code 45 = .ok (.aload_n 2, 1) := by decide +kernel
theorem d2_46 : decode method_2_code 46 = .ok (.iconst 2, 1) := by decide +kernel
theorem d2_47 : decode method_2_code 47 = .ok (.iload_n 0, 1) := by decide +kernel
theorem d2_48 : decode method_2_code 48 = .ok (.bipush 18, 2) := by decide +kernel
theorem d2_50 : decode method_2_code 50 = .ok (.iushr, 1) := by decide +kernel
theorem d2_51 : decode method_2_code 51 = .ok (.sipush 255, 3) := by decide +kernel
theorem d2_54 : decode method_2_code 54 = .ok (.iand, 1) := by decide +kernel
theorem d2_55 : decode method_2_code 55 = .ok (.i2c, 1) := by decide +kernel
theorem d2_56 : decode method_2_code 56 = .ok (.castore, 1) := by decide +kernel
theorem d2_57 : decode method_2_code 57 = .ok (.new 7, 3) := by decide +kernel
theorem d2_60 : decode method_2_code 60 = .ok (.dup, 1) := by decide +kernel
theorem d2_61 : decode method_2_code 61 = .ok (.aload_n 2, 1) := by decide +kernel
theorem d2_62 : decode method_2_code 62 = .ok (.invokespecial 9, 3) := by decide +kernel
theorem d2_65 : decode method_2_code 65 = .ok (.areturn, 1) := by decide +kernel
theorem ef_own_mk (m : MethodId) (x : Int32) : entryFrame m #[(.int x)] 3 = mkF m 0 #[.val (.int x), .unset, .unset] [] := by first | (simp [entryFrame, mkF, argsToLocals, Value.category]; done) | rfl
set_option maxRecDepth 65536 in
set_option maxHeartbeats 40000000 in
theorem own_mk (l : Launch) (Z : State) (a0 : Array Value) (hw : ∀ d ∈ tables_1, d.before a0 Z = true) (hEL : EW Z a0 consts_1) (x : Int32) {G1 : Int32} (h : Heap) (O2 : Sta Z Z.heap "java/lang/String" "COMPACT_STRINGS" "Z" (.int G1)) (P5 : ¬ (G1 = (0 : Int32))) :
    Con l Z consts_1 False (⟨"com/example/quadledger/quadledger/records/EnrolmentKeyEqualsPinLaw", "mk", "(I)Ljava/lang/String;"⟩ : MethodName) method_2_code 3 (some (.object "java/lang/String")) ({ frames := 4, cells := 6, slots := 12, locals := 66 } : Room) [] #[(.int x)] h (fun v h' ws' => ∃ r, v = some (.ref r) ∧ Ext h h' ∧ Str Z h' r (chars x) ∧ ws' = []) := by
  refine Con.intro own_pn0 (fun p e s m below meth c T X => ?_)
  rw [ef_own_mk m x]
  have R_ : Ext h h := ext_refl _
  refine s_iloadN X (pc' := 1) d2_0 rfl rfl ?_
  refine s_iconst X (pc' := 2) d2_1 (v := (3 : Int32)) rfl rfl ?_
  refine s_iand X (pc' := 3) d2_2 rfl ?_
  rcases and3_cases x with pq | pq | pq | pq
  · rw [pq]
    refine s_istoreN X (pc' := 4) (L' := #[.val (.int x), .val (.int (0 : Int32)), .unset]) d2_3 rfl rfl ?_
    refine s_iloadN X (pc' := 5) d2_4 rfl rfl ?_
    refine s_newarr X (pc' := 7) (k' := 1) (n' := 0) (N := 0) d2_5 (hw _ (List.mem_of_getElem? (i := 10) rfl)) rfl (by decide) (by decide) (by decide) (by decide) (by decide) rfl (fun T h12 b11 gb_b11 X' E13 A_b11 => ?_)
    have g_b11 : Z.heap.size ≤ b11 := by rw [gb_b11]; exact X.lt
    have sz_R__b11 : h.size ≤ b11 := by rw [gb_b11]; exact R_.1
    replace R_ := ext_trans R_ E13
    replace X := X'
    replace A_b11 : Ary Z h12 b11 .char [] := A_b11
    refine s_astoreN X (pc' := 8) (L' := #[.val (.int x), .val (.int (0 : Int32)), .val (.ref b11)]) d2_7 rfl rfl rfl ?_
    refine s_iloadN X (pc' := 9) d2_8 rfl rfl ?_
    refine s_ifT X (pc' := 23) d2_9 (show ¬ (0 : Int32) < (0 : Int32) by decide) (by decide) (by decide) ?_
    refine s_iloadN X (pc' := 24) d2_23 rfl rfl ?_
    refine s_iconst X (pc' := 25) d2_24 (v := (1 : Int32)) rfl rfl ?_
    refine s_icmpT X (pc' := 40) d2_25 (show ¬ (1 : Int32) < (0 : Int32) by decide) (by decide) (by decide) ?_
    refine s_iloadN X (pc' := 41) d2_40 rfl rfl ?_
    refine s_iconst X (pc' := 42) d2_41 (v := (2 : Int32)) rfl rfl ?_
    refine s_icmpT X (pc' := 57) d2_42 (show ¬ (2 : Int32) < (0 : Int32) by decide) (by decide) (by decide) ?_
    refine s_new X (pc' := 60) (k' := 2) (n' := 4) d2_57 (hw _ (List.mem_of_getElem? (i := 11) rfl)) (hw _ (List.mem_of_getElem? (i := 12) rfl)) (hw _ (List.mem_of_getElem? (i := 13) rfl)) (by decide) (by decide) (by decide) (by decide) rfl (fun T h15 b14 gb_b14 X' E16 E_b14 D_b14 U_b14 => ?_)
    have g_b14 : Z.heap.size ≤ b14 := by rw [gb_b14]; exact X.lt
    have ne_b11_b14 : b11 ≠ b14 := Nat.ne_of_lt (by rw [gb_b14]; exact A_b11.lt)
    have sz_R__b14 : h.size ≤ b14 := by rw [gb_b14]; exact R_.1
    replace A_b11 := A_b11.ext E16
    replace R_ := ext_trans R_ E16
    replace X := X'
    have F_b14_value : Fld Z h15 b14 "java/lang/String" "value" "[B" .null := D_b14 (Or.inr (hw _ (List.mem_of_getElem? (i := 26) rfl))) (ty := (.array .byte)) (by decide)
    have F_b14_coder : Fld Z h15 b14 "java/lang/String" "coder" "B" (.int (0 : Int32)) := D_b14 (Or.inr (hw _ (List.mem_of_getElem? (i := 27) rfl))) (ty := .byte) (by decide)
    refine s_dup X (pc' := 61) d2_60 rfl rfl ?_
    refine s_aloadN X (pc' := 62) d2_61 rfl rfl rfl ?_
    replace X := X.sub (ws' := [b14]) (by simp)
    refine s_special X (pc' := 65) (W := 1) (as' := [(.ref b11)]) (S := [(.ref b14)]) (k' := 6) (n' := 12) d2_62 rfl (hw _ (List.mem_of_getElem? (i := 14) rfl)) (hw _ (List.mem_of_getElem? (i := 15) rfl)) (hw _ (List.mem_of_getElem? (i := 16) rfl)) (by decide) own_pd1 rfl ((sI1 l Z a0 hw hEL b14 b11 _ X.old g_b14 E_b14 F_b14_value F_b14_coder A_b11).payS (by simp) (hw _ (List.mem_of_getElem? (i := 16) rfl)) (hw _ (List.mem_of_getElem? (i := 13) rfl)) hEL (by decide) (by decide)) (Nat.le_of_ble_eq_true rfl) rfl rfl (by decide) (by decide) (by decide) (by decide) rfl (fun T h17 v_ ws_ X hgr_ q18 => ?_)
    obtain ⟨rfl, K_, S_b14, rfl⟩ := q18
    show Go p e below _ T (mkF m 65 #[.val (.int x), .val (.int (0 : Int32)), .val (.ref b11)] [(.ref b14)])
    replace E_b14 := E_b14.keep K_
    replace R_ := ext_keep R_ K_ (allS sz_R__b14 all0)
    exact s_aret X hEL (ws' := []) (t := (.object "java/lang/String")) d2_65 rfl rfl rfl rfl (by decide) (by decide) (fun x q => by simp at q) ⟨b14, rfl, R_, (by rw [show chars x = _ by simp [chars, pq]; rfl]; exact S_b14), rfl⟩
  · rw [pq]
    refine s_istoreN X (pc' := 4) (L' := #[.val (.int x), .val (.int (1 : Int32)), .unset]) d2_3 rfl rfl ?_
    refine s_iloadN X (pc' := 5) d2_4 rfl rfl ?_
    refine s_newarr X (pc' := 7) (k' := 1) (n' := 1) (N := 1) d2_5 (hw _ (List.mem_of_getElem? (i := 10) rfl)) rfl (by decide) (by decide) (by decide) (by decide) (by decide) rfl (fun T h20 b19 gb_b19 X' E21 A_b19 => ?_)
    have g_b19 : Z.heap.size ≤ b19 := by rw [gb_b19]; exact X.lt
    have sz_R__b19 : h.size ≤ b19 := by rw [gb_b19]; exact R_.1
    replace R_ := ext_trans R_ E21
    replace X := X'
    replace A_b19 : Ary Z h20 b19 .char [(.int (0 : Int32))] := A_b19
    refine s_astoreN X (pc' := 8) (L' := #[.val (.int x), .val (.int (1 : Int32)), .val (.ref b19)]) d2_7 rfl rfl rfl ?_
    refine s_iloadN X (pc' := 9) d2_8 rfl rfl ?_
    refine s_ifF X (pc' := 12) d2_9 (show (0 : Int32) < (1 : Int32) by decide) rfl ?_
    refine s_aloadN X (pc' := 13) d2_12 rfl rfl rfl ?_
    refine s_iconst X (pc' := 14) d2_13 (v := (0 : Int32)) rfl rfl ?_
    refine s_iloadN X (pc' := 15) d2_14 rfl rfl ?_
    refine s_iconst X (pc' := 16) d2_15 (v := (2 : Int32)) rfl rfl ?_
    refine s_iushr X (pc' := 17) d2_16 rfl ?_
    refine s_sipush X (pc' := 20) d2_17 (v := (255 : Int32)) (by decide) rfl ?_
    refine s_iand X (pc' := 21) d2_20 rfl ?_
    refine s_i2c X (pc' := 22) d2_21 rfl ?_
    refine s_castore X (pc' := 23) (i := 0) d2_22 A_b19 rfl (Nat.le_of_ble_eq_true rfl) g_b19 (by simp) rfl (fun T h22 X W23 A' => ?_)
    replace R_ := ext_wr R_ W23 sz_R__b19
    replace A_b19 : Ary Z h22 b19 .char [(.int (nar .char (((x.toUInt32 >>> ((2 : Int32) &&& 31).toUInt32).toInt32) &&& (255 : Int32)).toUInt32.toUInt16.toUInt32.toInt32))] := A'
    refine s_iloadN X (pc' := 24) d2_23 rfl rfl ?_
    refine s_iconst X (pc' := 25) d2_24 (v := (1 : Int32)) rfl rfl ?_
    refine s_icmpT X (pc' := 40) d2_25 (show ¬ (1 : Int32) < (1 : Int32) by decide) (by decide) (by decide) ?_
    refine s_iloadN X (pc' := 41) d2_40 rfl rfl ?_
    refine s_iconst X (pc' := 42) d2_41 (v := (2 : Int32)) rfl rfl ?_
    refine s_icmpT X (pc' := 57) d2_42 (show ¬ (2 : Int32) < (1 : Int32) by decide) (by decide) (by decide) ?_
    refine s_new X (pc' := 60) (k' := 2) (n' := 5) d2_57 (hw _ (List.mem_of_getElem? (i := 11) rfl)) (hw _ (List.mem_of_getElem? (i := 12) rfl)) (hw _ (List.mem_of_getElem? (i := 13) rfl)) (by decide) (by decide) (by decide) (by decide) rfl (fun T h25 b24 gb_b24 X' E26 E_b24 D_b24 U_b24 => ?_)
    have g_b24 : Z.heap.size ≤ b24 := by rw [gb_b24]; exact X.lt
    have ne_b19_b24 : b19 ≠ b24 := Nat.ne_of_lt (by rw [gb_b24]; exact A_b19.lt)
    have sz_R__b24 : h.size ≤ b24 := by rw [gb_b24]; exact R_.1
    replace A_b19 := A_b19.ext E26
    replace R_ := ext_trans R_ E26
    replace X := X'
    have F_b24_value : Fld Z h25 b24 "java/lang/String" "value" "[B" .null := D_b24 (Or.inr (hw _ (List.mem_of_getElem? (i := 26) rfl))) (ty := (.array .byte)) (by decide)
    have F_b24_coder : Fld Z h25 b24 "java/lang/String" "coder" "B" (.int (0 : Int32)) := D_b24 (Or.inr (hw _ (List.mem_of_getElem? (i := 27) rfl))) (ty := .byte) (by decide)
    refine s_dup X (pc' := 61) d2_60 rfl rfl ?_
    refine s_aloadN X (pc' := 62) d2_61 rfl rfl rfl ?_
    refine s_special X (pc' := 65) (W := 1) (as' := [(.ref b19)]) (S := [(.ref b24)]) (k' := 3) (n' := 6) d2_62 rfl (hw _ (List.mem_of_getElem? (i := 14) rfl)) (hw _ (List.mem_of_getElem? (i := 15) rfl)) (hw _ (List.mem_of_getElem? (i := 16) rfl)) (by decide) own_pd1 rfl (newStrPay hw hEL O2 P5 X.old g_b24 (by simp) E_b24 F_b24_value F_b24_coder (cs := [chA x 2]) rfl A_b19 (n := 1) rfl (by decide) (by decide) (alS (chA_ok x 2 2 (by decide) (by decide)) al0) (by decide) (by decide)) (Nat.le_of_ble_eq_true rfl) rfl rfl (by decide) (by decide) (by decide) (by decide) rfl (fun T h27 v_ ws_ X hgr_ q28 => ?_)
    obtain ⟨rfl, K_, S_b24, rfl⟩ := q28
    show Go p e below _ T (mkF m 65 #[.val (.int x), .val (.int (1 : Int32)), .val (.ref b19)] [(.ref b24)])
    replace E_b24 := E_b24.keep K_
    replace R_ := ext_keep R_ K_ (allS sz_R__b24 all0)
    exact s_aret X hEL (ws' := []) (t := (.object "java/lang/String")) d2_65 rfl rfl rfl rfl (by decide) (by decide) (fun x q => by simp at q) ⟨b24, rfl, R_, (by rw [show chars x = _ by simp [chars, pq]; rfl]; exact S_b24), rfl⟩
  · rw [pq]
    refine s_istoreN X (pc' := 4) (L' := #[.val (.int x), .val (.int (2 : Int32)), .unset]) d2_3 rfl rfl ?_
    refine s_iloadN X (pc' := 5) d2_4 rfl rfl ?_
    refine s_newarr X (pc' := 7) (k' := 1) (n' := 2) (N := 2) d2_5 (hw _ (List.mem_of_getElem? (i := 10) rfl)) rfl (by decide) (by decide) (by decide) (by decide) (by decide) rfl (fun T h30 b29 gb_b29 X' E31 A_b29 => ?_)
    have g_b29 : Z.heap.size ≤ b29 := by rw [gb_b29]; exact X.lt
    have sz_R__b29 : h.size ≤ b29 := by rw [gb_b29]; exact R_.1
    replace R_ := ext_trans R_ E31
    replace X := X'
    replace A_b29 : Ary Z h30 b29 .char [(.int (0 : Int32)), (.int (0 : Int32))] := A_b29
    refine s_astoreN X (pc' := 8) (L' := #[.val (.int x), .val (.int (2 : Int32)), .val (.ref b29)]) d2_7 rfl rfl rfl ?_
    refine s_iloadN X (pc' := 9) d2_8 rfl rfl ?_
    refine s_ifF X (pc' := 12) d2_9 (show (0 : Int32) < (2 : Int32) by decide) rfl ?_
    refine s_aloadN X (pc' := 13) d2_12 rfl rfl rfl ?_
    refine s_iconst X (pc' := 14) d2_13 (v := (0 : Int32)) rfl rfl ?_
    refine s_iloadN X (pc' := 15) d2_14 rfl rfl ?_
    refine s_iconst X (pc' := 16) d2_15 (v := (2 : Int32)) rfl rfl ?_
    refine s_iushr X (pc' := 17) d2_16 rfl ?_
    refine s_sipush X (pc' := 20) d2_17 (v := (255 : Int32)) (by decide) rfl ?_
    refine s_iand X (pc' := 21) d2_20 rfl ?_
    refine s_i2c X (pc' := 22) d2_21 rfl ?_
    refine s_castore X (pc' := 23) (i := 0) d2_22 A_b29 rfl (Nat.le_of_ble_eq_true rfl) g_b29 (by simp) rfl (fun T h32 X W33 A' => ?_)
    replace R_ := ext_wr R_ W33 sz_R__b29
    replace A_b29 : Ary Z h32 b29 .char [(.int (nar .char (((x.toUInt32 >>> ((2 : Int32) &&& 31).toUInt32).toInt32) &&& (255 : Int32)).toUInt32.toUInt16.toUInt32.toInt32)), (.int (0 : Int32))] := A'
    refine s_iloadN X (pc' := 24) d2_23 rfl rfl ?_
    refine s_iconst X (pc' := 25) d2_24 (v := (1 : Int32)) rfl rfl ?_
    refine s_icmpF X (pc' := 28) d2_25 (show (1 : Int32) < (2 : Int32) by decide) rfl ?_
    refine s_aloadN X (pc' := 29) d2_28 rfl rfl rfl ?_
    refine s_iconst X (pc' := 30) d2_29 (v := (1 : Int32)) rfl rfl ?_
    refine s_iloadN X (pc' := 31) d2_30 rfl rfl ?_
    refine s_bipush X (pc' := 33) d2_31 (v := (10 : Int32)) (by decide) rfl ?_
    refine s_iushr X (pc' := 34) d2_33 rfl ?_
    refine s_sipush X (pc' := 37) d2_34 (v := (255 : Int32)) (by decide) rfl ?_
    refine s_iand X (pc' := 38) d2_37 rfl ?_
    refine s_i2c X (pc' := 39) d2_38 rfl ?_
    refine s_castore X (pc' := 40) (i := 1) d2_39 A_b29 rfl (Nat.le_of_ble_eq_true rfl) g_b29 (by simp) rfl (fun T h34 X W35 A' => ?_)
    replace R_ := ext_wr R_ W35 sz_R__b29
    replace A_b29 : Ary Z h34 b29 .char [(.int (nar .char (((x.toUInt32 >>> ((2 : Int32) &&& 31).toUInt32).toInt32) &&& (255 : Int32)).toUInt32.toUInt16.toUInt32.toInt32)), (.int (nar .char (((x.toUInt32 >>> ((10 : Int32) &&& 31).toUInt32).toInt32) &&& (255 : Int32)).toUInt32.toUInt16.toUInt32.toInt32))] := A'
    refine s_iloadN X (pc' := 41) d2_40 rfl rfl ?_
    refine s_iconst X (pc' := 42) d2_41 (v := (2 : Int32)) rfl rfl ?_
    refine s_icmpT X (pc' := 57) d2_42 (show ¬ (2 : Int32) < (2 : Int32) by decide) (by decide) (by decide) ?_
    refine s_new X (pc' := 60) (k' := 2) (n' := 6) d2_57 (hw _ (List.mem_of_getElem? (i := 11) rfl)) (hw _ (List.mem_of_getElem? (i := 12) rfl)) (hw _ (List.mem_of_getElem? (i := 13) rfl)) (by decide) (by decide) (by decide) (by decide) rfl (fun T h37 b36 gb_b36 X' E38 E_b36 D_b36 U_b36 => ?_)
    have g_b36 : Z.heap.size ≤ b36 := by rw [gb_b36]; exact X.lt
    have ne_b29_b36 : b29 ≠ b36 := Nat.ne_of_lt (by rw [gb_b36]; exact A_b29.lt)
    have sz_R__b36 : h.size ≤ b36 := by rw [gb_b36]; exact R_.1
    replace A_b29 := A_b29.ext E38
    replace R_ := ext_trans R_ E38
    replace X := X'
    have F_b36_value : Fld Z h37 b36 "java/lang/String" "value" "[B" .null := D_b36 (Or.inr (hw _ (List.mem_of_getElem? (i := 26) rfl))) (ty := (.array .byte)) (by decide)
    have F_b36_coder : Fld Z h37 b36 "java/lang/String" "coder" "B" (.int (0 : Int32)) := D_b36 (Or.inr (hw _ (List.mem_of_getElem? (i := 27) rfl))) (ty := .byte) (by decide)
    refine s_dup X (pc' := 61) d2_60 rfl rfl ?_
    refine s_aloadN X (pc' := 62) d2_61 rfl rfl rfl ?_
    refine s_special X (pc' := 65) (W := 1) (as' := [(.ref b29)]) (S := [(.ref b36)]) (k' := 3) (n' := 8) d2_62 rfl (hw _ (List.mem_of_getElem? (i := 14) rfl)) (hw _ (List.mem_of_getElem? (i := 15) rfl)) (hw _ (List.mem_of_getElem? (i := 16) rfl)) (by decide) own_pd1 rfl (newStrPay hw hEL O2 P5 X.old g_b36 (by simp) E_b36 F_b36_value F_b36_coder (cs := [chA x 2, chA x 10]) rfl A_b29 (n := 2) rfl (by decide) (by decide) (alS (chA_ok x 2 2 (by decide) (by decide)) (alS (chA_ok x 10 10 (by decide) (by decide)) al0)) (by decide) (by decide)) (Nat.le_of_ble_eq_true rfl) rfl rfl (by decide) (by decide) (by decide) (by decide) rfl (fun T h39 v_ ws_ X hgr_ q40 => ?_)
    obtain ⟨rfl, K_, S_b36, rfl⟩ := q40
    show Go p e below _ T (mkF m 65 #[.val (.int x), .val (.int (2 : Int32)), .val (.ref b29)] [(.ref b36)])
    replace E_b36 := E_b36.keep K_
    replace R_ := ext_keep R_ K_ (allS sz_R__b36 all0)
    exact s_aret X hEL (ws' := []) (t := (.object "java/lang/String")) d2_65 rfl rfl rfl rfl (by decide) (by decide) (fun x q => by simp at q) ⟨b36, rfl, R_, (by rw [show chars x = _ by simp [chars, pq]; rfl]; exact S_b36), rfl⟩
  · rw [pq]
    refine s_istoreN X (pc' := 4) (L' := #[.val (.int x), .val (.int (3 : Int32)), .unset]) d2_3 rfl rfl ?_
    refine s_iloadN X (pc' := 5) d2_4 rfl rfl ?_
    refine s_newarr X (pc' := 7) (k' := 1) (n' := 3) (N := 3) d2_5 (hw _ (List.mem_of_getElem? (i := 10) rfl)) rfl (by decide) (by decide) (by decide) (by decide) (by decide) rfl (fun T h42 b41 gb_b41 X' E43 A_b41 => ?_)
    have g_b41 : Z.heap.size ≤ b41 := by rw [gb_b41]; exact X.lt
    have sz_R__b41 : h.size ≤ b41 := by rw [gb_b41]; exact R_.1
    replace R_ := ext_trans R_ E43
    replace X := X'
    replace A_b41 : Ary Z h42 b41 .char [(.int (0 : Int32)), (.int (0 : Int32)), (.int (0 : Int32))] := A_b41
    refine s_astoreN X (pc' := 8) (L' := #[.val (.int x), .val (.int (3 : Int32)), .val (.ref b41)]) d2_7 rfl rfl rfl ?_
    refine s_iloadN X (pc' := 9) d2_8 rfl rfl ?_
    refine s_ifF X (pc' := 12) d2_9 (show (0 : Int32) < (3 : Int32) by decide) rfl ?_
    refine s_aloadN X (pc' := 13) d2_12 rfl rfl rfl ?_
    refine s_iconst X (pc' := 14) d2_13 (v := (0 : Int32)) rfl rfl ?_
    refine s_iloadN X (pc' := 15) d2_14 rfl rfl ?_
    refine s_iconst X (pc' := 16) d2_15 (v := (2 : Int32)) rfl rfl ?_
    refine s_iushr X (pc' := 17) d2_16 rfl ?_
    refine s_sipush X (pc' := 20) d2_17 (v := (255 : Int32)) (by decide) rfl ?_
    refine s_iand X (pc' := 21) d2_20 rfl ?_
    refine s_i2c X (pc' := 22) d2_21 rfl ?_
    refine s_castore X (pc' := 23) (i := 0) d2_22 A_b41 rfl (Nat.le_of_ble_eq_true rfl) g_b41 (by simp) rfl (fun T h44 X W45 A' => ?_)
    replace R_ := ext_wr R_ W45 sz_R__b41
    replace A_b41 : Ary Z h44 b41 .char [(.int (nar .char (((x.toUInt32 >>> ((2 : Int32) &&& 31).toUInt32).toInt32) &&& (255 : Int32)).toUInt32.toUInt16.toUInt32.toInt32)), (.int (0 : Int32)), (.int (0 : Int32))] := A'
    refine s_iloadN X (pc' := 24) d2_23 rfl rfl ?_
    refine s_iconst X (pc' := 25) d2_24 (v := (1 : Int32)) rfl rfl ?_
    refine s_icmpF X (pc' := 28) d2_25 (show (1 : Int32) < (3 : Int32) by decide) rfl ?_
    refine s_aloadN X (pc' := 29) d2_28 rfl rfl rfl ?_
    refine s_iconst X (pc' := 30) d2_29 (v := (1 : Int32)) rfl rfl ?_
    refine s_iloadN X (pc' := 31) d2_30 rfl rfl ?_
    refine s_bipush X (pc' := 33) d2_31 (v := (10 : Int32)) (by decide) rfl ?_
    refine s_iushr X (pc' := 34) d2_33 rfl ?_
    refine s_sipush X (pc' := 37) d2_34 (v := (255 : Int32)) (by decide) rfl ?_
    refine s_iand X (pc' := 38) d2_37 rfl ?_
    refine s_i2c X (pc' := 39) d2_38 rfl ?_
    refine s_castore X (pc' := 40) (i := 1) d2_39 A_b41 rfl (Nat.le_of_ble_eq_true rfl) g_b41 (by simp) rfl (fun T h46 X W47 A' => ?_)
    replace R_ := ext_wr R_ W47 sz_R__b41
    replace A_b41 : Ary Z h46 b41 .char [(.int (nar .char (((x.toUInt32 >>> ((2 : Int32) &&& 31).toUInt32).toInt32) &&& (255 : Int32)).toUInt32.toUInt16.toUInt32.toInt32)), (.int (nar .char (((x.toUInt32 >>> ((10 : Int32) &&& 31).toUInt32).toInt32) &&& (255 : Int32)).toUInt32.toUInt16.toUInt32.toInt32)), (.int (0 : Int32))] := A'
    refine s_iloadN X (pc' := 41) d2_40 rfl rfl ?_
    refine s_iconst X (pc' := 42) d2_41 (v := (2 : Int32)) rfl rfl ?_
    refine s_icmpF X (pc' := 45) d2_42 (show (2 : Int32) < (3 : Int32) by decide) rfl ?_
    refine s_aloadN X (pc' := 46) d2_45 rfl rfl rfl ?_
    refine s_iconst X (pc' := 47) d2_46 (v := (2 : Int32)) rfl rfl ?_
    refine s_iloadN X (pc' := 48) d2_47 rfl rfl ?_
    refine s_bipush X (pc' := 50) d2_48 (v := (18 : Int32)) (by decide) rfl ?_
    refine s_iushr X (pc' := 51) d2_50 rfl ?_
    refine s_sipush X (pc' := 54) d2_51 (v := (255 : Int32)) (by decide) rfl ?_
    refine s_iand X (pc' := 55) d2_54 rfl ?_
    refine s_i2c X (pc' := 56) d2_55 rfl ?_
    refine s_castore X (pc' := 57) (i := 2) d2_56 A_b41 rfl (Nat.le_of_ble_eq_true rfl) g_b41 (by simp) rfl (fun T h48 X W49 A' => ?_)
    replace R_ := ext_wr R_ W49 sz_R__b41
    replace A_b41 : Ary Z h48 b41 .char [(.int (nar .char (((x.toUInt32 >>> ((2 : Int32) &&& 31).toUInt32).toInt32) &&& (255 : Int32)).toUInt32.toUInt16.toUInt32.toInt32)), (.int (nar .char (((x.toUInt32 >>> ((10 : Int32) &&& 31).toUInt32).toInt32) &&& (255 : Int32)).toUInt32.toUInt16.toUInt32.toInt32)), (.int (nar .char (((x.toUInt32 >>> ((18 : Int32) &&& 31).toUInt32).toInt32) &&& (255 : Int32)).toUInt32.toUInt16.toUInt32.toInt32))] := A'
    refine s_new X (pc' := 60) (k' := 2) (n' := 7) d2_57 (hw _ (List.mem_of_getElem? (i := 11) rfl)) (hw _ (List.mem_of_getElem? (i := 12) rfl)) (hw _ (List.mem_of_getElem? (i := 13) rfl)) (by decide) (by decide) (by decide) (by decide) rfl (fun T h51 b50 gb_b50 X' E52 E_b50 D_b50 U_b50 => ?_)
    have g_b50 : Z.heap.size ≤ b50 := by rw [gb_b50]; exact X.lt
    have ne_b41_b50 : b41 ≠ b50 := Nat.ne_of_lt (by rw [gb_b50]; exact A_b41.lt)
    have sz_R__b50 : h.size ≤ b50 := by rw [gb_b50]; exact R_.1
    replace A_b41 := A_b41.ext E52
    replace R_ := ext_trans R_ E52
    replace X := X'
    have F_b50_value : Fld Z h51 b50 "java/lang/String" "value" "[B" .null := D_b50 (Or.inr (hw _ (List.mem_of_getElem? (i := 26) rfl))) (ty := (.array .byte)) (by decide)
    have F_b50_coder : Fld Z h51 b50 "java/lang/String" "coder" "B" (.int (0 : Int32)) := D_b50 (Or.inr (hw _ (List.mem_of_getElem? (i := 27) rfl))) (ty := .byte) (by decide)
    refine s_dup X (pc' := 61) d2_60 rfl rfl ?_
    refine s_aloadN X (pc' := 62) d2_61 rfl rfl rfl ?_
    refine s_special X (pc' := 65) (W := 1) (as' := [(.ref b41)]) (S := [(.ref b50)]) (k' := 3) (n' := 10) d2_62 rfl (hw _ (List.mem_of_getElem? (i := 14) rfl)) (hw _ (List.mem_of_getElem? (i := 15) rfl)) (hw _ (List.mem_of_getElem? (i := 16) rfl)) (by decide) own_pd1 rfl (newStrPay hw hEL O2 P5 X.old g_b50 (by simp) E_b50 F_b50_value F_b50_coder (cs := [chA x 2, chA x 10, chA x 18]) rfl A_b41 (n := 3) rfl (by decide) (by decide) (alS (chA_ok x 2 2 (by decide) (by decide)) (alS (chA_ok x 10 10 (by decide) (by decide)) (alS (chA_ok x 18 18 (by decide) (by decide)) al0))) (by decide) (by decide)) (Nat.le_of_ble_eq_true rfl) rfl rfl (by decide) (by decide) (by decide) (by decide) rfl (fun T h53 v_ ws_ X hgr_ q54 => ?_)
    obtain ⟨rfl, K_, S_b50, rfl⟩ := q54
    show Go p e below _ T (mkF m 65 #[.val (.int x), .val (.int (3 : Int32)), .val (.ref b41)] [(.ref b50)])
    replace E_b50 := E_b50.keep K_
    replace R_ := ext_keep R_ K_ (allS sz_R__b50 all0)
    exact s_aret X hEL (ws' := []) (t := (.object "java/lang/String")) d2_65 rfl rfl rfl rfl (by decide) (by decide) (fun x q => by simp at q) ⟨b50, rfl, R_, (by rw [show chars x = _ by simp [chars, pq]; rfl]; exact S_b50), rfl⟩
theorem d9_0 : decode prog_20_method_1_code 0 = .ok (.aload_n 0, 1) := by decide +kernel
theorem d9_1 : decode prog_20_method_1_code 1 = .ok (.invokespecial 1, 3) := by decide +kernel
theorem d9_4 : decode prog_20_method_1_code 4 = .ok (.aload_n 0, 1) := by decide +kernel
theorem d9_5 : decode prog_20_method_1_code 5 = .ok (.aload_n 1, 1) := by decide +kernel
theorem d9_6 : decode prog_20_method_1_code 6 = .ok (.putfield 7, 3) := by decide +kernel
theorem d9_9 : decode prog_20_method_1_code 9 = .ok (.aload_n 0, 1) := by decide +kernel
theorem d9_10 : decode prog_20_method_1_code 10 = .ok (.aload_n 2, 1) := by decide +kernel
theorem d9_11 : decode prog_20_method_1_code 11 = .ok (.putfield 13, 3) := by decide +kernel
theorem d9_14 : decode prog_20_method_1_code 14 = .ok (.aload_n 0, 1) := by decide +kernel
theorem d9_15 : decode prog_20_method_1_code 15 = .ok (.aload_n 3, 1) := by decide +kernel
theorem d9_16 : decode prog_20_method_1_code 16 = .ok (.putfield 16, 3) := by decide +kernel
theorem d9_19 : decode prog_20_method_1_code 19 = .ok (.return_, 1) := by decide +kernel
theorem ef_own_ini (m : MethodId) (k : Addr) (r1 : Addr) (r2 : Addr) (r3 : Addr) : entryFrame m #[(.ref k), (.ref r1), (.ref r2), (.ref r3)] 4 = mkF m 0 #[.val (.ref k), .val (.ref r1), .val (.ref r2), .val (.ref r3)] [] := by first | (simp [entryFrame, mkF, argsToLocals, Value.category]; done) | rfl
set_option maxRecDepth 65536 in
set_option maxHeartbeats 40000000 in
theorem own_ini (l : Launch) (Z : State) (a0 : Array Value) (hw : ∀ d ∈ tables_1, d.before a0 Z = true) (hEL : EW Z a0 consts_1) (k : Addr) (r1 : Addr) (r2 : Addr) (r3 : Addr) (h : Heap) (g_k : Z.heap.size ≤ k) (E_k : Exa Z h k "com/example/quadledger/quadledger/records/EnrolmentKey") (F_k_studentId : Fld Z h k "com/example/quadledger/quadledger/records/EnrolmentKey" "studentId" "Ljava/lang/String;" .null) (F_k_unitCode : Fld Z h k "com/example/quadledger/quadledger/records/EnrolmentKey" "unitCode" "Ljava/lang/String;" .null) (F_k_teachingPeriod : Fld Z h k "com/example/quadledger/quadledger/records/EnrolmentKey" "teachingPeriod" "Ljava/lang/String;" .null) :
    Con l Z consts_1 False (⟨"com/example/quadledger/quadledger/records/EnrolmentKey", "<init>", "(Ljava/lang/String;Ljava/lang/String;Ljava/lang/String;)V"⟩ : MethodName) prog_20_method_1_code 4 none ({ frames := 1, cells := 0, slots := 0, locals := 12 } : Room) [k] #[(.ref k), (.ref r1), (.ref r2), (.ref r3)] h (fun v h' ws' => v = none ∧ Keep h h' [k] ∧ Fld Z h' k "com/example/quadledger/quadledger/records/EnrolmentKey" "studentId" "Ljava/lang/String;" (.ref r1) ∧ Fld Z h' k "com/example/quadledger/quadledger/records/EnrolmentKey" "unitCode" "Ljava/lang/String;" (.ref r2) ∧ Fld Z h' k "com/example/quadledger/quadledger/records/EnrolmentKey" "teachingPeriod" "Ljava/lang/String;" (.ref r3) ∧ ws' = []) := by
  refine Con.intro own_pn2 (fun p e s m below meth c T X => ?_)
  rw [ef_own_ini m k r1 r2 r3]
  have K_ : Keep h h [k] := Keep.refl _ _
  refine s_aloadN X (pc' := 1) d9_0 rfl rfl rfl ?_
  refine s_initO X (pc' := 4) (W := 0) d9_1 (hw _ (List.mem_of_getElem? (i := 46) rfl)) (hw _ (List.mem_of_getElem? (i := 22) rfl)) (b' := object_method_1_code) rfl (hw _ (List.mem_of_getElem? (i := 23) rfl)) (Nat.le_of_ble_eq_true rfl) (by decide) (by decide) rfl rfl (fun T X => ?_)
  refine s_aloadN X (pc' := 5) d9_4 rfl rfl rfl ?_
  refine s_aloadN X (pc' := 6) d9_5 rfl rfl rfl ?_
  refine s_putf X (pc' := 9) d9_6 (hw _ (List.mem_of_getElem? (i := 47) rfl)) Via.refl F_k_studentId E_k (Or.inr ⟨(hw _ (List.mem_of_getElem? (i := 48) rfl)), rfl, rfl⟩) (hw _ (List.mem_of_getElem? (i := 5) rfl)) (ty := (.object "java/lang/String")) (by decide) rfl rfl g_k (by simp) rfl (fun T h55 X W56 => ?_)
  replace F_k_studentId := F_k_studentId.same W56
  replace F_k_unitCode := F_k_unitCode.other W56 (Or.inr (slot_ne (Or.inr (hw _ (List.mem_of_getElem? (i := 50) rfl))) (Or.inr (hw _ (List.mem_of_getElem? (i := 48) rfl))) (t := (.object "java/lang/String")) (t' := (.object "java/lang/String")) (by decide) (by decide) (by decide)))
  replace F_k_teachingPeriod := F_k_teachingPeriod.other W56 (Or.inr (slot_ne (Or.inr (hw _ (List.mem_of_getElem? (i := 52) rfl))) (Or.inr (hw _ (List.mem_of_getElem? (i := 48) rfl))) (t := (.object "java/lang/String")) (t' := (.object "java/lang/String")) (by decide) (by decide) (by decide)))
  replace E_k := E_k.wr W56
  replace K_ := K_.wr W56 (Or.inl (by simp))
  refine s_aloadN X (pc' := 10) d9_9 rfl rfl rfl ?_
  refine s_aloadN X (pc' := 11) d9_10 rfl rfl rfl ?_
  refine s_putf X (pc' := 14) d9_11 (hw _ (List.mem_of_getElem? (i := 49) rfl)) Via.refl F_k_unitCode E_k (Or.inr ⟨(hw _ (List.mem_of_getElem? (i := 50) rfl)), rfl, rfl⟩) (hw _ (List.mem_of_getElem? (i := 5) rfl)) (ty := (.object "java/lang/String")) (by decide) rfl rfl g_k (by simp) rfl (fun T h57 X W58 => ?_)
  replace F_k_studentId := F_k_studentId.other W58 (Or.inr (slot_ne (Or.inr (hw _ (List.mem_of_getElem? (i := 48) rfl))) (Or.inr (hw _ (List.mem_of_getElem? (i := 50) rfl))) (t := (.object "java/lang/String")) (t' := (.object "java/lang/String")) (by decide) (by decide) (by decide)))
  replace F_k_unitCode := F_k_unitCode.same W58
  replace F_k_teachingPeriod := F_k_teachingPeriod.other W58 (Or.inr (slot_ne (Or.inr (hw _ (List.mem_of_getElem? (i := 52) rfl))) (Or.inr (hw _ (List.mem_of_getElem? (i := 50) rfl))) (t := (.object "java/lang/String")) (t' := (.object "java/lang/String")) (by decide) (by decide) (by decide)))
  replace E_k := E_k.wr W58
  replace K_ := K_.wr W58 (Or.inl (by simp))
  refine s_aloadN X (pc' := 15) d9_14 rfl rfl rfl ?_
  refine s_aloadN X (pc' := 16) d9_15 rfl rfl rfl ?_
  refine s_putf X (pc' := 19) d9_16 (hw _ (List.mem_of_getElem? (i := 51) rfl)) Via.refl F_k_teachingPeriod E_k (Or.inr ⟨(hw _ (List.mem_of_getElem? (i := 52) rfl)), rfl, rfl⟩) (hw _ (List.mem_of_getElem? (i := 5) rfl)) (ty := (.object "java/lang/String")) (by decide) rfl rfl g_k (by simp) rfl (fun T h59 X W60 => ?_)
  replace F_k_studentId := F_k_studentId.other W60 (Or.inr (slot_ne (Or.inr (hw _ (List.mem_of_getElem? (i := 48) rfl))) (Or.inr (hw _ (List.mem_of_getElem? (i := 52) rfl))) (t := (.object "java/lang/String")) (t' := (.object "java/lang/String")) (by decide) (by decide) (by decide)))
  replace F_k_unitCode := F_k_unitCode.other W60 (Or.inr (slot_ne (Or.inr (hw _ (List.mem_of_getElem? (i := 50) rfl))) (Or.inr (hw _ (List.mem_of_getElem? (i := 52) rfl))) (t := (.object "java/lang/String")) (t' := (.object "java/lang/String")) (by decide) (by decide) (by decide)))
  replace F_k_teachingPeriod := F_k_teachingPeriod.same W60
  replace E_k := E_k.wr W60
  replace K_ := K_.wr W60 (Or.inl (by simp))
  exact s_ret X hEL (ws' := []) d9_19 (by decide) (by decide) (fun x q => by simp at q) ⟨rfl, K_, F_k_studentId, F_k_unitCode, F_k_teachingPeriod, rfl⟩
theorem d11_0 : decode prog_20_method_7_code 0 = .ok (.aload_n 1, 1) := by decide +kernel
theorem d11_1 : decode prog_20_method_7_code 1 = .ok (.instanceof 8, 3) := by decide +kernel
theorem d11_4 : decode prog_20_method_7_code 4 = .ok (.ifCond .eq 54, 3) := by decide +kernel
theorem d11_7 : decode prog_20_method_7_code 7 = .ok (.aload_n 1, 1) := by decide +kernel
theorem d11_8 : decode prog_20_method_7_code 8 = .ok (.checkcast 8, 3) := by decide +kernel
theorem d11_11 : decode prog_20_method_7_code 11 = .ok (.astore_n 2, 1) := by decide +kernel
theorem d11_12 : decode prog_20_method_7_code 12 = .ok (.aload_n 0, 1) := by decide +kernel
theorem d11_13 : decode prog_20_method_7_code 13 = .ok (.getfield 7, 3) := by decide +kernel
theorem d11_16 : decode prog_20_method_7_code 16 = .ok (.aload_n 2, 1) := by decide +kernel
theorem d11_17 : decode prog_20_method_7_code 17 = .ok (.getfield 7, 3) := by decide +kernel
theorem d11_20 : decode prog_20_method_7_code 20 = .ok (.invokevirtual 44, 3) := by decide +kernel
theorem d11_23 : decode prog_20_method_7_code 23 = .ok (.ifCond .eq 35, 3) := by decide +kernel
theorem d11_26 : decode prog_20_method_7_code 26 = .ok (.aload_n 0, 1) := by decide +kernel
theorem d11_27 : decode prog_20_method_7_code 27 = .ok (.getfield 13, 3) := by decide +kernel
theorem d11_30 : decode prog_20_method_7_code 30 = .ok (.aload_n 2, 1) := by decide +kernel
theorem d11_31 : decode prog_20_method_7_code 31 = .ok (.getfield 13, 3) := by decide +kernel
theorem d11_34 : decode prog_20_method_7_code 34 = .ok (.invokevirtual 44, 3) := by decide +kernel
theorem d11_37 : decode prog_20_method_7_code 37 = .ok (.ifCond .eq 21, 3) := by decide +kernel
theorem d11_40 : decode prog_20_method_7_code 40 = .ok (.aload_n 0, 1) := by decide +kernel
theorem d11_41 : decode prog_20_method_7_code 41 = .ok (.getfield 16, 3) := by decide +kernel
theorem d11_44 : decode prog_20_method_7_code 44 = .ok (.aload_n 2, 1) := by decide +kernel
theorem d11_45 : decode prog_20_method_7_code 45 = .ok (.getfield 16, 3) := by decide +kernel
theorem d11_48 : decode prog_20_method_7_code 48 = .ok (.invokevirtual 44, 3) := by decide +kernel
theorem d11_51 : decode prog_20_method_7_code 51 = .ok (.ifCond .eq 7, 3) := by decide +kernel
theorem d11_54 : decode prog_20_method_7_code 54 = .ok (.iconst 1, 1) := by decide +kernel
theorem d11_55 : decode prog_20_method_7_code 55 = .ok (.goto 4, 3) := by decide +kernel
theorem d11_58 : decode prog_20_method_7_code 58 = .ok (.iconst 0, 1) := by decide +kernel
theorem d11_59 : decode prog_20_method_7_code 59 = .ok (.ireturn, 1) := by decide +kernel
theorem ef_own_eq (m : MethodId) (a : Addr) (b : Addr) : entryFrame m #[(.ref a), (.ref b)] 3 = mkF m 0 #[.val (.ref a), .val (.ref b), .unset] [] := by first | (simp [entryFrame, mkF, argsToLocals, Value.category]; done) | rfl
set_option maxRecDepth 65536 in
set_option maxHeartbeats 40000000 in
theorem own_eq (l : Launch) (Z : State) (a0 : Array Value) (hw : ∀ d ∈ tables_1, d.before a0 Z = true) (hEL : EW Z a0 consts_1) (a : Addr) (b : Addr) {r1 r2 r3 t1 t2 t3 : Addr} {c1 c2 c3 d1 d2 d3 : List Int32} {G1 : Int32} (h : Heap) (E_a : Exa Z h a "com/example/quadledger/quadledger/records/EnrolmentKey") (E_b : Exa Z h b "com/example/quadledger/quadledger/records/EnrolmentKey") (F_a_studentId : Fld Z h a "com/example/quadledger/quadledger/records/EnrolmentKey" "studentId" "Ljava/lang/String;" (.ref r1)) (F_b_studentId : Fld Z h b "com/example/quadledger/quadledger/records/EnrolmentKey" "studentId" "Ljava/lang/String;" (.ref t1)) (S_r1 : Str Z h r1 c1) (S_t1 : Str Z h t1 d1) (F_a_unitCode : Fld Z h a "com/example/quadledger/quadledger/records/EnrolmentKey" "unitCode" "Ljava/lang/String;" (.ref r2)) (F_b_unitCode : Fld Z h b "com/example/quadledger/quadledger/records/EnrolmentKey" "unitCode" "Ljava/lang/String;" (.ref t2)) (S_r2 : Str Z h r2 c2) (S_t2 : Str Z h t2 d2) (F_a_teachingPeriod : Fld Z h a "com/example/quadledger/quadledger/records/EnrolmentKey" "teachingPeriod" "Ljava/lang/String;" (.ref r3)) (F_b_teachingPeriod : Fld Z h b "com/example/quadledger/quadledger/records/EnrolmentKey" "teachingPeriod" "Ljava/lang/String;" (.ref t3)) (S_r3 : Str Z h r3 c3) (S_t3 : Str Z h t3 d3) (O2 : Sta Z Z.heap "java/lang/String" "COMPACT_STRINGS" "Z" (.int G1)) (P5 : ¬ (G1 = (0 : Int32))) :
    Con l Z consts_1 False (⟨"com/example/quadledger/quadledger/records/EnrolmentKey", "equals", "(Ljava/lang/Object;)Z"⟩ : MethodName) prog_20_method_7_code 3 (some .boolean) ({ frames := 2, cells := 0, slots := 0, locals := 28 } : Room) [] #[(.ref a), (.ref b)] h (fun v h' ws' => v = some (.int (if c1 = d1 ∧ c2 = d2 ∧ c3 = d3 then 1 else 0)) ∧ h' = h ∧ ws' = []) := by
  refine Con.intro own_pn2 (fun p e s m below meth c T X => ?_)
  rw [ef_own_eq m a b]
  have E_r1 := S_r1.exa
  have E_r2 := S_r2.exa
  have E_r3 := S_r3.exa
  refine s_aloadN X (pc' := 1) d11_0 rfl rfl rfl ?_
  refine s_instY X (pc' := 4) d11_1 (hw _ (List.mem_of_getElem? (i := 61) rfl)) (Ins.self E_b) rfl (fun T X => ?_)
  refine s_ifF X (pc' := 7) d11_4 (show ¬ (1 : Int32) = (0 : Int32) by decide) rfl ?_
  refine s_aloadN X (pc' := 8) d11_7 rfl rfl rfl ?_
  refine s_castY X (pc' := 11) d11_8 (hw _ (List.mem_of_getElem? (i := 61) rfl)) (Ins.self E_b) rfl (fun T X => ?_)
  refine s_astoreN X (pc' := 12) (L' := #[.val (.ref a), .val (.ref b), .val (.ref b)]) d11_11 rfl rfl rfl ?_
  refine s_aloadN X (pc' := 13) d11_12 rfl rfl rfl ?_
  refine s_getf X (pc' := 16) d11_13 (hw _ (List.mem_of_getElem? (i := 47) rfl)) Via.refl F_a_studentId rfl (fun T X => ?_)
  refine s_aloadN X (pc' := 17) d11_16 rfl rfl rfl ?_
  refine s_getf X (pc' := 20) d11_17 (hw _ (List.mem_of_getElem? (i := 47) rfl)) Via.refl F_b_studentId rfl (fun T X => ?_)
  refine s_virtual X (pc' := 23) (W := 0) (as' := [(.ref t1)]) (S := []) (k' := 0) (n' := 0) d11_20 (hw _ (List.mem_of_getElem? (i := 63) rfl)) (hw _ (List.mem_of_getElem? (i := 64) rfl)) (hw _ (List.mem_of_getElem? (i := 66) rfl)) (hw _ (List.mem_of_getElem? (i := 65) rfl)) (nface (hw _ (List.mem_of_getElem? (i := 66) rfl))) (by decide) own_pd2 rfl E_r1 (eqPay hw hEL O2 P5 X.old S_r1 S_t1 (by decide) (by decide)) (Nat.le_of_ble_eq_true rfl) rfl rfl (by decide) (by decide) (by decide) (by decide) rfl (fun T h61 v_ ws_ X hgr_ q62 => ?_)
  obtain ⟨rfl, rfl, rfl⟩ := q62
  show Go p e below _ T (mkF m 23 #[.val (.ref a), .val (.ref b), .val (.ref b)] [(.int (if c1 = d1 then 1 else 0))])
  replace X := X.sub (ws' := []) (by simp)
  refine s_if X (pc' := 58) (pcF := 26) d11_23 (by decide) (by decide) rfl (fun (q1 : (if c1 = d1 then 1 else 0) = (0 : Int32)) => ?_) (fun (q1 : ¬ (if c1 = d1 then 1 else 0) = (0 : Int32)) => ?_)
  · have n1 : ¬ c1 = d1 := fun z => by rw [if_pos z] at q1; exact absurd q1 (by decide)
    refine s_iconst X (pc' := 59) d11_58 (v := (0 : Int32)) rfl rfl ?_
    exact s_iretN X hEL (ws' := []) (t := .boolean) d11_59 rfl (by simp) (by decide) (by decide) (fun x q => by simp at q) ⟨by rw [if_neg (fun z => n1 z.1)]; rfl, rfl, rfl⟩
  · have y1 : c1 = d1 := Classical.byContradiction fun z => by rw [if_neg z] at q1; exact q1 rfl
    refine s_aloadN X (pc' := 27) d11_26 rfl rfl rfl ?_
    refine s_getf X (pc' := 30) d11_27 (hw _ (List.mem_of_getElem? (i := 49) rfl)) Via.refl F_a_unitCode rfl (fun T X => ?_)
    refine s_aloadN X (pc' := 31) d11_30 rfl rfl rfl ?_
    refine s_getf X (pc' := 34) d11_31 (hw _ (List.mem_of_getElem? (i := 49) rfl)) Via.refl F_b_unitCode rfl (fun T X => ?_)
    refine s_virtual X (pc' := 37) (W := 0) (as' := [(.ref t2)]) (S := []) (k' := 0) (n' := 0) d11_34 (hw _ (List.mem_of_getElem? (i := 63) rfl)) (hw _ (List.mem_of_getElem? (i := 64) rfl)) (hw _ (List.mem_of_getElem? (i := 66) rfl)) (hw _ (List.mem_of_getElem? (i := 65) rfl)) (nface (hw _ (List.mem_of_getElem? (i := 66) rfl))) (by decide) own_pd2 rfl E_r2 (eqPay hw hEL O2 P5 X.old S_r2 S_t2 (by decide) (by decide)) (Nat.le_of_ble_eq_true rfl) rfl rfl (by decide) (by decide) (by decide) (by decide) rfl (fun T h63 v_ ws_ X hgr_ q64 => ?_)
    obtain ⟨rfl, rfl, rfl⟩ := q64
    show Go p e below _ T (mkF m 37 #[.val (.ref a), .val (.ref b), .val (.ref b)] [(.int (if c2 = d2 then 1 else 0))])
    replace X := X.sub (ws' := []) (by simp)
    refine s_if X (pc' := 58) (pcF := 40) d11_37 (by decide) (by decide) rfl (fun (q2 : (if c2 = d2 then 1 else 0) = (0 : Int32)) => ?_) (fun (q2 : ¬ (if c2 = d2 then 1 else 0) = (0 : Int32)) => ?_)
    · have n2 : ¬ c2 = d2 := fun z => by rw [if_pos z] at q2; exact absurd q2 (by decide)
      refine s_iconst X (pc' := 59) d11_58 (v := (0 : Int32)) rfl rfl ?_
      exact s_iretN X hEL (ws' := []) (t := .boolean) d11_59 rfl (by simp) (by decide) (by decide) (fun x q => by simp at q) ⟨by rw [if_neg (fun z => n2 z.2.1)]; rfl, rfl, rfl⟩
    · have y2 : c2 = d2 := Classical.byContradiction fun z => by rw [if_neg z] at q2; exact q2 rfl
      refine s_aloadN X (pc' := 41) d11_40 rfl rfl rfl ?_
      refine s_getf X (pc' := 44) d11_41 (hw _ (List.mem_of_getElem? (i := 51) rfl)) Via.refl F_a_teachingPeriod rfl (fun T X => ?_)
      refine s_aloadN X (pc' := 45) d11_44 rfl rfl rfl ?_
      refine s_getf X (pc' := 48) d11_45 (hw _ (List.mem_of_getElem? (i := 51) rfl)) Via.refl F_b_teachingPeriod rfl (fun T X => ?_)
      refine s_virtual X (pc' := 51) (W := 0) (as' := [(.ref t3)]) (S := []) (k' := 0) (n' := 0) d11_48 (hw _ (List.mem_of_getElem? (i := 63) rfl)) (hw _ (List.mem_of_getElem? (i := 64) rfl)) (hw _ (List.mem_of_getElem? (i := 66) rfl)) (hw _ (List.mem_of_getElem? (i := 65) rfl)) (nface (hw _ (List.mem_of_getElem? (i := 66) rfl))) (by decide) own_pd2 rfl E_r3 (eqPay hw hEL O2 P5 X.old S_r3 S_t3 (by decide) (by decide)) (Nat.le_of_ble_eq_true rfl) rfl rfl (by decide) (by decide) (by decide) (by decide) rfl (fun T h65 v_ ws_ X hgr_ q66 => ?_)
      obtain ⟨rfl, rfl, rfl⟩ := q66
      show Go p e below _ T (mkF m 51 #[.val (.ref a), .val (.ref b), .val (.ref b)] [(.int (if c3 = d3 then 1 else 0))])
      replace X := X.sub (ws' := []) (by simp)
      refine s_if X (pc' := 58) (pcF := 54) d11_51 (by decide) (by decide) rfl (fun (q3 : (if c3 = d3 then 1 else 0) = (0 : Int32)) => ?_) (fun (q3 : ¬ (if c3 = d3 then 1 else 0) = (0 : Int32)) => ?_)
      · have n3 : ¬ c3 = d3 := fun z => by rw [if_pos z] at q3; exact absurd q3 (by decide)
        refine s_iconst X (pc' := 59) d11_58 (v := (0 : Int32)) rfl rfl ?_
        exact s_iretN X hEL (ws' := []) (t := .boolean) d11_59 rfl (by simp) (by decide) (by decide) (fun x q => by simp at q) ⟨by rw [if_neg (fun z => n3 z.2.2)]; rfl, rfl, rfl⟩
      · have y3 : c3 = d3 := Classical.byContradiction fun z => by rw [if_neg z] at q3; exact q3 rfl
        refine s_iconst X (pc' := 55) d11_54 (v := (1 : Int32)) rfl rfl ?_
        refine s_goto X (pc' := 59) d11_55 (by decide) (by decide) ?_
        exact s_iretN X hEL (ws' := []) (t := .boolean) d11_59 rfl (by simp) (by decide) (by decide) (fun x q => by simp at q) ⟨by rw [if_pos ⟨y1, y2, y3⟩]; rfl, rfl, rfl⟩
theorem ef_own_eqn (m : MethodId) (a : Addr) : entryFrame m #[(.ref a), .null] 3 = mkF m 0 #[.val (.ref a), .val .null, .unset] [] := by first | (simp [entryFrame, mkF, argsToLocals, Value.category]; done) | rfl
set_option maxRecDepth 65536 in
set_option maxHeartbeats 40000000 in
theorem own_eqn (l : Launch) (Z : State) (a0 : Array Value) (hw : ∀ d ∈ tables_1, d.before a0 Z = true) (hEL : EW Z a0 consts_1) (a : Addr) (h : Heap) :
    Con l Z consts_1 False (⟨"com/example/quadledger/quadledger/records/EnrolmentKey", "equals", "(Ljava/lang/Object;)Z"⟩ : MethodName) prog_20_method_7_code 3 (some .boolean) ({ frames := 0, cells := 0, slots := 0, locals := 0 } : Room) [] #[(.ref a), .null] h (fun v h' ws' => v = some (.int (0)) ∧ h' = h ∧ ws' = []) := by
  refine Con.intro own_pn2 (fun p e s m below meth c T X => ?_)
  rw [ef_own_eqn m a]
  refine s_aloadN X (pc' := 1) d11_0 rfl rfl rfl ?_
  refine s_instNull X (pc' := 4) d11_1 rfl ?_
  refine s_ifT X (pc' := 58) d11_4 (show (0 : Int32) = (0 : Int32) by decide) (by decide) (by decide) ?_
  refine s_iconst X (pc' := 59) d11_58 (v := (0 : Int32)) rfl rfl ?_
  exact s_iretN X hEL (ws' := []) (t := .boolean) d11_59 rfl (by simp) (by decide) (by decide) (fun x q => by simp at q) ⟨rfl, rfl, rfl⟩
set_option maxRecDepth 65536 in
set_option maxHeartbeats 40000000 in
theorem own_eqs (l : Launch) (Z : State) (a0 : Array Value) (hw : ∀ d ∈ tables_1, d.before a0 Z = true) (hEL : EW Z a0 consts_1) (a : Addr) (b : Addr) {cs : List Int32} (h : Heap) (S_b : Str Z h b cs) :
    Con l Z consts_1 False (⟨"com/example/quadledger/quadledger/records/EnrolmentKey", "equals", "(Ljava/lang/Object;)Z"⟩ : MethodName) prog_20_method_7_code 3 (some .boolean) ({ frames := 0, cells := 0, slots := 0, locals := 0 } : Room) [] #[(.ref a), (.ref b)] h (fun v h' ws' => v = some (.int (0)) ∧ h' = h ∧ ws' = []) := by
  refine Con.intro own_pn2 (fun p e s m below meth c T X => ?_)
  rw [ef_own_eq m a b]
  have E_b := S_b.exa
  refine s_aloadN X (pc' := 1) d11_0 rfl rfl rfl ?_
  refine s_instN X (pc' := 4) d11_1 (hw _ (List.mem_of_getElem? (i := 61) rfl)) E_b (insNo E_b (notSub (hw _ (List.mem_of_getElem? (i := 74) rfl)) (hw _ (List.mem_of_getElem? (i := 75) rfl)) (hw _ (List.mem_of_getElem? (i := 5) rfl)) (by decide) (by decide))) rfl (fun T X => ?_)
  refine s_ifT X (pc' := 58) d11_4 (show (0 : Int32) = (0 : Int32) by decide) (by decide) (by decide) ?_
  refine s_iconst X (pc' := 59) d11_58 (v := (0 : Int32)) rfl rfl ?_
  exact s_iretN X hEL (ws' := []) (t := .boolean) d11_59 rfl (by simp) (by decide) (by decide) (fun x q => by simp at q) ⟨rfl, rfl, rfl⟩
theorem ef_own_law (m : MethodId) (a1 : Int32) (a2 : Int32) (a3 : Int32) (b1 : Int32) (b2 : Int32) (b3 : Int32) : entryFrame m #[(.int a1), (.int a2), (.int a3), (.int b1), (.int b2), (.int b3)] maxLocals = mkF m 0 #[.val (.int a1), .val (.int a2), .val (.int a3), .val (.int b1), .val (.int b2), .val (.int b3), .unset, .unset, .unset, .unset, .unset, .unset, .unset] [] := by first | (simp [entryFrame, mkF, argsToLocals, Value.category, maxLocals]; done) | rfl
set_option maxRecDepth 65536 in
set_option maxHeartbeats 40000000 in
theorem own_law (l : Launch) (Z : State) (a0 : Array Value) (hw : ∀ d ∈ tables_1, d.before a0 Z = true) (hEL : EW Z a0 consts_1) (a1 : Int32) (a2 : Int32) (a3 : Int32) (b1 : Int32) (b2 : Int32) (b3 : Int32) (h : Heap) {G1 : Int32} (O2 : Sta Z Z.heap "java/lang/String" "COMPACT_STRINGS" "Z" (.int G1)) (P5 : ¬ (G1 = (0 : Int32))) :
    Con l Z consts_1 False x code maxLocals ret room_1 [] #[(.int a1), (.int a2), (.int a3), (.int b1), (.int b2), (.int b3)] h (fun v h' ws' => v = some (.int 1)) := by
  refine Con.intro own_pn0 (fun p e s m below meth c T X => ?_)
  rw [ef_own_law m a1 a2 a3 b1 b2 b3]
  refine s_iloadN X (pc' := 1) at_0 rfl rfl ?_
  refine s_iloadN X (pc' := 2) at_1 rfl rfl ?_
  refine s_static X (pc' := 5) (W := 0) (as' := [(.int a1), (.int b1)]) (S := []) (k' := 0) (n' := 0) at_2 (hw _ (List.mem_of_getElem? (i := 0) rfl)) (hw _ (List.mem_of_getElem? (i := 1) rfl)) (hw _ (List.mem_of_getElem? (i := 2) rfl)) (hw _ (List.mem_of_getElem? (i := 3) rfl)) (by decide) own_pd3 rfl ((own_part l Z a0 hw hEL a1 b1 _).payS (by simp) (hw _ (List.mem_of_getElem? (i := 3) rfl)) (hw _ (List.mem_of_getElem? (i := 2) rfl)) hEL (by decide) (by decide)) (Nat.le_of_ble_eq_true rfl) rfl rfl (by decide) (by decide) (by decide) (by decide) rfl (fun T h67 v_ ws_ X hgr_ q68 => ?_)
  obtain ⟨rfl, rfl, rfl⟩ := q68
  show Go p e below _ T (mkF m 5 #[.val (.int a1), .val (.int a2), .val (.int a3), .val (.int b1), .val (.int b2), .val (.int b3), .unset, .unset, .unset, .unset, .unset, .unset, .unset] [(.int (partV a1 b1))])
  replace X := X.sub (ws' := []) (by simp)
  obtain ⟨c1, gc1⟩ : ∃ z, z = partV a1 b1 := ⟨_, rfl⟩
  rw [← gc1]
  refine s_istore X (pc' := 7) (L' := #[.val (.int a1), .val (.int a2), .val (.int a3), .val (.int b1), .val (.int b2), .val (.int b3), .val (.int c1), .unset, .unset, .unset, .unset, .unset, .unset]) at_5 rfl rfl ?_
  refine s_iloadN X (pc' := 8) at_7 rfl rfl ?_
  refine s_iload X (pc' := 10) at_8 rfl rfl ?_
  refine s_static X (pc' := 13) (W := 0) (as' := [(.int a2), (.int b2)]) (S := []) (k' := 0) (n' := 0) at_10 (hw _ (List.mem_of_getElem? (i := 0) rfl)) (hw _ (List.mem_of_getElem? (i := 1) rfl)) (hw _ (List.mem_of_getElem? (i := 2) rfl)) (hw _ (List.mem_of_getElem? (i := 3) rfl)) (by decide) own_pd3 rfl ((own_part l Z a0 hw hEL a2 b2 _).payS (by simp) (hw _ (List.mem_of_getElem? (i := 3) rfl)) (hw _ (List.mem_of_getElem? (i := 2) rfl)) hEL (by decide) (by decide)) (Nat.le_of_ble_eq_true rfl) rfl rfl (by decide) (by decide) (by decide) (by decide) rfl (fun T h69 v_ ws_ X hgr_ q70 => ?_)
  obtain ⟨rfl, rfl, rfl⟩ := q70
  show Go p e below _ T (mkF m 13 #[.val (.int a1), .val (.int a2), .val (.int a3), .val (.int b1), .val (.int b2), .val (.int b3), .val (.int c1), .unset, .unset, .unset, .unset, .unset, .unset] [(.int (partV a2 b2))])
  replace X := X.sub (ws' := []) (by simp)
  obtain ⟨c2, gc2⟩ : ∃ z, z = partV a2 b2 := ⟨_, rfl⟩
  rw [← gc2]
  refine s_istore X (pc' := 15) (L' := #[.val (.int a1), .val (.int a2), .val (.int a3), .val (.int b1), .val (.int b2), .val (.int b3), .val (.int c1), .val (.int c2), .unset, .unset, .unset, .unset, .unset]) at_13 rfl rfl ?_
  refine s_iloadN X (pc' := 16) at_15 rfl rfl ?_
  refine s_iload X (pc' := 18) at_16 rfl rfl ?_
  refine s_static X (pc' := 21) (W := 0) (as' := [(.int a3), (.int b3)]) (S := []) (k' := 0) (n' := 0) at_18 (hw _ (List.mem_of_getElem? (i := 0) rfl)) (hw _ (List.mem_of_getElem? (i := 1) rfl)) (hw _ (List.mem_of_getElem? (i := 2) rfl)) (hw _ (List.mem_of_getElem? (i := 3) rfl)) (by decide) own_pd3 rfl ((own_part l Z a0 hw hEL a3 b3 _).payS (by simp) (hw _ (List.mem_of_getElem? (i := 3) rfl)) (hw _ (List.mem_of_getElem? (i := 2) rfl)) hEL (by decide) (by decide)) (Nat.le_of_ble_eq_true rfl) rfl rfl (by decide) (by decide) (by decide) (by decide) rfl (fun T h71 v_ ws_ X hgr_ q72 => ?_)
  obtain ⟨rfl, rfl, rfl⟩ := q72
  show Go p e below _ T (mkF m 21 #[.val (.int a1), .val (.int a2), .val (.int a3), .val (.int b1), .val (.int b2), .val (.int b3), .val (.int c1), .val (.int c2), .unset, .unset, .unset, .unset, .unset] [(.int (partV a3 b3))])
  replace X := X.sub (ws' := []) (by simp)
  obtain ⟨c3, gc3⟩ : ∃ z, z = partV a3 b3 := ⟨_, rfl⟩
  rw [← gc3]
  refine s_istore X (pc' := 23) (L' := #[.val (.int a1), .val (.int a2), .val (.int a3), .val (.int b1), .val (.int b2), .val (.int b3), .val (.int c1), .val (.int c2), .val (.int c3), .unset, .unset, .unset, .unset]) at_21 rfl rfl ?_
  refine s_new X (pc' := 26) (k' := 1) (n' := 3) at_23 (hw _ (List.mem_of_getElem? (i := 4) rfl)) (hw _ (List.mem_of_getElem? (i := 5) rfl)) (hw _ (List.mem_of_getElem? (i := 6) rfl)) (by decide) (by decide) (by decide) (by decide) rfl (fun T h74 b73 gb_b73 X' E75 E_b73 D_b73 U_b73 => ?_)
  have g_b73 : Z.heap.size ≤ b73 := by rw [gb_b73]; exact X.lt
  replace X := X'
  have F_b73_studentId : Fld Z h74 b73 "com/example/quadledger/quadledger/records/EnrolmentKey" "studentId" "Ljava/lang/String;" .null := D_b73 (Or.inr (hw _ (List.mem_of_getElem? (i := 48) rfl))) (ty := (.object "java/lang/String")) (by decide)
  have F_b73_unitCode : Fld Z h74 b73 "com/example/quadledger/quadledger/records/EnrolmentKey" "unitCode" "Ljava/lang/String;" .null := D_b73 (Or.inr (hw _ (List.mem_of_getElem? (i := 50) rfl))) (ty := (.object "java/lang/String")) (by decide)
  have F_b73_teachingPeriod : Fld Z h74 b73 "com/example/quadledger/quadledger/records/EnrolmentKey" "teachingPeriod" "Ljava/lang/String;" .null := D_b73 (Or.inr (hw _ (List.mem_of_getElem? (i := 52) rfl))) (ty := (.object "java/lang/String")) (by decide)
  refine s_dup X (pc' := 27) at_26 rfl rfl ?_
  refine s_iloadN X (pc' := 28) at_27 rfl rfl ?_
  refine s_static X (pc' := 31) (W := 2) (as' := [(.int a1)]) (S := [(.ref b73), (.ref b73)]) (k' := 7) (n' := 15) at_28 (hw _ (List.mem_of_getElem? (i := 7) rfl)) (hw _ (List.mem_of_getElem? (i := 8) rfl)) (hw _ (List.mem_of_getElem? (i := 2) rfl)) (hw _ (List.mem_of_getElem? (i := 9) rfl)) (by decide) own_pd4 rfl ((own_mk l Z a0 hw hEL a1 _ O2 P5).payS (by simp) (hw _ (List.mem_of_getElem? (i := 9) rfl)) (hw _ (List.mem_of_getElem? (i := 2) rfl)) hEL (by decide) (by decide)) (Nat.le_of_ble_eq_true rfl) rfl rfl (by decide) (by decide) (by decide) (by decide) rfl (fun T h76 v_ ws_ X hgr_ q77 => ?_)
  obtain ⟨r1, rfl, E_, S_r1, rfl⟩ := q77
  show Go p e below _ T (mkF m 31 #[.val (.int a1), .val (.int a2), .val (.int a3), .val (.int b1), .val (.int b2), .val (.int b3), .val (.int c1), .val (.int c2), .val (.int c3), .unset, .unset, .unset, .unset] [(.ref r1), (.ref b73), (.ref b73)])
  replace X := X.sub (ws' := [b73]) (by simp)
  replace E_b73 := E_b73.ext E_
  replace F_b73_studentId := F_b73_studentId.ext E_
  replace F_b73_unitCode := F_b73_unitCode.ext E_
  replace F_b73_teachingPeriod := F_b73_teachingPeriod.ext E_
  refine s_iloadN X (pc' := 32) at_31 rfl rfl ?_
  refine s_static X (pc' := 35) (W := 3) (as' := [(.int a2)]) (S := [(.ref r1), (.ref b73), (.ref b73)]) (k' := 13) (n' := 27) at_32 (hw _ (List.mem_of_getElem? (i := 7) rfl)) (hw _ (List.mem_of_getElem? (i := 8) rfl)) (hw _ (List.mem_of_getElem? (i := 2) rfl)) (hw _ (List.mem_of_getElem? (i := 9) rfl)) (by decide) own_pd4 rfl ((own_mk l Z a0 hw hEL a2 _ O2 P5).payS (by simp) (hw _ (List.mem_of_getElem? (i := 9) rfl)) (hw _ (List.mem_of_getElem? (i := 2) rfl)) hEL (by decide) (by decide)) (Nat.le_of_ble_eq_true rfl) rfl rfl (by decide) (by decide) (by decide) (by decide) rfl (fun T h78 v_ ws_ X hgr_ q79 => ?_)
  obtain ⟨r2, rfl, E_, S_r2, rfl⟩ := q79
  show Go p e below _ T (mkF m 35 #[.val (.int a1), .val (.int a2), .val (.int a3), .val (.int b1), .val (.int b2), .val (.int b3), .val (.int c1), .val (.int c2), .val (.int c3), .unset, .unset, .unset, .unset] [(.ref r2), (.ref r1), (.ref b73), (.ref b73)])
  replace X := X.sub (ws' := [b73]) (by simp)
  replace E_b73 := E_b73.ext E_
  replace F_b73_studentId := F_b73_studentId.ext E_
  replace F_b73_unitCode := F_b73_unitCode.ext E_
  replace F_b73_teachingPeriod := F_b73_teachingPeriod.ext E_
  replace S_r1 := S_r1.ext E_
  refine s_iloadN X (pc' := 36) at_35 rfl rfl ?_
  refine s_static X (pc' := 39) (W := 4) (as' := [(.int a3)]) (S := [(.ref r2), (.ref r1), (.ref b73), (.ref b73)]) (k' := 19) (n' := 39) at_36 (hw _ (List.mem_of_getElem? (i := 7) rfl)) (hw _ (List.mem_of_getElem? (i := 8) rfl)) (hw _ (List.mem_of_getElem? (i := 2) rfl)) (hw _ (List.mem_of_getElem? (i := 9) rfl)) (by decide) own_pd4 rfl ((own_mk l Z a0 hw hEL a3 _ O2 P5).payS (by simp) (hw _ (List.mem_of_getElem? (i := 9) rfl)) (hw _ (List.mem_of_getElem? (i := 2) rfl)) hEL (by decide) (by decide)) (Nat.le_of_ble_eq_true rfl) rfl rfl (by decide) (by decide) (by decide) (by decide) rfl (fun T h80 v_ ws_ X hgr_ q81 => ?_)
  obtain ⟨r3, rfl, E_, S_r3, rfl⟩ := q81
  show Go p e below _ T (mkF m 39 #[.val (.int a1), .val (.int a2), .val (.int a3), .val (.int b1), .val (.int b2), .val (.int b3), .val (.int c1), .val (.int c2), .val (.int c3), .unset, .unset, .unset, .unset] [(.ref r3), (.ref r2), (.ref r1), (.ref b73), (.ref b73)])
  replace X := X.sub (ws' := [b73]) (by simp)
  replace E_b73 := E_b73.ext E_
  replace F_b73_studentId := F_b73_studentId.ext E_
  replace F_b73_unitCode := F_b73_unitCode.ext E_
  replace F_b73_teachingPeriod := F_b73_teachingPeriod.ext E_
  replace S_r1 := S_r1.ext E_
  replace S_r2 := S_r2.ext E_
  replace X := X.sub (ws' := [b73]) (by simp)
  refine s_special X (pc' := 42) (W := 1) (as' := [(.ref r1), (.ref r2), (.ref r3)]) (S := [(.ref b73)]) (k' := 19) (n' := 39) at_39 rfl (hw _ (List.mem_of_getElem? (i := 43) rfl)) (hw _ (List.mem_of_getElem? (i := 44) rfl)) (hw _ (List.mem_of_getElem? (i := 45) rfl)) (by decide) own_pd5 rfl ((own_ini l Z a0 hw hEL b73 r1 r2 r3 _ g_b73 E_b73 F_b73_studentId F_b73_unitCode F_b73_teachingPeriod).payS (by simp) (hw _ (List.mem_of_getElem? (i := 45) rfl)) (hw _ (List.mem_of_getElem? (i := 6) rfl)) hEL (by decide) (by decide)) (Nat.le_of_ble_eq_true rfl) rfl rfl (by decide) (by decide) (by decide) (by decide) rfl (fun T h82 v_ ws_ X hgr_ q83 => ?_)
  obtain ⟨rfl, K_, F'_b73_studentId, F'_b73_unitCode, F'_b73_teachingPeriod, rfl⟩ := q83
  show Go p e below _ T (mkF m 42 #[.val (.int a1), .val (.int a2), .val (.int a3), .val (.int b1), .val (.int b2), .val (.int b3), .val (.int c1), .val (.int c2), .val (.int c3), .unset, .unset, .unset, .unset] [(.ref b73)])
  replace X := X.sub (ws' := []) (by simp)
  replace S_r1 := S_r1.keep K_ E_b73 (by decide) (hw _ (List.mem_of_getElem? (i := 5) rfl))
  replace S_r2 := S_r2.keep K_ E_b73 (by decide) (hw _ (List.mem_of_getElem? (i := 5) rfl))
  replace S_r3 := S_r3.keep K_ E_b73 (by decide) (hw _ (List.mem_of_getElem? (i := 5) rfl))
  replace E_b73 := E_b73.keep K_
  have F_b73_studentId := F'_b73_studentId
  have F_b73_unitCode := F'_b73_unitCode
  have F_b73_teachingPeriod := F'_b73_teachingPeriod
  refine s_astore X (pc' := 44) (L' := #[.val (.int a1), .val (.int a2), .val (.int a3), .val (.int b1), .val (.int b2), .val (.int b3), .val (.int c1), .val (.int c2), .val (.int c3), .val (.ref b73), .unset, .unset, .unset]) at_42 rfl rfl rfl ?_
  refine s_new X (pc' := 47) (k' := 20) (n' := 42) at_44 (hw _ (List.mem_of_getElem? (i := 4) rfl)) (hw _ (List.mem_of_getElem? (i := 5) rfl)) (hw _ (List.mem_of_getElem? (i := 6) rfl)) (by decide) (by decide) (by decide) (by decide) rfl (fun T h85 b84 gb_b84 X' E86 E_b84 D_b84 U_b84 => ?_)
  have g_b84 : Z.heap.size ≤ b84 := by rw [gb_b84]; exact X.lt
  have ne_b73_b84 : b73 ≠ b84 := Nat.ne_of_lt (by rw [gb_b84]; exact E_b73.lt)
  have ne_r1_b84 : r1 ≠ b84 := Nat.ne_of_lt (by rw [gb_b84]; exact S_r1.lt)
  have ne_r2_b84 : r2 ≠ b84 := Nat.ne_of_lt (by rw [gb_b84]; exact S_r2.lt)
  have ne_r3_b84 : r3 ≠ b84 := Nat.ne_of_lt (by rw [gb_b84]; exact S_r3.lt)
  replace E_b73 := E_b73.ext E86
  replace F_b73_studentId := F_b73_studentId.ext E86
  replace F_b73_unitCode := F_b73_unitCode.ext E86
  replace F_b73_teachingPeriod := F_b73_teachingPeriod.ext E86
  replace S_r1 := S_r1.ext E86
  replace S_r2 := S_r2.ext E86
  replace S_r3 := S_r3.ext E86
  replace X := X'
  have F_b84_studentId : Fld Z h85 b84 "com/example/quadledger/quadledger/records/EnrolmentKey" "studentId" "Ljava/lang/String;" .null := D_b84 (Or.inr (hw _ (List.mem_of_getElem? (i := 48) rfl))) (ty := (.object "java/lang/String")) (by decide)
  have F_b84_unitCode : Fld Z h85 b84 "com/example/quadledger/quadledger/records/EnrolmentKey" "unitCode" "Ljava/lang/String;" .null := D_b84 (Or.inr (hw _ (List.mem_of_getElem? (i := 50) rfl))) (ty := (.object "java/lang/String")) (by decide)
  have F_b84_teachingPeriod : Fld Z h85 b84 "com/example/quadledger/quadledger/records/EnrolmentKey" "teachingPeriod" "Ljava/lang/String;" .null := D_b84 (Or.inr (hw _ (List.mem_of_getElem? (i := 52) rfl))) (ty := (.object "java/lang/String")) (by decide)
  refine s_dup X (pc' := 48) at_47 rfl rfl ?_
  refine s_iload X (pc' := 50) at_48 rfl rfl ?_
  refine s_static X (pc' := 53) (W := 2) (as' := [(.int c1)]) (S := [(.ref b84), (.ref b84)]) (k' := 26) (n' := 54) at_50 (hw _ (List.mem_of_getElem? (i := 7) rfl)) (hw _ (List.mem_of_getElem? (i := 8) rfl)) (hw _ (List.mem_of_getElem? (i := 2) rfl)) (hw _ (List.mem_of_getElem? (i := 9) rfl)) (by decide) own_pd4 rfl ((own_mk l Z a0 hw hEL c1 _ O2 P5).payS (by simp) (hw _ (List.mem_of_getElem? (i := 9) rfl)) (hw _ (List.mem_of_getElem? (i := 2) rfl)) hEL (by decide) (by decide)) (Nat.le_of_ble_eq_true rfl) rfl rfl (by decide) (by decide) (by decide) (by decide) rfl (fun T h87 v_ ws_ X hgr_ q88 => ?_)
  obtain ⟨r4, rfl, E_, S_r4, rfl⟩ := q88
  show Go p e below _ T (mkF m 53 #[.val (.int a1), .val (.int a2), .val (.int a3), .val (.int b1), .val (.int b2), .val (.int b3), .val (.int c1), .val (.int c2), .val (.int c3), .val (.ref b73), .unset, .unset, .unset] [(.ref r4), (.ref b84), (.ref b84)])
  replace X := X.sub (ws' := [b84]) (by simp)
  replace E_b73 := E_b73.ext E_
  replace E_b84 := E_b84.ext E_
  replace F_b73_studentId := F_b73_studentId.ext E_
  replace F_b73_unitCode := F_b73_unitCode.ext E_
  replace F_b73_teachingPeriod := F_b73_teachingPeriod.ext E_
  replace F_b84_studentId := F_b84_studentId.ext E_
  replace F_b84_unitCode := F_b84_unitCode.ext E_
  replace F_b84_teachingPeriod := F_b84_teachingPeriod.ext E_
  replace S_r1 := S_r1.ext E_
  replace S_r2 := S_r2.ext E_
  replace S_r3 := S_r3.ext E_
  refine s_iload X (pc' := 55) at_53 rfl rfl ?_
  refine s_static X (pc' := 58) (W := 3) (as' := [(.int c2)]) (S := [(.ref r4), (.ref b84), (.ref b84)]) (k' := 32) (n' := 66) at_55 (hw _ (List.mem_of_getElem? (i := 7) rfl)) (hw _ (List.mem_of_getElem? (i := 8) rfl)) (hw _ (List.mem_of_getElem? (i := 2) rfl)) (hw _ (List.mem_of_getElem? (i := 9) rfl)) (by decide) own_pd4 rfl ((own_mk l Z a0 hw hEL c2 _ O2 P5).payS (by simp) (hw _ (List.mem_of_getElem? (i := 9) rfl)) (hw _ (List.mem_of_getElem? (i := 2) rfl)) hEL (by decide) (by decide)) (Nat.le_of_ble_eq_true rfl) rfl rfl (by decide) (by decide) (by decide) (by decide) rfl (fun T h89 v_ ws_ X hgr_ q90 => ?_)
  obtain ⟨r5, rfl, E_, S_r5, rfl⟩ := q90
  show Go p e below _ T (mkF m 58 #[.val (.int a1), .val (.int a2), .val (.int a3), .val (.int b1), .val (.int b2), .val (.int b3), .val (.int c1), .val (.int c2), .val (.int c3), .val (.ref b73), .unset, .unset, .unset] [(.ref r5), (.ref r4), (.ref b84), (.ref b84)])
  replace X := X.sub (ws' := [b84]) (by simp)
  replace E_b73 := E_b73.ext E_
  replace E_b84 := E_b84.ext E_
  replace F_b73_studentId := F_b73_studentId.ext E_
  replace F_b73_unitCode := F_b73_unitCode.ext E_
  replace F_b73_teachingPeriod := F_b73_teachingPeriod.ext E_
  replace F_b84_studentId := F_b84_studentId.ext E_
  replace F_b84_unitCode := F_b84_unitCode.ext E_
  replace F_b84_teachingPeriod := F_b84_teachingPeriod.ext E_
  replace S_r1 := S_r1.ext E_
  replace S_r2 := S_r2.ext E_
  replace S_r3 := S_r3.ext E_
  replace S_r4 := S_r4.ext E_
  refine s_iload X (pc' := 60) at_58 rfl rfl ?_
  refine s_static X (pc' := 63) (W := 4) (as' := [(.int c3)]) (S := [(.ref r5), (.ref r4), (.ref b84), (.ref b84)]) (k' := 38) (n' := 78) at_60 (hw _ (List.mem_of_getElem? (i := 7) rfl)) (hw _ (List.mem_of_getElem? (i := 8) rfl)) (hw _ (List.mem_of_getElem? (i := 2) rfl)) (hw _ (List.mem_of_getElem? (i := 9) rfl)) (by decide) own_pd4 rfl ((own_mk l Z a0 hw hEL c3 _ O2 P5).payS (by simp) (hw _ (List.mem_of_getElem? (i := 9) rfl)) (hw _ (List.mem_of_getElem? (i := 2) rfl)) hEL (by decide) (by decide)) (Nat.le_of_ble_eq_true rfl) rfl rfl (by decide) (by decide) (by decide) (by decide) rfl (fun T h91 v_ ws_ X hgr_ q92 => ?_)
  obtain ⟨r6, rfl, E_, S_r6, rfl⟩ := q92
  show Go p e below _ T (mkF m 63 #[.val (.int a1), .val (.int a2), .val (.int a3), .val (.int b1), .val (.int b2), .val (.int b3), .val (.int c1), .val (.int c2), .val (.int c3), .val (.ref b73), .unset, .unset, .unset] [(.ref r6), (.ref r5), (.ref r4), (.ref b84), (.ref b84)])
  replace X := X.sub (ws' := [b84]) (by simp)
  replace E_b73 := E_b73.ext E_
  replace E_b84 := E_b84.ext E_
  replace F_b73_studentId := F_b73_studentId.ext E_
  replace F_b73_unitCode := F_b73_unitCode.ext E_
  replace F_b73_teachingPeriod := F_b73_teachingPeriod.ext E_
  replace F_b84_studentId := F_b84_studentId.ext E_
  replace F_b84_unitCode := F_b84_unitCode.ext E_
  replace F_b84_teachingPeriod := F_b84_teachingPeriod.ext E_
  replace S_r1 := S_r1.ext E_
  replace S_r2 := S_r2.ext E_
  replace S_r3 := S_r3.ext E_
  replace S_r4 := S_r4.ext E_
  replace S_r5 := S_r5.ext E_
  replace X := X.sub (ws' := [b84]) (by simp)
  refine s_special X (pc' := 66) (W := 1) (as' := [(.ref r4), (.ref r5), (.ref r6)]) (S := [(.ref b84)]) (k' := 38) (n' := 78) at_63 rfl (hw _ (List.mem_of_getElem? (i := 43) rfl)) (hw _ (List.mem_of_getElem? (i := 44) rfl)) (hw _ (List.mem_of_getElem? (i := 45) rfl)) (by decide) own_pd5 rfl ((own_ini l Z a0 hw hEL b84 r4 r5 r6 _ g_b84 E_b84 F_b84_studentId F_b84_unitCode F_b84_teachingPeriod).payS (by simp) (hw _ (List.mem_of_getElem? (i := 45) rfl)) (hw _ (List.mem_of_getElem? (i := 6) rfl)) hEL (by decide) (by decide)) (Nat.le_of_ble_eq_true rfl) rfl rfl (by decide) (by decide) (by decide) (by decide) rfl (fun T h93 v_ ws_ X hgr_ q94 => ?_)
  obtain ⟨rfl, K_, F'_b84_studentId, F'_b84_unitCode, F'_b84_teachingPeriod, rfl⟩ := q94
  show Go p e below _ T (mkF m 66 #[.val (.int a1), .val (.int a2), .val (.int a3), .val (.int b1), .val (.int b2), .val (.int b3), .val (.int c1), .val (.int c2), .val (.int c3), .val (.ref b73), .unset, .unset, .unset] [(.ref b84)])
  replace X := X.sub (ws' := []) (by simp)
  replace F_b73_studentId := F_b73_studentId.keep K_ (ninS ne_b73_b84 nin0)
  replace F_b73_unitCode := F_b73_unitCode.keep K_ (ninS ne_b73_b84 nin0)
  replace F_b73_teachingPeriod := F_b73_teachingPeriod.keep K_ (ninS ne_b73_b84 nin0)
  replace S_r1 := S_r1.keep K_ E_b84 (by decide) (hw _ (List.mem_of_getElem? (i := 5) rfl))
  replace S_r2 := S_r2.keep K_ E_b84 (by decide) (hw _ (List.mem_of_getElem? (i := 5) rfl))
  replace S_r3 := S_r3.keep K_ E_b84 (by decide) (hw _ (List.mem_of_getElem? (i := 5) rfl))
  replace S_r4 := S_r4.keep K_ E_b84 (by decide) (hw _ (List.mem_of_getElem? (i := 5) rfl))
  replace S_r5 := S_r5.keep K_ E_b84 (by decide) (hw _ (List.mem_of_getElem? (i := 5) rfl))
  replace S_r6 := S_r6.keep K_ E_b84 (by decide) (hw _ (List.mem_of_getElem? (i := 5) rfl))
  replace E_b73 := E_b73.keep K_
  replace E_b84 := E_b84.keep K_
  have F_b84_studentId := F'_b84_studentId
  have F_b84_unitCode := F'_b84_unitCode
  have F_b84_teachingPeriod := F'_b84_teachingPeriod
  refine s_astore X (pc' := 68) (L' := #[.val (.int a1), .val (.int a2), .val (.int a3), .val (.int b1), .val (.int b2), .val (.int b3), .val (.int c1), .val (.int c2), .val (.int c3), .val (.ref b73), .val (.ref b84), .unset, .unset]) at_66 rfl rfl rfl ?_
  refine s_iloadN X (pc' := 69) at_68 rfl rfl ?_
  refine s_bipush X (pc' := 71) at_69 (v := (27 : Int32)) (by decide) rfl ?_
  refine s_iushr X (pc' := 72) at_71 rfl ?_
  refine s_iconst X (pc' := 73) at_72 (v := (3 : Int32)) rfl rfl ?_
  refine s_iand X (pc' := 74) at_73 rfl ?_
  obtain ⟨md, gmd⟩ : ∃ z, z = (((b1.toUInt32 >>> ((27 : Int32) &&& 31).toUInt32).toInt32) &&& (3 : Int32)) := ⟨_, rfl⟩
  rw [← gmd]
  refine s_istore X (pc' := 76) (L' := #[.val (.int a1), .val (.int a2), .val (.int a3), .val (.int b1), .val (.int b2), .val (.int b3), .val (.int c1), .val (.int c2), .val (.int c3), .val (.ref b73), .val (.ref b84), .val (.int md), .unset]) at_74 rfl rfl ?_
  refine s_iload X (pc' := 78) at_76 rfl rfl ?_
  refine s_iconst X (pc' := 79) at_78 (v := (1 : Int32)) rfl rfl ?_
  refine s_icmp X (pc' := 97) (pcF := 82) at_79 (by decide) (by decide) rfl (fun (m1 : ¬ md = (1 : Int32)) => ?_) (fun (m1 : md = (1 : Int32)) => ?_)
  · refine s_iload X (pc' := 99) at_97 rfl rfl ?_
    refine s_iconst X (pc' := 100) at_99 (v := (2 : Int32)) rfl rfl ?_
    refine s_icmp X (pc' := 121) (pcF := 103) at_100 (by decide) (by decide) rfl (fun (m2 : ¬ md = (2 : Int32)) => ?_) (fun (m2 : md = (2 : Int32)) => ?_)
    · obtain ⟨ex, gex⟩ : ∃ z, z = (if chars a1 = chars c1 ∧ chars a2 = chars c2 ∧ chars a3 = chars c3 then (1 : Int32) else 0) := ⟨_, rfl⟩
      refine jn (A := ∀ T, Cx p l e room_1 s m #[(.int a1), (.int a2), (.int a3), (.int b1), (.int b2), (.int b3)] below meth c Z consts_1 False x code maxLocals ret [] T h93 38 78 → Go p e below (Post Z consts_1 s room_1 (fun v h' ws' => v = some (.int 1))) T (mkF m 155 #[.val (.int a1), .val (.int a2), .val (.int a3), .val (.int b1), .val (.int b2), .val (.int b3), .val (.int c1), .val (.int c2), .val (.int c3), .val (.ref b73), .val (.ref b84), .val (.int md), .val (.int ex)] [])) (fun J => ?_) (fun T X => ?_)
      · refine s_iloadN X (pc' := 122) at_121 rfl rfl ?_
        refine s_iload X (pc' := 124) at_122 rfl rfl ?_
        refine s_static X (pc' := 127) (W := 0) (as' := [(.int a1), (.int c1)]) (S := []) (k' := 38) (n' := 78) at_124 (hw _ (List.mem_of_getElem? (i := 53) rfl)) (hw _ (List.mem_of_getElem? (i := 54) rfl)) (hw _ (List.mem_of_getElem? (i := 2) rfl)) (hw _ (List.mem_of_getElem? (i := 55) rfl)) (by decide) own_pd6 rfl ((own_same l Z a0 hw hEL a1 c1 _).payS (by simp) (hw _ (List.mem_of_getElem? (i := 55) rfl)) (hw _ (List.mem_of_getElem? (i := 2) rfl)) hEL (by decide) (by decide)) (Nat.le_of_ble_eq_true rfl) rfl rfl (by decide) (by decide) (by decide) (by decide) rfl (fun T h101 v_ ws_ X hgr_ q102 => ?_)
        obtain ⟨rfl, rfl, rfl⟩ := q102
        show Go p e below _ T (mkF m 127 #[.val (.int a1), .val (.int a2), .val (.int a3), .val (.int b1), .val (.int b2), .val (.int b3), .val (.int c1), .val (.int c2), .val (.int c3), .val (.ref b73), .val (.ref b84), .val (.int md), .unset] [(.int (if chars a1 = chars c1 then 1 else 0))])
        replace X := X.sub (ws' := []) (by simp)
        refine s_if X (pc' := 152) (pcF := 130) at_127 (by decide) (by decide) rfl (fun (q1 : (if chars a1 = chars c1 then 1 else 0) = (0 : Int32)) => ?_) (fun (q1 : ¬ (if chars a1 = chars c1 then 1 else 0) = (0 : Int32)) => ?_)
        · have n1 : ¬ chars a1 = chars c1 := fun z => by rw [if_pos z] at q1; exact absurd q1 (by decide)
          refine s_iconst X (pc' := 153) at_152 (v := (0 : Int32)) rfl rfl ?_
          refine go_int (z := ex) (by rw [gex, if_neg (fun z => n1 z.1)]) ?_
          refine s_istore X (pc' := 155) (L' := #[.val (.int a1), .val (.int a2), .val (.int a3), .val (.int b1), .val (.int b2), .val (.int b3), .val (.int c1), .val (.int c2), .val (.int c3), .val (.ref b73), .val (.ref b84), .val (.int md), .val (.int ex)]) at_153 rfl rfl ?_
          exact J T X
        · have y1 : chars a1 = chars c1 := Classical.byContradiction fun z => by rw [if_neg z] at q1; exact q1 rfl
          refine s_iloadN X (pc' := 131) at_130 rfl rfl ?_
          refine s_iload X (pc' := 133) at_131 rfl rfl ?_
          refine s_static X (pc' := 136) (W := 0) (as' := [(.int a2), (.int c2)]) (S := []) (k' := 38) (n' := 78) at_133 (hw _ (List.mem_of_getElem? (i := 53) rfl)) (hw _ (List.mem_of_getElem? (i := 54) rfl)) (hw _ (List.mem_of_getElem? (i := 2) rfl)) (hw _ (List.mem_of_getElem? (i := 55) rfl)) (by decide) own_pd6 rfl ((own_same l Z a0 hw hEL a2 c2 _).payS (by simp) (hw _ (List.mem_of_getElem? (i := 55) rfl)) (hw _ (List.mem_of_getElem? (i := 2) rfl)) hEL (by decide) (by decide)) (Nat.le_of_ble_eq_true rfl) rfl rfl (by decide) (by decide) (by decide) (by decide) rfl (fun T h103 v_ ws_ X hgr_ q104 => ?_)
          obtain ⟨rfl, rfl, rfl⟩ := q104
          show Go p e below _ T (mkF m 136 #[.val (.int a1), .val (.int a2), .val (.int a3), .val (.int b1), .val (.int b2), .val (.int b3), .val (.int c1), .val (.int c2), .val (.int c3), .val (.ref b73), .val (.ref b84), .val (.int md), .unset] [(.int (if chars a2 = chars c2 then 1 else 0))])
          replace X := X.sub (ws' := []) (by simp)
          refine s_if X (pc' := 152) (pcF := 139) at_136 (by decide) (by decide) rfl (fun (q2 : (if chars a2 = chars c2 then 1 else 0) = (0 : Int32)) => ?_) (fun (q2 : ¬ (if chars a2 = chars c2 then 1 else 0) = (0 : Int32)) => ?_)
          · have n2 : ¬ chars a2 = chars c2 := fun z => by rw [if_pos z] at q2; exact absurd q2 (by decide)
            refine s_iconst X (pc' := 153) at_152 (v := (0 : Int32)) rfl rfl ?_
            refine go_int (z := ex) (by rw [gex, if_neg (fun z => n2 z.2.1)]) ?_
            refine s_istore X (pc' := 155) (L' := #[.val (.int a1), .val (.int a2), .val (.int a3), .val (.int b1), .val (.int b2), .val (.int b3), .val (.int c1), .val (.int c2), .val (.int c3), .val (.ref b73), .val (.ref b84), .val (.int md), .val (.int ex)]) at_153 rfl rfl ?_
            exact J T X
          · have y2 : chars a2 = chars c2 := Classical.byContradiction fun z => by rw [if_neg z] at q2; exact q2 rfl
            refine s_iloadN X (pc' := 140) at_139 rfl rfl ?_
            refine s_iload X (pc' := 142) at_140 rfl rfl ?_
            refine s_static X (pc' := 145) (W := 0) (as' := [(.int a3), (.int c3)]) (S := []) (k' := 38) (n' := 78) at_142 (hw _ (List.mem_of_getElem? (i := 53) rfl)) (hw _ (List.mem_of_getElem? (i := 54) rfl)) (hw _ (List.mem_of_getElem? (i := 2) rfl)) (hw _ (List.mem_of_getElem? (i := 55) rfl)) (by decide) own_pd6 rfl ((own_same l Z a0 hw hEL a3 c3 _).payS (by simp) (hw _ (List.mem_of_getElem? (i := 55) rfl)) (hw _ (List.mem_of_getElem? (i := 2) rfl)) hEL (by decide) (by decide)) (Nat.le_of_ble_eq_true rfl) rfl rfl (by decide) (by decide) (by decide) (by decide) rfl (fun T h105 v_ ws_ X hgr_ q106 => ?_)
            obtain ⟨rfl, rfl, rfl⟩ := q106
            show Go p e below _ T (mkF m 145 #[.val (.int a1), .val (.int a2), .val (.int a3), .val (.int b1), .val (.int b2), .val (.int b3), .val (.int c1), .val (.int c2), .val (.int c3), .val (.ref b73), .val (.ref b84), .val (.int md), .unset] [(.int (if chars a3 = chars c3 then 1 else 0))])
            replace X := X.sub (ws' := []) (by simp)
            refine s_if X (pc' := 152) (pcF := 148) at_145 (by decide) (by decide) rfl (fun (q3 : (if chars a3 = chars c3 then 1 else 0) = (0 : Int32)) => ?_) (fun (q3 : ¬ (if chars a3 = chars c3 then 1 else 0) = (0 : Int32)) => ?_)
            · have n3 : ¬ chars a3 = chars c3 := fun z => by rw [if_pos z] at q3; exact absurd q3 (by decide)
              refine s_iconst X (pc' := 153) at_152 (v := (0 : Int32)) rfl rfl ?_
              refine go_int (z := ex) (by rw [gex, if_neg (fun z => n3 z.2.2)]) ?_
              refine s_istore X (pc' := 155) (L' := #[.val (.int a1), .val (.int a2), .val (.int a3), .val (.int b1), .val (.int b2), .val (.int b3), .val (.int c1), .val (.int c2), .val (.int c3), .val (.ref b73), .val (.ref b84), .val (.int md), .val (.int ex)]) at_153 rfl rfl ?_
              exact J T X
            · have y3 : chars a3 = chars c3 := Classical.byContradiction fun z => by rw [if_neg z] at q3; exact q3 rfl
              refine s_iconst X (pc' := 149) at_148 (v := (1 : Int32)) rfl rfl ?_
              refine s_goto X (pc' := 153) at_149 (by decide) (by decide) ?_
              refine go_int (z := ex) (by rw [gex, if_pos ⟨y1, y2, y3⟩]) ?_
              refine s_istore X (pc' := 155) (L' := #[.val (.int a1), .val (.int a2), .val (.int a3), .val (.int b1), .val (.int b2), .val (.int b3), .val (.int c1), .val (.int c2), .val (.int c3), .val (.ref b73), .val (.ref b84), .val (.int md), .val (.int ex)]) at_153 rfl rfl ?_
              exact J T X
      · refine s_aload X (pc' := 157) at_155 rfl rfl rfl ?_
        refine s_aload X (pc' := 159) at_157 rfl rfl rfl ?_
        refine s_virtual X (pc' := 162) (W := 0) (as' := [(.ref b84)]) (S := []) (k' := 38) (n' := 78) at_159 (hw _ (List.mem_of_getElem? (i := 56) rfl)) (hw _ (List.mem_of_getElem? (i := 57) rfl)) (hw _ (List.mem_of_getElem? (i := 59) rfl)) (hw _ (List.mem_of_getElem? (i := 58) rfl)) (nface (hw _ (List.mem_of_getElem? (i := 59) rfl))) (by decide) own_pd2 rfl E_b73 ((own_eq l Z a0 hw hEL b73 b84 _ E_b73 E_b84 F_b73_studentId F_b84_studentId S_r1 S_r4 F_b73_unitCode F_b84_unitCode S_r2 S_r5 F_b73_teachingPeriod F_b84_teachingPeriod S_r3 S_r6 O2 P5).payS (by simp) (hw _ (List.mem_of_getElem? (i := 60) rfl)) (hw _ (List.mem_of_getElem? (i := 6) rfl)) hEL (by decide) (by decide)) (Nat.le_of_ble_eq_true rfl) rfl rfl (by decide) (by decide) (by decide) (by decide) rfl (fun T h107 v_ ws_ X hgr_ q108 => ?_)
        obtain ⟨rfl, rfl, rfl⟩ := q108
        show Go p e below _ T (mkF m 162 #[.val (.int a1), .val (.int a2), .val (.int a3), .val (.int b1), .val (.int b2), .val (.int b3), .val (.int c1), .val (.int c2), .val (.int c3), .val (.ref b73), .val (.ref b84), .val (.int md), .val (.int ex)] [(.int (if chars a1 = chars c1 ∧ chars a2 = chars c2 ∧ chars a3 = chars c3 then 1 else 0))])
        replace X := X.sub (ws' := []) (by simp)
        refine s_iload X (pc' := 164) at_162 rfl rfl ?_
        refine s_icmpF X (pc' := 167) at_164 (show _ = ex from gex.symm) rfl ?_
        refine s_aload X (pc' := 169) at_167 rfl rfl rfl ?_
        refine s_aload X (pc' := 171) at_169 rfl rfl rfl ?_
        refine s_virtual X (pc' := 174) (W := 0) (as' := [(.ref b73)]) (S := []) (k' := 38) (n' := 78) at_171 (hw _ (List.mem_of_getElem? (i := 56) rfl)) (hw _ (List.mem_of_getElem? (i := 57) rfl)) (hw _ (List.mem_of_getElem? (i := 59) rfl)) (hw _ (List.mem_of_getElem? (i := 58) rfl)) (nface (hw _ (List.mem_of_getElem? (i := 59) rfl))) (by decide) own_pd2 rfl E_b84 ((own_eq l Z a0 hw hEL b84 b73 _ E_b84 E_b73 F_b84_studentId F_b73_studentId S_r4 S_r1 F_b84_unitCode F_b73_unitCode S_r5 S_r2 F_b84_teachingPeriod F_b73_teachingPeriod S_r6 S_r3 O2 P5).payS (by simp) (hw _ (List.mem_of_getElem? (i := 60) rfl)) (hw _ (List.mem_of_getElem? (i := 6) rfl)) hEL (by decide) (by decide)) (Nat.le_of_ble_eq_true rfl) rfl rfl (by decide) (by decide) (by decide) (by decide) rfl (fun T h109 v_ ws_ X hgr_ q110 => ?_)
        obtain ⟨rfl, rfl, rfl⟩ := q110
        show Go p e below _ T (mkF m 174 #[.val (.int a1), .val (.int a2), .val (.int a3), .val (.int b1), .val (.int b2), .val (.int b3), .val (.int c1), .val (.int c2), .val (.int c3), .val (.ref b73), .val (.ref b84), .val (.int md), .val (.int ex)] [(.int (if chars c1 = chars a1 ∧ chars c2 = chars a2 ∧ chars c3 = chars a3 then 1 else 0))])
        replace X := X.sub (ws' := []) (by simp)
        refine s_iload X (pc' := 176) at_174 rfl rfl ?_
        refine s_icmpF X (pc' := 179) at_176 (show _ = ex by rw [gex]; simp only [eq_comm]) rfl ?_
        refine s_iconst X (pc' := 180) at_179 (v := (1 : Int32)) rfl rfl ?_
        refine s_goto X (pc' := 184) at_180 (by decide) (by decide) ?_
        exact s_iretN X hEL (ws' := []) (t := .boolean) at_184 rfl (by simp) (by decide) (by decide) (fun x q => by simp at q) rfl
    · refine s_aload X (pc' := 105) at_103 rfl rfl rfl ?_
      refine s_iloadN X (pc' := 106) at_105 rfl rfl ?_
      refine s_static X (pc' := 109) (W := 1) (as' := [(.int a1)]) (S := [(.ref b73)]) (k' := 44) (n' := 90) at_106 (hw _ (List.mem_of_getElem? (i := 7) rfl)) (hw _ (List.mem_of_getElem? (i := 8) rfl)) (hw _ (List.mem_of_getElem? (i := 2) rfl)) (hw _ (List.mem_of_getElem? (i := 9) rfl)) (by decide) own_pd4 rfl ((own_mk l Z a0 hw hEL a1 _ O2 P5).payS (by simp) (hw _ (List.mem_of_getElem? (i := 9) rfl)) (hw _ (List.mem_of_getElem? (i := 2) rfl)) hEL (by decide) (by decide)) (Nat.le_of_ble_eq_true rfl) rfl rfl (by decide) (by decide) (by decide) (by decide) rfl (fun T h97 v_ ws_ X hgr_ q98 => ?_)
      obtain ⟨r7, rfl, E_, S_r7, rfl⟩ := q98
      show Go p e below _ T (mkF m 109 #[.val (.int a1), .val (.int a2), .val (.int a3), .val (.int b1), .val (.int b2), .val (.int b3), .val (.int c1), .val (.int c2), .val (.int c3), .val (.ref b73), .val (.ref b84), .val (.int md), .unset] [(.ref r7), (.ref b73)])
      replace X := X.sub (ws' := []) (by simp)
      replace E_b73 := E_b73.ext E_
      replace E_b84 := E_b84.ext E_
      replace F_b73_studentId := F_b73_studentId.ext E_
      replace F_b73_unitCode := F_b73_unitCode.ext E_
      replace F_b73_teachingPeriod := F_b73_teachingPeriod.ext E_
      replace F_b84_studentId := F_b84_studentId.ext E_
      replace F_b84_unitCode := F_b84_unitCode.ext E_
      replace F_b84_teachingPeriod := F_b84_teachingPeriod.ext E_
      replace S_r1 := S_r1.ext E_
      replace S_r2 := S_r2.ext E_
      replace S_r3 := S_r3.ext E_
      replace S_r4 := S_r4.ext E_
      replace S_r5 := S_r5.ext E_
      replace S_r6 := S_r6.ext E_
      refine s_virtual X (pc' := 112) (W := 0) (as' := [(.ref r7)]) (S := []) (k' := 44) (n' := 90) at_109 (hw _ (List.mem_of_getElem? (i := 56) rfl)) (hw _ (List.mem_of_getElem? (i := 57) rfl)) (hw _ (List.mem_of_getElem? (i := 59) rfl)) (hw _ (List.mem_of_getElem? (i := 58) rfl)) (nface (hw _ (List.mem_of_getElem? (i := 59) rfl))) (by decide) own_pd2 rfl E_b73 ((own_eqs l Z a0 hw hEL b73 r7 _ S_r7).payS (by simp) (hw _ (List.mem_of_getElem? (i := 60) rfl)) (hw _ (List.mem_of_getElem? (i := 6) rfl)) hEL (by decide) (by decide)) (Nat.le_of_ble_eq_true rfl) rfl rfl (by decide) (by decide) (by decide) (by decide) rfl (fun T h99 v_ ws_ X hgr_ q100 => ?_)
      obtain ⟨rfl, rfl, rfl⟩ := q100
      show Go p e below _ T (mkF m 112 #[.val (.int a1), .val (.int a2), .val (.int a3), .val (.int b1), .val (.int b2), .val (.int b3), .val (.int c1), .val (.int c2), .val (.int c3), .val (.ref b73), .val (.ref b84), .val (.int md), .unset] [(.int (0 : Int32))])
      replace X := X.sub (ws' := []) (by simp)
      refine s_ifF X (pc' := 115) at_112 (show (0 : Int32) = (0 : Int32) by decide) rfl ?_
      refine s_iconst X (pc' := 116) at_115 (v := (1 : Int32)) rfl rfl ?_
      refine s_goto X (pc' := 120) at_116 (by decide) (by decide) ?_
      exact s_iretN X hEL (ws' := []) (t := .boolean) at_120 rfl (by simp) (by decide) (by decide) (fun x q => by simp at q) rfl
  · refine s_aload X (pc' := 84) at_82 rfl rfl rfl ?_
    refine s_aconst X (pc' := 85) at_84 rfl ?_
    refine s_virtual X (pc' := 88) (W := 0) (as' := [.null]) (S := []) (k' := 38) (n' := 78) at_85 (hw _ (List.mem_of_getElem? (i := 56) rfl)) (hw _ (List.mem_of_getElem? (i := 57) rfl)) (hw _ (List.mem_of_getElem? (i := 59) rfl)) (hw _ (List.mem_of_getElem? (i := 58) rfl)) (nface (hw _ (List.mem_of_getElem? (i := 59) rfl))) (by decide) own_pd2 rfl E_b73 ((own_eqn l Z a0 hw hEL b73 _).payS (by simp) (hw _ (List.mem_of_getElem? (i := 60) rfl)) (hw _ (List.mem_of_getElem? (i := 6) rfl)) hEL (by decide) (by decide)) (Nat.le_of_ble_eq_true rfl) rfl rfl (by decide) (by decide) (by decide) (by decide) rfl (fun T h95 v_ ws_ X hgr_ q96 => ?_)
    obtain ⟨rfl, rfl, rfl⟩ := q96
    show Go p e below _ T (mkF m 88 #[.val (.int a1), .val (.int a2), .val (.int a3), .val (.int b1), .val (.int b2), .val (.int b3), .val (.int c1), .val (.int c2), .val (.int c3), .val (.ref b73), .val (.ref b84), .val (.int md), .unset] [(.int (0 : Int32))])
    replace X := X.sub (ws' := []) (by simp)
    refine s_ifF X (pc' := 91) at_88 (show (0 : Int32) = (0 : Int32) by decide) rfl ?_
    refine s_iconst X (pc' := 92) at_91 (v := (1 : Int32)) rfl rfl ?_
    refine s_goto X (pc' := 96) at_92 (by decide) (by decide) ?_
    exact s_iretN X hEL (ws' := []) (t := .boolean) at_96 rfl (by simp) (by decide) (by decide) (fun x q => by simp at q) rfl
set_option maxRecDepth 65536 in
set_option maxHeartbeats 40000000 in
theorem comes_1 {Post' : Tables → Env → Array Value → State → Outcome → State → Prop} (hpost : ∀ tb e args s v u, (limb_1_1.after args s (.returned v) u = true ∧ limb_1_2.after args s (.returned v) u = true ∧ True) → ReturnedEndW s (.returned v) u (Jvm.fieldLocs frame_1_writes args s ++ Jvm.arrayLocs frame_1_arrays args s ++ Jvm.staticLocs frame_1_statics s) 56 1280 → Post' tb e args s (.returned v) u) :
    ArmFor flags0 classFile x code maxLocals ret World_1 tables_1 room_1 Calls_1 rest_1 Pre_1 Post' := by
  intro l hfl _ _ p e ha hc hk s m args below hf hA hF happ hP
  obtain ⟨hcalls, hrest, hpre⟩ := hP
  obtain ⟨-, -, -, hnamed, -, -, -, hat⟩ := (Spec.applies_iff hf).mp happ
  obtain ⟨hg, hnr⟩ := and_e (Cond.before_iff.mp (show (Jvm.Cond.and given_1 narrow_1).before args s = true from hpre))
  obtain ⟨hg0, hg1⟩ := and_e hg
  obtain ⟨ha0, hg2⟩ := and_e hg1
  obtain ⟨ha1, hg3⟩ := and_e hg2
  obtain ⟨ha2, hg4⟩ := and_e hg3
  obtain ⟨ha3, hg5⟩ := and_e hg4
  obtain ⟨ha4, hg6⟩ := and_e hg5
  obtain ⟨w0, w1, w2, w3, w4, w5, rfl⟩ : ∃ w0 w1 w2 w3 w4 w5 : Value, args = #[w0, w1, w2, w3, w4, w5] := by
    have hs : args.size = 6 := by simpa [Cond.value, given_1] using hg0
    obtain ⟨L⟩ := args
    match L, hs with
    | [w0, w1, w2, w3, w4, w5], _ => exact ⟨w0, w1, w2, w3, w4, w5, rfl⟩
  have hw := fun d (hd : d ∈ tables_1) => atoms_spec (ws := Jvm.Cond.code x code maxLocals ret :: tables_1) hat d (List.mem_cons_of_mem _ hd)
  obtain ⟨hsets, hown0⟩ := atoms_of _ (rest_1_c_eq ▸ (show rest_1_c.before _ s = true from hrest))
  have hfit : Fit s := fun {y c} hc i hi => by
    obtain ⟨ha, rfl⟩ := Array.getElem?_eq_some_iff.mp hc
    have q := List.all_eq_true.mp ((Array.all_eq_true_iff_forall_mem.mp hF) _ (Array.getElem_mem ha)) i (List.mem_range.mpr hi)
    simpa [Array.getElem?_eq_getElem hi] using q
  have n5 := not_v (Cond.before_iff.mp (hsets _ (List.mem_of_getElem? (i := 2) rfl)))
  obtain ⟨i0, e0⟩ := is_v ha0
  obtain rfl : w0 = (.int i0) := Option.some.inj e0
  obtain ⟨i1, e1⟩ := is_v ha1
  obtain rfl : w1 = (.int i1) := Option.some.inj e1
  obtain ⟨i2, e2⟩ := is_v ha2
  obtain rfl : w2 = (.int i2) := Option.some.inj e2
  obtain ⟨i3, e3⟩ := is_v ha3
  obtain rfl : w3 = (.int i3) := Option.some.inj e3
  obtain ⟨i4, e4⟩ := is_v ha4
  obtain rfl : w4 = (.int i4) := Option.some.inj e4
  obtain ⟨i5, e5⟩ := is_v hg6
  obtain rfl : w5 = (.int i5) := Option.some.inj e5
  obtain ⟨G1, eG1⟩ := is_v (Cond.before_iff.mp (hsets _ (List.mem_of_getElem? (i := 1) rfl)))
  have O2 : Sta s s.heap "java/lang/String" "COMPACT_STRINGS" "Z" (.int G1) := Sta.start eG1 (Or.inl (hsets _ (List.mem_of_getElem? (i := 0) rfl)))
  have P5 : ¬ (G1 = (0 : Int32)) := gotF (Cond.eq_ints eG1 (Term.int_eval (0))) n5
  have hEL : EW s _ consts_1 := (EW.cons (hw _ (List.mem_of_getElem? (i := 24) rfl)) (by decide) EW.nil)
  have hCH : CHv s consts_1 s.vm s.heap := CHv.start hEL (fun q hq => hcalls.1 q hq) (hsets _ (List.mem_of_getElem? (i := 2) rfl)) (hw _ (List.mem_of_getElem? (i := 25) rfl)) (hw _ (List.mem_of_getElem? (i := 12) rfl))
  have C := own_law l s _ hw hEL i0 i1 i2 i3 i4 i5 s.heap (O2 := O2) (P5 := P5)
  obtain ⟨n, o, h1, h2, h3, v, L, ws', rfl, hv, N, -, -, -, hq⟩ := C tables_1 p e ha hc hk s m _ below hf ((Spec.applies_iff_loose hf).mp happ).1 ⟨rfl, State.Warmed39.refl s, rfl, hCH, (fun q hq => by simp at hq), ext_refl _⟩ (fun q => q.elim)
  obtain rfl : v = some (.int 1) := hv
  exact ⟨n, _, h1, h2, h3, hpost _ _ _ _ _ _ ⟨Cond.after_iff.mpr rfl, Cond.after_iff.mpr (eq_i res_at (Term.int_eval (1)) rfl), trivial⟩ ⟨hq.1, hq.2.1, hq.2.2.1, (hq.2.2.2.sift fun y hy => Or.inr (N y hy)).mono (by decide) (by decide)⟩⟩
theorem main_1_1 : Claimed_1_1 := comes_1 fun _ _ _ _ _ _ h hF => ⟨h.1, hF⟩
theorem main_1_2 : Claimed_1_2 := comes_1 fun _ _ _ _ _ _ h hF => ⟨h.2.1, hF⟩
end Jvm.Pilot.@@N@@
namespace Jvm.Pilot.@@N@@
open Jvm Jvm.ClassFile Sem Op Lib Jvm.Free Jvm.Stand Jvm.Pilot.@@N@@.Jvm.D
/-! MADE BY PROGRAM (witnessworld.py) out of the Statement's table words and the real class files: 20 classes; the members and pool entries that the words name. The judged class is class 1, her method 4. -/
namespace start1
open Jvm.ClassFile
def u (s : String) : CpInfo := .utf8 (stringToUtf16 s)
/-- a pool by its gaps: so many unusable entries, then the entry; so many at the end -/
def gap : Nat → List CpInfo → List CpInfo
  | 0, r => r
  | n + 1, r => .unusable :: gap n r
def poolList (es : List (Nat × CpInfo)) (last : Nat) : List CpInfo := es.foldr (fun e r => gap e.1 (e.2 :: r)) (gap last [])
def pool (es : List (Nat × CpInfo)) (last : Nat) : Array CpInfo := ⟨poolList es last⟩
def fileOf (pool : Array CpInfo) (this : Nat) (attrs : Array Attribute := #[]) (ms : Array MethodInfo := #[]) (fl : Nat := 33) (sup : Nat := 0) (ifs : Array Nat := #[]) (fds : Array FieldInfo := #[]) : ClassFile where
  minorVersion := 0
  majorVersion := 65
  constantPool := pool
  accessFlags := fl
  thisClass := this
  superClass := sup
  interfaces := ifs
  fields := fds
  methods := ms
  attributes := attrs
def plain (name : String) (sup : Option ClassId) : Class where
  name := name
  kind := .ordinary
  loader := none
  accessFlags := 33
  super := sup
  interfaces := #[]
  cf := none
  fields := #[]
  methods := #[]
  instanceTypes := #[]
  staticTypes := #[]
  resolved := #[]
  callSites := []
  init := .initialized
  statics := none
  mirror := none

def pool0 : Array CpInfo := pool [(5, u "<init>"), (0, u "()V"), (1, .class_ 10), (1, u "java/lang/Object")] 113

def k0c0 : Code := { maxStack := 0, maxLocals := 1, code := object_method_1_code, exceptionTable := #[], attributes := #[] }
def k0m0 : Method := { name := "<init>", desc := "()V", sig := { parameters := [], returnType := none }, accessFlags := 1, code := some k0c0 }
/-- java/lang/Object -/
def k0 : Class := { plain "java/lang/Object" none with
  accessFlags := 33
  interfaces := #[]
  cf := some (fileOf pool0 8 #[] #[{ accessFlags := 1, nameIndex := 5, descriptorIndex := 6, attributes := #[] }] 33 0 #[] #[])
  fields := #[]
  methods := #[k0m0]
  instanceTypes := #[]
  staticTypes := #[]
  resolved := Array.replicate 124 none
  statics := none }

def pool1 : Array CpInfo := pool [(2, .class_ 4), (1, u "java/lang/Object"), (0, u "<init>"), (0, u "()V"), (0, .class_ 8), (0, u "java/lang/String"), (0, .methodref 7 10), (0, .nameAndType 5 11), (0, u "([C)V"), (0, .integer 67108863), (0, .methodref 14 15), (0, .class_ 16), (0, .nameAndType 17 18), (0, u "com/example/quadledger/quadledger/records/EnrolmentKeyEqualsPinLaw"), (0, u "partner"), (0, u "(II)I"), (0, .class_ 20), (0, u "com/example/quadledger/quadledger/records/EnrolmentKey"), (0, .methodref 14 22), (0, .nameAndType 23 24), (0, u "mk"), (0, u "(I)Ljava/lang/String;"), (0, .methodref 19 26), (0, .nameAndType 5 27), (0, u "(Ljava/lang/String;Ljava/lang/String;Ljava/lang/String;)V"), (0, .methodref 19 29), (0, .nameAndType 30 31), (0, u "equals"), (0, u "(Ljava/lang/Object;)Z"), (0, .methodref 14 33), (0, .nameAndType 34 35), (0, u "same"), (0, u "(II)Z"), (5, u "law"), (0, u "(IIIIII)Z")] 2

def k1m0 : Method := { name := "<init>", desc := "()V", sig := { parameters := [], returnType := none }, accessFlags := 1, code := none }
def k1c1 : Code := { maxStack := 4, maxLocals := 3, code := method_2_code, exceptionTable := #[], attributes := #[] }
def k1m1 : Method := { name := "mk", desc := "(I)Ljava/lang/String;", sig := { parameters := [.int], returnType := some (.object "java/lang/String") }, accessFlags := 10, code := some k1c1 }
def k1c2 : Code := { maxStack := 3, maxLocals := 3, code := method_3_code, exceptionTable := #[], attributes := #[] }
def k1m2 : Method := { name := "same", desc := "(II)Z", sig := { parameters := [.int, .int], returnType := some .boolean }, accessFlags := 10, code := some k1c2 }
def k1c3 : Code := { maxStack := 3, maxLocals := 2, code := method_4_code, exceptionTable := #[], attributes := #[] }
def k1m3 : Method := { name := "partner", desc := "(II)I", sig := { parameters := [.int, .int], returnType := some .int }, accessFlags := 10, code := some k1c3 }
def k1c4 : Code := { maxStack := 5, maxLocals := 13, code := code, exceptionTable := #[], attributes := #[] }
def k1m4 : Method := { name := "law", desc := "(IIIIII)Z", sig := { parameters := [.int, .int, .int, .int, .int, .int], returnType := some .boolean }, accessFlags := 9, code := some k1c4 }
/-- com/example/quadledger/quadledger/records/EnrolmentKeyEqualsPinLaw -/
def k1 : Class := { plain "com/example/quadledger/quadledger/records/EnrolmentKeyEqualsPinLaw" (some 0) with
  accessFlags := 49
  interfaces := #[]
  cf := some (fileOf pool1 14 #[] #[{ accessFlags := 1, nameIndex := 5, descriptorIndex := 6, attributes := #[] }, { accessFlags := 10, nameIndex := 23, descriptorIndex := 24, attributes := #[] }, { accessFlags := 10, nameIndex := 34, descriptorIndex := 35, attributes := #[] }, { accessFlags := 10, nameIndex := 17, descriptorIndex := 18, attributes := #[] }, { accessFlags := 9, nameIndex := 41, descriptorIndex := 42, attributes := #[] }] 49 2 #[] #[])
  fields := #[]
  methods := #[k1m0, k1m1, k1m2, k1m3, k1m4]
  instanceTypes := #[]
  staticTypes := #[]
  resolved := Array.replicate 45 none
  statics := none }

def pool2 : Array CpInfo := pool [(1, .class_ 2), (0, u "java/lang/Comparable"), (0, .class_ 4), (0, u "java/lang/Object")] 7

/-- java/lang/Comparable -/
def k2 : Class := { plain "java/lang/Comparable" (some 0) with
  accessFlags := 1537
  interfaces := #[]
  cf := some (fileOf pool2 1 #[] #[] 1537 3 #[] #[])
  fields := #[]
  methods := #[]
  instanceTypes := #[]
  staticTypes := #[]
  resolved := Array.replicate 12 none
  statics := none }

def pool3 : Array CpInfo := pool [(1, .methodref 2 3), (0, .class_ 4), (0, .nameAndType 5 6), (0, u "java/lang/Object"), (0, u "<init>"), (0, u "()V"), (0, .fieldref 8 9), (0, .class_ 10), (0, .nameAndType 11 12), (0, u "com/example/quadledger/quadledger/records/EnrolmentKey"), (0, u "studentId"), (0, u "Ljava/lang/String;"), (0, .fieldref 8 14), (0, .nameAndType 15 12), (0, u "unitCode"), (0, .fieldref 8 17), (0, .nameAndType 18 12), (0, u "teachingPeriod"), (14, u "(Ljava/lang/String;Ljava/lang/String;Ljava/lang/String;)V"), (2, u "IN_ORDER"), (0, u "Ljava/util/Comparator;"), (6, .methodref 45 46), (0, .class_ 47), (0, .nameAndType 48 49), (0, u "java/lang/String"), (0, u "equals"), (0, u "(Ljava/lang/Object;)Z"), (27, .class_ 78), (0, u "java/lang/Comparable"), (2, u "STUDENT_ID"), (1, u "UNIT_CODE"), (0, u "TEACHING_PERIOD")] 53

def k3c0 : Code := { maxStack := 2, maxLocals := 4, code := prog_20_method_1_code, exceptionTable := #[], attributes := #[] }
def k3m0 : Method := { name := "<init>", desc := "(Ljava/lang/String;Ljava/lang/String;Ljava/lang/String;)V", sig := { parameters := [(.object "java/lang/String"), (.object "java/lang/String"), (.object "java/lang/String")], returnType := none }, accessFlags := 1, code := some k3c0 }
def k3c1 : Code := { maxStack := 2, maxLocals := 3, code := prog_20_method_7_code, exceptionTable := #[], attributes := #[] }
def k3m1 : Method := { name := "equals", desc := "(Ljava/lang/Object;)Z", sig := { parameters := [(.object "java/lang/Object")], returnType := some .boolean }, accessFlags := 1, code := some k3c1 }
/-- com/example/quadledger/quadledger/records/EnrolmentKey -/
def k3 : Class := { plain "com/example/quadledger/quadledger/records/EnrolmentKey" (some 0) with
  accessFlags := 33
  interfaces := #[2]
  cf := some (fileOf pool3 8 #[] #[{ accessFlags := 1, nameIndex := 5, descriptorIndex := 33, attributes := #[] }, { accessFlags := 1, nameIndex := 48, descriptorIndex := 49, attributes := #[] }] 33 2 #[77] #[{ accessFlags := 26, nameIndex := 36, descriptorIndex := 37, attributes := #[] }, { accessFlags := 25, nameIndex := 81, descriptorIndex := 12, attributes := #[] }, { accessFlags := 24, nameIndex := 83, descriptorIndex := 12, attributes := #[] }, { accessFlags := 25, nameIndex := 84, descriptorIndex := 12, attributes := #[] }, { accessFlags := 18, nameIndex := 11, descriptorIndex := 12, attributes := #[] }, { accessFlags := 18, nameIndex := 15, descriptorIndex := 12, attributes := #[] }, { accessFlags := 18, nameIndex := 18, descriptorIndex := 12, attributes := #[] }])
  fields := #[{ name := "IN_ORDER", type := (.object "java/util/Comparator"), accessFlags := 26, slot := 0, constantValue := 0 }, { name := "STUDENT_ID", type := (.object "java/lang/String"), accessFlags := 25, slot := 1, constantValue := 0 }, { name := "UNIT_CODE", type := (.object "java/lang/String"), accessFlags := 24, slot := 2, constantValue := 0 }, { name := "TEACHING_PERIOD", type := (.object "java/lang/String"), accessFlags := 25, slot := 3, constantValue := 0 }, { name := "studentId", type := (.object "java/lang/String"), accessFlags := 18, slot := 0, constantValue := 0 }, { name := "unitCode", type := (.object "java/lang/String"), accessFlags := 18, slot := 1, constantValue := 0 }, { name := "teachingPeriod", type := (.object "java/lang/String"), accessFlags := 18, slot := 2, constantValue := 0 }]
  methods := #[k3m0, k3m1]
  instanceTypes := #[(.object "java/lang/String"), (.object "java/lang/String"), (.object "java/lang/String")]
  staticTypes := #[(.object "java/util/Comparator"), (.object "java/lang/String"), (.object "java/lang/String"), (.object "java/lang/String")]
  resolved := Array.replicate 138 none
  statics := none }

def pool4 : Array CpInfo := pool [(1, .class_ 2), (0, u "java/io/Serializable"), (0, .class_ 4), (0, u "java/lang/Object")] 2

/-- java/io/Serializable -/
def k4 : Class := { plain "java/io/Serializable" (some 0) with
  accessFlags := 1537
  interfaces := #[]
  cf := some (fileOf pool4 1 #[] #[] 1537 3 #[] #[])
  fields := #[]
  methods := #[]
  instanceTypes := #[]
  staticTypes := #[]
  resolved := Array.replicate 7 none
  statics := none }

def pool5 : Array CpInfo := pool [(2, .class_ 4), (1, u "java/lang/CharSequence"), (42, .class_ 48), (0, u "java/lang/CharSequence$1CodePointIterator"), (10, .class_ 60), (0, u "java/lang/CharSequence$1CharIterator"), (5, .class_ 67), (0, u "java/lang/Object")] 63

/-- java/lang/CharSequence -/
def k5 : Class := { plain "java/lang/CharSequence" (some 0) with
  accessFlags := 1537
  interfaces := #[]
  cf := some (fileOf pool5 2 #[.nestMembers #[47, 59]] #[] 1537 66 #[] #[])
  fields := #[]
  methods := #[]
  instanceTypes := #[]
  staticTypes := #[]
  resolved := Array.replicate 131 none
  statics := none }

def pool6 : Array CpInfo := pool [(1, .class_ 2), (0, u "java/lang/constant/Constable"), (0, .class_ 4), (0, u "java/lang/Object")] 6

/-- java/lang/constant/Constable -/
def k6 : Class := { plain "java/lang/constant/Constable" (some 0) with
  accessFlags := 1537
  interfaces := #[]
  cf := some (fileOf pool6 1 #[] #[] 1537 3 #[] #[])
  fields := #[]
  methods := #[]
  instanceTypes := #[]
  staticTypes := #[]
  resolved := Array.replicate 11 none
  statics := none }

def pool7 : Array CpInfo := pool [(1, .class_ 2), (0, u "java/lang/constant/ConstantDesc"), (0, .class_ 4), (0, u "java/lang/Object")] 32

/-- java/lang/constant/ConstantDesc -/
def k7 : Class := { plain "java/lang/constant/ConstantDesc" (some 0) with
  accessFlags := 1537
  interfaces := #[]
  cf := some (fileOf pool7 1 #[] #[] 1537 3 #[] #[])
  fields := #[]
  methods := #[]
  instanceTypes := #[]
  staticTypes := #[]
  resolved := Array.replicate 37 none
  statics := none }

def pool8 : Array CpInfo := pool [(1, .methodref 2 3), (0, .class_ 4), (0, .nameAndType 5 6), (0, u "java/lang/Object"), (0, u "<init>"), (0, u "()V"), (0, .string 8), (0, u ""), (0, .fieldref 10 11), (0, .class_ 12), (0, .nameAndType 13 14), (0, u "java/lang/String"), (0, u "value"), (0, u "[B"), (0, .fieldref 10 16), (0, .nameAndType 17 18), (0, u "coder"), (0, u "B"), (2, u "hash"), (0, u "I"), (2, u "hashIsZero"), (0, u "Z"), (0, .methodref 10 28), (0, .nameAndType 5 29), (0, u "([CIILjava/lang/Void;)V"), (8, .fieldref 10 39), (0, .nameAndType 40 26), (0, u "COMPACT_STRINGS"), (1, .class_ 44), (1, u "java/lang/StringUTF16"), (0, u "compress"), (1, .methodref 42 48), (0, .nameAndType 49 50), (0, u "coderFromArrayLen"), (0, u "([BI)B"), (56, .class_ 109), (1, u "java/lang/StringLatin1"), (67, .methodref 42 178), (0, .nameAndType 45 179), (0, u "([CII)[B"), (361, .methodref 107 542), (0, .nameAndType 543 544), (0, u "equals"), (0, u "([B[B)Z"), (28, u "(Ljava/lang/Object;)Z"), (1, .class_ 576), (0, u "java/lang/CharSequence"), (22, u "CASE_INSENSITIVE_ORDER"), (0, u "Ljava/util/Comparator;"), (409, u "([C)V"), (90, u "serialPersistentFields"), (0, u "[Ljava/io/ObjectStreamField;"), (0, .class_ 1104), (0, u "java/lang/String$CaseInsensitiveComparator"), (1, .class_ 1107), (0, u "java/io/Serializable"), (0, .class_ 1109), (0, u "java/lang/Comparable"), (0, .class_ 1111), (0, u "java/lang/constant/Constable"), (0, .class_ 1113), (0, u "java/lang/constant/ConstantDesc"), (2, u "serialVersionUID"), (0, u "J"), (3, u "REPL"), (0, u "C"), (2, u "LATIN1"), (1, u "UTF16")] 323

def k8m0 : Method := { name := "<init>", desc := "()V", sig := { parameters := [], returnType := none }, accessFlags := 1, code := none }
def k8c1 : Code := { maxStack := 5, maxLocals := 2, code := jdk_42_method_3_code, exceptionTable := #[], attributes := #[] }
def k8m1 : Method := { name := "<init>", desc := "([C)V", sig := { parameters := [(.array .char)], returnType := none }, accessFlags := 1, code := some k8c1 }
def k8c2 : Code := { maxStack := 2, maxLocals := 3, code := jdk_42_method_66_code, exceptionTable := #[], attributes := #[] }
def k8m2 : Method := { name := "equals", desc := "(Ljava/lang/Object;)Z", sig := { parameters := [(.object "java/lang/Object")], returnType := some .boolean }, accessFlags := 1, code := some k8c2 }
def k8c3 : Code := { maxStack := 4, maxLocals := 6, code := jdk_42_method_149_code, exceptionTable := #[], attributes := #[] }
def k8m3 : Method := { name := "<init>", desc := "([CIILjava/lang/Void;)V", sig := { parameters := [(.array .char), .int, .int, (.object "java/lang/Void")], returnType := none }, accessFlags := 2, code := some k8c3 }
/-- java/lang/String -/
def k8 : Class := { plain "java/lang/String" (some 0) with
  accessFlags := 49
  interfaces := #[4, 2, 5, 6, 7]
  cf := some (fileOf pool8 10 #[.nestMembers #[1103]] #[{ accessFlags := 1, nameIndex := 5, descriptorIndex := 6, attributes := #[] }, { accessFlags := 1, nameIndex := 5, descriptorIndex := 1010, attributes := #[] }, { accessFlags := 1, nameIndex := 543, descriptorIndex := 573, attributes := #[] }, { accessFlags := 2, nameIndex := 5, descriptorIndex := 29, attributes := #[] }] 49 2 #[1106, 1108, 575, 1110, 1112] #[{ accessFlags := 18, nameIndex := 13, descriptorIndex := 14, attributes := #[] }, { accessFlags := 18, nameIndex := 17, descriptorIndex := 18, attributes := #[] }, { accessFlags := 2, nameIndex := 21, descriptorIndex := 22, attributes := #[] }, { accessFlags := 2, nameIndex := 25, descriptorIndex := 26, attributes := #[] }, { accessFlags := 26, nameIndex := 1116, descriptorIndex := 1117, attributes := #[] }, { accessFlags := 24, nameIndex := 40, descriptorIndex := 26, attributes := #[] }, { accessFlags := 26, nameIndex := 1101, descriptorIndex := 1102, attributes := #[] }, { accessFlags := 26, nameIndex := 1121, descriptorIndex := 1122, attributes := #[] }, { accessFlags := 25, nameIndex := 599, descriptorIndex := 600, attributes := #[] }, { accessFlags := 24, nameIndex := 1125, descriptorIndex := 18, attributes := #[] }, { accessFlags := 24, nameIndex := 1127, descriptorIndex := 18, attributes := #[] }])
  fields := #[{ name := "value", type := (.array .byte), accessFlags := 18, slot := 0, constantValue := 0 }, { name := "coder", type := .byte, accessFlags := 18, slot := 1, constantValue := 0 }, { name := "hash", type := .int, accessFlags := 2, slot := 2, constantValue := 0 }, { name := "hashIsZero", type := .boolean, accessFlags := 2, slot := 3, constantValue := 0 }, { name := "serialVersionUID", type := .long, accessFlags := 26, slot := 0, constantValue := 0 }, { name := "COMPACT_STRINGS", type := .boolean, accessFlags := 24, slot := 1, constantValue := 0 }, { name := "serialPersistentFields", type := (.array (.object "java/io/ObjectStreamField")), accessFlags := 26, slot := 2, constantValue := 0 }, { name := "REPL", type := .char, accessFlags := 26, slot := 3, constantValue := 0 }, { name := "CASE_INSENSITIVE_ORDER", type := (.object "java/util/Comparator"), accessFlags := 25, slot := 4, constantValue := 0 }, { name := "LATIN1", type := .byte, accessFlags := 24, slot := 5, constantValue := 0 }, { name := "UTF16", type := .byte, accessFlags := 24, slot := 6, constantValue := 0 }]
  methods := #[k8m0, k8m1, k8m2, k8m3]
  instanceTypes := #[(.array .byte), .byte, .int, .boolean]
  staticTypes := #[.long, .boolean, (.array (.object "java/io/ObjectStreamField")), .char, (.object "java/util/Comparator"), .byte, .byte]
  resolved := Array.replicate 1451 none
  statics := some 0 }

def pool9 : Array CpInfo := pool [(6, .class_ 8), (1, u "java/lang/Object"), (0, u "<init>"), (0, u "()V"), (1, .class_ 14), (1, u "java/lang/StringUTF16"), (31, u "$assertionsDisabled"), (0, u "Z"), (13, u "HI_BYTE_SHIFT"), (0, u "I"), (2, u "LO_BYTE_SHIFT"), (49, .methodref 12 116), (0, .nameAndType 117 118), (0, u "compress"), (0, u "([CI[BII)I"), (3, u "([CII)[B"), (138, u "coderFromArrayLen"), (0, u "([BI)B"), (106, .class_ 371), (1, u "java/lang/StringUTF16$LinesSpliterator"), (58, u "MAX_LENGTH"), (196, .class_ 628), (0, u "java/lang/StringUTF16$CodePointsSpliterator"), (0, .class_ 630), (0, u "java/lang/StringUTF16$CharsSpliterator")] 4

def k9m0 : Method := { name := "<init>", desc := "()V", sig := { parameters := [], returnType := none }, accessFlags := 0, code := none }
def k9c1 : Code := { maxStack := 2, maxLocals := 2, code := jdk_52_method_15_code, exceptionTable := #[], attributes := #[] }
def k9m1 : Method := { name := "coderFromArrayLen", desc := "([BI)B", sig := { parameters := [(.array .byte), .int], returnType := some .byte }, accessFlags := 8, code := some k9c1 }
def k9c2 : Code := { maxStack := 5, maxLocals := 6, code := jdk_52_method_16_code, exceptionTable := #[], attributes := #[] }
def k9m2 : Method := { name := "compress", desc := "([CII)[B", sig := { parameters := [(.array .char), .int, .int], returnType := some (.array .byte) }, accessFlags := 9, code := some k9c2 }
def k9c3 : Code := { maxStack := 3, maxLocals := 7, code := jdk_52_method_21_code, exceptionTable := #[], attributes := #[] }
def k9m3 : Method := { name := "compress", desc := "([CI[BII)I", sig := { parameters := [(.array .char), .int, (.array .byte), .int, .int], returnType := some .int }, accessFlags := 9, code := some k9c3 }
/-- java/lang/StringUTF16 -/
def k9 : Class := { plain "java/lang/StringUTF16" (some 0) with
  accessFlags := 48
  interfaces := #[]
  cf := some (fileOf pool9 12 #[.nestMembers #[627, 629, 369]] #[{ accessFlags := 0, nameIndex := 9, descriptorIndex := 10, attributes := #[] }, { accessFlags := 8, nameIndex := 261, descriptorIndex := 262, attributes := #[] }, { accessFlags := 9, nameIndex := 117, descriptorIndex := 122, attributes := #[] }, { accessFlags := 9, nameIndex := 117, descriptorIndex := 118, attributes := #[] }] 48 6 #[] #[{ accessFlags := 26, nameIndex := 61, descriptorIndex := 62, attributes := #[] }, { accessFlags := 26, nameIndex := 65, descriptorIndex := 62, attributes := #[] }, { accessFlags := 24, nameIndex := 430, descriptorIndex := 62, attributes := #[] }, { accessFlags := 4120, nameIndex := 46, descriptorIndex := 47, attributes := #[] }])
  fields := #[{ name := "HI_BYTE_SHIFT", type := .int, accessFlags := 26, slot := 0, constantValue := 0 }, { name := "LO_BYTE_SHIFT", type := .int, accessFlags := 26, slot := 1, constantValue := 0 }, { name := "MAX_LENGTH", type := .int, accessFlags := 24, slot := 2, constantValue := 0 }, { name := "$assertionsDisabled", type := .boolean, accessFlags := 4120, slot := 3, constantValue := 0 }]
  methods := #[k9m0, k9m1, k9m2, k9m3]
  instanceTypes := #[]
  staticTypes := #[.int, .int, .int, .boolean]
  resolved := Array.replicate 635 none
  statics := none }

def pool10 : Array CpInfo := pool [(4, .class_ 6), (1, u "java/lang/Object"), (0, u "<init>"), (0, u "()V"), (5, .class_ 16), (1, u "java/lang/StringLatin1"), (104, u "$assertionsDisabled"), (0, u "Z"), (98, .class_ 223), (1, u "java/lang/StringLatin1$LinesSpliterator"), (57, u "equals"), (0, u "([B[B)Z"), (107, .class_ 391), (0, u "java/lang/StringLatin1$CharsSpliterator")] 3

def k10m0 : Method := { name := "<init>", desc := "()V", sig := { parameters := [], returnType := none }, accessFlags := 0, code := none }
def k10c1 : Code := { maxStack := 3, maxLocals := 3, code := jdk_43_method_13_code, exceptionTable := #[], attributes := #[] }
def k10m1 : Method := { name := "equals", desc := "([B[B)Z", sig := { parameters := [(.array .byte), (.array .byte)], returnType := some .boolean }, accessFlags := 9, code := some k10c1 }
/-- java/lang/StringLatin1 -/
def k10 : Class := { plain "java/lang/StringLatin1" (some 0) with
  accessFlags := 48
  interfaces := #[]
  cf := some (fileOf pool10 14 #[.nestMembers #[390, 221]] #[{ accessFlags := 0, nameIndex := 7, descriptorIndex := 8, attributes := #[] }, { accessFlags := 9, nameIndex := 281, descriptorIndex := 282, attributes := #[] }] 48 4 #[] #[{ accessFlags := 4120, nameIndex := 121, descriptorIndex := 122, attributes := #[] }])
  fields := #[{ name := "$assertionsDisabled", type := .boolean, accessFlags := 4120, slot := 0, constantValue := 0 }]
  methods := #[k10m0, k10m1]
  instanceTypes := #[]
  staticTypes := #[.boolean]
  resolved := Array.replicate 395 none
  statics := none }

def pool11 : Array CpInfo := pool [(2, .class_ 4), (1, u "java/lang/Object"), (0, u "<init>"), (0, u "()V"), (17, .class_ 26), (1, u "jdk/internal/util/Preconditions"), (28, .class_ 56), (0, u "jdk/internal/util/Preconditions$4"), (57, .class_ 115), (0, u "jdk/internal/util/Preconditions$1"), (7, u "SIOOBE_FORMATTER"), (0, u "Ljava/util/function/BiFunction;"), (0, .class_ 126), (0, u "jdk/internal/util/Preconditions$2"), (3, u "AIOOBE_FORMATTER"), (0, .class_ 132), (0, u "jdk/internal/util/Preconditions$3"), (3, u "IOOBE_FORMATTER")] 57

def k11m0 : Method := { name := "<init>", desc := "()V", sig := { parameters := [], returnType := none }, accessFlags := 1, code := none }
/-- jdk/internal/util/Preconditions -/
def k11 : Class := { plain "jdk/internal/util/Preconditions" (some 0) with
  accessFlags := 33
  interfaces := #[]
  cf := some (fileOf pool11 24 #[.nestMembers #[55, 131, 125, 114]] #[{ accessFlags := 1, nameIndex := 5, descriptorIndex := 6, attributes := #[] }] 33 2 #[] #[{ accessFlags := 25, nameIndex := 123, descriptorIndex := 124, attributes := #[] }, { accessFlags := 25, nameIndex := 130, descriptorIndex := 124, attributes := #[] }, { accessFlags := 25, nameIndex := 136, descriptorIndex := 124, attributes := #[] }])
  fields := #[{ name := "SIOOBE_FORMATTER", type := (.object "java/util/function/BiFunction"), accessFlags := 25, slot := 0, constantValue := 0 }, { name := "AIOOBE_FORMATTER", type := (.object "java/util/function/BiFunction"), accessFlags := 25, slot := 1, constantValue := 0 }, { name := "IOOBE_FORMATTER", type := (.object "java/util/function/BiFunction"), accessFlags := 25, slot := 2, constantValue := 0 }]
  methods := #[k11m0]
  instanceTypes := #[]
  staticTypes := #[(.object "java/util/function/BiFunction"), (.object "java/util/function/BiFunction"), (.object "java/util/function/BiFunction")]
  resolved := Array.replicate 194 none
  statics := some 1 }

def pool12 : Array CpInfo := pool [(9, u "<init>"), (6, .class_ 18), (1, u "java/lang/Object"), (0, u "()V"), (1, .class_ 23), (1, u "jdk/internal/util/ArraysSupport"), (0, u "LOG2_ARRAY_LONG_INDEX_SCALE"), (0, u "I"), (2, u "U"), (0, u "Ljdk/internal/misc/Unsafe;"), (8, u "BIG_ENDIAN"), (0, u "Z"), (8, u "LOG2_BYTE_BIT_SIZE"), (4, u "LOG2_ARRAY_INT_INDEX_SCALE"), (54, u "JLA"), (0, u "Ljdk/internal/access/JavaLangAccess;"), (11, u "LOG2_ARRAY_BOOLEAN_INDEX_SCALE"), (9, u "LOG2_ARRAY_BYTE_INDEX_SCALE"), (5, u "LOG2_ARRAY_CHAR_INDEX_SCALE"), (5, u "LOG2_ARRAY_SHORT_INDEX_SCALE"), (18, u "LOG2_ARRAY_FLOAT_INDEX_SCALE"), (24, u "LOG2_ARRAY_DOUBLE_INDEX_SCALE"), (89, u "T_BOOLEAN"), (2, u "T_CHAR"), (1, u "T_FLOAT"), (1, u "T_DOUBLE"), (1, u "T_BYTE"), (1, u "T_SHORT"), (1, u "T_INT"), (1, u "T_LONG"), (1, u "SOFT_MAX_ARRAY_LENGTH")] 83

def k12m0 : Method := { name := "<init>", desc := "()V", sig := { parameters := [], returnType := none }, accessFlags := 2, code := none }
/-- jdk/internal/util/ArraysSupport -/
def k12 : Class := { plain "jdk/internal/util/ArraysSupport" (some 0) with
  accessFlags := 33
  interfaces := #[]
  cf := some (fileOf pool12 21 #[] #[{ accessFlags := 2, nameIndex := 9, descriptorIndex := 19, attributes := #[] }] 33 16 #[] #[{ accessFlags := 24, nameIndex := 28, descriptorIndex := 29, attributes := #[] }, { accessFlags := 26, nameIndex := 38, descriptorIndex := 39, attributes := #[] }, { accessFlags := 25, nameIndex := 121, descriptorIndex := 25, attributes := #[] }, { accessFlags := 25, nameIndex := 131, descriptorIndex := 25, attributes := #[] }, { accessFlags := 25, nameIndex := 137, descriptorIndex := 25, attributes := #[] }, { accessFlags := 25, nameIndex := 143, descriptorIndex := 25, attributes := #[] }, { accessFlags := 25, nameIndex := 53, descriptorIndex := 25, attributes := #[] }, { accessFlags := 25, nameIndex := 24, descriptorIndex := 25, attributes := #[] }, { accessFlags := 25, nameIndex := 162, descriptorIndex := 25, attributes := #[] }, { accessFlags := 25, nameIndex := 187, descriptorIndex := 25, attributes := #[] }, { accessFlags := 26, nameIndex := 48, descriptorIndex := 25, attributes := #[] }, { accessFlags := 25, nameIndex := 277, descriptorIndex := 25, attributes := #[] }, { accessFlags := 25, nameIndex := 280, descriptorIndex := 25, attributes := #[] }, { accessFlags := 25, nameIndex := 282, descriptorIndex := 25, attributes := #[] }, { accessFlags := 25, nameIndex := 284, descriptorIndex := 25, attributes := #[] }, { accessFlags := 25, nameIndex := 286, descriptorIndex := 25, attributes := #[] }, { accessFlags := 25, nameIndex := 288, descriptorIndex := 25, attributes := #[] }, { accessFlags := 25, nameIndex := 290, descriptorIndex := 25, attributes := #[] }, { accessFlags := 25, nameIndex := 292, descriptorIndex := 25, attributes := #[] }, { accessFlags := 26, nameIndex := 108, descriptorIndex := 109, attributes := #[] }, { accessFlags := 25, nameIndex := 294, descriptorIndex := 25, attributes := #[] }])
  fields := #[{ name := "U", type := (.object "jdk/internal/misc/Unsafe"), accessFlags := 24, slot := 0, constantValue := 0 }, { name := "BIG_ENDIAN", type := .boolean, accessFlags := 26, slot := 1, constantValue := 0 }, { name := "LOG2_ARRAY_BOOLEAN_INDEX_SCALE", type := .int, accessFlags := 25, slot := 2, constantValue := 0 }, { name := "LOG2_ARRAY_BYTE_INDEX_SCALE", type := .int, accessFlags := 25, slot := 3, constantValue := 0 }, { name := "LOG2_ARRAY_CHAR_INDEX_SCALE", type := .int, accessFlags := 25, slot := 4, constantValue := 0 }, { name := "LOG2_ARRAY_SHORT_INDEX_SCALE", type := .int, accessFlags := 25, slot := 5, constantValue := 0 }, { name := "LOG2_ARRAY_INT_INDEX_SCALE", type := .int, accessFlags := 25, slot := 6, constantValue := 0 }, { name := "LOG2_ARRAY_LONG_INDEX_SCALE", type := .int, accessFlags := 25, slot := 7, constantValue := 0 }, { name := "LOG2_ARRAY_FLOAT_INDEX_SCALE", type := .int, accessFlags := 25, slot := 8, constantValue := 0 }, { name := "LOG2_ARRAY_DOUBLE_INDEX_SCALE", type := .int, accessFlags := 25, slot := 9, constantValue := 0 }, { name := "LOG2_BYTE_BIT_SIZE", type := .int, accessFlags := 26, slot := 10, constantValue := 0 }, { name := "T_BOOLEAN", type := .int, accessFlags := 25, slot := 11, constantValue := 0 }, { name := "T_CHAR", type := .int, accessFlags := 25, slot := 12, constantValue := 0 }, { name := "T_FLOAT", type := .int, accessFlags := 25, slot := 13, constantValue := 0 }, { name := "T_DOUBLE", type := .int, accessFlags := 25, slot := 14, constantValue := 0 }, { name := "T_BYTE", type := .int, accessFlags := 25, slot := 15, constantValue := 0 }, { name := "T_SHORT", type := .int, accessFlags := 25, slot := 16, constantValue := 0 }, { name := "T_INT", type := .int, accessFlags := 25, slot := 17, constantValue := 0 }, { name := "T_LONG", type := .int, accessFlags := 25, slot := 18, constantValue := 0 }, { name := "JLA", type := (.object "jdk/internal/access/JavaLangAccess"), accessFlags := 26, slot := 19, constantValue := 0 }, { name := "SOFT_MAX_ARRAY_LENGTH", type := .int, accessFlags := 25, slot := 20, constantValue := 0 }]
  methods := #[k12m0]
  instanceTypes := #[]
  staticTypes := #[(.object "jdk/internal/misc/Unsafe"), .boolean, .int, .int, .int, .int, .int, .int, .int, .int, .int, .int, .int, .int, .int, .int, .int, .int, .int, (.object "jdk/internal/access/JavaLangAccess"), .int]
  resolved := Array.replicate 378 none
  statics := none }

def pool13 : Array CpInfo := pool [(1, u "java/lang/Cloneable"), (0, .class_ 1), (0, u "java/lang/Object"), (0, .class_ 3)] 3

/-- java/lang/Cloneable -/
def k13 : Class := { plain "java/lang/Cloneable" (some 0) with
  accessFlags := 1537
  interfaces := #[]
  cf := some (fileOf pool13 2 #[] #[] 1537 4 #[] #[])
  fields := #[]
  methods := #[]
  instanceTypes := #[]
  staticTypes := #[]
  resolved := Array.replicate 8 none
  statics := none }

/-- the primitive byte -/
def k14 : Class := { plain "byte" none with kind := .primitive 'B', accessFlags := 0x411 }
/-- [B -/
def k15 : Class := { plain "[B" (some 0) with kind := .array 14 .byte, interfaces := #[13, 4], accessFlags := 1041 }

/-- the primitive char -/
def k16 : Class := { plain "char" none with kind := .primitive 'C', accessFlags := 0x411 }
/-- [C -/
def k17 : Class := { plain "[C" (some 0) with kind := .array 16 .char, interfaces := #[13, 4], accessFlags := 1041 }

/-- the primitive int -/
def k18 : Class := { plain "int" none with kind := .primitive 'I', accessFlags := 0x411 }
/-- [I -/
def k19 : Class := { plain "[I" (some 0) with kind := .array 18 .int, interfaces := #[13, 4], accessFlags := 1041 }

def heap : Heap := #[{ cls := 8, slots := #[.long 0, .int 1, .null, .int 0, .null, .int 0, .int 0], vm := .statics 8 },
  { cls := 11, slots := #[.null, .null, .null], vm := .statics 11 }]
def classes : Array Class := #[k0, k1, k2, k3, k4, k5, k6, k7, k8, k9, k10, k11, k12, k13, k14, k15, k16, k17, k18, k19]
def interned : List (Array UInt16 × Addr) := []
def slotsUsed : Nat := 10
def theMethod : MethodId := ⟨1, 4⟩
def args0 : Array Value := #[.int 5, .int 6, .int 7, .int 8, .int 9, .int 10]
def aboutOver (below : List Frame) : State where
  vm := { classes := classes, interned := interned.toArray }
  heap := heap
  slotsUsed := slotsUsed
  threads := #[{ frames := .invoking theMethod args0 :: below }]
def below0 : List Frame := [.native { method := ⟨0, 0⟩, args := #[] }]
def about1 : State := aboutOver below0
def p0 : Program := .bare "" "" ""
def e0 : Env := launch0.env 0 0 0
theorem w_frames : about1.frames = Frame.invoking theMethod args0 :: below0 := rfl
set_option maxRecDepth 65536 in
theorem w_args : argsFit about1.vm theMethod args0 = true := by decide +kernel
set_option maxRecDepth 65536 in
theorem w_heap : heapFits about1 = true := by decide +kernel
set_option maxRecDepth 65536 in
theorem w_runnable : about1.curStatus? = some .runnable := by decide +kernel
set_option maxRecDepth 65536 in
theorem w_alone : about1.alone = true := by decide +kernel
set_option maxRecDepth 65536 in
theorem w_named : about1.methodNamed? x = some theMethod := by decide +kernel
set_option maxRecDepth 65536 in
theorem w_hears : about1.hears theMethod below0 = true := by decide +kernel
set_option maxRecDepth 65536 in
theorem w_ripe : about1.ripe theMethod args0 below0 = true := by decide +kernel
theorem w_running : about1.status = .running := rfl
set_option maxRecDepth 65536 in
theorem w_room : about1.hasRoom e0.platform room_1 = true :=
  launch0.hasRoom_least _ room_1 (by decide +kernel) (by decide +kernel) (by decide +kernel) (by decide +kernel) (by decide +kernel) (by decide +kernel)
theorem allAtoms_all (ts : List Jvm.Cond) (a : Array Jvm.Value) (st : Jvm.State) : (allAtoms ts).before a st = ts.all (fun c => c.before a st) := by
  induction ts with
  | nil => rfl
  | cons c t ih =>
    show (Jvm.Cond.and c (allAtoms t)).before a st = _
    rw [Jvm.Cond.before_and, ih, List.all_cons]
def words1 : List Jvm.Cond := Jvm.Cond.code x code maxLocals ret :: tables_1
/-- a 'code' word, met by the world's own term for the bytes: nothing is compared byte by byte -/
theorem code_word {y : MethodName} {bytes : ByteArray} {mx : Nat} {rt : Option FieldType} {a : Array Value} {s : State} {m : MethodId} {meth : Method} {c : Code} (h1 : s.methodNamed? y = some m) (h2 : s.vm.method? m = some meth) (h3 : meth.code = some c) (h4 : c.code = bytes)
    (h5 : (c.maxLocals == mx && c.exceptionTable.isEmpty && decide (c.maxStack ≤ mostOperands) && decide (meth.sig.returnType = rt) && !meth.locks && decide (parseMethodDescriptor y.desc = some meth.sig)) = true) : (Jvm.Cond.code y bytes mx rt).before a s = true := by
  simp only [Bool.and_eq_true, beq_iff_eq, Bool.not_eq_true', decide_eq_true_eq] at h5
  obtain ⟨⟨⟨⟨⟨g1, g2⟩, g3⟩, g4⟩, g5⟩, g6⟩ := h5
  simp [Cond.before, Cond.holds, Cond.value, h1, h2, h3, h4, g1, g2, g3, g4, g5, g6]
def isCode : Jvm.Cond → Bool
  | .code _ _ _ _ => true
  | _ => false
theorem all_split {L : List Jvm.Cond} {P : Jvm.Cond → Bool} (h1 : L.all (fun c => isCode c || P c) = true) (h2 : ∀ c ∈ L.filter isCode, P c = true) : L.all P = true := by
  refine List.all_eq_true.mpr fun c hc => ?_
  have h := List.all_eq_true.mp h1 c hc
  rcases Bool.eq_false_or_eq_true (isCode c) with hi | hi
  · exact h2 c (List.mem_filter.mpr ⟨hc, hi⟩)
  · simpa [hi] using h
set_option maxRecDepth 65536 in
theorem w_c0 : (Jvm.Cond.code x code maxLocals ret).before args0 about1 = true := code_word (m := ⟨1, 4⟩) (meth := k1m4) (c := k1c4) (by decide +kernel) rfl rfl rfl (by decide +kernel)
set_option maxRecDepth 65536 in
theorem w_c1 : (Jvm.Cond.code ({ cls := "com/example/quadledger/quadledger/records/EnrolmentKeyEqualsPinLaw", name := "partner", desc := "(II)I" } : Jvm.MethodName) method_4_code (2 : Nat) (Option.some Jvm.ClassFile.FieldType.int)).before args0 about1 = true := code_word (m := ⟨1, 3⟩) (meth := k1m3) (c := k1c3) (by decide +kernel) rfl rfl rfl (by decide +kernel)
set_option maxRecDepth 65536 in
theorem w_c2 : (Jvm.Cond.code ({ cls := "com/example/quadledger/quadledger/records/EnrolmentKeyEqualsPinLaw", name := "mk", desc := "(I)Ljava/lang/String;" } : Jvm.MethodName) method_2_code (3 : Nat) (Option.some (Jvm.ClassFile.FieldType.object "java/lang/String"))).before args0 about1 = true := code_word (m := ⟨1, 1⟩) (meth := k1m1) (c := k1c1) (by decide +kernel) rfl rfl rfl (by decide +kernel)
set_option maxRecDepth 65536 in
theorem w_c3 : (Jvm.Cond.code ({ cls := "java/lang/String", name := "<init>", desc := "([C)V" } : Jvm.MethodName) jdk_42_method_3_code (2 : Nat) (Option.none : Option Jvm.ClassFile.FieldType)).before args0 about1 = true := code_word (m := ⟨8, 1⟩) (meth := k8m1) (c := k8c1) (by decide +kernel) rfl rfl rfl (by decide +kernel)
set_option maxRecDepth 65536 in
theorem w_c4 : (Jvm.Cond.code ({ cls := "java/lang/String", name := "<init>", desc := "([CIILjava/lang/Void;)V" } : Jvm.MethodName) jdk_42_method_149_code (6 : Nat) (Option.none : Option Jvm.ClassFile.FieldType)).before args0 about1 = true := code_word (m := ⟨8, 3⟩) (meth := k8m3) (c := k8c3) (by decide +kernel) rfl rfl rfl (by decide +kernel)
set_option maxRecDepth 65536 in
theorem w_c5 : (Jvm.Cond.code ({ cls := "java/lang/Object", name := "<init>", desc := "()V" } : Jvm.MethodName) object_method_1_code (1 : Nat) (Option.none : Option Jvm.ClassFile.FieldType)).before args0 about1 = true := code_word (m := ⟨0, 0⟩) (meth := k0m0) (c := k0c0) (by decide +kernel) rfl rfl rfl (by decide +kernel)
set_option maxRecDepth 65536 in
theorem w_c6 : (Jvm.Cond.code ({ cls := "java/lang/StringUTF16", name := "compress", desc := "([CII)[B" } : Jvm.MethodName) jdk_52_method_16_code (6 : Nat) (Option.some (Jvm.ClassFile.FieldType.array Jvm.ClassFile.FieldType.byte))).before args0 about1 = true := code_word (m := ⟨9, 2⟩) (meth := k9m2) (c := k9c2) (by decide +kernel) rfl rfl rfl (by decide +kernel)
set_option maxRecDepth 65536 in
theorem w_c7 : (Jvm.Cond.code ({ cls := "java/lang/StringUTF16", name := "compress", desc := "([CI[BII)I" } : Jvm.MethodName) jdk_52_method_21_code (7 : Nat) (Option.some Jvm.ClassFile.FieldType.int)).before args0 about1 = true := code_word (m := ⟨9, 3⟩) (meth := k9m3) (c := k9c3) (by decide +kernel) rfl rfl rfl (by decide +kernel)
set_option maxRecDepth 65536 in
theorem w_c8 : (Jvm.Cond.code ({ cls := "java/lang/StringUTF16", name := "coderFromArrayLen", desc := "([BI)B" } : Jvm.MethodName) jdk_52_method_15_code (2 : Nat) (Option.some Jvm.ClassFile.FieldType.byte)).before args0 about1 = true := code_word (m := ⟨9, 1⟩) (meth := k9m1) (c := k9c1) (by decide +kernel) rfl rfl rfl (by decide +kernel)
set_option maxRecDepth 65536 in
theorem w_c9 : (Jvm.Cond.code ({ cls := "com/example/quadledger/quadledger/records/EnrolmentKey", name := "<init>", desc := "(Ljava/lang/String;Ljava/lang/String;Ljava/lang/String;)V" } : Jvm.MethodName) prog_20_method_1_code (4 : Nat) (Option.none : Option Jvm.ClassFile.FieldType)).before args0 about1 = true := code_word (m := ⟨3, 0⟩) (meth := k3m0) (c := k3c0) (by decide +kernel) rfl rfl rfl (by decide +kernel)
set_option maxRecDepth 65536 in
theorem w_c10 : (Jvm.Cond.code ({ cls := "com/example/quadledger/quadledger/records/EnrolmentKeyEqualsPinLaw", name := "same", desc := "(II)Z" } : Jvm.MethodName) method_3_code (3 : Nat) (Option.some Jvm.ClassFile.FieldType.boolean)).before args0 about1 = true := code_word (m := ⟨1, 2⟩) (meth := k1m2) (c := k1c2) (by decide +kernel) rfl rfl rfl (by decide +kernel)
set_option maxRecDepth 65536 in
theorem w_c11 : (Jvm.Cond.code ({ cls := "com/example/quadledger/quadledger/records/EnrolmentKey", name := "equals", desc := "(Ljava/lang/Object;)Z" } : Jvm.MethodName) prog_20_method_7_code (3 : Nat) (Option.some Jvm.ClassFile.FieldType.boolean)).before args0 about1 = true := code_word (m := ⟨3, 1⟩) (meth := k3m1) (c := k3c1) (by decide +kernel) rfl rfl rfl (by decide +kernel)
set_option maxRecDepth 65536 in
theorem w_c12 : (Jvm.Cond.code ({ cls := "java/lang/String", name := "equals", desc := "(Ljava/lang/Object;)Z" } : Jvm.MethodName) jdk_42_method_66_code (3 : Nat) (Option.some Jvm.ClassFile.FieldType.boolean)).before args0 about1 = true := code_word (m := ⟨8, 2⟩) (meth := k8m2) (c := k8c2) (by decide +kernel) rfl rfl rfl (by decide +kernel)
set_option maxRecDepth 65536 in
theorem w_c13 : (Jvm.Cond.code ({ cls := "java/lang/StringLatin1", name := "equals", desc := "([B[B)Z" } : Jvm.MethodName) jdk_43_method_13_code (3 : Nat) (Option.some Jvm.ClassFile.FieldType.boolean)).before args0 about1 = true := code_word (m := ⟨10, 1⟩) (meth := k10m1) (c := k10c1) (by decide +kernel) rfl rfl rfl (by decide +kernel)
def codes1 : List Jvm.Cond := [Jvm.Cond.code x code maxLocals ret, Jvm.Cond.code ({ cls := "com/example/quadledger/quadledger/records/EnrolmentKeyEqualsPinLaw", name := "partner", desc := "(II)I" } : Jvm.MethodName) method_4_code (2 : Nat) (Option.some Jvm.ClassFile.FieldType.int), Jvm.Cond.code ({ cls := "com/example/quadledger/quadledger/records/EnrolmentKeyEqualsPinLaw", name := "mk", desc := "(I)Ljava/lang/String;" } : Jvm.MethodName) method_2_code (3 : Nat) (Option.some (Jvm.ClassFile.FieldType.object "java/lang/String")), Jvm.Cond.code ({ cls := "java/lang/String", name := "<init>", desc := "([C)V" } : Jvm.MethodName) jdk_42_method_3_code (2 : Nat) (Option.none : Option Jvm.ClassFile.FieldType), Jvm.Cond.code ({ cls := "java/lang/String", name := "<init>", desc := "([CIILjava/lang/Void;)V" } : Jvm.MethodName) jdk_42_method_149_code (6 : Nat) (Option.none : Option Jvm.ClassFile.FieldType), Jvm.Cond.code ({ cls := "java/lang/Object", name := "<init>", desc := "()V" } : Jvm.MethodName) object_method_1_code (1 : Nat) (Option.none : Option Jvm.ClassFile.FieldType), Jvm.Cond.code ({ cls := "java/lang/StringUTF16", name := "compress", desc := "([CII)[B" } : Jvm.MethodName) jdk_52_method_16_code (6 : Nat) (Option.some (Jvm.ClassFile.FieldType.array Jvm.ClassFile.FieldType.byte)), Jvm.Cond.code ({ cls := "java/lang/StringUTF16", name := "compress", desc := "([CI[BII)I" } : Jvm.MethodName) jdk_52_method_21_code (7 : Nat) (Option.some Jvm.ClassFile.FieldType.int), Jvm.Cond.code ({ cls := "java/lang/StringUTF16", name := "coderFromArrayLen", desc := "([BI)B" } : Jvm.MethodName) jdk_52_method_15_code (2 : Nat) (Option.some Jvm.ClassFile.FieldType.byte), Jvm.Cond.code ({ cls := "com/example/quadledger/quadledger/records/EnrolmentKey", name := "<init>", desc := "(Ljava/lang/String;Ljava/lang/String;Ljava/lang/String;)V" } : Jvm.MethodName) prog_20_method_1_code (4 : Nat) (Option.none : Option Jvm.ClassFile.FieldType), Jvm.Cond.code ({ cls := "com/example/quadledger/quadledger/records/EnrolmentKeyEqualsPinLaw", name := "same", desc := "(II)Z" } : Jvm.MethodName) method_3_code (3 : Nat) (Option.some Jvm.ClassFile.FieldType.boolean), Jvm.Cond.code ({ cls := "com/example/quadledger/quadledger/records/EnrolmentKey", name := "equals", desc := "(Ljava/lang/Object;)Z" } : Jvm.MethodName) prog_20_method_7_code (3 : Nat) (Option.some Jvm.ClassFile.FieldType.boolean), Jvm.Cond.code ({ cls := "java/lang/String", name := "equals", desc := "(Ljava/lang/Object;)Z" } : Jvm.MethodName) jdk_42_method_66_code (3 : Nat) (Option.some Jvm.ClassFile.FieldType.boolean), Jvm.Cond.code ({ cls := "java/lang/StringLatin1", name := "equals", desc := "([B[B)Z" } : Jvm.MethodName) jdk_43_method_13_code (3 : Nat) (Option.some Jvm.ClassFile.FieldType.boolean)]
set_option maxRecDepth 65536 in
theorem codes_eq : words1.filter isCode = codes1 := rfl
theorem w_codes : ∀ c ∈ words1.filter isCode, c.before args0 about1 = true := by
  rw [codes_eq]
  intro c hc
  simp only [codes1, List.mem_cons, List.not_mem_nil, or_false] at hc
  rcases hc with rfl | rfl | rfl | rfl | rfl | rfl | rfl | rfl | rfl | rfl | rfl | rfl | rfl | rfl
  · exact w_c0
  · exact w_c1
  · exact w_c2
  · exact w_c3
  · exact w_c4
  · exact w_c5
  · exact w_c6
  · exact w_c7
  · exact w_c8
  · exact w_c9
  · exact w_c10
  · exact w_c11
  · exact w_c12
  · exact w_c13
set_option maxRecDepth 65536 in
theorem w_t1 : (words1.take 24).all (fun c => isCode c || c.before args0 about1) = true := by decide +kernel
set_option maxRecDepth 65536 in
theorem w_t2 : ((words1.drop 24).take 24).all (fun c => isCode c || c.before args0 about1) = true := by decide +kernel
set_option maxRecDepth 65536 in
theorem w_t3 : (((words1.drop 24).drop 24).take 24).all (fun c => isCode c || c.before args0 about1) = true := by decide +kernel
set_option maxRecDepth 65536 in
theorem w_t4 : (((words1.drop 24).drop 24).drop 24).all (fun c => isCode c || c.before args0 about1) = true := by decide +kernel
theorem w_tables : (allAtoms (Jvm.Cond.code x code maxLocals ret :: tables_1)).before args0 about1 = true := by
  rw [allAtoms_all]
  show words1.all (fun c => c.before args0 about1) = true
  refine all_split ?_ w_codes
  rw [← List.take_append_drop 24 words1, List.all_append, w_t1, ← List.take_append_drop 24 (words1.drop 24), List.all_append, w_t2, ← List.take_append_drop 24 ((words1.drop 24).drop 24), List.all_append, w_t3, w_t4]
  rfl
set_option maxRecDepth 65536 in
theorem w_rest : rest_1_c.before args0 about1 = true := by decide +kernel
set_option maxRecDepth 65536 in
theorem w_case : (Jvm.Cond.and given_1 narrow_1).before args0 about1 = true := by decide +kernel
set_option maxRecDepth 65536 in
theorem w_consts : constsHeld consts_1 about1 := Jvm.Lit.constsHeldB_iff.mp (by decide +kernel)
theorem w_applies : (headSpec (Jvm.Cond.code x code maxLocals ret :: tables_1) room_1).applies x e0.platform about1 = true :=
  (Spec.applies_iff w_frames).mpr ⟨w_running, w_runnable, w_alone, w_named, w_hears, w_ripe, w_room, w_tables⟩
theorem atStart : AtStart classFile x code maxLocals ret World_1 tables_1 room_1 Calls_1 rest_1 Pre_1 launch0 p0 e0 about1 theMethod args0 below0 :=
  ⟨lists_1, trivial, launch0.admits_env _ _ _, launch0.least_env, fairChoices_fair.cas, fairChoices_fair.clock, w_frames, w_args, w_heap, w_applies, ⟨w_consts, trivial⟩, w_rest, w_case⟩
end start1
theorem witness_1 : WitnessClaimed_1 := ⟨start1.p0, start1.e0, start1.about1, start1.theMethod, start1.args0, start1.below0, start1.atStart⟩
end Jvm.Pilot.@@N@@
