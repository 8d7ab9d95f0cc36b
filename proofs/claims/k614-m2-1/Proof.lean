import JvmDerived
import JvmDerived.Pilot.@@N@@Statement
import JvmDerived.Pilot.@@N@@Code
set_option linter.unusedVariables false
set_option linter.unusedSimpArgs false
namespace Jvm.Own
open Sem ClassFile Op Lib Bundle Jvm.Stand Jvm.Free Jvm.LawKit Jvm.RoadKit
/-- from this frame the walk ends, and ends well -/
def Go (p : Program) (e : Env) (below : List Frame) (Q : Outcome → State → Prop) (T : State) (g : JFrame) : Prop :=
  ∃ s₂ o, Steps p.tables e below (T.setTop g) s₂ ∧ s₂.status = .running ∧ Ended s₂ below o ∧ Q o s₂
/-- where a walk stands; the tables at hand are hidden -/
def Cx (p : Program) (l : Launch) (e : Env) (R : Room) (s : State) (m : MethodId) (args : Array Value) (below : List Frame) (meth : Method) (c : Code)
    (Z : State) (EL : List (String × Nat)) (kn : Prop) (y : MethodName) (bytes : ByteArray) (maxL : Nat) (ret : Option FieldType)
    (ws : List Addr) (T : State) (h : Heap) (k n : Nat) : Prop :=
  (p.tables.exec = Jvm.exec ∧ c.code = bytes ∧ c.maxLocals = maxL ∧ meth.sig.returnType = ret ∧ meth.locks = false ∧ meth.name = y.name) ∧
  ∃ (vm0 : Vm) (k0 : Nat) (locs : List Loc), Stand p l e R (s.setVm vm0) m args below meth c T locs k n ∧ T.heap = h ∧ Z.Warmed39 vm0 ∧ vm0.findClass y.cls = some m.cls ∧ s.Since vm0 k0 ∧ k0 ≤ h.size ∧
    Fr Z.heap.size locs ∧ CHr Z EL s.vm s.heap vm0 h ∧ (∀ x ∈ ws, Safe Z EL vm0 h x ∧ x < h.size) ∧ Ext Z.heap h ∧ (kn → vm0.MethodsKnown ∧ vm0.FramesKnown below)
section Own
variable {p : Program} {l : Launch} {e : Env} {R : Room} {s : State} {m : MethodId} {args : Array Value} {below : List Frame} {meth : Method} {c : Code} {Z : State} {a0 : Array Value} {EL : List (String × Nat)} {kn : Prop} {y : MethodName} {bytes : ByteArray} {maxL : Nat} {ret : Option FieldType}
  {ws : List Addr} {T T' : State} {h h' : Heap} {k n : Nat} {Q : Outcome → State → Prop} {g g' : JFrame} {pc pc' : Nat} {L L' : Array Slot} {S : List Value}
theorem Go.of (st : ∀ t, Steps p.tables e below (T'.setTop g') t → Steps p.tables e below (T.setTop g) t) (K : Go p e below Q T' g') : Go p e below Q T g := by
  obtain ⟨s2, o, h1, h2⟩ := K; exact ⟨s2, o, st _ h1, h2⟩
theorem Cx.exec (X : Cx p l e R s m args below meth c Z EL kn y bytes maxL ret ws T h k n) : p.tables.exec = Jvm.exec := X.1.1
theorem Cx.code (X : Cx p l e R s m args below meth c Z EL kn y bytes maxL ret ws T h k n) : c.code = bytes := X.1.2.1
theorem Cx.at (X : Cx p l e R s m args below meth c Z EL kn y bytes maxL ret ws T h k n) : At T m c below := by obtain ⟨-, vm0, k0, locs, S, -⟩ := X; exact S.here
theorem Cx.old (X : Cx p l e R s m args below meth c Z EL kn y bytes maxL ret ws T h k n) : Ext Z.heap h := by obtain ⟨-, vm0, k0, locs, -, -, -, -, -, -, -, -, -, E, -⟩ := X; exact E
theorem Cx.lt (X : Cx p l e R s m args below meth c Z EL kn y bytes maxL ret ws T h k n) : Z.heap.size ≤ h.size := X.old.1
theorem s_iload (X : Cx p l e R s m args below meth c Z EL kn y bytes maxL ret ws T h k n) {j : Nat} {v : Int32} (hd : decode bytes pc = .ok (.iload j, 2)) (hl : L[j]? = some (.val (.int v))) (hp : pc + 2 = pc') (K : Go p e below Q T (mkF m pc' L (.int v :: S))) : Go p e below Q T (mkF m pc L (S)) := by
  subst hp
  exact Go.of (fun t q => XS.iload X.at X.exec rfl (hb X.code hd) hl q) K
theorem s_iloadN (X : Cx p l e R s m args below meth c Z EL kn y bytes maxL ret ws T h k n) {j : Fin 4} {v : Int32} (hd : decode bytes pc = .ok (.iload_n j, 1)) (hl : L[j.val]? = some (.val (.int v))) (hp : pc + 1 = pc') (K : Go p e below Q T (mkF m pc' L (.int v :: S))) : Go p e below Q T (mkF m pc L (S)) := by
  subst hp
  exact Go.of (fun t q => XS.iloadN X.at X.exec rfl (hb X.code hd) hl q) K
theorem s_lload (X : Cx p l e R s m args below meth c Z EL kn y bytes maxL ret ws T h k n) {j : Nat} {v : Int64} (hd : decode bytes pc = .ok (.lload j, 2)) (hl : L[j]? = some (.val (.long v))) (hp : pc + 2 = pc') (K : Go p e below Q T (mkF m pc' L (.long v :: S))) : Go p e below Q T (mkF m pc L (S)) := by
  subst hp
  exact Go.of (fun t q => XS.lload X.at X.exec rfl (hb X.code hd) hl q) K
theorem s_lloadN (X : Cx p l e R s m args below meth c Z EL kn y bytes maxL ret ws T h k n) {j : Fin 4} {v : Int64} (hd : decode bytes pc = .ok (.lload_n j, 1)) (hl : L[j.val]? = some (.val (.long v))) (hp : pc + 1 = pc') (K : Go p e below Q T (mkF m pc' L (.long v :: S))) : Go p e below Q T (mkF m pc L (S)) := by
  subst hp
  exact Go.of (fun t q => XS.lloadN X.at X.exec rfl (hb X.code hd) hl q) K
theorem s_aload (X : Cx p l e R s m args below meth c Z EL kn y bytes maxL ret ws T h k n) {j : Nat} {v : Value} (hd : decode bytes pc = .ok (.aload j, 2)) (hl : L[j]? = some (.val v)) (hv : v.isRef = true) (hp : pc + 2 = pc') (K : Go p e below Q T (mkF m pc' L (v :: S))) : Go p e below Q T (mkF m pc L (S)) := by
  subst hp
  exact Go.of (fun t q => XS.aload X.at X.exec rfl (hb X.code hd) hl hv q) K
theorem s_aloadN (X : Cx p l e R s m args below meth c Z EL kn y bytes maxL ret ws T h k n) {j : Fin 4} {v : Value} (hd : decode bytes pc = .ok (.aload_n j, 1)) (hl : L[j.val]? = some (.val v)) (hv : v.isRef = true) (hp : pc + 1 = pc') (K : Go p e below Q T (mkF m pc' L (v :: S))) : Go p e below Q T (mkF m pc L (S)) := by
  subst hp
  exact Go.of (fun t q => XS.aloadN X.at X.exec rfl (hb X.code hd) hl hv q) K
theorem s_istore (X : Cx p l e R s m args below meth c Z EL kn y bytes maxL ret ws T h k n) {j : Nat} {v : Int32} (hd : decode bytes pc = .ok (.istore j, 2)) (hl : storeLocals L j (.int v) = some L') (hp : pc + 2 = pc') (K : Go p e below Q T (mkF m pc' L' (S))) : Go p e below Q T (mkF m pc L (.int v :: S)) := by
  subst hp
  exact Go.of (fun t q => XS.istore X.at X.exec rfl (hb X.code hd) rfl hl q) K
theorem s_istoreN (X : Cx p l e R s m args below meth c Z EL kn y bytes maxL ret ws T h k n) {j : Fin 4} {v : Int32} (hd : decode bytes pc = .ok (.istore_n j, 1)) (hl : storeLocals L j.val (.int v) = some L') (hp : pc + 1 = pc') (K : Go p e below Q T (mkF m pc' L' (S))) : Go p e below Q T (mkF m pc L (.int v :: S)) := by
  subst hp
  exact Go.of (fun t q => XS.istoreN X.at X.exec rfl (hb X.code hd) rfl hl q) K
theorem s_lstore (X : Cx p l e R s m args below meth c Z EL kn y bytes maxL ret ws T h k n) {j : Nat} {v : Int64} (hd : decode bytes pc = .ok (.lstore j, 2)) (hl : storeLocals L j (.long v) = some L') (hp : pc + 2 = pc') (K : Go p e below Q T (mkF m pc' L' (S))) : Go p e below Q T (mkF m pc L (.long v :: S)) := by
  subst hp
  exact Go.of (fun t q => XS.lstore X.at X.exec rfl (hb X.code hd) rfl hl q) K
theorem s_lstoreN (X : Cx p l e R s m args below meth c Z EL kn y bytes maxL ret ws T h k n) {j : Fin 4} {v : Int64} (hd : decode bytes pc = .ok (.lstore_n j, 1)) (hl : storeLocals L j.val (.long v) = some L') (hp : pc + 1 = pc') (K : Go p e below Q T (mkF m pc' L' (S))) : Go p e below Q T (mkF m pc L (.long v :: S)) := by
  subst hp
  exact Go.of (fun t q => XS.lstoreN X.at X.exec rfl (hb X.code hd) rfl hl q) K
theorem s_astore (X : Cx p l e R s m args below meth c Z EL kn y bytes maxL ret ws T h k n) {j : Nat} {v : Value} (hd : decode bytes pc = .ok (.astore j, 2)) (hv : v.isRef = true) (hl : storeLocals L j v = some L') (hp : pc + 2 = pc') (K : Go p e below Q T (mkF m pc' L' (S))) : Go p e below Q T (mkF m pc L (v :: S)) := by
  subst hp
  exact Go.of (fun t q => XS.astore X.at X.exec rfl (hb X.code hd) rfl hv hl q) K
theorem s_astoreN (X : Cx p l e R s m args below meth c Z EL kn y bytes maxL ret ws T h k n) {j : Fin 4} {v : Value} (hd : decode bytes pc = .ok (.astore_n j, 1)) (hv : v.isRef = true) (hl : storeLocals L j.val v = some L') (hp : pc + 1 = pc') (K : Go p e below Q T (mkF m pc' L' (S))) : Go p e below Q T (mkF m pc L (v :: S)) := by
  subst hp
  exact Go.of (fun t q => XS.astoreN X.at X.exec rfl (hb X.code hd) rfl hv hl q) K
theorem s_iconst (X : Cx p l e R s m args below meth c Z EL kn y bytes maxL ret ws T h k n) {i : Int} {v : Int32} (hd : decode bytes pc = .ok (.iconst i, 1)) (hv : Int32.ofInt i = v) (hp : pc + 1 = pc') (K : Go p e below Q T (mkF m pc' L (.int v :: S))) : Go p e below Q T (mkF m pc L (S)) := by
  subst hp
  exact Go.of (fun t q => XT.iconstV X.at X.exec rfl v (hb X.code hd) hv q) K
theorem s_bipush (X : Cx p l e R s m args below meth c Z EL kn y bytes maxL ret ws T h k n) {i : Int} {v : Int32} (hd : decode bytes pc = .ok (.bipush i, 2)) (hv : (Int8.ofInt i).toInt32 = v) (hp : pc + 2 = pc') (K : Go p e below Q T (mkF m pc' L (.int v :: S))) : Go p e below Q T (mkF m pc L (S)) := by
  subst hp
  exact Go.of (fun t q => XT.bipushV X.at X.exec rfl v (hb X.code hd) hv q) K
theorem s_sipush (X : Cx p l e R s m args below meth c Z EL kn y bytes maxL ret ws T h k n) {i : Int} {v : Int32} (hd : decode bytes pc = .ok (.sipush i, 3)) (hv : (Int16.ofInt i).toInt32 = v) (hp : pc + 3 = pc') (K : Go p e below Q T (mkF m pc' L (.int v :: S))) : Go p e below Q T (mkF m pc L (S)) := by
  subst hp
  exact Go.of (fun t q => XT.sipushV X.at X.exec rfl v (hb X.code hd) hv q) K
theorem s_lconst (X : Cx p l e R s m args below meth c Z EL kn y bytes maxL ret ws T h k n) {i : Fin 2} {v : Int64} (hd : decode bytes pc = .ok (.lconst i, 1)) (hv : Int64.ofNat i = v) (hp : pc + 1 = pc') (K : Go p e below Q T (mkF m pc' L (.long v :: S))) : Go p e below Q T (mkF m pc L (S)) := by
  subst hp
  exact Go.of (fun t q => XT.lconstV X.at X.exec rfl v (hb X.code hd) hv q) K
theorem s_aconst (X : Cx p l e R s m args below meth c Z EL kn y bytes maxL ret ws T h k n)  (hd : decode bytes pc = .ok (.aconst_null, 1)) (hp : pc + 1 = pc') (K : Go p e below Q T (mkF m pc' L (.null :: S))) : Go p e below Q T (mkF m pc L (S)) := by
  subst hp
  exact Go.of (fun t q => XS.aconstNull X.at X.exec rfl (hb X.code hd) q) K
theorem s_dup (X : Cx p l e R s m args below meth c Z EL kn y bytes maxL ret ws T h k n) {v : Value} (hd : decode bytes pc = .ok (.dup, 1)) (hc : v.category = 1) (hp : pc + 1 = pc') (K : Go p e below Q T (mkF m pc' L (v :: v :: S))) : Go p e below Q T (mkF m pc L (v :: S)) := by
  subst hp
  exact Go.of (fun t q => XS.dup X.at X.exec rfl (hb X.code hd) rfl hc q) K
theorem s_pop (X : Cx p l e R s m args below meth c Z EL kn y bytes maxL ret ws T h k n) {v : Value} (hd : decode bytes pc = .ok (.pop, 1)) (hc : v.category = 1) (hp : pc + 1 = pc') (K : Go p e below Q T (mkF m pc' L (S))) : Go p e below Q T (mkF m pc L (v :: S)) := by
  subst hp
  exact Go.of (fun t q => XS.pop X.at X.exec rfl (hb X.code hd) rfl hc q) K
theorem s_iadd (X : Cx p l e R s m args below meth c Z EL kn y bytes maxL ret ws T h k n) {x z : Int32} (hd : decode bytes pc = .ok (.iadd, 1)) (hp : pc + 1 = pc') (K : Go p e below Q T (mkF m pc' L (.int (x + z) :: S))) : Go p e below Q T (mkF m pc L (.int z :: .int x :: S)) := by
  subst hp
  exact Go.of (fun t q => XS.iadd X.at X.exec rfl (hb X.code hd) rfl q) K
theorem s_isub (X : Cx p l e R s m args below meth c Z EL kn y bytes maxL ret ws T h k n) {x z : Int32} (hd : decode bytes pc = .ok (.isub, 1)) (hp : pc + 1 = pc') (K : Go p e below Q T (mkF m pc' L (.int (x - z) :: S))) : Go p e below Q T (mkF m pc L (.int z :: .int x :: S)) := by
  subst hp
  exact Go.of (fun t q => XS.isub X.at X.exec rfl (hb X.code hd) rfl q) K
theorem s_imul (X : Cx p l e R s m args below meth c Z EL kn y bytes maxL ret ws T h k n) {x z : Int32} (hd : decode bytes pc = .ok (.imul, 1)) (hp : pc + 1 = pc') (K : Go p e below Q T (mkF m pc' L (.int (x * z) :: S))) : Go p e below Q T (mkF m pc L (.int z :: .int x :: S)) := by
  subst hp
  exact Go.of (fun t q => XS.imul X.at X.exec rfl (hb X.code hd) rfl q) K
theorem s_iand (X : Cx p l e R s m args below meth c Z EL kn y bytes maxL ret ws T h k n) {x z : Int32} (hd : decode bytes pc = .ok (.iand, 1)) (hp : pc + 1 = pc') (K : Go p e below Q T (mkF m pc' L (.int (x &&& z) :: S))) : Go p e below Q T (mkF m pc L (.int z :: .int x :: S)) := by
  subst hp
  exact Go.of (fun t q => XS.iand X.at X.exec rfl (hb X.code hd) rfl q) K
theorem s_ior (X : Cx p l e R s m args below meth c Z EL kn y bytes maxL ret ws T h k n) {x z : Int32} (hd : decode bytes pc = .ok (.ior, 1)) (hp : pc + 1 = pc') (K : Go p e below Q T (mkF m pc' L (.int (x ||| z) :: S))) : Go p e below Q T (mkF m pc L (.int z :: .int x :: S)) := by
  subst hp
  exact Go.of (fun t q => XS.ior X.at X.exec rfl (hb X.code hd) rfl q) K
theorem s_ixor (X : Cx p l e R s m args below meth c Z EL kn y bytes maxL ret ws T h k n) {x z : Int32} (hd : decode bytes pc = .ok (.ixor, 1)) (hp : pc + 1 = pc') (K : Go p e below Q T (mkF m pc' L (.int (x ^^^ z) :: S))) : Go p e below Q T (mkF m pc L (.int z :: .int x :: S)) := by
  subst hp
  exact Go.of (fun t q => XS.ixor X.at X.exec rfl (hb X.code hd) rfl q) K
theorem s_ishl (X : Cx p l e R s m args below meth c Z EL kn y bytes maxL ret ws T h k n) {x z : Int32} (hd : decode bytes pc = .ok (.ishl, 1)) (hp : pc + 1 = pc') (K : Go p e below Q T (mkF m pc' L (.int (x <<< (z &&& 31)) :: S))) : Go p e below Q T (mkF m pc L (.int z :: .int x :: S)) := by
  subst hp
  exact Go.of (fun t q => XS.ishl X.at X.exec rfl (hb X.code hd) rfl q) K
theorem s_ishr (X : Cx p l e R s m args below meth c Z EL kn y bytes maxL ret ws T h k n) {x z : Int32} (hd : decode bytes pc = .ok (.ishr, 1)) (hp : pc + 1 = pc') (K : Go p e below Q T (mkF m pc' L (.int (x >>> (z &&& 31)) :: S))) : Go p e below Q T (mkF m pc L (.int z :: .int x :: S)) := by
  subst hp
  exact Go.of (fun t q => XS.ishr X.at X.exec rfl (hb X.code hd) rfl q) K
theorem s_iushr (X : Cx p l e R s m args below meth c Z EL kn y bytes maxL ret ws T h k n) {x z : Int32} (hd : decode bytes pc = .ok (.iushr, 1)) (hp : pc + 1 = pc') (K : Go p e below Q T (mkF m pc' L (.int ((x.toUInt32 >>> (z &&& 31).toUInt32).toInt32) :: S))) : Go p e below Q T (mkF m pc L (.int z :: .int x :: S)) := by
  subst hp
  exact Go.of (fun t q => XS.iushr X.at X.exec rfl (hb X.code hd) rfl q) K
theorem s_idiv (X : Cx p l e R s m args below meth c Z EL kn y bytes maxL ret ws T h k n) {x z : Int32} (hd : decode bytes pc = .ok (.idiv, 1)) (hz : z ≠ 0) (hp : pc + 1 = pc') (K : Go p e below Q T (mkF m pc' L (.int (x / z) :: S))) : Go p e below Q T (mkF m pc L (.int z :: .int x :: S)) := by
  subst hp
  exact Go.of (fun t q => XS.idiv X.at X.exec rfl (hb X.code hd) rfl hz q) K
theorem s_irem (X : Cx p l e R s m args below meth c Z EL kn y bytes maxL ret ws T h k n) {x z : Int32} (hd : decode bytes pc = .ok (.irem, 1)) (hz : z ≠ 0) (hp : pc + 1 = pc') (K : Go p e below Q T (mkF m pc' L (.int (x % z) :: S))) : Go p e below Q T (mkF m pc L (.int z :: .int x :: S)) := by
  subst hp
  obtain ⟨-, vm0, k0, locs, St, -⟩ := id X
  exact Go.of (fun t q => iremM St X.exec rfl (hb X.code hd) rfl hz q) K
theorem s_ineg (X : Cx p l e R s m args below meth c Z EL kn y bytes maxL ret ws T h k n) {x : Int32} (hd : decode bytes pc = .ok (.ineg, 1)) (hp : pc + 1 = pc') (K : Go p e below Q T (mkF m pc' L (.int (-x) :: S))) : Go p e below Q T (mkF m pc L (.int x :: S)) := by
  subst hp
  exact Go.of (fun t q => XS.ineg X.at X.exec rfl (hb X.code hd) rfl q) K
theorem s_ladd (X : Cx p l e R s m args below meth c Z EL kn y bytes maxL ret ws T h k n) {x z : Int64} (hd : decode bytes pc = .ok (.ladd, 1)) (hp : pc + 1 = pc') (K : Go p e below Q T (mkF m pc' L (.long (x + z) :: S))) : Go p e below Q T (mkF m pc L (.long z :: .long x :: S)) := by
  subst hp
  exact Go.of (fun t q => XS.ladd X.at X.exec rfl (hb X.code hd) rfl q) K
theorem s_lsub (X : Cx p l e R s m args below meth c Z EL kn y bytes maxL ret ws T h k n) {x z : Int64} (hd : decode bytes pc = .ok (.lsub, 1)) (hp : pc + 1 = pc') (K : Go p e below Q T (mkF m pc' L (.long (x - z) :: S))) : Go p e below Q T (mkF m pc L (.long z :: .long x :: S)) := by
  subst hp
  exact Go.of (fun t q => XS.lsub X.at X.exec rfl (hb X.code hd) rfl q) K
theorem s_land (X : Cx p l e R s m args below meth c Z EL kn y bytes maxL ret ws T h k n) {x z : Int64} (hd : decode bytes pc = .ok (.land, 1)) (hp : pc + 1 = pc') (K : Go p e below Q T (mkF m pc' L (.long (x &&& z) :: S))) : Go p e below Q T (mkF m pc L (.long z :: .long x :: S)) := by
  subst hp
  exact Go.of (fun t q => XS.land X.at X.exec rfl (hb X.code hd) rfl q) K
theorem s_lrem (X : Cx p l e R s m args below meth c Z EL kn y bytes maxL ret ws T h k n) {x z : Int64} (hd : decode bytes pc = .ok (.lrem, 1)) (hz : z ≠ 0) (hp : pc + 1 = pc') (K : Go p e below Q T (mkF m pc' L (.long (x - (x / z) * z) :: S))) : Go p e below Q T (mkF m pc L (.long z :: .long x :: S)) := by
  subst hp
  exact Go.of (fun t q => XS.lrem X.at X.exec rfl (hb X.code hd) rfl hz q) K
theorem s_lneg (X : Cx p l e R s m args below meth c Z EL kn y bytes maxL ret ws T h k n) {x : Int64} (hd : decode bytes pc = .ok (.lneg, 1)) (hp : pc + 1 = pc') (K : Go p e below Q T (mkF m pc' L (.long (-x) :: S))) : Go p e below Q T (mkF m pc L (.long x :: S)) := by
  subst hp
  exact Go.of (fun t q => XS.lneg X.at X.exec rfl (hb X.code hd) rfl q) K
theorem s_lushr (X : Cx p l e R s m args below meth c Z EL kn y bytes maxL ret ws T h k n) {x : Int64} {z : Int32} (hd : decode bytes pc = .ok (.lushr, 1)) (hp : pc + 1 = pc') (K : Go p e below Q T (mkF m pc' L (.long ((x.toUInt64 >>> (z &&& 0x3f).toInt64.toUInt64).toInt64) :: S))) : Go p e below Q T (mkF m pc L (.int z :: .long x :: S)) := by
  subst hp
  exact Go.of (fun t q => XS.lushr X.at X.exec rfl (hb X.code hd) rfl q) K
theorem s_lcmp (X : Cx p l e R s m args below meth c Z EL kn y bytes maxL ret ws T h k n) {x z : Int64} (hd : decode bytes pc = .ok (.lcmp, 1)) (hp : pc + 1 = pc') (K : Go p e below Q T (mkF m pc' L (.int (lcmpW x z) :: S))) : Go p e below Q T (mkF m pc L (.long z :: .long x :: S)) := by
  subst hp
  exact Go.of (fun t q => XS.lcmp X.at X.exec rfl (hb X.code hd) rfl q) K
theorem s_i2c (X : Cx p l e R s m args below meth c Z EL kn y bytes maxL ret ws T h k n) {x : Int32} (hd : decode bytes pc = .ok (.i2c, 1)) (hp : pc + 1 = pc') (K : Go p e below Q T (mkF m pc' L (.int (x.toUInt32.toUInt16.toUInt32.toInt32) :: S))) : Go p e below Q T (mkF m pc L (.int x :: S)) := by
  subst hp
  exact Go.of (fun t q => XS.i2c X.at X.exec rfl (hb X.code hd) rfl q) K
theorem s_i2b (X : Cx p l e R s m args below meth c Z EL kn y bytes maxL ret ws T h k n) {x : Int32} (hd : decode bytes pc = .ok (.i2b, 1)) (hp : pc + 1 = pc') (K : Go p e below Q T (mkF m pc' L (.int (x.toInt8.toInt32) :: S))) : Go p e below Q T (mkF m pc L (.int x :: S)) := by
  subst hp
  exact Go.of (fun t q => XS.i2b X.at X.exec rfl (hb X.code hd) rfl q) K
theorem s_i2l (X : Cx p l e R s m args below meth c Z EL kn y bytes maxL ret ws T h k n) {x : Int32} (hd : decode bytes pc = .ok (.i2l, 1)) (hp : pc + 1 = pc') (K : Go p e below Q T (mkF m pc' L (.long (x.toInt64) :: S))) : Go p e below Q T (mkF m pc L (.int x :: S)) := by
  subst hp
  exact Go.of (fun t q => XS.i2l X.at X.exec rfl (hb X.code hd) rfl q) K
theorem s_l2i (X : Cx p l e R s m args below meth c Z EL kn y bytes maxL ret ws T h k n) {x : Int64} (hd : decode bytes pc = .ok (.l2i, 1)) (hp : pc + 1 = pc') (K : Go p e below Q T (mkF m pc' L (.int (x.toInt32) :: S))) : Go p e below Q T (mkF m pc L (.long x :: S)) := by
  subst hp
  exact Go.of (fun t q => XS.l2i X.at X.exec rfl (hb X.code hd) rfl q) K
theorem s_iinc (X : Cx p l e R s m args below meth c Z EL kn y bytes maxL ret ws T h k n) {j : Nat} {i : Int} {x v : Int32} (hd : decode bytes pc = .ok (.iinc j i, 3)) (hv : Int32.ofInt i = v) (hl : L[j]? = some (.val (.int x))) (hl' : storeLocals L j (.int (x + v)) = some L') (hp : pc + 3 = pc') (K : Go p e below Q T (mkF m pc' L' (S))) : Go p e below Q T (mkF m pc L (S)) := by
  subst hp
  exact Go.of (fun t q => XT.iincV X.at X.exec rfl v (hb X.code hd) hv hl hl' q) K
theorem s_goto (X : Cx p l e R s m args below meth c Z EL kn y bytes maxL ret ws T h k n) {o : Int} (hd : decode bytes pc = .ok (.goto o, 3)) (ho : 0 ≤ (pc : Int) + o) (hp : ((pc : Int) + o).toNat = pc') (K : Go p e below Q T (mkF m pc' L S)) : Go p e below Q T (mkF m pc L S) :=
  Go.of (fun t q => XS.goto X.at X.exec rfl (pc0 := pc) rfl (hb X.code hd) ho hp q) K
/-- a comparison, said plainly -/
def tst : ClassFile.Cond → Int32 → Int32 → Prop
  | .eq, x, z => x = z
  | .ne, x, z => ¬ x = z
  | .lt, x, z => x < z
  | .ge, x, z => ¬ x < z
  | .gt, x, z => z < x
  | .le, x, z => ¬ z < x
/-- .. and its contrary -/
def nts : ClassFile.Cond → Int32 → Int32 → Prop
  | .eq, x, z => ¬ x = z
  | .ne, x, z => x = z
  | .lt, x, z => ¬ x < z
  | .ge, x, z => x < z
  | .gt, x, z => ¬ z < x
  | .le, x, z => z < x
theorem tst_t {cd : ClassFile.Cond} {x z : Int32} (q : tst cd x z) : if_icmp.holds cd x z = true := by
  cases cd
  · exact XT.ii_eq_t q
  · exact XT.ii_ne_t q
  · exact XT.ii_lt_t q
  · exact XT.ii_ge_t q
  · exact XT.ii_gt_t q
  · exact XT.ii_le_t q
theorem nts_f {cd : ClassFile.Cond} {x z : Int32} (q : nts cd x z) : if_icmp.holds cd x z = false := by
  cases cd
  · exact XT.ii_eq_f q
  · exact XT.ii_ne_f q
  · exact XT.ii_lt_f q
  · exact XT.ii_ge_f q
  · exact XT.ii_gt_f q
  · exact XT.ii_le_f q
theorem tst_or (cd : ClassFile.Cond) (x z : Int32) : tst cd x z ∨ nts cd x z := by
  cases cd
  · exact Classical.em (x = z)
  · exact (Classical.em (x = z)).symm
  · exact Classical.em (x < z)
  · exact (Classical.em (x < z)).symm
  · exact Classical.em (z < x)
  · exact (Classical.em (z < x)).symm
theorem s_icmpT (X : Cx p l e R s m args below meth c Z EL kn y bytes maxL ret ws T h k n) {cd : ClassFile.Cond} {x z : Int32} {o : Int} (hd : decode bytes pc = .ok (.if_icmp cd o, 3)) (q : tst cd x z) (ho : 0 ≤ (pc : Int) + o) (hp : ((pc : Int) + o).toNat = pc') (K : Go p e below Q T (mkF m pc' L S)) : Go p e below Q T (mkF m pc L (.int z :: .int x :: S)) :=
  Go.of (fun t r => XS.icmpYes X.at X.exec rfl (pc0 := pc) rfl (hb X.code hd) rfl (tst_t q) ho hp r) K
theorem s_icmpF (X : Cx p l e R s m args below meth c Z EL kn y bytes maxL ret ws T h k n) {cd : ClassFile.Cond} {x z : Int32} {o : Int} (hd : decode bytes pc = .ok (.if_icmp cd o, 3)) (q : nts cd x z) (hp : pc + 3 = pc') (K : Go p e below Q T (mkF m pc' L S)) : Go p e below Q T (mkF m pc L (.int z :: .int x :: S)) := by
  subst hp
  exact Go.of (fun t r => XS.icmpNo X.at X.exec rfl (hb X.code hd) rfl (nts_f q) r) K
theorem s_ifT (X : Cx p l e R s m args below meth c Z EL kn y bytes maxL ret ws T h k n) {cd : ClassFile.Cond} {x : Int32} {o : Int} (hd : decode bytes pc = .ok (.ifCond cd o, 3)) (q : tst cd x 0) (ho : 0 ≤ (pc : Int) + o) (hp : ((pc : Int) + o).toNat = pc') (K : Go p e below Q T (mkF m pc' L S)) : Go p e below Q T (mkF m pc L (.int x :: S)) :=
  Go.of (fun t r => XS.ifYes X.at X.exec rfl (pc0 := pc) rfl (hb X.code hd) rfl ((if0 _ _).trans (tst_t q)) ho hp r) K
theorem s_ifF (X : Cx p l e R s m args below meth c Z EL kn y bytes maxL ret ws T h k n) {cd : ClassFile.Cond} {x : Int32} {o : Int} (hd : decode bytes pc = .ok (.ifCond cd o, 3)) (q : nts cd x 0) (hp : pc + 3 = pc') (K : Go p e below Q T (mkF m pc' L S)) : Go p e below Q T (mkF m pc L (.int x :: S)) := by
  subst hp
  exact Go.of (fun t r => XS.ifNo X.at X.exec rfl (hb X.code hd) rfl ((if0 _ _).trans (nts_f q)) r) K
theorem s_icmp (X : Cx p l e R s m args below meth c Z EL kn y bytes maxL ret ws T h k n) {cd : ClassFile.Cond} {x z : Int32} {o : Int} {pcF : Nat} (hd : decode bytes pc = .ok (.if_icmp cd o, 3)) (ho : 0 ≤ (pc : Int) + o) (hp : ((pc : Int) + o).toNat = pc') (hf : pc + 3 = pcF) (K : tst cd x z → Go p e below Q T (mkF m pc' L S)) (K' : nts cd x z → Go p e below Q T (mkF m pcF L S)) : Go p e below Q T (mkF m pc L (.int z :: .int x :: S)) :=
  (tst_or cd x z).elim (fun q => s_icmpT X hd q ho hp (K q)) (fun q => s_icmpF X hd q hf (K' q))
theorem s_if (X : Cx p l e R s m args below meth c Z EL kn y bytes maxL ret ws T h k n) {cd : ClassFile.Cond} {x : Int32} {o : Int} {pcF : Nat} (hd : decode bytes pc = .ok (.ifCond cd o, 3)) (ho : 0 ≤ (pc : Int) + o) (hp : ((pc : Int) + o).toNat = pc') (hf : pc + 3 = pcF) (K : tst cd x 0 → Go p e below Q T (mkF m pc' L S)) (K' : nts cd x 0 → Go p e below Q T (mkF m pcF L S)) : Go p e below Q T (mkF m pc L (.int x :: S)) :=
  (tst_or cd x 0).elim (fun q => s_ifT X hd q ho hp (K q)) (fun q => s_ifF X hd q hf (K' q))
theorem s_acmpT (X : Cx p l e R s m args below meth c Z EL kn y bytes maxL ret ws T h k n) {cd : ClassFile.ACond} {x z : Value} {o : Int} (hd : decode bytes pc = .ok (.if_acmp cd o, 3)) (hx' : x.isRef = true) (hz' : z.isRef = true) (q : XT.acmp cd x z = true) (ho : 0 ≤ (pc : Int) + o) (hp : ((pc : Int) + o).toNat = pc') (K : Go p e below Q T (mkF m pc' L S)) : Go p e below Q T (mkF m pc L (z :: x :: S)) :=
  Go.of (fun t r => XT.acmpYes X.at X.exec rfl (pc0 := pc) rfl (hb X.code hd) rfl hx' hz' q ho hp r) K
theorem s_acmpF (X : Cx p l e R s m args below meth c Z EL kn y bytes maxL ret ws T h k n) {cd : ClassFile.ACond} {x z : Value} {o : Int} (hd : decode bytes pc = .ok (.if_acmp cd o, 3)) (hx' : x.isRef = true) (hz' : z.isRef = true) (q : XT.acmp cd x z = false) (hp : pc + 3 = pc') (K : Go p e below Q T (mkF m pc' L S)) : Go p e below Q T (mkF m pc L (z :: x :: S)) := by
  subst hp
  exact Go.of (fun t r => XT.acmpNo X.at X.exec rfl (hb X.code hd) rfl hx' hz' q r) K
theorem s_ifnullT (X : Cx p l e R s m args below meth c Z EL kn y bytes maxL ret ws T h k n) {b : Addr} {o : Int} (hd : decode bytes pc = .ok (.ifnull o, 3)) (ho : 0 ≤ (pc : Int) + o) (hp : ((pc : Int) + o).toNat = pc') (K : Go p e below Q T (mkF m pc' L S)) : Go p e below Q T (mkF m pc L (.null :: S)) :=
  Go.of (fun t r => XS.ifnullYes X.at X.exec rfl (pc0 := pc) rfl (hb X.code hd) rfl ho hp r) K
theorem s_ifnullF (X : Cx p l e R s m args below meth c Z EL kn y bytes maxL ret ws T h k n) {b : Addr} {o : Int} (hd : decode bytes pc = .ok (.ifnull o, 3)) (hp : pc + 3 = pc') (K : Go p e below Q T (mkF m pc' L S)) : Go p e below Q T (mkF m pc L (.ref b :: S)) := by
  subst hp
  exact Go.of (fun t r => XS.ifnullNo X.at X.exec rfl (hb X.code hd) rfl r) K
theorem s_ifnonnullT (X : Cx p l e R s m args below meth c Z EL kn y bytes maxL ret ws T h k n) {b : Addr} {o : Int} (hd : decode bytes pc = .ok (.ifnonnull o, 3)) (ho : 0 ≤ (pc : Int) + o) (hp : ((pc : Int) + o).toNat = pc') (K : Go p e below Q T (mkF m pc' L S)) : Go p e below Q T (mkF m pc L (.ref b :: S)) :=
  Go.of (fun t r => XS.ifnonnullYes X.at X.exec rfl (pc0 := pc) rfl (hb X.code hd) rfl ho hp r) K
theorem s_ifnonnullF (X : Cx p l e R s m args below meth c Z EL kn y bytes maxL ret ws T h k n) {b : Addr} {o : Int} (hd : decode bytes pc = .ok (.ifnonnull o, 3)) (hp : pc + 3 = pc') (K : Go p e below Q T (mkF m pc' L S)) : Go p e below Q T (mkF m pc L (.null :: S)) := by
  subst hp
  exact Go.of (fun t r => XS.ifnonnullNo X.at X.exec rfl (hb X.code hd) rfl r) K
theorem go_int {x z : Int32} (q : x = z) (K : Go p e below Q T (mkF m pc L (.int z :: S))) : Go p e below Q T (mkF m pc L (.int x :: S)) := by subst q; exact K
theorem Cx.more (X : Cx p l e R s m args below meth c Z EL kn y bytes maxL ret ws T h k n) {k' n' : Nat} (hk : k ≤ k') (hn : n ≤ n') : Cx p l e R s m args below meth c Z EL kn y bytes maxL ret ws T h k' n' := by
  obtain ⟨c0, vm0, k0, locs, St, r⟩ := X
  exact ⟨c0, vm0, k0, locs, St.mono hk hn, r⟩
theorem Cx.sub (X : Cx p l e R s m args below meth c Z EL kn y bytes maxL ret ws T h k n) {ws' : List Addr} (hs : ∀ x ∈ ws', x ∈ ws) : Cx p l e R s m args below meth c Z EL kn y bytes maxL ret ws' T h k n := by
  obtain ⟨c0, vm0, k0, locs, St, eT, hZ, hown, hS, hk, N, H, hsf, E, hkn⟩ := X
  exact ⟨c0, vm0, k0, locs, St, eT, hZ, hown, hS, hk, N, H, fun x q => hsf x (hs x q), E, hkn⟩
theorem Cx.wlt (X : Cx p l e R s m args below meth c Z EL kn y bytes maxL ret ws T h k n) {x : Addr} (q : x ∈ ws) : x < h.size := by
  obtain ⟨c0, vm0, k0, locs, St, eT, hZ, hown, hS, hk, N, H, hsf, E, hkn⟩ := X
  exact (hsf x q).2
theorem ext_refl (h : Heap) : Ext h h := ⟨Nat.le_refl _, fun _ _ q => q⟩
theorem ext_trans {h1 h2 h3 : Heap} (E : Ext h1 h2) (F : Ext h2 h3) : Ext h1 h3 := ⟨Nat.le_trans E.1 F.1, fun a c q => F.2 a c (E.2 a c q)⟩
theorem ext_keep {h1 h2 h3 : Heap} {ws : List Addr} (E : Ext h1 h2) (K : Keep h2 h3 ws) (q : ∀ x ∈ ws, h1.size ≤ x) : Ext h1 h3 :=
  ⟨Nat.le_trans E.1 K.1, fun a c r => K.2.1 a c (E.2 a c r) fun z => absurd (Array.getElem?_eq_some_iff.mp r).1 (Nat.not_lt.mpr (q a z))⟩
theorem ext_wr {h1 h2 h3 : Heap} {a : Addr} {sl : Nat} {v : Value} (E : Ext h1 h2) (W : Wr h2 h3 a sl v) (q : h1.size ≤ a) : Ext h1 h3 := ext_keep E (Keep.of_wr W) (allS q all0)
theorem s_getf (X : Cx p l e R s m args below meth c Z EL kn y bytes maxL ret ws T h k n) {index : Nat} {R0 O nm d : String} {a : Addr} {v : Value} (hd : decode bytes pc = .ok (.getfield index, 3)) (w : (Cond.fieldLink y.cls index R0 nm d).before a0 Z = true) (via : Via Z R0 O nm d) (F : Fld Z h a O nm d v) (hp : pc + 3 = pc')
    (K : ∀ T', Cx p l e R s m args below meth c Z EL kn y bytes maxL ret ws T' h k n → Go p e below Q T' (mkF m pc' L (v :: S))) : Go p e below Q T (mkF m pc L (.ref a :: S)) := by
  subst hp
  obtain ⟨c0, vm0, k0, locs, St, eT, hZ, hown, hS, hk, N, H, hsf, E, hkn⟩ := X
  obtain ⟨T', X', e', st⟩ := getF St c0.1 hZ hown (host := "") (Or.inl w) via eT F (g := mkF m pc L (.ref a :: S)) rfl rfl (hb c0.2.1 hd)
  exact Go.of st (K T' ⟨c0, vm0, k0, locs, X', e', hZ, hown, hS, hk, N, H, hsf, E, hkn⟩)
theorem s_getfN (X : Cx p l e R s m args below meth c Z EL kn y bytes maxL ret ws T h k n) {index : Nat} {R0 O nm d host : String} {a : Addr} {v : Value} (hd : decode bytes pc = .ok (.getfield index, 3)) (w : (Cond.fieldLinkNest y.cls index R0 nm d host).before a0 Z = true) (via : Via Z R0 O nm d) (F : Fld Z h a O nm d v) (hp : pc + 3 = pc')
    (K : ∀ T', Cx p l e R s m args below meth c Z EL kn y bytes maxL ret ws T' h k n → Go p e below Q T' (mkF m pc' L (v :: S))) : Go p e below Q T (mkF m pc L (.ref a :: S)) := by
  subst hp
  obtain ⟨c0, vm0, k0, locs, St, eT, hZ, hown, hS, hk, N, H, hsf, E, hkn⟩ := X
  obtain ⟨T', X', e', st⟩ := getF St c0.1 hZ hown (host := host) (Or.inr w) via eT F (g := mkF m pc L (.ref a :: S)) rfl rfl (hb c0.2.1 hd)
  exact Go.of st (K T' ⟨c0, vm0, k0, locs, X', e', hZ, hown, hS, hk, N, H, hsf, E, hkn⟩)
theorem s_gets (X : Cx p l e R s m args below meth c Z EL kn y bytes maxL ret ws T h k n) {index : Nat} {R0 O nm d : String} {v : Value} (hd : decode bytes pc = .ok (.getstatic index, 3)) (w : (Cond.fieldLink y.cls index R0 nm d).before a0 Z = true) (via : Via Z R0 O nm d) (F : Sta Z Z.heap O nm d v) (hp : pc + 3 = pc')
    (K : ∀ T', Cx p l e R s m args below meth c Z EL kn y bytes maxL ret ws T' h k n → Go p e below Q T' (mkF m pc' L (v :: S))) : Go p e below Q T (mkF m pc L S) := by
  subst hp
  obtain ⟨c0, vm0, k0, locs, St, eT, hZ, hown, hS, hk, N, H, hsf, E, hkn⟩ := X
  obtain ⟨T', X', e', st⟩ := getS St c0.1 hZ hown (host := "") w via eT (F.ext E) (g := mkF m pc L S) rfl (hb c0.2.1 hd)
  exact Go.of st (K T' ⟨c0, vm0, k0, locs, X', e', hZ, hown, hS, hk, N, H, hsf, E, hkn⟩)
theorem s_putf (X : Cx p l e R s m args below meth c Z EL kn y bytes maxL ret ws T h k n) {index kk : Nat} {R0 O nm d C : String} {ty : FieldType} {a : Addr} {v old : Value} (hd : decode bytes pc = .ok (.putfield index, 3)) (w : (Cond.fieldLink y.cls index R0 nm d).before a0 Z = true) (via : Via Z R0 O nm d) (F : Fld Z h a O nm d old) (E0 : Exa Z h a C)
    (Lf : (Cond.lays C O nm d).before a0 Z = true ∨ ((Cond.laysFinal C O nm d).before a0 Z = true ∧ y.cls = O ∧ y.name = "<init>")) (wi : (Cond.instantiable C kk).before a0 Z = true) (hty : parseFieldDescriptor d = some ty) (hn : narrow ty v = v) (hf : fits ty v = true) (ha : Z.heap.size ≤ a) (hm : a ∈ ws) (hp : pc + 3 = pc')
    (K : ∀ T' h', Cx p l e R s m args below meth c Z EL kn y bytes maxL ret ws T' h' k n → Wr h h' a (RoadKit.slotOf Z O nm d) v → Go p e below Q T' (mkF m pc' L S)) : Go p e below Q T (mkF m pc L (v :: .ref a :: S)) := by
  subst hp
  obtain ⟨c0, vm0, k0, locs, St, eT, hZ, hown, hS, hk, N, H, hsf, E, hkn⟩ := X
  obtain ⟨T', h', X', e', W, st⟩ := putF St c0.1 hZ hown (host := "") (Or.inl w) via eT F E0 (Lf.imp id fun q => ⟨q.1, q.2.1, c0.2.2.2.2.2.trans q.2.2⟩) wi hty hn hf (g := mkF m pc L (v :: .ref a :: S)) rfl rfl (hb c0.2.1 hd)
  have Sa := (hsf a hm).1
  exact Go.of st (K T' h' ⟨c0, vm0, k0, _, X', e', hZ, hown, hS, by rw [W.size]; exact hk, Fr.snoc X' N ha, H.trans (CHr.wr W Sa H.1), fun x q => ⟨Safe.wr W Sa H.1 (hsf x q).1, by rw [W.size]; exact (hsf x q).2⟩, ext_wr E W ha, hkn⟩ W)
theorem s_new (X : Cx p l e R s m args below meth c Z EL kn y bytes maxL ret ws T h k n) {index nn : Nat} {C : String} {k' n' : Nat} (hd : decode bytes pc = .ok (.new index, 3)) (w : (Cond.classLink y.cls index C).before a0 Z = true) (wi : (Cond.instantiable C nn).before a0 Z = true) (wz : (Cond.initialized C).before a0 Z = true)
    (hk' : k + 1 ≤ k') (hn' : n + nn ≤ n') (hkR : k' ≤ R.cells) (hnR : n' ≤ R.slots) (hp : pc + 3 = pc')
    (K : ∀ (T' : State) (h' : Heap) (a : Addr), a = h.size → Cx p l e R s m args below meth c Z EL kn y bytes maxL ret (a :: ws) T' h' k' n' → Ext h h' → Exa Z h' a C → (∀ {O nm d : String} {ty : FieldType}, Laid Z a0 C O nm d → parseFieldDescriptor d = some ty → Fld Z h' a O nm d (defaultValue ty)) → Unt h' a → Go p e below Q T' (mkF m pc' L (.ref a :: S))) : Go p e below Q T (mkF m pc L S) := by
  subst hp
  obtain ⟨c0, vm0, k0, locs, St, eT, hZ, hown, hS, hk, N, H, hsf, E, hkn⟩ := X
  obtain ⟨T', h', X', e', E', A, D, U, st⟩ := newO St c0.1 hZ hown w wi wz eT (g := mkF m pc L S) rfl (hb c0.2.1 hd) (Nat.le_trans hk' hkR) (Nat.le_trans hn' hnR)
  refine Go.of st (K T' h' h.size rfl ⟨c0, vm0, k0, _, X'.mono hk' hn', e', hZ, hown, hS, Nat.le_trans hk E'.1, N, H.trans (CHr.ext E' H.1), fun x q => ?_, ext_trans E E', hkn⟩ E' A D U)
  rcases List.mem_cons.mp q with rfl | q
  · exact ⟨Safe.ext E' H.1 (Safe.new (Nat.le_refl _)), A.lt⟩
  · exact ⟨Safe.ext E' H.1 (hsf x q).1, Nat.lt_of_lt_of_le (hsf x q).2 E'.1⟩
/-- an array: what she holds, whole -/
def Ary (Z : State) (h : Heap) (a : Addr) (ty : FieldType) (vs : List Value) : Prop := ∃ cl : Cell, RoadKit.Arr Z h a cl ty ∧ cl.slots.toList = vs ∧ vs.length < 2 ^ 31 ∧ ∀ v ∈ vs, fits ty v = true
theorem Ary.ext {a : Addr} {ty : FieldType} {vs : List Value} (A : Ary Z h a ty vs) (E : Ext h h') : Ary Z h' a ty vs := by obtain ⟨cl, q, r⟩ := A; exact ⟨cl, q.ext E, r⟩
theorem Ary.keep {a : Addr} {ty : FieldType} {vs : List Value} {wr : List Addr} (A : Ary Z h a ty vs) (K : Keep h h' wr) (q : a ∉ wr) : Ary Z h' a ty vs := by obtain ⟨cl, r1, r⟩ := A; exact ⟨cl, ⟨K.2.1 a cl r1.1 q, r1.2⟩, r⟩
theorem Ary.other {a b : Addr} {sl : Nat} {v : Value} {ty : FieldType} {vs : List Value} (A : Ary Z h a ty vs) (W : Wr h h' b sl v) (q : a ≠ b) : Ary Z h' a ty vs := by obtain ⟨cl, r1, r⟩ := A; exact ⟨cl, r1.other W q, r⟩
theorem Ary.lt {a : Addr} {ty : FieldType} {vs : List Value} (A : Ary Z h a ty vs) : a < h.size := by obtain ⟨cl, q, r⟩ := A; exact q.lt
theorem n32 {N : Nat} (q : N < 2 ^ 31) : (Int32.ofNat N).toNatClampNeg = N := by
  have e : (Int32.ofNat N).toInt = N := Int32.toInt_ofNat_of_lt (by omega)
  simp [Int32.toNatClampNeg, e]
theorem nn32 {N : Nat} (q : N < 2 ^ 31) : ¬ Int32.ofNat N < 0 := by
  have e : (Int32.ofNat N).toInt = N := Int32.toInt_ofNat_of_lt (by omega)
  rw [Int32.lt_iff_toInt_lt, e]; show ¬ (N : Int) < 0; omega
theorem Ary.arv {a : Addr} {ty : FieldType} {vs : List Value} (A : Ary Z h a ty vs) (dv : Value) : ∃ kc, Arv Z h a kc ty (Int32.ofNat vs.length) vs dv := by
  obtain ⟨cl, q, r1, r2, r3⟩ := A
  have sz : cl.slots.size = vs.length := by rw [← r1]; simp
  have ga : ∀ i, i < vs.length → vs.getD i dv = vs[i]! := fun i hi => by simp [List.getD_eq_getElem?_getD, hi]
  refine ⟨cl.cls, cl, q, rfl, by rw [sz, n32 r2], nn32 r2, fun i hi => ?_, fun i hi => ?_⟩
  · have hi' : i < vs.length := sz ▸ hi
    rw [← Array.getElem?_toList, r1, List.getElem?_eq_getElem hi']; simp [List.getD_eq_getElem?_getD, hi']
  · have hi' : i < vs.length := sz ▸ hi
    have : vs.getD i dv = vs[i] := by simp [List.getD_eq_getElem?_getD, hi']
    rw [this]; exact r3 _ (List.getElem_mem _)
theorem Ary.of_arv {a : Addr} {ty : FieldType} {vs : List Value} {kc : ClassId} {z : Int32} {dv : Value} (A : Arv Z h a kc ty z vs dv) (hl : z.toNatClampNeg = vs.length) (hb : vs.length < 2 ^ 31) : Ary Z h a ty vs := by
  obtain ⟨cl, q, r1, r2, r3, r4, r5⟩ := A
  have sz : cl.slots.size = vs.length := r2.trans hl
  refine ⟨cl, q, List.ext_getElem? fun i => ?_, hb, fun v hv => ?_⟩
  · rw [Array.getElem?_toList]
    rcases Nat.lt_or_ge i cl.slots.size with hi | hi
    · have hi' : i < vs.length := sz ▸ hi
      rw [r4 i hi, List.getElem?_eq_getElem hi']; simp [List.getD_eq_getElem?_getD, hi']
    · rw [Array.getElem?_eq_none hi, List.getElem?_eq_none (by omega)]
  · obtain ⟨i, hi, rfl⟩ := List.mem_iff_getElem.mp hv
    have := r5 i (by omega)
    simpa [List.getD_eq_getElem?_getD, hi] using this
theorem s_newarr (X : Cx p l e R s m args below meth c Z EL kn y bytes maxL ret ws T h k n) {aty : ArrayType} {z : Int32} {N : Nat} {k' n' : Nat} (hd : decode bytes pc = .ok (.newarray aty, 2)) (w : (Cond.arrayClass (newarray.typeOf aty)).before a0 Z = true) (hz : z = Int32.ofNat N) (hN : N ≤ 67108864)
    (hk' : k + 1 ≤ k') (hn' : n + N ≤ n') (hkR : k' ≤ R.cells) (hnR : n' ≤ R.slots) (hp : pc + 2 = pc')
    (K : ∀ (T' : State) (h' : Heap) (a : Addr), a = h.size → Cx p l e R s m args below meth c Z EL kn y bytes maxL ret (a :: ws) T' h' k' n' → Ext h h' → Ary Z h' a (newarray.typeOf aty) (List.replicate N (defaultValue (newarray.typeOf aty))) → Go p e below Q T' (mkF m pc' L (.ref a :: S))) : Go p e below Q T (mkF m pc L (.int z :: S)) := by
  subst hp; subst hz
  have hN' : N < 2 ^ 31 := by omega
  obtain ⟨c0, vm0, k0, locs, St, eT, hZ, hown, hS, hk, N0, H, hsf, E, hkn⟩ := X
  obtain ⟨T', h', cA, X', e', E', A, st⟩ := newP St c0.1 hZ w eT (g := mkF m pc L (.int (Int32.ofNat N) :: S)) rfl (hb c0.2.1 hd) rfl (nn32 hN') (cap := N) (Nat.le_of_eq (n32 hN')) (by omega) (Nat.le_trans hk' hkR) (Nat.le_trans hn' hnR)
  refine Go.of st (K T' h' h.size rfl ⟨c0, vm0, k0, _, X'.mono hk' hn', e', hZ, hown, hS, Nat.le_trans hk E'.1, N0, H.trans (CHr.ext E' H.1), fun x q => ?_, ext_trans E E', hkn⟩ E' ⟨_, A, ?_, by simpa using hN', ?_⟩)
  · rcases List.mem_cons.mp q with rfl | q
    · exact ⟨Safe.ext E' H.1 (Safe.new (Nat.le_refl _)), A.lt⟩
    · exact ⟨Safe.ext E' H.1 (hsf x q).1, Nat.lt_of_lt_of_le (hsf x q).2 E'.1⟩
  · simp [newA, n32 hN']
  · intro v hv
    rw [(List.mem_replicate.mp hv).2]
    cases aty <;> rfl
theorem Ary.set {a : Addr} {ty : FieldType} {vs : List Value} {i : Nat} {v : Value} {cl : Cell} (A : RoadKit.Arr Z h a cl ty) (q1 : cl.slots.toList = vs) (q2 : vs.length < 2 ^ 31) (q3 : ∀ v ∈ vs, fits ty v = true) (hv : fits ty v = true) (W : Wr h h' a i v) : Ary Z h' a ty (vs.set i v) := by
  refine ⟨_, A.same W, ?_, by simpa using q2, fun x hx => ?_⟩
  · show (cl.slots.setIfInBounds i v).toList = _
    rw [Array.toList_setIfInBounds, q1]
  · rcases List.mem_or_eq_of_mem_set hx with r | rfl
    · exact q3 x r
    · exact hv
theorem s_castore (X : Cx p l e R s m args below meth c Z EL kn y bytes maxL ret ws T h k n) {a : Addr} {vs : List Value} {i : Nat} {j x : Int32} (hd : decode bytes pc = .ok (.castore, 1)) (A : Ary Z h a .char vs) (hj : j = Int32.ofNat i) (hi : i < vs.length) (ha : Z.heap.size ≤ a) (hm : a ∈ ws) (hp : pc + 1 = pc')
    (K : ∀ T' h', Cx p l e R s m args below meth c Z EL kn y bytes maxL ret ws T' h' k n → Wr h h' a i (.int (nar .char x)) → Ary Z h' a .char (vs.set i (.int (nar .char x))) → Go p e below Q T' (mkF m pc' L S)) : Go p e below Q T (mkF m pc L (.int x :: .int j :: .ref a :: S)) := by
  subst hp; subst hj
  obtain ⟨cl, q, r1, r2, r3⟩ := A
  have sz : cl.slots.size = vs.length := by rw [← r1]; simp
  have hi2 : i < 2 ^ 31 := Nat.lt_trans hi r2
  obtain ⟨c0, vm0, k0, locs, St, eT, hZ, hown, hS, hk, N, H, hsf, E, hkn⟩ := X
  obtain ⟨T', h', X', e', W, st⟩ := stC St c0.1 hZ eT q (j := Int32.ofNat i) (x := x) (fun z => z.elim (nn32 hi2) (fun z => by rw [n32 hi2] at z; omega)) (g := mkF m pc L (.int x :: .int (Int32.ofNat i) :: .ref a :: S)) rfl rfl (hb c0.2.1 hd)
  rw [n32 hi2] at W X'
  have Sa := (hsf a hm).1
  exact Go.of st (K T' h' ⟨c0, vm0, k0, _, X', e', hZ, hown, hS, by rw [W.size]; exact hk, Fr.snoc X' N ha, H.trans (CHr.wr W Sa H.1), fun x q => ⟨Safe.wr W Sa H.1 (hsf x q).1, by rw [W.size]; exact (hsf x q).2⟩, ext_wr E W ha, hkn⟩ W (Ary.set q r1 r2 r3 (fits_nar_char x) W))
theorem fits_nar_byte (x : Int32) : fits .byte (.int (nar .byte x)) = true := by
  have h1 := c_i2b x
  show fits .byte (.int x.toInt8.toInt32) = true
  simp only [fits, Bool.and_eq_true, decide_eq_true_eq, Int32.le_iff_toInt_le]
  exact ⟨by show (-128 : Int) ≤ _; omega, by show _ ≤ (127 : Int); omega⟩
theorem s_bastore (X : Cx p l e R s m args below meth c Z EL kn y bytes maxL ret ws T h k n) {a : Addr} {vs : List Value} {i : Nat} {j x : Int32} (hd : decode bytes pc = .ok (.bastore, 1)) (A : Ary Z h a .byte vs) (hj : j = Int32.ofNat i) (hi : i < vs.length) (ha : Z.heap.size ≤ a) (hm : a ∈ ws) (hp : pc + 1 = pc')
    (K : ∀ T' h', Cx p l e R s m args below meth c Z EL kn y bytes maxL ret ws T' h' k n → Wr h h' a i (.int (nar .byte x)) → Ary Z h' a .byte (vs.set i (.int (nar .byte x))) → Go p e below Q T' (mkF m pc' L S)) : Go p e below Q T (mkF m pc L (.int x :: .int j :: .ref a :: S)) := by
  subst hp; subst hj
  obtain ⟨cl, q, r1, r2, r3⟩ := A
  have sz : cl.slots.size = vs.length := by rw [← r1]; simp
  have hi2 : i < 2 ^ 31 := Nat.lt_trans hi r2
  obtain ⟨c0, vm0, k0, locs, St, eT, hZ, hown, hS, hk, N, H, hsf, E, hkn⟩ := X
  obtain ⟨T', h', X', e', W, st⟩ := stB St c0.1 hZ eT q (j := Int32.ofNat i) (x := x) (fun z => z.elim (nn32 hi2) (fun z => by rw [n32 hi2] at z; omega)) (g := mkF m pc L (.int x :: .int (Int32.ofNat i) :: .ref a :: S)) rfl rfl (hb c0.2.1 hd)
  rw [n32 hi2] at W X'
  have Sa := (hsf a hm).1
  exact Go.of st (K T' h' ⟨c0, vm0, k0, _, X', e', hZ, hown, hS, by rw [W.size]; exact hk, Fr.snoc X' N ha, H.trans (CHr.wr W Sa H.1), fun x q => ⟨Safe.wr W Sa H.1 (hsf x q).1, by rw [W.size]; exact (hsf x q).2⟩, ext_wr E W ha, hkn⟩ W (Ary.set q r1 r2 r3 (fits_nar_byte x) W))
theorem ary_at {cl : Cell} {vs : List Value} {i : Nat} {v : Value} (r1 : cl.slots.toList = vs) (r2 : vs.length < 2 ^ 31) (hv : vs[i]? = some v) : ¬ (Int32.ofNat i < 0 ∨ cl.slots.size ≤ (Int32.ofNat i).toNatClampNeg) ∧ cl.slots[(Int32.ofNat i).toNatClampNeg]? = some v := by
  have hi : i < vs.length := by
    rcases Nat.lt_or_ge i vs.length with q | q
    · exact q
    · rw [List.getElem?_eq_none q] at hv; cases hv
  have sz : cl.slots.size = vs.length := by rw [← r1]; simp
  have hi2 : i < 2 ^ 31 := Nat.lt_trans hi r2
  refine ⟨fun z => z.elim (nn32 hi2) (fun z => by rw [n32 hi2] at z; omega), ?_⟩
  rw [n32 hi2, ← Array.getElem?_toList, r1]; exact hv
theorem s_caload (X : Cx p l e R s m args below meth c Z EL kn y bytes maxL ret ws T h k n) {a : Addr} {vs : List Value} {i : Nat} {j : Int32} {v : Value} (hd : decode bytes pc = .ok (.caload, 1)) (A : Ary Z h a .char vs) (hj : j = Int32.ofNat i) (hv : vs[i]? = some v) (hp : pc + 1 = pc')
    (K : Go p e below Q T (mkF m pc' L (v :: S))) : Go p e below Q T (mkF m pc L (.int j :: .ref a :: S)) := by
  subst hp; subst hj
  obtain ⟨cl, q, r1, r2, r3⟩ := A
  obtain ⟨i1, i2⟩ := ary_at r1 r2 hv
  obtain ⟨c0, vm0, k0, locs, St, eT, hZ, r⟩ := X
  exact Go.of (St.caload c0.1 (by rw [eT]; exact q.1) (State.isArrayOf_alike hZ.alike q.2.1) q.2.2 i1 i2 (g := mkF m pc L (.int (Int32.ofNat i) :: .ref a :: S)) rfl rfl (hb c0.2.1 hd)) K
theorem s_baload (X : Cx p l e R s m args below meth c Z EL kn y bytes maxL ret ws T h k n) {a : Addr} {vs : List Value} {i : Nat} {j : Int32} {v : Value} (hd : decode bytes pc = .ok (.baload, 1)) (A : Ary Z h a .byte vs) (hj : j = Int32.ofNat i) (hv : vs[i]? = some v) (hp : pc + 1 = pc')
    (K : Go p e below Q T (mkF m pc' L (v :: S))) : Go p e below Q T (mkF m pc L (.int j :: .ref a :: S)) := by
  subst hp; subst hj
  obtain ⟨cl, q, r1, r2, r3⟩ := A
  obtain ⟨i1, i2⟩ := ary_at r1 r2 hv
  obtain ⟨c0, vm0, k0, locs, St, eT, hZ, r⟩ := X
  exact Go.of (St.baloadBytes c0.1 (by rw [eT]; exact q.1) (State.isArrayOf_alike hZ.alike q.2.1) q.2.2 i1 i2 (g := mkF m pc L (.int (Int32.ofNat i) :: .ref a :: S)) rfl rfl (hb c0.2.1 hd)) K
theorem s_aaload (X : Cx p l e R s m args below meth c Z EL kn y bytes maxL ret ws T h k n) {a : Addr} {vs : List Value} {i : Nat} {j : Int32} {v : Value} {ty : FieldType} (hd : decode bytes pc = .ok (.aaload, 1)) (A : Ary Z h a ty vs) (hty : ty.isReference = true) (hj : j = Int32.ofNat i) (hv : vs[i]? = some v) (hp : pc + 1 = pc')
    (K : Go p e below Q T (mkF m pc' L (v :: S))) : Go p e below Q T (mkF m pc L (.int j :: .ref a :: S)) := by
  subst hp; subst hj
  obtain ⟨cl, q, r1, r2, r3⟩ := A
  obtain ⟨i1, i2⟩ := ary_at r1 r2 hv
  obtain ⟨c0, vm0, k0, locs, St, eT, hZ, r⟩ := X
  exact Go.of (St.aaload c0.1 (by rw [eT]; exact q.1) (State.isArrayOf_alike hZ.alike q.2.1) hty q.2.2 i1 i2 (g := mkF m pc L (.int (Int32.ofNat i) :: .ref a :: S)) rfl rfl (hb c0.2.1 hd)) K
theorem s_alen (X : Cx p l e R s m args below meth c Z EL kn y bytes maxL ret ws T h k n) {a : Addr} {vs : List Value} {ty : FieldType} {z : Int32} (hd : decode bytes pc = .ok (.arraylength, 1)) (A : Ary Z h a ty vs) (hz : Int32.ofNat vs.length = z) (hp : pc + 1 = pc')
    (K : Go p e below Q T (mkF m pc' L (.int z :: S))) : Go p e below Q T (mkF m pc L (.ref a :: S)) := by
  subst hp; subst hz
  obtain ⟨cl, q, r1, r2, r3⟩ := A
  have sz : cl.slots.size = vs.length := by rw [← r1]; simp
  obtain ⟨c0, vm0, k0, locs, St, eT, hZ, r⟩ := X
  rw [← sz] at K
  exact Go.of (St.arraylength c0.1 (by rw [eT]; exact q.1) (State.isArrayOf_alike hZ.alike q.2.1) (g := mkF m pc L (.ref a :: S)) rfl rfl (hb c0.2.1 hd)) K
theorem s_ldcI (X : Cx p l e R s m args below meth c Z EL kn y bytes maxL ret ws T h k n) {index : Nat} {v : Int32} (hd : decode bytes pc = .ok (.ldc index, 2)) (w : (Cond.constant y.cls index v).before a0 Z = true) (hp : pc + 2 = pc') (K : Go p e below Q T (mkF m pc' L (.int v :: S))) : Go p e below Q T (mkF m pc L S) := by
  subst hp
  obtain ⟨c0, vm0, k0, locs, St, eT, hZ, hown, r⟩ := X
  exact Go.of (fun t q => Jvm.Stand.ldcI St c0.1 hown (mvT hZ w) (g := mkF m pc L S) rfl (hb c0.2.1 hd) q) K
theorem s_ldc2J (X : Cx p l e R s m args below meth c Z EL kn y bytes maxL ret ws T h k n) {index : Nat} {v : Int64} (hd : decode bytes pc = .ok (.ldc2_w index, 3)) (w : (Cond.constantLong y.cls index v).before a0 Z = true) (hp : pc + 3 = pc') (K : Go p e below Q T (mkF m pc' L (.long v :: S))) : Go p e below Q T (mkF m pc L S) := by
  subst hp
  obtain ⟨c0, vm0, k0, locs, St, eT, hZ, hown, r⟩ := X
  exact Go.of (fun t q => Jvm.Stand.ldc2J St c0.1 hown (mvT hZ w) (g := mkF m pc L S) rfl (hb c0.2.1 hd) q) K
theorem s_instY (X : Cx p l e R s m args below meth c Z EL kn y bytes maxL ret ws T h k n) {index : Nat} {K0 : String} {a : Addr} (hd : decode bytes pc = .ok (.instanceof index, 3)) (w : (Cond.classLink y.cls index K0).before a0 Z = true) (F : Ins Z h a K0 true) (hp : pc + 3 = pc')
    (K : ∀ T', Cx p l e R s m args below meth c Z EL kn y bytes maxL ret ws T' h k n → Go p e below Q T' (mkF m pc' L (.int 1 :: S))) : Go p e below Q T (mkF m pc L (.ref a :: S)) := by
  subst hp
  obtain ⟨c0, vm0, k0, locs, St, eT, hZ, hown, hS, hk, N, H, hsf, E, hkn⟩ := X
  obtain ⟨T', X', e', st⟩ := instY St c0.1 hZ hown w eT F (g := mkF m pc L (.ref a :: S)) rfl rfl (hb c0.2.1 hd)
  exact Go.of st (K T' ⟨c0, vm0, k0, locs, X', e', hZ, hown, hS, hk, N, H, hsf, E, hkn⟩)
theorem s_instN (X : Cx p l e R s m args below meth c Z EL kn y bytes maxL ret ws T h k n) {index : Nat} {K0 C : String} {a : Addr} (hd : decode bytes pc = .ok (.instanceof index, 3)) (w : (Cond.classLink y.cls index K0).before a0 Z = true) (E0 : Exa Z h a C) (F : Ins Z h a K0 false) (hp : pc + 3 = pc')
    (K : ∀ T', Cx p l e R s m args below meth c Z EL kn y bytes maxL ret ws T' h k n → Go p e below Q T' (mkF m pc' L (.int 0 :: S))) : Go p e below Q T (mkF m pc L (.ref a :: S)) := by
  subst hp
  obtain ⟨c0, vm0, k0, locs, St, eT, hZ, hown, hS, hk, N, H, hsf, E, hkn⟩ := X
  obtain ⟨cell, cT, h1, h2, h3⟩ := F
  obtain ⟨cell', kk, e1, -, e3, e4, -⟩ := E0
  cases h1.symm.trans e1
  have hZ' : Z.Warmed39 (s.setVm vm0).vm := hZ
  obtain ⟨k', q, -⟩ := hZ'.alike.2.2 _ _ e3
  obtain ⟨vm', X', st⟩ := Jvm.Sym.instanceofNoAt St c0.1 hown (mv hZ w) (by rw [eT]; exact h1) e4 q (by rw [hZ'.alike.findClass]; exact h2) (by rw [hZ'.alike.assignable]; simpa [e4] using h3) (g := mkF m pc L (.ref a :: S)) rfl rfl (hb c0.2.1 hd)
  exact Go.of st (K _ ⟨c0, vm0, k0, locs, X', eT, hZ, hown, hS, hk, N, H, hsf, E, hkn⟩)
theorem s_instNull (X : Cx p l e R s m args below meth c Z EL kn y bytes maxL ret ws T h k n) {index : Nat} (hd : decode bytes pc = .ok (.instanceof index, 3)) (hp : pc + 3 = pc') (K : Go p e below Q T (mkF m pc' L (.int 0 :: S))) : Go p e below Q T (mkF m pc L (.null :: S)) := by
  subst hp
  obtain ⟨c0, vm0, k0, locs, St, r⟩ := X
  exact Go.of (St.instanceofNull c0.1 (g := mkF m pc L (.null :: S)) rfl rfl (hb c0.2.1 hd)) K
theorem s_castY (X : Cx p l e R s m args below meth c Z EL kn y bytes maxL ret ws T h k n) {index : Nat} {K0 : String} {a : Addr} (hd : decode bytes pc = .ok (.checkcast index, 3)) (w : (Cond.classLink y.cls index K0).before a0 Z = true) (F : Ins Z h a K0 true) (hp : pc + 3 = pc')
    (K : ∀ T', Cx p l e R s m args below meth c Z EL kn y bytes maxL ret ws T' h k n → Go p e below Q T' (mkF m pc' L (.ref a :: S))) : Go p e below Q T (mkF m pc L (.ref a :: S)) := by
  subst hp
  obtain ⟨c0, vm0, k0, locs, St, eT, hZ, hown, hS, hk, N, H, hsf, E, hkn⟩ := X
  obtain ⟨T', X', e', st⟩ := castY St c0.1 hZ hown w eT F (g := mkF m pc L (.ref a :: S)) rfl rfl (hb c0.2.1 hd)
  exact Go.of st (K T' ⟨c0, vm0, k0, locs, X', e', hZ, hown, hS, hk, N, H, hsf, E, hkn⟩)
/-- the end of a walk -/
def Post (Z : State) (EL : List (String × Nat)) (U : State) (rm : Room) (Qc : Option Value → Heap → List Addr → Prop) (o : Outcome) (U' : State) : Prop :=
  ∃ v L ws', o = .returned v ∧ Qc v U'.heap ws' ∧ Fr Z.heap.size L ∧ Ext Z.heap U'.heap ∧ CHr Z EL U.vm U.heap U'.vm U'.heap ∧ (∀ x ∈ ws', Safe Z EL U'.vm U'.heap x ∧ x < U'.heap.size) ∧ ReturnedEndW U o U' L rm.cells rm.slots
/-- a body's contract -/
def Con (l : Launch) (Z : State) (EL : List (String × Nat)) (kn : Prop) (y : MethodName) (bytes : ByteArray) (maxL : Nat) (ret : Option FieldType) (rm : Room) (ws : List Addr) (as' : Array Value) (h : Heap) (Qc : Option Value → Heap → List Addr → Prop) : Prop :=
  ∀ wds : List Jvm.Cond, MetFree l y (head1 (Jvm.Cond.code y bytes maxL ret :: wds) rm) (fun a U => a = as' ∧ Z.Warmed39 U.vm ∧ U.heap = h ∧ CHv Z EL U.vm h ∧ (∀ x ∈ ws, Safe Z EL U.vm h x ∧ x < h.size) ∧ Ext Z.heap h) (fun _ _ bl U _ => kn → U.vm.MethodsKnown ∧ U.vm.FramesKnown bl) (fun _ U o U' => Post Z EL U rm Qc o U')
theorem Con.intro {rm : Room} {as' : Array Value} {Qc : Option Value → Heap → List Addr → Prop} (pn : plainFor y = true)
    (body : ∀ p e s m below meth c T, Cx p l e rm s m as' below meth c Z EL kn y bytes maxL ret ws T h 0 0 → Go p e below (Post Z EL s rm Qc) T (entryFrame m as' maxL)) : Con l Z EL kn y bytes maxL ret rm ws as' h Qc := by
  intro wds
  refine MetFree.of_bodySF pn hisR ?_
  intro p e s m args below meth c s₁ Bd hml0 hP hK
  obtain ⟨rfl, hZ, hh, hCH, hsf, hE⟩ := hP
  have St : Stand p l e rm s m args below meth c s₁ [] 0 0 := Stand.of_body Bd
  have e0 : s₁.heap = h := by rw [← hh, Bd.state]; rfl
  have hown : s.vm.findClass y.cls = some m.cls := findClass_of_methodNamed Bd.named
  have hnm := (name_of_methodNamed Bd.named Bd.method).1
  exact body p e s m below meth c s₁ ⟨⟨Bd.exec, Bd.bytes, hml0, Bd.returns, Bd.notSynchronized, hnm⟩, s.vm, 0, [], St, e0, hZ, hown, (State.WarmedH.refl s).since 0, Nat.zero_le _, Fr.nil _, by rw [← hh] at hCH ⊢; exact CHr.refl hCH, hsf, hE, hK⟩
theorem rew_mono {U U' : State} {o : Outcome} {Lc : List Loc} {k1 n1 k2 n2 : Nat} (q : ReturnedEndW U o U' Lc k1 n1) (hk : k1 ≤ k2) (hn : n1 ≤ n2) : ReturnedEndW U o U' Lc k2 n2 := ⟨q.1, q.2.1, q.2.2.1, q.2.2.2.mono hk hn⟩
theorem Cx.fin (X : Cx p l e R s m args below meth c Z EL kn y bytes maxL ret ws T h k n) (hEL : EW Z a0 EL) {rm : Room} {Qc : Option Value → Heap → List Addr → Prop} {v : Option Value} {ws' : List Addr} (hv : ret = none → v = none) (hk : k ≤ rm.cells) (hn : n ≤ rm.slots) (hQ : Qc v h ws') (hws : ∀ x ∈ ws', x ∈ ws) {gf : JFrame}
    (st : ∀ fs, (∀ (f : JFrame) (acts : List Action), f.method = m → f.locked = none → f.entered = [] → (doReturn e (T.setTop f) acts v).1 = T.setFrames fs) → Steps p.tables e below (T.setTop gf) (T.setFrames fs)) : Go p e below (Post Z EL s rm Qc) T gf := by
  obtain ⟨c0, vm0, k0, locs, St, eT, hZ, hown, hS, hk0, N, H, hsf, E, hkn⟩ := X
  obtain ⟨fs, h1, h2, h3, h4⟩ := St.leaveW hS (by rw [eT]; exact hk0) (v := v) (fun q => hv (c0.2.2.2.1.symm.trans q)) (hlocks := c0.2.2.2.2.1)
  have C := CHv.at St hZ hEL H.1
  refine ⟨T.setFrames fs, .returned v, st fs h1, h2, h3, v, locs, ws', rfl, ?_, N, ?_, ?_, fun x q => ?_, rew_mono h4 hk hn⟩
  · show Qc v T.heap ws'; rw [eT]; exact hQ
  · show Ext Z.heap T.heap; rw [eT]; exact E
  · show CHr Z EL s.vm s.heap T.vm T.heap; rw [eT]; exact H.trans C
  · show Safe Z EL T.vm T.heap x ∧ x < T.heap.size
    rw [eT]; exact ⟨C.safe (hsf x (hws x q)).2 (hsf x (hws x q)).1, (hsf x (hws x q)).2⟩
theorem Cx.stand (X : Cx p l e R s m args below meth c Z EL kn y bytes maxL ret ws T h k n) : ∃ vm0 locs, Stand p l e R (s.setVm vm0) m args below meth c T locs k n := by obtain ⟨c0, vm0, k0, locs, St, -⟩ := X; exact ⟨vm0, locs, St⟩
theorem s_ret (X : Cx p l e R s m args below meth c Z EL kn y bytes maxL none ws T h k n) (hEL : EW Z a0 EL) {rm : Room} {Qc : Option Value → Heap → List Addr → Prop} {ws' : List Addr} (hd : decode bytes pc = .ok (.return_, 1)) (hk : k ≤ rm.cells) (hn : n ≤ rm.slots) (hws : ∀ x ∈ ws', x ∈ ws) (hQ : Qc none h ws') : Go p e below (Post Z EL s rm Qc) T (mkF m pc L []) := by
  obtain ⟨vm0, locs, St⟩ := X.stand
  exact X.fin hEL (fun _ => rfl) hk hn hQ hws fun fs q => St.returnOut X.exec X.1.2.2.2.1 (hb X.code hd) q
theorem s_iretN (X : Cx p l e R s m args below meth c Z EL kn y bytes maxL ret ws T h k n) (hEL : EW Z a0 EL) {rm : Room} {Qc : Option Value → Heap → List Addr → Prop} {ws' : List Addr} {t : FieldType} {z : Int32} (hd : decode bytes pc = .ok (.ireturn, 1)) (hr : ret = some t) (ht : t = .boolean ∨ t = .byte ∨ t = .char ∨ t = .short) (hk : k ≤ rm.cells) (hn : n ≤ rm.slots) (hws : ∀ x ∈ ws', x ∈ ws) (hQ : Qc (some (.int (nar t z))) h ws') : Go p e below (Post Z EL s rm Qc) T (mkF m pc L (.int z :: S)) := by
  obtain ⟨vm0, locs, St⟩ := X.stand
  exact X.fin hEL (fun q => by rw [hr] at q; cases q) hk hn hQ hws fun fs q => retN St X.exec (X.1.2.2.2.1.trans hr) ht (hb X.code hd) q
theorem s_iret (X : Cx p l e R s m args below meth c Z EL kn y bytes maxL (some .int) ws T h k n) (hEL : EW Z a0 EL) {rm : Room} {Qc : Option Value → Heap → List Addr → Prop} {ws' : List Addr} {z : Int32} (hd : decode bytes pc = .ok (.ireturn, 1)) (hk : k ≤ rm.cells) (hn : n ≤ rm.slots) (hws : ∀ x ∈ ws', x ∈ ws) (hQ : Qc (some (.int z)) h ws') : Go p e below (Post Z EL s rm Qc) T (mkF m pc L (.int z :: S)) := by
  obtain ⟨vm0, locs, St⟩ := X.stand
  exact X.fin hEL (fun q => by cases q) hk hn hQ hws fun fs q => retOut St X.exec X.1.2.2.2.1 rfl (Or.inl ⟨rfl, Or.inl rfl, _, rfl⟩) (hb X.code hd) q
theorem s_aret (X : Cx p l e R s m args below meth c Z EL kn y bytes maxL ret ws T h k n) (hEL : EW Z a0 EL) {rm : Room} {Qc : Option Value → Heap → List Addr → Prop} {ws' : List Addr} {t : FieldType} {v : Value} (hd : decode bytes pc = .ok (.areturn, 1)) (hr : ret = some t) (ht : t.isReference = true) (hnr : narrow t v = v) (hv : v.isRef = true) (hk : k ≤ rm.cells) (hn : n ≤ rm.slots) (hws : ∀ x ∈ ws', x ∈ ws) (hQ : Qc (some v) h ws') : Go p e below (Post Z EL s rm Qc) T (mkF m pc L (v :: S)) := by
  obtain ⟨vm0, locs, St⟩ := X.stand
  exact X.fin hEL (fun q => by rw [hr] at q; cases q) hk hn hQ hws fun fs q => retOut St X.exec (X.1.2.2.2.1.trans hr) hnr (Or.inr (Or.inr (Or.inr (Or.inr ⟨rfl, ht, hv⟩)))) (hb X.code hd) q
/-- who pays a call -/
def Pay (l : Launch) (R : Room) (p : Program) (e : Env) (below : List Frame) (s : State) (args : Array Value) (Z : State) (EL : List (String × Nat)) (kn : Prop) (ws : List Addr) (y : MethodName) (len W ck sk : Nat) (as' : Array Value) (h : Heap) (Qc : Option Value → Heap → List Addr → Prop) : Prop :=
  ∀ vm0 : Vm, Z.Warmed39 vm0 → CHv Z EL vm0 h → (∀ x ∈ ws, Safe Z EL vm0 h x ∧ x < h.size) → Ext Z.heap h → (kn → vm0.MethodsKnown ∧ vm0.FramesKnown below) →
    BackS l R p e below (s.setVm vm0) args y len W (fun A a => a = as' ∧ A.U.heap = h ∧ A.cells + ck ≤ R.cells ∧ A.slots + sk ≤ R.slots)
      (fun A _ v B => ∃ L ws', Qc v B.U.heap ws' ∧ Fr Z.heap.size L ∧ Ext Z.heap B.U.heap ∧ B.locs = A.locs ++ L ∧ B.cells = A.cells + ck ∧ B.slots = A.slots + sk ∧ CHr Z EL vm0 h B.U.vm B.U.heap ∧ ∀ x ∈ ws', Safe Z EL B.U.vm B.U.heap x ∧ x < B.U.heap.size)
theorem safe_at {vm0 : Vm} {locs : List Loc} (St : Stand p l e R (s.setVm vm0) m args below meth c T locs k n) (hZ : Z.Warmed39 vm0) (hEL : EW Z a0 EL) (H : CHv Z EL vm0 h) (hsf : ∀ x ∈ ws, Safe Z EL vm0 h x ∧ x < h.size) : ∀ x ∈ ws, Safe Z EL T.vm h x ∧ x < h.size := fun x q => ⟨(CHv.at St hZ hEL H).safe (hsf x q).2 (hsf x q).1, (hsf x q).2⟩
theorem Con.pay {z : MethodName} {b' : ByteArray} {mL' : Nat} {r' : Option FieldType} {rm : Room} {as' : Array Value} {Qc : Option Value → Heap → List Addr → Prop} {len W : Nat} (C : Con l Z EL kn z b' mL' r' rm ws as' h Qc) (wc : (Jvm.Cond.code z b' mL' r').before a0 Z = true) (wz : (Jvm.Cond.initialized z.cls).before a0 Z = true) (hEL : EW Z a0 EL) (hf : rm.frames + 1 ≤ R.frames) (hl : W + (mL' + 11) + rm.locals ≤ R.locals) :
    Pay l R p e below s args Z EL kn ws z len W rm.cells rm.slots as' h Qc := by
  intro vm0 hZ H hsf hE hkn
  refine BackS.of_freeWG (bytes := b') (maxL := mL') (ret := r') (E := fun _ first o t L k n => k = rm.cells ∧ n = rm.slots ∧ (∃ v ws', o = .returned v ∧ Qc v t.heap ws' ∧ Fr Z.heap.size L ∧ Ext Z.heap t.heap ∧ ∀ x ∈ ws', Safe Z EL t.vm t.heap x ∧ x < t.heap.size) ∧ CHr Z EL first.vm first.heap t.vm t.heap) (C []) hf hl
    (fun m meth c A a Y hp => have hU : Z.Warmed39 A.U.vm := wtrans (s := s.setVm vm0) hZ Y.warmed
      ⟨by show (Jvm.Cond.and _ .tt).before a A.U = true; rw [Cond.before_and, mv hU wc]; rfl, mv hU wc, mv hU wz, hp.2.2.1, hp.2.2.2⟩)
    (fun m meth c A a g mk Y hp => ⟨hp.1, wtrans (s := s.setVm vm0) hZ Y.warmed, hp.2.1, (CHv.at Y hZ hEL H).1, safe_at (T := A.U) Y hZ hEL H hsf, hE⟩)
    (fun m meth c A a g mk Y _ hg hk => known_frames Y hg (hkn hk).1 (hkn hk).2)
    (fun _ _ _ _ ⟨v, L, ws', h1, h2, h3, h4, h5, h6, h7⟩ => ⟨L, _, _, h7, rfl, rfl, ⟨v, ws', h1, h2, h3, h4, h6⟩, h5⟩) ?_
  intro m meth c A a g mk v t L k n Y hp _ _ hE'
  obtain ⟨e1, e2, ⟨v', ws', e3, e4, e5, e6, e7⟩, e8⟩ := hE'
  cases e3; subst e1 e2
  refine ⟨L, ws', e4, e5, e6, rfl, rfl, rfl, (CHv.at Y hZ hEL H).trans ?_, e7⟩
  rw [← hp.2.1]; exact e8
theorem Pay.sub {z : MethodName} {as' : Array Value} {Qc : Option Value → Heap → List Addr → Prop} {len W ck sk : Nat} {ws0 : List Addr} (P : Pay l R p e below s args Z EL kn ws0 z len W ck sk as' h Qc) (hs : ∀ x ∈ ws0, x ∈ ws) : Pay l R p e below s args Z EL kn ws z len W ck sk as' h Qc :=
  fun vm0 hZ H hsf hE hkn => P vm0 hZ H (fun x q => hsf x (hs x q)) hE hkn
theorem Con.payS {z : MethodName} {b' : ByteArray} {mL' : Nat} {r' : Option FieldType} {rm : Room} {as' : Array Value} {Qc : Option Value → Heap → List Addr → Prop} {len W : Nat} {ws0 : List Addr} (C : Con l Z EL kn z b' mL' r' rm ws0 as' h Qc) (hs : ∀ x ∈ ws0, x ∈ ws) (wc : (Jvm.Cond.code z b' mL' r').before a0 Z = true) (wz : (Jvm.Cond.initialized z.cls).before a0 Z = true) (hEL : EW Z a0 EL) (hf : rm.frames + 1 ≤ R.frames) (hl : W + (mL' + 11) + rm.locals ≤ R.locals) :
    Pay l R p e below s args Z EL kn ws z len W rm.cells rm.slots as' h Qc := (C.pay wc wz hEL hf hl).sub hs
theorem Pay.of_back {z : MethodName} {as' : Array Value} {Q0 : Option Value → Heap → List Loc → Prop} {Qc : Option Value → Heap → List Addr → Prop} {len W ck sk : Nat} (hEL : EW Z a0 EL)
    (B : ∀ vm0 : Vm, Z.Warmed39 vm0 → Back l R p e below (s.setVm vm0) args z len W (fun P a => a = as' ∧ P.U.heap = h ∧ P.cells + ck ≤ R.cells ∧ P.slots + sk ≤ R.slots) (fun P _ v B => ∃ L, Q0 v B.U.heap L ∧ B.locs = P.locs ++ L ∧ B.cells = P.cells + ck ∧ B.slots = P.slots + sk))
    (hq : ∀ v h' L, Q0 v h' L → ∃ wr ws', Keep h h' wr ∧ (∀ x ∈ wr, x ∈ ws ∧ Z.heap.size ≤ x) ∧ Fr Z.heap.size L ∧ Qc v h' ws' ∧ ∀ x ∈ ws', x ∈ ws ∨ (h.size ≤ x ∧ x < h'.size)) : Pay l R p e below s args Z EL kn ws z len W ck sk as' h Qc := by
  intro vm0 hZ H hsf hE hkn m meth c A g ig mk a X hg hsize hdg hW hn hp
  obtain ⟨v, B1, X', ⟨L, q0, r1, r2, r3⟩, st⟩ := B vm0 hZ m meth c A g ig mk a X hg hsize hdg hW hn hp
  obtain ⟨wr, ws', K, k1, k2, k3, k4⟩ := hq _ _ _ q0
  have sw : ∀ x ∈ wr, Safe Z EL vm0 h x := fun x q => (hsf x (k1 x q).1).1
  have C1 : CHr Z EL vm0 h vm0 B1.U.heap := CHr.keep K sw H
  have C2 := CHv.at X' hZ hEL C1.1
  refine ⟨v, B1, X'.retabled X'.warmed.wide, X'.warmed.since _, by rw [hp.2.1]; exact K.1, ⟨L, ws', k3, k2, ext_keep hE K fun x q => (k1 x q).2, r1, r2, r3, C1.trans C2, fun x q => ?_⟩, st⟩
  have lt : x < B1.U.heap.size := (k4 x q).elim (fun r => Nat.lt_of_lt_of_le (hsf x r).2 K.1) (fun r => r.2)
  refine ⟨C2.safe lt ?_, lt⟩
  exact Safe.keep K sw H ((k4 x q).elim (fun r => (hsf x r).1) (fun r => Safe.new r.1))
theorem after {vm0 : Vm} {k0 : Nat} {locs L' : List Loc} {ws' : List Addr} {ck sk : Nat} {U : State} (c0 : p.tables.exec = Jvm.exec ∧ c.code = bytes ∧ c.maxLocals = maxL ∧ meth.sig.returnType = ret ∧ meth.locks = false ∧ meth.name = y.name)
    (X' : Stand p l e R ((s.setVm vm0).setVm U.vm) m args below meth c U (locs ++ L') (k + ck) (n + sk)) (hZ : Z.Warmed39 vm0) (hown : vm0.findClass y.cls = some m.cls) (hS : s.Since vm0 k0) (hk : k0 ≤ h.size) (N : Fr Z.heap.size locs) (H : CHr Z EL s.vm s.heap vm0 h) (hsf : ∀ x ∈ ws, Safe Z EL vm0 h x ∧ x < h.size) (hkn : kn → vm0.MethodsKnown ∧ vm0.FramesKnown below)
    (h2 : (s.setVm vm0).Since U.vm U.heap.size) (hgr : h.size ≤ U.heap.size) (N' : Fr Z.heap.size L') (E' : Ext Z.heap U.heap) (H' : CHr Z EL vm0 h U.vm U.heap) (hsf' : ∀ x ∈ ws', Safe Z EL U.vm U.heap x ∧ x < U.heap.size) :
    Cx p l e R s m args below meth c Z EL kn y bytes maxL ret (ws' ++ ws) U U.heap (k + ck) (n + sk) := by
  have al : vm0.Alike U.vm := h2.1.alike
  refine ⟨c0, U.vm, _, _, X', rfl, State.Warmed39.trans (t := s.setVm vm0) hZ h2.1, (al.findClass _ _).trans hown, hS.trans h2 (Nat.le_trans hk hgr), Nat.le_refl _, N.app N', H.trans H', fun x q => ?_, E', fun q => ⟨Vm.MethodsKnown.alikeC al (hkn q).1, fun fr hfr m' hm' => knowsMethod_alike al ((hkn q).2 fr hfr m' hm')⟩⟩
  rcases List.mem_append.mp q with q | q
  · exact hsf' x q
  · exact ⟨H'.safe (hsf x q).2 (hsf x q).1, Nat.lt_of_lt_of_le (hsf x q).2 hgr⟩
theorem s_static (X : Cx p l e R s m args below meth c Z EL kn y bytes maxL ret ws T h k n) {index : Nat} {z : MethodName} {b' : ByteArray} {mL' : Nat} {r' : Option FieldType} {W ck sk : Nat} {as' : List Value} {Qc : Option Value → Heap → List Addr → Prop} {ps : List FieldType} {rr : Option FieldType} {stk : List Value} {k' n' : Nat} (hd : decode bytes pc = .ok (.invokestatic index, 3))
    (w1 : (Jvm.Cond.methodLink y.cls index z).before a0 Z = true) (w2 : (Jvm.Cond.static z).before a0 Z = true) (w3 : (Jvm.Cond.initialized z.cls).before a0 Z = true) (w4 : (Jvm.Cond.code z b' mL' r').before a0 Z = true) (hz : z.cls ≠ "java/lang/invoke/MethodHandle" ∧ z.cls ≠ "java/lang/invoke/VarHandle") (hpd : parseMethodDescriptor z.desc = some ⟨ps, rr⟩) (hlen : as'.length = ps.length)
    (P : Pay l R p e below s args Z EL kn ws z 3 W ck sk as'.toArray h Qc) (hW : (S.map fun v => v.category).sum ≤ W) (hsz : L.size = maxL) (hst : stk = as'.reverse ++ S) (hk' : k + ck ≤ k') (hn' : n + sk ≤ n') (hkR : k' ≤ R.cells) (hnR : n' ≤ R.slots) (hp : pc + 3 = pc')
    (K : ∀ T' h' v ws', Cx p l e R s m args below meth c Z EL kn y bytes maxL ret (ws' ++ ws) T' h' k' n' → h.size ≤ h'.size → Qc v h' ws' → Go p e below Q T' (mkF m pc' L (v.toList ++ S))) : Go p e below Q T (mkF m pc L stk) := by
  subst hp; subst hst
  obtain ⟨c0, vm0, k0, locs, St, eT, hZ, hown, hS, hk, N, H, hsf, E, hkn⟩ := X
  have hP := P vm0 hZ H.1 hsf E hkn
  obtain ⟨v, vm₁, B, hw, X', h2, hgr, ⟨L', ws', q1, q2, q3, q4, q5, q6, q7, q8⟩, st⟩ := callSS St c0.1 hown (mvT hZ w1) (mvT hZ w2) (mvT hZ w3) (mvT hZ w4) hz hP (g := mkF m pc L (as'.reverse ++ S)) rfl (hsz.trans c0.2.2.1.symm) (lenOf hpd hlen) rfl (by show 2 * 0 + _ ≤ _; omega) (hb c0.2.1 hd) (fun _ _ => ⟨rfl, eT, Nat.le_trans hk' hkR, Nat.le_trans hn' hnR⟩)
  obtain ⟨U, Lb, kb, nb⟩ := B
  dsimp only [Pt.U, Pt.locs, Pt.cells, Pt.slots] at X' h2 hgr q1 q2 q3 q4 q5 q6 q7 q8 st
  subst q4 q5 q6
  rw [eT] at hgr
  exact Go.of (fun t q => st.trans q) (K U U.heap v ws' ((after c0 X' hZ hown hS hk N H hsf hkn h2 hgr q2 q3 q7 q8).more hk' hn') hgr q1)
theorem s_special (X : Cx p l e R s m args below meth c Z EL kn y bytes maxL ret ws T h k n) {index : Nat} {z : MethodName} {b' : ByteArray} {mL' : Nat} {W ck sk : Nat} {a : Addr} {as' : List Value} {Qc : Option Value → Heap → List Addr → Prop} {ps : List FieldType} {rr : Option FieldType} {stk : List Value} {k' n' : Nat} (hd : decode bytes pc = .ok (.invokespecial index, 3)) (hz1 : z.name = "<init>")
    (w1 : (Jvm.Cond.methodLink y.cls index z).before a0 Z = true) (w2 : (Jvm.Cond.instanceMethod z).before a0 Z = true) (w4 : (Jvm.Cond.code z b' mL' none).before a0 Z = true) (hz : z.cls ≠ "java/lang/invoke/MethodHandle" ∧ z.cls ≠ "java/lang/invoke/VarHandle") (hpd : parseMethodDescriptor z.desc = some ⟨ps, rr⟩) (hlen : as'.length = ps.length)
    (P : Pay l R p e below s args Z EL kn ws z 3 W ck sk (.ref a :: as').toArray h Qc) (hW : (S.map fun v => v.category).sum ≤ W) (hsz : L.size = maxL) (hst : stk = as'.reverse ++ .ref a :: S) (hk' : k + ck ≤ k') (hn' : n + sk ≤ n') (hkR : k' ≤ R.cells) (hnR : n' ≤ R.slots) (hp : pc + 3 = pc')
    (K : ∀ T' h' v ws', Cx p l e R s m args below meth c Z EL kn y bytes maxL ret (ws' ++ ws) T' h' k' n' → h.size ≤ h'.size → Qc v h' ws' → Go p e below Q T' (mkF m pc' L (v.toList ++ S))) : Go p e below Q T (mkF m pc L stk) := by
  subst hp; subst hst
  obtain ⟨c0, vm0, k0, locs, St, eT, hZ, hown, hS, hk, N, H, hsf, E, hkn⟩ := X
  have hP := P vm0 hZ H.1 hsf E hkn
  obtain ⟨v, vm₁, B, hw, X', h2, hgr, ⟨L', ws', q1, q2, q3, q4, q5, q6, q7, q8⟩, st⟩ := St.specialBackS c0.1 hz1 hown (mvT hZ w1) (mvT hZ w2) (mvT hZ w4) hz hP (g := mkF m pc L (as'.reverse ++ .ref a :: S)) rfl (hsz.trans c0.2.2.1.symm) (Steps.refl _) (lenOf hpd hlen) rfl (by show 2 * 0 + _ ≤ _; omega) (hb c0.2.1 hd) (fun _ _ => ⟨rfl, eT, Nat.le_trans hk' hkR, Nat.le_trans hn' hnR⟩)
  obtain ⟨U, Lb, kb, nb⟩ := B
  dsimp only [Pt.U, Pt.locs, Pt.cells, Pt.slots] at X' h2 hgr q1 q2 q3 q4 q5 q6 q7 q8 st
  subst q4 q5 q6
  rw [eT] at hgr
  exact Go.of (fun t q => st.trans q) (K U U.heap v ws' ((after c0 X' hZ hown hS hk N H hsf hkn h2 hgr q2 q3 q7 q8).more hk' hn') hgr q1)
theorem nface {C : String} {z : MethodName} (w : (Jvm.Cond.selects C z z).before a0 Z = true) : ∀ s : State, Z.Warmed39 s.vm → NotFace s z := fun s hZ => notFace_of_selects (args := #[]) (mvT hZ w)
theorem s_virtual (X : Cx p l e R s m args below meth c Z EL kn y bytes maxL ret ws T h k n) {index : Nat} {C : String} {z z' : MethodName} {W ck sk : Nat} {a : Addr} {as' : List Value} {Qc : Option Value → Heap → List Addr → Prop} {ps : List FieldType} {rr : Option FieldType} {stk : List Value} {k' n' : Nat} (hd : decode bytes pc = .ok (.invokevirtual index, 3))
    (w1 : (Jvm.Cond.methodLink y.cls index z).before a0 Z = true) (w2 : (Jvm.Cond.declares z).before a0 Z = true) (w3 : (Jvm.Cond.selects C z z').before a0 Z = true) (w4 : (Jvm.Cond.instanceMethod z').before a0 Z = true) (nf : ∀ s : State, Z.Warmed39 s.vm → NotFace s z) (hz : z.cls ≠ "java/lang/invoke/MethodHandle" ∧ z.cls ≠ "java/lang/invoke/VarHandle") (hpd : parseMethodDescriptor z.desc = some ⟨ps, rr⟩) (hlen : as'.length = ps.length) (E0 : Exa Z h a C)
    (P : Pay l R p e below s args Z EL kn ws z' 3 W ck sk (.ref a :: as').toArray h Qc) (hW : (S.map fun v => v.category).sum ≤ W) (hsz : L.size = maxL) (hst : stk = as'.reverse ++ .ref a :: S) (hk' : k + ck ≤ k') (hn' : n + sk ≤ n') (hkR : k' ≤ R.cells) (hnR : n' ≤ R.slots) (hp : pc + 3 = pc')
    (K : ∀ T' h' v ws', Cx p l e R s m args below meth c Z EL kn y bytes maxL ret (ws' ++ ws) T' h' k' n' → h.size ≤ h'.size → Qc v h' ws' → Go p e below Q T' (mkF m pc' L (v.toList ++ S))) : Go p e below Q T (mkF m pc L stk) := by
  subst hp; subst hst
  obtain ⟨c0, vm0, k0, locs, St, eT, hZ, hown, hS, hk, N, H, hsf, E, hkn⟩ := X
  have hP := P vm0 hZ H.1 hsf E hkn
  have hZ' : Z.Warmed39 (s.setVm vm0).vm := hZ
  obtain ⟨cq, kq, qa, qb, qc⟩ := isOf hZ' eT E0
  obtain ⟨v, vm₁, B, hw, X', h2, hgr, ⟨L', ws', q1, q2, q3, q4, q5, q6, q7, q8⟩, st⟩ := St.virtualBackS c0.1 hown (mvT hZ w1) (mvT hZ w2) (nf (s.setVm vm0) hZ) (mvT hZ w3) (mvT hZ w4) hz hP qa qc (g := mkF m pc L (as'.reverse ++ .ref a :: S)) rfl (hsz.trans c0.2.2.1.symm) (Steps.refl _) (lenOf hpd hlen) rfl (by show 2 * 0 + _ ≤ _; omega) (hb c0.2.1 hd) (fun _ _ => ⟨rfl, eT, Nat.le_trans hk' hkR, Nat.le_trans hn' hnR⟩)
  obtain ⟨U, Lb, kb, nb⟩ := B
  dsimp only [Pt.U, Pt.locs, Pt.cells, Pt.slots] at X' h2 hgr q1 q2 q3 q4 q5 q6 q7 q8 st
  subst q4 q5 q6
  rw [eT] at hgr
  exact Go.of (fun t q => st.trans q) (K U U.heap v ws' ((after c0 X' hZ hown hS hk N H hsf hkn h2 hgr q2 q3 q7 q8).more hk' hn') hgr q1)
theorem s_initO (X : Cx p l e R s m args below meth c Z EL kn y bytes maxL ret ws T h k n) {index : Nat} {a : Addr} (hd : decode bytes pc = .ok (.invokespecial index, 3))
    (w1 : (Jvm.Cond.methodLink y.cls index ⟨"java/lang/Object", "<init>", "()V"⟩).before a0 Z = true) (w2 : (Jvm.Cond.instanceMethod ⟨"java/lang/Object", "<init>", "()V"⟩).before a0 Z = true) {b' : ByteArray} (hb0 : b' = ⟨#[0xb1]⟩) (w4 : (Jvm.Cond.code ⟨"java/lang/Object", "<init>", "()V"⟩ b' 1 none).before a0 Z = true)
    {W : Nat} (hW : (S.map fun v => v.category).sum ≤ W) (hfr : 1 ≤ R.frames) (hlo : W + 12 ≤ R.locals) (hsz : L.size = maxL) (hp : pc + 3 = pc')
    (K : ∀ T', Cx p l e R s m args below meth c Z EL kn y bytes maxL ret ws T' h k n → Go p e below Q T' (mkF m pc' L S)) : Go p e below Q T (mkF m pc L (.ref a :: S)) := by
  subst hp; subst hb0
  obtain ⟨c0, vm0, k0, locs, St, eT, hZ, hown, hS, hk, N, H, hsf, E, hkn⟩ := X
  obtain ⟨T', X', e', st⟩ := initO St c0.1 hZ hown w1 w2 w4 eT (g := mkF m pc L (.ref a :: S)) rfl (hsz.trans c0.2.2.1.symm) rfl (hb c0.2.1 hd) hfr (W := W) (by show 2 * 0 + _ ≤ _; omega) hlo
  exact Go.of st (K T' ⟨c0, vm0, k0, locs, X', e', hZ, hown, hS, hk, N, H, hsf, E, hkn⟩)
/-- ldc of a String constant that is held: the text read -/
theorem s_ldcS (X : Cx p l e R s m args below meth c Z EL kn y bytes maxL ret ws T h k n) {index : Nat} {text : String} (hEL : EW Z a0 EL) (hd : decode bytes pc = .ok (.ldc index, 2)) (w : (Jvm.Cond.stringLink y.cls index text).before a0 Z = true) (wS : ∀ a ∈ Bundle.stringAtoms, a.before a0 Z = true) (hmem : (y.cls, index) ∈ EL)
    {vs : List Value} {z : Int32} (ht : (∀ c ∈ text.toList, c.toNat < 256) ∧ text.toList.map (fun c => Value.int (Jvm.Lit.byteI c.toNat.toUInt16)) = vs) (hz : ¬ z < 0) (hl : z.toNatClampNeg = vs.length) {nn k' n' : Nat} (hnn : 4 * text.toList.length ≤ nn) (hbig : nn ≤ 536870912) (hk' : k + 2 ≤ k') (hn' : n + (nn + 4) ≤ n') (hkR : k' ≤ R.cells) (hnR : n' ≤ R.slots) (hp : pc + 2 = pc')
    (K : ∀ T' h' (a b : Addr) (kc : ClassId), Cx p l e R s m args below meth c Z EL kn y bytes maxL ret ws T' h' k' n' → Ext h h' → Exa Z h' a "java/lang/String" → Fld Z h' a "java/lang/String" "coder" "B" (.int 0) → Fld Z h' a "java/lang/String" "value" "[B" (.ref b) → Arv Z h' b kc .byte z vs (.int 0) → (∀ x ∈ ws, x ≠ a ∧ x ≠ b) → Go p e below Q T' (mkF m pc' L (.ref a :: S))) : Go p e below Q T (mkF m pc L S) := by
  subst hp
  obtain ⟨c0, vm0, k0, locs, St, eT, hZ, hown, hS, hk, N, H, hsf, E, hkn⟩ := X
  obtain ⟨a, T', h', k1, b, kc, X', e', E', hS', hk1, hZ', hown', A1, A2, A3, A4, l1, l2, C, -, sf, st⟩ := ldcCH St c0.1 hZ hown w wS eT hS hk hEL hmem H.1 ht hz hl (g := mkF m pc L S) rfl (hb c0.2.1 hd) hnn hbig (Nat.le_trans hk' hkR) (Nat.le_trans hn' hnR)
  have al : vm0.Alike T'.vm := hS.1.alike.symm.trans hS'.1.alike
  exact Go.of st (K T' h' a b kc ⟨c0, T'.vm, k1, _, X'.mono hk' hn', e', hZ', hown', hS', hk1, N, H.trans C, fun x q => ⟨C.safe (hsf x q).2 (hsf x q).1, Nat.lt_of_lt_of_le (hsf x q).2 E'.1⟩, ext_trans E E', fun q => ⟨Vm.MethodsKnown.alikeC al (hkn q).1, fun fr hfr m' hm' => knowsMethod_alike al ((hkn q).2 fr hfr m' hm')⟩⟩ E' A1 A2 A3 A4 (fun x q => sf x (C.safe (hsf x q).2 (hsf x q).1)))
end Own
end Jvm.Own
/- laws to paste: Road.backV, Road.lenW, Road.chN, Road.codOf (cut by pick.py; bodies as the Statement names them) -/
namespace Jvm.Pilot.@@N@@
namespace StrChars
open Jvm Sem ClassFile Op Lib Jvm.Stand Jvm.Free.XT Jvm.Free.ALB Jvm.Free.JM Jvm.Free
open Jvm.Lib.Cold (StaticIs)
/-- a char array whose places are chars -/
def Ch (a : Addr) (A : Cell) (U : State) : Prop := Arr .char a A U ∧ Typed .char A
theorem Ch.mv {a : Addr} {A : Cell} {U U' : State} (h : Ch a A U) (hal : U.vm.Alike U'.vm) (hh : U'.heap = U.heap) : Ch a A U' := ⟨h.1.mv hal hh, h.2⟩
theorem Ch.keep {a : Addr} {A : Cell} {U U' : State} (h : Ch a A U) (hal : U.vm.Alike U'.vm) (hk : U'.heap[a]? = some A) : Ch a A U' := ⟨h.1.keep hal hk, h.2⟩
/-- what place i of a char[]'s cell holds -/
def cv (A : Cell) (i : Nat) : Int32 := match A.slots[i]? with | some (.int x) => x | _ => 0
theorem Ch.get {a : Addr} {A : Cell} {U : State} (h : Ch a A U) {i : Nat} (hi : i < A.slots.size) : A.slots[i]? = some (.int (cv A i)) := by
  have e := Array.getElem?_eq_getElem hi
  have f := h.2 i _ e
  unfold cv; rw [e]
  generalize A.slots[i] = v at f
  cases v <;> simp [fits] at f ⊢
/-- the byte that i2b leaves of a char -/
def lo8 (x : Int32) : Int32 := x.toInt8.toInt32
theorem fits_lo8 (y : Int32) : fits .byte (.int (lo8 y)) = true := by
  have h1 := y.toInt8.le_toInt
  have h2 := y.toInt8.toInt_lt
  simp only [lo8, fits, Bool.and_eq_true, decide_eq_true_eq, Int32.le_iff_toInt_le, Int8.toInt_toInt32, show (-128 : Int32).toInt = -128 from by decide, show (127 : Int32).toInt = 127 from by decide]
  omega
/-- A' is A but that each place j of lo .. hi - 1 holds f j -/
def Laid (A A' : Cell) (lo hi : Nat) (f : Nat → Value) : Prop := A'.cls = A.cls ∧ A'.vm = A.vm ∧ A'.slots.size = A.slots.size ∧ ∀ i, A'.slots[i]? = if lo ≤ i ∧ i < hi then some (f i) else A.slots[i]?
theorem Laid.zero (A : Cell) (lo : Nat) (f : Nat → Value) : Laid A A lo (lo + 0) f := ⟨rfl, rfl, rfl, fun i => by rw [if_neg (by omega)]⟩
theorem Laid.step {A Ak : Cell} {lo k : Nat} {f : Nat → Value} {v : Value} (h : Laid A Ak lo k f) (hlo : lo ≤ k) (hk : k < Ak.slots.size) (hv : v = f k) : Laid A (Ak.setSlot k v) lo (k + 1) f := by
  refine ⟨h.1, h.2.1, by simpa [Cell.setSlot] using h.2.2.1, fun i => ?_⟩
  by_cases e : k = i
  · subst e; rw [Cell.slots_setSlot_self v hk, if_pos (by omega), hv]
  · rw [Cell.slots_setSlot_ne v e, h.2.2.2 i]
    by_cases q : lo ≤ i ∧ i < k
    · rw [if_pos q, if_pos (by omega)]
    · rw [if_neg q, if_neg (by omega)]
def U16 : String := "java/lang/StringUTF16"
namespace Cmp5
def yN : MethodName := ⟨"java/lang/StringUTF16", "compress", "([CI[BII)I"⟩
abbrev yB : ByteArray := jdk_52_method_21_code
theorem d0 : decode yB 0 = .ok (.iconst 0, 1) := by decide +kernel
theorem d1 : decode yB 1 = .ok (.istore 5, 2) := by decide +kernel
theorem d3 : decode yB 3 = .ok (.iload 5, 2) := by decide +kernel
theorem d5 : decode yB 5 = .ok (.iload 4, 2) := by decide +kernel
theorem d7 : decode yB 7 = .ok (.if_icmp (.ge) 37, 3) := by decide +kernel
theorem d10 : decode yB 10 = .ok (.aload_n 0, 1) := by decide +kernel
theorem d11 : decode yB 11 = .ok (.iload_n 1, 1) := by decide +kernel
theorem d12 : decode yB 12 = .ok (.caload, 1) := by decide +kernel
theorem d13 : decode yB 13 = .ok (.istore 6, 2) := by decide +kernel
theorem d15 : decode yB 15 = .ok (.iload 6, 2) := by decide +kernel
theorem d17 : decode yB 17 = .ok (.sipush 255, 3) := by decide +kernel
theorem d20 : decode yB 20 = .ok (.if_icmp (.le) 6, 3) := by decide +kernel
theorem d26 : decode yB 26 = .ok (.aload_n 2, 1) := by decide +kernel
theorem d27 : decode yB 27 = .ok (.iload_n 3, 1) := by decide +kernel
theorem d28 : decode yB 28 = .ok (.iload 6, 2) := by decide +kernel
theorem d30 : decode yB 30 = .ok (.i2b, 1) := by decide +kernel
theorem d31 : decode yB 31 = .ok (.bastore, 1) := by decide +kernel
theorem d32 : decode yB 32 = .ok (.iinc 1 1, 3) := by decide +kernel
theorem d35 : decode yB 35 = .ok (.iinc 3 1, 3) := by decide +kernel
theorem d38 : decode yB 38 = .ok (.iinc 5 1, 3) := by decide +kernel
theorem d41 : decode yB 41 = .ok (.goto (-38), 3) := by decide +kernel
theorem d44 : decode yB 44 = .ok (.iload 4, 2) := by decide +kernel
theorem d46 : decode yB 46 = .ok (.ireturn, 1) := by decide +kernel
def site : List Cond := []
def tab : Cond := tabOf yN yB 7 (some .int) site
def P (b : Addr) (A : Cell) (d : Addr) (B : Cell) (o q len : Nat) (args : Array Value) (s : State) : Prop := args = #[.ref b, .int (Int32.ofNat o), .ref d, .int (Int32.ofNat q), .int (Int32.ofNat len)] ∧ Ch b A s ∧ Arr .byte d B s ∧ b ≠ d ∧ o + len ≤ A.slots.size ∧ q + len ≤ B.slots.size ∧ ∀ i, i < len → ¬ 255 < cv A (o + i)
def E (b : Addr) (A : Cell) (d : Addr) (B : Cell) (o q len : Nat) (r : Option Value) (s u : State) : Prop := r = some (.int (Int32.ofNat len)) ∧ ∃ B', Put d B' s u ∧ Laid B B' q (q + len) (fun j => Value.int (lo8 (cv A (o + (j - q)))))
/-- no char of the range above 255: len; the places written hold each char's low byte -/
theorem law (l : Launch) (b : Addr) (A : Cell) (d : Addr) (B : Cell) (o q len : Nat) : Law l yN 5 5 0 0 yB 7 (some .int) site (P b A d B o q len) (E b A d B o q len) (copyLocs d q len) 0 0 := by
  refine Law.of_walk (plainFor_of_name (by decide +kernel)) (by decide +kernel) (by decide +kernel) (by decide) (fun _ _ h => by rw [h.1]; rfl) (fun _ U U' hal hh h => ⟨h.1, h.2.1.mv hal hh, h.2.2.1.mv hal hh, h.2.2.2⟩) (fun r U U' V V' h1 hal h2 h => ⟨h.1, h.2.elim fun B' q => ⟨B', q.1.mv h1 h2, q.2⟩⟩) ?_
  intro p e s m args below meth c s₁ X0 hexec hbytes hml hret hlk hnm hown hh0 W hP
  obtain ⟨rfl, hA, hB, hne, l1, l2, hp⟩ := hP
  have c1 : Steps p.tables e below (s₁.setTop (entryFrame m #[.ref b, .int (Int32.ofNat o), .ref d, .int (Int32.ofNat q), .int (Int32.ofNat len)] 7)) (s₁.setTop (mkF m 0 #[.val (.ref b), .val (.int (Int32.ofNat o)), .val (.ref d), .val (.int (Int32.ofNat q)), .val (.int (Int32.ofNat len)), .unset, .unset] [])) := entry rfl
  have hA0 := hA.1.mv X0.warmed.alike hh0
  have hB0 := hB.mv X0.warmed.alike hh0
  have a31 := hA.1.2.2.2
  have c2 : Steps p.tables e below (s₁.setTop (entryFrame m #[.ref b, .int (Int32.ofNat o), .ref d, .int (Int32.ofNat q), .int (Int32.ofNat len)] 7)) (s₁.setTop (mkF m 3 #[.val (.ref b), .val (.int (Int32.ofNat o)), .val (.ref d), .val (.int (Int32.ofNat q)), .val (.int (Int32.ofNat len)), .val (.int 0), .unset] [])) := c1.trans (by
    refine iconstV X0.here hexec rfl 0 (hb hbytes d0) (by decide) ?_
    refine XS.istore X0.here hexec rfl (hb hbytes d1) rfl rfl ?_
    exact Steps.refl _)
  have loop : ∀ (r i : Nat), i + r = len → ∀ (z : Slot), (z = .unset ∨ ∃ w, z = .val w ∧ w.category = 1) → ∀ (Tl : State) (Bk : Cell), Stand p l e { frames := 0, locals := 0, cells := 0, slots := 0 } s m #[.ref b, .int (Int32.ofNat o), .ref d, .int (Int32.ofNat q), .int (Int32.ofNat len)] below meth c Tl ([] ++ copyLocs d q i) 0 0 → Put d Bk s₁ Tl → Laid B Bk q (q + i) (fun j => Value.int (lo8 (cv A (o + (j - q))))) →
      Steps p.tables e below (s₁.setTop (entryFrame m #[.ref b, .int (Int32.ofNat o), .ref d, .int (Int32.ofNat q), .int (Int32.ofNat len)] 7)) (Tl.setTop (mkF m 3 #[.val (.ref b), .val (.int (Int32.ofNat (o + i))), .val (.ref d), .val (.int (Int32.ofNat (q + i))), .val (.int (Int32.ofNat len)), .val (.int (Int32.ofNat i)), z] [])) → ∃ (T' : State) (B' : Cell) (z' : Slot), Stand p l e { frames := 0, locals := 0, cells := 0, slots := 0 } s m #[.ref b, .int (Int32.ofNat o), .ref d, .int (Int32.ofNat q), .int (Int32.ofNat len)] below meth c T' ([] ++ copyLocs d q len) 0 0 ∧ Put d B' s₁ T' ∧ Laid B B' q (q + len) (fun j => Value.int (lo8 (cv A (o + (j - q))))) ∧
      Steps p.tables e below (s₁.setTop (entryFrame m #[.ref b, .int (Int32.ofNat o), .ref d, .int (Int32.ofNat q), .int (Int32.ofNat len)] 7)) (T'.setTop (mkF m 3 #[.val (.ref b), .val (.int (Int32.ofNat (o + len))), .val (.ref d), .val (.int (Int32.ofNat (q + len))), .val (.int (Int32.ofNat len)), .val (.int (Int32.ofNat len)), z'] [])) := by
    intro r
    induction r with
    | zero =>
      intro i hi z hz Tl Bk Xl pl fl cl
      have hil : i = len := by omega
      rw [hil] at Xl fl cl
      exact ⟨Tl, Bk, z, Xl, pl, fl, cl⟩
    | succ r ih =>
      intro i hi z hz Tl Bk Xl pl fl cl
      have all := X0.warmed.alike.symm.trans Xl.warmed.alike
      have hAl := hA0.keep all (pl.other hne hA0.1)
      have hBk := hB0.like all pl.1 fl.1 fl.2.1 fl.2.2.1
      have hlt : q + i < Bk.slots.size := by rw [fl.2.2.1]; omega
      have c3 : Steps p.tables e below (s₁.setTop (entryFrame m #[.ref b, .int (Int32.ofNat o), .ref d, .int (Int32.ofNat q), .int (Int32.ofNat len)] 7)) (Tl.setTop (mkF m 12 #[.val (.ref b), .val (.int (Int32.ofNat (o + i))), .val (.ref d), .val (.int (Int32.ofNat (q + i))), .val (.int (Int32.ofNat len)), .val (.int (Int32.ofNat i)), z] [.int (Int32.ofNat (o + i)), .ref b])) := cl.trans (by
        refine XS.iload Xl.here hexec rfl (hb hbytes d3) rfl ?_
        refine XS.iload Xl.here hexec rfl (hb hbytes d5) rfl ?_
        refine XS.icmpNo Xl.here hexec rfl (hb hbytes d7) rfl (ii_ge_f (lt32 (by omega) (by omega))) ?_
        refine XS.aloadN Xl.here hexec rfl (hb hbytes d10) rfl rfl ?_
        refine XS.iloadN Xl.here hexec rfl (hb hbytes d11) rfl ?_
        exact Steps.refl _)
      have c4 : Steps p.tables e below (s₁.setTop (entryFrame m #[.ref b, .int (Int32.ofNat o), .ref d, .int (Int32.ofNat q), .int (Int32.ofNat len)] 7)) (Tl.setTop (mkF m 13 #[.val (.ref b), .val (.int (Int32.ofNat (o + i))), .val (.ref d), .val (.int (Int32.ofNat (q + i))), .val (.int (Int32.ofNat len)), .val (.int (Int32.ofNat i)), z] [.int (cv A (o + i))])) := c3.trans (by
        refine Xl.aget hexec hAl rfl (hA.get (i := o + i) (by omega)) rfl rfl (hb hbytes d12) ?_
        exact Steps.refl _)
      have c5 : Steps p.tables e below (s₁.setTop (entryFrame m #[.ref b, .int (Int32.ofNat o), .ref d, .int (Int32.ofNat q), .int (Int32.ofNat len)] 7)) (Tl.setTop (mkF m 15 #[.val (.ref b), .val (.int (Int32.ofNat (o + i))), .val (.ref d), .val (.int (Int32.ofNat (q + i))), .val (.int (Int32.ofNat len)), .val (.int (Int32.ofNat i)), .val (.int (cv A (o + i)))] [])) := c4.trans (by
        refine XS.istoreS Xl.here hexec rfl (hb hbytes d13) rfl rfl hz ?_
        exact Steps.refl _)
      have c6 : Steps p.tables e below (s₁.setTop (entryFrame m #[.ref b, .int (Int32.ofNat o), .ref d, .int (Int32.ofNat q), .int (Int32.ofNat len)] 7)) (Tl.setTop (mkF m 31 #[.val (.ref b), .val (.int (Int32.ofNat (o + i))), .val (.ref d), .val (.int (Int32.ofNat (q + i))), .val (.int (Int32.ofNat len)), .val (.int (Int32.ofNat i)), .val (.int (cv A (o + i)))] [.int (lo8 (cv A (o + i))), .int (Int32.ofNat (q + i)), .ref d])) := c5.trans (by
        refine XS.iload Xl.here hexec rfl (hb hbytes d15) rfl ?_
        refine sipushV Xl.here hexec rfl 255 (hb hbytes d17) (by decide) ?_
        refine XS.icmpYes Xl.here hexec rfl (pc0 := 20) rfl (hb hbytes d20) rfl (ii_le_t (hp i (by omega))) (by decide) rfl ?_
        refine XS.aloadN Xl.here hexec rfl (hb hbytes d26) rfl rfl ?_
        refine XS.iloadN Xl.here hexec rfl (hb hbytes d27) rfl ?_
        refine XS.iload Xl.here hexec rfl (hb hbytes d28) rfl ?_
        refine i2b Xl.here hexec rfl (hb hbytes d30) rfl ?_
        exact Steps.refl _)
      obtain ⟨T7, X7, p7, st7⟩ := Xl.aput hexec hBk rfl hlt rfl (fits_lo8 (cv A (o + i))) (g := (mkF m 31 #[.val (.ref b), .val (.int (Int32.ofNat (o + i))), .val (.ref d), .val (.int (Int32.ofNat (q + i))), .val (.int (Int32.ofNat len)), .val (.int (Int32.ofNat i)), .val (.int (cv A (o + i)))] [.int (lo8 (cv A (o + i))), .int (Int32.ofNat (q + i)), .ref d])) rfl (rest := []) rfl (hb hbytes d31)
      have c8 : Steps p.tables e below (s₁.setTop (entryFrame m #[.ref b, .int (Int32.ofNat o), .ref d, .int (Int32.ofNat q), .int (Int32.ofNat len)] 7)) (T7.setTop (mkF m 32 #[.val (.ref b), .val (.int (Int32.ofNat (o + i))), .val (.ref d), .val (.int (Int32.ofNat (q + i))), .val (.int (Int32.ofNat len)), .val (.int (Int32.ofNat i)), .val (.int (cv A (o + i)))] [])) := c6.trans (st7 _ (Steps.refl _))
      have c9 : Steps p.tables e below (s₁.setTop (entryFrame m #[.ref b, .int (Int32.ofNat o), .ref d, .int (Int32.ofNat q), .int (Int32.ofNat len)] 7)) (T7.setTop (mkF m 3 #[.val (.ref b), .val (.int (Int32.ofNat (o + i) + 1)), .val (.ref d), .val (.int (Int32.ofNat (q + i) + 1)), .val (.int (Int32.ofNat len)), .val (.int (Int32.ofNat i + 1)), .val (.int (cv A (o + i)))] [])) := c8.trans (by
        refine iincV X7.here hexec rfl 1 (hb hbytes d32) (by decide) rfl rfl ?_
        refine iincV X7.here hexec rfl 1 (hb hbytes d35) (by decide) rfl rfl ?_
        refine iincV X7.here hexec rfl 1 (hb hbytes d38) (by decide) rfl rfl ?_
        refine XS.goto X7.here hexec rfl (pc0 := 41) rfl (hb hbytes d41) (by decide) rfl ?_
        exact Steps.refl _)
      have c10 : Steps p.tables e below (s₁.setTop (entryFrame m #[.ref b, .int (Int32.ofNat o), .ref d, .int (Int32.ofNat q), .int (Int32.ofNat len)] 7)) (T7.setTop (mkF m 3 #[.val (.ref b), .val (.int (Int32.ofNat (o + (i + 1)))), .val (.ref d), .val (.int (Int32.ofNat (q + (i + 1)))), .val (.int (Int32.ofNat len)), .val (.int (Int32.ofNat (i + 1))), .val (.int (cv A (o + i)))] [])) := by
        have := c9
        rw [succ32, succ32, succ32] at this
        exact this
      exact ih (i + 1) (by omega) _ (Or.inr ⟨_, rfl, rfl⟩) T7 _ (by rw [copyLocs_step, ← List.append_assoc]; exact X7) (pl.trans p7) (fl.step (by omega) hlt (by simp)) c10
  obtain ⟨T9, B9, z9, X9, p9, f9, g9⟩ := loop len 0 (by omega) .unset (Or.inl rfl) s₁ B (by simpa [copyLocs] using X0) ⟨hB0.1, fun _ _ => rfl, rfl⟩ (Laid.zero _ _ _) c2
  have c11 : Steps p.tables e below (s₁.setTop (entryFrame m #[.ref b, .int (Int32.ofNat o), .ref d, .int (Int32.ofNat q), .int (Int32.ofNat len)] 7)) (T9.setTop (mkF m 46 #[.val (.ref b), .val (.int (Int32.ofNat (o + len))), .val (.ref d), .val (.int (Int32.ofNat (q + len))), .val (.int (Int32.ofNat len)), .val (.int (Int32.ofNat len)), z9] [.int (Int32.ofNat len)])) := g9.trans (by
    refine XS.iload X9.here hexec rfl (hb hbytes d3) rfl ?_
    refine XS.iload X9.here hexec rfl (hb hbytes d5) rfl ?_
    refine XS.icmpYes X9.here hexec rfl (pc0 := 7) rfl (hb hbytes d7) rfl (ii_ge_t (nlt32 (by omega) (Nat.le_refl _))) (by decide) rfl ?_
    refine XS.iload X9.here hexec rfl (hb hbytes d44) rfl ?_
    exact Steps.refl _)
  exact ⟨T9, some (.int (Int32.ofNat len)), _, _, _, X9, by simp, rfl, rfl, (fun h => by cases h), ⟨rfl, B9, p9.from hh0, f9⟩, fun fs hl => c11.trans (X9.ireturnOut hexec hret rfl (Or.inl rfl) (hb hbytes d46) hl)⟩
end Cmp5
namespace Cmp3
def yN : MethodName := ⟨"java/lang/StringUTF16", "compress", "([CII)[B"⟩
abbrev yB : ByteArray := jdk_52_method_16_code
theorem d0 : decode yB 0 = .ok (.iload_n 2, 1) := by decide +kernel
theorem d1 : decode yB 1 = .ok (.newarray .byte, 2) := by decide +kernel
theorem d3 : decode yB 3 = .ok (.astore_n 3, 1) := by decide +kernel
theorem d4 : decode yB 4 = .ok (.aload_n 0, 1) := by decide +kernel
theorem d5 : decode yB 5 = .ok (.iload_n 1, 1) := by decide +kernel
theorem d6 : decode yB 6 = .ok (.aload_n 3, 1) := by decide +kernel
theorem d7 : decode yB 7 = .ok (.iconst 0, 1) := by decide +kernel
theorem d8 : decode yB 8 = .ok (.iload_n 2, 1) := by decide +kernel
theorem d9 : decode yB 9 = .ok (.invokestatic 115, 3) := by decide +kernel
theorem d12 : decode yB 12 = .ok (.istore 4, 2) := by decide +kernel
theorem d14 : decode yB 14 = .ok (.iload 4, 2) := by decide +kernel
theorem d16 : decode yB 16 = .ok (.iload_n 2, 1) := by decide +kernel
theorem d17 : decode yB 17 = .ok (.if_icmp (.eq) 40, 3) := by decide +kernel
theorem d57 : decode yB 57 = .ok (.aload_n 3, 1) := by decide +kernel
theorem d58 : decode yB 58 = .ok (.areturn, 1) := by decide +kernel
def site : List Cond := [.arrayClass .byte, Cmp5.tab] ++ staticW U16 115 Cmp5.yN
def tab : Cond := tabOf yN yB 6 (some (.array .byte)) site
def P (b : Addr) (A : Cell) (o len : Nat) (args : Array Value) (s : State) : Prop := args = #[.ref b, .int (Int32.ofNat o), .int (Int32.ofNat len)] ∧ Ch b A s ∧ o + len ≤ A.slots.size ∧ len ≤ 536870912 ∧ ∀ i, i < len → ¬ 255 < cv A (o + i)
def E (b : Addr) (A : Cell) (o len : Nat) (r : Option Value) (s u : State) : Prop := NewArr .byte "[B" len (fun j => .int (lo8 (cv A (o + j)))) r s u ∧ u.heap.size = s.heap.size + 1
/-- no char of the range above 255: a new byte[] of their low bytes -/
theorem law (l : Launch) (b : Addr) (A : Cell) (o len : Nat) : Law l yN 3 3 1 18 yB 6 (some (.array .byte)) site (P b A o len) (E b A o len) [] 1 len := by
  refine Law.of_walk (plainFor_of_name (by decide +kernel)) (by decide +kernel) (by decide +kernel) (by decide) (fun _ _ h => by rw [h.1]; rfl) (fun _ U U' hal hh h => ⟨h.1, h.2.1.mv hal hh, h.2.2⟩) (fun r U U' V V' h1 hal h2 h => ⟨NewArr.mv r U U' V V' h1 hal h2 h.1, by rw [h1, h2]; exact h.2⟩) ?_
  intro p e s m args below meth c s₁ X0 hexec hbytes hml hret hlk hnm hown hh0 W hP
  obtain ⟨rfl, hA, l1, l2, hp⟩ := hP
  have a31 := hA.1.2.2.2
  have c1 : Steps p.tables e below (s₁.setTop (entryFrame m #[.ref b, .int (Int32.ofNat o), .int (Int32.ofNat len)] 6)) (s₁.setTop (mkF m 0 #[.val (.ref b), .val (.int (Int32.ofNat o)), .val (.int (Int32.ofNat len)), .unset, .unset, .unset] [])) := entry rfl
  have c2 : Steps p.tables e below (s₁.setTop (entryFrame m #[.ref b, .int (Int32.ofNat o), .int (Int32.ofNat len)] 6)) (s₁.setTop (mkF m 1 #[.val (.ref b), .val (.int (Int32.ofNat o)), .val (.int (Int32.ofNat len)), .unset, .unset, .unset] [.int (Int32.ofNat len)])) := c1.trans (by
    refine XS.iloadN X0.here hexec rfl (hb hbytes d0) rfl ?_
    exact Steps.refl _)
  obtain ⟨T3, B3, X3, ba3, bs3, bv3, bh3, bf3, st3⟩ := X0.anew hexec (atype := .byte) (wk W (.arrayClass .byte)) rfl (by show len * 1 ≤ _; omega) (by omega) (g := (mkF m 1 #[.val (.ref b), .val (.int (Int32.ofNat o)), .val (.int (Int32.ofNat len)), .unset, .unset, .unset] [.int (Int32.ofNat len)])) rfl (hb hbytes d1) (rest := []) rfl (Nat.le_refl _) (by show 0 + len ≤ len; omega)
  rw [hh0] at ba3 st3
  have kp3 : XT.Kept s T3 := (XT.Kept.of_eq hh0).push bh3
  have hA3 := hA.keep X3.warmed.alike (kp3 _ _ hA.1.1)
  have hne : b ≠ s.heap.size := hA.1.ne
  have c4 : Steps p.tables e below (s₁.setTop (entryFrame m #[.ref b, .int (Int32.ofNat o), .int (Int32.ofNat len)] 6)) (T3.setTop (mkF m 3 #[.val (.ref b), .val (.int (Int32.ofNat o)), .val (.int (Int32.ofNat len)), .unset, .unset, .unset] [.ref s.heap.size])) := c2.trans (st3 _ (Steps.refl _))
  have c5 : Steps p.tables e below (s₁.setTop (entryFrame m #[.ref b, .int (Int32.ofNat o), .int (Int32.ofNat len)] 6)) (T3.setTop (mkF m 9 #[.val (.ref b), .val (.int (Int32.ofNat o)), .val (.int (Int32.ofNat len)), .val (.ref s.heap.size), .unset, .unset] [.int (Int32.ofNat len), .int 0, .ref s.heap.size, .int (Int32.ofNat o), .ref b])) := c4.trans (by
    refine XS.astoreN X3.here hexec rfl (hb hbytes d3) rfl rfl rfl ?_
    refine XS.aloadN X3.here hexec rfl (hb hbytes d4) rfl rfl ?_
    refine XS.iloadN X3.here hexec rfl (hb hbytes d5) rfl ?_
    refine XS.aloadN X3.here hexec rfl (hb hbytes d6) rfl rfl ?_
    refine iconstV X3.here hexec rfl 0 (hb hbytes d7) (by decide) ?_
    refine XS.iloadN X3.here hexec rfl (hb hbytes d8) rfl ?_
    exact Steps.refl _)
  obtain ⟨v6, T6, X6, E6, g6⟩ := X3.callS hexec (Cmp5.law l b A s.heap.size B3 o 0 len) hown (wks W (staticW U16 115 Cmp5.yN)) (wk W Cmp5.tab) (W := 0) (Nat.le_of_ble_eq_true rfl) (Nat.le_of_ble_eq_true rfl) (Nat.le_refl _) (by show 0 + len + 0 ≤ len; omega) (g := (mkF m 9 #[.val (.ref b), .val (.int (Int32.ofNat o)), .val (.int (Int32.ofNat len)), .val (.ref s.heap.size), .unset, .unset] [.int (Int32.ofNat len), .int (Int32.ofNat 0), .ref s.heap.size, .int (Int32.ofNat o), .ref b])) rfl (by rw [hml]; rfl) c5 (argsL := [.ref b, .int (Int32.ofNat o), .ref s.heap.size, .int (Int32.ofNat 0), .int (Int32.ofNat len)]) (rest := []) rfl rfl (by show 2 * 0 + 0 ≤ _; decide) (hb hbytes d9) (⟨rfl, hA3, ba3, hne, l1, by rw [bs3]; simp, hp⟩)
  obtain ⟨rfl, B6, p6, f6⟩ := E6
  have c7 : Steps p.tables e below (s₁.setTop (entryFrame m #[.ref b, .int (Int32.ofNat o), .int (Int32.ofNat len)] 6)) (T6.setTop (mkF m 12 #[.val (.ref b), .val (.int (Int32.ofNat o)), .val (.int (Int32.ofNat len)), .val (.ref s.heap.size), .unset, .unset] [.int (Int32.ofNat len)])) := g6
  have c8 : Steps p.tables e below (s₁.setTop (entryFrame m #[.ref b, .int (Int32.ofNat o), .int (Int32.ofNat len)] 6)) (T6.setTop (mkF m 58 #[.val (.ref b), .val (.int (Int32.ofNat o)), .val (.int (Int32.ofNat len)), .val (.ref s.heap.size), .val (.int (Int32.ofNat len)), .unset] [.ref s.heap.size])) := c7.trans (by
    refine XS.istore X6.here hexec rfl (hb hbytes d12) rfl rfl ?_
    refine XS.iload X6.here hexec rfl (hb hbytes d14) rfl ?_
    refine XS.iloadN X6.here hexec rfl (hb hbytes d16) rfl ?_
    refine XS.icmpYes X6.here hexec rfl (pc0 := 17) rfl (hb hbytes d17) rfl (ii_eq_t rfl) (by decide) rfl ?_
    refine XS.aloadN X6.here hexec rfl (hb hbytes d57) rfl rfl ?_
    exact Steps.refl _)
  have X8 := X6.wide (L' := []) (cells' := 1) (slots' := len) (fun x hx hlt => by
    simp only [List.nil_append, copyLocs, List.mem_map, List.mem_range] at hx
    obtain ⟨i, -, rfl⟩ := hx
    exact absurd hlt (Nat.lt_irrefl _)) (Nat.le_refl _) (by omega)
  exact ⟨T6, some (.ref s.heap.size), _, _, _, X8, rfl, rfl, rfl, (fun h => by cases h), ⟨⟨rfl, B6, ba3.like (X3.warmed.alike.symm.trans X6.warmed.alike) p6.1 f6.1 f6.2.1 f6.2.2.1, f6.2.1.trans bv3, by rw [X6.warmed.alike.findClass, f6.1]; exact bf3, by rw [f6.2.2.1, bs3]; simp, fun j hj => by rw [f6.2.2.2 j, if_pos (by omega)]; rfl, kp3.put p6 (Nat.le_refl _)⟩, by rw [p6.2.2, bh3, hh0]; simp⟩, fun fs hl => c8.trans (X8.areturnOut hexec rfl hret rfl (hb hbytes d58) hl)⟩
end Cmp3
namespace CodL
def yN : MethodName := ⟨"java/lang/StringUTF16", "coderFromArrayLen", "([BI)B"⟩
abbrev yB : ByteArray := jdk_52_method_15_code
theorem d0 : decode yB 0 = .ok (.iload_n 1, 1) := by decide +kernel
theorem d1 : decode yB 1 = .ok (.aload_n 0, 1) := by decide +kernel
theorem d2 : decode yB 2 = .ok (.arraylength, 1) := by decide +kernel
theorem d3 : decode yB 3 = .ok (.isub, 1) := by decide +kernel
theorem d4 : decode yB 4 = .ok (.bipush 31, 2) := by decide +kernel
theorem d6 : decode yB 6 = .ok (.iushr, 1) := by decide +kernel
theorem d7 : decode yB 7 = .ok (.i2b, 1) := by decide +kernel
theorem d8 : decode yB 8 = .ok (.ireturn, 1) := by decide +kernel
def site : List Cond := []
def tab : Cond := tabOf yN yB 2 (some .byte) site
def P (d : Addr) (B : Cell) (args : Array Value) (s : State) : Prop := args = #[.ref d, .int (Int32.ofNat B.slots.size)] ∧ Arr .byte d B s
def E (r : Option Value) (s u : State) : Prop := XT.PureE (some (.int 0)) r s u
/-- an array as long as the number of chars: LATIN1 -/
theorem law (l : Launch) (d : Addr) (B : Cell) : Law l yN 2 2 0 0 yB 2 (some .byte) site (P d B) E [] 0 0 := by
  refine Law.of_walk (plainFor_of_name (by decide +kernel)) (by decide +kernel) (by decide +kernel) (by decide) (fun _ _ h => by rw [h.1]; rfl) (fun _ U U' hal hh h => ⟨h.1, h.2.mv hal hh⟩) (fun r U U' V V' h1 hal h2 h => XT.PureE.mv r U U' V V' h1 hal h2 h) ?_
  intro p e s m args below meth c s₁ X0 hexec hbytes hml hret hlk hnm hown hh0 W hP
  obtain ⟨rfl, hB⟩ := hP
  have hB0 := hB.mv X0.warmed.alike hh0
  have c1 : Steps p.tables e below (s₁.setTop (entryFrame m #[.ref d, .int (Int32.ofNat B.slots.size)] 2)) (s₁.setTop (mkF m 0 #[.val (.ref d), .val (.int (Int32.ofNat B.slots.size))] [])) := entry rfl
  have c2 : Steps p.tables e below (s₁.setTop (entryFrame m #[.ref d, .int (Int32.ofNat B.slots.size)] 2)) (s₁.setTop (mkF m 2 #[.val (.ref d), .val (.int (Int32.ofNat B.slots.size))] [.ref d, .int (Int32.ofNat B.slots.size)])) := c1.trans (by
    refine XS.iloadN X0.here hexec rfl (hb hbytes d0) rfl ?_
    refine XS.aloadN X0.here hexec rfl (hb hbytes d1) rfl rfl ?_
    exact Steps.refl _)
  have c3 : Steps p.tables e below (s₁.setTop (entryFrame m #[.ref d, .int (Int32.ofNat B.slots.size)] 2)) (s₁.setTop (mkF m 8 #[.val (.ref d), .val (.int (Int32.ofNat B.slots.size))] [.int (lo8 (ushr (Int32.ofNat B.slots.size - Int32.ofNat B.slots.size) 31))])) := c2.trans (by
    refine X0.alen hexec hB0 rfl rfl (hb hbytes d2) ?_
    refine XS.isub X0.here hexec rfl (hb hbytes d3) rfl ?_
    refine bipushV X0.here hexec rfl 31 (hb hbytes d4) (by decide) ?_
    refine iushr X0.here hexec rfl (hb hbytes d6) rfl ?_
    refine i2b X0.here hexec rfl (hb hbytes d7) rfl ?_
    exact Steps.refl _)
  have e0 : lo8 (ushr (Int32.ofNat B.slots.size - Int32.ofNat B.slots.size) 31) = 0 := by rw [Int32.sub_self]; decide
  rw [e0] at c3
  exact ⟨s₁, some (.int 0), _, _, _, X0, rfl, rfl, rfl, (fun h => by cases h), ⟨rfl, hh0⟩, fun fs hl => c3.trans (X0.ireturnOut hexec hret rfl (Or.inr (Or.inr (Or.inl rfl))) (hb hbytes d8) hl)⟩
end CodL
/-- the String at a is Latin-1 over a new byte[] (the heap's one new cell): the low bytes of the len chars of A from o on; every cell but a is kept -/
def Got (a : Addr) (D : Cell) (fV fC : Field) (A : Cell) (o len : Nat) (r : Option Value) (s u : State) : Prop := r = none ∧ ∃ D' V : Cell, Blank "java/lang/String" a D' u ∧ Same D D' [fV.slot, fC.slot] ∧ D'.slots[fV.slot]? = some (.ref s.heap.size) ∧ D'.slots[fC.slot]? = some (.int 0) ∧ Arr .byte s.heap.size V u ∧ V.vm = .none ∧ u.vm.findClass "[B" = some V.cls ∧ V.slots.size = len ∧ (∀ j, j < len → V.slots[j]? = some (.int (lo8 (cv A (o + j))))) ∧ (∀ (y : Addr) (c : Cell), y ≠ a → s.heap[y]? = some c → u.heap[y]? = some c) ∧ u.heap.size = s.heap.size + 1
theorem Got.mv {a : Addr} {D A : Cell} {fV fC : Field} {o len : Nat} : ∀ r (U U' V V' : State), U'.heap = U.heap → V.vm.Alike V'.vm → V'.heap = V.heap → Got a D fV fC A o len r U V → Got a D fV fC A o len r U' V' :=
  fun r U U' V V' h1 hal h2 ⟨e0, D', X, a1, a2, a3, a4, a5, a6, a7, a8, a9, a10, a11⟩ => ⟨e0, D', X, a1.mv hal h2, a2, by rw [h1]; exact a3, a4, by rw [h1]; exact a5.mv hal h2, a6, by rw [hal.findClass]; exact a7, a8, a9, by rw [h1, h2]; exact a10, by rw [h1, h2]; exact a11⟩
namespace New4
def yN : MethodName := ⟨"java/lang/String", "<init>", "([CIILjava/lang/Void;)V"⟩
abbrev yB : ByteArray := jdk_42_method_149_code
theorem d0 : decode yB 0 = .ok (.aload_n 0, 1) := by decide +kernel
theorem d1 : decode yB 1 = .ok (.invokespecial 1, 3) := by decide +kernel
theorem d4 : decode yB 4 = .ok (.iload_n 3, 1) := by decide +kernel
theorem d5 : decode yB 5 = .ok (.ifCond (.ne) 22, 3) := by decide +kernel
theorem d27 : decode yB 27 = .ok (.getstatic 38, 3) := by decide +kernel
theorem d30 : decode yB 30 = .ok (.ifCond (.eq) 28, 3) := by decide +kernel
theorem d33 : decode yB 33 = .ok (.aload_n 1, 1) := by decide +kernel
theorem d34 : decode yB 34 = .ok (.iload_n 2, 1) := by decide +kernel
theorem d35 : decode yB 35 = .ok (.iload_n 3, 1) := by decide +kernel
theorem d36 : decode yB 36 = .ok (.invokestatic 177, 3) := by decide +kernel
theorem d39 : decode yB 39 = .ok (.astore 5, 2) := by decide +kernel
theorem d41 : decode yB 41 = .ok (.aload_n 0, 1) := by decide +kernel
theorem d42 : decode yB 42 = .ok (.aload 5, 2) := by decide +kernel
theorem d44 : decode yB 44 = .ok (.iload_n 3, 1) := by decide +kernel
theorem d45 : decode yB 45 = .ok (.invokestatic 47, 3) := by decide +kernel
theorem d48 : decode yB 48 = .ok (.putfield 15, 3) := by decide +kernel
theorem d51 : decode yB 51 = .ok (.aload_n 0, 1) := by decide +kernel
theorem d52 : decode yB 52 = .ok (.aload 5, 2) := by decide +kernel
theorem d54 : decode yB 54 = .ok (.putfield 9, 3) := by decide +kernel
theorem d57 : decode yB 57 = .ok (.return_, 1) := by decide +kernel
def site : List Cond := [.fieldLink "java/lang/String" 38 "java/lang/String" "COMPACT_STRINGS" "Z", Cmp3.tab, CodL.tab, .laysFinal "java/lang/String" "java/lang/String" "value" "[B", .fieldLink "java/lang/String" 9 "java/lang/String" "value" "[B", .laysFinal "java/lang/String" "java/lang/String" "coder" "B", .fieldLink "java/lang/String" 15 "java/lang/String" "coder" "B"] ++ objW "java/lang/String" 1 ++ staticW "java/lang/String" 177 Cmp3.yN ++ staticW "java/lang/String" 47 CodL.yN
def tab : Cond := tabOf yN yB 6 none site
def P (a : Addr) (D : Cell) (fV fC : Field) (b : Addr) (A : Cell) (z : Int32) (o len : Nat) (args : Array Value) (s : State) : Prop := args = #[.ref a, .ref b, .int (Int32.ofNat o), .int (Int32.ofNat len), .null] ∧ Blank "java/lang/String" a D s ∧ Found "java/lang/String" "value" "[B" fV s ∧ Found "java/lang/String" "coder" "B" fC s ∧ Ch b A s ∧ StaticIs s "java/lang/String" "COMPACT_STRINGS" "Z" (.int z) ∧ ¬ z = 0 ∧ 0 < len ∧ o + len ≤ A.slots.size ∧ len ≤ 536870912 ∧ ∀ i, i < len → ¬ 255 < cv A (o + i)
def E (a : Addr) (D : Cell) (fV fC : Field) (A : Cell) (o len : Nat) (r : Option Value) (s u : State) : Prop := Got a D fV fC A o len r s u
/-- len > 0, no char of the range above 255: a Latin-1 String of their low bytes -/
theorem law (l : Launch) (a : Addr) (D : Cell) (fV fC : Field) (b : Addr) (A : Cell) (z : Int32) (o len : Nat) : Law l yN 5 4 2 35 yB 6 none site (P a D fV fC b A z o len) (E a D fV fC A o len) [⟨a, fC.slot⟩, ⟨a, fV.slot⟩] 1 len := by
  refine Law.of_walk (plainFor_of_name (by decide +kernel)) (by decide +kernel) (by decide +kernel) (by decide) (fun _ _ h => by rw [h.1]; rfl) (fun _ U U' hal hh h => ⟨h.1, h.2.1.mv hal hh, h.2.2.1.al hal, h.2.2.2.1.al hal, h.2.2.2.2.1.mv hal hh, h.2.2.2.2.2.1.there hal hh, h.2.2.2.2.2.2⟩) (fun r U U' V V' h1 hal h2 h => Got.mv r U U' V V' h1 hal h2 h) ?_
  intro p e s m args below meth c s₁ X0 hexec hbytes hml hret hlk hnm hown hh0 W hP
  obtain ⟨rfl, hB, f1, f2, hA, s1, hz, l0, l1, l2, hp⟩ := hP
  have a31 := hA.1.2.2.2
  have c1 : Steps p.tables e below (s₁.setTop (entryFrame m #[.ref a, .ref b, .int (Int32.ofNat o), .int (Int32.ofNat len), .null] 6)) (s₁.setTop (mkF m 0 #[.val (.ref a), .val (.ref b), .val (.int (Int32.ofNat o)), .val (.int (Int32.ofNat len)), .val .null, .unset] [])) := entry rfl
  have c2 : Steps p.tables e below (s₁.setTop (entryFrame m #[.ref a, .ref b, .int (Int32.ofNat o), .int (Int32.ofNat len), .null] 6)) (s₁.setTop (mkF m 1 #[.val (.ref a), .val (.ref b), .val (.int (Int32.ofNat o)), .val (.int (Int32.ofNat len)), .val .null, .unset] [.ref a])) := c1.trans (by
    refine XS.aloadN X0.here hexec rfl (hb hbytes d0) rfl rfl ?_
    exact Steps.refl _)
  obtain ⟨T3, X3, q3, st3⟩ := X0.oinit hexec hown (wks W (objW "java/lang/String" 1)) (g := (mkF m 1 #[.val (.ref a), .val (.ref b), .val (.int (Int32.ofNat o)), .val (.int (Int32.ofNat len)), .val .null, .unset] [.ref a])) rfl (by rw [hml]; rfl) (rest := []) rfl (hb hbytes d1) (W := 0) (by show 2 * 0 + 0 ≤ _; decide) (Nat.le_of_ble_eq_true rfl) (Nat.le_of_ble_eq_true rfl)
  have hh3 := q3.trans hh0
  have c4 : Steps p.tables e below (s₁.setTop (entryFrame m #[.ref a, .ref b, .int (Int32.ofNat o), .int (Int32.ofNat len), .null] 6)) (T3.setTop (mkF m 27 #[.val (.ref a), .val (.ref b), .val (.int (Int32.ofNat o)), .val (.int (Int32.ofNat len)), .val .null, .unset] [])) := (c2.trans (st3 _ (Steps.refl _))).trans (by
    refine XS.iloadN X3.here hexec rfl (hb hbytes d4) rfl ?_
    refine XS.ifYes X3.here hexec rfl (pc0 := 5) rfl (hb hbytes d5) rfl (i0_ne_t (nz32 (by omega) l0)) (by decide) rfl ?_
    exact Steps.refl _)
  obtain ⟨T5, X5, q5, st5⟩ := X3.sget hexec hown (wk W (.fieldLink "java/lang/String" 38 "java/lang/String" "COMPACT_STRINGS" "Z")) s1 (fun _ _ h => by rw [hh3]; exact h) (g := (mkF m 27 #[.val (.ref a), .val (.ref b), .val (.int (Int32.ofNat o)), .val (.int (Int32.ofNat len)), .val .null, .unset] [])) rfl (hb hbytes d27)
  have hh5 := q5.trans hh3
  have c6 : Steps p.tables e below (s₁.setTop (entryFrame m #[.ref a, .ref b, .int (Int32.ofNat o), .int (Int32.ofNat len), .null] 6)) (T5.setTop (mkF m 30 #[.val (.ref a), .val (.ref b), .val (.int (Int32.ofNat o)), .val (.int (Int32.ofNat len)), .val .null, .unset] [.int z])) := c4.trans (st5 _ (Steps.refl _))
  have c7 : Steps p.tables e below (s₁.setTop (entryFrame m #[.ref a, .ref b, .int (Int32.ofNat o), .int (Int32.ofNat len), .null] 6)) (T5.setTop (mkF m 36 #[.val (.ref a), .val (.ref b), .val (.int (Int32.ofNat o)), .val (.int (Int32.ofNat len)), .val .null, .unset] [.int (Int32.ofNat len), .int (Int32.ofNat o), .ref b])) := c6.trans (by
    refine XS.ifNo X5.here hexec rfl (hb hbytes d30) rfl (i0_eq_f hz) ?_
    refine XS.aloadN X5.here hexec rfl (hb hbytes d33) rfl rfl ?_
    refine XS.iloadN X5.here hexec rfl (hb hbytes d34) rfl ?_
    refine XS.iloadN X5.here hexec rfl (hb hbytes d35) rfl ?_
    exact Steps.refl _)
  obtain ⟨v8, T8, X8, E8, g8⟩ := X5.callS hexec (Cmp3.law l b A o len) hown (wks W (staticW "java/lang/String" 177 Cmp3.yN)) (wk W Cmp3.tab) (W := 0) (Nat.le_of_ble_eq_true rfl) (Nat.le_of_ble_eq_true rfl) (Nat.le_refl _) (by show 0 + len ≤ len; omega) (g := (mkF m 36 #[.val (.ref a), .val (.ref b), .val (.int (Int32.ofNat o)), .val (.int (Int32.ofNat len)), .val .null, .unset] [.int (Int32.ofNat len), .int (Int32.ofNat o), .ref b])) rfl (by rw [hml]; rfl) c7 (argsL := [.ref b, .int (Int32.ofNat o), .int (Int32.ofNat len)]) (rest := []) rfl rfl (by show 2 * 0 + 0 ≤ _; decide) (hb hbytes d36) (⟨rfl, hA.mv X5.warmed.alike hh5, l1, l2, hp⟩)
  obtain ⟨e8, z8⟩ := E8
  obtain ⟨rfl, N, n1, n2, n3, n4, n5, n6⟩ := NewArr.mv _ T5 s _ _ hh5.symm (Vm.Alike.refl _) rfl e8
  rw [hh5] at z8
  have hB1 := hB.keep X8.warmed.alike (n6 _ _ hB.1)
  have hne : s.heap.size ≠ a := (Nat.ne_of_lt (Array.getElem?_eq_some_iff.mp hB.1).1).symm
  have c9 : Steps p.tables e below (s₁.setTop (entryFrame m #[.ref a, .ref b, .int (Int32.ofNat o), .int (Int32.ofNat len), .null] 6)) (T8.setTop (mkF m 39 #[.val (.ref a), .val (.ref b), .val (.int (Int32.ofNat o)), .val (.int (Int32.ofNat len)), .val .null, .unset] [.ref s.heap.size])) := g8
  have c10 : Steps p.tables e below (s₁.setTop (entryFrame m #[.ref a, .ref b, .int (Int32.ofNat o), .int (Int32.ofNat len), .null] 6)) (T8.setTop (mkF m 45 #[.val (.ref a), .val (.ref b), .val (.int (Int32.ofNat o)), .val (.int (Int32.ofNat len)), .val .null, .val (.ref s.heap.size)] [.int (Int32.ofNat N.slots.size), .ref s.heap.size, .ref a])) := by
    have hc : Steps p.tables e below (s₁.setTop (entryFrame m #[.ref a, .ref b, .int (Int32.ofNat o), .int (Int32.ofNat len), .null] 6)) (T8.setTop (mkF m 45 #[.val (.ref a), .val (.ref b), .val (.int (Int32.ofNat o)), .val (.int (Int32.ofNat len)), .val .null, .val (.ref s.heap.size)] [.int (Int32.ofNat len), .ref s.heap.size, .ref a])) := c9.trans (by
      refine XS.astore X8.here hexec rfl (hb hbytes d39) rfl rfl rfl ?_
      refine XS.aloadN X8.here hexec rfl (hb hbytes d41) rfl rfl ?_
      refine XS.aload X8.here hexec rfl (hb hbytes d42) rfl rfl ?_
      refine XS.iloadN X8.here hexec rfl (hb hbytes d44) rfl ?_
      exact Steps.refl _)
    rw [n4]; exact hc
  obtain ⟨v11, T11, X11, E11, g11⟩ := X8.callS hexec (CodL.law l s.heap.size N) hown (wks W (staticW "java/lang/String" 47 CodL.yN)) (wk W CodL.tab) (W := 1) (Nat.le_of_ble_eq_true rfl) (Nat.le_of_ble_eq_true rfl) (Nat.le_refl _) (by show 0 + len + 0 ≤ len; omega) (g := (mkF m 45 #[.val (.ref a), .val (.ref b), .val (.int (Int32.ofNat o)), .val (.int (Int32.ofNat len)), .val .null, .val (.ref s.heap.size)] [.int (Int32.ofNat N.slots.size), .ref s.heap.size, .ref a])) rfl (by rw [hml]; rfl) c10 (argsL := [.ref s.heap.size, .int (Int32.ofNat N.slots.size)]) (rest := [.ref a]) rfl rfl (by show 2 * 0 + (1 + 0) ≤ _; decide) (hb hbytes d45) (⟨rfl, n1⟩)
  obtain ⟨rfl, q11⟩ := E11
  have hB11 := hB1.mv (X8.warmed.alike.symm.trans X11.warmed.alike) q11
  have c12 : Steps p.tables e below (s₁.setTop (entryFrame m #[.ref a, .ref b, .int (Int32.ofNat o), .int (Int32.ofNat len), .null] 6)) (T11.setTop (mkF m 48 #[.val (.ref a), .val (.ref b), .val (.int (Int32.ofNat o)), .val (.int (Int32.ofNat len)), .val .null, .val (.ref s.heap.size)] [.int 0, .ref a])) := g11
  obtain ⟨T13, X13, p13, bl13, sl13, st13⟩ := X11.finit hexec hown (wk W (.fieldLink "java/lang/String" 15 "java/lang/String" "coder" "B")) (Or.inr ⟨_, (wk W (.laysFinal "java/lang/String" "java/lang/String" "coder" "B"))⟩) (Or.inl ⟨rfl, hnm⟩) f2 (Or.inl rfl) hB11 (t := .byte) (by decide +kernel) rfl (g := (mkF m 48 #[.val (.ref a), .val (.ref b), .val (.int (Int32.ofNat o)), .val (.int (Int32.ofNat len)), .val .null, .val (.ref s.heap.size)] [.int 0, .ref a])) rfl (rest := []) rfl (hb hbytes d48)
  have c14 : Steps p.tables e below (s₁.setTop (entryFrame m #[.ref a, .ref b, .int (Int32.ofNat o), .int (Int32.ofNat len), .null] 6)) (T13.setTop (mkF m 54 #[.val (.ref a), .val (.ref b), .val (.int (Int32.ofNat o)), .val (.int (Int32.ofNat len)), .val .null, .val (.ref s.heap.size)] [.ref s.heap.size, .ref a])) := (c12.trans (st13 _ (Steps.refl _))).trans (by
    refine XS.aloadN X13.here hexec rfl (hb hbytes d51) rfl rfl ?_
    refine XS.aload X13.here hexec rfl (hb hbytes d52) rfl rfl ?_
    exact Steps.refl _)
  obtain ⟨T15, X15, p15, bl15, sl15, st15⟩ := X13.finit hexec hown (wk W (.fieldLink "java/lang/String" 9 "java/lang/String" "value" "[B")) (Or.inr ⟨_, (wk W (.laysFinal "java/lang/String" "java/lang/String" "value" "[B"))⟩) (Or.inl ⟨rfl, hnm⟩) f1 (Or.inl rfl) bl13 (t := (.array .byte)) (by decide +kernel) rfl (g := (mkF m 54 #[.val (.ref a), .val (.ref b), .val (.int (Int32.ofNat o)), .val (.int (Int32.ofNat len)), .val .null, .val (.ref s.heap.size)] [.ref s.heap.size, .ref a])) rfl (rest := []) rfl (hb hbytes d54)
  have c16 : Steps p.tables e below (s₁.setTop (entryFrame m #[.ref a, .ref b, .int (Int32.ofNat o), .int (Int32.ofNat len), .null] 6)) (T15.setTop (mkF m 57 #[.val (.ref a), .val (.ref b), .val (.int (Int32.ofNat o)), .val (.int (Int32.ofNat len)), .val .null, .val (.ref s.heap.size)] [])) := c14.trans (st15 _ (Steps.refl _))
  have ap := apart (Or.inr ⟨_, (wk W (.laysFinal "java/lang/String" "java/lang/String" "value" "[B"))⟩) (Or.inr ⟨_, (wk W (.laysFinal "java/lang/String" "java/lang/String" "coder" "B"))⟩) f1 f2 (t₁ := .array .byte) (t₂ := .byte) (by decide +kernel) (by decide +kernel) (by decide)
  have al := X8.warmed.alike.symm.trans X15.warmed.alike
  have n7 : T11.heap[s.heap.size]? = some N := by rw [q11]; exact n1.1
  exact ⟨T15, none, _, _, _, X15, by simp, rfl, by omega, (fun _ => rfl), ⟨rfl, _, N, bl15, ((Same.refl D _).set _ (by simp)).set _ (by simp), sl15, (Cell.slots_setSlot_ne _ ap).trans sl13, n1.keep al (p15.other hne (p13.other hne n7)), n2, by rw [al.findClass]; exact n3, n4, n5, fun y c h1 h2 => p15.other h1 (p13.other h1 (by rw [q11]; exact n6 y c h2)), by rw [p15.2.2, p13.2.2, q11]; exact z8⟩, fun fs hl => c16.trans (X15.returnOut hexec hret (hb hbytes d57) hl)⟩
end New4
namespace New1
def yN : MethodName := ⟨"java/lang/String", "<init>", "([C)V"⟩
abbrev yB : ByteArray := jdk_42_method_3_code
theorem d0 : decode yB 0 = .ok (.aload_n 0, 1) := by decide +kernel
theorem d1 : decode yB 1 = .ok (.aload_n 1, 1) := by decide +kernel
theorem d2 : decode yB 2 = .ok (.iconst 0, 1) := by decide +kernel
theorem d3 : decode yB 3 = .ok (.aload_n 1, 1) := by decide +kernel
theorem d4 : decode yB 4 = .ok (.arraylength, 1) := by decide +kernel
theorem d5 : decode yB 5 = .ok (.aconst_null, 1) := by decide +kernel
theorem d6 : decode yB 6 = .ok (.invokespecial 27, 3) := by decide +kernel
theorem d9 : decode yB 9 = .ok (.return_, 1) := by decide +kernel
def site : List Cond := [New4.tab] ++ initW "java/lang/String" 27 New4.yN
def tab : Cond := tabOf yN yB 2 none site
def P (a : Addr) (D : Cell) (fV fC : Field) (b : Addr) (A : Cell) (z : Int32) (args : Array Value) (s : State) : Prop := args = #[.ref a, .ref b] ∧ Blank "java/lang/String" a D s ∧ Found "java/lang/String" "value" "[B" fV s ∧ Found "java/lang/String" "coder" "B" fC s ∧ Ch b A s ∧ StaticIs s "java/lang/String" "COMPACT_STRINGS" "Z" (.int z) ∧ ¬ z = 0 ∧ 0 < A.slots.size ∧ A.slots.size ≤ 536870912 ∧ ∀ i, i < A.slots.size → ¬ 255 < cv A i
def E (a : Addr) (D : Cell) (fV fC : Field) (A : Cell) (r : Option Value) (s u : State) : Prop := Got a D fV fC A 0 A.slots.size r s u
/-- new String(chars), not empty, no char above 255: a Latin-1 String of their low bytes -/
theorem law (l : Launch) (a : Addr) (D : Cell) (fV fC : Field) (b : Addr) (A : Cell) (z : Int32) : Law l yN 2 1 3 52 yB 2 none site (P a D fV fC b A z) (E a D fV fC A) [⟨a, fC.slot⟩, ⟨a, fV.slot⟩] 1 A.slots.size := by
  refine Law.of_walk (plainFor_of_name (by decide +kernel)) (by decide +kernel) (by decide +kernel) (by decide) (fun _ _ h => by rw [h.1]; rfl) (fun _ U U' hal hh h => ⟨h.1, h.2.1.mv hal hh, h.2.2.1.al hal, h.2.2.2.1.al hal, h.2.2.2.2.1.mv hal hh, h.2.2.2.2.2.1.there hal hh, h.2.2.2.2.2.2⟩) (fun r U U' V V' h1 hal h2 h => Got.mv r U U' V V' h1 hal h2 h) ?_
  intro p e s m args below meth c s₁ X0 hexec hbytes hml hret hlk hnm hown hh0 W hP
  obtain ⟨rfl, hB, f1, f2, hA, s1, hz, l0, l2, hp⟩ := hP
  have c1 : Steps p.tables e below (s₁.setTop (entryFrame m #[.ref a, .ref b] 2)) (s₁.setTop (mkF m 0 #[.val (.ref a), .val (.ref b)] [])) := entry rfl
  have c2 : Steps p.tables e below (s₁.setTop (entryFrame m #[.ref a, .ref b] 2)) (s₁.setTop (mkF m 6 #[.val (.ref a), .val (.ref b)] [.null, .int (Int32.ofNat A.slots.size), .int 0, .ref b, .ref a])) := c1.trans (by
    refine XS.aloadN X0.here hexec rfl (hb hbytes d0) rfl rfl ?_
    refine XS.aloadN X0.here hexec rfl (hb hbytes d1) rfl rfl ?_
    refine iconstV X0.here hexec rfl 0 (hb hbytes d2) (by decide) ?_
    refine XS.aloadN X0.here hexec rfl (hb hbytes d3) rfl rfl ?_
    refine X0.alen hexec (hA.1.mv X0.warmed.alike hh0) rfl rfl (hb hbytes d4) ?_
    refine XS.aconstNull X0.here hexec rfl (hb hbytes d5) ?_
    exact Steps.refl _)
  obtain ⟨v3, T3, X3, E3, g3⟩ := X0.callN hexec (New4.law l a D fV fC b A z 0 A.slots.size) rfl hown (wks W (initW "java/lang/String" 27 New4.yN)) (W New4.tab (by simp only [site, List.mem_cons, List.mem_append, true_or, or_true])) (W := 0) (Nat.le_of_ble_eq_true rfl) (Nat.le_of_ble_eq_true rfl) (Nat.le_refl _) (by show 0 + A.slots.size ≤ A.slots.size; omega) (g := (mkF m 6 #[.val (.ref a), .val (.ref b)] [.null, .int (Int32.ofNat A.slots.size), .int (Int32.ofNat 0), .ref b, .ref a])) rfl (by rw [hml]; rfl) c2 (argsL := [.ref b, .int (Int32.ofNat 0), .int (Int32.ofNat A.slots.size), .null]) (rest := []) rfl rfl (by show 2 * 0 + 0 ≤ _; decide) (hb hbytes d6) (⟨rfl, hB.mv X0.warmed.alike hh0, f1.al X0.warmed.alike, f2.al X0.warmed.alike, hA.mv X0.warmed.alike hh0, s1.there X0.warmed.alike hh0, hz, l0, by omega, l2, fun i hi => by rw [Nat.zero_add]; exact hp i hi⟩)
  have e0 := Got.mv _ s₁ s _ _ hh0.symm (Vm.Alike.refl _) rfl E3
  obtain rfl := e0.1
  have c4 : Steps p.tables e below (s₁.setTop (entryFrame m #[.ref a, .ref b] 2)) (T3.setTop (mkF m 9 #[.val (.ref a), .val (.ref b)] [])) := g3
  exact ⟨T3, none, _, _, _, X3, by simp, rfl, by omega, (fun _ => rfl), e0, fun fs hl => c4.trans (X3.returnOut hexec hret (hb hbytes d9) hl)⟩
theorem pays {l : Launch} {R : Room} {p : Program} {e : Env} {below : List Frame} {s : State} {sargs : Array Value} {len W : Nat} (a : Addr) (D : Cell) (fV fC : Field) (b : Addr) (A : Cell) (z : Int32) (htab : tab.before sargs s = true) (hfr : 4 ≤ R.frames) (hlo : W + 65 ≤ R.locals) :
    Back l R p e below s sargs yN len W (fun A₁ a₁ => A₁.cells + 1 ≤ R.cells ∧ A₁.slots + A.slots.size ≤ R.slots ∧ P a D fV fC b A z a₁ A₁.U) (fun A₁ _ v₁ B₁ => E a D fV fC A v₁ A₁.U B₁.U ∧ B₁.locs = A₁.locs ++ [⟨a, fC.slot⟩, ⟨a, fV.slot⟩] ∧ B₁.cells = A₁.cells + 1 ∧ B₁.slots = A₁.slots + A.slots.size) :=
  (law l a D fV fC b A z).pays htab hfr (by omega)
end New1
/-- the byte, read back as charAt reads it, is the char -/
theorem lo8_mask {x : Int32} (h0 : ¬ x < 0) (h1 : ¬ 255 < x) : lo8 x &&& 255 = x := by
  have t : ∀ k : Fin 256, lo8 (Int32.ofNat k.val) &&& 255 = Int32.ofNat k.val := by decide +kernel
  rw [Int32.lt_iff_toInt_lt] at h0 h1
  have e0 : (0 : Int32).toInt = 0 := rfl
  have e1 : (255 : Int32).toInt = 255 := rfl
  obtain ⟨k, hk⟩ : ∃ k : Nat, x.toInt = k := ⟨x.toInt.toNat, by omega⟩
  have hx : x = Int32.ofNat k := Int32.toInt_inj.mp (by rw [hk, Int32.toInt_ofNat_small (by omega)])
  rw [hx]
  exact t ⟨k, by omega⟩
end StrChars
namespace StrChars.Road
open Jvm Sem ClassFile Op Lib Jvm.Stand Jvm.Free Jvm.Free.XT
open Jvm.Lib.Cold (StaticIs)
abbrev ST : String := "java/lang/String"
/-- every table word that New1's law asks, flat -/
abbrev words : List Jvm.Cond := [.code New1.yN New1.yB 2 none, .initialized ST, .methodLink ST 27 New4.yN, .instanceMethod New4.yN,
  .code New4.yN New4.yB 6 none, .fieldLink ST 38 ST "COMPACT_STRINGS" "Z", .laysFinal ST ST "value" "[B", .fieldLink ST 9 ST "value" "[B", .laysFinal ST ST "coder" "B", .fieldLink ST 15 ST "coder" "B",
  .methodLink ST 1 Lib.objectInit, .instanceMethod Lib.objectInit, .code Lib.objectInit ⟨#[0xb1]⟩ 1 none, .methodLink ST 177 Cmp3.yN, .static Cmp3.yN, .methodLink ST 47 CodL.yN, .static CodL.yN,
  .code Cmp3.yN Cmp3.yB 6 (some (.array .byte)), .initialized U16, .arrayClass .byte, .methodLink U16 115 Cmp5.yN, .static Cmp5.yN, .code Cmp5.yN Cmp5.yB 7 (some .int), .code CodL.yN CodL.yB 2 (some .byte)]
theorem tab_of {a : Array Value} {s : State} (h : ∀ w ∈ words, w.before a s = true) : New1.tab.before a s = true := by
  have h5 : Cmp5.tab.before a s = true := unparts (wk h (.code Cmp5.yN Cmp5.yB 7 (some .int))) (wks h (.initialized Cmp5.yN.cls :: Cmp5.site))
  have hc : CodL.tab.before a s = true := unparts (wk h (.code CodL.yN CodL.yB 2 (some .byte))) (wks h (.initialized CodL.yN.cls :: CodL.site))
  have q5 : ∀ w ∈ Cmp5.tab :: words, w.before a s = true := fun w hw => (List.mem_cons.mp hw).elim (fun e => e ▸ h5) (h w)
  have h3 : Cmp3.tab.before a s = true := unparts (wk q5 (.code Cmp3.yN Cmp3.yB 6 (some (.array .byte)))) (wks q5 (.initialized Cmp3.yN.cls :: Cmp3.site))
  have q3 : ∀ w ∈ Cmp3.tab :: CodL.tab :: words, w.before a s = true := fun w hw => (List.mem_cons.mp hw).elim (fun e => e ▸ h3) fun hw => (List.mem_cons.mp hw).elim (fun e => e ▸ hc) (h w)
  have h4 : New4.tab.before a s = true := unparts (wk q3 (.code New4.yN New4.yB 6 none)) (wks q3 (.initialized New4.yN.cls :: New4.site))
  have q4 : ∀ w ∈ New4.tab :: words, w.before a s = true := fun w hw => (List.mem_cons.mp hw).elim (fun e => e ▸ h4) (h w)
  exact unparts (wk q4 (.code New1.yN New1.yB 2 none)) (wks q4 (.initialized New1.yN.cls :: New1.site))
/-- the words ride from the start Z to the walk's own state -/
theorem moved {Z s : State} {a0 args : Array Value} (hZ : Z.Warmed39 s.vm) (hw : ∀ d ∈ words, d.before a0 Z = true) : ∀ d ∈ words, d.before args s = true := fun d hd => by
  have q := hw d hd
  have t : ∀ d ∈ words, d = .arrayClass .byte ∨ (d.onTables && d.keepsFace) = true := by decide +kernel
  rcases t d hd with rfl | t
  · exact RoadKit.mvA hZ q
  · exact RoadKit.mv hZ q t
/-- WHAT COMES BACK, over the tables of the start Z: h the heap at the call, h' behind it -/
def Q (Z : State) (x : Addr) (A : Cell) (h : Heap) (v : Option Value) (h' : Heap) (L : List Loc) : Prop := v = none ∧ (∀ y ∈ L, y.base = x) ∧ RoadKit.Keep h h' [x] ∧ h'.size = h.size + 1 ∧ RoadKit.Exa Z h' x ST ∧ RoadKit.Fld Z h' x ST "value" "[B" (.ref h.size) ∧ RoadKit.Fld Z h' x ST "coder" "B" (.int 0) ∧
  (∃ V : Cell, RoadKit.Arr Z h' h.size V .byte ∧ V.vm = .none ∧ Z.vm.findClass "[B" = some V.cls ∧ V.slots.size = A.slots.size ∧ ∀ j, j < A.slots.size → V.slots[j]? = some (.int (lo8 (cv A j)))) ∧
  ∀ (O n d : String) (w : Value), RoadKit.Fld Z h x O n d w → RoadKit.slotOf Z O n d ≠ RoadKit.slotOf Z ST "value" "[B" → RoadKit.slotOf Z O n d ≠ RoadKit.slotOf Z ST "coder" "B" → RoadKit.Fld Z h' x O n d w
/-- **new String(chars) AT A CALL, IN THE ROAD'S FORM**: for specialBack behind newO: x the fresh String, b the char[] with the cell A -/
theorem back {p : Program} {l : Launch} {e : Env} {R : Room} {s : State} {args : Array Value} {below : List Frame} {len W : Nat} {Z : State} {a0 : Array Value} {h : Heap} (hZ : Z.Warmed39 s.vm) (hw : ∀ d ∈ words, d.before a0 Z = true) {kI : Nat} (wi : (Jvm.Cond.instantiable ST kI).before a0 Z = true)
    {x b : Addr} {A : Cell} {z : Int32} {v0 c0 : Value} (E : RoadKit.Exa Z h x ST) (V : RoadKit.Fld Z h x ST "value" "[B" v0) (C : RoadKit.Fld Z h x ST "coder" "B" c0) (K : RoadKit.Arr Z h b A .char) (hty : Typed .char A) (S : RoadKit.Sta Z h ST "COMPACT_STRINGS" "Z" (.int z)) (hz : ¬ z = 0)
    (l0 : 0 < A.slots.size) (l2 : A.slots.size ≤ 536870912) (hp : ∀ i, i < A.slots.size → ¬ 255 < cv A i) (hfr : 4 ≤ R.frames) (hlo : W + 65 ≤ R.locals) :
    Back l R p e below s args New1.yN len W (fun P a => a = #[.ref x, .ref b] ∧ P.U.heap = h ∧ P.cells + 1 ≤ R.cells ∧ P.slots + A.slots.size ≤ R.slots)
      (fun P _ v B => ∃ L, Q Z x A h v B.U.heap L ∧ B.locs = P.locs ++ L ∧ B.cells = P.cells + 1 ∧ B.slots = P.slots + A.slots.size) := by
  intro m meth c P g ig mk a X hg hsize hdg hW hn hp'
  obtain ⟨rfl, rfl, r1, r2⟩ := hp'
  have al : Z.vm.Alike P.U.vm := hZ.alike.trans X.warmed.alike
  obtain ⟨D, cfV, kV, iV, fV, hD, gV, stV, knV, obV, asV, slV⟩ := id V
  obtain ⟨D', cfC, kC, iC, fC, hD', gC, stC, -, -, asC, slC⟩ := id C
  cases hD.symm.trans hD'
  obtain ⟨D2, kD, e1, e2, e3, e4, e5⟩ := id E
  cases hD.symm.trans e1
  obtain ⟨c2, k2, i1, i2, i3, -⟩ := Cond.instantiable_spec wi
  cases e2.symm.trans i1
  cases e3.symm.trans i2
  obtain ⟨kU, u1, u2⟩ := al.2.2 _ _ e3
  have hB : Blank ST x D P.U := ⟨hD, ⟨knV, fun q hq => by rw [hq] at obV; cases obV⟩, by rw [al.findClass]; exact e2, kU, u1, by rw [u2]; exact i3, by rw [u2]; exact e5 i3⟩
  have F1 : Found ST "value" "[B" fV P.U := ⟨SBG.found_only al ⟨cfV, kV, iV, gV⟩, stV⟩
  have F2 : Found ST "coder" "B" fC P.U := ⟨SBG.found_only al ⟨cfC, kC, iC, gC⟩, stC⟩
  have hA : Ch b A P.U := ⟨⟨K.1, State.isArrayOf_alike al K.2.1, K.2.2, by omega⟩, hty⟩
  have hS : StaticIs P.U ST "COMPACT_STRINGS" "Z" (.int z) := by
    obtain ⟨cfS, iS, kS, fS, st, cS, t1, t2, t3, t4, t5, t6, t7⟩ := S
    exact StaticIs.there (s := { Z with heap := P.U.heap }) ⟨cfS, iS, kS, fS, st, cS, t1, t2, t3, t4, t5, (fun q => by rw [q] at t6; cases t6), t7⟩ al rfl
  obtain ⟨v, B, X', ⟨⟨hv, E', V', q1, q2, q3, q4, q5, q6, q7, q8, q9, q10, q11⟩, hl, hc, hs⟩, st⟩ := New1.pays x D fV fC b A z (tab_of (moved hZ hw)) hfr hlo m meth c P g ig mk _ X hg hsize hdg hW hn ⟨r1, r2, rfl, hB, F1, F2, hA, hS, hz, l0, l2, hp⟩
  have al' : Z.vm.Alike B.U.vm := hZ.alike.trans X'.warmed.alike
  have hsz : E'.slots.size = D.slots.size := by
    obtain ⟨-, -, -, kB, w1, w2, w3⟩ := q1
    obtain ⟨kB', y1, y2⟩ := al'.2.2 _ _ e3
    rw [q2.2.1] at w1
    cases w1.symm.trans y1
    rw [w3, e5 i3, y2]
  refine ⟨v, B, X', ⟨_, ⟨hv, ?_, ⟨by omega, fun y cy hy hn' => q10 y cy (by simpa using hn') hy, fun y cy hy => ?_⟩, q11, ⟨E', _, q1.1, by rw [q2.2.1]; exact e2, by rw [q2.2.1]; exact e3, by rw [q2.1]; exact obV, fun _ => by rw [hsz]; exact e5 i3⟩,
    ⟨E', cfV, kV, iV, fV, q1.1, gV, stV, by rw [q2.1]; exact knV, by rw [q2.1]; exact obV, by rw [q2.2.1]; exact asV, q3⟩, ⟨E', cfC, kC, iC, fC, q1.1, gC, stC, by rw [q2.1]; exact knV, by rw [q2.1]; exact obV, by rw [q2.2.1]; exact asC, q4⟩,
    ⟨V', ⟨q5.1, State.isArrayOf_alike al'.symm q5.2.1, q5.2.2.1⟩, q6, by rw [← al'.findClass]; exact q7, q8, fun j hj => by have := q9 j hj; rwa [Nat.zero_add] at this⟩, fun O n d w F n1 n2 => ?_⟩, hl, hc, hs⟩, st⟩
  · intro y hy
    simp only [List.mem_cons, List.not_mem_nil, or_false] at hy
    rcases hy with rfl | rfl <;> rfl
  · by_cases q : y = x
    · subst q
      cases hD.symm.trans hy
      exact ⟨E', q1.1, q2.2.1, q2.1, hsz⟩
    · exact ⟨cy, q10 y cy q hy, rfl, rfl, rfl⟩
  · obtain ⟨D3, cf, k, i, f, g1, g2, g3, g4, g5, g6, g7⟩ := F
    cases hD.symm.trans g1
    simp only [RoadKit.slotOf, g2, gV, gC, Option.map_some, Option.getD_some] at n1 n2
    exact ⟨E', cf, k, i, f, q1.1, g2, g3, by rw [q2.1]; exact g4, by rw [q2.1]; exact g5, by rw [q2.2.1]; exact g6, by rw [q2.2.2 f.slot (by simp [n1, n2])]; exact g7⟩
end StrChars.Road
namespace StrChars.Road
open Jvm Sem ClassFile Op Lib Jvm.Stand Jvm.Free Jvm.Free.XT
/-- WHAT COMES BACK, the byte[] as a list of values -/
def QA (Z : State) (x : Addr) (zn : Int32) (cs : List Int32) (h : Heap) (v : Option Value) (h' : Heap) (L : List Loc) : Prop := v = none ∧ (∀ y ∈ L, y.base = x) ∧ RoadKit.Keep h h' [x] ∧ h'.size = h.size + 1 ∧ RoadKit.Exa Z h' x ST ∧ RoadKit.Fld Z h' x ST "value" "[B" (.ref h.size) ∧ RoadKit.Fld Z h' x ST "coder" "B" (.int 0) ∧
  (∃ kb, Z.vm.findClass "[B" = some kb ∧ RoadKit.Arv Z h' h.size kb .byte zn (cs.map fun c => .int (lo8 c)) (.int 0)) ∧
  ∀ (O n d : String) (w : Value), RoadKit.Fld Z h x O n d w → RoadKit.slotOf Z O n d ≠ RoadKit.slotOf Z ST "value" "[B" → RoadKit.slotOf Z O n d ≠ RoadKit.slotOf Z ST "coder" "B" → RoadKit.Fld Z h' x O n d w
/-- **new String(chars) AT A CALL, THE ARRAYS AS LISTS**: the char[] at b holds cs, not empty, no char above 255 -/
theorem backArv {p : Program} {l : Launch} {e : Env} {R : Room} {s : State} {args : Array Value} {below : List Frame} {len W : Nat} {Z : State} {a0 : Array Value} {h : Heap} (hZ : Z.Warmed39 s.vm) (hw : ∀ d ∈ words, d.before a0 Z = true) {kI : Nat} (wi : (Jvm.Cond.instantiable ST kI).before a0 Z = true)
    {x b : Addr} {k : ClassId} {zn z : Int32} {cs : List Int32} {dv v0 c0 : Value} (E : RoadKit.Exa Z h x ST) (V : RoadKit.Fld Z h x ST "value" "[B" v0) (C : RoadKit.Fld Z h x ST "coder" "B" c0) (K : RoadKit.Arv Z h b k .char zn (cs.map Value.int) dv) (S : RoadKit.Sta Z h ST "COMPACT_STRINGS" "Z" (.int z)) (hz : ¬ z = 0)
    (hlen : zn.toNatClampNeg = cs.length) (h0 : 0 < cs.length) (hbig : cs.length ≤ 536870912) (hall : ∀ c ∈ cs, ¬ 255 < c) (hfr : 4 ≤ R.frames) (hlo : W + 65 ≤ R.locals) :
    Back l R p e below s args New1.yN len W (fun P a => a = #[.ref x, .ref b] ∧ P.U.heap = h ∧ P.cells + 1 ≤ R.cells ∧ P.slots + cs.length ≤ R.slots)
      (fun P _ v B => ∃ L, QA Z x zn cs h v B.U.heap L ∧ B.locs = P.locs ++ L ∧ B.cells = P.cells + 1 ∧ B.slots = P.slots + cs.length) := by
  obtain ⟨A, K1, K2, K3, K4, K5, K6⟩ := K
  have e : A.slots.size = cs.length := K3.trans hlen
  have hat : ∀ (i : Nat) (hi : i < cs.length), A.slots[i]? = some (.int cs[i]) := fun i hi => by rw [K5 i (by omega)]; simp [List.getD_eq_getElem?_getD, hi]
  have hcv : ∀ (i : Nat) (hi : i < cs.length), cv A i = cs[i] := fun i hi => by unfold cv; rw [hat i hi]
  have hty : Typed .char A := fun i v hv => by
    have hi : i < A.slots.size := (Array.getElem?_eq_some_iff.mp hv).1
    have q := K5 i hi
    rw [hv] at q
    rw [Option.some.inj q]
    exact K6 i hi
  refine Back.mono (back hZ hw wi E V C K1 hty S hz (by omega) (by omega) (fun i hi => by rw [hcv i (by omega)]; exact hall _ (List.getElem_mem _)) hfr hlo) (fun P a hp => ⟨hp.1, hp.2.1, hp.2.2.1, by rw [e]; exact hp.2.2.2⟩) (fun P a v B hp hq => ?_)
  obtain ⟨L, ⟨q1, q2, q3, q4, q5, q6, q7, ⟨V', v1, v2, v3, v4, v5⟩, q9⟩, hl, hc, hs⟩ := hq
  refine ⟨L, ⟨q1, q2, q3, q4, q5, q6, q7, ⟨V'.cls, v3, V', v1, rfl, by rw [v4, e, hlen], K4, fun i hi => ?_, fun i hi => ?_⟩, q9⟩, hl, hc, by rw [hs, e]⟩
  · have hi' : i < cs.length := by omega
    rw [v5 i (by omega), hcv i hi']; simp [List.getD_eq_getElem?_getD, hi']
  · have hi' : i < cs.length := by omega
    simp only [List.getD_eq_getElem?_getD, List.getElem?_map, List.getElem?_eq_getElem hi', Option.map_some, Option.getD_some]
    exact fits_lo8 _
end StrChars.Road
namespace StrChars.Road
open Jvm Sem ClassFile Op Lib Jvm.Stand Jvm.Free Jvm.Free.XT
/-- WHAT COMES BACK, in the writer's own shape -/
def QV (Z : State) (x : Addr) (N : Int32) (bs : List Int32) (h : Heap) (n0 : Nat) (v : Option Value) (h' : Heap) (L : List Loc) : Prop := v = none ∧ RoadKit.Fr n0 L ∧ RoadKit.Keep h h' [x] ∧ RoadKit.Exa Z h' x ST ∧ RoadKit.Fld Z h' x ST "coder" "B" (.int 0) ∧
  ∃ (t : Addr) (kb : ClassId), n0 ≤ t ∧ h.size ≤ t ∧ ¬ t = x ∧ RoadKit.Fld Z h' x ST "value" "[B" (.ref t) ∧ RoadKit.Arv Z h' t kb .byte N (bs.map Value.int) (.int 0)
/-- **new String(chars) AT A CALL, FOR THE WRITER**: a char[] of n known ints, each 0 to 255 -/
theorem backV {p : Program} {l : Launch} {e : Env} {R : Room} {s : State} {args : Array Value} {below : List Frame} {len W : Nat} {Z : State} {a0 : Array Value} {h : Heap} (hZ : Z.Warmed39 s.vm) (hw : ∀ d ∈ words, d.before a0 Z = true) {kI : Nat} (wi : (Jvm.Cond.instantiable ST kI).before a0 Z = true)
    {x b : Addr} {kC : ClassId} {cs bs : List Int32} {d v0 c0 : Value} {z N : Int32} {n n0 : Nat} (hx0 : n0 ≤ x) (hh0 : n0 ≤ h.size) (E : RoadKit.Exa Z h x ST) (V : RoadKit.Fld Z h x ST "value" "[B" v0) (C : RoadKit.Fld Z h x ST "coder" "B" c0) (K : RoadKit.Arv Z h b kC .char N (cs.map Value.int) d) (S : RoadKit.Sta Z h ST "COMPACT_STRINGS" "Z" (.int z)) (hz : ¬ z = 0)
    (hn : cs.length = n) (hN : N = Int32.ofNat n) (l0 : 0 < n) (l2 : n ≤ 4000) (hp : ∀ c ∈ cs, ¬ c < 0 ∧ ¬ (255 : Int32) < c) (hb : bs = cs.map (fun c => c.toInt8.toInt32)) (hfr : 4 ≤ R.frames) (hlo : W + 65 ≤ R.locals) :
    Back l R p e below s args (⟨"java/lang/String", "<init>", "([C)V"⟩ : MethodName) len W (fun P a => a = #[.ref x, .ref b] ∧ P.U.heap = h ∧ P.cells + 1 ≤ R.cells ∧ P.slots + n ≤ R.slots)
      (fun P _ v B => ∃ L, QV Z x N bs h n0 v B.U.heap L ∧ B.locs = P.locs ++ L ∧ B.cells = P.cells + 1 ∧ B.slots = P.slots + n) := by
  subst hn hN hb
  refine Back.mono (backArv hZ hw wi E V C K S hz (n32 (by omega)) l0 (by omega) (fun c hc => (hp c hc).2) hfr hlo) (fun P a hp => hp) (fun P a v B hp hq => ?_)
  obtain ⟨L, ⟨q1, q2, q3, q4, q5, q6, q7, ⟨kb, v1, v2⟩, q9⟩, hl, hc, hs⟩ := hq
  exact ⟨L, ⟨q1, fun y hy => by rw [q2 y hy]; exact hx0, q3, q5, q7, h.size, kb, hh0, Nat.le_refl _, Nat.ne_of_gt E.lt, q6, by rw [List.map_map]; exact v2⟩, hl, hc, hs⟩
end StrChars.Road
namespace StrChars
open Jvm Sem ClassFile Op Lib Jvm.Stand Jvm.Free.XT Jvm.Free.ALB Jvm.Free.JM Jvm.Free
open Jvm.Lib.Cold (StaticIs)
def hi8 (x : Int32) : Int32 := lo8 (x >>> ((8 : Int32) &&& 31))
/-- what StringUTF16.getChar makes of two bytes -/
def pairCh (u v : Int32) : Int32 := (((u &&& 255) <<< ((0 : Int32) &&& 31)) ||| ((v &&& 255) <<< ((8 : Int32) &&& 31))).toUInt32.toUInt16.toUInt32.toInt32
theorem shr0 (c : Int32) : c >>> ((0 : Int32) &&& 31) = c := by
  have e : ((0 : Int32) &&& 31) = 0 := by decide
  rw [e]
  apply Int32.toBitVec_inj.mp
  rw [Int32.toBitVec_shiftRight]
  have e1 : ((0 : Int32).toBitVec.smod 32) = 0#32 := by decide
  rw [e1, BitVec.sshiftRight_eq']
  exact BitVec.sshiftRight_zero
theorem lo8_and (x : Int32) : (lo8 x &&& 255).toBitVec.toNat = x.toBitVec.toNat % 256 := by
  have h : (lo8 x).toBitVec = (x.toBitVec.signExtend 8).signExtend 32 := by rw [lo8, Int8.toBitVec_toInt32, Int32.toBitVec_toInt8]
  rw [Int32.toBitVec_and, BitVec.toNat_and, h]
  have e : ((x.toBitVec.signExtend 8).signExtend 32).toNat % 256 = x.toBitVec.toNat % 256 := by
    rw [BitVec.toNat_signExtend]
    have hlt := x.toBitVec.isLt
    simp only [BitVec.toNat_setWidth, BitVec.toNat_signExtend]
    split <;> split <;> omega
  rw [← e]
  exact Nat.and_two_pow_sub_one_eq_mod _ 8
theorem pair_says {c : Int32} (h0 : ¬ c < 0) (h1 : ¬ 65535 < c) : pairCh (lo8 c) (hi8 c) = c := by
  rw [Int32.lt_iff_toInt_lt] at h0 h1
  have e0 : (0 : Int32).toInt = 0 := rfl
  have e1 : (65535 : Int32).toInt = 65535 := rfl
  have hc : c.toInt = c.toBitVec.toNat := by
    have := c.toBitVec.isLt
    have e : c.toInt = c.toBitVec.toInt := rfl
    rw [e] at h0 h1
    rw [e]
    rw [BitVec.toInt_eq_toNat_cond] at h0 h1 ⊢
    split at h0 <;> split <;> omega
  have hn : c.toBitVec.toNat < 65536 := by omega
  have a1 := lo8_and c
  have a2 : (hi8 c &&& 255).toBitVec.toNat = c.toBitVec.toNat / 256 := by
    rw [hi8, lo8_and]
    have e : ((8 : Int32) &&& 31) = 8 := by decide
    rw [e, Int32.toBitVec_shiftRight]
    have e2 : ((8 : Int32).toBitVec.smod 32) = 8#32 := by decide
    rw [e2, BitVec.sshiftRight_eq', BitVec.toNat_sshiftRight_of_msb_false (by rw [BitVec.msb_eq_false_iff_two_mul_lt]; omega)]
    show c.toBitVec.toNat >>> 8 % 256 = _
    rw [Nat.shiftRight_eq_div_pow]
    omega
  unfold pairCh
  apply Int32.toBitVec_inj.mp
  apply BitVec.eq_of_toNat_eq
  have f0 : ((0 : Int32) &&& 31) = 0 := by decide
  have f8 : ((8 : Int32) &&& 31) = 8 := by decide
  rw [f0, f8]
  have g : (((lo8 c &&& 255) <<< (0 : Int32)) ||| ((hi8 c &&& 255) <<< (8 : Int32))).toBitVec.toNat = c.toBitVec.toNat := by
    rw [Int32.toBitVec_or, Int32.toBitVec_shiftLeft, Int32.toBitVec_shiftLeft]
    have s0 : ((0 : Int32).toBitVec.smod 32) = 0#32 := by decide
    have s8 : ((8 : Int32).toBitVec.smod 32) = 8#32 := by decide
    rw [s0, s8, BitVec.toNat_or]
    simp only [BitVec.shiftLeft_eq', BitVec.toNat_shiftLeft, a1, a2]
    show (c.toBitVec.toNat % 256) <<< 0 % 2 ^ 32 ||| (c.toBitVec.toNat / 256) <<< 8 % 2 ^ 32 = _
    rw [Nat.shiftLeft_zero, Nat.mod_eq_of_lt (show c.toBitVec.toNat % 256 < 2 ^ 32 by omega), Nat.mod_eq_of_lt (show (c.toBitVec.toNat / 256) <<< 8 < 2 ^ 32 by rw [Nat.shiftLeft_eq]; omega), Nat.or_comm, ← Nat.shiftLeft_add_eq_or_of_lt (by omega), Nat.shiftLeft_eq]
    omega
  show BitVec.toNat (((((lo8 c &&& 255) <<< (0 : Int32)) ||| ((hi8 c &&& 255) <<< (8 : Int32))).toBitVec.setWidth 16).setWidth 32) = _
  rw [BitVec.toNat_setWidth, BitVec.toNat_setWidth, g]
  omega
end StrChars
namespace StrChars
open Jvm Sem ClassFile Op Lib Jvm.Stand Jvm.Free.XT Jvm.Free.ALB Jvm.Free.JM Jvm.Free
open Jvm.Lib.Cold (StaticIs)
theorem shr1 {n : Nat} (h : 2 * n < 2 ^ 31) : Int32.ofNat (2 * n) >>> ((1 : Int32) &&& 31) = Int32.ofNat n := by
  have e : ((1 : Int32) &&& 31) = 1 := by decide
  rw [e]
  apply Int32.toBitVec_inj.mp
  rw [Int32.toBitVec_shiftRight]
  have e1 : ((1 : Int32).toBitVec.smod 32) = 1#32 := by decide
  have hm : (BitVec.ofNat 32 (2 * n)).toNat = 2 * n := by rw [BitVec.toNat_ofNat, Nat.mod_eq_of_lt (by omega)]
  rw [e1, BitVec.sshiftRight_eq']
  apply BitVec.eq_of_toNat_eq
  show ((BitVec.ofNat 32 (2 * n)).sshiftRight 1).toNat = (BitVec.ofNat 32 n).toNat
  rw [BitVec.toNat_sshiftRight_of_msb_false (by rw [BitVec.msb_eq_false_iff_two_mul_lt, hm]; omega), hm, BitVec.toNat_ofNat, Nat.shiftRight_eq_div_pow]
  omega
/-- charAt's cast of a byte read back -/
def chr8 (u : Int32) : Int32 := (u &&& 255).toUInt32.toUInt16.toUInt32.toInt32
theorem chr8_lo8 {c : Int32} (h0 : ¬ c < 0) (h1 : ¬ 255 < c) : chr8 (lo8 c) = c := by
  have t : ∀ k : Fin 256, (Int32.ofNat k.val).toUInt32.toUInt16.toUInt32.toInt32 = Int32.ofNat k.val := by decide +kernel
  unfold chr8
  rw [lo8_mask h0 h1]
  rw [Int32.lt_iff_toInt_lt] at h0 h1
  have e0 : (0 : Int32).toInt = 0 := rfl
  have e1 : (255 : Int32).toInt = 255 := rfl
  obtain ⟨k, hk⟩ : ∃ k : Nat, c.toInt = k := ⟨c.toInt.toNat, by omega⟩
  have hx : c = Int32.ofNat k := Int32.toInt_inj.mp (by rw [hk, Int32.toInt_ofNat_small (by omega)])
  rw [hx]
  exact t ⟨k, by omega⟩
theorem narrow_ch {c : Int32} (h0 : ¬ c < 0) (h1 : ¬ 65535 < c) : narrow .char (.int c) = .int c := by
  have q : narrow .char (.int (pairCh (lo8 c) (hi8 c))) = .int (pairCh (lo8 c) (hi8 c)) := narrow_c _
  rwa [pair_says h0 h1] at q
/-- the array's cell V codes the n chars f 0 .. f (n - 1) by the coder cd, as the JDK does: coder 1 just where some char is above 255 -/
def Cod (cd : Int32) (n : Nat) (f : Nat → Int32) (V : Cell) : Prop := (cd = 0 ∧ V.slots.size = n ∧ ∀ j, j < n → V.slots[j]? = some (.int (lo8 (f j))) ∧ ¬ 255 < f j) ∨ (cd = 1 ∧ V.slots.size = 2 * n ∧ (∀ j, j < n → V.slots[2 * j]? = some (.int (lo8 (f j))) ∧ V.slots[2 * j + 1]? = some (.int (hi8 (f j)))) ∧ ∃ j, j < n ∧ 255 < f j)
theorem Cod.cd {cd : Int32} {n : Nat} {f : Nat → Int32} {V : Cell} (h : Cod cd n f V) : cd = 0 ∨ cd = 1 := h.imp (fun q => q.1) fun q => q.1
theorem Cod.len {cd : Int32} {n : Nat} {f : Nat → Int32} {V : Cell} (h : Cod cd n f V) (hs : V.slots.size < 2 ^ 31) : Int32.ofNat V.slots.size >>> (cd &&& 31) = Int32.ofNat n := by
  rcases h with ⟨rfl, h, -⟩ | ⟨rfl, h, -⟩
  · rw [shr0, h]
  · rw [h, shr1 (by omega)]
/-- **x is a String of the n chars f 0 .. f (n - 1)**, Latin-1 or UTF-16; its array at t has the cell V -/
def Txt (x t : Addr) (V : Cell) (cd : Int32) (n : Nat) (f : Nat → Int32) (U : State) : Prop := Exact "java/lang/String" x U ∧ Has x "java/lang/String" "value" "[B" (.ref t) U ∧ Has x "java/lang/String" "coder" "B" (.int cd) U ∧ XT.Arr .byte t V U ∧ Cod cd n f V ∧ ∀ j, j < n → ¬ f j < 0 ∧ ¬ 65535 < f j
theorem Txt.mv {x t : Addr} {V : Cell} {cd : Int32} {n : Nat} {f : Nat → Int32} {U U' : State} (h : Txt x t V cd n f U) (hal : U.vm.Alike U'.vm) (hh : U'.heap = U.heap) : Txt x t V cd n f U' := ⟨h.1.mv hal hh, h.2.1.mv hal hh, h.2.2.1.mv hal hh, h.2.2.2.1.mv hal hh, h.2.2.2.2⟩
namespace Cdr
def yN : MethodName := ⟨"java/lang/String", "coder", "()B"⟩
abbrev yB : ByteArray := jdk_42_method_152_code
theorem d0 : decode yB 0 = .ok (.getstatic 38, 3) := by decide +kernel
theorem d3 : decode yB 3 = .ok (.ifCond (.eq) 10, 3) := by decide +kernel
theorem d6 : decode yB 6 = .ok (.aload_n 0, 1) := by decide +kernel
theorem d7 : decode yB 7 = .ok (.getfield 15, 3) := by decide +kernel
theorem d10 : decode yB 10 = .ok (.goto 4, 3) := by decide +kernel
theorem d14 : decode yB 14 = .ok (.ireturn, 1) := by decide +kernel
def site : List Cond := [.fieldLink "java/lang/String" 38 "java/lang/String" "COMPACT_STRINGS" "Z", .fieldLink "java/lang/String" 15 "java/lang/String" "coder" "B"]
def tab : Cond := tabOf yN yB 1 (some .byte) site
def P (x : Addr) (cd z : Int32) (args : Array Value) (s : State) : Prop := args = #[.ref x] ∧ Has x "java/lang/String" "coder" "B" (.int cd) s ∧ (cd = 0 ∨ cd = 1) ∧ StaticIs s "java/lang/String" "COMPACT_STRINGS" "Z" (.int z) ∧ ¬ z = 0
def E (cd : Int32) (r : Option Value) (s u : State) : Prop := XT.PureE (some (.int cd)) r s u
theorem law (l : Launch) (x : Addr) (cd z : Int32) : Law l yN 1 0 0 0 yB 1 (some .byte) site (P x cd z) (E cd) [] 0 0 := by
  refine Law.of_walk (plainFor_of_name (by decide +kernel)) (by decide +kernel) (by decide +kernel) (by decide) (fun _ _ h => by rw [h.1]; rfl) (fun _ U U' hal hh h => ⟨h.1, h.2.1.mv hal hh, h.2.2.1, h.2.2.2.1.there hal hh, h.2.2.2.2⟩) (fun r U U' V V' h1 hal h2 h => XT.PureE.mv r U U' V V' h1 hal h2 h) ?_
  intro p e s m args below meth c s₁ X0 hexec hbytes hml hret hlk hnm hown hh0 W hP
  obtain ⟨rfl, hx, hc, s1, hz⟩ := hP
  have c1 : Steps p.tables e below (s₁.setTop (entryFrame m #[.ref x] 1)) (s₁.setTop (mkF m 0 #[.val (.ref x)] [])) := entry rfl
  obtain ⟨T2, X2, q2, st2⟩ := X0.sget hexec hown (wk W (.fieldLink "java/lang/String" 38 "java/lang/String" "COMPACT_STRINGS" "Z")) s1 (fun _ _ h => by rw [hh0]; exact h) (g := (mkF m 0 #[.val (.ref x)] [])) rfl (hb hbytes d0)
  have hh2 := q2.trans hh0
  have c3 : Steps p.tables e below (s₁.setTop (entryFrame m #[.ref x] 1)) (T2.setTop (mkF m 7 #[.val (.ref x)] [.ref x])) := (c1.trans (st2 _ (Steps.refl _))).trans (by
    refine XS.ifNo X2.here hexec rfl (hb hbytes d3) rfl (i0_eq_f hz) ?_
    refine XS.aloadN X2.here hexec rfl (hb hbytes d6) rfl rfl ?_
    exact Steps.refl _)
  obtain ⟨T4, X4, q4, st4⟩ := X2.hget hexec hown (wk W (.fieldLink "java/lang/String" 15 "java/lang/String" "coder" "B")) (hx.mv X2.warmed.alike hh2) (g := (mkF m 7 #[.val (.ref x)] [.ref x])) rfl (rest := []) rfl (hb hbytes d7)
  have c5 : Steps p.tables e below (s₁.setTop (entryFrame m #[.ref x] 1)) (T4.setTop (mkF m 14 #[.val (.ref x)] [.int cd])) := (c3.trans (st4 _ (Steps.refl _))).trans (by
    refine XS.goto X4.here hexec rfl (pc0 := 10) rfl (hb hbytes d10) (by decide) rfl ?_
    exact Steps.refl _)
  exact ⟨T4, some (.int cd), _, _, _, X4, rfl, rfl, rfl, (fun h => by cases h), ⟨rfl, q4.trans hh2⟩, fun fs hl => c5.trans (X4.ireturnOut hexec hret (by rcases hc with rfl | rfl <;> rfl) (Or.inr (Or.inr (Or.inl rfl))) (hb hbytes d14) hl)⟩
end Cdr
namespace Len
def yN : MethodName := ⟨"java/lang/String", "length", "()I"⟩
abbrev yB : ByteArray := jdk_42_method_54_code
theorem d0 : decode yB 0 = .ok (.aload_n 0, 1) := by decide +kernel
theorem d1 : decode yB 1 = .ok (.getfield 9, 3) := by decide +kernel
theorem d4 : decode yB 4 = .ok (.arraylength, 1) := by decide +kernel
theorem d5 : decode yB 5 = .ok (.aload_n 0, 1) := by decide +kernel
theorem d6 : decode yB 6 = .ok (.invokevirtual 335, 3) := by decide +kernel
theorem d9 : decode yB 9 = .ok (.ishr, 1) := by decide +kernel
theorem d10 : decode yB 10 = .ok (.ireturn, 1) := by decide +kernel
def site : List Cond := [.fieldLink "java/lang/String" 9 "java/lang/String" "value" "[B", Cdr.tab] ++ virtW "java/lang/String" 335 "java/lang/String" Cdr.yN Cdr.yN
def tab : Cond := tabOf yN yB 1 (some .int) site
def P (x t : Addr) (V : Cell) (cd : Int32) (n : Nat) (f : Nat → Int32) (z : Int32) (args : Array Value) (s : State) : Prop := args = #[.ref x] ∧ Txt x t V cd n f s ∧ StaticIs s "java/lang/String" "COMPACT_STRINGS" "Z" (.int z) ∧ ¬ z = 0
def E (n : Nat) (r : Option Value) (s u : State) : Prop := XT.PureE (some (.int (Int32.ofNat n))) r s u
/-- length() of a String of n chars, in either coding -/
theorem law (l : Launch) (x t : Addr) (V : Cell) (cd : Int32) (n : Nat) (f : Nat → Int32) (z : Int32) : Law l yN 1 0 1 13 yB 1 (some .int) site (P x t V cd n f z) (E n) [] 0 0 := by
  refine Law.of_walk (plainFor_of_name (by decide +kernel)) (by decide +kernel) (by decide +kernel) (by decide) (fun _ _ h => by rw [h.1]; rfl) (fun _ U U' hal hh h => ⟨h.1, h.2.1.mv hal hh, h.2.2.1.there hal hh, h.2.2.2⟩) (fun r U U' V V' h1 hal h2 h => XT.PureE.mv r U U' V V' h1 hal h2 h) ?_
  intro p e s m args below meth c s₁ X0 hexec hbytes hml hret hlk hnm hown hh0 W hP
  obtain ⟨rfl, hx, s1, hz⟩ := hP
  have v31 := hx.2.2.2.1.2.2.2
  have c1 : Steps p.tables e below (s₁.setTop (entryFrame m #[.ref x] 1)) (s₁.setTop (mkF m 1 #[.val (.ref x)] [.ref x])) := Steps.trans (entry rfl) (by
    show Steps p.tables e below (s₁.setTop (mkF m 0 #[.val (.ref x)] [])) _
    refine XS.aloadN X0.here hexec rfl (hb hbytes d0) rfl rfl ?_
    exact Steps.refl _)
  obtain ⟨T2, X2, q2, st2⟩ := X0.hget hexec hown (wk W (.fieldLink "java/lang/String" 9 "java/lang/String" "value" "[B")) (hx.mv X0.warmed.alike hh0).2.1 (g := (mkF m 1 #[.val (.ref x)] [.ref x])) rfl (rest := []) rfl (hb hbytes d1)
  have hh2 := q2.trans hh0
  have hx2 := hx.mv X2.warmed.alike hh2
  have c3 : Steps p.tables e below (s₁.setTop (entryFrame m #[.ref x] 1)) (T2.setTop (mkF m 6 #[.val (.ref x)] [.ref x, .int (Int32.ofNat V.slots.size)])) := (c1.trans (st2 _ (Steps.refl _))).trans (by
    refine X2.alen hexec hx2.2.2.2.1 rfl rfl (hb hbytes d4) ?_
    refine XS.aloadN X2.here hexec rfl (hb hbytes d5) rfl rfl ?_
    exact Steps.refl _)
  obtain ⟨v4, T4, X4, E4, g4⟩ := X2.callV hexec (Cdr.law l x cd z) hown (wks W (virtW "java/lang/String" 335 "java/lang/String" Cdr.yN Cdr.yN)) rfl (by decide) (wk W Cdr.tab) (W := 1) (Nat.le_of_ble_eq_true rfl) (Nat.le_of_ble_eq_true rfl) (Nat.le_refl _) (Nat.le_refl _) (hx2.1.fc X2.warmed.alike) hx2.1.is (g := (mkF m 6 #[.val (.ref x)] [.ref x, .int (Int32.ofNat V.slots.size)])) rfl (by rw [hml]; rfl) c3 (argsL := []) (rest := [.int (Int32.ofNat V.slots.size)]) rfl rfl (by show 2 * 0 + (1 + 0) ≤ _; decide) (hb hbytes d6) (⟨rfl, hx2.2.2.1, hx.2.2.2.2.1.cd, s1.there X2.warmed.alike hh2, hz⟩)
  obtain ⟨rfl, q4⟩ := E4
  have c5 : Steps p.tables e below (s₁.setTop (entryFrame m #[.ref x] 1)) (T4.setTop (mkF m 10 #[.val (.ref x)] [.int (Int32.ofNat V.slots.size >>> (cd &&& 31))])) := Steps.trans g4 (by
    refine ishr X4.here hexec rfl (hb hbytes d9) rfl ?_
    exact Steps.refl _)
  rw [hx.2.2.2.2.1.len v31] at c5
  exact ⟨T4, some (.int (Int32.ofNat n)), _, _, _, X4, rfl, rfl, rfl, (fun h => by cases h), ⟨rfl, q4.trans hh2⟩, fun fs hl => c5.trans (X4.ireturnOut hexec hret rfl (Or.inl rfl) (hb hbytes d10) hl)⟩
theorem pays {l : Launch} {R : Room} {p : Program} {e : Env} {below : List Frame} {s : State} {sargs : Array Value} {len W : Nat} (x t : Addr) (V : Cell) (cd : Int32) (n : Nat) (f : Nat → Int32) (z : Int32) (htab : tab.before sargs s = true) (hfr : 2 ≤ R.frames) (hlo : W + 25 ≤ R.locals) :
    Back l R p e below s sargs yN len W (fun A₁ a₁ => A₁.cells + 0 ≤ R.cells ∧ A₁.slots + 0 ≤ R.slots ∧ P x t V cd n f z a₁ A₁.U) (fun A₁ _ v₁ B₁ => E n v₁ A₁.U B₁.U ∧ B₁.locs = A₁.locs ++ [] ∧ B₁.cells = A₁.cells + 0 ∧ B₁.slots = A₁.slots + 0) :=
  (law l x t V cd n f z).pays htab hfr (by omega)
end Len
namespace IsL
def yN : MethodName := ⟨"java/lang/String", "isLatin1", "()Z"⟩
abbrev yB : ByteArray := jdk_42_method_154_code
theorem d0 : decode yB 0 = .ok (.getstatic 38, 3) := by decide +kernel
theorem d3 : decode yB 3 = .ok (.ifCond (.eq) 14, 3) := by decide +kernel
theorem d6 : decode yB 6 = .ok (.aload_n 0, 1) := by decide +kernel
theorem d7 : decode yB 7 = .ok (.getfield 15, 3) := by decide +kernel
theorem d10 : decode yB 10 = .ok (.ifCond (.ne) 7, 3) := by decide +kernel
theorem d13 : decode yB 13 = .ok (.iconst 1, 1) := by decide +kernel
theorem d14 : decode yB 14 = .ok (.goto 4, 3) := by decide +kernel
theorem d17 : decode yB 17 = .ok (.iconst 0, 1) := by decide +kernel
theorem d18 : decode yB 18 = .ok (.ireturn, 1) := by decide +kernel
def site : List Cond := [.fieldLink "java/lang/String" 38 "java/lang/String" "COMPACT_STRINGS" "Z", .fieldLink "java/lang/String" 15 "java/lang/String" "coder" "B"]
def tab : Cond := tabOf yN yB 1 (some .boolean) site
def P (x : Addr) (cd z : Int32) (args : Array Value) (s : State) : Prop := args = #[.ref x] ∧ Has x "java/lang/String" "coder" "B" (.int cd) s ∧ (cd = 0 ∨ cd = 1) ∧ StaticIs s "java/lang/String" "COMPACT_STRINGS" "Z" (.int z) ∧ ¬ z = 0
def E (cd : Int32) (r : Option Value) (s u : State) : Prop := XT.PureE (some (.int (1 - cd))) r s u
theorem law (l : Launch) (x : Addr) (cd z : Int32) : Law l yN 1 0 0 0 yB 1 (some .boolean) site (P x cd z) (E cd) [] 0 0 := by
  refine Law.of_walk (plainFor_of_name (by decide +kernel)) (by decide +kernel) (by decide +kernel) (by decide) (fun _ _ h => by rw [h.1]; rfl) (fun _ U U' hal hh h => ⟨h.1, h.2.1.mv hal hh, h.2.2.1, h.2.2.2.1.there hal hh, h.2.2.2.2⟩) (fun r U U' V V' h1 hal h2 h => XT.PureE.mv r U U' V V' h1 hal h2 h) ?_
  intro p e s m args below meth c s₁ X0 hexec hbytes hml hret hlk hnm hown hh0 W hP
  obtain ⟨rfl, hx, hc, s1, hz⟩ := hP
  have c1 : Steps p.tables e below (s₁.setTop (entryFrame m #[.ref x] 1)) (s₁.setTop (mkF m 0 #[.val (.ref x)] [])) := entry rfl
  obtain ⟨T2, X2, q2, st2⟩ := X0.sget hexec hown (wk W (.fieldLink "java/lang/String" 38 "java/lang/String" "COMPACT_STRINGS" "Z")) s1 (fun _ _ h => by rw [hh0]; exact h) (g := (mkF m 0 #[.val (.ref x)] [])) rfl (hb hbytes d0)
  have hh2 := q2.trans hh0
  have c3 : Steps p.tables e below (s₁.setTop (entryFrame m #[.ref x] 1)) (T2.setTop (mkF m 7 #[.val (.ref x)] [.ref x])) := (c1.trans (st2 _ (Steps.refl _))).trans (by
    refine XS.ifNo X2.here hexec rfl (hb hbytes d3) rfl (i0_eq_f hz) ?_
    refine XS.aloadN X2.here hexec rfl (hb hbytes d6) rfl rfl ?_
    exact Steps.refl _)
  obtain ⟨T4, X4, q4, st4⟩ := X2.hget hexec hown (wk W (.fieldLink "java/lang/String" 15 "java/lang/String" "coder" "B")) (hx.mv X2.warmed.alike hh2) (g := (mkF m 7 #[.val (.ref x)] [.ref x])) rfl (rest := []) rfl (hb hbytes d7)
  have c5 : Steps p.tables e below (s₁.setTop (entryFrame m #[.ref x] 1)) (T4.setTop (mkF m 10 #[.val (.ref x)] [.int cd])) := c3.trans (st4 _ (Steps.refl _))
  have c6 : Steps p.tables e below (s₁.setTop (entryFrame m #[.ref x] 1)) (T4.setTop (mkF m 18 #[.val (.ref x)] [.int (1 - cd)])) := by
    rcases hc with rfl | rfl
    · exact c5.trans (by
        refine XS.ifNo X4.here hexec rfl (hb hbytes d10) rfl (i0_ne_f rfl) ?_
        refine iconstV X4.here hexec rfl 1 (hb hbytes d13) (by decide) ?_
        refine XS.goto X4.here hexec rfl (pc0 := 14) rfl (hb hbytes d14) (by decide) rfl ?_
        exact Steps.refl _)
    · exact c5.trans (by
        refine XS.ifYes X4.here hexec rfl (pc0 := 10) rfl (hb hbytes d10) rfl (i0_ne_t (by decide)) (by decide) rfl ?_
        refine iconstV X4.here hexec rfl 0 (hb hbytes d17) (by decide) ?_
        exact Steps.refl _)
  exact ⟨T4, some (.int (1 - cd)), _, _, _, X4, rfl, rfl, rfl, (fun h => by cases h), ⟨rfl, q4.trans hh2⟩, fun fs hl => c6.trans (X4.ireturnOut hexec hret (by rcases hc with rfl | rfl <;> rfl) (Or.inr (Or.inl rfl)) (hb hbytes d18) hl)⟩
end IsL
namespace LChA
def yN : MethodName := ⟨"java/lang/StringLatin1", "charAt", "([BI)C"⟩
abbrev yB : ByteArray := jdk_43_method_2_code
theorem d0 : decode yB 0 = .ok (.iload_n 1, 1) := by decide +kernel
theorem d1 : decode yB 1 = .ok (.aload_n 0, 1) := by decide +kernel
theorem d2 : decode yB 2 = .ok (.arraylength, 1) := by decide +kernel
theorem d3 : decode yB 3 = .ok (.invokestatic 9, 3) := by decide +kernel
theorem d6 : decode yB 6 = .ok (.aload_n 0, 1) := by decide +kernel
theorem d7 : decode yB 7 = .ok (.iload_n 1, 1) := by decide +kernel
theorem d8 : decode yB 8 = .ok (.baload, 1) := by decide +kernel
theorem d9 : decode yB 9 = .ok (.sipush 255, 3) := by decide +kernel
theorem d12 : decode yB 12 = .ok (.iand, 1) := by decide +kernel
theorem d13 : decode yB 13 = .ok (.i2c, 1) := by decide +kernel
theorem d14 : decode yB 14 = .ok (.ireturn, 1) := by decide +kernel
def site : List Cond := [JO.Str_checkIndex.tab] ++ staticW "java/lang/StringLatin1" 9 JO.Str_checkIndex.yN
def tab : Cond := tabOf yN yB 2 (some .char) site
def P (t : Addr) (V : Cell) (i : Nat) (u : Int32) (fm : Value) (args : Array Value) (s : State) : Prop := args = #[.ref t, .int (Int32.ofNat i)] ∧ XT.Arr .byte t V s ∧ V.slots[i]? = some (.int u) ∧ (StaticIs s "jdk/internal/util/Preconditions" "SIOOBE_FORMATTER" "Ljava/util/function/BiFunction;" fm ∧ fm.isRef = true)
def E (u : Int32) (r : Option Value) (s w : State) : Prop := XT.PureE (some (.int (chr8 u))) r s w
theorem law (l : Launch) (t : Addr) (V : Cell) (i : Nat) (u : Int32) (fm : Value) : Law l yN 2 2 2 27 yB 2 (some .char) site (P t V i u fm) (E u) [] 0 0 := by
  refine Law.of_walk (plainFor_of_name (by decide +kernel)) (by decide +kernel) (by decide +kernel) (by decide) (fun _ _ h => by rw [h.1]; rfl) (fun _ U U' hal hh h => ⟨h.1, h.2.1.mv hal hh, h.2.2.1, h.2.2.2.1.there hal hh, h.2.2.2.2⟩) (fun r U U' V V' h1 hal h2 h => XT.PureE.mv r U U' V V' h1 hal h2 h) ?_
  intro p e s m args below meth c s₁ X0 hexec hbytes hml hret hlk hnm hown hh0 W hP
  obtain ⟨rfl, hV, hu, s1, rf⟩ := hP
  have v31 := hV.2.2.2
  have hi : i < V.slots.size := (Array.getElem?_eq_some_iff.mp hu).1
  have c1 : Steps p.tables e below (s₁.setTop (entryFrame m #[.ref t, .int (Int32.ofNat i)] 2)) (s₁.setTop (mkF m 0 #[.val (.ref t), .val (.int (Int32.ofNat i))] [])) := entry rfl
  have c2 : Steps p.tables e below (s₁.setTop (entryFrame m #[.ref t, .int (Int32.ofNat i)] 2)) (s₁.setTop (mkF m 3 #[.val (.ref t), .val (.int (Int32.ofNat i))] [.int (Int32.ofNat V.slots.size), .int (Int32.ofNat i)])) := c1.trans (by
    refine XS.iloadN X0.here hexec rfl (hb hbytes d0) rfl ?_
    refine XS.aloadN X0.here hexec rfl (hb hbytes d1) rfl rfl ?_
    refine X0.alen hexec (hV.mv X0.warmed.alike hh0) rfl rfl (hb hbytes d2) ?_
    exact Steps.refl _)
  obtain ⟨v3, T3, X3, E3, g3⟩ := X0.callS hexec (JO.Str_checkIndex.law l (Int32.ofNat i) (Int32.ofNat V.slots.size) fm) hown (wks W (staticW "java/lang/StringLatin1" 9 JO.Str_checkIndex.yN)) (wk W JO.Str_checkIndex.tab) (W := 0) (Nat.le_of_ble_eq_true rfl) (Nat.le_of_ble_eq_true rfl) (Nat.le_refl _) (Nat.le_refl _) (g := (mkF m 3 #[.val (.ref t), .val (.int (Int32.ofNat i))] [.int (Int32.ofNat V.slots.size), .int (Int32.ofNat i)])) rfl (by rw [hml]; rfl) c2 (argsL := [.int (Int32.ofNat i), .int (Int32.ofNat V.slots.size)]) (rest := []) rfl rfl (by show 2 * 0 + 0 ≤ _; decide) (hb hbytes d3) (⟨rfl, rf, s1.there X0.warmed.alike hh0, Int32.ofNat_not_neg (by omega), lt32 v31 hi⟩)
  obtain ⟨rfl, q3⟩ := E3
  have hh3 := q3.trans hh0
  have c4 : Steps p.tables e below (s₁.setTop (entryFrame m #[.ref t, .int (Int32.ofNat i)] 2)) (T3.setTop (mkF m 14 #[.val (.ref t), .val (.int (Int32.ofNat i))] [.int (chr8 u)])) := Steps.trans g3 (by
    refine XS.aloadN X3.here hexec rfl (hb hbytes d6) rfl rfl ?_
    refine XS.iloadN X3.here hexec rfl (hb hbytes d7) rfl ?_
    refine X3.aget hexec (hV.mv X3.warmed.alike hh3) rfl hu rfl rfl (hb hbytes d8) ?_
    refine sipushV X3.here hexec rfl 255 (hb hbytes d9) (by decide) ?_
    refine XS.iand X3.here hexec rfl (hb hbytes d12) rfl ?_
    refine i2c X3.here hexec rfl (hb hbytes d13) rfl ?_
    exact Steps.refl _)
  exact ⟨T3, some (.int (chr8 u)), _, _, _, X3, rfl, rfl, rfl, (fun h => by cases h), ⟨rfl, hh3⟩, fun fs hl => c4.trans (X3.ireturnOut hexec hret (narrow_c _) (Or.inr (Or.inr (Or.inr (Or.inl rfl)))) (hb hbytes d14) hl)⟩
end LChA
end StrChars
namespace StrChars.Road
open Jvm Sem ClassFile Op Lib Jvm.Stand Jvm.Free Jvm.Free.XT
open Jvm.Lib.Cold (StaticIs)
theorem consq {a : Array Value} {s : State} {c : Jvm.Cond} {L : List Jvm.Cond} (h0 : c.before a s = true) (h : ∀ w ∈ L, w.before a s = true) : ∀ w ∈ c :: L, w.before a s = true := fun w hw => (List.mem_cons.mp hw).elim (fun e => e ▸ h0) (h w)
/-- the words of String.length(), either coding -/
abbrev wordsLen : List Jvm.Cond := [.code Len.yN Len.yB 1 (some .int), .initialized ST, .fieldLink ST 9 ST "value" "[B", .fieldLink ST 38 ST "COMPACT_STRINGS" "Z", .fieldLink ST 15 ST "coder" "B", .code Cdr.yN Cdr.yB 1 (some .byte), .methodLink ST 335 Cdr.yN, .declares Cdr.yN, .selects ST Cdr.yN Cdr.yN, .instanceMethod Cdr.yN]
theorem tabLen_of {a : Array Value} {s : State} (h : ∀ w ∈ wordsLen, w.before a s = true) : Len.tab.before a s = true := by
  have hc : Cdr.tab.before a s = true := unparts (wk h (.code Cdr.yN Cdr.yB 1 (some .byte))) (wks h (.initialized Cdr.yN.cls :: Cdr.site))
  have q := consq hc h
  exact unparts (wk q (.code Len.yN Len.yB 1 (some .int))) (wks q (.initialized Len.yN.cls :: Len.site))
theorem movedLen {Z s : State} {a0 args : Array Value} (hZ : Z.Warmed39 s.vm) (hw : ∀ d ∈ wordsLen, d.before a0 Z = true) : ∀ d ∈ wordsLen, d.before args s = true := fun d hd => by
  have q := hw d hd
  have t : ∀ d ∈ wordsLen, d = .arrayClass .byte ∨ (d.onTables && d.keepsFace) = true := by decide +kernel
  rcases t d hd with rfl | t
  · exact RoadKit.mvA hZ q
  · exact RoadKit.mv hZ q t
/-- the bytes of the chars cs, low before high -/
def wideBytes : List Int32 → List Value
  | [] => []
  | c :: cs => .int (lo8 c) :: .int (hi8 c) :: wideBytes cs
theorem wide_lo (d : Value) : ∀ (cs : List Int32) (j : Nat), j < cs.length → (wideBytes cs).getD (2 * j) d = .int (lo8 (cs.getD j 0))
  | [], j, h => absurd h (Nat.not_lt_zero j)
  | c :: cs, 0, _ => rfl
  | c :: cs, j + 1, h => by
    have q := wide_lo d cs j (by simpa using h)
    rw [show 2 * (j + 1) = 2 * j + 1 + 1 from by omega]
    simpa [wideBytes] using q
theorem wide_hi (d : Value) : ∀ (cs : List Int32) (j : Nat), j < cs.length → (wideBytes cs).getD (2 * j + 1) d = .int (hi8 (cs.getD j 0))
  | [], j, h => absurd h (Nat.not_lt_zero j)
  | c :: cs, 0, _ => rfl
  | c :: cs, j + 1, h => by
    have q := wide_hi d cs j (by simpa using h)
    rw [show 2 * (j + 1) + 1 = 2 * j + 1 + 1 + 1 from by omega]
    simpa [wideBytes] using q
theorem low_at (d : Value) (cs : List Int32) (j : Nat) (h : j < cs.length) : (cs.map fun c => Value.int (lo8 c)).getD j d = .int (lo8 (cs.getD j 0)) := by
  simp [List.getD_eq_getElem?_getD, h]
/-- an array of N2 bytes vs codes the chars cs by the coder cd -/
def CodA (cs : List Int32) (cd N2 : Int32) (vs : List Value) : Prop := (cd = 0 ∧ N2 = Int32.ofNat cs.length ∧ vs = (cs.map fun c => Value.int (lo8 c)) ∧ ∀ c ∈ cs, ¬ 255 < c) ∨ (cd = 1 ∧ N2 = Int32.ofNat (2 * cs.length) ∧ vs = wideBytes cs ∧ ∃ c ∈ cs, 255 < c)
theorem CodA.cod {cs : List Int32} {cd N2 : Int32} {vs : List Value} {V : Cell} (h : CodA cs cd N2 vs) (hn : 2 * cs.length < 2 ^ 31) (hs : V.slots.size = N2.toNatClampNeg) (hv : RoadKit.Has V vs (.int 0)) : Cod cd cs.length (fun j => cs.getD j 0) V := by
  rcases h with ⟨rfl, rfl, rfl, h⟩ | ⟨rfl, rfl, rfl, c, hc, hw⟩
  · rw [n32 (by omega)] at hs
    exact Or.inl ⟨rfl, hs, fun j hj => ⟨by rw [hv j (by omega), low_at _ _ _ hj], by
      have e : cs.getD j 0 = cs[j] := by simp [List.getD_eq_getElem?_getD, hj]
      show ¬ 255 < cs.getD j 0
      rw [e]; exact h _ (List.getElem_mem _)⟩⟩
  · rw [n32 (by omega)] at hs
    obtain ⟨j, hj, rfl⟩ := List.getElem_of_mem hc
    exact Or.inr ⟨rfl, hs, fun j hj => ⟨by rw [hv _ (by omega), wide_lo _ _ _ hj], by rw [hv _ (by omega), wide_hi _ _ _ hj]⟩, j, hj, by
      have e : cs.getD j 0 = cs[j] := by simp [List.getD_eq_getElem?_getD, hj]
      show 255 < cs.getD j 0
      rw [e]; exact hw⟩
/-- an object of exactly java/lang/String, its two fields found: as the laws ask it -/
theorem strObj {Z U : State} {a0 : Array Value} {kI : Nat} (wi : (Jvm.Cond.instantiable ST kI).before a0 Z = true) (al : Z.vm.Alike U.vm) {x : Addr} {v0 c0 : Value} (E : RoadKit.Exa Z U.heap x ST) (V : RoadKit.Fld Z U.heap x ST "value" "[B" v0) (C : RoadKit.Fld Z U.heap x ST "coder" "B" c0) :
    ∃ (D : Cell) (fV fC : Field), Blank ST x D U ∧ Found ST "value" "[B" fV U ∧ Found ST "coder" "B" fC U ∧ D.slots[fV.slot]? = some v0 ∧ D.slots[fC.slot]? = some c0 ∧ RoadKit.slotOf Z ST "value" "[B" = fV.slot ∧ RoadKit.slotOf Z ST "coder" "B" = fC.slot := by
  obtain ⟨D, cfV, kV, iV, fV, hD, gV, stV, knV, obV, asV, slV⟩ := V
  obtain ⟨D', cfC, kC, iC, fC, hD', gC, stC, -, -, asC, slC⟩ := C
  cases hD.symm.trans hD'
  obtain ⟨D2, kD, e1, e2, e3, e4, e5⟩ := E
  cases hD.symm.trans e1
  obtain ⟨c2, k2, i1, i2, i3, -⟩ := Cond.instantiable_spec wi
  cases e2.symm.trans i1
  cases e3.symm.trans i2
  obtain ⟨kU, u1, u2⟩ := al.2.2 _ _ e3
  exact ⟨D, fV, fC, ⟨hD, ⟨knV, fun q hq => by rw [hq] at obV; cases obV⟩, by rw [al.findClass]; exact e2, kU, u1, by rw [u2]; exact i3, by rw [u2]; exact e5 i3⟩, ⟨SBG.found_only al ⟨cfV, kV, iV, gV⟩, stV⟩, ⟨SBG.found_only al ⟨cfC, kC, iC, gC⟩, stC⟩, slV, slC, by simp [RoadKit.slotOf, gV], by simp [RoadKit.slotOf, gC]⟩
theorem sta_is {Z U : State} (al : Z.vm.Alike U.vm) {C n d : String} {v : Value} (S : RoadKit.Sta Z U.heap C n d v) : StaticIs U C n d v := by
  obtain ⟨cfS, iS, kS, fS, st, cS, t1, t2, t3, t4, t5, t6, t7⟩ := S
  exact StaticIs.there (s := { Z with heap := U.heap }) ⟨cfS, iS, kS, fS, st, cS, t1, t2, t3, t4, t5, (fun q => by rw [q] at t6; cases t6), t7⟩ al rfl
/-- **length() OF SUCH A STRING** -/
theorem lenW {p : Program} {l : Launch} {e : Env} {R : Room} {s : State} {args : Array Value} {below : List Frame} {len W : Nat} {Z : State} {a0 : Array Value} {h : Heap} (hZ : Z.Warmed39 s.vm) (hw : ∀ d ∈ wordsLen, d.before a0 Z = true) {kI : Nat} (wi : (Jvm.Cond.instantiable ST kI).before a0 Z = true)
    {x t : Addr} {kb : ClassId} {cs : List Int32} {cd N2 z : Int32} {vs : List Value} (E : RoadKit.Exa Z h x ST) (V : RoadKit.Fld Z h x ST "value" "[B" (.ref t)) (C : RoadKit.Fld Z h x ST "coder" "B" (.int cd)) (K : RoadKit.Arv Z h t kb .byte N2 vs (.int 0)) (hc : CodA cs cd N2 vs) (hb : ∀ c ∈ cs, ¬ c < 0 ∧ ¬ (65535 : Int32) < c)
    (S : RoadKit.Sta Z h ST "COMPACT_STRINGS" "Z" (.int z)) (hz : ¬ z = 0) (l2 : cs.length ≤ 4000) (hfr : 2 ≤ R.frames) (hlo : W + 25 ≤ R.locals) :
    Back l R p e below s args (⟨"java/lang/String", "length", "()I"⟩ : MethodName) len W (fun P a => a = #[.ref x] ∧ P.U.heap = h ∧ P.cells + 0 ≤ R.cells ∧ P.slots + 0 ≤ R.slots)
      (fun P _ v B => ∃ L, (v = some (.int (Int32.ofNat cs.length)) ∧ L = [] ∧ B.U.heap = h) ∧ B.locs = P.locs ++ L ∧ B.cells = P.cells + 0 ∧ B.slots = P.slots + 0) := by
  obtain ⟨A, K1, K2, K3, K4, K5, K6⟩ := K
  have hcod := hc.cod (by omega) K3 K5
  intro m meth c P g ig mk a X hg hsize hdg hW hn hp'
  obtain ⟨rfl, rfl, r1, r2⟩ := hp'
  have al : Z.vm.Alike P.U.vm := hZ.alike.trans X.warmed.alike
  obtain ⟨D, fV, fC, hB, F1, F2, g1, g2, -, -⟩ := strObj wi al E V C
  have hx : Txt x t A cd cs.length (fun j => cs.getD j 0) P.U := ⟨⟨_, hB.2.2.1, D, hB.1, rfl, by cases q : D.vm <;> first | rfl | exact absurd q (hB.2.1.2 _)⟩, Has.of hB F1 g1, Has.of hB F2 g2, ⟨K1.1, State.isArrayOf_alike al K1.2.1, K1.2.2, by rcases hcod with ⟨-, q, -⟩ | ⟨-, q, -⟩ <;> omega⟩, hcod, fun j hj => by
    have e : cs.getD j 0 = cs[j] := by simp [List.getD_eq_getElem?_getD, hj]
    show ¬ cs.getD j 0 < 0 ∧ ¬ 65535 < cs.getD j 0
    rw [e]; exact hb _ (List.getElem_mem _)⟩
  obtain ⟨v, B, X', ⟨⟨hv, hh⟩, hl, hk, hs⟩, st⟩ := Len.pays x t A cd cs.length (fun j => cs.getD j 0) z (tabLen_of (movedLen hZ hw)) hfr hlo m meth c P g ig mk _ X hg hsize hdg hW hn ⟨r1, r2, rfl, hx, sta_is al S, hz⟩
  exact ⟨v, B, X', ⟨[], ⟨hv, rfl, hh⟩, hl, hk, hs⟩, st⟩
end StrChars.Road
namespace StrChars.Road
open Jvm Sem ClassFile Op Lib Jvm.Stand Jvm.Free Jvm.Free.XT
open Jvm.Lib.Cold (StaticIs)
/-- the road's facts of a String, as the laws ask it -/
theorem txt_of {Z U : State} {a0 : Array Value} {kI : Nat} (wi : (Jvm.Cond.instantiable ST kI).before a0 Z = true) (al : Z.vm.Alike U.vm) {x t : Addr} {kb : ClassId} {cs : List Int32} {cd N2 : Int32} {vs : List Value} (E : RoadKit.Exa Z U.heap x ST) (V : RoadKit.Fld Z U.heap x ST "value" "[B" (.ref t)) (C : RoadKit.Fld Z U.heap x ST "coder" "B" (.int cd)) (K : RoadKit.Arv Z U.heap t kb .byte N2 vs (.int 0)) (hc : CodA cs cd N2 vs) (hb : ∀ c ∈ cs, ¬ c < 0 ∧ ¬ (65535 : Int32) < c) (l2 : cs.length ≤ 4000) :
    ∃ A, Txt x t A cd cs.length (fun j => cs.getD j 0) U := by
  obtain ⟨A, K1, K2, K3, K4, K5, K6⟩ := K
  have hcod := hc.cod (by omega) K3 K5
  obtain ⟨D, fV, fC, hB, F1, F2, g1, g2, -, -⟩ := strObj wi al E V C
  exact ⟨A, ⟨_, hB.2.2.1, D, hB.1, rfl, by cases q : D.vm <;> first | rfl | exact absurd q (hB.2.1.2 _)⟩, Has.of hB F1 g1, Has.of hB F2 g2, ⟨K1.1, State.isArrayOf_alike al K1.2.1, K1.2.2, by rcases hcod with ⟨-, q, -⟩ | ⟨-, q, -⟩ <;> omega⟩, hcod, fun j hj => by
    have e : cs.getD j 0 = cs[j] := by simp [List.getD_eq_getElem?_getD, hj]
    show ¬ cs.getD j 0 < 0 ∧ ¬ 65535 < cs.getD j 0
    rw [e]; exact hb _ (List.getElem_mem _)⟩
end StrChars.Road
namespace StrChars
open Jvm Sem ClassFile Op Lib Jvm.Stand Jvm.Free.XT Jvm.Free.ALB Jvm.Free.JM Jvm.Free
open Jvm.Lib.Cold (StaticIs)
namespace ChN
def yN : MethodName := ⟨"java/lang/String", "charAt", "(I)C"⟩
abbrev yB : ByteArray := jdk_42_method_56_code
theorem d0 : decode yB 0 = .ok (.aload_n 0, 1) := by decide +kernel
theorem d1 : decode yB 1 = .ok (.invokevirtual 492, 3) := by decide +kernel
theorem d4 : decode yB 4 = .ok (.ifCond (.eq) 12, 3) := by decide +kernel
theorem d7 : decode yB 7 = .ok (.aload_n 0, 1) := by decide +kernel
theorem d8 : decode yB 8 = .ok (.getfield 9, 3) := by decide +kernel
theorem d11 : decode yB 11 = .ok (.iload_n 1, 1) := by decide +kernel
theorem d12 : decode yB 12 = .ok (.invokestatic 495, 3) := by decide +kernel
theorem d15 : decode yB 15 = .ok (.ireturn, 1) := by decide +kernel
def site : List Cond := [.fieldLink "java/lang/String" 9 "java/lang/String" "value" "[B", IsL.tab, LChA.tab] ++ virtW "java/lang/String" 492 "java/lang/String" IsL.yN IsL.yN ++ staticW "java/lang/String" 495 LChA.yN
def tab : Cond := tabOf yN yB 2 (some .char) site
def P (x t : Addr) (V : Cell) (n : Nat) (f : Nat → Int32) (z : Int32) (fm : Value) (i : Nat) (args : Array Value) (s : State) : Prop := args = #[.ref x, .int (Int32.ofNat i)] ∧ Txt x t V 0 n f s ∧ i < n ∧ StaticIs s "java/lang/String" "COMPACT_STRINGS" "Z" (.int z) ∧ ¬ z = 0 ∧ StaticIs s "jdk/internal/util/Preconditions" "SIOOBE_FORMATTER" "Ljava/util/function/BiFunction;" fm ∧ fm.isRef = true
def E (f : Nat → Int32) (i : Nat) (r : Option Value) (s u : State) : Prop := XT.PureE (some (.int (f i))) r s u
/-- charAt(i) of a Latin-1 String of n chars, i < n: f i -/
theorem law (l : Launch) (x t : Addr) (V : Cell) (n : Nat) (f : Nat → Int32) (z : Int32) (fm : Value) (i : Nat) : Law l yN 2 1 3 40 yB 2 (some .char) site (P x t V n f z fm i) (E f i) [] 0 0 := by
  refine Law.of_walk (plainFor_of_name (by decide +kernel)) (by decide +kernel) (by decide +kernel) (by decide) (fun _ _ h => by rw [h.1]; rfl) (fun _ U U' hal hh h => ⟨h.1, h.2.1.mv hal hh, h.2.2.1, h.2.2.2.1.there hal hh, h.2.2.2.2.1, h.2.2.2.2.2.1.there hal hh, h.2.2.2.2.2.2⟩) (fun r U U' V V' h1 hal h2 h => XT.PureE.mv r U U' V V' h1 hal h2 h) ?_
  intro p e s m args below meth c s₁ X0 hexec hbytes hml hret hlk hnm hown hh0 W hP
  obtain ⟨rfl, hx, hi, s1, hz, s3, rf⟩ := hP
  have v31 := hx.2.2.2.1.2.2.2
  have hr := hx.2.2.2.2.2 i hi
  have hx0 := hx.mv X0.warmed.alike hh0
  have c1 : Steps p.tables e below (s₁.setTop (entryFrame m #[.ref x, .int (Int32.ofNat i)] 2)) (s₁.setTop (mkF m 1 #[.val (.ref x), .val (.int (Int32.ofNat i))] [.ref x])) := Steps.trans (entry rfl) (by
    show Steps p.tables e below (s₁.setTop (mkF m 0 #[.val (.ref x), .val (.int (Int32.ofNat i))] [])) _
    refine XS.aloadN X0.here hexec rfl (hb hbytes d0) rfl rfl ?_
    exact Steps.refl _)
  obtain ⟨v2, T2, X2, E2, g2⟩ := X0.callV hexec (IsL.law l x 0 z) hown (wks W (virtW "java/lang/String" 492 "java/lang/String" IsL.yN IsL.yN)) rfl (by decide) (wk W IsL.tab) (W := 0) (Nat.le_of_ble_eq_true rfl) (Nat.le_of_ble_eq_true rfl) (Nat.le_refl _) (Nat.le_refl _) (hx0.1.fc X0.warmed.alike) hx0.1.is (g := (mkF m 1 #[.val (.ref x), .val (.int (Int32.ofNat i))] [.ref x])) rfl (by rw [hml]; rfl) c1 (argsL := []) (rest := []) rfl rfl (by show 2 * 0 + 0 ≤ _; decide) (hb hbytes d1) (⟨rfl, hx0.2.2.1, hx.2.2.2.2.1.cd, s1.there X0.warmed.alike hh0, hz⟩)
  obtain ⟨rfl, q2⟩ := E2
  have hh2 := q2.trans hh0
  have hx2 := hx.mv X2.warmed.alike hh2
  obtain ⟨-, k1, k2⟩ | ⟨k0, -⟩ := hx.2.2.2.2.1
  · have c3 : Steps p.tables e below (s₁.setTop (entryFrame m #[.ref x, .int (Int32.ofNat i)] 2)) (T2.setTop (mkF m 8 #[.val (.ref x), .val (.int (Int32.ofNat i))] [.ref x])) := Steps.trans g2 (by
      refine XS.ifNo X2.here hexec rfl (hb hbytes d4) rfl (i0_eq_f (by decide)) ?_
      refine XS.aloadN X2.here hexec rfl (hb hbytes d7) rfl rfl ?_
      exact Steps.refl _)
    obtain ⟨T4, X4, q4, st4⟩ := X2.hget hexec hown (wk W (.fieldLink "java/lang/String" 9 "java/lang/String" "value" "[B")) hx2.2.1 (g := (mkF m 8 #[.val (.ref x), .val (.int (Int32.ofNat i))] [.ref x])) rfl (rest := []) rfl (hb hbytes d8)
    have hh4 := q4.trans hh2
    have c5 : Steps p.tables e below (s₁.setTop (entryFrame m #[.ref x, .int (Int32.ofNat i)] 2)) (T4.setTop (mkF m 12 #[.val (.ref x), .val (.int (Int32.ofNat i))] [.int (Int32.ofNat i), .ref t])) := (c3.trans (st4 _ (Steps.refl _))).trans (by
      refine XS.iloadN X4.here hexec rfl (hb hbytes d11) rfl ?_
      exact Steps.refl _)
    obtain ⟨v6, T6, X6, E6, g6⟩ := X4.callS hexec (LChA.law l t V i (lo8 (f i)) fm) hown (wks W (staticW "java/lang/String" 495 LChA.yN)) (wk W LChA.tab) (W := 0) (Nat.le_of_ble_eq_true rfl) (Nat.le_of_ble_eq_true rfl) (Nat.le_refl _) (Nat.le_refl _) (g := (mkF m 12 #[.val (.ref x), .val (.int (Int32.ofNat i))] [.int (Int32.ofNat i), .ref t])) rfl (by rw [hml]; rfl) c5 (argsL := [.ref t, .int (Int32.ofNat i)]) (rest := []) rfl rfl (by show 2 * 0 + 0 ≤ _; decide) (hb hbytes d12) (⟨rfl, hx.2.2.2.1.mv X4.warmed.alike hh4, (k2 i hi).1, s3.there X4.warmed.alike hh4, rf⟩)
    obtain ⟨rfl, q6⟩ := E6
    rw [chr8_lo8 hr.1 (k2 i hi).2] at g6
    exact ⟨T6, some (.int (f i)), _, _, _, X6, rfl, rfl, rfl, (fun h => by cases h), ⟨rfl, q6.trans hh4⟩, fun fs hl => Steps.trans g6 (X6.ireturnOut hexec hret (narrow_ch hr.1 hr.2) (Or.inr (Or.inr (Or.inr (Or.inl rfl)))) (hb hbytes d15) hl)⟩
  · exact absurd k0 (by decide)
theorem pays {l : Launch} {R : Room} {p : Program} {e : Env} {below : List Frame} {s : State} {sargs : Array Value} {len W : Nat} (x t : Addr) (V : Cell) (n : Nat) (f : Nat → Int32) (z : Int32) (fm : Value) (i : Nat) (htab : tab.before sargs s = true) (hfr : 4 ≤ R.frames) (hlo : W + 53 ≤ R.locals) :
    Back l R p e below s sargs yN len W (fun A₁ a₁ => A₁.cells + 0 ≤ R.cells ∧ A₁.slots + 0 ≤ R.slots ∧ P x t V n f z fm i a₁ A₁.U) (fun A₁ _ v₁ B₁ => E f i v₁ A₁.U B₁.U ∧ B₁.locs = A₁.locs ++ [] ∧ B₁.cells = A₁.cells + 0 ∧ B₁.slots = A₁.slots + 0) :=
  (law l x t V n f z fm i).pays htab hfr (by omega)
end ChN
end StrChars
namespace StrChars.Road
open Jvm Sem ClassFile Op Lib Jvm.Stand Jvm.Free Jvm.Free.XT
open Jvm.Lib.Cold (StaticIs)
/-- the words of String.charAt(int), the Latin-1 road alone -/
abbrev wordsChN : List Jvm.Cond := [.code ChN.yN ChN.yB 2 (some .char), .initialized ST, .fieldLink ST 9 ST "value" "[B", .fieldLink ST 38 ST "COMPACT_STRINGS" "Z", .fieldLink ST 15 ST "coder" "B", .code IsL.yN IsL.yB 1 (some .boolean), .methodLink ST 492 IsL.yN, .declares IsL.yN, .selects ST IsL.yN IsL.yN, .instanceMethod IsL.yN,
  .methodLink ST 495 LChA.yN, .static LChA.yN, .code LChA.yN LChA.yB 2 (some .char), .initialized "java/lang/StringLatin1", .methodLink "java/lang/StringLatin1" 9 JO.Str_checkIndex.yN, .static JO.Str_checkIndex.yN, .code JO.Str_checkIndex.yN JO.Str_checkIndex.yB 2 none,
  .fieldLink ST 1053 "jdk/internal/util/Preconditions" "SIOOBE_FORMATTER" "Ljava/util/function/BiFunction;", .methodLink ST 1059 JC.PreCheck.yN, .static JC.PreCheck.yN, .code JC.PreCheck.yN JC.PreCheck.yB 3 (some .int), .initialized "jdk/internal/util/Preconditions"]
theorem tabChN_of {a : Array Value} {s : State} (h : ∀ w ∈ wordsChN, w.before a s = true) : ChN.tab.before a s = true := by
  have hp : JC.PreCheck.tab.before a s = true := unparts (wk h (.code JC.PreCheck.yN JC.PreCheck.yB 3 (some .int))) (wks h (.initialized JC.PreCheck.yN.cls :: JC.PreCheck.site))
  have qk := consq hp h
  have hk : JO.Str_checkIndex.tab.before a s = true := unparts (wk qk (.code JO.Str_checkIndex.yN JO.Str_checkIndex.yB 2 none)) (wks qk (.initialized JO.Str_checkIndex.yN.cls :: JO.Str_checkIndex.site))
  have ql := consq hk h
  have hl : LChA.tab.before a s = true := unparts (wk ql (.code LChA.yN LChA.yB 2 (some .char))) (wks ql (.initialized LChA.yN.cls :: LChA.site))
  have hi : IsL.tab.before a s = true := unparts (wk h (.code IsL.yN IsL.yB 1 (some .boolean))) (wks h (.initialized IsL.yN.cls :: IsL.site))
  have q := consq hi (consq hl h)
  exact unparts (wk q (.code ChN.yN ChN.yB 2 (some .char))) (wks q (.initialized ChN.yN.cls :: ChN.site))
theorem movedChN {Z s : State} {a0 args : Array Value} (hZ : Z.Warmed39 s.vm) (hw : ∀ d ∈ wordsChN, d.before a0 Z = true) : ∀ d ∈ wordsChN, d.before args s = true := fun d hd => by
  have t : ∀ d ∈ wordsChN, (d.onTables && d.keepsFace) = true := by decide +kernel
  exact RoadKit.mv hZ (hw d hd) (t d hd)
/-- **charAt(i) OF A LATIN-1 STRING**, i < n: the char -/
theorem chN {p : Program} {l : Launch} {e : Env} {R : Room} {s : State} {args : Array Value} {below : List Frame} {len W : Nat} {Z : State} {a0 : Array Value} {h : Heap} (hZ : Z.Warmed39 s.vm) (hw : ∀ d ∈ wordsChN, d.before a0 Z = true) {kI : Nat} (wi : (Jvm.Cond.instantiable ST kI).before a0 Z = true)
    {x t : Addr} {kb : ClassId} {cs : List Int32} {N2 z : Int32} {vs : List Value} {fm : Value} {i : Nat} {j : Int32} (E : RoadKit.Exa Z h x ST) (V : RoadKit.Fld Z h x ST "value" "[B" (.ref t)) (C : RoadKit.Fld Z h x ST "coder" "B" (.int 0)) (K : RoadKit.Arv Z h t kb .byte N2 vs (.int 0)) (hc : CodA cs 0 N2 vs) (hb : ∀ c ∈ cs, ¬ c < 0 ∧ ¬ (65535 : Int32) < c)
    (S : RoadKit.Sta Z h ST "COMPACT_STRINGS" "Z" (.int z)) (hz : ¬ z = 0) (F : RoadKit.Sta Z h "jdk/internal/util/Preconditions" "SIOOBE_FORMATTER" "Ljava/util/function/BiFunction;" fm) (rf : fm.isRef = true) (l2 : cs.length ≤ 4000) (hi : i < cs.length) (hj : j = Int32.ofNat i) (hfr : 4 ≤ R.frames) (hlo : W + 53 ≤ R.locals) :
    Back l R p e below s args (⟨"java/lang/String", "charAt", "(I)C"⟩ : MethodName) len W (fun P a => a = #[.ref x, .int j] ∧ P.U.heap = h ∧ P.cells + 0 ≤ R.cells ∧ P.slots + 0 ≤ R.slots)
      (fun P _ v B => ∃ L, (v = some (.int (cs.getD i 0)) ∧ L = [] ∧ B.U.heap = h) ∧ B.locs = P.locs ++ L ∧ B.cells = P.cells + 0 ∧ B.slots = P.slots + 0) := by
  subst hj
  intro m meth c P g ig mk a X hg hsize hdg hW hn hp'
  obtain ⟨rfl, rfl, r1, r2⟩ := hp'
  have al : Z.vm.Alike P.U.vm := hZ.alike.trans X.warmed.alike
  obtain ⟨A, hx⟩ := txt_of wi al E V C K hc hb l2
  obtain ⟨v, B, X', ⟨⟨hv, hh⟩, hl, hk, hs⟩, st⟩ := ChN.pays x t A cs.length (fun j => cs.getD j 0) z fm i (tabChN_of (movedChN hZ hw)) hfr hlo m meth c P g ig mk _ X hg hsize hdg hW hn ⟨r1, r2, rfl, hx, hi, sta_is al S, hz, sta_is al F, rf⟩
  exact ⟨v, B, X', ⟨[], ⟨hv, rfl, hh⟩, hl, hk, hs⟩, st⟩
/-- what backV says of its String, as the contracts of this text ask it: cs's low bytes, coder 0 -/
theorem codOf {cs : List Int32} {n : Nat} (hn : cs.length = n) (hb : ∀ c ∈ cs, ¬ 255 < c) : CodA cs 0 (Int32.ofNat n) ((cs.map lo8).map Value.int) := Or.inl ⟨rfl, by rw [hn], by simp [List.map_map, Function.comp_def], hb⟩
end StrChars.Road
end Jvm.Pilot.@@N@@
namespace Jvm.Pilot.@@N@@
open Jvm Jvm.ClassFile Sem Op Lib Jvm.Free Jvm.Stand Jvm.LawKit Jvm.RoadKit Bundle Jvm.Own Jvm.Pilot.@@N@@.Jvm.D
theorem own_pd0 : parseMethodDescriptor "([CIILjava/lang/Void;)V" = some ⟨[(.array .char), .int, .int, (.object "java/lang/Void")], none⟩ := by decide +kernel
theorem own_pd1 : parseMethodDescriptor "(I)Z" = some ⟨[.int], some .boolean⟩ := by decide +kernel
theorem own_pd2 : parseMethodDescriptor "(II)I" = some ⟨[.int, .int], some .int⟩ := by decide +kernel
theorem own_pd3 : parseMethodDescriptor "([BIII)I" = some ⟨[(.array .byte), .int, .int, .int], some .int⟩ := by decide +kernel
theorem own_pd4 : parseMethodDescriptor "()Z" = some ⟨[], some .boolean⟩ := by decide +kernel
theorem own_pd5 : parseMethodDescriptor "()I" = some ⟨[], some .int⟩ := by decide +kernel
theorem own_pd6 : parseMethodDescriptor "(I)I" = some ⟨[.int], some .int⟩ := by decide +kernel
theorem own_pd7 : parseMethodDescriptor "(I)[B" = some ⟨[.int], some (.array .byte)⟩ := by decide +kernel
theorem own_pd8 : parseMethodDescriptor "([BII)V" = some ⟨[(.array .byte), .int, .int], none⟩ := by decide +kernel
theorem own_pd9 : parseMethodDescriptor "([CI[BII)I" = some ⟨[(.array .char), .int, (.array .byte), .int, .int], some .int⟩ := by decide +kernel
theorem own_pd10 : parseMethodDescriptor "([CII)[B" = some ⟨[(.array .char), .int, .int], some (.array .byte)⟩ := by decide +kernel
theorem own_pd11 : parseMethodDescriptor "([BI)C" = some ⟨[(.array .byte), .int], some .char⟩ := by decide +kernel
theorem own_pd12 : parseMethodDescriptor "([BI)B" = some ⟨[(.array .byte), .int], some .byte⟩ := by decide +kernel
theorem own_pd13 : parseMethodDescriptor "(IILjava/util/function/BiFunction;)I" = some ⟨[.int, .int, (.object "java/util/function/BiFunction")], some .int⟩ := by decide +kernel
theorem own_pd14 : parseMethodDescriptor "([B)I" = some ⟨[(.array .byte)], some .int⟩ := by decide +kernel
theorem own_pd15 : parseMethodDescriptor "(II)V" = some ⟨[.int, .int], none⟩ := by decide +kernel
theorem own_pd16 : parseMethodDescriptor "(I[B)V" = some ⟨[.int, (.array .byte)], none⟩ := by decide +kernel
theorem own_pd17 : parseMethodDescriptor "(IIILjava/util/function/BiFunction;)I" = some ⟨[.int, .int, .int, (.object "java/util/function/BiFunction")], some .int⟩ := by decide +kernel
theorem own_pd18 : parseMethodDescriptor "(III)V" = some ⟨[.int, .int, .int], none⟩ := by decide +kernel
theorem own_pd19 : parseMethodDescriptor "(II[B)V" = some ⟨[.int, .int, (.array .byte)], none⟩ := by decide +kernel
theorem own_pd20 : parseMethodDescriptor "(I)C" = some ⟨[.int], some .char⟩ := by decide +kernel
theorem own_pd21 : parseMethodDescriptor "(C)Z" = some ⟨[.char], some .boolean⟩ := by decide +kernel
theorem own_pd22 : parseMethodDescriptor "([C)V" = some ⟨[(.array .char)], none⟩ := by decide +kernel
theorem own_pd23 : parseMethodDescriptor "(Ljava/lang/String;)V" = some ⟨[(.object "java/lang/String")], none⟩ := by decide +kernel
theorem own_pd24 : parseMethodDescriptor "(IC)V" = some ⟨[.int, .char], none⟩ := by decide +kernel
theorem own_pd25 : parseMethodDescriptor "()V" = some ⟨[], none⟩ := by decide +kernel
theorem own_pd26 : parseMethodDescriptor "([CII)I" = some ⟨[(.array .char), .int, .int], some .int⟩ := by decide +kernel
theorem own_pn0 : plainFor (⟨"java/lang/String", "<init>", "([CIILjava/lang/Void;)V"⟩ : MethodName) = true := by first | exact plainFor_of_name (by first | (simp [plainName, overriddenIn, x]; done) | decide +kernel) | decide +kernel
theorem own_pn1 : plainFor (⟨"java/lang/String", "<init>", "([C)V"⟩ : MethodName) = true := by first | exact plainFor_of_name (by first | (simp [plainName, overriddenIn, x]; done) | decide +kernel) | decide +kernel
theorem own_pn2 : plainFor (⟨"java/lang/Math", "max", "(II)I"⟩ : MethodName) = true := by first | exact plainFor_of_name (by first | (simp [plainName, overriddenIn, x]; done) | decide +kernel) | decide +kernel
theorem own_pn3 : plainFor (⟨"java/lang/Math", "min", "(II)I"⟩ : MethodName) = true := by first | exact plainFor_of_name (by first | (simp [plainName, overriddenIn, x]; done) | decide +kernel) | decide +kernel
theorem own_pn4 : plainFor (⟨"java/lang/StringLatin1", "canEncode", "(I)Z"⟩ : MethodName) = true := by first | exact plainFor_of_name (by first | (simp [plainName, overriddenIn, x]; done) | decide +kernel) | decide +kernel
theorem own_pn5 : plainFor (⟨"java/lang/String", "isLatin1", "()Z"⟩ : MethodName) = true := by first | exact plainFor_of_name (by first | (simp [plainName, overriddenIn, x]; done) | decide +kernel) | decide +kernel
theorem own_pn6 : plainFor (⟨"java/lang/StringLatin1", "indexOfChar", "([BIII)I"⟩ : MethodName) = true := by first | exact plainFor_of_name (by first | (simp [plainName, overriddenIn, x]; done) | decide +kernel) | decide +kernel
theorem own_pn7 : plainFor (⟨"java/lang/StringLatin1", "indexOf", "([BIII)I"⟩ : MethodName) = true := by first | exact plainFor_of_name (by first | (simp [plainName, overriddenIn, x]; done) | decide +kernel) | decide +kernel
theorem own_pn8 : plainFor (⟨"java/lang/String", "indexOf", "(II)I"⟩ : MethodName) = true := by first | exact plainFor_of_name (by first | (simp [plainName, overriddenIn, x]; done) | decide +kernel) | decide +kernel
theorem own_pn9 : plainFor (⟨"java/lang/StringUTF16", "length", "([B)I"⟩ : MethodName) = true := by first | exact plainFor_of_name (by first | (simp [plainName, overriddenIn, x]; done) | decide +kernel) | decide +kernel
theorem own_pn10 : plainFor (⟨"java/lang/StringUTF16", "getChar", "([BI)C"⟩ : MethodName) = true := by first | exact plainFor_of_name (by first | (simp [plainName, overriddenIn, x]; done) | decide +kernel) | decide +kernel
theorem own_pn11 : plainFor (⟨"java/lang/StringUTF16", "putChar", "([BII)V"⟩ : MethodName) = true := by first | exact plainFor_of_name (by first | (simp [plainName, overriddenIn, x]; done) | decide +kernel) | decide +kernel
theorem own_pn12 : plainFor (⟨"java/lang/StringUTF16", "newBytesLength", "(I)I"⟩ : MethodName) = true := by first | exact plainFor_of_name (by first | (simp [plainName, overriddenIn, x]; done) | decide +kernel) | decide +kernel
theorem own_pn13 : plainFor (⟨"java/lang/StringUTF16", "newBytesFor", "(I)[B"⟩ : MethodName) = true := by first | exact plainFor_of_name (by first | (simp [plainName, overriddenIn, x]; done) | decide +kernel) | decide +kernel
theorem own_pn14 : plainFor (⟨"java/lang/StringUTF16", "toBytes", "([CII)[B"⟩ : MethodName) = true := by first | exact plainFor_of_name (by first | (simp [plainName, overriddenIn, x]; done) | decide +kernel) | decide +kernel
theorem own_pn15 : plainFor (⟨"java/lang/StringUTF16", "compress", "([CI[BII)I"⟩ : MethodName) = true := by first | exact plainFor_of_name (by first | (simp [plainName, overriddenIn, x]; done) | decide +kernel) | decide +kernel
theorem own_pn16 : plainFor (⟨"java/lang/StringUTF16", "compress", "([CII)[B"⟩ : MethodName) = true := by first | exact plainFor_of_name (by first | (simp [plainName, overriddenIn, x]; done) | decide +kernel) | decide +kernel
theorem own_pn17 : plainFor (⟨"java/lang/StringUTF16", "coderFromArrayLen", "([BI)B"⟩ : MethodName) = true := by first | exact plainFor_of_name (by first | (simp [plainName, overriddenIn, x]; done) | decide +kernel) | decide +kernel
theorem own_pn18 : plainFor (⟨"jdk/internal/util/Preconditions", "checkIndex", "(IILjava/util/function/BiFunction;)I"⟩ : MethodName) = true := by first | exact plainFor_of_name (by first | (simp [plainName, overriddenIn, x]; done) | decide +kernel) | decide +kernel
theorem own_pn19 : plainFor (⟨"java/lang/String", "checkIndex", "(II)V"⟩ : MethodName) = true := by first | exact plainFor_of_name (by first | (simp [plainName, overriddenIn, x]; done) | decide +kernel) | decide +kernel
theorem own_pn20 : plainFor (⟨"java/lang/StringUTF16", "checkIndex", "(I[B)V"⟩ : MethodName) = true := by first | exact plainFor_of_name (by first | (simp [plainName, overriddenIn, x]; done) | decide +kernel) | decide +kernel
theorem own_pn21 : plainFor (⟨"java/lang/StringUTF16", "charAt", "([BI)C"⟩ : MethodName) = true := by first | exact plainFor_of_name (by first | (simp [plainName, overriddenIn, x]; done) | decide +kernel) | decide +kernel
theorem own_pn22 : plainFor (⟨"java/lang/String", "charAt", "(I)C"⟩ : MethodName) = true := by first | exact plainFor_of_name (by first | (simp [plainName, overriddenIn, x]; done) | decide +kernel) | decide +kernel
theorem own_pn23 : plainFor (⟨"jdk/internal/util/Preconditions", "checkFromToIndex", "(IIILjava/util/function/BiFunction;)I"⟩ : MethodName) = true := by first | exact plainFor_of_name (by first | (simp [plainName, overriddenIn, x]; done) | decide +kernel) | decide +kernel
theorem own_pn24 : plainFor (⟨"java/lang/String", "checkBoundsBeginEnd", "(III)V"⟩ : MethodName) = true := by first | exact plainFor_of_name (by first | (simp [plainName, overriddenIn, x]; done) | decide +kernel) | decide +kernel
theorem own_pn25 : plainFor (⟨"java/lang/StringUTF16", "checkBoundsBeginEnd", "(II[B)V"⟩ : MethodName) = true := by first | exact plainFor_of_name (by first | (simp [plainName, overriddenIn, x]; done) | decide +kernel) | decide +kernel
theorem own_pn26 : plainFor (⟨"java/lang/StringUTF16", "indexOfCharUnsafe", "([BIII)I"⟩ : MethodName) = true := by first | exact plainFor_of_name (by first | (simp [plainName, overriddenIn, x]; done) | decide +kernel) | decide +kernel
theorem own_pn27 : plainFor (⟨"java/lang/StringUTF16", "indexOfChar", "([BIII)I"⟩ : MethodName) = true := by first | exact plainFor_of_name (by first | (simp [plainName, overriddenIn, x]; done) | decide +kernel) | decide +kernel
theorem own_pn28 : plainFor (⟨"java/lang/StringUTF16", "indexOf", "([BIII)I"⟩ : MethodName) = true := by first | exact plainFor_of_name (by first | (simp [plainName, overriddenIn, x]; done) | decide +kernel) | decide +kernel
theorem own_pn29 : plainFor (⟨"com/example/halyard/halyard/HeaderParser", "<init>", "(Ljava/lang/String;)V"⟩ : MethodName) = true := by first | exact plainFor_of_name (by first | (simp [plainName, overriddenIn, x]; done) | decide +kernel) | decide +kernel
theorem own_pn30 : plainFor (⟨"com/example/halyard/halyard/HeaderParser", "atEnd", "()Z"⟩ : MethodName) = true := by first | exact plainFor_of_name (by first | (simp [plainName, overriddenIn, x]; done) | decide +kernel) | decide +kernel
theorem own_pn31 : plainFor (⟨"com/example/halyard/halyard/HeaderParser", "position", "()I"⟩ : MethodName) = true := by first | exact plainFor_of_name (by first | (simp [plainName, overriddenIn, x]; done) | decide +kernel) | decide +kernel
theorem own_pn32 : plainFor (⟨"com/example/halyard/halyard/HeaderParser", "skipFrom", "(IC)V"⟩ : MethodName) = true := by first | exact plainFor_of_name (by first | (simp [plainName, overriddenIn, x]; done) | decide +kernel) | decide +kernel
theorem own_pn33 : plainFor (⟨"com/example/halyard/halyard/HeaderParser", "skipWhitespace", "()V"⟩ : MethodName) = true := by first | exact plainFor_of_name (by first | (simp [plainName, overriddenIn, x]; done) | decide +kernel) | decide +kernel
theorem own_pn34 : plainFor (⟨"com/example/halyard/halyard/HeaderParserSkipWhitespacePinLaw", "ch", "(I)C"⟩ : MethodName) = true := by first | exact plainFor_of_name (by first | (simp [plainName, overriddenIn, x]; done) | decide +kernel) | decide +kernel
theorem own_pn35 : plainFor (⟨"com/example/halyard/halyard/HeaderParserSkipWhitespacePinLaw", "ws", "(C)Z"⟩ : MethodName) = true := by first | exact plainFor_of_name (by first | (simp [plainName, overriddenIn, x]; done) | decide +kernel) | decide +kernel
theorem own_pn36 : plainFor (⟨"com/example/halyard/halyard/HeaderParserSkipWhitespacePinLaw", "step", "([CII)I"⟩ : MethodName) = true := by first | exact plainFor_of_name (by first | (simp [plainName, overriddenIn, x]; done) | decide +kernel) | decide +kernel
theorem own_pn37 : plainFor x = true := by first | exact plainFor_of_name (by first | (simp [plainName, overriddenIn, x]; done) | decide +kernel) | decide +kernel
theorem al0 {α : Type} {P : α → Prop} : ∀ c ∈ ([] : List α), P c := fun _ q => nomatch q
theorem alS {α : Type} {P : α → Prop} {a : α} {L : List α} (q : P a) (r : ∀ c ∈ L, P c) : ∀ c ∈ a :: L, P c := fun c z => (List.mem_cons.mp z).elim (fun u => u ▸ q) (r c)
theorem ifc {P Q : Prop} [Decidable P] [Decidable Q] {a b : Int32} (h : P ↔ Q) : (if P then a else b) = (if Q then a else b) := by
  by_cases q : P
  · rw [if_pos q, if_pos (h.mp q)]
  · rw [if_neg q, if_neg (fun z => q (h.mpr z))]
theorem jn {A G : Prop} (h1 : A → G) (h2 : A) : G := h1 h2
/-- C (whose superclass is O, which has none) is no K -/
theorem notSub {Z : State} {a0 : Array Value} {C O K : String} {n : Nat} (w1 : (Jvm.Cond.superclass C O).before a0 Z = true) (w2 : (Jvm.Cond.noSuperclass O).before a0 Z = true) (w3 : (Jvm.Cond.instantiable K n).before a0 Z = true) (h1 : C ≠ K) (h2 : O ≠ K) : ∃ c t, Z.vm.findClass C = some c ∧ Z.vm.findClass K = some t ∧ Z.vm.assignable c t = false := by
  obtain ⟨c, hc⟩ := found_sup w1
  obtain ⟨q, k, kq, a1, a2, a3, a4, a5, a6, a7⟩ := Cond.superclass_spec hc w1
  obtain ⟨q', kq', b1, b2, b3, b4, b5⟩ := Cond.noSuperclass_spec w2
  cases a1.symm.trans b1
  cases a3.symm.trans b2
  obtain ⟨t, kt, d1, d2, d3, d4, -⟩ := Cond.instantiable_spec w3
  have n1 : c ≠ t := ids_ne hc d1 h1
  have n2 : q ≠ t := ids_ne b1 d1 h2
  have d5 : kt.isInterface = false := by
    cases hk : kt.isInterface with
    | false => rfl
    | true => rw [hk] at d4; simp at d4
  have s1 : ∀ fuel, Z.vm.isSubclassAux fuel q t = false := fun fuel => by
    cases fuel with
    | zero => rfl
    | succ f => simp [Vm.isSubclassAux, n2, b2, b3]
  have s2 : ∀ fuel, Z.vm.isSubclassAux fuel c t = false := fun fuel => by
    cases fuel with
    | zero => rfl
    | succ f => simp [Vm.isSubclassAux, n1, a2, a4, s1]
  refine ⟨c, t, hc, d1, ?_⟩
  show Z.vm.assignableAux (255 + 1) c t = false
  simp [Vm.assignableAux, n1, a2, d2, a5, d3, d5, Vm.isSubclass, s2]
theorem insNo {Z : State} {h : Heap} {a : Addr} {C K : String} (E : Exa Z h a C) (q : ∃ c t, Z.vm.findClass C = some c ∧ Z.vm.findClass K = some t ∧ Z.vm.assignable c t = false) : Ins Z h a K false := by
  obtain ⟨c, t, q1, q2, q3⟩ := q
  obtain ⟨cell, k, e1, e2, -⟩ := E
  cases q1.symm.trans e2
  exact ⟨cell, t, e1, q2, by simp [q3]⟩
section StrKit
variable {p : Program} {l : Launch} {e : Env} {R : Room} {s : State} {args : Array Value} {below : List Frame} {Z : State} {a0 : Array Value} {EL : List (String × Nat)} {kn : Prop} {ws : List Addr} {h h' : Heap} {a b x y : Addr} {cs ds : List Int32} {G1 : Int32} {W : Nat}
/-- a String and its chars -/
def Str (Z : State) (h : Heap) (a : Addr) (cs : List Int32) : Prop := ∃ (t : Addr) (kb : ClassId) (cd N : Int32) (vs : List Value), Exa Z h a "java/lang/String" ∧ Fld Z h a "java/lang/String" "value" "[B" (.ref t) ∧ Fld Z h a "java/lang/String" "coder" "B" (.int cd) ∧ Arv Z h t kb .byte N vs (.int 0) ∧ StrChars.Road.CodA cs cd N vs ∧ (∀ c ∈ cs, ¬ c < 0 ∧ ¬ (65535 : Int32) < c) ∧ cs.length ≤ 4000
theorem Str.ext (S : Str Z h a cs) (E : Ext h h') : Str Z h' a cs := by
  obtain ⟨t, kb, cd, N, vs, s1, s2, s3, s4, r⟩ := S
  exact ⟨t, kb, cd, N, vs, s1.ext E, s2.ext E, s3.ext E, s4.ext E, r⟩
theorem Str.exa (S : Str Z h a cs) : Exa Z h a "java/lang/String" := by obtain ⟨t, kb, cd, N, vs, s1, -⟩ := S; exact s1
theorem Str.lt (S : Str Z h a cs) : a < h.size := S.exa.lt
theorem Str.wr {C : String} {kI sl : Nat} {v : Value} (S : Str Z h a cs) (W : Wr h h' b sl v) (E : Exa Z h b C) (hC : C ≠ "java/lang/String") (wi : (Jvm.Cond.instantiable C kI).before a0 Z = true) : Str Z h' a cs := by
  obtain ⟨t, kb, cd, N, vs, s1, s2, s3, s4, r⟩ := S
  have n1 : a ≠ b := Exa.ne s1 E (Ne.symm hC)
  have n2 : t ≠ b := (Exa.neArv E s4 wi).symm
  exact ⟨t, kb, cd, N, vs, s1.wr W, s2.other W (Or.inl n1), s3.other W (Or.inl n1), s4.other W n2, r⟩
theorem arv_ty {t : Addr} {kb : ClassId} {N : Int32} {vs us : List Value} {dv : Value} {ty ty' : FieldType} (F : Arv Z h t kb ty' N vs dv) (A : Own.Ary Z h b ty us) (hty : ty' ≠ ty) : t ≠ b := fun q => by
  subst q
  obtain ⟨c1, ⟨e1, ⟨-, k1, f1, m1, g1⟩, -⟩, -⟩ := F
  obtain ⟨c2, ⟨e2, ⟨-, k2, f2, m2, g2⟩, -⟩, -⟩ := A
  cases e1.symm.trans e2
  cases f1.symm.trans f2
  have := g1.symm.trans g2
  injection this with _ r
  exact hty r
theorem Str.wrA {sl kI : Nat} {v : Value} {us : List Value} {ty : FieldType} (S : Str Z h a cs) (W : Wr h h' b sl v) (A : Own.Ary Z h b ty us) (hty : FieldType.byte ≠ ty) (wi : (Jvm.Cond.instantiable "java/lang/String" kI).before a0 Z = true) : Str Z h' a cs := by
  obtain ⟨t, kb, cd, N, vs, s1, s2, s3, s4, r⟩ := S
  obtain ⟨kc, A'⟩ := A.arv .null
  have n1 : a ≠ b := Exa.neArv s1 A' wi
  have n2 : t ≠ b := arv_ty s4 A hty
  exact ⟨t, kb, cd, N, vs, s1.wr W, s2.other W (Or.inl n1), s3.other W (Or.inl n1), s4.other W n2, r⟩
theorem Str.keep {C : String} {kI : Nat} (S : Str Z h a cs) (K : Keep h h' [b]) (E : Exa Z h b C) (hC : C ≠ "java/lang/String") (wi : (Jvm.Cond.instantiable C kI).before a0 Z = true) : Str Z h' a cs := by
  obtain ⟨t, kb, cd, N, vs, s1, s2, s3, s4, r⟩ := S
  have n1 : a ≠ b := Exa.ne s1 E (Ne.symm hC)
  have n2 : t ≠ b := (Exa.neArv E s4 wi).symm
  exact ⟨t, kb, cd, N, vs, s1.keep K, s2.keep K (ninS n1 nin0), s3.keep K (ninS n1 nin0), s4.keep K (ninS n2 nin0), r⟩
theorem newStrPay (hw : ∀ d ∈ tables_1, d.before a0 Z = true) (hEL : EW Z a0 EL) (O2 : Sta Z Z.heap "java/lang/String" "COMPACT_STRINGS" "Z" (.int G1)) (P5 : ¬ G1 = 0) (hE : Ext Z.heap h) {v0 c0 : Value} (hx0 : Z.heap.size ≤ x) (hx : x ∈ ws) (E : Exa Z h x "java/lang/String") (V : Fld Z h x "java/lang/String" "value" "[B" v0) (C : Fld Z h x "java/lang/String" "coder" "B" c0) {vs : List Value} (hvs : vs = cs.map Value.int) (A : Own.Ary Z h b .char vs)
    {n : Nat} (hn : cs.length = n) (h0 : 0 < n) (h4 : n ≤ 4000) (hp : ∀ c ∈ cs, ¬ c < 0 ∧ ¬ (255 : Int32) < c) (hfr : 4 ≤ R.frames) (hlo : W + 65 ≤ R.locals) :
    Own.Pay l R p e below s args Z EL kn ws ⟨"java/lang/String", "<init>", "([C)V"⟩ 3 W 1 n #[.ref x, .ref b] h (fun v h' ws' => v = none ∧ Keep h h' [x] ∧ Str Z h' x cs ∧ ws' = []) := by
  subst hvs
  obtain ⟨kc, K⟩ := A.arv (.int 0)
  rw [List.length_map] at K
  have hws : ∀ d ∈ StrChars.Road.words, d.before a0 Z = true := fun d hd => hw d ((by decide +kernel : ∀ d ∈ StrChars.Road.words, d ∈ tables_1) d hd)
  refine Own.Pay.of_back (Q0 := fun v h' L => StrChars.Road.QV Z x (Int32.ofNat n) (cs.map fun c => c.toInt8.toInt32) h Z.heap.size v h' L) hEL (fun vm0 hZ => StrChars.Road.backV (s := s.setVm vm0) hZ hws (kI := 4) (hw _ (List.mem_of_getElem? (i := 9) rfl)) (cs := cs) (n := n) hx0 hE.1 E V C (hn ▸ K) (O2.ext hE) P5 hn rfl h0 h4 hp rfl hfr hlo) (fun v h' L q => ?_)
  obtain ⟨q1, q2, q3, q4, q5, t, kb, -, -, -, q6, q7⟩ := q
  refine ⟨[x], [], q3, fun y hy => ?_, q2, ⟨q1, q3, ⟨t, kb, 0, _, _, q4, q6, q5, q7, ?_, fun c hc => ⟨(hp c hc).1, fun r => (hp c hc).2 ?_⟩, by omega⟩, rfl⟩, fun y hy => by cases hy⟩
  · cases List.mem_singleton.mp hy; exact ⟨hx, hx0⟩
  · exact StrChars.Road.codOf hn (fun c hc => (hp c hc).2)
  · rw [Int32.lt_iff_toInt_lt] at r ⊢; have e1 : (65535 : Int32).toInt = 65535 := rfl; have e2 : (255 : Int32).toInt = 255 := rfl; omega
theorem lenPay (hw : ∀ d ∈ tables_1, d.before a0 Z = true) (hEL : EW Z a0 EL) (O2 : Sta Z Z.heap "java/lang/String" "COMPACT_STRINGS" "Z" (.int G1)) (P5 : ¬ G1 = 0) (hE : Ext Z.heap h) (S : Str Z h x cs) (hfr : 2 ≤ R.frames) (hlo : W + 25 ≤ R.locals) :
    Own.Pay l R p e below s args Z EL kn ws ⟨"java/lang/String", "length", "()I"⟩ 3 W 0 0 #[.ref x] h (fun v h' ws' => v = some (.int (Int32.ofNat cs.length)) ∧ h' = h ∧ ws' = []) := by
  obtain ⟨t, kb, cd, N, vs, s1, s2, s3, s4, s5, s6, s7⟩ := S
  have hws : ∀ d ∈ StrChars.Road.wordsLen, d.before a0 Z = true := fun d hd => hw d ((by decide +kernel : ∀ d ∈ StrChars.Road.wordsLen, d ∈ tables_1) d hd)
  refine Own.Pay.of_back (Q0 := fun v h' L => v = some (.int (Int32.ofNat cs.length)) ∧ L = [] ∧ h' = h) hEL (fun vm0 hZ => StrChars.Road.lenW (s := s.setVm vm0) hZ hws (kI := 4) (hw _ (List.mem_of_getElem? (i := 9) rfl)) s1 s2 s3 s4 s5 s6 (O2.ext hE) P5 s7 hfr hlo) (fun v h' L q => ?_)
  obtain ⟨q1, rfl, rfl⟩ := q
  exact ⟨[], [], Keep.refl _ _, fun y hy => (by cases hy), Fr.nil _, ⟨q1, rfl, rfl⟩, fun y hy => by cases hy⟩
end StrKit

/-- (char) ((x >>> k) & 0xff), as it lies in a char[] -/
def chA (x k : Int32) : Int32 := nar .char ((((x.toUInt32 >>> (k &&& 31).toUInt32).toInt32) &&& (255 : Int32)).toUInt32.toUInt16.toUInt32.toInt32)
theorem nar_toInt (y : Int32) (h0 : 0 ≤ y.toInt) (h1 : y.toInt < 65536) : (nar .char y.toUInt32.toUInt16.toUInt32.toInt32).toInt = y.toInt := by
  have q1 := c_i2c y
  have q2 := c_i2c y.toUInt32.toUInt16.toUInt32.toInt32
  show (y.toUInt32.toUInt16.toUInt32.toInt32.toUInt32.toUInt16.toUInt32.toInt32).toInt = _
  omega
theorem chA_toInt (x k : Int32) (n : Nat) (hk : k.toBitVec.toNat % 32 = n) (h0 : 0 < n) : (chA x k).toInt = ((x.toInt % 4294967296) / (2 ^ n : Nat)) % 256 := by
  have q1 := c_mask ((x.toUInt32 >>> (k &&& 31).toUInt32).toInt32) 255 8 (by decide) (by decide)
  have q2 := c_iushr x k n hk h0
  rw [q2] at q1
  have q3 : ((2 ^ 8 : Nat) : Int) = 256 := by decide
  rw [q3] at q1
  unfold chA
  rw [nar_toInt _ (by rw [q1]; omega) (by rw [q1]; omega), q1]
theorem chA_ok (x k : Int32) (n : Nat) (hk : k.toBitVec.toNat % 32 = n) (h0 : 0 < n) : ¬ chA x k < 0 ∧ ¬ (255 : Int32) < chA x k := by
  have q := chA_toInt x k n hk h0
  have e0 : (0 : Int32).toInt = 0 := rfl
  have e1 : (255 : Int32).toInt = 255 := rfl
  rw [Int32.lt_iff_toInt_lt, Int32.lt_iff_toInt_lt, e0, e1, q]
  omega
/-- (char) (x & 0xff), as it lies in a char[] -/
def chB (x : Int32) : Int32 := nar .char ((x &&& (255 : Int32)).toUInt32.toUInt16.toUInt32.toInt32)
theorem chB_toInt (x : Int32) : (chB x).toInt = x.toInt % 256 := by
  have q1 := c_mask x 255 8 (by decide) (by decide)
  have q3 : ((2 ^ 8 : Nat) : Int) = 256 := by decide
  rw [q3] at q1
  unfold chB
  rw [nar_toInt _ (by rw [q1]; omega) (by rw [q1]; omega), q1]
theorem chB_ok (x : Int32) : ¬ chB x < 0 ∧ ¬ (255 : Int32) < chB x := by
  have q := chB_toInt x
  have e0 : (0 : Int32).toInt = 0 := rfl
  have e1 : (255 : Int32).toInt = 255 := rfl
  rw [Int32.lt_iff_toInt_lt, Int32.lt_iff_toInt_lt, e0, e1, q]
  omega
theorem and3_cases (y : Int32) : (y &&& (3 : Int32)) = (0 : Int32) ∨ (y &&& (3 : Int32)) = (1 : Int32) ∨ (y &&& (3 : Int32)) = (2 : Int32) ∨ (y &&& (3 : Int32)) = (3 : Int32) := by
  have q := c_mask y 3 2 (by decide) (by decide)
  simp only [← Int32.toInt_inj]
  have e0 : (0 : Int32).toInt = 0 := rfl
  have e1 : (1 : Int32).toInt = 1 := rfl
  have e2 : (2 : Int32).toInt = 2 := rfl
  have e3 : (3 : Int32).toInt = 3 := rfl
  have q3 : ((2 ^ 2 : Nat) : Int) = 4 := by decide
  rw [e0, e1, e2, e3, q, q3]
  omega

theorem on_lt {a b : Nat} (ha : a < 2 ^ 31) (hb : b < 2 ^ 31) : Int32.ofNat a < Int32.ofNat b ↔ a < b := by
  have e1 : (Int32.ofNat a).toInt = a := Int32.toInt_ofNat_of_lt (by omega)
  have e2 : (Int32.ofNat b).toInt = b := Int32.toInt_ofNat_of_lt (by omega)
  rw [Int32.lt_iff_toInt_lt, e1, e2]; omega
theorem on_eq {a b : Nat} (ha : a < 2 ^ 31) (hb : b < 2 ^ 31) : Int32.ofNat a = Int32.ofNat b ↔ a = b := by
  have e1 : (Int32.ofNat a).toInt = a := Int32.toInt_ofNat_of_lt (by omega)
  have e2 : (Int32.ofNat b).toInt = b := Int32.toInt_ofNat_of_lt (by omega)
  rw [← Int32.toInt_inj, e1, e2]; omega
theorem on_succ (a : Nat) : Int32.ofNat a + (1 : Int32) = Int32.ofNat (a + 1) := by
  rw [Int32.ofNat_add]; rfl
theorem on_nn {a : Nat} (ha : a < 2 ^ 31) : ¬ Int32.ofNat a < 0 := Own.nn32 ha
/-- the first place from i on (in the list that stands at i) where ch stands, or -1 -/
def ixF : List Int32 → Int32 → Nat → Int32
  | [], _, _ => (-1 : Int32)
  | c :: r, ch, i => if c = ch then Int32.ofNat i else ixF r ch (i + 1)
theorem ixF_cases : ∀ (l : List Int32) (ch : Int32) (i : Nat), (ixF l ch i = (-1 : Int32) ∧ ch ∉ l) ∨ ∃ j, j < l.length ∧ ixF l ch i = Int32.ofNat (i + j) ∧ ch ∈ l
  | [], ch, i => Or.inl ⟨rfl, by simp⟩
  | c :: r, ch, i => by
    by_cases q : c = ch
    · exact Or.inr ⟨0, by simp, by simp [ixF, q], by simp [q]⟩
    · rcases ixF_cases r ch (i + 1) with ⟨h1, h2⟩ | ⟨j, h1, h2, h3⟩
      · exact Or.inl ⟨by simp [ixF, q, h1], by simp [h2, Ne.symm q]⟩
      · exact Or.inr ⟨j + 1, by simp [h1], by simp only [ixF, q, if_false, h2]; congr 1; omega, by simp [h3]⟩
/-- where skipFrom comes to -/
def sfV (cs : List Int32) (st : Int32) (i : Nat) : Int32 := if ixF (cs.drop i) st i < 0 then Int32.ofNat cs.length else ixF (cs.drop i) st i
theorem neg1 : (-1 : Int32) < 0 := by decide
theorem sfV_end (cs : List Int32) (st : Int32) (hl : cs.length ≤ 4000) : sfV cs st 0 = Int32.ofNat cs.length ↔ st ∉ cs := by
  unfold sfV
  rw [List.drop_zero]
  rcases ixF_cases cs st 0 with ⟨h1, h2⟩ | ⟨j, h1, h2, h3⟩
  · rw [h1, if_pos neg1]; simp [h2]
  · rw [h2, if_neg (on_nn (by omega)), on_eq (by omega) (by omega)]
    constructor
    · intro z; omega
    · intro z; exact absurd h3 z
/-- how many chars of white space lead -/
def wsL : List Int32 → Nat
  | [] => 0
  | c :: r => if c = (32 : Int32) ∨ c = (9 : Int32) then wsL r + 1 else 0
theorem wsL_le : ∀ l : List Int32, wsL l ≤ l.length
  | [] => Nat.le_refl _
  | c :: r => by
    have := wsL_le r
    unfold wsL; split <;> simp <;> omega
theorem wsL_all : ∀ l : List Int32, wsL l = l.length ↔ ∀ c ∈ l, c = (32 : Int32) ∨ c = (9 : Int32)
  | [] => by simp [wsL]
  | c :: r => by
    have q := wsL_le r
    unfold wsL
    by_cases z : c = (32 : Int32) ∨ c = (9 : Int32)
    · rw [if_pos z]; simp [z, wsL_all r]
    · rw [if_neg z]; simp [z]
theorem drop_at {cs : List Int32} {i : Nat} (h : i < cs.length) : cs.drop i = cs.getD i 0 :: cs.drop (i + 1) := by
  rw [List.drop_eq_getElem_cons h]; simp [List.getD_eq_getElem?_getD, h]
theorem lo8_eq {c ch : Int32} (h1 : ¬ c < 0 ∧ ¬ (255 : Int32) < c) (h2 : ¬ ch < 0 ∧ ¬ (255 : Int32) < ch) : c.toInt8.toInt32 = ch.toInt8.toInt32 ↔ c = ch := by
  have q1 := c_i2b c; have q2 := c_i2b ch
  have e0 : (0 : Int32).toInt = 0 := rfl
  have e1 : (255 : Int32).toInt = 255 := rfl
  rw [Int32.lt_iff_toInt_lt, Int32.lt_iff_toInt_lt, e0, e1] at h1 h2
  rw [← Int32.toInt_inj, ← Int32.toInt_inj]
  omega
theorem nar_id {c : Int32} (h1 : ¬ c < 0 ∧ ¬ (65535 : Int32) < c) : nar .char c = c := by
  have q := c_i2c c
  have e0 : (0 : Int32).toInt = 0 := rfl
  have e1 : (65535 : Int32).toInt = 65535 := rfl
  rw [Int32.lt_iff_toInt_lt, Int32.lt_iff_toInt_lt, e0, e1] at h1
  rw [← Int32.toInt_inj]
  show (c.toUInt32.toUInt16.toUInt32.toInt32).toInt = _
  omega
theorem up16 {c : Int32} (h : ¬ c < 0 ∧ ¬ (255 : Int32) < c) : ¬ c < 0 ∧ ¬ (65535 : Int32) < c := ⟨h.1, fun r => h.2 (by
  rw [Int32.lt_iff_toInt_lt] at r ⊢; have e1 : (65535 : Int32).toInt = 65535 := rfl; have e2 : (255 : Int32).toInt = 255 := rfl; omega)⟩
/-- a String of Latin-1 chars: her bytes -/
theorem Str.latin {Z : State} {h : Heap} {a : Addr} {cs : List Int32} (S : Str Z h a cs) (hl : ∀ c ∈ cs, ¬ (255 : Int32) < c) : ∃ t, Exa Z h a "java/lang/String" ∧ Fld Z h a "java/lang/String" "value" "[B" (.ref t) ∧ Fld Z h a "java/lang/String" "coder" "B" (.int 0) ∧ Own.Ary Z h t .byte (cs.map fun c => Value.int c.toInt8.toInt32) := by
  obtain ⟨t, kb, cd, N, vs, s1, s2, s3, s4, s5, s6, s7⟩ := S
  rcases s5 with ⟨rfl, rfl, rfl, -⟩ | ⟨-, -, -, c, hc, hw⟩
  · refine ⟨t, s1, s2, s3, Own.Ary.of_arv s4 ?_ (by simp; omega)⟩
    rw [Own.n32 (by omega)]; simp
  · exact absurd hw (hl c hc)

theorem i2c_ok (y : Int32) : ¬ y.toUInt32.toUInt16.toUInt32.toInt32 < 0 ∧ ¬ (65535 : Int32) < y.toUInt32.toUInt16.toUInt32.toInt32 := by
  have q := c_i2c y
  have e0 : (0 : Int32).toInt = 0 := rfl
  have e1 : (65535 : Int32).toInt = 65535 := rfl
  rw [Int32.lt_iff_toInt_lt, Int32.lt_iff_toInt_lt, e0, e1]
  omega
def chV (x : Int32) : Int32 := if (x &&& (3 : Int32)) = (0 : Int32) then 32 else if (x &&& (3 : Int32)) = (1 : Int32) then 9 else ((x.toUInt32 >>> ((16 : Int32) &&& 31).toUInt32).toInt32).toUInt32.toUInt16.toUInt32.toInt32
theorem chV_ok (x : Int32) : ¬ chV x < 0 ∧ ¬ (65535 : Int32) < chV x := by
  unfold chV
  split
  · decide
  · split
    · decide
    · exact i2c_ok _
theorem rem_k (y m : Int32) (M : Nat) (hm : m.toInt = (M : Int)) (h0 : 0 < M) (h1 : M ≤ 8) : ∃ k, k < M ∧ (y &&& (7 : Int32)) % m = Int32.ofNat k := by
  have q := c_mask y 7 3 (by decide) (by decide)
  have r := (c_irem (y &&& (7 : Int32)) m M hm).1 (by rw [q]; omega)
  have b1 := Int.emod_nonneg (y &&& (7 : Int32)).toInt (show (M : Int) ≠ 0 by omega)
  have b2 := Int.emod_lt_of_pos (y &&& (7 : Int32)).toInt (show (0 : Int) < (M : Int) by omega)
  refine ⟨((y &&& (7 : Int32)).toInt % (M : Int)).toNat, by omega, ?_⟩
  have e1 : (Int32.ofNat ((y &&& (7 : Int32)).toInt % (M : Int)).toNat).toInt = ((y &&& (7 : Int32)).toInt % (M : Int)).toNat := Int32.toInt_ofNat_of_lt (by omega)
  rw [← Int32.toInt_inj, r, e1]
  omega
theorem len_cases (y : Int32) : (y &&& (7 : Int32)) % (5 : Int32) = (0 : Int32) ∨ (y &&& (7 : Int32)) % (5 : Int32) = (1 : Int32) ∨ (y &&& (7 : Int32)) % (5 : Int32) = (2 : Int32) ∨ (y &&& (7 : Int32)) % (5 : Int32) = (3 : Int32) ∨ (y &&& (7 : Int32)) % (5 : Int32) = (4 : Int32) := by
  obtain ⟨k, h, q⟩ := rem_k y 5 5 (by decide) (by decide) (by decide)
  rw [q]
  obtain rfl | rfl | rfl | rfl | rfl : k = 0 ∨ k = 1 ∨ k = 2 ∨ k = 3 ∨ k = 4 := by omega
  all_goals decide
def stepN (ds : List Int32) (n i : Nat) : Nat := if i < n ∧ (ds.getD i 0 = (32 : Int32) ∨ ds.getD i 0 = (9 : Int32)) then i + 1 else i
theorem step_le (ds : List Int32) (n i : Nat) (h : i ≤ n) : stepN ds n i ≤ n := by unfold stepN; split <;> omega
theorem take_getD {ds : List Int32} {n i : Nat} (h : i < n) : (ds.take n).getD i 0 = ds.getD i 0 := by
  rw [List.getD_eq_getElem?_getD, List.getD_eq_getElem?_getD, List.getElem?_take_of_lt h]
/-- one step does not change where the white space ends, and moves on unless it is there -/
theorem step_e (ds : List Int32) (n i : Nat) (hl : n ≤ ds.length) (h : i ≤ n) : stepN ds n i + wsL ((ds.take n).drop (stepN ds n i)) = i + wsL ((ds.take n).drop i) ∧ (stepN ds n i = i + 1 ∨ (stepN ds n i = i ∧ wsL ((ds.take n).drop i) = 0)) := by
  have hn : (ds.take n).length = n := by rw [List.length_take]; omega
  unfold stepN
  by_cases q : i < n ∧ (ds.getD i 0 = (32 : Int32) ∨ ds.getD i 0 = (9 : Int32))
  · rw [if_pos q]
    refine ⟨?_, Or.inl rfl⟩
    rw [drop_at (show i < (ds.take n).length by rw [hn]; exact q.1), wsL, take_getD q.1, if_pos q.2]
    omega
  · rw [if_neg q]
    refine ⟨rfl, Or.inr ⟨rfl, ?_⟩⟩
    by_cases z : i < n
    · rw [drop_at (show i < (ds.take n).length by rw [hn]; exact z), wsL, take_getD z, if_neg (fun r => q ⟨z, r⟩)]
    · rw [List.drop_eq_nil_of_le (by rw [hn]; omega)]; rfl
theorem step4 (ds : List Int32) (n i : Nat) (h4 : n ≤ 4) (hl : n ≤ ds.length) (h : i ≤ n) : stepN ds n (stepN ds n (stepN ds n (stepN ds n i))) = i + wsL ((ds.take n).drop i) := by
  have a1 := step_e ds n i hl h
  have b1 := step_le ds n i h
  obtain ⟨x1, g1⟩ : ∃ z, z = stepN ds n i := ⟨_, rfl⟩
  rw [← g1] at a1 b1 ⊢
  have a2 := step_e ds n x1 hl b1
  have b2 := step_le ds n x1 b1
  obtain ⟨x2, g2⟩ : ∃ z, z = stepN ds n x1 := ⟨_, rfl⟩
  rw [← g2] at a2 b2 ⊢
  have a3 := step_e ds n x2 hl b2
  have b3 := step_le ds n x2 b2
  obtain ⟨x3, g3⟩ : ∃ z, z = stepN ds n x2 := ⟨_, rfl⟩
  rw [← g3] at a3 b3 ⊢
  have a4 := step_e ds n x3 hl b3
  have b4 := step_le ds n x3 b3
  obtain ⟨x4, g4⟩ : ∃ z, z = stepN ds n x3 := ⟨_, rfl⟩
  rw [← g4] at a4 b4 ⊢
  have hn : (ds.take n).length = n := by rw [List.length_take]; omega
  have w1 := wsL_le ((ds.take n).drop x4)
  rw [List.length_drop, hn] at w1
  have w2 := wsL_le ((ds.take n).drop i)
  rw [List.length_drop, hn] at w2
  omega
theorem ws_idem : ∀ l : List Int32, wsL (l.drop (wsL l)) = 0
  | [] => rfl
  | c :: r => by
    by_cases z : c = (32 : Int32) ∨ c = (9 : Int32)
    · rw [wsL, if_pos z]; exact ws_idem r
    · rw [wsL, if_neg z]; show wsL (c :: r) = 0; rw [wsL, if_neg z]
theorem map_at (ds : List Int32) {i : Nat} (h : i < ds.length) : (ds.map Value.int)[i]? = some (.int (ds.getD i 0)) := by
  rw [List.getElem?_map, List.getD_eq_getElem?_getD, List.getElem?_eq_getElem h]; rfl
theorem ixF_self {cs : List Int32} {k : Nat} (h : k < cs.length) : ixF (cs.drop k) (cs.getD k 0) k = Int32.ofNat k := by
  rw [drop_at h, ixF, if_pos rfl]
theorem sfV_self {cs : List Int32} {k : Nat} (hl : cs.length ≤ 4000) (h : k < cs.length) : sfV cs (cs.getD k 0) k = Int32.ofNat k := by
  unfold sfV; rw [ixF_self h, if_neg (on_nn (by omega))]
theorem sfV_all {cs : List Int32} {k : Nat} (st : Int32) (h : k = cs.length) : sfV cs st k = Int32.ofNat k := by
  unfold sfV; rw [List.drop_eq_nil_of_le (by omega), ixF, if_pos neg1, h]

theorem chPay {p : Program} {l : Launch} {e : Env} {R : Room} {s : State} {args : Array Value} {below : List Frame} {Z : State} {a0 : Array Value} {EL : List (String × Nat)} {kn : Prop} {ws : List Addr} {h : Heap} {x : Addr} {cs : List Int32} {G1 : Int32} {G3 : Value} {W i : Nat} {j : Int32} (hw : ∀ d ∈ tables_1, d.before a0 Z = true) (hEL : EW Z a0 EL) (O2 : Sta Z Z.heap "java/lang/String" "COMPACT_STRINGS" "Z" (.int G1)) (P5 : ¬ G1 = 0) (O4 : Sta Z Z.heap "jdk/internal/util/Preconditions" "SIOOBE_FORMATTER" "Ljava/util/function/BiFunction;" G3) (rG3 : G3.isRef = true) (hE : Ext Z.heap h) (S : Str Z h x cs) (hl : ∀ c ∈ cs, ¬ (255 : Int32) < c) (hi : i < cs.length) (hj : j = Int32.ofNat i) (hfr : 4 ≤ R.frames) (hlo : W + 53 ≤ R.locals) :
    Own.Pay l R p e below s args Z EL kn ws ⟨"java/lang/String", "charAt", "(I)C"⟩ 3 W 0 0 #[.ref x, .int j] h (fun v h' ws' => v = some (.int (cs.getD i 0)) ∧ h' = h ∧ ws' = []) := by
  obtain ⟨t, kb, cd, N, vs, s1, s2, s3, s4, s5, s6, s7⟩ := S
  have hws : ∀ d ∈ StrChars.Road.wordsChN, d.before a0 Z = true := fun d hd => hw d ((by decide +kernel : ∀ d ∈ StrChars.Road.wordsChN, d ∈ tables_1) d hd)
  have hcd : cd = 0 := by
    rcases s5 with ⟨q, -⟩ | ⟨-, -, -, c, hc, hw'⟩
    · exact q
    · exact absurd hw' (hl c hc)
  subst hcd
  refine Own.Pay.of_back (Q0 := fun v h' L => v = some (.int (cs.getD i 0)) ∧ L = [] ∧ h' = h) hEL (fun vm0 hZ => StrChars.Road.chN (s := s.setVm vm0) hZ hws (kI := 4) (hw _ (List.mem_of_getElem? (i := 9) rfl)) s1 s2 s3 s4 s5 s6 (O2.ext hE) P5 (O4.ext hE) rG3 s7 hi hj hfr hlo) (fun v h' L q => ?_)
  obtain ⟨q1, rfl, rfl⟩ := q
  exact ⟨[], [], Keep.refl _ _, fun y hy => (by cases hy), Fr.nil _, ⟨q1, rfl, rfl⟩, fun y hy => by cases hy⟩
theorem d3_0 : decode jdk_42_method_149_code 0 = .ok (.aload_n 0, 1) := by decide +kernel
theorem d3_1 : decode jdk_42_method_149_code 1 = .ok (.invokespecial 1, 3) := by decide +kernel
theorem d3_4 : decode jdk_42_method_149_code 4 = .ok (.iload_n 3, 1) := by decide +kernel
theorem d3_5 : decode jdk_42_method_149_code 5 = .ok (.ifCond .ne 22, 3) := by decide +kernel
theorem d3_8 : decode jdk_42_method_149_code 8 = .ok (.aload_n 0, 1) := by decide +kernel
theorem d3_9 : decode jdk_42_method_149_code 9 = .ok (.ldc 7, 2) := by decide +kernel
theorem d3_11 : decode jdk_42_method_149_code 11 = .ok (.getfield 9, 3) := by decide +kernel
theorem d3_14 : decode jdk_42_method_149_code 14 = .ok (.putfield 9, 3) := by decide +kernel
theorem d3_17 : decode jdk_42_method_149_code 17 = .ok (.aload_n 0, 1) := by decide +kernel
theorem d3_18 : decode jdk_42_method_149_code 18 = .ok (.ldc 7, 2) := by decide +kernel
theorem d3_20 : decode jdk_42_method_149_code 20 = .ok (.getfield 15, 3) := by decide +kernel
theorem d3_23 : decode jdk_42_method_149_code 23 = .ok (.putfield 15, 3) := by decide +kernel
theorem d3_26 : decode jdk_42_method_149_code 26 = .ok (.return_, 1) := by decide +kernel
theorem d2_0 : decode jdk_42_method_3_code 0 = .ok (.aload_n 0, 1) := by decide +kernel
theorem d2_1 : decode jdk_42_method_3_code 1 = .ok (.aload_n 1, 1) := by decide +kernel
theorem d2_2 : decode jdk_42_method_3_code 2 = .ok (.iconst 0, 1) := by decide +kernel
theorem d2_3 : decode jdk_42_method_3_code 3 = .ok (.aload_n 1, 1) := by decide +kernel
theorem d2_4 : decode jdk_42_method_3_code 4 = .ok (.arraylength, 1) := by decide +kernel
theorem d2_5 : decode jdk_42_method_3_code 5 = .ok (.aconst_null, 1) := by decide +kernel
theorem d2_6 : decode jdk_42_method_3_code 6 = .ok (.invokespecial 27, 3) := by decide +kernel
theorem d2_9 : decode jdk_42_method_3_code 9 = .ok (.return_, 1) := by decide +kernel
theorem ef_sI2 (m : MethodId) (x : Addr) (b : Addr) (z2 : Int32) (z3 : Int32) : entryFrame m #[(.ref x), (.ref b), (.int z2), (.int z3), .null] 6 = mkF m 0 #[.val (.ref x), .val (.ref b), .val (.int z2), .val (.int z3), .val .null, .unset] [] := by first | (simp [entryFrame, mkF, argsToLocals, Value.category]; done) | rfl
set_option maxRecDepth 65536 in
set_option maxHeartbeats 40000000 in
theorem sI2 (l : Launch) (Z : State) (a0 : Array Value) (hw : ∀ d ∈ tables_1, d.before a0 Z = true) (hEL : EW Z a0 consts_1) (x : Addr) (b : Addr) (z2 : Int32) (z3 : Int32) (h : Heap) (hE : Ext Z.heap h) (g_x : Z.heap.size ≤ x) (E_x : Exa Z h x "java/lang/String") (F_x_value : Fld Z h x "java/lang/String" "value" "[B" .null) (F_x_coder : Fld Z h x "java/lang/String" "coder" "B" (.int (0 : Int32))) (hz3 : z3 = (0 : Int32)) :
    Con l Z consts_1 False (⟨"java/lang/String", "<init>", "([CIILjava/lang/Void;)V"⟩ : MethodName) jdk_42_method_149_code 6 none ({ frames := 1, cells := 4, slots := 8, locals := 12 } : Room) [x] #[(.ref x), (.ref b), (.int z2), (.int z3), .null] h (fun v h' ws' => v = none ∧ Keep h h' [x] ∧ Str Z h' x [] ∧ ws' = []) := by
  refine Con.intro own_pn0 (fun p e s m below meth c T X => ?_)
  rw [ef_sI2 m x b z2 z3]
  have K_ : Keep h h [x] := Keep.refl _ _
  refine s_aloadN X (pc' := 1) d3_0 rfl rfl rfl ?_
  refine s_initO X (pc' := 4) (W := 0) d3_1 (hw _ (List.mem_of_getElem? (i := 18) rfl)) (hw _ (List.mem_of_getElem? (i := 19) rfl)) (b' := object_method_1_code) rfl (hw _ (List.mem_of_getElem? (i := 20) rfl)) (Nat.le_of_ble_eq_true rfl) (by decide) (by decide) rfl rfl (fun T X => ?_)
  refine s_iloadN X (pc' := 5) d3_4 rfl rfl ?_
  refine s_ifF X (pc' := 8) d3_5 hz3 rfl ?_
  refine s_aloadN X (pc' := 9) d3_8 rfl rfl rfl ?_
  refine s_ldcS X (pc' := 11) (k' := 2) (n' := 4) (nn := 0) (vs := []) (z := (0 : Int32)) hEL d3_9 (hw _ (List.mem_of_getElem? (i := 21) rfl)) (fun d hd => hw d ((by decide +kernel : ∀ d ∈ Bundle.stringAtoms, d ∈ tables_1) d hd)) (by simp [consts_1]) (by decide) (by decide) (by decide) (by decide) (by decide) (by decide) (by decide) (by decide) (by decide) rfl (fun T h1 a1 b1 kc_b1 X' E2 E_a1 F_a1_coder F_a1_value V_b1 nw_ => ?_)
  replace E_x := E_x.ext E2
  replace F_x_value := F_x_value.ext E2
  replace F_x_coder := F_x_coder.ext E2
  replace K_ := K_.ext E2
  replace X := X'
  have ne_x_a1 : x ≠ a1 := (nw_ x (by simp)).1
  have ne_x_b1 : x ≠ b1 := (nw_ x (by simp)).2
  refine s_getf X (pc' := 14) d3_11 (hw _ (List.mem_of_getElem? (i := 27) rfl)) Via.refl F_a1_value rfl (fun T X => ?_)
  refine s_putf X (pc' := 17) d3_14 (hw _ (List.mem_of_getElem? (i := 27) rfl)) Via.refl F_x_value E_x (Or.inr ⟨(hw _ (List.mem_of_getElem? (i := 23) rfl)), rfl, rfl⟩) (hw _ (List.mem_of_getElem? (i := 9) rfl)) (ty := (.array .byte)) (by decide) rfl rfl g_x (by simp) rfl (fun T h3 X W4 => ?_)
  replace F_x_value := F_x_value.same W4
  replace F_x_coder := F_x_coder.other W4 (Or.inr (slot_ne (Or.inr (hw _ (List.mem_of_getElem? (i := 24) rfl))) (Or.inr (hw _ (List.mem_of_getElem? (i := 23) rfl))) (t := .byte) (t' := (.array .byte)) (by decide) (by decide) (by decide)))
  replace F_a1_coder := F_a1_coder.other W4 (Or.inl ne_x_a1.symm)
  replace F_a1_value := F_a1_value.other W4 (Or.inl ne_x_a1.symm)
  replace V_b1 := V_b1.other W4 ne_x_b1.symm
  replace E_x := E_x.wr W4
  replace E_a1 := E_a1.wr W4
  replace K_ := K_.wr W4 (Or.inl (by simp))
  refine s_aloadN X (pc' := 18) d3_17 rfl rfl rfl ?_
  refine s_ldcS X (pc' := 20) (k' := 4) (n' := 8) (nn := 0) (vs := []) (z := (0 : Int32)) hEL d3_18 (hw _ (List.mem_of_getElem? (i := 21) rfl)) (fun d hd => hw d ((by decide +kernel : ∀ d ∈ Bundle.stringAtoms, d ∈ tables_1) d hd)) (by simp [consts_1]) (by decide) (by decide) (by decide) (by decide) (by decide) (by decide) (by decide) (by decide) (by decide) rfl (fun T h5 a2 b2 kc_b2 X' E6 E_a2 F_a2_coder F_a2_value V_b2 nw_ => ?_)
  replace E_x := E_x.ext E6
  replace E_a1 := E_a1.ext E6
  replace F_x_value := F_x_value.ext E6
  replace F_x_coder := F_x_coder.ext E6
  replace F_a1_coder := F_a1_coder.ext E6
  replace F_a1_value := F_a1_value.ext E6
  replace V_b1 := V_b1.ext E6
  replace K_ := K_.ext E6
  replace X := X'
  have ne_x_a2 : x ≠ a2 := (nw_ x (by simp)).1
  have ne_x_b2 : x ≠ b2 := (nw_ x (by simp)).2
  refine s_getf X (pc' := 23) d3_20 (hw _ (List.mem_of_getElem? (i := 28) rfl)) Via.refl F_a2_coder rfl (fun T X => ?_)
  refine s_putf X (pc' := 26) d3_23 (hw _ (List.mem_of_getElem? (i := 28) rfl)) Via.refl F_x_coder E_x (Or.inr ⟨(hw _ (List.mem_of_getElem? (i := 24) rfl)), rfl, rfl⟩) (hw _ (List.mem_of_getElem? (i := 9) rfl)) (ty := .byte) (by decide) rfl rfl g_x (by simp) rfl (fun T h7 X W8 => ?_)
  replace F_x_value := F_x_value.other W8 (Or.inr (slot_ne (Or.inr (hw _ (List.mem_of_getElem? (i := 23) rfl))) (Or.inr (hw _ (List.mem_of_getElem? (i := 24) rfl))) (t := (.array .byte)) (t' := .byte) (by decide) (by decide) (by decide)))
  replace F_x_coder := F_x_coder.same W8
  replace F_a1_coder := F_a1_coder.other W8 (Or.inl ne_x_a1.symm)
  replace F_a1_value := F_a1_value.other W8 (Or.inl ne_x_a1.symm)
  replace F_a2_coder := F_a2_coder.other W8 (Or.inl ne_x_a2.symm)
  replace F_a2_value := F_a2_value.other W8 (Or.inl ne_x_a2.symm)
  replace V_b1 := V_b1.other W8 ne_x_b1.symm
  replace V_b2 := V_b2.other W8 ne_x_b2.symm
  replace E_x := E_x.wr W8
  replace E_a1 := E_a1.wr W8
  replace E_a2 := E_a2.wr W8
  replace K_ := K_.wr W8 (Or.inl (by simp))
  exact s_ret X hEL (ws' := []) d3_26 (by decide) (by decide) (fun x q => by simp at q) ⟨rfl, K_, ⟨b1, kc_b1, 0, 0, [], E_x, F_x_value, F_x_coder, V_b1, Or.inl ⟨rfl, rfl, rfl, (by simp)⟩, (by simp), (by simp)⟩, rfl⟩
theorem ef_sI1 (m : MethodId) (x : Addr) (b : Addr) : entryFrame m #[(.ref x), (.ref b)] 2 = mkF m 0 #[.val (.ref x), .val (.ref b)] [] := by first | (simp [entryFrame, mkF, argsToLocals, Value.category]; done) | rfl
set_option maxRecDepth 65536 in
set_option maxHeartbeats 40000000 in
theorem sI1 (l : Launch) (Z : State) (a0 : Array Value) (hw : ∀ d ∈ tables_1, d.before a0 Z = true) (hEL : EW Z a0 consts_1) (x : Addr) (b : Addr) (h : Heap) (hE : Ext Z.heap h) (g_x : Z.heap.size ≤ x) (E_x : Exa Z h x "java/lang/String") (F_x_value : Fld Z h x "java/lang/String" "value" "[B" .null) (F_x_coder : Fld Z h x "java/lang/String" "coder" "B" (.int (0 : Int32))) (A_b : Ary Z h b .char []) :
    Con l Z consts_1 False (⟨"java/lang/String", "<init>", "([C)V"⟩ : MethodName) jdk_42_method_3_code 2 none ({ frames := 2, cells := 4, slots := 8, locals := 29 } : Room) [x] #[(.ref x), (.ref b)] h (fun v h' ws' => v = none ∧ Keep h h' [x] ∧ Str Z h' x [] ∧ ws' = []) := by
  refine Con.intro own_pn1 (fun p e s m below meth c T X => ?_)
  rw [ef_sI1 m x b]
  refine s_aloadN X (pc' := 1) d2_0 rfl rfl rfl ?_
  refine s_aloadN X (pc' := 2) d2_1 rfl rfl rfl ?_
  refine s_iconst X (pc' := 3) d2_2 (v := (0 : Int32)) rfl rfl ?_
  refine s_aloadN X (pc' := 4) d2_3 rfl rfl rfl ?_
  refine s_alen X (pc' := 5) (z := (0 : Int32)) d2_4 A_b rfl rfl ?_
  refine s_aconst X (pc' := 6) d2_5 rfl ?_
  refine s_special X (pc' := 9) (W := 0) (as' := [(.ref b), (.int (0 : Int32)), (.int (0 : Int32)), .null]) (S := []) (k' := 4) (n' := 8) d2_6 rfl (hw _ (List.mem_of_getElem? (i := 14) rfl)) (hw _ (List.mem_of_getElem? (i := 15) rfl)) (hw _ (List.mem_of_getElem? (i := 17) rfl)) (by decide) own_pd0 rfl ((sI2 l Z a0 hw hEL x b (0 : Int32) (0 : Int32) h hE g_x E_x F_x_value F_x_coder rfl).payS (by simp) (hw _ (List.mem_of_getElem? (i := 17) rfl)) (hw _ (List.mem_of_getElem? (i := 10) rfl)) hEL (by decide) (by decide)) (Nat.le_of_ble_eq_true rfl) rfl rfl (by decide) (by decide) (by decide) (by decide) rfl (fun T h9 v_ ws_ X hgr_ q10 => ?_)
  obtain ⟨rfl, K_, S_, rfl⟩ := q10
  show Go p e below _ T (mkF m 9 #[.val (.ref x), .val (.ref b)] [])
  replace X := X.sub (ws' := [x]) (by simp)
  exact s_ret X hEL (ws' := []) d2_9 (by decide) (by decide) (fun x q => by simp at q) ⟨rfl, K_, S_, rfl⟩
theorem d13_0 : decode jdk_29_method_65_code 0 = .ok (.iload_n 0, 1) := by decide +kernel
theorem d13_1 : decode jdk_29_method_65_code 1 = .ok (.iload_n 1, 1) := by decide +kernel
theorem d13_2 : decode jdk_29_method_65_code 2 = .ok (.if_icmp .lt 7, 3) := by decide +kernel
theorem d13_5 : decode jdk_29_method_65_code 5 = .ok (.iload_n 0, 1) := by decide +kernel
theorem d13_6 : decode jdk_29_method_65_code 6 = .ok (.goto 4, 3) := by decide +kernel
theorem d13_9 : decode jdk_29_method_65_code 9 = .ok (.iload_n 1, 1) := by decide +kernel
theorem d13_10 : decode jdk_29_method_65_code 10 = .ok (.ireturn, 1) := by decide +kernel
theorem ef_own_max (m : MethodId) (x : Int32) (y : Int32) : entryFrame m #[(.int x), (.int y)] 2 = mkF m 0 #[.val (.int x), .val (.int y)] [] := by first | (simp [entryFrame, mkF, argsToLocals, Value.category]; done) | rfl
set_option maxRecDepth 65536 in
set_option maxHeartbeats 40000000 in
theorem own_max (l : Launch) (Z : State) (a0 : Array Value) (hw : ∀ d ∈ tables_1, d.before a0 Z = true) (hEL : EW Z a0 consts_1) (x : Int32) (y : Int32) (h : Heap) :
    Con l Z consts_1 False (⟨"java/lang/Math", "max", "(II)I"⟩ : MethodName) jdk_29_method_65_code 2 (some .int) ({ frames := 0, cells := 0, slots := 0, locals := 0 } : Room) [] #[(.int x), (.int y)] h (fun v h' ws' => v = some (.int (if x < y then y else x)) ∧ h' = h ∧ ws' = []) := by
  refine Con.intro own_pn2 (fun p e s m below meth c T X => ?_)
  rw [ef_own_max m x y]
  refine s_iloadN X (pc' := 1) d13_0 rfl rfl ?_
  refine s_iloadN X (pc' := 2) d13_1 rfl rfl ?_
  refine s_icmp X (pc' := 9) (pcF := 5) d13_2 (by decide) (by decide) rfl (fun (q : x < y) => ?_) (fun (q : ¬ x < y) => ?_)
  · refine s_iloadN X (pc' := 10) d13_9 rfl rfl ?_
    exact s_iret X hEL (ws' := []) d13_10 (by decide) (by decide) (fun x q => by simp at q) ⟨by rw [if_pos q], rfl, rfl⟩
  · refine s_iloadN X (pc' := 6) d13_5 rfl rfl ?_
    refine s_goto X (pc' := 10) d13_6 (by decide) (by decide) ?_
    exact s_iret X hEL (ws' := []) d13_10 (by decide) (by decide) (fun x q => by simp at q) ⟨by rw [if_neg q], rfl, rfl⟩
theorem d14_0 : decode jdk_29_method_69_code 0 = .ok (.iload_n 0, 1) := by decide +kernel
theorem d14_1 : decode jdk_29_method_69_code 1 = .ok (.iload_n 1, 1) := by decide +kernel
theorem d14_2 : decode jdk_29_method_69_code 2 = .ok (.if_icmp .gt 7, 3) := by decide +kernel
theorem d14_5 : decode jdk_29_method_69_code 5 = .ok (.iload_n 0, 1) := by decide +kernel
theorem d14_6 : decode jdk_29_method_69_code 6 = .ok (.goto 4, 3) := by decide +kernel
theorem d14_9 : decode jdk_29_method_69_code 9 = .ok (.iload_n 1, 1) := by decide +kernel
theorem d14_10 : decode jdk_29_method_69_code 10 = .ok (.ireturn, 1) := by decide +kernel
theorem ef_own_min (m : MethodId) (x : Int32) (y : Int32) : entryFrame m #[(.int x), (.int y)] 2 = mkF m 0 #[.val (.int x), .val (.int y)] [] := by first | (simp [entryFrame, mkF, argsToLocals, Value.category]; done) | rfl
set_option maxRecDepth 65536 in
set_option maxHeartbeats 40000000 in
theorem own_min (l : Launch) (Z : State) (a0 : Array Value) (hw : ∀ d ∈ tables_1, d.before a0 Z = true) (hEL : EW Z a0 consts_1) (x : Int32) (y : Int32) (h : Heap) :
    Con l Z consts_1 False (⟨"java/lang/Math", "min", "(II)I"⟩ : MethodName) jdk_29_method_69_code 2 (some .int) ({ frames := 0, cells := 0, slots := 0, locals := 0 } : Room) [] #[(.int x), (.int y)] h (fun v h' ws' => v = some (.int (if y < x then y else x)) ∧ h' = h ∧ ws' = []) := by
  refine Con.intro own_pn3 (fun p e s m below meth c T X => ?_)
  rw [ef_own_min m x y]
  refine s_iloadN X (pc' := 1) d14_0 rfl rfl ?_
  refine s_iloadN X (pc' := 2) d14_1 rfl rfl ?_
  refine s_icmp X (pc' := 9) (pcF := 5) d14_2 (by decide) (by decide) rfl (fun (q : y < x) => ?_) (fun (q : ¬ y < x) => ?_)
  · refine s_iloadN X (pc' := 10) d14_9 rfl rfl ?_
    exact s_iret X hEL (ws' := []) d14_10 (by decide) (by decide) (fun x q => by simp at q) ⟨by rw [if_pos q], rfl, rfl⟩
  · refine s_iloadN X (pc' := 6) d14_5 rfl rfl ?_
    refine s_goto X (pc' := 10) d14_6 (by decide) (by decide) ?_
    exact s_iret X hEL (ws' := []) d14_10 (by decide) (by decide) (fun x q => by simp at q) ⟨by rw [if_neg q], rfl, rfl⟩
theorem d12_0 : decode jdk_43_method_4_code 0 = .ok (.iload_n 0, 1) := by decide +kernel
theorem d12_1 : decode jdk_43_method_4_code 1 = .ok (.ifCond .lt 14, 3) := by decide +kernel
theorem d12_4 : decode jdk_43_method_4_code 4 = .ok (.iload_n 0, 1) := by decide +kernel
theorem d12_5 : decode jdk_43_method_4_code 5 = .ok (.sipush 255, 3) := by decide +kernel
theorem d12_8 : decode jdk_43_method_4_code 8 = .ok (.if_icmp .gt 7, 3) := by decide +kernel
theorem d12_11 : decode jdk_43_method_4_code 11 = .ok (.iconst 1, 1) := by decide +kernel
theorem d12_12 : decode jdk_43_method_4_code 12 = .ok (.goto 4, 3) := by decide +kernel
theorem d12_15 : decode jdk_43_method_4_code 15 = .ok (.iconst 0, 1) := by decide +kernel
theorem d12_16 : decode jdk_43_method_4_code 16 = .ok (.ireturn, 1) := by decide +kernel
theorem ef_own_can (m : MethodId) (x : Int32) : entryFrame m #[(.int x)] 1 = mkF m 0 #[.val (.int x)] [] := by first | (simp [entryFrame, mkF, argsToLocals, Value.category]; done) | rfl
set_option maxRecDepth 65536 in
set_option maxHeartbeats 40000000 in
theorem own_can (l : Launch) (Z : State) (a0 : Array Value) (hw : ∀ d ∈ tables_1, d.before a0 Z = true) (hEL : EW Z a0 consts_1) (x : Int32) (h : Heap) :
    Con l Z consts_1 False (⟨"java/lang/StringLatin1", "canEncode", "(I)Z"⟩ : MethodName) jdk_43_method_4_code 1 (some .boolean) ({ frames := 0, cells := 0, slots := 0, locals := 0 } : Room) [] #[(.int x)] h (fun v h' ws' => v = some (.int (if ¬ x < 0 ∧ ¬ (255 : Int32) < x then 1 else 0)) ∧ h' = h ∧ ws' = []) := by
  refine Con.intro own_pn4 (fun p e s m below meth c T X => ?_)
  rw [ef_own_can m x]
  refine s_iloadN X (pc' := 1) d12_0 rfl rfl ?_
  refine s_if X (pc' := 15) (pcF := 4) d12_1 (by decide) (by decide) rfl (fun (q1 : x < (0 : Int32)) => ?_) (fun (q1 : ¬ x < (0 : Int32)) => ?_)
  · refine s_iconst X (pc' := 16) d12_15 (v := (0 : Int32)) rfl rfl ?_
    exact s_iretN X hEL (ws' := []) (t := .boolean) d12_16 rfl (by simp) (by decide) (by decide) (fun x q => by simp at q) ⟨by rw [if_neg (fun z => z.1 q1)]; rfl, rfl, rfl⟩
  · refine s_iloadN X (pc' := 5) d12_4 rfl rfl ?_
    refine s_sipush X (pc' := 8) d12_5 (v := (255 : Int32)) (by decide) rfl ?_
    refine s_icmp X (pc' := 15) (pcF := 11) d12_8 (by decide) (by decide) rfl (fun (q2 : (255 : Int32) < x) => ?_) (fun (q2 : ¬ (255 : Int32) < x) => ?_)
    · refine s_iconst X (pc' := 16) d12_15 (v := (0 : Int32)) rfl rfl ?_
      exact s_iretN X hEL (ws' := []) (t := .boolean) d12_16 rfl (by simp) (by decide) (by decide) (fun x q => by simp at q) ⟨by rw [if_neg (fun z => z.2 q2)]; rfl, rfl, rfl⟩
    · refine s_iconst X (pc' := 12) d12_11 (v := (1 : Int32)) rfl rfl ?_
      refine s_goto X (pc' := 16) d12_12 (by decide) (by decide) ?_
      exact s_iretN X hEL (ws' := []) (t := .boolean) d12_16 rfl (by simp) (by decide) (by decide) (fun x q => by simp at q) ⟨by rw [if_pos ⟨q1, q2⟩]; rfl, rfl, rfl⟩
theorem d8_0 : decode jdk_42_method_154_code 0 = .ok (.getstatic 38, 3) := by decide +kernel
theorem d8_3 : decode jdk_42_method_154_code 3 = .ok (.ifCond .eq 14, 3) := by decide +kernel
theorem d8_6 : decode jdk_42_method_154_code 6 = .ok (.aload_n 0, 1) := by decide +kernel
theorem d8_7 : decode jdk_42_method_154_code 7 = .ok (.getfield 15, 3) := by decide +kernel
theorem d8_10 : decode jdk_42_method_154_code 10 = .ok (.ifCond .ne 7, 3) := by decide +kernel
theorem d8_13 : decode jdk_42_method_154_code 13 = .ok (.iconst 1, 1) := by decide +kernel
theorem d8_14 : decode jdk_42_method_154_code 14 = .ok (.goto 4, 3) := by decide +kernel
theorem d8_17 : decode jdk_42_method_154_code 17 = .ok (.iconst 0, 1) := by decide +kernel
theorem d8_18 : decode jdk_42_method_154_code 18 = .ok (.ireturn, 1) := by decide +kernel
theorem ef_own_isl (m : MethodId) (a : Addr) : entryFrame m #[(.ref a)] 1 = mkF m 0 #[.val (.ref a)] [] := by first | (simp [entryFrame, mkF, argsToLocals, Value.category]; done) | rfl
set_option maxRecDepth 65536 in
set_option maxHeartbeats 40000000 in
theorem own_isl (l : Launch) (Z : State) (a0 : Array Value) (hw : ∀ d ∈ tables_1, d.before a0 Z = true) (hEL : EW Z a0 consts_1) (a : Addr) {G1 : Int32} (h : Heap) (F_a_coder : Fld Z h a "java/lang/String" "coder" "B" (.int (0 : Int32))) (O2 : Sta Z Z.heap "java/lang/String" "COMPACT_STRINGS" "Z" (.int G1)) (P5 : ¬ (G1 = (0 : Int32))) :
    Con l Z consts_1 False (⟨"java/lang/String", "isLatin1", "()Z"⟩ : MethodName) jdk_42_method_154_code 1 (some .boolean) ({ frames := 0, cells := 0, slots := 0, locals := 0 } : Room) [] #[(.ref a)] h (fun v h' ws' => v = some (.int (1)) ∧ h' = h ∧ ws' = []) := by
  refine Con.intro own_pn5 (fun p e s m below meth c T X => ?_)
  rw [ef_own_isl m a]
  refine s_gets X (pc' := 3) d8_0 (hw _ (List.mem_of_getElem? (i := 50) rfl)) Via.refl O2 rfl (fun T X => ?_)
  refine s_ifF X (pc' := 6) d8_3 P5 rfl ?_
  refine s_aloadN X (pc' := 7) d8_6 rfl rfl rfl ?_
  refine s_getf X (pc' := 10) d8_7 (hw _ (List.mem_of_getElem? (i := 28) rfl)) Via.refl F_a_coder rfl (fun T X => ?_)
  refine s_ifF X (pc' := 13) d8_10 (show (0 : Int32) = (0 : Int32) by decide) rfl ?_
  refine s_iconst X (pc' := 14) d8_13 (v := (1 : Int32)) rfl rfl ?_
  refine s_goto X (pc' := 18) d8_14 (by decide) (by decide) ?_
  exact s_iretN X hEL (ws' := []) (t := .boolean) d8_18 rfl (by simp) (by decide) (by decide) (fun x q => by simp at q) ⟨rfl, rfl, rfl⟩
theorem d22_0 : decode jdk_43_method_23_code 0 = .ok (.iload_n 1, 1) := by decide +kernel
theorem d22_1 : decode jdk_43_method_23_code 1 = .ok (.i2b, 1) := by decide +kernel
theorem d22_2 : decode jdk_43_method_23_code 2 = .ok (.istore 4, 2) := by decide +kernel
theorem d22_4 : decode jdk_43_method_23_code 4 = .ok (.iload_n 2, 1) := by decide +kernel
theorem d22_5 : decode jdk_43_method_23_code 5 = .ok (.istore 5, 2) := by decide +kernel
theorem d22_7 : decode jdk_43_method_23_code 7 = .ok (.iload 5, 2) := by decide +kernel
theorem d22_9 : decode jdk_43_method_23_code 9 = .ok (.iload_n 3, 1) := by decide +kernel
theorem d22_10 : decode jdk_43_method_23_code 10 = .ok (.if_icmp .ge 21, 3) := by decide +kernel
theorem d22_13 : decode jdk_43_method_23_code 13 = .ok (.aload_n 0, 1) := by decide +kernel
theorem d22_14 : decode jdk_43_method_23_code 14 = .ok (.iload 5, 2) := by decide +kernel
theorem d22_16 : decode jdk_43_method_23_code 16 = .ok (.baload, 1) := by decide +kernel
theorem d22_17 : decode jdk_43_method_23_code 17 = .ok (.iload 4, 2) := by decide +kernel
theorem d22_19 : decode jdk_43_method_23_code 19 = .ok (.if_icmp .ne 6, 3) := by decide +kernel
theorem d22_22 : decode jdk_43_method_23_code 22 = .ok (.iload 5, 2) := by decide +kernel
theorem d22_24 : decode jdk_43_method_23_code 24 = .ok (.ireturn, 1) := by decide +kernel
theorem d22_25 : decode jdk_43_method_23_code 25 = .ok (.iinc 5 1, 3) := by decide +kernel
theorem d22_28 : decode jdk_43_method_23_code 28 = .ok (.goto (-21), 3) := by decide +kernel
theorem d22_31 : decode jdk_43_method_23_code 31 = .ok (.iconst (-1), 1) := by decide +kernel
theorem d22_32 : decode jdk_43_method_23_code 32 = .ok (.ireturn, 1) := by decide +kernel
theorem ef_own_ixc (m : MethodId) (t : Addr) (ch : Int32) (i0 : Nat) (cs : List Int32) : entryFrame m #[(.ref t), (.int ch), (.int (Int32.ofNat i0)), (.int (Int32.ofNat cs.length))] 6 = mkF m 0 #[.val (.ref t), .val (.int ch), .val (.int (Int32.ofNat i0)), .val (.int (Int32.ofNat cs.length)), .unset, .unset] [] := by first | (simp [entryFrame, mkF, argsToLocals, Value.category]; done) | rfl
set_option maxRecDepth 65536 in
set_option maxHeartbeats 40000000 in
theorem own_ixc (l : Launch) (Z : State) (a0 : Array Value) (hw : ∀ d ∈ tables_1, d.before a0 Z = true) (hEL : EW Z a0 consts_1) (t : Addr) (ch : Int32) (i0 : Nat) (cs : List Int32) (h : Heap) (A_t : Ary Z h t .byte (cs.map fun c => Value.int c.toInt8.toInt32)) (hp : ∀ c ∈ cs, ¬ c < 0 ∧ ¬ (255 : Int32) < c) (hch : ¬ ch < 0 ∧ ¬ (255 : Int32) < ch) (hi0 : i0 ≤ cs.length) (hn : cs.length ≤ 4000) :
    Con l Z consts_1 False (⟨"java/lang/StringLatin1", "indexOfChar", "([BIII)I"⟩ : MethodName) jdk_43_method_23_code 6 (some .int) ({ frames := 0, cells := 0, slots := 0, locals := 0 } : Room) [] #[(.ref t), (.int ch), (.int (Int32.ofNat i0)), (.int (Int32.ofNat cs.length))] h (fun v h' ws' => v = some (.int (ixF (cs.drop i0) ch i0)) ∧ h' = h ∧ ws' = []) := by
  refine Con.intro own_pn6 (fun p e s m below meth c T X => ?_)
  rw [ef_own_ixc m t ch i0 cs]
  refine s_iloadN X (pc' := 1) d22_0 rfl rfl ?_
  refine s_i2b X (pc' := 2) d22_1 rfl ?_
  refine s_istore X (pc' := 4) (L' := #[.val (.ref t), .val (.int ch), .val (.int (Int32.ofNat i0)), .val (.int (Int32.ofNat cs.length)), .val (.int ch.toInt8.toInt32), .unset]) d22_2 rfl rfl ?_
  refine s_iloadN X (pc' := 5) d22_4 rfl rfl ?_
  refine s_istore X (pc' := 7) (L' := #[.val (.ref t), .val (.int ch), .val (.int (Int32.ofNat i0)), .val (.int (Int32.ofNat cs.length)), .val (.int ch.toInt8.toInt32), .val (.int (Int32.ofNat i0))]) d22_5 rfl rfl ?_
  obtain ⟨r, gr⟩ : ∃ r, r = ixF (cs.drop i0) ch i0 := ⟨_, rfl⟩
  rw [← gr]
  have loop : ∀ (d i : Nat) (T : State), i + d = cs.length → r = ixF (cs.drop i) ch i → Cx p l e ({ frames := 0, cells := 0, slots := 0, locals := 0 } : Room) s m #[(.ref t), (.int ch), (.int (Int32.ofNat i0)), (.int (Int32.ofNat cs.length))] below meth c Z consts_1 False (⟨"java/lang/StringLatin1", "indexOfChar", "([BIII)I"⟩ : MethodName) jdk_43_method_23_code 6 (some .int) [] T h 0 0 → Go p e below (Post Z consts_1 s ({ frames := 0, cells := 0, slots := 0, locals := 0 } : Room) (fun v h' ws' => v = some (.int r) ∧ h' = h ∧ ws' = [])) T (mkF m 7 #[.val (.ref t), .val (.int ch), .val (.int (Int32.ofNat i0)), .val (.int (Int32.ofNat cs.length)), .val (.int ch.toInt8.toInt32), .val (.int (Int32.ofNat i))] []) := by
    intro d
    induction d with
    | zero =>
      intro i T hid hr X
      refine s_iload X (pc' := 9) d22_7 rfl rfl ?_
      refine s_iloadN X (pc' := 10) d22_9 rfl rfl ?_
      refine s_icmpT X (pc' := 31) d22_10 (show ¬ Int32.ofNat i < Int32.ofNat cs.length from fun q => by rw [on_lt (by omega) (by omega)] at q; omega) (by decide) (by decide) ?_
      refine s_iconst X (pc' := 32) d22_31 (v := (-1 : Int32)) (by decide) rfl ?_
      exact s_iret X hEL (ws' := []) d22_32 (by decide) (by decide) (fun x q => by simp at q) ⟨by rw [hr, List.drop_eq_nil_of_le (by omega)]; rfl, rfl, rfl⟩
    | succ d ih =>
      intro i T hid hr X
      have hi : i < cs.length := by omega
      refine s_iload X (pc' := 9) d22_7 rfl rfl ?_
      refine s_iloadN X (pc' := 10) d22_9 rfl rfl ?_
      refine s_icmpF X (pc' := 13) d22_10 (show Int32.ofNat i < Int32.ofNat cs.length from (on_lt (by omega) (by omega)).mpr hi) rfl ?_
      refine s_aloadN X (pc' := 14) d22_13 rfl rfl rfl ?_
      refine s_iload X (pc' := 16) d22_14 rfl rfl ?_
      have hc : ¬ cs.getD i 0 < 0 ∧ ¬ (255 : Int32) < cs.getD i 0 := by
        have := hp cs[i] (List.getElem_mem hi)
        simpa [List.getD_eq_getElem?_getD, hi] using this
      refine s_baload X (pc' := 17) (i := i) (v := .int (cs.getD i 0).toInt8.toInt32) d22_16 A_t rfl (by simp [List.getD_eq_getElem?_getD, hi]) rfl ?_
      refine s_iload X (pc' := 19) d22_17 rfl rfl ?_
      refine s_icmp X (pc' := 25) (pcF := 22) d22_19 (by decide) (by decide) rfl (fun (q : ¬ (cs.getD i 0).toInt8.toInt32 = ch.toInt8.toInt32) => ?_) (fun (q : (cs.getD i 0).toInt8.toInt32 = ch.toInt8.toInt32) => ?_)
      · refine s_iinc X (pc' := 28) (L' := #[.val (.ref t), .val (.int ch), .val (.int (Int32.ofNat i0)), .val (.int (Int32.ofNat cs.length)), .val (.int ch.toInt8.toInt32), .val (.int ((Int32.ofNat i) + (1 : Int32)))]) d22_25 (v := (1 : Int32)) (by decide) rfl rfl rfl ?_
        rw [on_succ]
        refine s_goto X (pc' := 7) d22_28 (by decide) (by decide) ?_
        exact ih (i + 1) T (by omega) (by rw [hr, drop_at hi, ixF, if_neg (fun z => q ((lo8_eq hc hch).mpr z))]) X
      · refine s_iload X (pc' := 24) d22_22 rfl rfl ?_
        exact s_iret X hEL (ws' := []) d22_24 (by decide) (by decide) (fun x q => by simp at q) ⟨by rw [hr, drop_at hi, ixF, if_pos ((lo8_eq hc hch).mp q)], rfl, rfl⟩
  exact loop (cs.length - i0) i0 T (by omega) gr X
theorem d11_0 : decode jdk_43_method_22_code 0 = .ok (.iload_n 1, 1) := by decide +kernel
theorem d11_1 : decode jdk_43_method_22_code 1 = .ok (.invokestatic 88, 3) := by decide +kernel
theorem d11_4 : decode jdk_43_method_22_code 4 = .ok (.ifCond .ne 5, 3) := by decide +kernel
theorem d11_7 : decode jdk_43_method_22_code 7 = .ok (.iconst (-1), 1) := by decide +kernel
theorem d11_8 : decode jdk_43_method_22_code 8 = .ok (.ireturn, 1) := by decide +kernel
theorem d11_9 : decode jdk_43_method_22_code 9 = .ok (.iload_n 2, 1) := by decide +kernel
theorem d11_10 : decode jdk_43_method_22_code 10 = .ok (.iconst 0, 1) := by decide +kernel
theorem d11_11 : decode jdk_43_method_22_code 11 = .ok (.invokestatic 92, 3) := by decide +kernel
theorem d11_14 : decode jdk_43_method_22_code 14 = .ok (.istore_n 2, 1) := by decide +kernel
theorem d11_15 : decode jdk_43_method_22_code 15 = .ok (.iload_n 3, 1) := by decide +kernel
theorem d11_16 : decode jdk_43_method_22_code 16 = .ok (.aload_n 0, 1) := by decide +kernel
theorem d11_17 : decode jdk_43_method_22_code 17 = .ok (.arraylength, 1) := by decide +kernel
theorem d11_18 : decode jdk_43_method_22_code 18 = .ok (.invokestatic 38, 3) := by decide +kernel
theorem d11_21 : decode jdk_43_method_22_code 21 = .ok (.istore_n 3, 1) := by decide +kernel
theorem d11_22 : decode jdk_43_method_22_code 22 = .ok (.iload_n 2, 1) := by decide +kernel
theorem d11_23 : decode jdk_43_method_22_code 23 = .ok (.iload_n 3, 1) := by decide +kernel
theorem d11_24 : decode jdk_43_method_22_code 24 = .ok (.if_icmp .lt 5, 3) := by decide +kernel
theorem d11_27 : decode jdk_43_method_22_code 27 = .ok (.iconst (-1), 1) := by decide +kernel
theorem d11_28 : decode jdk_43_method_22_code 28 = .ok (.ireturn, 1) := by decide +kernel
theorem d11_29 : decode jdk_43_method_22_code 29 = .ok (.aload_n 0, 1) := by decide +kernel
theorem d11_30 : decode jdk_43_method_22_code 30 = .ok (.iload_n 1, 1) := by decide +kernel
theorem d11_31 : decode jdk_43_method_22_code 31 = .ok (.iload_n 2, 1) := by decide +kernel
theorem d11_32 : decode jdk_43_method_22_code 32 = .ok (.iload_n 3, 1) := by decide +kernel
theorem d11_33 : decode jdk_43_method_22_code 33 = .ok (.invokestatic 95, 3) := by decide +kernel
theorem d11_36 : decode jdk_43_method_22_code 36 = .ok (.ireturn, 1) := by decide +kernel
theorem ef_own_l1 (m : MethodId) (t : Addr) (ch : Int32) (i0 : Nat) (cs : List Int32) : entryFrame m #[(.ref t), (.int ch), (.int (Int32.ofNat i0)), (.int (Int32.ofNat cs.length))] 4 = mkF m 0 #[.val (.ref t), .val (.int ch), .val (.int (Int32.ofNat i0)), .val (.int (Int32.ofNat cs.length))] [] := by first | (simp [entryFrame, mkF, argsToLocals, Value.category]; done) | rfl
set_option maxRecDepth 65536 in
set_option maxHeartbeats 40000000 in
theorem own_l1 (l : Launch) (Z : State) (a0 : Array Value) (hw : ∀ d ∈ tables_1, d.before a0 Z = true) (hEL : EW Z a0 consts_1) (t : Addr) (ch : Int32) (i0 : Nat) (cs : List Int32) (h : Heap) (A_t : Ary Z h t .byte (cs.map fun c => Value.int c.toInt8.toInt32)) (hp : ∀ c ∈ cs, ¬ c < 0 ∧ ¬ (255 : Int32) < c) (hch : ¬ ch < 0 ∧ ¬ (65535 : Int32) < ch) (hi0 : i0 ≤ cs.length) (hn : cs.length ≤ 4000) :
    Con l Z consts_1 False (⟨"java/lang/StringLatin1", "indexOf", "([BIII)I"⟩ : MethodName) jdk_43_method_22_code 4 (some .int) ({ frames := 1, cells := 0, slots := 0, locals := 17 } : Room) [] #[(.ref t), (.int ch), (.int (Int32.ofNat i0)), (.int (Int32.ofNat cs.length))] h (fun v h' ws' => v = some (.int (ixF (cs.drop i0) ch i0)) ∧ h' = h ∧ ws' = []) := by
  refine Con.intro own_pn7 (fun p e s m below meth c T X => ?_)
  rw [ef_own_l1 m t ch i0 cs]
  refine s_iloadN X (pc' := 1) d11_0 rfl rfl ?_
  refine s_static X (pc' := 4) (W := 0) (as' := [(.int ch)]) (S := []) (k' := 0) (n' := 0) d11_1 (hw _ (List.mem_of_getElem? (i := 65) rfl)) (hw _ (List.mem_of_getElem? (i := 66) rfl)) (hw _ (List.mem_of_getElem? (i := 63) rfl)) (hw _ (List.mem_of_getElem? (i := 67) rfl)) (by decide) own_pd1 rfl ((own_can l Z a0 hw hEL ch _).payS (by simp) (hw _ (List.mem_of_getElem? (i := 67) rfl)) (hw _ (List.mem_of_getElem? (i := 63) rfl)) hEL (by decide) (by decide)) (Nat.le_of_ble_eq_true rfl) rfl rfl (by decide) (by decide) (by decide) (by decide) rfl (fun T h11 v_ ws_ X hgr_ q12 => ?_)
  obtain ⟨rfl, e_, rfl⟩ := q12
  rw [e_] at X
  show Go p e below _ T (mkF m 4 #[.val (.ref t), .val (.int ch), .val (.int (Int32.ofNat i0)), .val (.int (Int32.ofNat cs.length))] [(.int (if ¬ ch < 0 ∧ ¬ (255 : Int32) < ch then 1 else 0))])
  replace X := X.sub (ws' := []) (by simp)
  refine s_if X (pc' := 9) (pcF := 7) d11_4 (by decide) (by decide) rfl (fun (q1 : ¬ (if ¬ ch < 0 ∧ ¬ (255 : Int32) < ch then 1 else 0) = (0 : Int32)) => ?_) (fun (q1 : (if ¬ ch < 0 ∧ ¬ (255 : Int32) < ch then 1 else 0) = (0 : Int32)) => ?_)
  · have y1 : ¬ ch < 0 ∧ ¬ (255 : Int32) < ch := Classical.byContradiction fun z => by rw [if_neg z] at q1; exact q1 rfl
    refine s_iloadN X (pc' := 10) d11_9 rfl rfl ?_
    refine s_iconst X (pc' := 11) d11_10 (v := (0 : Int32)) rfl rfl ?_
    refine s_static X (pc' := 14) (W := 0) (as' := [(.int (Int32.ofNat i0)), (.int (0 : Int32))]) (S := []) (k' := 0) (n' := 0) d11_11 (hw _ (List.mem_of_getElem? (i := 68) rfl)) (hw _ (List.mem_of_getElem? (i := 69) rfl)) (hw _ (List.mem_of_getElem? (i := 70) rfl)) (hw _ (List.mem_of_getElem? (i := 71) rfl)) (by decide) own_pd2 rfl ((own_max l Z a0 hw hEL (Int32.ofNat i0) (0 : Int32) _).payS (by simp) (hw _ (List.mem_of_getElem? (i := 71) rfl)) (hw _ (List.mem_of_getElem? (i := 70) rfl)) hEL (by decide) (by decide)) (Nat.le_of_ble_eq_true rfl) rfl rfl (by decide) (by decide) (by decide) (by decide) rfl (fun T h13 v_ ws_ X hgr_ q14 => ?_)
    obtain ⟨rfl, e_, rfl⟩ := q14
    rw [e_] at X
    show Go p e below _ T (mkF m 14 #[.val (.ref t), .val (.int ch), .val (.int (Int32.ofNat i0)), .val (.int (Int32.ofNat cs.length))] [(.int (if (Int32.ofNat i0) < (0 : Int32) then (0 : Int32) else (Int32.ofNat i0)))])
    replace X := X.sub (ws' := []) (by simp)
    refine go_int (z := (Int32.ofNat i0)) (if_neg (on_nn (by omega))) ?_
    refine s_istoreN X (pc' := 15) (L' := #[.val (.ref t), .val (.int ch), .val (.int (Int32.ofNat i0)), .val (.int (Int32.ofNat cs.length))]) d11_14 rfl rfl ?_
    refine s_iloadN X (pc' := 16) d11_15 rfl rfl ?_
    refine s_aloadN X (pc' := 17) d11_16 rfl rfl rfl ?_
    refine s_alen X (pc' := 18) (z := Int32.ofNat cs.length) d11_17 A_t (by rw [List.length_map]) rfl ?_
    refine s_static X (pc' := 21) (W := 0) (as' := [(.int (Int32.ofNat cs.length)), (.int (Int32.ofNat cs.length))]) (S := []) (k' := 0) (n' := 0) d11_18 (hw _ (List.mem_of_getElem? (i := 72) rfl)) (hw _ (List.mem_of_getElem? (i := 73) rfl)) (hw _ (List.mem_of_getElem? (i := 70) rfl)) (hw _ (List.mem_of_getElem? (i := 74) rfl)) (by decide) own_pd2 rfl ((own_min l Z a0 hw hEL (Int32.ofNat cs.length) (Int32.ofNat cs.length) _).payS (by simp) (hw _ (List.mem_of_getElem? (i := 74) rfl)) (hw _ (List.mem_of_getElem? (i := 70) rfl)) hEL (by decide) (by decide)) (Nat.le_of_ble_eq_true rfl) rfl rfl (by decide) (by decide) (by decide) (by decide) rfl (fun T h15 v_ ws_ X hgr_ q16 => ?_)
    obtain ⟨rfl, e_, rfl⟩ := q16
    rw [e_] at X
    show Go p e below _ T (mkF m 21 #[.val (.ref t), .val (.int ch), .val (.int (Int32.ofNat i0)), .val (.int (Int32.ofNat cs.length))] [(.int (if (Int32.ofNat cs.length) < (Int32.ofNat cs.length) then (Int32.ofNat cs.length) else (Int32.ofNat cs.length)))])
    replace X := X.sub (ws' := []) (by simp)
    refine go_int (z := (Int32.ofNat cs.length)) (by split <;> rfl) ?_
    refine s_istoreN X (pc' := 22) (L' := #[.val (.ref t), .val (.int ch), .val (.int (Int32.ofNat i0)), .val (.int (Int32.ofNat cs.length))]) d11_21 rfl rfl ?_
    refine s_iloadN X (pc' := 23) d11_22 rfl rfl ?_
    refine s_iloadN X (pc' := 24) d11_23 rfl rfl ?_
    refine s_icmp X (pc' := 29) (pcF := 27) d11_24 (by decide) (by decide) rfl (fun (q2 : (Int32.ofNat i0) < (Int32.ofNat cs.length)) => ?_) (fun (q2 : ¬ (Int32.ofNat i0) < (Int32.ofNat cs.length)) => ?_)
    · refine s_aloadN X (pc' := 30) d11_29 rfl rfl rfl ?_
      refine s_iloadN X (pc' := 31) d11_30 rfl rfl ?_
      refine s_iloadN X (pc' := 32) d11_31 rfl rfl ?_
      refine s_iloadN X (pc' := 33) d11_32 rfl rfl ?_
      refine s_static X (pc' := 36) (W := 0) (as' := [(.ref t), (.int ch), (.int (Int32.ofNat i0)), (.int (Int32.ofNat cs.length))]) (S := []) (k' := 0) (n' := 0) d11_33 (hw _ (List.mem_of_getElem? (i := 106) rfl)) (hw _ (List.mem_of_getElem? (i := 107) rfl)) (hw _ (List.mem_of_getElem? (i := 63) rfl)) (hw _ (List.mem_of_getElem? (i := 108) rfl)) (by decide) own_pd3 rfl ((own_ixc l Z a0 hw hEL t ch i0 cs _ A_t hp y1 hi0 hn).payS (by simp) (hw _ (List.mem_of_getElem? (i := 108) rfl)) (hw _ (List.mem_of_getElem? (i := 63) rfl)) hEL (by decide) (by decide)) (Nat.le_of_ble_eq_true rfl) rfl rfl (by decide) (by decide) (by decide) (by decide) rfl (fun T h17 v_ ws_ X hgr_ q18 => ?_)
      obtain ⟨rfl, e_, rfl⟩ := q18
      rw [e_] at X
      show Go p e below _ T (mkF m 36 #[.val (.ref t), .val (.int ch), .val (.int (Int32.ofNat i0)), .val (.int (Int32.ofNat cs.length))] [(.int (ixF (cs.drop i0) ch i0))])
      replace X := X.sub (ws' := []) (by simp)
      exact s_iret X hEL (ws' := []) d11_36 (by decide) (by decide) (fun x q => by simp at q) ⟨rfl, rfl, rfl⟩
    · refine s_iconst X (pc' := 28) d11_27 (v := (-1 : Int32)) (by decide) rfl ?_
      exact s_iret X hEL (ws' := []) d11_28 (by decide) (by decide) (fun x q => by simp at q) ⟨by rw [List.drop_eq_nil_of_le (by rw [on_lt (by omega) (by omega)] at q2; omega)]; rfl, rfl, rfl⟩
  · have n1 : ¬ (¬ ch < 0 ∧ ¬ (255 : Int32) < ch) := fun z => by rw [if_pos z] at q1; exact absurd q1 (by decide)
    have nm : ch ∉ cs.drop i0 := fun z => n1 (hp ch (List.mem_of_mem_drop z))
    refine s_iconst X (pc' := 8) d11_7 (v := (-1 : Int32)) (by decide) rfl ?_
    exact s_iret X hEL (ws' := []) d11_8 (by decide) (by decide) (fun x q => by simp at q) ⟨(by
        rcases ixF_cases (cs.drop i0) ch i0 with ⟨z, -⟩ | ⟨j, -, -, z⟩
        · rw [z]
        · exact absurd z nm), rfl, rfl⟩
theorem d7_0 : decode jdk_42_method_80_code 0 = .ok (.aload_n 0, 1) := by decide +kernel
theorem d7_1 : decode jdk_42_method_80_code 1 = .ok (.invokevirtual 492, 3) := by decide +kernel
theorem d7_4 : decode jdk_42_method_80_code 4 = .ok (.ifCond .eq 19, 3) := by decide +kernel
theorem d7_7 : decode jdk_42_method_80_code 7 = .ok (.aload_n 0, 1) := by decide +kernel
theorem d7_8 : decode jdk_42_method_80_code 8 = .ok (.getfield 9, 3) := by decide +kernel
theorem d7_11 : decode jdk_42_method_80_code 11 = .ok (.iload_n 1, 1) := by decide +kernel
theorem d7_12 : decode jdk_42_method_80_code 12 = .ok (.iload_n 2, 1) := by decide +kernel
theorem d7_13 : decode jdk_42_method_80_code 13 = .ok (.aload_n 0, 1) := by decide +kernel
theorem d7_14 : decode jdk_42_method_80_code 14 = .ok (.invokevirtual 505, 3) := by decide +kernel
theorem d7_17 : decode jdk_42_method_80_code 17 = .ok (.invokestatic 637, 3) := by decide +kernel
theorem d7_20 : decode jdk_42_method_80_code 20 = .ok (.goto 16, 3) := by decide +kernel
theorem d7_23 : decode jdk_42_method_80_code 23 = .ok (.aload_n 0, 1) := by decide +kernel
theorem d7_24 : decode jdk_42_method_80_code 24 = .ok (.getfield 9, 3) := by decide +kernel
theorem d7_27 : decode jdk_42_method_80_code 27 = .ok (.iload_n 1, 1) := by decide +kernel
theorem d7_28 : decode jdk_42_method_80_code 28 = .ok (.iload_n 2, 1) := by decide +kernel
theorem d7_29 : decode jdk_42_method_80_code 29 = .ok (.aload_n 0, 1) := by decide +kernel
theorem d7_30 : decode jdk_42_method_80_code 30 = .ok (.invokevirtual 505, 3) := by decide +kernel
theorem d7_33 : decode jdk_42_method_80_code 33 = .ok (.invokestatic 640, 3) := by decide +kernel
theorem d7_36 : decode jdk_42_method_80_code 36 = .ok (.ireturn, 1) := by decide +kernel
theorem ef_own_six (m : MethodId) (a : Addr) (ch : Int32) (i0 : Nat) : entryFrame m #[(.ref a), (.int ch), (.int (Int32.ofNat i0))] 3 = mkF m 0 #[.val (.ref a), .val (.int ch), .val (.int (Int32.ofNat i0))] [] := by first | (simp [entryFrame, mkF, argsToLocals, Value.category]; done) | rfl
set_option maxRecDepth 65536 in
set_option maxHeartbeats 40000000 in
theorem own_six (l : Launch) (Z : State) (a0 : Array Value) (hw : ∀ d ∈ tables_1, d.before a0 Z = true) (hEL : EW Z a0 consts_1) (a : Addr) (ch : Int32) (i0 : Nat) {cs : List Int32} {G1 : Int32} (h : Heap) (S_a : Str Z h a cs) (hp : ∀ c ∈ cs, ¬ c < 0 ∧ ¬ (255 : Int32) < c) (hch : ¬ ch < 0 ∧ ¬ (65535 : Int32) < ch) (hi0 : i0 ≤ cs.length) (O2 : Sta Z Z.heap "java/lang/String" "COMPACT_STRINGS" "Z" (.int G1)) (P5 : ¬ (G1 = (0 : Int32))) :
    Con l Z consts_1 False (⟨"java/lang/String", "indexOf", "(II)I"⟩ : MethodName) jdk_42_method_80_code 3 (some .int) ({ frames := 2, cells := 0, slots := 0, locals := 40 } : Room) [] #[(.ref a), (.int ch), (.int (Int32.ofNat i0))] h (fun v h' ws' => v = some (.int (ixF (cs.drop i0) ch i0)) ∧ h' = h ∧ ws' = []) := by
  refine Con.intro own_pn8 (fun p e s m below meth c T X => ?_)
  rw [ef_own_six m a ch i0]
  obtain ⟨t, E_a, F_a_value, F_a_coder, A_t⟩ := S_a.latin (fun c hc => (hp c hc).2)
  have hn : cs.length ≤ 4000 := by obtain ⟨_, _, _, _, _, _, _, _, _, _, _, q⟩ := S_a; exact q
  refine s_aloadN X (pc' := 1) d7_0 rfl rfl rfl ?_
  refine s_virtual X (pc' := 4) (W := 0) (as' := []) (S := []) (k' := 0) (n' := 0) d7_1 (hw _ (List.mem_of_getElem? (i := 45) rfl)) (hw _ (List.mem_of_getElem? (i := 46) rfl)) (hw _ (List.mem_of_getElem? (i := 48) rfl)) (hw _ (List.mem_of_getElem? (i := 47) rfl)) (nface (hw _ (List.mem_of_getElem? (i := 48) rfl))) (by decide) own_pd4 rfl E_a ((own_isl l Z a0 hw hEL a _ F_a_coder O2 P5).payS (by simp) (hw _ (List.mem_of_getElem? (i := 49) rfl)) (hw _ (List.mem_of_getElem? (i := 10) rfl)) hEL (by decide) (by decide)) (Nat.le_of_ble_eq_true rfl) rfl rfl (by decide) (by decide) (by decide) (by decide) rfl (fun T h19 v_ ws_ X hgr_ q20 => ?_)
  obtain ⟨rfl, e_, rfl⟩ := q20
  rw [e_] at X
  show Go p e below _ T (mkF m 4 #[.val (.ref a), .val (.int ch), .val (.int (Int32.ofNat i0))] [(.int (1 : Int32))])
  replace X := X.sub (ws' := []) (by simp)
  refine s_ifF X (pc' := 7) d7_4 (show ¬ (1 : Int32) = (0 : Int32) by decide) rfl ?_
  refine s_aloadN X (pc' := 8) d7_7 rfl rfl rfl ?_
  refine s_getf X (pc' := 11) d7_8 (hw _ (List.mem_of_getElem? (i := 27) rfl)) Via.refl F_a_value rfl (fun T X => ?_)
  refine s_iloadN X (pc' := 12) d7_11 rfl rfl ?_
  refine s_iloadN X (pc' := 13) d7_12 rfl rfl ?_
  refine s_aloadN X (pc' := 14) d7_13 rfl rfl rfl ?_
  refine s_virtual X (pc' := 17) (W := 3) (as' := []) (S := [(.int (Int32.ofNat i0)), (.int ch), (.ref t)]) (k' := 0) (n' := 0) d7_14 (hw _ (List.mem_of_getElem? (i := 51) rfl)) (hw _ (List.mem_of_getElem? (i := 52) rfl)) (hw _ (List.mem_of_getElem? (i := 54) rfl)) (hw _ (List.mem_of_getElem? (i := 53) rfl)) (nface (hw _ (List.mem_of_getElem? (i := 54) rfl))) (by decide) own_pd5 rfl E_a (lenPay hw hEL O2 P5 X.old S_a (by decide) (by decide)) (Nat.le_of_ble_eq_true rfl) rfl rfl (by decide) (by decide) (by decide) (by decide) rfl (fun T h21 v_ ws_ X hgr_ q22 => ?_)
  obtain ⟨rfl, e_, rfl⟩ := q22
  rw [e_] at X
  show Go p e below _ T (mkF m 17 #[.val (.ref a), .val (.int ch), .val (.int (Int32.ofNat i0))] [(.int (Int32.ofNat cs.length)), (.int (Int32.ofNat i0)), (.int ch), (.ref t)])
  replace X := X.sub (ws' := []) (by simp)
  refine s_static X (pc' := 20) (W := 0) (as' := [(.ref t), (.int ch), (.int (Int32.ofNat i0)), (.int (Int32.ofNat cs.length))]) (S := []) (k' := 0) (n' := 0) d7_17 (hw _ (List.mem_of_getElem? (i := 61) rfl)) (hw _ (List.mem_of_getElem? (i := 62) rfl)) (hw _ (List.mem_of_getElem? (i := 63) rfl)) (hw _ (List.mem_of_getElem? (i := 64) rfl)) (by decide) own_pd3 rfl ((own_l1 l Z a0 hw hEL t ch i0 cs _ A_t hp hch hi0 hn).payS (by simp) (hw _ (List.mem_of_getElem? (i := 64) rfl)) (hw _ (List.mem_of_getElem? (i := 63) rfl)) hEL (by decide) (by decide)) (Nat.le_of_ble_eq_true rfl) rfl rfl (by decide) (by decide) (by decide) (by decide) rfl (fun T h23 v_ ws_ X hgr_ q24 => ?_)
  obtain ⟨rfl, e_, rfl⟩ := q24
  rw [e_] at X
  show Go p e below _ T (mkF m 20 #[.val (.ref a), .val (.int ch), .val (.int (Int32.ofNat i0))] [(.int (ixF (cs.drop i0) ch i0))])
  replace X := X.sub (ws' := []) (by simp)
  refine s_goto X (pc' := 36) d7_20 (by decide) (by decide) ?_
  exact s_iret X hEL (ws' := []) d7_36 (by decide) (by decide) (fun x q => by simp at q) ⟨rfl, rfl, rfl⟩

/-- StringUTF16's statics -/
def U16 (Z : State) : Prop := Sta Z Z.heap "java/lang/StringUTF16" "$assertionsDisabled" "Z" (.int (1 : Int32)) ∧ Sta Z Z.heap "java/lang/StringUTF16" "HI_BYTE_SHIFT" "I" (.int (0 : Int32)) ∧ Sta Z Z.heap "java/lang/StringUTF16" "LO_BYTE_SHIFT" "I" (.int (8 : Int32))
abbrev wbs := StrChars.Road.wideBytes
theorem wbs_len : ∀ cs : List Int32, (wbs cs).length = 2 * cs.length
  | [] => rfl
  | c :: cs => by
    have q := wbs_len cs
    show (wbs cs).length + 1 + 1 = 2 * (cs.length + 1)
    omega
theorem wbs_lo : ∀ (cs : List Int32) (j : Nat), j < cs.length → (wbs cs)[2 * j]? = some (.int (StrChars.lo8 (cs.getD j 0)))
  | c :: cs, 0, _ => rfl
  | c :: cs, j + 1, h => by
    have q := wbs_lo cs j (by simpa using h)
    show (wbs (c :: cs))[2 * j + 1 + 1]? = _
    simpa [wbs, StrChars.Road.wideBytes] using q
theorem wbs_hi : ∀ (cs : List Int32) (j : Nat), j < cs.length → (wbs cs)[2 * j + 1]? = some (.int (StrChars.hi8 (cs.getD j 0)))
  | c :: cs, 0, _ => rfl
  | c :: cs, j + 1, h => by
    have q := wbs_hi cs j (by simpa using h)
    show (wbs (c :: cs))[2 * j + 1 + 1 + 1]? = _
    simpa [wbs, StrChars.Road.wideBytes] using q
theorem on_shl {j : Nat} (h : j ≤ 8000) : Int32.ofNat j <<< ((1 : Int32) &&& 31) = Int32.ofNat (2 * j) := by
  have q := c_ishl (Int32.ofNat j) 1 1 (by decide)
  have e1 : (Int32.ofNat j).toInt = j := Int32.toInt_ofNat_of_lt (by omega)
  have e2 : (Int32.ofNat (2 * j)).toInt = (2 * j : Nat) := Int32.toInt_ofNat_of_lt (by omega)
  have b1 := Int32.toInt_lt (Int32.ofNat j <<< ((1 : Int32) &&& 31))
  have b2 := Int32.le_toInt (Int32.ofNat j <<< ((1 : Int32) &&& 31))
  rw [← Int32.toInt_inj, e2]
  rw [e1] at q
  omega
theorem on_shr {j : Nat} (h : j ≤ 8000) : Int32.ofNat (2 * j) >>> ((1 : Int32) &&& 31) = Int32.ofNat j := by
  have q := c_ishr (Int32.ofNat (2 * j)) 1 1 (by decide)
  have e1 : (Int32.ofNat j).toInt = j := Int32.toInt_ofNat_of_lt (by omega)
  have e2 : (Int32.ofNat (2 * j)).toInt = (2 * j : Nat) := Int32.toInt_ofNat_of_lt (by omega)
  rw [← Int32.toInt_inj, e1, q, e2]
  omega
theorem nb8 (x : Int32) : nar .byte x.toInt8.toInt32 = StrChars.lo8 x := by
  show x.toInt8.toInt32.toInt8.toInt32 = x.toInt8.toInt32
  simp
theorem getD_mem {cs : List Int32} {i : Nat} (h : i < cs.length) : cs.getD i 0 ∈ cs := by
  rw [List.getD_eq_getElem?_getD, List.getElem?_eq_getElem h]; simp
/-- a String with a wide char: her bytes -/
theorem Str.wide {Z : State} {h : Heap} {a : Addr} {cs : List Int32} (S : Str Z h a cs) (hl : ¬ ∀ c ∈ cs, ¬ (255 : Int32) < c) : ∃ t, Exa Z h a "java/lang/String" ∧ Fld Z h a "java/lang/String" "value" "[B" (.ref t) ∧ Fld Z h a "java/lang/String" "coder" "B" (.int 1) ∧ Own.Ary Z h t .byte (wbs cs) ∧ (∀ c ∈ cs, ¬ c < 0 ∧ ¬ (65535 : Int32) < c) ∧ cs.length ≤ 4000 := by
  obtain ⟨t, kb, cd, N, vs, s1, s2, s3, s4, s5, s6, s7⟩ := S
  rcases s5 with ⟨-, -, -, q⟩ | ⟨rfl, rfl, rfl, -⟩
  · exact absurd q hl
  · refine ⟨t, s1, s2, s3, Own.Ary.of_arv s4 ?_ (by rw [wbs_len]; omega), s6, s7⟩
    rw [Own.n32 (by omega)]; exact (wbs_len cs).symm
theorem Str.ofWide {Z : State} {h : Heap} {a t : Addr} {cs : List Int32} (s1 : Exa Z h a "java/lang/String") (s2 : Fld Z h a "java/lang/String" "value" "[B" (.ref t)) (s3 : Fld Z h a "java/lang/String" "coder" "B" (.int 1)) (A : Own.Ary Z h t .byte (wbs cs)) (s6 : ∀ c ∈ cs, ¬ c < 0 ∧ ¬ (65535 : Int32) < c) (s7 : cs.length ≤ 4000) (hl : ∃ c ∈ cs, (255 : Int32) < c) : Str Z h a cs := by
  obtain ⟨kb, A'⟩ := A.arv (.int 0)
  exact ⟨t, kb, 1, _, _, s1, s2, s3, A', Or.inr ⟨rfl, by rw [wbs_len], rfl, hl⟩, s6, s7⟩
theorem nall {cs : List Int32} (hl : ¬ ∀ c ∈ cs, ¬ (255 : Int32) < c) : ∃ c ∈ cs, (255 : Int32) < c := Classical.byContradiction fun z => hl fun c hc q => z ⟨c, hc, q⟩
theorem d36_0 : decode jdk_52_method_6_code 0 = .ok (.aload_n 0, 1) := by decide +kernel
theorem d36_1 : decode jdk_52_method_6_code 1 = .ok (.arraylength, 1) := by decide +kernel
theorem d36_2 : decode jdk_52_method_6_code 2 = .ok (.iconst 1, 1) := by decide +kernel
theorem d36_3 : decode jdk_52_method_6_code 3 = .ok (.ishr, 1) := by decide +kernel
theorem d36_4 : decode jdk_52_method_6_code 4 = .ok (.ireturn, 1) := by decide +kernel
theorem ef_u_len (m : MethodId) (t : Addr) (cs : List Int32) : entryFrame m #[(.ref t)] 1 = mkF m 0 #[.val (.ref t)] [] := by first | (simp [entryFrame, mkF, argsToLocals, Value.category]; done) | rfl
set_option maxRecDepth 65536 in
set_option maxHeartbeats 40000000 in
theorem u_len (l : Launch) (Z : State) (a0 : Array Value) (hw : ∀ d ∈ tables_1, d.before a0 Z = true) (hEL : EW Z a0 consts_1) (t : Addr) (cs : List Int32) (h : Heap) (A_t : Ary Z h t .byte (wbs cs)) (hn : cs.length ≤ 4000) :
    Con l Z consts_1 False (⟨"java/lang/StringUTF16", "length", "([B)I"⟩ : MethodName) jdk_52_method_6_code 1 (some .int) ({ frames := 0, cells := 0, slots := 0, locals := 0 } : Room) [] #[(.ref t)] h (fun v h' ws' => v = some (.int (Int32.ofNat cs.length)) ∧ h' = h ∧ ws' = []) := by
  refine Con.intro own_pn9 (fun p e s m below meth c T X => ?_)
  rw [ef_u_len m t cs]
  refine s_aloadN X (pc' := 1) d36_0 rfl rfl rfl ?_
  refine s_alen X (pc' := 2) (z := Int32.ofNat (2 * cs.length)) d36_1 A_t (by rw [wbs_len]) rfl ?_
  refine s_iconst X (pc' := 3) d36_2 (v := (1 : Int32)) rfl rfl ?_
  refine s_ishr X (pc' := 4) d36_3 rfl ?_
  refine go_int (z := (Int32.ofNat cs.length)) (on_shr (by omega)) ?_
  exact s_iret X hEL (ws' := []) d36_4 (by decide) (by decide) (fun x q => by simp at q) ⟨rfl, rfl, rfl⟩
theorem d32_0 : decode jdk_52_method_5_code 0 = .ok (.getstatic 44, 3) := by decide +kernel
theorem d32_3 : decode jdk_52_method_5_code 3 = .ok (.ifCond .ne 25, 3) := by decide +kernel
theorem d32_6 : decode jdk_52_method_5_code 6 = .ok (.iload_n 1, 1) := by decide +kernel
theorem d32_7 : decode jdk_52_method_5_code 7 = .ok (.ifCond .lt 11, 3) := by decide +kernel
theorem d32_10 : decode jdk_52_method_5_code 10 = .ok (.iload_n 1, 1) := by decide +kernel
theorem d32_11 : decode jdk_52_method_5_code 11 = .ok (.aload_n 0, 1) := by decide +kernel
theorem d32_12 : decode jdk_52_method_5_code 12 = .ok (.invokestatic 48, 3) := by decide +kernel
theorem d32_15 : decode jdk_52_method_5_code 15 = .ok (.if_icmp .lt 13, 3) := by decide +kernel
theorem d32_18 : decode jdk_52_method_5_code 18 = .ok (.new 52, 3) := by decide +kernel
theorem d32_21 : decode jdk_52_method_5_code 21 = .ok (.dup, 1) := by decide +kernel
theorem d32_22 : decode jdk_52_method_5_code 22 = .ok (.ldc 54, 2) := by decide +kernel
theorem d32_24 : decode jdk_52_method_5_code 24 = .ok (.invokespecial 56, 3) := by decide +kernel
theorem d32_27 : decode jdk_52_method_5_code 27 = .ok (.athrow, 1) := by decide +kernel
theorem d32_28 : decode jdk_52_method_5_code 28 = .ok (.iload_n 1, 1) := by decide +kernel
theorem d32_29 : decode jdk_52_method_5_code 29 = .ok (.iconst 1, 1) := by decide +kernel
theorem d32_30 : decode jdk_52_method_5_code 30 = .ok (.ishl, 1) := by decide +kernel
theorem d32_31 : decode jdk_52_method_5_code 31 = .ok (.istore_n 1, 1) := by decide +kernel
theorem d32_32 : decode jdk_52_method_5_code 32 = .ok (.aload_n 0, 1) := by decide +kernel
theorem d32_33 : decode jdk_52_method_5_code 33 = .ok (.iload_n 1, 1) := by decide +kernel
theorem d32_34 : decode jdk_52_method_5_code 34 = .ok (.iinc 1 1, 3) := by decide +kernel
theorem d32_37 : decode jdk_52_method_5_code 37 = .ok (.baload, 1) := by decide +kernel
theorem d32_38 : decode jdk_52_method_5_code 38 = .ok (.sipush 255, 3) := by decide +kernel
theorem d32_41 : decode jdk_52_method_5_code 41 = .ok (.iand, 1) := by decide +kernel
theorem d32_42 : decode jdk_52_method_5_code 42 = .ok (.getstatic 59, 3) := by decide +kernel
theorem d32_45 : decode jdk_52_method_5_code 45 = .ok (.ishl, 1) := by decide +kernel
theorem d32_46 : decode jdk_52_method_5_code 46 = .ok (.aload_n 0, 1) := by decide +kernel
theorem d32_47 : decode jdk_52_method_5_code 47 = .ok (.iload_n 1, 1) := by decide +kernel
theorem d32_48 : decode jdk_52_method_5_code 48 = .ok (.baload, 1) := by decide +kernel
theorem d32_49 : decode jdk_52_method_5_code 49 = .ok (.sipush 255, 3) := by decide +kernel
theorem d32_52 : decode jdk_52_method_5_code 52 = .ok (.iand, 1) := by decide +kernel
theorem d32_53 : decode jdk_52_method_5_code 53 = .ok (.getstatic 63, 3) := by decide +kernel
theorem d32_56 : decode jdk_52_method_5_code 56 = .ok (.ishl, 1) := by decide +kernel
theorem d32_57 : decode jdk_52_method_5_code 57 = .ok (.ior, 1) := by decide +kernel
theorem d32_58 : decode jdk_52_method_5_code 58 = .ok (.i2c, 1) := by decide +kernel
theorem d32_59 : decode jdk_52_method_5_code 59 = .ok (.ireturn, 1) := by decide +kernel
theorem ef_u_get (m : MethodId) (t : Addr) (cs : List Int32) (j : Nat) : entryFrame m #[(.ref t), (.int (Int32.ofNat j))] 2 = mkF m 0 #[.val (.ref t), .val (.int (Int32.ofNat j))] [] := by first | (simp [entryFrame, mkF, argsToLocals, Value.category]; done) | rfl
set_option maxRecDepth 65536 in
set_option maxHeartbeats 40000000 in
theorem u_get (l : Launch) (Z : State) (a0 : Array Value) (hw : ∀ d ∈ tables_1, d.before a0 Z = true) (hEL : EW Z a0 consts_1) (t : Addr) (cs : List Int32) (j : Nat) (h : Heap) (A_t : Ary Z h t .byte (wbs cs)) (hn : cs.length ≤ 4000) (hj : j < cs.length) (hp : ∀ c ∈ cs, ¬ c < 0 ∧ ¬ (65535 : Int32) < c) (U : U16 Z) :
    Con l Z consts_1 False (⟨"java/lang/StringUTF16", "getChar", "([BI)C"⟩ : MethodName) jdk_52_method_5_code 2 (some .char) ({ frames := 0, cells := 0, slots := 0, locals := 0 } : Room) [] #[(.ref t), (.int (Int32.ofNat j))] h (fun v h' ws' => v = some (.int (cs.getD j 0)) ∧ h' = h ∧ ws' = []) := by
  refine Con.intro own_pn10 (fun p e s m below meth c T X => ?_)
  rw [ef_u_get m t cs j]
  have hc := hp _ (getD_mem hj)
  refine s_gets X (pc' := 3) d32_0 (hw _ (List.mem_of_getElem? (i := 141) rfl)) Via.refl U.1 rfl (fun T X => ?_)
  refine s_ifT X (pc' := 28) d32_3 (show ¬ (1 : Int32) = (0 : Int32) by decide) (by decide) (by decide) ?_
  refine s_iloadN X (pc' := 29) d32_28 rfl rfl ?_
  refine s_iconst X (pc' := 30) d32_29 (v := (1 : Int32)) rfl rfl ?_
  refine s_ishl X (pc' := 31) d32_30 rfl ?_
  refine go_int (z := (Int32.ofNat (2 * j))) (on_shl (by omega)) ?_
  refine s_istoreN X (pc' := 32) (L' := #[.val (.ref t), .val (.int (Int32.ofNat (2 * j)))]) d32_31 rfl rfl ?_
  refine s_aloadN X (pc' := 33) d32_32 rfl rfl rfl ?_
  refine s_iloadN X (pc' := 34) d32_33 rfl rfl ?_
  refine s_iinc X (pc' := 37) (L' := #[.val (.ref t), .val (.int ((Int32.ofNat (2 * j)) + (1 : Int32)))]) d32_34 (v := (1 : Int32)) (by decide) rfl rfl rfl ?_
  refine s_baload X (pc' := 38) (i := 2 * j) (v := .int (StrChars.lo8 (cs.getD j 0))) d32_37 A_t rfl (wbs_lo cs j hj) rfl ?_
  refine s_sipush X (pc' := 41) d32_38 (v := (255 : Int32)) (by decide) rfl ?_
  refine s_iand X (pc' := 42) d32_41 rfl ?_
  refine s_gets X (pc' := 45) d32_42 (hw _ (List.mem_of_getElem? (i := 142) rfl)) Via.refl U.2.1 rfl (fun T X => ?_)
  refine s_ishl X (pc' := 46) d32_45 rfl ?_
  refine s_aloadN X (pc' := 47) d32_46 rfl rfl rfl ?_
  refine s_iloadN X (pc' := 48) d32_47 rfl rfl ?_
  refine s_baload X (pc' := 49) (i := 2 * j + 1) (v := .int (StrChars.hi8 (cs.getD j 0))) d32_48 A_t (on_succ (2 * j)) (wbs_hi cs j hj) rfl ?_
  refine s_sipush X (pc' := 52) d32_49 (v := (255 : Int32)) (by decide) rfl ?_
  refine s_iand X (pc' := 53) d32_52 rfl ?_
  refine s_gets X (pc' := 56) d32_53 (hw _ (List.mem_of_getElem? (i := 143) rfl)) Via.refl U.2.2 rfl (fun T X => ?_)
  refine s_ishl X (pc' := 57) d32_56 rfl ?_
  refine s_ior X (pc' := 58) d32_57 rfl ?_
  refine s_i2c X (pc' := 59) d32_58 rfl ?_
  refine go_int (z := (cs.getD j 0)) (StrChars.pair_says hc.1 hc.2) ?_
  exact s_iretN X hEL (ws' := []) (t := .char) d32_59 rfl (by simp) (by decide) (by decide) (fun x q => by simp at q) ⟨by rw [nar_id hc], rfl, rfl⟩
theorem d31_0 : decode jdk_52_method_4_code 0 = .ok (.getstatic 44, 3) := by decide +kernel
theorem d31_3 : decode jdk_52_method_4_code 3 = .ok (.ifCond .ne 25, 3) := by decide +kernel
theorem d31_6 : decode jdk_52_method_4_code 6 = .ok (.iload_n 1, 1) := by decide +kernel
theorem d31_7 : decode jdk_52_method_4_code 7 = .ok (.ifCond .lt 11, 3) := by decide +kernel
theorem d31_10 : decode jdk_52_method_4_code 10 = .ok (.iload_n 1, 1) := by decide +kernel
theorem d31_11 : decode jdk_52_method_4_code 11 = .ok (.aload_n 0, 1) := by decide +kernel
theorem d31_12 : decode jdk_52_method_4_code 12 = .ok (.invokestatic 48, 3) := by decide +kernel
theorem d31_15 : decode jdk_52_method_4_code 15 = .ok (.if_icmp .lt 13, 3) := by decide +kernel
theorem d31_18 : decode jdk_52_method_4_code 18 = .ok (.new 52, 3) := by decide +kernel
theorem d31_21 : decode jdk_52_method_4_code 21 = .ok (.dup, 1) := by decide +kernel
theorem d31_22 : decode jdk_52_method_4_code 22 = .ok (.ldc 54, 2) := by decide +kernel
theorem d31_24 : decode jdk_52_method_4_code 24 = .ok (.invokespecial 56, 3) := by decide +kernel
theorem d31_27 : decode jdk_52_method_4_code 27 = .ok (.athrow, 1) := by decide +kernel
theorem d31_28 : decode jdk_52_method_4_code 28 = .ok (.iload_n 1, 1) := by decide +kernel
theorem d31_29 : decode jdk_52_method_4_code 29 = .ok (.iconst 1, 1) := by decide +kernel
theorem d31_30 : decode jdk_52_method_4_code 30 = .ok (.ishl, 1) := by decide +kernel
theorem d31_31 : decode jdk_52_method_4_code 31 = .ok (.istore_n 1, 1) := by decide +kernel
theorem d31_32 : decode jdk_52_method_4_code 32 = .ok (.aload_n 0, 1) := by decide +kernel
theorem d31_33 : decode jdk_52_method_4_code 33 = .ok (.iload_n 1, 1) := by decide +kernel
theorem d31_34 : decode jdk_52_method_4_code 34 = .ok (.iinc 1 1, 3) := by decide +kernel
theorem d31_37 : decode jdk_52_method_4_code 37 = .ok (.iload_n 2, 1) := by decide +kernel
theorem d31_38 : decode jdk_52_method_4_code 38 = .ok (.getstatic 59, 3) := by decide +kernel
theorem d31_41 : decode jdk_52_method_4_code 41 = .ok (.ishr, 1) := by decide +kernel
theorem d31_42 : decode jdk_52_method_4_code 42 = .ok (.i2b, 1) := by decide +kernel
theorem d31_43 : decode jdk_52_method_4_code 43 = .ok (.bastore, 1) := by decide +kernel
theorem d31_44 : decode jdk_52_method_4_code 44 = .ok (.aload_n 0, 1) := by decide +kernel
theorem d31_45 : decode jdk_52_method_4_code 45 = .ok (.iload_n 1, 1) := by decide +kernel
theorem d31_46 : decode jdk_52_method_4_code 46 = .ok (.iload_n 2, 1) := by decide +kernel
theorem d31_47 : decode jdk_52_method_4_code 47 = .ok (.getstatic 63, 3) := by decide +kernel
theorem d31_50 : decode jdk_52_method_4_code 50 = .ok (.ishr, 1) := by decide +kernel
theorem d31_51 : decode jdk_52_method_4_code 51 = .ok (.i2b, 1) := by decide +kernel
theorem d31_52 : decode jdk_52_method_4_code 52 = .ok (.bastore, 1) := by decide +kernel
theorem d31_53 : decode jdk_52_method_4_code 53 = .ok (.return_, 1) := by decide +kernel
theorem ef_u_put (m : MethodId) (t : Addr) (vs : List Value) (j : Nat) (x : Int32) : entryFrame m #[(.ref t), (.int (Int32.ofNat j)), (.int x)] 3 = mkF m 0 #[.val (.ref t), .val (.int (Int32.ofNat j)), .val (.int x)] [] := by first | (simp [entryFrame, mkF, argsToLocals, Value.category]; done) | rfl
set_option maxRecDepth 65536 in
set_option maxHeartbeats 40000000 in
theorem u_put (l : Launch) (Z : State) (a0 : Array Value) (hw : ∀ d ∈ tables_1, d.before a0 Z = true) (hEL : EW Z a0 consts_1) (t : Addr) (vs : List Value) (j : Nat) (x : Int32) (h : Heap) (A_t : Ary Z h t .byte vs) (hn : vs.length ≤ 8000) (hj : 2 * j + 1 < vs.length) (g_t : Z.heap.size ≤ t) (U : U16 Z) :
    Con l Z consts_1 False (⟨"java/lang/StringUTF16", "putChar", "([BII)V"⟩ : MethodName) jdk_52_method_4_code 3 none ({ frames := 0, cells := 0, slots := 0, locals := 0 } : Room) [t] #[(.ref t), (.int (Int32.ofNat j)), (.int x)] h (fun v h' ws' => v = none ∧ Keep h h' [t] ∧ Ary Z h' t .byte ((vs.set (2 * j) (.int (StrChars.lo8 x))).set (2 * j + 1) (.int (StrChars.hi8 x))) ∧ ws' = [t]) := by
  refine Con.intro own_pn11 (fun p e s m below meth c T X => ?_)
  rw [ef_u_put m t vs j x]
  have K_ : Keep h h [t] := Keep.refl _ _
  refine s_gets X (pc' := 3) d31_0 (hw _ (List.mem_of_getElem? (i := 141) rfl)) Via.refl U.1 rfl (fun T X => ?_)
  refine s_ifT X (pc' := 28) d31_3 (show ¬ (1 : Int32) = (0 : Int32) by decide) (by decide) (by decide) ?_
  refine s_iloadN X (pc' := 29) d31_28 rfl rfl ?_
  refine s_iconst X (pc' := 30) d31_29 (v := (1 : Int32)) rfl rfl ?_
  refine s_ishl X (pc' := 31) d31_30 rfl ?_
  refine go_int (z := (Int32.ofNat (2 * j))) (on_shl (by omega)) ?_
  refine s_istoreN X (pc' := 32) (L' := #[.val (.ref t), .val (.int (Int32.ofNat (2 * j))), .val (.int x)]) d31_31 rfl rfl ?_
  refine s_aloadN X (pc' := 33) d31_32 rfl rfl rfl ?_
  refine s_iloadN X (pc' := 34) d31_33 rfl rfl ?_
  refine s_iinc X (pc' := 37) (L' := #[.val (.ref t), .val (.int ((Int32.ofNat (2 * j)) + (1 : Int32))), .val (.int x)]) d31_34 (v := (1 : Int32)) (by decide) rfl rfl rfl ?_
  refine s_iloadN X (pc' := 38) d31_37 rfl rfl ?_
  refine s_gets X (pc' := 41) d31_38 (hw _ (List.mem_of_getElem? (i := 142) rfl)) Via.refl U.2.1 rfl (fun T X => ?_)
  refine s_ishr X (pc' := 42) d31_41 rfl ?_
  refine s_i2b X (pc' := 43) d31_42 rfl ?_
  refine s_bastore X (pc' := 44) (i := 2 * j) d31_43 A_t rfl (by omega) g_t (by simp) rfl (fun T h43 X W43 A_t => ?_)
  replace K_ := K_.wr W43 (Or.inl (by simp))
  refine s_aloadN X (pc' := 45) d31_44 rfl rfl rfl ?_
  refine s_iloadN X (pc' := 46) d31_45 rfl rfl ?_
  refine s_iloadN X (pc' := 47) d31_46 rfl rfl ?_
  refine s_gets X (pc' := 50) d31_47 (hw _ (List.mem_of_getElem? (i := 143) rfl)) Via.refl U.2.2 rfl (fun T X => ?_)
  refine s_ishr X (pc' := 51) d31_50 rfl ?_
  refine s_i2b X (pc' := 52) d31_51 rfl ?_
  refine s_bastore X (pc' := 53) (i := 2 * j + 1) d31_52 A_t (on_succ (2 * j)) (by rw [List.length_set]; exact hj) g_t (by simp) rfl (fun T h52 X W52 A_t => ?_)
  replace K_ := K_.wr W52 (Or.inl (by simp))
  exact s_ret X hEL (ws' := [t]) d31_53 (by decide) (by decide) (by simp) ⟨rfl, K_, (by rw [nb8, nb8, StrChars.shr0] at A_t; exact A_t), rfl⟩
theorem d30_0 : decode jdk_52_method_3_code 0 = .ok (.iload_n 0, 1) := by decide +kernel
theorem d30_1 : decode jdk_52_method_3_code 1 = .ok (.ifCond .ge 11, 3) := by decide +kernel
theorem d30_12 : decode jdk_52_method_3_code 12 = .ok (.iload_n 0, 1) := by decide +kernel
theorem d30_13 : decode jdk_52_method_3_code 13 = .ok (.ldc 20, 2) := by decide +kernel
theorem d30_15 : decode jdk_52_method_3_code 15 = .ok (.if_icmp .lt 40, 3) := by decide +kernel
theorem d30_55 : decode jdk_52_method_3_code 55 = .ok (.iload_n 0, 1) := by decide +kernel
theorem d30_56 : decode jdk_52_method_3_code 56 = .ok (.iconst 1, 1) := by decide +kernel
theorem d30_57 : decode jdk_52_method_3_code 57 = .ok (.ishl, 1) := by decide +kernel
theorem d30_58 : decode jdk_52_method_3_code 58 = .ok (.ireturn, 1) := by decide +kernel
theorem d29_0 : decode jdk_52_method_2_code 0 = .ok (.iload_n 0, 1) := by decide +kernel
theorem d29_1 : decode jdk_52_method_2_code 1 = .ok (.invokestatic 11, 3) := by decide +kernel
theorem d29_4 : decode jdk_52_method_2_code 4 = .ok (.newarray .byte, 2) := by decide +kernel
theorem d29_6 : decode jdk_52_method_2_code 6 = .ok (.areturn, 1) := by decide +kernel
theorem d28_0 : decode jdk_52_method_14_code 0 = .ok (.iload_n 2, 1) := by decide +kernel
theorem d28_1 : decode jdk_52_method_14_code 1 = .ok (.invokestatic 107, 3) := by decide +kernel
theorem d28_4 : decode jdk_52_method_14_code 4 = .ok (.astore_n 3, 1) := by decide +kernel
theorem d28_5 : decode jdk_52_method_14_code 5 = .ok (.iconst 0, 1) := by decide +kernel
theorem d28_6 : decode jdk_52_method_14_code 6 = .ok (.istore 4, 2) := by decide +kernel
theorem d28_8 : decode jdk_52_method_14_code 8 = .ok (.iload 4, 2) := by decide +kernel
theorem d28_10 : decode jdk_52_method_14_code 10 = .ok (.iload_n 2, 1) := by decide +kernel
theorem d28_11 : decode jdk_52_method_14_code 11 = .ok (.if_icmp .ge 21, 3) := by decide +kernel
theorem d28_14 : decode jdk_52_method_14_code 14 = .ok (.aload_n 3, 1) := by decide +kernel
theorem d28_15 : decode jdk_52_method_14_code 15 = .ok (.iload 4, 2) := by decide +kernel
theorem d28_17 : decode jdk_52_method_14_code 17 = .ok (.aload_n 0, 1) := by decide +kernel
theorem d28_18 : decode jdk_52_method_14_code 18 = .ok (.iload_n 1, 1) := by decide +kernel
theorem d28_19 : decode jdk_52_method_14_code 19 = .ok (.caload, 1) := by decide +kernel
theorem d28_20 : decode jdk_52_method_14_code 20 = .ok (.invokestatic 111, 3) := by decide +kernel
theorem d28_23 : decode jdk_52_method_14_code 23 = .ok (.iinc 1 1, 3) := by decide +kernel
theorem d28_26 : decode jdk_52_method_14_code 26 = .ok (.iinc 4 1, 3) := by decide +kernel
theorem d28_29 : decode jdk_52_method_14_code 29 = .ok (.goto (-21), 3) := by decide +kernel
theorem d28_32 : decode jdk_52_method_14_code 32 = .ok (.aload_n 3, 1) := by decide +kernel
theorem d28_33 : decode jdk_52_method_14_code 33 = .ok (.areturn, 1) := by decide +kernel
theorem d20_0 : decode jdk_52_method_21_code 0 = .ok (.iconst 0, 1) := by decide +kernel
theorem d20_1 : decode jdk_52_method_21_code 1 = .ok (.istore 5, 2) := by decide +kernel
theorem d20_3 : decode jdk_52_method_21_code 3 = .ok (.iload 5, 2) := by decide +kernel
theorem d20_5 : decode jdk_52_method_21_code 5 = .ok (.iload 4, 2) := by decide +kernel
theorem d20_7 : decode jdk_52_method_21_code 7 = .ok (.if_icmp .ge 37, 3) := by decide +kernel
theorem d20_10 : decode jdk_52_method_21_code 10 = .ok (.aload_n 0, 1) := by decide +kernel
theorem d20_11 : decode jdk_52_method_21_code 11 = .ok (.iload_n 1, 1) := by decide +kernel
theorem d20_12 : decode jdk_52_method_21_code 12 = .ok (.caload, 1) := by decide +kernel
theorem d20_13 : decode jdk_52_method_21_code 13 = .ok (.istore 6, 2) := by decide +kernel
theorem d20_15 : decode jdk_52_method_21_code 15 = .ok (.iload 6, 2) := by decide +kernel
theorem d20_17 : decode jdk_52_method_21_code 17 = .ok (.sipush 255, 3) := by decide +kernel
theorem d20_20 : decode jdk_52_method_21_code 20 = .ok (.if_icmp .le 6, 3) := by decide +kernel
theorem d20_23 : decode jdk_52_method_21_code 23 = .ok (.iload 5, 2) := by decide +kernel
theorem d20_25 : decode jdk_52_method_21_code 25 = .ok (.ireturn, 1) := by decide +kernel
theorem d20_26 : decode jdk_52_method_21_code 26 = .ok (.aload_n 2, 1) := by decide +kernel
theorem d20_27 : decode jdk_52_method_21_code 27 = .ok (.iload_n 3, 1) := by decide +kernel
theorem d20_28 : decode jdk_52_method_21_code 28 = .ok (.iload 6, 2) := by decide +kernel
theorem d20_30 : decode jdk_52_method_21_code 30 = .ok (.i2b, 1) := by decide +kernel
theorem d20_31 : decode jdk_52_method_21_code 31 = .ok (.bastore, 1) := by decide +kernel
theorem d20_32 : decode jdk_52_method_21_code 32 = .ok (.iinc 1 1, 3) := by decide +kernel
theorem d20_35 : decode jdk_52_method_21_code 35 = .ok (.iinc 3 1, 3) := by decide +kernel
theorem d20_38 : decode jdk_52_method_21_code 38 = .ok (.iinc 5 1, 3) := by decide +kernel
theorem d20_41 : decode jdk_52_method_21_code 41 = .ok (.goto (-38), 3) := by decide +kernel
theorem d20_44 : decode jdk_52_method_21_code 44 = .ok (.iload 4, 2) := by decide +kernel
theorem d20_46 : decode jdk_52_method_21_code 46 = .ok (.ireturn, 1) := by decide +kernel
theorem d19_0 : decode jdk_52_method_16_code 0 = .ok (.iload_n 2, 1) := by decide +kernel
theorem d19_1 : decode jdk_52_method_16_code 1 = .ok (.newarray .byte, 2) := by decide +kernel
theorem d19_3 : decode jdk_52_method_16_code 3 = .ok (.astore_n 3, 1) := by decide +kernel
theorem d19_4 : decode jdk_52_method_16_code 4 = .ok (.aload_n 0, 1) := by decide +kernel
theorem d19_5 : decode jdk_52_method_16_code 5 = .ok (.iload_n 1, 1) := by decide +kernel
theorem d19_6 : decode jdk_52_method_16_code 6 = .ok (.aload_n 3, 1) := by decide +kernel
theorem d19_7 : decode jdk_52_method_16_code 7 = .ok (.iconst 0, 1) := by decide +kernel
theorem d19_8 : decode jdk_52_method_16_code 8 = .ok (.iload_n 2, 1) := by decide +kernel
theorem d19_9 : decode jdk_52_method_16_code 9 = .ok (.invokestatic 115, 3) := by decide +kernel
theorem d19_12 : decode jdk_52_method_16_code 12 = .ok (.istore 4, 2) := by decide +kernel
theorem d19_14 : decode jdk_52_method_16_code 14 = .ok (.iload 4, 2) := by decide +kernel
theorem d19_16 : decode jdk_52_method_16_code 16 = .ok (.iload_n 2, 1) := by decide +kernel
theorem d19_17 : decode jdk_52_method_16_code 17 = .ok (.if_icmp .eq 40, 3) := by decide +kernel
theorem d19_20 : decode jdk_52_method_16_code 20 = .ok (.aload_n 0, 1) := by decide +kernel
theorem d19_21 : decode jdk_52_method_16_code 21 = .ok (.iload_n 1, 1) := by decide +kernel
theorem d19_22 : decode jdk_52_method_16_code 22 = .ok (.iload_n 2, 1) := by decide +kernel
theorem d19_23 : decode jdk_52_method_16_code 23 = .ok (.invokestatic 119, 3) := by decide +kernel
theorem d19_26 : decode jdk_52_method_16_code 26 = .ok (.astore 5, 2) := by decide +kernel
theorem d19_28 : decode jdk_52_method_16_code 28 = .ok (.aload 5, 2) := by decide +kernel
theorem d19_30 : decode jdk_52_method_16_code 30 = .ok (.iload 4, 2) := by decide +kernel
theorem d19_32 : decode jdk_52_method_16_code 32 = .ok (.invokestatic 71, 3) := by decide +kernel
theorem d19_35 : decode jdk_52_method_16_code 35 = .ok (.sipush 255, 3) := by decide +kernel
theorem d19_38 : decode jdk_52_method_16_code 38 = .ok (.if_icmp .gt 16, 3) := by decide +kernel
theorem d19_54 : decode jdk_52_method_16_code 54 = .ok (.aload 5, 2) := by decide +kernel
theorem d19_56 : decode jdk_52_method_16_code 56 = .ok (.areturn, 1) := by decide +kernel
theorem d21_0 : decode jdk_52_method_15_code 0 = .ok (.iload_n 1, 1) := by decide +kernel
theorem d21_1 : decode jdk_52_method_15_code 1 = .ok (.aload_n 0, 1) := by decide +kernel
theorem d21_2 : decode jdk_52_method_15_code 2 = .ok (.arraylength, 1) := by decide +kernel
theorem d21_3 : decode jdk_52_method_15_code 3 = .ok (.isub, 1) := by decide +kernel
theorem d21_4 : decode jdk_52_method_15_code 4 = .ok (.bipush 31, 2) := by decide +kernel
theorem d21_6 : decode jdk_52_method_15_code 6 = .ok (.iushr, 1) := by decide +kernel
theorem d21_7 : decode jdk_52_method_15_code 7 = .ok (.i2b, 1) := by decide +kernel
theorem d21_8 : decode jdk_52_method_15_code 8 = .ok (.ireturn, 1) := by decide +kernel
theorem d3_27 : decode jdk_42_method_149_code 27 = .ok (.getstatic 38, 3) := by decide +kernel
theorem d3_30 : decode jdk_42_method_149_code 30 = .ok (.ifCond .eq 28, 3) := by decide +kernel
theorem d3_33 : decode jdk_42_method_149_code 33 = .ok (.aload_n 1, 1) := by decide +kernel
theorem d3_34 : decode jdk_42_method_149_code 34 = .ok (.iload_n 2, 1) := by decide +kernel
theorem d3_35 : decode jdk_42_method_149_code 35 = .ok (.iload_n 3, 1) := by decide +kernel
theorem d3_36 : decode jdk_42_method_149_code 36 = .ok (.invokestatic 177, 3) := by decide +kernel
theorem d3_39 : decode jdk_42_method_149_code 39 = .ok (.astore 5, 2) := by decide +kernel
theorem d3_41 : decode jdk_42_method_149_code 41 = .ok (.aload_n 0, 1) := by decide +kernel
theorem d3_42 : decode jdk_42_method_149_code 42 = .ok (.aload 5, 2) := by decide +kernel
theorem d3_44 : decode jdk_42_method_149_code 44 = .ok (.iload_n 3, 1) := by decide +kernel
theorem d3_45 : decode jdk_42_method_149_code 45 = .ok (.invokestatic 47, 3) := by decide +kernel
theorem d3_48 : decode jdk_42_method_149_code 48 = .ok (.putfield 15, 3) := by decide +kernel
theorem d3_51 : decode jdk_42_method_149_code 51 = .ok (.aload_n 0, 1) := by decide +kernel
theorem d3_52 : decode jdk_42_method_149_code 52 = .ok (.aload 5, 2) := by decide +kernel
theorem d3_54 : decode jdk_42_method_149_code 54 = .ok (.putfield 9, 3) := by decide +kernel
theorem d3_57 : decode jdk_42_method_149_code 57 = .ok (.return_, 1) := by decide +kernel
theorem ef_u_nbl1 (m : MethodId)  : entryFrame m #[(.int (1 : Int32))] 1 = mkF m 0 #[.val (.int (1 : Int32))] [] := by first | (simp [entryFrame, mkF, argsToLocals, Value.category]; done) | rfl
set_option maxRecDepth 65536 in
set_option maxHeartbeats 40000000 in
theorem u_nbl1 (l : Launch) (Z : State) (a0 : Array Value) (hw : ∀ d ∈ tables_1, d.before a0 Z = true) (hEL : EW Z a0 consts_1)  (h : Heap)  :
    Con l Z consts_1 False (⟨"java/lang/StringUTF16", "newBytesLength", "(I)I"⟩ : MethodName) jdk_52_method_3_code 1 (some .int) ({ frames := 0, cells := 0, slots := 0, locals := 0 } : Room) [] #[(.int (1 : Int32))] h (fun v h' ws' => v = some (.int ((2 : Int32))) ∧ h' = h ∧ ws' = []) := by
  refine Con.intro own_pn12 (fun p e s m below meth c T X => ?_)
  rw [ef_u_nbl1 m ]
  refine s_iloadN X (pc' := 1) d30_0 rfl rfl ?_
  refine s_ifT X (pc' := 12) d30_1 (show ¬ (1 : Int32) < (0 : Int32) by decide) (by decide) (by decide) ?_
  refine s_iloadN X (pc' := 13) d30_12 rfl rfl ?_
  refine s_ldcI X (pc' := 15) d30_13 (hw _ (List.mem_of_getElem? (i := 137) rfl)) rfl ?_
  refine s_icmpT X (pc' := 55) d30_15 (show (1 : Int32) < (1073741823 : Int32) by decide) (by decide) (by decide) ?_
  refine s_iloadN X (pc' := 56) d30_55 rfl rfl ?_
  refine s_iconst X (pc' := 57) d30_56 (v := (1 : Int32)) rfl rfl ?_
  refine s_ishl X (pc' := 58) d30_57 rfl ?_
  refine go_int (z := (2 : Int32)) (by decide) ?_
  exact s_iret X hEL (ws' := []) d30_58 (by decide) (by decide) (fun x q => by simp at q) ⟨rfl, rfl, rfl⟩
theorem ef_u_nbf1 (m : MethodId)  : entryFrame m #[(.int (1 : Int32))] 1 = mkF m 0 #[.val (.int (1 : Int32))] [] := by first | (simp [entryFrame, mkF, argsToLocals, Value.category]; done) | rfl
set_option maxRecDepth 65536 in
set_option maxHeartbeats 40000000 in
theorem u_nbf1 (l : Launch) (Z : State) (a0 : Array Value) (hw : ∀ d ∈ tables_1, d.before a0 Z = true) (hEL : EW Z a0 consts_1)  (h : Heap)  :
    Con l Z consts_1 False (⟨"java/lang/StringUTF16", "newBytesFor", "(I)[B"⟩ : MethodName) jdk_52_method_2_code 1 (some (.array .byte)) ({ frames := 1, cells := 1, slots := 2, locals := 12 } : Room) [] #[(.int (1 : Int32))] h (fun v h' ws' => ∃ t, v = some (.ref t) ∧ Ext h h' ∧ h.size ≤ t ∧ Ary Z h' t .byte [(.int (0 : Int32)), (.int (0 : Int32))] ∧ ws' = [t]) := by
  refine Con.intro own_pn13 (fun p e s m below meth c T X => ?_)
  rw [ef_u_nbf1 m ]
  have R_ : Ext h h := ext_refl _
  refine s_iloadN X (pc' := 1) d29_0 rfl rfl ?_
  refine s_static X (pc' := 4) (W := 0) (as' := [(.int (1 : Int32))]) (S := []) (k' := 0) (n' := 0) d29_1 (hw _ (List.mem_of_getElem? (i := 134) rfl)) (hw _ (List.mem_of_getElem? (i := 135) rfl)) (hw _ (List.mem_of_getElem? (i := 98) rfl)) (hw _ (List.mem_of_getElem? (i := 136) rfl)) (by decide) own_pd6 rfl ((u_nbl1 l Z a0 hw hEL _).payS (by simp) (hw _ (List.mem_of_getElem? (i := 136) rfl)) (hw _ (List.mem_of_getElem? (i := 98) rfl)) hEL (by decide) (by decide)) (Nat.le_of_ble_eq_true rfl) rfl rfl (by decide) (by decide) (by decide) (by decide) rfl (fun T h25 v_ ws_ X hgr_ q26 => ?_)
  obtain ⟨rfl, e_, rfl⟩ := q26
  rw [e_] at X
  show Go p e below _ T (mkF m 4 #[.val (.int (1 : Int32))] [(.int (2 : Int32))])
  replace X := X.sub (ws' := []) (by simp)
  refine s_newarr X (pc' := 6) (k' := 1) (n' := 2) (N := 2) d29_4 (hw _ (List.mem_of_getElem? (i := 22) rfl)) rfl (by decide) (by decide) (by decide) (by decide) (by decide) rfl (fun T h27 t gb_t X' E28 A_t => ?_)
  have g_t : Z.heap.size ≤ t := by rw [gb_t]; exact X.lt
  have sz_R__t : h.size ≤ t := by rw [gb_t]; exact R_.1
  replace R_ := ext_trans R_ E28
  replace X := X'
  replace A_t : Ary Z h27 t .byte [(.int (0 : Int32)), (.int (0 : Int32))] := A_t
  exact s_aret X hEL (ws' := [t]) (t := (.array .byte)) d29_6 rfl rfl rfl rfl (by decide) (by decide) (by simp) ⟨t, rfl, R_, sz_R__t, A_t, rfl⟩
theorem ef_u_tb1 (m : MethodId) (b : Addr) (c0 : Int32) : entryFrame m #[(.ref b), (.int (0 : Int32)), (.int (1 : Int32))] 5 = mkF m 0 #[.val (.ref b), .val (.int (0 : Int32)), .val (.int (1 : Int32)), .unset, .unset] [] := by first | (simp [entryFrame, mkF, argsToLocals, Value.category]; done) | rfl
set_option maxRecDepth 65536 in
set_option maxHeartbeats 40000000 in
theorem u_tb1 (l : Launch) (Z : State) (a0 : Array Value) (hw : ∀ d ∈ tables_1, d.before a0 Z = true) (hEL : EW Z a0 consts_1) (b : Addr) (c0 : Int32) (h : Heap) (A_b : Ary Z h b .char [(.int c0)]) (U : U16 Z) :
    Con l Z consts_1 False (⟨"java/lang/StringUTF16", "toBytes", "([CII)[B"⟩ : MethodName) jdk_52_method_14_code 5 (some (.array .byte)) ({ frames := 2, cells := 1, slots := 2, locals := 24 } : Room) [] #[(.ref b), (.int (0 : Int32)), (.int (1 : Int32))] h (fun v h' ws' => ∃ t, v = some (.ref t) ∧ Ext h h' ∧ h.size ≤ t ∧ Ary Z h' t .byte (wbs [c0]) ∧ ws' = [t]) := by
  refine Con.intro own_pn14 (fun p e s m below meth c T X => ?_)
  rw [ef_u_tb1 m b c0]
  have R_ : Ext h h := ext_refl _
  have hz0 := X.old.1
  have hz1 := A_b.lt
  refine s_iloadN X (pc' := 1) d28_0 rfl rfl ?_
  refine s_static X (pc' := 4) (W := 0) (as' := [(.int (1 : Int32))]) (S := []) (k' := 1) (n' := 2) d28_1 (hw _ (List.mem_of_getElem? (i := 131) rfl)) (hw _ (List.mem_of_getElem? (i := 132) rfl)) (hw _ (List.mem_of_getElem? (i := 98) rfl)) (hw _ (List.mem_of_getElem? (i := 133) rfl)) (by decide) own_pd7 rfl ((u_nbf1 l Z a0 hw hEL _).payS (by simp) (hw _ (List.mem_of_getElem? (i := 133) rfl)) (hw _ (List.mem_of_getElem? (i := 98) rfl)) hEL (by decide) (by decide)) (Nat.le_of_ble_eq_true rfl) rfl rfl (by decide) (by decide) (by decide) (by decide) rfl (fun T h29 v_ ws_ X hgr_ q30 => ?_)
  obtain ⟨t, rfl, E_, sz_R__t, A_t, rfl⟩ := q30
  show Go p e below _ T (mkF m 4 #[.val (.ref b), .val (.int (0 : Int32)), .val (.int (1 : Int32)), .unset, .unset] [(.ref t)])
  replace X := X.sub (ws' := [t]) (by simp)
  replace A_b := A_b.ext E_
  replace R_ := ext_trans R_ E_
  have g_t : Z.heap.size ≤ t := Nat.le_trans hz0 sz_R__t
  have ne_b_t : b ≠ t := Nat.ne_of_lt (Nat.lt_of_lt_of_le hz1 sz_R__t)
  refine s_astoreN X (pc' := 5) (L' := #[.val (.ref b), .val (.int (0 : Int32)), .val (.int (1 : Int32)), .val (.ref t), .unset]) d28_4 rfl rfl rfl ?_
  refine s_iconst X (pc' := 6) d28_5 (v := (0 : Int32)) rfl rfl ?_
  refine s_istore X (pc' := 8) (L' := #[.val (.ref b), .val (.int (0 : Int32)), .val (.int (1 : Int32)), .val (.ref t), .val (.int (0 : Int32))]) d28_6 rfl rfl ?_
  refine s_iload X (pc' := 10) d28_8 rfl rfl ?_
  refine s_iloadN X (pc' := 11) d28_10 rfl rfl ?_
  refine s_icmpF X (pc' := 14) d28_11 (show (0 : Int32) < (1 : Int32) by decide) rfl ?_
  refine s_aloadN X (pc' := 15) d28_14 rfl rfl rfl ?_
  refine s_iload X (pc' := 17) d28_15 rfl rfl ?_
  refine s_aloadN X (pc' := 18) d28_17 rfl rfl rfl ?_
  refine s_iloadN X (pc' := 19) d28_18 rfl rfl ?_
  refine s_caload X (pc' := 20) (i := 0) (v := (.int c0)) d28_19 A_b rfl rfl rfl ?_
  refine s_static X (pc' := 23) (W := 0) (as' := [(.ref t), (.int (0 : Int32)), (.int c0)]) (S := []) (k' := 1) (n' := 2) d28_20 (hw _ (List.mem_of_getElem? (i := 138) rfl)) (hw _ (List.mem_of_getElem? (i := 139) rfl)) (hw _ (List.mem_of_getElem? (i := 98) rfl)) (hw _ (List.mem_of_getElem? (i := 140) rfl)) (by decide) own_pd8 rfl ((u_put l Z a0 hw hEL t _ 0 c0 _ A_t (Nat.le_of_ble_eq_true rfl) (Nat.le_of_ble_eq_true rfl) g_t U).payS (by simp) (hw _ (List.mem_of_getElem? (i := 140) rfl)) (hw _ (List.mem_of_getElem? (i := 98) rfl)) hEL (by decide) (by decide)) (Nat.le_of_ble_eq_true rfl) rfl rfl (by decide) (by decide) (by decide) (by decide) rfl (fun T h31 v_ ws_ X hgr_ q32 => ?_)
  obtain ⟨rfl, K_, A_t, rfl⟩ := q32
  show Go p e below _ T (mkF m 23 #[.val (.ref b), .val (.int (0 : Int32)), .val (.int (1 : Int32)), .val (.ref t), .val (.int (0 : Int32))] [])
  replace X := X.sub (ws' := [t]) (by simp)
  replace A_b := A_b.keep K_ (ninS ne_b_t nin0)
  replace R_ := ext_keep R_ K_ (allS sz_R__t all0)
  replace A_t : Ary Z h31 t .byte [(.int (StrChars.lo8 c0)), (.int (StrChars.hi8 c0))] := A_t
  refine s_iinc X (pc' := 26) (L' := #[.val (.ref b), .val (.int (1 : Int32)), .val (.int (1 : Int32)), .val (.ref t), .val (.int (0 : Int32))]) d28_23 (v := (1 : Int32)) (by decide) rfl rfl rfl ?_
  refine s_iinc X (pc' := 29) (L' := #[.val (.ref b), .val (.int (1 : Int32)), .val (.int (1 : Int32)), .val (.ref t), .val (.int (1 : Int32))]) d28_26 (v := (1 : Int32)) (by decide) rfl rfl rfl ?_
  refine s_goto X (pc' := 8) d28_29 (by decide) (by decide) ?_
  refine s_iload X (pc' := 10) d28_8 rfl rfl ?_
  refine s_iloadN X (pc' := 11) d28_10 rfl rfl ?_
  refine s_icmpT X (pc' := 32) d28_11 (show ¬ (1 : Int32) < (1 : Int32) by decide) (by decide) (by decide) ?_
  refine s_aloadN X (pc' := 33) d28_32 rfl rfl rfl ?_
  exact s_aret X hEL (ws' := [t]) (t := (.array .byte)) d28_33 rfl rfl rfl rfl (by decide) (by decide) (by simp) ⟨t, rfl, R_, sz_R__t, A_t, rfl⟩
theorem ef_u_c5_1 (m : MethodId) (b d : Addr) (c0 : Int32) : entryFrame m #[(.ref b), (.int (0 : Int32)), (.ref d), (.int (0 : Int32)), (.int (1 : Int32))] 7 = mkF m 0 #[.val (.ref b), .val (.int (0 : Int32)), .val (.ref d), .val (.int (0 : Int32)), .val (.int (1 : Int32)), .unset, .unset] [] := by first | (simp [entryFrame, mkF, argsToLocals, Value.category]; done) | rfl
set_option maxRecDepth 65536 in
set_option maxHeartbeats 40000000 in
theorem u_c5_1 (l : Launch) (Z : State) (a0 : Array Value) (hw : ∀ d ∈ tables_1, d.before a0 Z = true) (hEL : EW Z a0 consts_1) (b d : Addr) (c0 : Int32) (h : Heap) (A_b : Ary Z h b .char [(.int c0)]) (A_d : Ary Z h d .byte [(.int (0 : Int32))]) (ne_b_d : b ≠ d) (g_d : Z.heap.size ≤ d) (hl : ∃ c ∈ ([c0] : List Int32), (255 : Int32) < c) :
    Con l Z consts_1 False (⟨"java/lang/StringUTF16", "compress", "([CI[BII)I"⟩ : MethodName) jdk_52_method_21_code 7 (some .int) ({ frames := 0, cells := 0, slots := 0, locals := 0 } : Room) [d] #[(.ref b), (.int (0 : Int32)), (.ref d), (.int (0 : Int32)), (.int (1 : Int32))] h (fun v h' ws' => ∃ j, v = some (.int (Int32.ofNat j)) ∧ j < 1 ∧ (255 : Int32) < ([c0] : List Int32).getD j 0 ∧ Keep h h' [d] ∧ ws' = [d]) := by
  refine Con.intro own_pn15 (fun p e s m below meth c T X => ?_)
  rw [ef_u_c5_1 m b d c0]
  have K_ : Keep h h [d] := Keep.refl _ _
  refine s_iconst X (pc' := 1) d20_0 (v := (0 : Int32)) rfl rfl ?_
  refine s_istore X (pc' := 3) (L' := #[.val (.ref b), .val (.int (0 : Int32)), .val (.ref d), .val (.int (0 : Int32)), .val (.int (1 : Int32)), .val (.int (0 : Int32)), .unset]) d20_1 rfl rfl ?_
  refine s_iload X (pc' := 5) d20_3 rfl rfl ?_
  refine s_iload X (pc' := 7) d20_5 rfl rfl ?_
  refine s_icmpF X (pc' := 10) d20_7 (show (0 : Int32) < (1 : Int32) by decide) rfl ?_
  refine s_aloadN X (pc' := 11) d20_10 rfl rfl rfl ?_
  refine s_iloadN X (pc' := 12) d20_11 rfl rfl ?_
  refine s_caload X (pc' := 13) (i := 0) (v := (.int c0)) d20_12 A_b rfl rfl rfl ?_
  refine s_istore X (pc' := 15) (L' := #[.val (.ref b), .val (.int (0 : Int32)), .val (.ref d), .val (.int (0 : Int32)), .val (.int (1 : Int32)), .val (.int (0 : Int32)), .val (.int c0)]) d20_13 rfl rfl ?_
  refine s_iload X (pc' := 17) d20_15 rfl rfl ?_
  refine s_sipush X (pc' := 20) d20_17 (v := (255 : Int32)) (by decide) rfl ?_
  refine s_icmp X (pc' := 26) (pcF := 23) d20_20 (by decide) (by decide) rfl (fun (q0 : ¬ (255 : Int32) < c0) => ?_) (fun (q0 : (255 : Int32) < c0) => ?_)
  · obtain ⟨c, hc, hw'⟩ := hl
    simp only [List.mem_cons, List.not_mem_nil, or_false] at hc
    subst hc
    exact absurd hw' q0
  · refine s_iload X (pc' := 25) d20_23 rfl rfl ?_
    exact s_iret X hEL (ws' := [d]) d20_25 (by decide) (by decide) (by simp) ⟨0, rfl, (by decide), q0, K_, rfl⟩
theorem ef_u_c3_1 (m : MethodId) (b : Addr) (c0 : Int32) : entryFrame m #[(.ref b), (.int (0 : Int32)), (.int (1 : Int32))] 6 = mkF m 0 #[.val (.ref b), .val (.int (0 : Int32)), .val (.int (1 : Int32)), .unset, .unset, .unset] [] := by first | (simp [entryFrame, mkF, argsToLocals, Value.category]; done) | rfl
set_option maxRecDepth 65536 in
set_option maxHeartbeats 40000000 in
theorem u_c3_1 (l : Launch) (Z : State) (a0 : Array Value) (hw : ∀ d ∈ tables_1, d.before a0 Z = true) (hEL : EW Z a0 consts_1) (b : Addr) (c0 : Int32) (h : Heap) (A_b : Ary Z h b .char [(.int c0)]) (hp : ∀ c ∈ ([c0] : List Int32), ¬ c < 0 ∧ ¬ (65535 : Int32) < c) (hl : ∃ c ∈ ([c0] : List Int32), (255 : Int32) < c) (U : U16 Z) :
    Con l Z consts_1 False (⟨"java/lang/StringUTF16", "compress", "([CII)[B"⟩ : MethodName) jdk_52_method_16_code 6 (some (.array .byte)) ({ frames := 3, cells := 2, slots := 3, locals := 40 } : Room) [] #[(.ref b), (.int (0 : Int32)), (.int (1 : Int32))] h (fun v h' ws' => ∃ t, v = some (.ref t) ∧ Ext h h' ∧ Ary Z h' t .byte (wbs [c0]) ∧ ws' = []) := by
  refine Con.intro own_pn16 (fun p e s m below meth c T X => ?_)
  rw [ef_u_c3_1 m b c0]
  have R_ : Ext h h := ext_refl _
  refine s_iloadN X (pc' := 1) d19_0 rfl rfl ?_
  refine s_newarr X (pc' := 3) (k' := 1) (n' := 1) (N := 1) d19_1 (hw _ (List.mem_of_getElem? (i := 22) rfl)) rfl (by decide) (by decide) (by decide) (by decide) (by decide) rfl (fun T h33 d gb_d X' E34 A_d => ?_)
  have g_d : Z.heap.size ≤ d := by rw [gb_d]; exact X.lt
  have ne_b_d : b ≠ d := Nat.ne_of_lt (by rw [gb_d]; exact A_b.lt)
  have sz_R__d : h.size ≤ d := by rw [gb_d]; exact R_.1
  replace A_b := A_b.ext E34
  replace R_ := ext_trans R_ E34
  replace X := X'
  replace A_d : Ary Z h33 d .byte [(.int (0 : Int32))] := A_d
  refine s_astoreN X (pc' := 4) (L' := #[.val (.ref b), .val (.int (0 : Int32)), .val (.int (1 : Int32)), .val (.ref d), .unset, .unset]) d19_3 rfl rfl rfl ?_
  refine s_aloadN X (pc' := 5) d19_4 rfl rfl rfl ?_
  refine s_iloadN X (pc' := 6) d19_5 rfl rfl ?_
  refine s_aloadN X (pc' := 7) d19_6 rfl rfl rfl ?_
  refine s_iconst X (pc' := 8) d19_7 (v := (0 : Int32)) rfl rfl ?_
  refine s_iloadN X (pc' := 9) d19_8 rfl rfl ?_
  refine s_static X (pc' := 12) (W := 0) (as' := [(.ref b), (.int (0 : Int32)), (.ref d), (.int (0 : Int32)), (.int (1 : Int32))]) (S := []) (k' := 1) (n' := 1) d19_9 (hw _ (List.mem_of_getElem? (i := 100) rfl)) (hw _ (List.mem_of_getElem? (i := 101) rfl)) (hw _ (List.mem_of_getElem? (i := 98) rfl)) (hw _ (List.mem_of_getElem? (i := 102) rfl)) (by decide) own_pd9 rfl ((u_c5_1 l Z a0 hw hEL b d c0 _ A_b A_d ne_b_d g_d hl).payS (by simp) (hw _ (List.mem_of_getElem? (i := 102) rfl)) (hw _ (List.mem_of_getElem? (i := 98) rfl)) hEL (by decide) (by decide)) (Nat.le_of_ble_eq_true rfl) rfl rfl (by decide) (by decide) (by decide) (by decide) rfl (fun T h35 v_ ws_ X hgr_ q36 => ?_)
  obtain ⟨j, rfl, hj, hjw, K_, rfl⟩ := q36
  show Go p e below _ T (mkF m 12 #[.val (.ref b), .val (.int (0 : Int32)), .val (.int (1 : Int32)), .val (.ref d), .unset, .unset] [(.int (Int32.ofNat j))])
  replace X := X.sub (ws' := [d]) (by simp)
  replace A_b := A_b.keep K_ (ninS ne_b_d nin0)
  replace R_ := ext_keep R_ K_ (allS sz_R__d all0)
  refine s_istore X (pc' := 14) (L' := #[.val (.ref b), .val (.int (0 : Int32)), .val (.int (1 : Int32)), .val (.ref d), .val (.int (Int32.ofNat j)), .unset]) d19_12 rfl rfl ?_
  refine s_iload X (pc' := 16) d19_14 rfl rfl ?_
  refine s_iloadN X (pc' := 17) d19_16 rfl rfl ?_
  refine s_icmpF X (pc' := 20) d19_17 (show ¬ Int32.ofNat j = (1 : Int32) from fun z => Nat.ne_of_lt hj ((on_eq (by omega) (by decide)).mp z)) rfl ?_
  refine s_aloadN X (pc' := 21) d19_20 rfl rfl rfl ?_
  refine s_iloadN X (pc' := 22) d19_21 rfl rfl ?_
  refine s_iloadN X (pc' := 23) d19_22 rfl rfl ?_
  refine s_static X (pc' := 26) (W := 0) (as' := [(.ref b), (.int (0 : Int32)), (.int (1 : Int32))]) (S := []) (k' := 2) (n' := 3) d19_23 (hw _ (List.mem_of_getElem? (i := 128) rfl)) (hw _ (List.mem_of_getElem? (i := 129) rfl)) (hw _ (List.mem_of_getElem? (i := 98) rfl)) (hw _ (List.mem_of_getElem? (i := 130) rfl)) (by decide) own_pd10 rfl ((u_tb1 l Z a0 hw hEL b c0 _ A_b U).payS (by simp) (hw _ (List.mem_of_getElem? (i := 130) rfl)) (hw _ (List.mem_of_getElem? (i := 98) rfl)) hEL (by decide) (by decide)) (Nat.le_of_ble_eq_true rfl) rfl rfl (by decide) (by decide) (by decide) (by decide) rfl (fun T h37 v_ ws_ X hgr_ q38 => ?_)
  obtain ⟨t, rfl, E_, -, A_t, rfl⟩ := q38
  show Go p e below _ T (mkF m 26 #[.val (.ref b), .val (.int (0 : Int32)), .val (.int (1 : Int32)), .val (.ref d), .val (.int (Int32.ofNat j)), .unset] [(.ref t)])
  replace X := X.sub (ws' := []) (by simp)
  replace A_b := A_b.ext E_
  replace R_ := ext_trans R_ E_
  refine s_astore X (pc' := 28) (L' := #[.val (.ref b), .val (.int (0 : Int32)), .val (.int (1 : Int32)), .val (.ref d), .val (.int (Int32.ofNat j)), .val (.ref t)]) d19_26 rfl rfl rfl ?_
  refine s_aload X (pc' := 30) d19_28 rfl rfl rfl ?_
  refine s_iload X (pc' := 32) d19_30 rfl rfl ?_
  refine s_static X (pc' := 35) (W := 0) (as' := [(.ref t), (.int (Int32.ofNat j))]) (S := []) (k' := 2) (n' := 3) d19_32 (hw _ (List.mem_of_getElem? (i := 144) rfl)) (hw _ (List.mem_of_getElem? (i := 145) rfl)) (hw _ (List.mem_of_getElem? (i := 98) rfl)) (hw _ (List.mem_of_getElem? (i := 146) rfl)) (by decide) own_pd11 rfl ((u_get l Z a0 hw hEL t [c0] j _ A_t (Nat.le_of_ble_eq_true rfl) hj hp U).payS (by simp) (hw _ (List.mem_of_getElem? (i := 146) rfl)) (hw _ (List.mem_of_getElem? (i := 98) rfl)) hEL (by decide) (by decide)) (Nat.le_of_ble_eq_true rfl) rfl rfl (by decide) (by decide) (by decide) (by decide) rfl (fun T h39 v_ ws_ X hgr_ q40 => ?_)
  obtain ⟨rfl, e_, rfl⟩ := q40
  rw [e_] at X
  show Go p e below _ T (mkF m 35 #[.val (.ref b), .val (.int (0 : Int32)), .val (.int (1 : Int32)), .val (.ref d), .val (.int (Int32.ofNat j)), .val (.ref t)] [(.int (([c0] : List Int32).getD j 0))])
  replace X := X.sub (ws' := []) (by simp)
  refine s_sipush X (pc' := 38) d19_35 (v := (255 : Int32)) (by decide) rfl ?_
  refine s_icmpT X (pc' := 54) d19_38 hjw (by decide) (by decide) ?_
  refine s_aload X (pc' := 56) d19_54 rfl rfl rfl ?_
  exact s_aret X hEL (ws' := []) (t := (.array .byte)) d19_56 rfl rfl rfl rfl (by decide) (by decide) (fun x q => by simp at q) ⟨t, rfl, R_, A_t, rfl⟩
theorem ef_u_cf1 (m : MethodId) (t : Addr) : entryFrame m #[(.ref t), (.int (1 : Int32))] 2 = mkF m 0 #[.val (.ref t), .val (.int (1 : Int32))] [] := by first | (simp [entryFrame, mkF, argsToLocals, Value.category]; done) | rfl
set_option maxRecDepth 65536 in
set_option maxHeartbeats 40000000 in
theorem u_cf1 (l : Launch) (Z : State) (a0 : Array Value) (hw : ∀ d ∈ tables_1, d.before a0 Z = true) (hEL : EW Z a0 consts_1) (t : Addr) (h : Heap) {vs : List Value} (A_t : Ary Z h t .byte vs) (hv : vs.length = 2) :
    Con l Z consts_1 False (⟨"java/lang/StringUTF16", "coderFromArrayLen", "([BI)B"⟩ : MethodName) jdk_52_method_15_code 2 (some .byte) ({ frames := 0, cells := 0, slots := 0, locals := 0 } : Room) [] #[(.ref t), (.int (1 : Int32))] h (fun v h' ws' => v = some (.int ((1 : Int32))) ∧ h' = h ∧ ws' = []) := by
  refine Con.intro own_pn17 (fun p e s m below meth c T X => ?_)
  rw [ef_u_cf1 m t]
  refine s_iloadN X (pc' := 1) d21_0 rfl rfl ?_
  refine s_aloadN X (pc' := 2) d21_1 rfl rfl rfl ?_
  refine s_alen X (pc' := 3) (z := (2 : Int32)) d21_2 A_t (by rw [hv]; rfl) rfl ?_
  refine s_isub X (pc' := 4) d21_3 rfl ?_
  refine s_bipush X (pc' := 6) d21_4 (v := (31 : Int32)) (by decide) rfl ?_
  refine s_iushr X (pc' := 7) d21_6 rfl ?_
  refine s_i2b X (pc' := 8) d21_7 rfl ?_
  refine go_int (z := (1 : Int32)) (by decide) ?_
  exact s_iretN X hEL (ws' := []) (t := .byte) d21_8 rfl (by simp) (by decide) (by decide) (fun x q => by simp at q) ⟨rfl, rfl, rfl⟩
theorem ef_u_i2_1 (m : MethodId) (x b : Addr) (c0 : Int32) : entryFrame m #[(.ref x), (.ref b), (.int (0 : Int32)), (.int (1 : Int32)), .null] 6 = mkF m 0 #[.val (.ref x), .val (.ref b), .val (.int (0 : Int32)), .val (.int (1 : Int32)), .val .null, .unset] [] := by first | (simp [entryFrame, mkF, argsToLocals, Value.category]; done) | rfl
set_option maxRecDepth 65536 in
set_option maxHeartbeats 40000000 in
theorem u_i2_1 (l : Launch) (Z : State) (a0 : Array Value) (hw : ∀ d ∈ tables_1, d.before a0 Z = true) (hEL : EW Z a0 consts_1) (x b : Addr) (c0 : Int32) {G1 : Int32} (h : Heap) (hE : Ext Z.heap h) (g_x : Z.heap.size ≤ x) (E_x : Exa Z h x "java/lang/String") (F_x_value : Fld Z h x "java/lang/String" "value" "[B" .null) (F_x_coder : Fld Z h x "java/lang/String" "coder" "B" (.int (0 : Int32))) (A_b : Ary Z h b .char [(.int c0)]) (hp : ∀ c ∈ ([c0] : List Int32), ¬ c < 0 ∧ ¬ (65535 : Int32) < c) (hl : ∃ c ∈ ([c0] : List Int32), (255 : Int32) < c) (O2 : Sta Z Z.heap "java/lang/String" "COMPACT_STRINGS" "Z" (.int G1)) (P5 : ¬ (G1 = (0 : Int32))) (U : U16 Z) :
    Con l Z consts_1 False (⟨"java/lang/String", "<init>", "([CIILjava/lang/Void;)V"⟩ : MethodName) jdk_42_method_149_code 6 none ({ frames := 4, cells := 2, slots := 3, locals := 57 } : Room) [x] #[(.ref x), (.ref b), (.int (0 : Int32)), (.int (1 : Int32)), .null] h (fun v h' ws' => v = none ∧ Keep h h' [x] ∧ Str Z h' x [c0] ∧ ws' = []) := by
  refine Con.intro own_pn0 (fun p e s m below meth c T X => ?_)
  rw [ef_u_i2_1 m x b c0]
  have K_ : Keep h h [x] := Keep.refl _ _
  refine s_aloadN X (pc' := 1) d3_0 rfl rfl rfl ?_
  refine s_initO X (pc' := 4) (W := 0) d3_1 (hw _ (List.mem_of_getElem? (i := 18) rfl)) (hw _ (List.mem_of_getElem? (i := 19) rfl)) (b' := object_method_1_code) rfl (hw _ (List.mem_of_getElem? (i := 20) rfl)) (Nat.le_of_ble_eq_true rfl) (by decide) (by decide) rfl rfl (fun T X => ?_)
  refine s_iloadN X (pc' := 5) d3_4 rfl rfl ?_
  refine s_ifT X (pc' := 27) d3_5 (show ¬ (1 : Int32) = (0 : Int32) by decide) (by decide) (by decide) ?_
  refine s_gets X (pc' := 30) d3_27 (hw _ (List.mem_of_getElem? (i := 50) rfl)) Via.refl O2 rfl (fun T X => ?_)
  refine s_ifF X (pc' := 33) d3_30 P5 rfl ?_
  refine s_aloadN X (pc' := 34) d3_33 rfl rfl rfl ?_
  refine s_iloadN X (pc' := 35) d3_34 rfl rfl ?_
  refine s_iloadN X (pc' := 36) d3_35 rfl rfl ?_
  refine s_static X (pc' := 39) (W := 0) (as' := [(.ref b), (.int (0 : Int32)), (.int (1 : Int32))]) (S := []) (k' := 2) (n' := 3) d3_36 (hw _ (List.mem_of_getElem? (i := 96) rfl)) (hw _ (List.mem_of_getElem? (i := 97) rfl)) (hw _ (List.mem_of_getElem? (i := 98) rfl)) (hw _ (List.mem_of_getElem? (i := 99) rfl)) (by decide) own_pd10 rfl ((u_c3_1 l Z a0 hw hEL b c0 _ A_b hp hl U).payS (by simp) (hw _ (List.mem_of_getElem? (i := 99) rfl)) (hw _ (List.mem_of_getElem? (i := 98) rfl)) hEL (by decide) (by decide)) (Nat.le_of_ble_eq_true rfl) rfl rfl (by decide) (by decide) (by decide) (by decide) rfl (fun T h41 v_ ws_ X hgr_ q42 => ?_)
  obtain ⟨t, rfl, E_, A_t, rfl⟩ := q42
  show Go p e below _ T (mkF m 39 #[.val (.ref x), .val (.ref b), .val (.int (0 : Int32)), .val (.int (1 : Int32)), .val .null, .unset] [(.ref t)])
  replace X := X.sub (ws' := [x]) (by simp)
  replace E_x := E_x.ext E_
  replace F_x_value := F_x_value.ext E_
  replace F_x_coder := F_x_coder.ext E_
  replace K_ := K_.ext E_
  refine s_astore X (pc' := 41) (L' := #[.val (.ref x), .val (.ref b), .val (.int (0 : Int32)), .val (.int (1 : Int32)), .val .null, .val (.ref t)]) d3_39 rfl rfl rfl ?_
  refine s_aloadN X (pc' := 42) d3_41 rfl rfl rfl ?_
  refine s_aload X (pc' := 44) d3_42 rfl rfl rfl ?_
  refine s_iloadN X (pc' := 45) d3_44 rfl rfl ?_
  refine s_static X (pc' := 48) (W := 1) (as' := [(.ref t), (.int (1 : Int32))]) (S := [(.ref x)]) (k' := 2) (n' := 3) d3_45 (hw _ (List.mem_of_getElem? (i := 103) rfl)) (hw _ (List.mem_of_getElem? (i := 104) rfl)) (hw _ (List.mem_of_getElem? (i := 98) rfl)) (hw _ (List.mem_of_getElem? (i := 105) rfl)) (by decide) own_pd12 rfl ((u_cf1 l Z a0 hw hEL t _ A_t rfl).payS (by simp) (hw _ (List.mem_of_getElem? (i := 105) rfl)) (hw _ (List.mem_of_getElem? (i := 98) rfl)) hEL (by decide) (by decide)) (Nat.le_of_ble_eq_true rfl) rfl rfl (by decide) (by decide) (by decide) (by decide) rfl (fun T h43 v_ ws_ X hgr_ q44 => ?_)
  obtain ⟨rfl, e_, rfl⟩ := q44
  rw [e_] at X
  show Go p e below _ T (mkF m 48 #[.val (.ref x), .val (.ref b), .val (.int (0 : Int32)), .val (.int (1 : Int32)), .val .null, .val (.ref t)] [(.int (1 : Int32)), (.ref x)])
  replace X := X.sub (ws' := [x]) (by simp)
  have ne_t_x : t ≠ x := by obtain ⟨kc, q⟩ := A_t.arv .null; exact (Exa.neArv E_x q (hw _ (List.mem_of_getElem? (i := 9) rfl))).symm
  refine s_putf X (pc' := 51) d3_48 (hw _ (List.mem_of_getElem? (i := 28) rfl)) Via.refl F_x_coder E_x (Or.inr ⟨(hw _ (List.mem_of_getElem? (i := 24) rfl)), rfl, rfl⟩) (hw _ (List.mem_of_getElem? (i := 9) rfl)) (ty := .byte) (by decide) rfl rfl g_x (by simp) rfl (fun T h45 X W46 => ?_)
  replace F_x_value := F_x_value.other W46 (Or.inr (slot_ne (Or.inr (hw _ (List.mem_of_getElem? (i := 23) rfl))) (Or.inr (hw _ (List.mem_of_getElem? (i := 24) rfl))) (t := (.array .byte)) (t' := .byte) (by decide) (by decide) (by decide)))
  replace F_x_coder := F_x_coder.same W46
  replace A_t := A_t.other W46 ne_t_x
  replace E_x := E_x.wr W46
  replace K_ := K_.wr W46 (Or.inl (by simp))
  refine s_aloadN X (pc' := 52) d3_51 rfl rfl rfl ?_
  refine s_aload X (pc' := 54) d3_52 rfl rfl rfl ?_
  refine s_putf X (pc' := 57) d3_54 (hw _ (List.mem_of_getElem? (i := 27) rfl)) Via.refl F_x_value E_x (Or.inr ⟨(hw _ (List.mem_of_getElem? (i := 23) rfl)), rfl, rfl⟩) (hw _ (List.mem_of_getElem? (i := 9) rfl)) (ty := (.array .byte)) (by decide) rfl rfl g_x (by simp) rfl (fun T h47 X W48 => ?_)
  replace F_x_value := F_x_value.same W48
  replace F_x_coder := F_x_coder.other W48 (Or.inr (slot_ne (Or.inr (hw _ (List.mem_of_getElem? (i := 24) rfl))) (Or.inr (hw _ (List.mem_of_getElem? (i := 23) rfl))) (t := .byte) (t' := (.array .byte)) (by decide) (by decide) (by decide)))
  replace A_t := A_t.other W48 ne_t_x
  replace E_x := E_x.wr W48
  replace K_ := K_.wr W48 (Or.inl (by simp))
  exact s_ret X hEL (ws' := []) d3_57 (by decide) (by decide) (fun x q => by simp at q) ⟨rfl, K_, Str.ofWide E_x F_x_value F_x_coder A_t hp (Nat.le_of_ble_eq_true rfl) hl, rfl⟩
theorem ef_u_i1_1 (m : MethodId) (x b : Addr) (c0 : Int32) : entryFrame m #[(.ref x), (.ref b)] 2 = mkF m 0 #[.val (.ref x), .val (.ref b)] [] := by first | (simp [entryFrame, mkF, argsToLocals, Value.category]; done) | rfl
set_option maxRecDepth 65536 in
set_option maxHeartbeats 40000000 in
theorem u_i1_1 (l : Launch) (Z : State) (a0 : Array Value) (hw : ∀ d ∈ tables_1, d.before a0 Z = true) (hEL : EW Z a0 consts_1) (x b : Addr) (c0 : Int32) {G1 : Int32} (h : Heap) (hE : Ext Z.heap h) (g_x : Z.heap.size ≤ x) (E_x : Exa Z h x "java/lang/String") (F_x_value : Fld Z h x "java/lang/String" "value" "[B" .null) (F_x_coder : Fld Z h x "java/lang/String" "coder" "B" (.int (0 : Int32))) (A_b : Ary Z h b .char [(.int c0)]) (hp : ∀ c ∈ ([c0] : List Int32), ¬ c < 0 ∧ ¬ (65535 : Int32) < c) (hl : ∃ c ∈ ([c0] : List Int32), (255 : Int32) < c) (O2 : Sta Z Z.heap "java/lang/String" "COMPACT_STRINGS" "Z" (.int G1)) (P5 : ¬ (G1 = (0 : Int32))) (U : U16 Z) :
    Con l Z consts_1 False (⟨"java/lang/String", "<init>", "([C)V"⟩ : MethodName) jdk_42_method_3_code 2 none ({ frames := 5, cells := 2, slots := 3, locals := 74 } : Room) [x] #[(.ref x), (.ref b)] h (fun v h' ws' => v = none ∧ Keep h h' [x] ∧ Str Z h' x [c0] ∧ ws' = []) := by
  refine Con.intro own_pn1 (fun p e s m below meth c T X => ?_)
  rw [ef_u_i1_1 m x b c0]
  refine s_aloadN X (pc' := 1) d2_0 rfl rfl rfl ?_
  refine s_aloadN X (pc' := 2) d2_1 rfl rfl rfl ?_
  refine s_iconst X (pc' := 3) d2_2 (v := (0 : Int32)) rfl rfl ?_
  refine s_aloadN X (pc' := 4) d2_3 rfl rfl rfl ?_
  refine s_alen X (pc' := 5) (z := (1 : Int32)) d2_4 A_b rfl rfl ?_
  refine s_aconst X (pc' := 6) d2_5 rfl ?_
  refine s_special X (pc' := 9) (W := 0) (as' := [(.ref b), (.int (0 : Int32)), (.int (1 : Int32)), .null]) (S := []) (k' := 2) (n' := 3) d2_6 rfl (hw _ (List.mem_of_getElem? (i := 14) rfl)) (hw _ (List.mem_of_getElem? (i := 15) rfl)) (hw _ (List.mem_of_getElem? (i := 17) rfl)) (by decide) own_pd0 rfl ((u_i2_1 l Z a0 hw hEL x b c0 _ hE g_x E_x F_x_value F_x_coder A_b hp hl O2 P5 U).payS (by simp) (hw _ (List.mem_of_getElem? (i := 17) rfl)) (hw _ (List.mem_of_getElem? (i := 10) rfl)) hEL (by decide) (by decide)) (Nat.le_of_ble_eq_true rfl) rfl rfl (by decide) (by decide) (by decide) (by decide) rfl (fun T h49 v_ ws_ X hgr_ q50 => ?_)
  obtain ⟨rfl, K_, S_, rfl⟩ := q50
  show Go p e below _ T (mkF m 9 #[.val (.ref x), .val (.ref b)] [])
  replace X := X.sub (ws' := [x]) (by simp)
  exact s_ret X hEL (ws' := []) d2_9 (by decide) (by decide) (fun x q => by simp at q) ⟨rfl, K_, S_, rfl⟩
theorem ef_u_nbl2 (m : MethodId)  : entryFrame m #[(.int (2 : Int32))] 1 = mkF m 0 #[.val (.int (2 : Int32))] [] := by first | (simp [entryFrame, mkF, argsToLocals, Value.category]; done) | rfl
set_option maxRecDepth 65536 in
set_option maxHeartbeats 40000000 in
theorem u_nbl2 (l : Launch) (Z : State) (a0 : Array Value) (hw : ∀ d ∈ tables_1, d.before a0 Z = true) (hEL : EW Z a0 consts_1)  (h : Heap)  :
    Con l Z consts_1 False (⟨"java/lang/StringUTF16", "newBytesLength", "(I)I"⟩ : MethodName) jdk_52_method_3_code 1 (some .int) ({ frames := 0, cells := 0, slots := 0, locals := 0 } : Room) [] #[(.int (2 : Int32))] h (fun v h' ws' => v = some (.int ((4 : Int32))) ∧ h' = h ∧ ws' = []) := by
  refine Con.intro own_pn12 (fun p e s m below meth c T X => ?_)
  rw [ef_u_nbl2 m ]
  refine s_iloadN X (pc' := 1) d30_0 rfl rfl ?_
  refine s_ifT X (pc' := 12) d30_1 (show ¬ (2 : Int32) < (0 : Int32) by decide) (by decide) (by decide) ?_
  refine s_iloadN X (pc' := 13) d30_12 rfl rfl ?_
  refine s_ldcI X (pc' := 15) d30_13 (hw _ (List.mem_of_getElem? (i := 137) rfl)) rfl ?_
  refine s_icmpT X (pc' := 55) d30_15 (show (2 : Int32) < (1073741823 : Int32) by decide) (by decide) (by decide) ?_
  refine s_iloadN X (pc' := 56) d30_55 rfl rfl ?_
  refine s_iconst X (pc' := 57) d30_56 (v := (1 : Int32)) rfl rfl ?_
  refine s_ishl X (pc' := 58) d30_57 rfl ?_
  refine go_int (z := (4 : Int32)) (by decide) ?_
  exact s_iret X hEL (ws' := []) d30_58 (by decide) (by decide) (fun x q => by simp at q) ⟨rfl, rfl, rfl⟩
theorem ef_u_nbf2 (m : MethodId)  : entryFrame m #[(.int (2 : Int32))] 1 = mkF m 0 #[.val (.int (2 : Int32))] [] := by first | (simp [entryFrame, mkF, argsToLocals, Value.category]; done) | rfl
set_option maxRecDepth 65536 in
set_option maxHeartbeats 40000000 in
theorem u_nbf2 (l : Launch) (Z : State) (a0 : Array Value) (hw : ∀ d ∈ tables_1, d.before a0 Z = true) (hEL : EW Z a0 consts_1)  (h : Heap)  :
    Con l Z consts_1 False (⟨"java/lang/StringUTF16", "newBytesFor", "(I)[B"⟩ : MethodName) jdk_52_method_2_code 1 (some (.array .byte)) ({ frames := 1, cells := 1, slots := 4, locals := 12 } : Room) [] #[(.int (2 : Int32))] h (fun v h' ws' => ∃ t, v = some (.ref t) ∧ Ext h h' ∧ h.size ≤ t ∧ Ary Z h' t .byte [(.int (0 : Int32)), (.int (0 : Int32)), (.int (0 : Int32)), (.int (0 : Int32))] ∧ ws' = [t]) := by
  refine Con.intro own_pn13 (fun p e s m below meth c T X => ?_)
  rw [ef_u_nbf2 m ]
  have R_ : Ext h h := ext_refl _
  refine s_iloadN X (pc' := 1) d29_0 rfl rfl ?_
  refine s_static X (pc' := 4) (W := 0) (as' := [(.int (2 : Int32))]) (S := []) (k' := 0) (n' := 0) d29_1 (hw _ (List.mem_of_getElem? (i := 134) rfl)) (hw _ (List.mem_of_getElem? (i := 135) rfl)) (hw _ (List.mem_of_getElem? (i := 98) rfl)) (hw _ (List.mem_of_getElem? (i := 136) rfl)) (by decide) own_pd6 rfl ((u_nbl2 l Z a0 hw hEL _).payS (by simp) (hw _ (List.mem_of_getElem? (i := 136) rfl)) (hw _ (List.mem_of_getElem? (i := 98) rfl)) hEL (by decide) (by decide)) (Nat.le_of_ble_eq_true rfl) rfl rfl (by decide) (by decide) (by decide) (by decide) rfl (fun T h51 v_ ws_ X hgr_ q52 => ?_)
  obtain ⟨rfl, e_, rfl⟩ := q52
  rw [e_] at X
  show Go p e below _ T (mkF m 4 #[.val (.int (2 : Int32))] [(.int (4 : Int32))])
  replace X := X.sub (ws' := []) (by simp)
  refine s_newarr X (pc' := 6) (k' := 1) (n' := 4) (N := 4) d29_4 (hw _ (List.mem_of_getElem? (i := 22) rfl)) rfl (by decide) (by decide) (by decide) (by decide) (by decide) rfl (fun T h53 t gb_t X' E54 A_t => ?_)
  have g_t : Z.heap.size ≤ t := by rw [gb_t]; exact X.lt
  have sz_R__t : h.size ≤ t := by rw [gb_t]; exact R_.1
  replace R_ := ext_trans R_ E54
  replace X := X'
  replace A_t : Ary Z h53 t .byte [(.int (0 : Int32)), (.int (0 : Int32)), (.int (0 : Int32)), (.int (0 : Int32))] := A_t
  exact s_aret X hEL (ws' := [t]) (t := (.array .byte)) d29_6 rfl rfl rfl rfl (by decide) (by decide) (by simp) ⟨t, rfl, R_, sz_R__t, A_t, rfl⟩
theorem ef_u_tb2 (m : MethodId) (b : Addr) (c0 c1 : Int32) : entryFrame m #[(.ref b), (.int (0 : Int32)), (.int (2 : Int32))] 5 = mkF m 0 #[.val (.ref b), .val (.int (0 : Int32)), .val (.int (2 : Int32)), .unset, .unset] [] := by first | (simp [entryFrame, mkF, argsToLocals, Value.category]; done) | rfl
set_option maxRecDepth 65536 in
set_option maxHeartbeats 40000000 in
theorem u_tb2 (l : Launch) (Z : State) (a0 : Array Value) (hw : ∀ d ∈ tables_1, d.before a0 Z = true) (hEL : EW Z a0 consts_1) (b : Addr) (c0 c1 : Int32) (h : Heap) (A_b : Ary Z h b .char [(.int c0), (.int c1)]) (U : U16 Z) :
    Con l Z consts_1 False (⟨"java/lang/StringUTF16", "toBytes", "([CII)[B"⟩ : MethodName) jdk_52_method_14_code 5 (some (.array .byte)) ({ frames := 2, cells := 1, slots := 4, locals := 24 } : Room) [] #[(.ref b), (.int (0 : Int32)), (.int (2 : Int32))] h (fun v h' ws' => ∃ t, v = some (.ref t) ∧ Ext h h' ∧ h.size ≤ t ∧ Ary Z h' t .byte (wbs [c0, c1]) ∧ ws' = [t]) := by
  refine Con.intro own_pn14 (fun p e s m below meth c T X => ?_)
  rw [ef_u_tb2 m b c0 c1]
  have R_ : Ext h h := ext_refl _
  have hz0 := X.old.1
  have hz1 := A_b.lt
  refine s_iloadN X (pc' := 1) d28_0 rfl rfl ?_
  refine s_static X (pc' := 4) (W := 0) (as' := [(.int (2 : Int32))]) (S := []) (k' := 1) (n' := 4) d28_1 (hw _ (List.mem_of_getElem? (i := 131) rfl)) (hw _ (List.mem_of_getElem? (i := 132) rfl)) (hw _ (List.mem_of_getElem? (i := 98) rfl)) (hw _ (List.mem_of_getElem? (i := 133) rfl)) (by decide) own_pd7 rfl ((u_nbf2 l Z a0 hw hEL _).payS (by simp) (hw _ (List.mem_of_getElem? (i := 133) rfl)) (hw _ (List.mem_of_getElem? (i := 98) rfl)) hEL (by decide) (by decide)) (Nat.le_of_ble_eq_true rfl) rfl rfl (by decide) (by decide) (by decide) (by decide) rfl (fun T h55 v_ ws_ X hgr_ q56 => ?_)
  obtain ⟨t, rfl, E_, sz_R__t, A_t, rfl⟩ := q56
  show Go p e below _ T (mkF m 4 #[.val (.ref b), .val (.int (0 : Int32)), .val (.int (2 : Int32)), .unset, .unset] [(.ref t)])
  replace X := X.sub (ws' := [t]) (by simp)
  replace A_b := A_b.ext E_
  replace R_ := ext_trans R_ E_
  have g_t : Z.heap.size ≤ t := Nat.le_trans hz0 sz_R__t
  have ne_b_t : b ≠ t := Nat.ne_of_lt (Nat.lt_of_lt_of_le hz1 sz_R__t)
  refine s_astoreN X (pc' := 5) (L' := #[.val (.ref b), .val (.int (0 : Int32)), .val (.int (2 : Int32)), .val (.ref t), .unset]) d28_4 rfl rfl rfl ?_
  refine s_iconst X (pc' := 6) d28_5 (v := (0 : Int32)) rfl rfl ?_
  refine s_istore X (pc' := 8) (L' := #[.val (.ref b), .val (.int (0 : Int32)), .val (.int (2 : Int32)), .val (.ref t), .val (.int (0 : Int32))]) d28_6 rfl rfl ?_
  refine s_iload X (pc' := 10) d28_8 rfl rfl ?_
  refine s_iloadN X (pc' := 11) d28_10 rfl rfl ?_
  refine s_icmpF X (pc' := 14) d28_11 (show (0 : Int32) < (2 : Int32) by decide) rfl ?_
  refine s_aloadN X (pc' := 15) d28_14 rfl rfl rfl ?_
  refine s_iload X (pc' := 17) d28_15 rfl rfl ?_
  refine s_aloadN X (pc' := 18) d28_17 rfl rfl rfl ?_
  refine s_iloadN X (pc' := 19) d28_18 rfl rfl ?_
  refine s_caload X (pc' := 20) (i := 0) (v := (.int c0)) d28_19 A_b rfl rfl rfl ?_
  refine s_static X (pc' := 23) (W := 0) (as' := [(.ref t), (.int (0 : Int32)), (.int c0)]) (S := []) (k' := 1) (n' := 4) d28_20 (hw _ (List.mem_of_getElem? (i := 138) rfl)) (hw _ (List.mem_of_getElem? (i := 139) rfl)) (hw _ (List.mem_of_getElem? (i := 98) rfl)) (hw _ (List.mem_of_getElem? (i := 140) rfl)) (by decide) own_pd8 rfl ((u_put l Z a0 hw hEL t _ 0 c0 _ A_t (Nat.le_of_ble_eq_true rfl) (Nat.le_of_ble_eq_true rfl) g_t U).payS (by simp) (hw _ (List.mem_of_getElem? (i := 140) rfl)) (hw _ (List.mem_of_getElem? (i := 98) rfl)) hEL (by decide) (by decide)) (Nat.le_of_ble_eq_true rfl) rfl rfl (by decide) (by decide) (by decide) (by decide) rfl (fun T h57 v_ ws_ X hgr_ q58 => ?_)
  obtain ⟨rfl, K_, A_t, rfl⟩ := q58
  show Go p e below _ T (mkF m 23 #[.val (.ref b), .val (.int (0 : Int32)), .val (.int (2 : Int32)), .val (.ref t), .val (.int (0 : Int32))] [])
  replace X := X.sub (ws' := [t]) (by simp)
  replace A_b := A_b.keep K_ (ninS ne_b_t nin0)
  replace R_ := ext_keep R_ K_ (allS sz_R__t all0)
  replace A_t : Ary Z h57 t .byte [(.int (StrChars.lo8 c0)), (.int (StrChars.hi8 c0)), (.int (0 : Int32)), (.int (0 : Int32))] := A_t
  refine s_iinc X (pc' := 26) (L' := #[.val (.ref b), .val (.int (1 : Int32)), .val (.int (2 : Int32)), .val (.ref t), .val (.int (0 : Int32))]) d28_23 (v := (1 : Int32)) (by decide) rfl rfl rfl ?_
  refine s_iinc X (pc' := 29) (L' := #[.val (.ref b), .val (.int (1 : Int32)), .val (.int (2 : Int32)), .val (.ref t), .val (.int (1 : Int32))]) d28_26 (v := (1 : Int32)) (by decide) rfl rfl rfl ?_
  refine s_goto X (pc' := 8) d28_29 (by decide) (by decide) ?_
  refine s_iload X (pc' := 10) d28_8 rfl rfl ?_
  refine s_iloadN X (pc' := 11) d28_10 rfl rfl ?_
  refine s_icmpF X (pc' := 14) d28_11 (show (1 : Int32) < (2 : Int32) by decide) rfl ?_
  refine s_aloadN X (pc' := 15) d28_14 rfl rfl rfl ?_
  refine s_iload X (pc' := 17) d28_15 rfl rfl ?_
  refine s_aloadN X (pc' := 18) d28_17 rfl rfl rfl ?_
  refine s_iloadN X (pc' := 19) d28_18 rfl rfl ?_
  refine s_caload X (pc' := 20) (i := 1) (v := (.int c1)) d28_19 A_b rfl rfl rfl ?_
  refine s_static X (pc' := 23) (W := 0) (as' := [(.ref t), (.int (1 : Int32)), (.int c1)]) (S := []) (k' := 1) (n' := 4) d28_20 (hw _ (List.mem_of_getElem? (i := 138) rfl)) (hw _ (List.mem_of_getElem? (i := 139) rfl)) (hw _ (List.mem_of_getElem? (i := 98) rfl)) (hw _ (List.mem_of_getElem? (i := 140) rfl)) (by decide) own_pd8 rfl ((u_put l Z a0 hw hEL t _ 1 c1 _ A_t (Nat.le_of_ble_eq_true rfl) (Nat.le_of_ble_eq_true rfl) g_t U).payS (by simp) (hw _ (List.mem_of_getElem? (i := 140) rfl)) (hw _ (List.mem_of_getElem? (i := 98) rfl)) hEL (by decide) (by decide)) (Nat.le_of_ble_eq_true rfl) rfl rfl (by decide) (by decide) (by decide) (by decide) rfl (fun T h59 v_ ws_ X hgr_ q60 => ?_)
  obtain ⟨rfl, K_, A_t, rfl⟩ := q60
  show Go p e below _ T (mkF m 23 #[.val (.ref b), .val (.int (1 : Int32)), .val (.int (2 : Int32)), .val (.ref t), .val (.int (1 : Int32))] [])
  replace X := X.sub (ws' := [t]) (by simp)
  replace A_b := A_b.keep K_ (ninS ne_b_t nin0)
  replace R_ := ext_keep R_ K_ (allS sz_R__t all0)
  replace A_t : Ary Z h59 t .byte [(.int (StrChars.lo8 c0)), (.int (StrChars.hi8 c0)), (.int (StrChars.lo8 c1)), (.int (StrChars.hi8 c1))] := A_t
  refine s_iinc X (pc' := 26) (L' := #[.val (.ref b), .val (.int (2 : Int32)), .val (.int (2 : Int32)), .val (.ref t), .val (.int (1 : Int32))]) d28_23 (v := (1 : Int32)) (by decide) rfl rfl rfl ?_
  refine s_iinc X (pc' := 29) (L' := #[.val (.ref b), .val (.int (2 : Int32)), .val (.int (2 : Int32)), .val (.ref t), .val (.int (2 : Int32))]) d28_26 (v := (1 : Int32)) (by decide) rfl rfl rfl ?_
  refine s_goto X (pc' := 8) d28_29 (by decide) (by decide) ?_
  refine s_iload X (pc' := 10) d28_8 rfl rfl ?_
  refine s_iloadN X (pc' := 11) d28_10 rfl rfl ?_
  refine s_icmpT X (pc' := 32) d28_11 (show ¬ (2 : Int32) < (2 : Int32) by decide) (by decide) (by decide) ?_
  refine s_aloadN X (pc' := 33) d28_32 rfl rfl rfl ?_
  exact s_aret X hEL (ws' := [t]) (t := (.array .byte)) d28_33 rfl rfl rfl rfl (by decide) (by decide) (by simp) ⟨t, rfl, R_, sz_R__t, A_t, rfl⟩
theorem ef_u_c5_2 (m : MethodId) (b d : Addr) (c0 c1 : Int32) : entryFrame m #[(.ref b), (.int (0 : Int32)), (.ref d), (.int (0 : Int32)), (.int (2 : Int32))] 7 = mkF m 0 #[.val (.ref b), .val (.int (0 : Int32)), .val (.ref d), .val (.int (0 : Int32)), .val (.int (2 : Int32)), .unset, .unset] [] := by first | (simp [entryFrame, mkF, argsToLocals, Value.category]; done) | rfl
set_option maxRecDepth 65536 in
set_option maxHeartbeats 40000000 in
theorem u_c5_2 (l : Launch) (Z : State) (a0 : Array Value) (hw : ∀ d ∈ tables_1, d.before a0 Z = true) (hEL : EW Z a0 consts_1) (b d : Addr) (c0 c1 : Int32) (h : Heap) (A_b : Ary Z h b .char [(.int c0), (.int c1)]) (A_d : Ary Z h d .byte [(.int (0 : Int32)), (.int (0 : Int32))]) (ne_b_d : b ≠ d) (g_d : Z.heap.size ≤ d) (hl : ∃ c ∈ ([c0, c1] : List Int32), (255 : Int32) < c) :
    Con l Z consts_1 False (⟨"java/lang/StringUTF16", "compress", "([CI[BII)I"⟩ : MethodName) jdk_52_method_21_code 7 (some .int) ({ frames := 0, cells := 0, slots := 0, locals := 0 } : Room) [d] #[(.ref b), (.int (0 : Int32)), (.ref d), (.int (0 : Int32)), (.int (2 : Int32))] h (fun v h' ws' => ∃ j, v = some (.int (Int32.ofNat j)) ∧ j < 2 ∧ (255 : Int32) < ([c0, c1] : List Int32).getD j 0 ∧ Keep h h' [d] ∧ ws' = [d]) := by
  refine Con.intro own_pn15 (fun p e s m below meth c T X => ?_)
  rw [ef_u_c5_2 m b d c0 c1]
  have K_ : Keep h h [d] := Keep.refl _ _
  refine s_iconst X (pc' := 1) d20_0 (v := (0 : Int32)) rfl rfl ?_
  refine s_istore X (pc' := 3) (L' := #[.val (.ref b), .val (.int (0 : Int32)), .val (.ref d), .val (.int (0 : Int32)), .val (.int (2 : Int32)), .val (.int (0 : Int32)), .unset]) d20_1 rfl rfl ?_
  refine s_iload X (pc' := 5) d20_3 rfl rfl ?_
  refine s_iload X (pc' := 7) d20_5 rfl rfl ?_
  refine s_icmpF X (pc' := 10) d20_7 (show (0 : Int32) < (2 : Int32) by decide) rfl ?_
  refine s_aloadN X (pc' := 11) d20_10 rfl rfl rfl ?_
  refine s_iloadN X (pc' := 12) d20_11 rfl rfl ?_
  refine s_caload X (pc' := 13) (i := 0) (v := (.int c0)) d20_12 A_b rfl rfl rfl ?_
  refine s_istore X (pc' := 15) (L' := #[.val (.ref b), .val (.int (0 : Int32)), .val (.ref d), .val (.int (0 : Int32)), .val (.int (2 : Int32)), .val (.int (0 : Int32)), .val (.int c0)]) d20_13 rfl rfl ?_
  refine s_iload X (pc' := 17) d20_15 rfl rfl ?_
  refine s_sipush X (pc' := 20) d20_17 (v := (255 : Int32)) (by decide) rfl ?_
  refine s_icmp X (pc' := 26) (pcF := 23) d20_20 (by decide) (by decide) rfl (fun (q0 : ¬ (255 : Int32) < c0) => ?_) (fun (q0 : (255 : Int32) < c0) => ?_)
  · refine s_aloadN X (pc' := 27) d20_26 rfl rfl rfl ?_
    refine s_iloadN X (pc' := 28) d20_27 rfl rfl ?_
    refine s_iload X (pc' := 30) d20_28 rfl rfl ?_
    refine s_i2b X (pc' := 31) d20_30 rfl ?_
    refine s_bastore X (pc' := 32) (i := 0) d20_31 A_d rfl (Nat.le_of_ble_eq_true rfl) g_d (by simp) rfl (fun T h61 X W62 A' => ?_)
    replace A_b := A_b.other W62 ne_b_d
    replace K_ := K_.wr W62 (Or.inl (by simp))
    replace A_d : Ary Z h61 d .byte [(.int (nar .byte c0.toInt8.toInt32)), (.int (0 : Int32))] := A'
    refine s_iinc X (pc' := 35) (L' := #[.val (.ref b), .val (.int (1 : Int32)), .val (.ref d), .val (.int (0 : Int32)), .val (.int (2 : Int32)), .val (.int (0 : Int32)), .val (.int c0)]) d20_32 (v := (1 : Int32)) (by decide) rfl rfl rfl ?_
    refine s_iinc X (pc' := 38) (L' := #[.val (.ref b), .val (.int (1 : Int32)), .val (.ref d), .val (.int (1 : Int32)), .val (.int (2 : Int32)), .val (.int (0 : Int32)), .val (.int c0)]) d20_35 (v := (1 : Int32)) (by decide) rfl rfl rfl ?_
    refine s_iinc X (pc' := 41) (L' := #[.val (.ref b), .val (.int (1 : Int32)), .val (.ref d), .val (.int (1 : Int32)), .val (.int (2 : Int32)), .val (.int (1 : Int32)), .val (.int c0)]) d20_38 (v := (1 : Int32)) (by decide) rfl rfl rfl ?_
    refine s_goto X (pc' := 3) d20_41 (by decide) (by decide) ?_
    refine s_iload X (pc' := 5) d20_3 rfl rfl ?_
    refine s_iload X (pc' := 7) d20_5 rfl rfl ?_
    refine s_icmpF X (pc' := 10) d20_7 (show (1 : Int32) < (2 : Int32) by decide) rfl ?_
    refine s_aloadN X (pc' := 11) d20_10 rfl rfl rfl ?_
    refine s_iloadN X (pc' := 12) d20_11 rfl rfl ?_
    refine s_caload X (pc' := 13) (i := 1) (v := (.int c1)) d20_12 A_b rfl rfl rfl ?_
    refine s_istore X (pc' := 15) (L' := #[.val (.ref b), .val (.int (1 : Int32)), .val (.ref d), .val (.int (1 : Int32)), .val (.int (2 : Int32)), .val (.int (1 : Int32)), .val (.int c1)]) d20_13 rfl rfl ?_
    refine s_iload X (pc' := 17) d20_15 rfl rfl ?_
    refine s_sipush X (pc' := 20) d20_17 (v := (255 : Int32)) (by decide) rfl ?_
    refine s_icmp X (pc' := 26) (pcF := 23) d20_20 (by decide) (by decide) rfl (fun (q1 : ¬ (255 : Int32) < c1) => ?_) (fun (q1 : (255 : Int32) < c1) => ?_)
    · obtain ⟨c, hc, hw'⟩ := hl
      simp only [List.mem_cons, List.not_mem_nil, or_false] at hc
      rcases hc with rfl | rfl
      · exact absurd hw' q0
      · exact absurd hw' q1
    · refine s_iload X (pc' := 25) d20_23 rfl rfl ?_
      exact s_iret X hEL (ws' := [d]) d20_25 (by decide) (by decide) (by simp) ⟨1, rfl, (by decide), q1, K_, rfl⟩
  · refine s_iload X (pc' := 25) d20_23 rfl rfl ?_
    exact s_iret X hEL (ws' := [d]) d20_25 (by decide) (by decide) (by simp) ⟨0, rfl, (by decide), q0, K_, rfl⟩
theorem ef_u_c3_2 (m : MethodId) (b : Addr) (c0 c1 : Int32) : entryFrame m #[(.ref b), (.int (0 : Int32)), (.int (2 : Int32))] 6 = mkF m 0 #[.val (.ref b), .val (.int (0 : Int32)), .val (.int (2 : Int32)), .unset, .unset, .unset] [] := by first | (simp [entryFrame, mkF, argsToLocals, Value.category]; done) | rfl
set_option maxRecDepth 65536 in
set_option maxHeartbeats 40000000 in
theorem u_c3_2 (l : Launch) (Z : State) (a0 : Array Value) (hw : ∀ d ∈ tables_1, d.before a0 Z = true) (hEL : EW Z a0 consts_1) (b : Addr) (c0 c1 : Int32) (h : Heap) (A_b : Ary Z h b .char [(.int c0), (.int c1)]) (hp : ∀ c ∈ ([c0, c1] : List Int32), ¬ c < 0 ∧ ¬ (65535 : Int32) < c) (hl : ∃ c ∈ ([c0, c1] : List Int32), (255 : Int32) < c) (U : U16 Z) :
    Con l Z consts_1 False (⟨"java/lang/StringUTF16", "compress", "([CII)[B"⟩ : MethodName) jdk_52_method_16_code 6 (some (.array .byte)) ({ frames := 3, cells := 2, slots := 6, locals := 40 } : Room) [] #[(.ref b), (.int (0 : Int32)), (.int (2 : Int32))] h (fun v h' ws' => ∃ t, v = some (.ref t) ∧ Ext h h' ∧ Ary Z h' t .byte (wbs [c0, c1]) ∧ ws' = []) := by
  refine Con.intro own_pn16 (fun p e s m below meth c T X => ?_)
  rw [ef_u_c3_2 m b c0 c1]
  have R_ : Ext h h := ext_refl _
  refine s_iloadN X (pc' := 1) d19_0 rfl rfl ?_
  refine s_newarr X (pc' := 3) (k' := 1) (n' := 2) (N := 2) d19_1 (hw _ (List.mem_of_getElem? (i := 22) rfl)) rfl (by decide) (by decide) (by decide) (by decide) (by decide) rfl (fun T h63 d gb_d X' E64 A_d => ?_)
  have g_d : Z.heap.size ≤ d := by rw [gb_d]; exact X.lt
  have ne_b_d : b ≠ d := Nat.ne_of_lt (by rw [gb_d]; exact A_b.lt)
  have sz_R__d : h.size ≤ d := by rw [gb_d]; exact R_.1
  replace A_b := A_b.ext E64
  replace R_ := ext_trans R_ E64
  replace X := X'
  replace A_d : Ary Z h63 d .byte [(.int (0 : Int32)), (.int (0 : Int32))] := A_d
  refine s_astoreN X (pc' := 4) (L' := #[.val (.ref b), .val (.int (0 : Int32)), .val (.int (2 : Int32)), .val (.ref d), .unset, .unset]) d19_3 rfl rfl rfl ?_
  refine s_aloadN X (pc' := 5) d19_4 rfl rfl rfl ?_
  refine s_iloadN X (pc' := 6) d19_5 rfl rfl ?_
  refine s_aloadN X (pc' := 7) d19_6 rfl rfl rfl ?_
  refine s_iconst X (pc' := 8) d19_7 (v := (0 : Int32)) rfl rfl ?_
  refine s_iloadN X (pc' := 9) d19_8 rfl rfl ?_
  refine s_static X (pc' := 12) (W := 0) (as' := [(.ref b), (.int (0 : Int32)), (.ref d), (.int (0 : Int32)), (.int (2 : Int32))]) (S := []) (k' := 1) (n' := 2) d19_9 (hw _ (List.mem_of_getElem? (i := 100) rfl)) (hw _ (List.mem_of_getElem? (i := 101) rfl)) (hw _ (List.mem_of_getElem? (i := 98) rfl)) (hw _ (List.mem_of_getElem? (i := 102) rfl)) (by decide) own_pd9 rfl ((u_c5_2 l Z a0 hw hEL b d c0 c1 _ A_b A_d ne_b_d g_d hl).payS (by simp) (hw _ (List.mem_of_getElem? (i := 102) rfl)) (hw _ (List.mem_of_getElem? (i := 98) rfl)) hEL (by decide) (by decide)) (Nat.le_of_ble_eq_true rfl) rfl rfl (by decide) (by decide) (by decide) (by decide) rfl (fun T h65 v_ ws_ X hgr_ q66 => ?_)
  obtain ⟨j, rfl, hj, hjw, K_, rfl⟩ := q66
  show Go p e below _ T (mkF m 12 #[.val (.ref b), .val (.int (0 : Int32)), .val (.int (2 : Int32)), .val (.ref d), .unset, .unset] [(.int (Int32.ofNat j))])
  replace X := X.sub (ws' := [d]) (by simp)
  replace A_b := A_b.keep K_ (ninS ne_b_d nin0)
  replace R_ := ext_keep R_ K_ (allS sz_R__d all0)
  refine s_istore X (pc' := 14) (L' := #[.val (.ref b), .val (.int (0 : Int32)), .val (.int (2 : Int32)), .val (.ref d), .val (.int (Int32.ofNat j)), .unset]) d19_12 rfl rfl ?_
  refine s_iload X (pc' := 16) d19_14 rfl rfl ?_
  refine s_iloadN X (pc' := 17) d19_16 rfl rfl ?_
  refine s_icmpF X (pc' := 20) d19_17 (show ¬ Int32.ofNat j = (2 : Int32) from fun z => Nat.ne_of_lt hj ((on_eq (by omega) (by decide)).mp z)) rfl ?_
  refine s_aloadN X (pc' := 21) d19_20 rfl rfl rfl ?_
  refine s_iloadN X (pc' := 22) d19_21 rfl rfl ?_
  refine s_iloadN X (pc' := 23) d19_22 rfl rfl ?_
  refine s_static X (pc' := 26) (W := 0) (as' := [(.ref b), (.int (0 : Int32)), (.int (2 : Int32))]) (S := []) (k' := 2) (n' := 6) d19_23 (hw _ (List.mem_of_getElem? (i := 128) rfl)) (hw _ (List.mem_of_getElem? (i := 129) rfl)) (hw _ (List.mem_of_getElem? (i := 98) rfl)) (hw _ (List.mem_of_getElem? (i := 130) rfl)) (by decide) own_pd10 rfl ((u_tb2 l Z a0 hw hEL b c0 c1 _ A_b U).payS (by simp) (hw _ (List.mem_of_getElem? (i := 130) rfl)) (hw _ (List.mem_of_getElem? (i := 98) rfl)) hEL (by decide) (by decide)) (Nat.le_of_ble_eq_true rfl) rfl rfl (by decide) (by decide) (by decide) (by decide) rfl (fun T h67 v_ ws_ X hgr_ q68 => ?_)
  obtain ⟨t, rfl, E_, -, A_t, rfl⟩ := q68
  show Go p e below _ T (mkF m 26 #[.val (.ref b), .val (.int (0 : Int32)), .val (.int (2 : Int32)), .val (.ref d), .val (.int (Int32.ofNat j)), .unset] [(.ref t)])
  replace X := X.sub (ws' := []) (by simp)
  replace A_b := A_b.ext E_
  replace R_ := ext_trans R_ E_
  refine s_astore X (pc' := 28) (L' := #[.val (.ref b), .val (.int (0 : Int32)), .val (.int (2 : Int32)), .val (.ref d), .val (.int (Int32.ofNat j)), .val (.ref t)]) d19_26 rfl rfl rfl ?_
  refine s_aload X (pc' := 30) d19_28 rfl rfl rfl ?_
  refine s_iload X (pc' := 32) d19_30 rfl rfl ?_
  refine s_static X (pc' := 35) (W := 0) (as' := [(.ref t), (.int (Int32.ofNat j))]) (S := []) (k' := 2) (n' := 6) d19_32 (hw _ (List.mem_of_getElem? (i := 144) rfl)) (hw _ (List.mem_of_getElem? (i := 145) rfl)) (hw _ (List.mem_of_getElem? (i := 98) rfl)) (hw _ (List.mem_of_getElem? (i := 146) rfl)) (by decide) own_pd11 rfl ((u_get l Z a0 hw hEL t [c0, c1] j _ A_t (Nat.le_of_ble_eq_true rfl) hj hp U).payS (by simp) (hw _ (List.mem_of_getElem? (i := 146) rfl)) (hw _ (List.mem_of_getElem? (i := 98) rfl)) hEL (by decide) (by decide)) (Nat.le_of_ble_eq_true rfl) rfl rfl (by decide) (by decide) (by decide) (by decide) rfl (fun T h69 v_ ws_ X hgr_ q70 => ?_)
  obtain ⟨rfl, e_, rfl⟩ := q70
  rw [e_] at X
  show Go p e below _ T (mkF m 35 #[.val (.ref b), .val (.int (0 : Int32)), .val (.int (2 : Int32)), .val (.ref d), .val (.int (Int32.ofNat j)), .val (.ref t)] [(.int (([c0, c1] : List Int32).getD j 0))])
  replace X := X.sub (ws' := []) (by simp)
  refine s_sipush X (pc' := 38) d19_35 (v := (255 : Int32)) (by decide) rfl ?_
  refine s_icmpT X (pc' := 54) d19_38 hjw (by decide) (by decide) ?_
  refine s_aload X (pc' := 56) d19_54 rfl rfl rfl ?_
  exact s_aret X hEL (ws' := []) (t := (.array .byte)) d19_56 rfl rfl rfl rfl (by decide) (by decide) (fun x q => by simp at q) ⟨t, rfl, R_, A_t, rfl⟩
theorem ef_u_cf2 (m : MethodId) (t : Addr) : entryFrame m #[(.ref t), (.int (2 : Int32))] 2 = mkF m 0 #[.val (.ref t), .val (.int (2 : Int32))] [] := by first | (simp [entryFrame, mkF, argsToLocals, Value.category]; done) | rfl
set_option maxRecDepth 65536 in
set_option maxHeartbeats 40000000 in
theorem u_cf2 (l : Launch) (Z : State) (a0 : Array Value) (hw : ∀ d ∈ tables_1, d.before a0 Z = true) (hEL : EW Z a0 consts_1) (t : Addr) (h : Heap) {vs : List Value} (A_t : Ary Z h t .byte vs) (hv : vs.length = 4) :
    Con l Z consts_1 False (⟨"java/lang/StringUTF16", "coderFromArrayLen", "([BI)B"⟩ : MethodName) jdk_52_method_15_code 2 (some .byte) ({ frames := 0, cells := 0, slots := 0, locals := 0 } : Room) [] #[(.ref t), (.int (2 : Int32))] h (fun v h' ws' => v = some (.int ((1 : Int32))) ∧ h' = h ∧ ws' = []) := by
  refine Con.intro own_pn17 (fun p e s m below meth c T X => ?_)
  rw [ef_u_cf2 m t]
  refine s_iloadN X (pc' := 1) d21_0 rfl rfl ?_
  refine s_aloadN X (pc' := 2) d21_1 rfl rfl rfl ?_
  refine s_alen X (pc' := 3) (z := (4 : Int32)) d21_2 A_t (by rw [hv]; rfl) rfl ?_
  refine s_isub X (pc' := 4) d21_3 rfl ?_
  refine s_bipush X (pc' := 6) d21_4 (v := (31 : Int32)) (by decide) rfl ?_
  refine s_iushr X (pc' := 7) d21_6 rfl ?_
  refine s_i2b X (pc' := 8) d21_7 rfl ?_
  refine go_int (z := (1 : Int32)) (by decide) ?_
  exact s_iretN X hEL (ws' := []) (t := .byte) d21_8 rfl (by simp) (by decide) (by decide) (fun x q => by simp at q) ⟨rfl, rfl, rfl⟩
theorem ef_u_i2_2 (m : MethodId) (x b : Addr) (c0 c1 : Int32) : entryFrame m #[(.ref x), (.ref b), (.int (0 : Int32)), (.int (2 : Int32)), .null] 6 = mkF m 0 #[.val (.ref x), .val (.ref b), .val (.int (0 : Int32)), .val (.int (2 : Int32)), .val .null, .unset] [] := by first | (simp [entryFrame, mkF, argsToLocals, Value.category]; done) | rfl
set_option maxRecDepth 65536 in
set_option maxHeartbeats 40000000 in
theorem u_i2_2 (l : Launch) (Z : State) (a0 : Array Value) (hw : ∀ d ∈ tables_1, d.before a0 Z = true) (hEL : EW Z a0 consts_1) (x b : Addr) (c0 c1 : Int32) {G1 : Int32} (h : Heap) (hE : Ext Z.heap h) (g_x : Z.heap.size ≤ x) (E_x : Exa Z h x "java/lang/String") (F_x_value : Fld Z h x "java/lang/String" "value" "[B" .null) (F_x_coder : Fld Z h x "java/lang/String" "coder" "B" (.int (0 : Int32))) (A_b : Ary Z h b .char [(.int c0), (.int c1)]) (hp : ∀ c ∈ ([c0, c1] : List Int32), ¬ c < 0 ∧ ¬ (65535 : Int32) < c) (hl : ∃ c ∈ ([c0, c1] : List Int32), (255 : Int32) < c) (O2 : Sta Z Z.heap "java/lang/String" "COMPACT_STRINGS" "Z" (.int G1)) (P5 : ¬ (G1 = (0 : Int32))) (U : U16 Z) :
    Con l Z consts_1 False (⟨"java/lang/String", "<init>", "([CIILjava/lang/Void;)V"⟩ : MethodName) jdk_42_method_149_code 6 none ({ frames := 4, cells := 2, slots := 6, locals := 57 } : Room) [x] #[(.ref x), (.ref b), (.int (0 : Int32)), (.int (2 : Int32)), .null] h (fun v h' ws' => v = none ∧ Keep h h' [x] ∧ Str Z h' x [c0, c1] ∧ ws' = []) := by
  refine Con.intro own_pn0 (fun p e s m below meth c T X => ?_)
  rw [ef_u_i2_2 m x b c0 c1]
  have K_ : Keep h h [x] := Keep.refl _ _
  refine s_aloadN X (pc' := 1) d3_0 rfl rfl rfl ?_
  refine s_initO X (pc' := 4) (W := 0) d3_1 (hw _ (List.mem_of_getElem? (i := 18) rfl)) (hw _ (List.mem_of_getElem? (i := 19) rfl)) (b' := object_method_1_code) rfl (hw _ (List.mem_of_getElem? (i := 20) rfl)) (Nat.le_of_ble_eq_true rfl) (by decide) (by decide) rfl rfl (fun T X => ?_)
  refine s_iloadN X (pc' := 5) d3_4 rfl rfl ?_
  refine s_ifT X (pc' := 27) d3_5 (show ¬ (2 : Int32) = (0 : Int32) by decide) (by decide) (by decide) ?_
  refine s_gets X (pc' := 30) d3_27 (hw _ (List.mem_of_getElem? (i := 50) rfl)) Via.refl O2 rfl (fun T X => ?_)
  refine s_ifF X (pc' := 33) d3_30 P5 rfl ?_
  refine s_aloadN X (pc' := 34) d3_33 rfl rfl rfl ?_
  refine s_iloadN X (pc' := 35) d3_34 rfl rfl ?_
  refine s_iloadN X (pc' := 36) d3_35 rfl rfl ?_
  refine s_static X (pc' := 39) (W := 0) (as' := [(.ref b), (.int (0 : Int32)), (.int (2 : Int32))]) (S := []) (k' := 2) (n' := 6) d3_36 (hw _ (List.mem_of_getElem? (i := 96) rfl)) (hw _ (List.mem_of_getElem? (i := 97) rfl)) (hw _ (List.mem_of_getElem? (i := 98) rfl)) (hw _ (List.mem_of_getElem? (i := 99) rfl)) (by decide) own_pd10 rfl ((u_c3_2 l Z a0 hw hEL b c0 c1 _ A_b hp hl U).payS (by simp) (hw _ (List.mem_of_getElem? (i := 99) rfl)) (hw _ (List.mem_of_getElem? (i := 98) rfl)) hEL (by decide) (by decide)) (Nat.le_of_ble_eq_true rfl) rfl rfl (by decide) (by decide) (by decide) (by decide) rfl (fun T h71 v_ ws_ X hgr_ q72 => ?_)
  obtain ⟨t, rfl, E_, A_t, rfl⟩ := q72
  show Go p e below _ T (mkF m 39 #[.val (.ref x), .val (.ref b), .val (.int (0 : Int32)), .val (.int (2 : Int32)), .val .null, .unset] [(.ref t)])
  replace X := X.sub (ws' := [x]) (by simp)
  replace E_x := E_x.ext E_
  replace F_x_value := F_x_value.ext E_
  replace F_x_coder := F_x_coder.ext E_
  replace K_ := K_.ext E_
  refine s_astore X (pc' := 41) (L' := #[.val (.ref x), .val (.ref b), .val (.int (0 : Int32)), .val (.int (2 : Int32)), .val .null, .val (.ref t)]) d3_39 rfl rfl rfl ?_
  refine s_aloadN X (pc' := 42) d3_41 rfl rfl rfl ?_
  refine s_aload X (pc' := 44) d3_42 rfl rfl rfl ?_
  refine s_iloadN X (pc' := 45) d3_44 rfl rfl ?_
  refine s_static X (pc' := 48) (W := 1) (as' := [(.ref t), (.int (2 : Int32))]) (S := [(.ref x)]) (k' := 2) (n' := 6) d3_45 (hw _ (List.mem_of_getElem? (i := 103) rfl)) (hw _ (List.mem_of_getElem? (i := 104) rfl)) (hw _ (List.mem_of_getElem? (i := 98) rfl)) (hw _ (List.mem_of_getElem? (i := 105) rfl)) (by decide) own_pd12 rfl ((u_cf2 l Z a0 hw hEL t _ A_t rfl).payS (by simp) (hw _ (List.mem_of_getElem? (i := 105) rfl)) (hw _ (List.mem_of_getElem? (i := 98) rfl)) hEL (by decide) (by decide)) (Nat.le_of_ble_eq_true rfl) rfl rfl (by decide) (by decide) (by decide) (by decide) rfl (fun T h73 v_ ws_ X hgr_ q74 => ?_)
  obtain ⟨rfl, e_, rfl⟩ := q74
  rw [e_] at X
  show Go p e below _ T (mkF m 48 #[.val (.ref x), .val (.ref b), .val (.int (0 : Int32)), .val (.int (2 : Int32)), .val .null, .val (.ref t)] [(.int (1 : Int32)), (.ref x)])
  replace X := X.sub (ws' := [x]) (by simp)
  have ne_t_x : t ≠ x := by obtain ⟨kc, q⟩ := A_t.arv .null; exact (Exa.neArv E_x q (hw _ (List.mem_of_getElem? (i := 9) rfl))).symm
  refine s_putf X (pc' := 51) d3_48 (hw _ (List.mem_of_getElem? (i := 28) rfl)) Via.refl F_x_coder E_x (Or.inr ⟨(hw _ (List.mem_of_getElem? (i := 24) rfl)), rfl, rfl⟩) (hw _ (List.mem_of_getElem? (i := 9) rfl)) (ty := .byte) (by decide) rfl rfl g_x (by simp) rfl (fun T h75 X W76 => ?_)
  replace F_x_value := F_x_value.other W76 (Or.inr (slot_ne (Or.inr (hw _ (List.mem_of_getElem? (i := 23) rfl))) (Or.inr (hw _ (List.mem_of_getElem? (i := 24) rfl))) (t := (.array .byte)) (t' := .byte) (by decide) (by decide) (by decide)))
  replace F_x_coder := F_x_coder.same W76
  replace A_t := A_t.other W76 ne_t_x
  replace E_x := E_x.wr W76
  replace K_ := K_.wr W76 (Or.inl (by simp))
  refine s_aloadN X (pc' := 52) d3_51 rfl rfl rfl ?_
  refine s_aload X (pc' := 54) d3_52 rfl rfl rfl ?_
  refine s_putf X (pc' := 57) d3_54 (hw _ (List.mem_of_getElem? (i := 27) rfl)) Via.refl F_x_value E_x (Or.inr ⟨(hw _ (List.mem_of_getElem? (i := 23) rfl)), rfl, rfl⟩) (hw _ (List.mem_of_getElem? (i := 9) rfl)) (ty := (.array .byte)) (by decide) rfl rfl g_x (by simp) rfl (fun T h77 X W78 => ?_)
  replace F_x_value := F_x_value.same W78
  replace F_x_coder := F_x_coder.other W78 (Or.inr (slot_ne (Or.inr (hw _ (List.mem_of_getElem? (i := 24) rfl))) (Or.inr (hw _ (List.mem_of_getElem? (i := 23) rfl))) (t := .byte) (t' := (.array .byte)) (by decide) (by decide) (by decide)))
  replace A_t := A_t.other W78 ne_t_x
  replace E_x := E_x.wr W78
  replace K_ := K_.wr W78 (Or.inl (by simp))
  exact s_ret X hEL (ws' := []) d3_57 (by decide) (by decide) (fun x q => by simp at q) ⟨rfl, K_, Str.ofWide E_x F_x_value F_x_coder A_t hp (Nat.le_of_ble_eq_true rfl) hl, rfl⟩
theorem ef_u_i1_2 (m : MethodId) (x b : Addr) (c0 c1 : Int32) : entryFrame m #[(.ref x), (.ref b)] 2 = mkF m 0 #[.val (.ref x), .val (.ref b)] [] := by first | (simp [entryFrame, mkF, argsToLocals, Value.category]; done) | rfl
set_option maxRecDepth 65536 in
set_option maxHeartbeats 40000000 in
theorem u_i1_2 (l : Launch) (Z : State) (a0 : Array Value) (hw : ∀ d ∈ tables_1, d.before a0 Z = true) (hEL : EW Z a0 consts_1) (x b : Addr) (c0 c1 : Int32) {G1 : Int32} (h : Heap) (hE : Ext Z.heap h) (g_x : Z.heap.size ≤ x) (E_x : Exa Z h x "java/lang/String") (F_x_value : Fld Z h x "java/lang/String" "value" "[B" .null) (F_x_coder : Fld Z h x "java/lang/String" "coder" "B" (.int (0 : Int32))) (A_b : Ary Z h b .char [(.int c0), (.int c1)]) (hp : ∀ c ∈ ([c0, c1] : List Int32), ¬ c < 0 ∧ ¬ (65535 : Int32) < c) (hl : ∃ c ∈ ([c0, c1] : List Int32), (255 : Int32) < c) (O2 : Sta Z Z.heap "java/lang/String" "COMPACT_STRINGS" "Z" (.int G1)) (P5 : ¬ (G1 = (0 : Int32))) (U : U16 Z) :
    Con l Z consts_1 False (⟨"java/lang/String", "<init>", "([C)V"⟩ : MethodName) jdk_42_method_3_code 2 none ({ frames := 5, cells := 2, slots := 6, locals := 74 } : Room) [x] #[(.ref x), (.ref b)] h (fun v h' ws' => v = none ∧ Keep h h' [x] ∧ Str Z h' x [c0, c1] ∧ ws' = []) := by
  refine Con.intro own_pn1 (fun p e s m below meth c T X => ?_)
  rw [ef_u_i1_2 m x b c0 c1]
  refine s_aloadN X (pc' := 1) d2_0 rfl rfl rfl ?_
  refine s_aloadN X (pc' := 2) d2_1 rfl rfl rfl ?_
  refine s_iconst X (pc' := 3) d2_2 (v := (0 : Int32)) rfl rfl ?_
  refine s_aloadN X (pc' := 4) d2_3 rfl rfl rfl ?_
  refine s_alen X (pc' := 5) (z := (2 : Int32)) d2_4 A_b rfl rfl ?_
  refine s_aconst X (pc' := 6) d2_5 rfl ?_
  refine s_special X (pc' := 9) (W := 0) (as' := [(.ref b), (.int (0 : Int32)), (.int (2 : Int32)), .null]) (S := []) (k' := 2) (n' := 6) d2_6 rfl (hw _ (List.mem_of_getElem? (i := 14) rfl)) (hw _ (List.mem_of_getElem? (i := 15) rfl)) (hw _ (List.mem_of_getElem? (i := 17) rfl)) (by decide) own_pd0 rfl ((u_i2_2 l Z a0 hw hEL x b c0 c1 _ hE g_x E_x F_x_value F_x_coder A_b hp hl O2 P5 U).payS (by simp) (hw _ (List.mem_of_getElem? (i := 17) rfl)) (hw _ (List.mem_of_getElem? (i := 10) rfl)) hEL (by decide) (by decide)) (Nat.le_of_ble_eq_true rfl) rfl rfl (by decide) (by decide) (by decide) (by decide) rfl (fun T h79 v_ ws_ X hgr_ q80 => ?_)
  obtain ⟨rfl, K_, S_, rfl⟩ := q80
  show Go p e below _ T (mkF m 9 #[.val (.ref x), .val (.ref b)] [])
  replace X := X.sub (ws' := [x]) (by simp)
  exact s_ret X hEL (ws' := []) d2_9 (by decide) (by decide) (fun x q => by simp at q) ⟨rfl, K_, S_, rfl⟩
theorem ef_u_nbl3 (m : MethodId)  : entryFrame m #[(.int (3 : Int32))] 1 = mkF m 0 #[.val (.int (3 : Int32))] [] := by first | (simp [entryFrame, mkF, argsToLocals, Value.category]; done) | rfl
set_option maxRecDepth 65536 in
set_option maxHeartbeats 40000000 in
theorem u_nbl3 (l : Launch) (Z : State) (a0 : Array Value) (hw : ∀ d ∈ tables_1, d.before a0 Z = true) (hEL : EW Z a0 consts_1)  (h : Heap)  :
    Con l Z consts_1 False (⟨"java/lang/StringUTF16", "newBytesLength", "(I)I"⟩ : MethodName) jdk_52_method_3_code 1 (some .int) ({ frames := 0, cells := 0, slots := 0, locals := 0 } : Room) [] #[(.int (3 : Int32))] h (fun v h' ws' => v = some (.int ((6 : Int32))) ∧ h' = h ∧ ws' = []) := by
  refine Con.intro own_pn12 (fun p e s m below meth c T X => ?_)
  rw [ef_u_nbl3 m ]
  refine s_iloadN X (pc' := 1) d30_0 rfl rfl ?_
  refine s_ifT X (pc' := 12) d30_1 (show ¬ (3 : Int32) < (0 : Int32) by decide) (by decide) (by decide) ?_
  refine s_iloadN X (pc' := 13) d30_12 rfl rfl ?_
  refine s_ldcI X (pc' := 15) d30_13 (hw _ (List.mem_of_getElem? (i := 137) rfl)) rfl ?_
  refine s_icmpT X (pc' := 55) d30_15 (show (3 : Int32) < (1073741823 : Int32) by decide) (by decide) (by decide) ?_
  refine s_iloadN X (pc' := 56) d30_55 rfl rfl ?_
  refine s_iconst X (pc' := 57) d30_56 (v := (1 : Int32)) rfl rfl ?_
  refine s_ishl X (pc' := 58) d30_57 rfl ?_
  refine go_int (z := (6 : Int32)) (by decide) ?_
  exact s_iret X hEL (ws' := []) d30_58 (by decide) (by decide) (fun x q => by simp at q) ⟨rfl, rfl, rfl⟩
theorem ef_u_nbf3 (m : MethodId)  : entryFrame m #[(.int (3 : Int32))] 1 = mkF m 0 #[.val (.int (3 : Int32))] [] := by first | (simp [entryFrame, mkF, argsToLocals, Value.category]; done) | rfl
set_option maxRecDepth 65536 in
set_option maxHeartbeats 40000000 in
theorem u_nbf3 (l : Launch) (Z : State) (a0 : Array Value) (hw : ∀ d ∈ tables_1, d.before a0 Z = true) (hEL : EW Z a0 consts_1)  (h : Heap)  :
    Con l Z consts_1 False (⟨"java/lang/StringUTF16", "newBytesFor", "(I)[B"⟩ : MethodName) jdk_52_method_2_code 1 (some (.array .byte)) ({ frames := 1, cells := 1, slots := 6, locals := 12 } : Room) [] #[(.int (3 : Int32))] h (fun v h' ws' => ∃ t, v = some (.ref t) ∧ Ext h h' ∧ h.size ≤ t ∧ Ary Z h' t .byte [(.int (0 : Int32)), (.int (0 : Int32)), (.int (0 : Int32)), (.int (0 : Int32)), (.int (0 : Int32)), (.int (0 : Int32))] ∧ ws' = [t]) := by
  refine Con.intro own_pn13 (fun p e s m below meth c T X => ?_)
  rw [ef_u_nbf3 m ]
  have R_ : Ext h h := ext_refl _
  refine s_iloadN X (pc' := 1) d29_0 rfl rfl ?_
  refine s_static X (pc' := 4) (W := 0) (as' := [(.int (3 : Int32))]) (S := []) (k' := 0) (n' := 0) d29_1 (hw _ (List.mem_of_getElem? (i := 134) rfl)) (hw _ (List.mem_of_getElem? (i := 135) rfl)) (hw _ (List.mem_of_getElem? (i := 98) rfl)) (hw _ (List.mem_of_getElem? (i := 136) rfl)) (by decide) own_pd6 rfl ((u_nbl3 l Z a0 hw hEL _).payS (by simp) (hw _ (List.mem_of_getElem? (i := 136) rfl)) (hw _ (List.mem_of_getElem? (i := 98) rfl)) hEL (by decide) (by decide)) (Nat.le_of_ble_eq_true rfl) rfl rfl (by decide) (by decide) (by decide) (by decide) rfl (fun T h81 v_ ws_ X hgr_ q82 => ?_)
  obtain ⟨rfl, e_, rfl⟩ := q82
  rw [e_] at X
  show Go p e below _ T (mkF m 4 #[.val (.int (3 : Int32))] [(.int (6 : Int32))])
  replace X := X.sub (ws' := []) (by simp)
  refine s_newarr X (pc' := 6) (k' := 1) (n' := 6) (N := 6) d29_4 (hw _ (List.mem_of_getElem? (i := 22) rfl)) rfl (by decide) (by decide) (by decide) (by decide) (by decide) rfl (fun T h83 t gb_t X' E84 A_t => ?_)
  have g_t : Z.heap.size ≤ t := by rw [gb_t]; exact X.lt
  have sz_R__t : h.size ≤ t := by rw [gb_t]; exact R_.1
  replace R_ := ext_trans R_ E84
  replace X := X'
  replace A_t : Ary Z h83 t .byte [(.int (0 : Int32)), (.int (0 : Int32)), (.int (0 : Int32)), (.int (0 : Int32)), (.int (0 : Int32)), (.int (0 : Int32))] := A_t
  exact s_aret X hEL (ws' := [t]) (t := (.array .byte)) d29_6 rfl rfl rfl rfl (by decide) (by decide) (by simp) ⟨t, rfl, R_, sz_R__t, A_t, rfl⟩
theorem ef_u_tb3 (m : MethodId) (b : Addr) (c0 c1 c2 : Int32) : entryFrame m #[(.ref b), (.int (0 : Int32)), (.int (3 : Int32))] 5 = mkF m 0 #[.val (.ref b), .val (.int (0 : Int32)), .val (.int (3 : Int32)), .unset, .unset] [] := by first | (simp [entryFrame, mkF, argsToLocals, Value.category]; done) | rfl
set_option maxRecDepth 65536 in
set_option maxHeartbeats 40000000 in
theorem u_tb3 (l : Launch) (Z : State) (a0 : Array Value) (hw : ∀ d ∈ tables_1, d.before a0 Z = true) (hEL : EW Z a0 consts_1) (b : Addr) (c0 c1 c2 : Int32) (h : Heap) (A_b : Ary Z h b .char [(.int c0), (.int c1), (.int c2)]) (U : U16 Z) :
    Con l Z consts_1 False (⟨"java/lang/StringUTF16", "toBytes", "([CII)[B"⟩ : MethodName) jdk_52_method_14_code 5 (some (.array .byte)) ({ frames := 2, cells := 1, slots := 6, locals := 24 } : Room) [] #[(.ref b), (.int (0 : Int32)), (.int (3 : Int32))] h (fun v h' ws' => ∃ t, v = some (.ref t) ∧ Ext h h' ∧ h.size ≤ t ∧ Ary Z h' t .byte (wbs [c0, c1, c2]) ∧ ws' = [t]) := by
  refine Con.intro own_pn14 (fun p e s m below meth c T X => ?_)
  rw [ef_u_tb3 m b c0 c1 c2]
  have R_ : Ext h h := ext_refl _
  have hz0 := X.old.1
  have hz1 := A_b.lt
  refine s_iloadN X (pc' := 1) d28_0 rfl rfl ?_
  refine s_static X (pc' := 4) (W := 0) (as' := [(.int (3 : Int32))]) (S := []) (k' := 1) (n' := 6) d28_1 (hw _ (List.mem_of_getElem? (i := 131) rfl)) (hw _ (List.mem_of_getElem? (i := 132) rfl)) (hw _ (List.mem_of_getElem? (i := 98) rfl)) (hw _ (List.mem_of_getElem? (i := 133) rfl)) (by decide) own_pd7 rfl ((u_nbf3 l Z a0 hw hEL _).payS (by simp) (hw _ (List.mem_of_getElem? (i := 133) rfl)) (hw _ (List.mem_of_getElem? (i := 98) rfl)) hEL (by decide) (by decide)) (Nat.le_of_ble_eq_true rfl) rfl rfl (by decide) (by decide) (by decide) (by decide) rfl (fun T h85 v_ ws_ X hgr_ q86 => ?_)
  obtain ⟨t, rfl, E_, sz_R__t, A_t, rfl⟩ := q86
  show Go p e below _ T (mkF m 4 #[.val (.ref b), .val (.int (0 : Int32)), .val (.int (3 : Int32)), .unset, .unset] [(.ref t)])
  replace X := X.sub (ws' := [t]) (by simp)
  replace A_b := A_b.ext E_
  replace R_ := ext_trans R_ E_
  have g_t : Z.heap.size ≤ t := Nat.le_trans hz0 sz_R__t
  have ne_b_t : b ≠ t := Nat.ne_of_lt (Nat.lt_of_lt_of_le hz1 sz_R__t)
  refine s_astoreN X (pc' := 5) (L' := #[.val (.ref b), .val (.int (0 : Int32)), .val (.int (3 : Int32)), .val (.ref t), .unset]) d28_4 rfl rfl rfl ?_
  refine s_iconst X (pc' := 6) d28_5 (v := (0 : Int32)) rfl rfl ?_
  refine s_istore X (pc' := 8) (L' := #[.val (.ref b), .val (.int (0 : Int32)), .val (.int (3 : Int32)), .val (.ref t), .val (.int (0 : Int32))]) d28_6 rfl rfl ?_
  refine s_iload X (pc' := 10) d28_8 rfl rfl ?_
  refine s_iloadN X (pc' := 11) d28_10 rfl rfl ?_
  refine s_icmpF X (pc' := 14) d28_11 (show (0 : Int32) < (3 : Int32) by decide) rfl ?_
  refine s_aloadN X (pc' := 15) d28_14 rfl rfl rfl ?_
  refine s_iload X (pc' := 17) d28_15 rfl rfl ?_
  refine s_aloadN X (pc' := 18) d28_17 rfl rfl rfl ?_
  refine s_iloadN X (pc' := 19) d28_18 rfl rfl ?_
  refine s_caload X (pc' := 20) (i := 0) (v := (.int c0)) d28_19 A_b rfl rfl rfl ?_
  refine s_static X (pc' := 23) (W := 0) (as' := [(.ref t), (.int (0 : Int32)), (.int c0)]) (S := []) (k' := 1) (n' := 6) d28_20 (hw _ (List.mem_of_getElem? (i := 138) rfl)) (hw _ (List.mem_of_getElem? (i := 139) rfl)) (hw _ (List.mem_of_getElem? (i := 98) rfl)) (hw _ (List.mem_of_getElem? (i := 140) rfl)) (by decide) own_pd8 rfl ((u_put l Z a0 hw hEL t _ 0 c0 _ A_t (Nat.le_of_ble_eq_true rfl) (Nat.le_of_ble_eq_true rfl) g_t U).payS (by simp) (hw _ (List.mem_of_getElem? (i := 140) rfl)) (hw _ (List.mem_of_getElem? (i := 98) rfl)) hEL (by decide) (by decide)) (Nat.le_of_ble_eq_true rfl) rfl rfl (by decide) (by decide) (by decide) (by decide) rfl (fun T h87 v_ ws_ X hgr_ q88 => ?_)
  obtain ⟨rfl, K_, A_t, rfl⟩ := q88
  show Go p e below _ T (mkF m 23 #[.val (.ref b), .val (.int (0 : Int32)), .val (.int (3 : Int32)), .val (.ref t), .val (.int (0 : Int32))] [])
  replace X := X.sub (ws' := [t]) (by simp)
  replace A_b := A_b.keep K_ (ninS ne_b_t nin0)
  replace R_ := ext_keep R_ K_ (allS sz_R__t all0)
  replace A_t : Ary Z h87 t .byte [(.int (StrChars.lo8 c0)), (.int (StrChars.hi8 c0)), (.int (0 : Int32)), (.int (0 : Int32)), (.int (0 : Int32)), (.int (0 : Int32))] := A_t
  refine s_iinc X (pc' := 26) (L' := #[.val (.ref b), .val (.int (1 : Int32)), .val (.int (3 : Int32)), .val (.ref t), .val (.int (0 : Int32))]) d28_23 (v := (1 : Int32)) (by decide) rfl rfl rfl ?_
  refine s_iinc X (pc' := 29) (L' := #[.val (.ref b), .val (.int (1 : Int32)), .val (.int (3 : Int32)), .val (.ref t), .val (.int (1 : Int32))]) d28_26 (v := (1 : Int32)) (by decide) rfl rfl rfl ?_
  refine s_goto X (pc' := 8) d28_29 (by decide) (by decide) ?_
  refine s_iload X (pc' := 10) d28_8 rfl rfl ?_
  refine s_iloadN X (pc' := 11) d28_10 rfl rfl ?_
  refine s_icmpF X (pc' := 14) d28_11 (show (1 : Int32) < (3 : Int32) by decide) rfl ?_
  refine s_aloadN X (pc' := 15) d28_14 rfl rfl rfl ?_
  refine s_iload X (pc' := 17) d28_15 rfl rfl ?_
  refine s_aloadN X (pc' := 18) d28_17 rfl rfl rfl ?_
  refine s_iloadN X (pc' := 19) d28_18 rfl rfl ?_
  refine s_caload X (pc' := 20) (i := 1) (v := (.int c1)) d28_19 A_b rfl rfl rfl ?_
  refine s_static X (pc' := 23) (W := 0) (as' := [(.ref t), (.int (1 : Int32)), (.int c1)]) (S := []) (k' := 1) (n' := 6) d28_20 (hw _ (List.mem_of_getElem? (i := 138) rfl)) (hw _ (List.mem_of_getElem? (i := 139) rfl)) (hw _ (List.mem_of_getElem? (i := 98) rfl)) (hw _ (List.mem_of_getElem? (i := 140) rfl)) (by decide) own_pd8 rfl ((u_put l Z a0 hw hEL t _ 1 c1 _ A_t (Nat.le_of_ble_eq_true rfl) (Nat.le_of_ble_eq_true rfl) g_t U).payS (by simp) (hw _ (List.mem_of_getElem? (i := 140) rfl)) (hw _ (List.mem_of_getElem? (i := 98) rfl)) hEL (by decide) (by decide)) (Nat.le_of_ble_eq_true rfl) rfl rfl (by decide) (by decide) (by decide) (by decide) rfl (fun T h89 v_ ws_ X hgr_ q90 => ?_)
  obtain ⟨rfl, K_, A_t, rfl⟩ := q90
  show Go p e below _ T (mkF m 23 #[.val (.ref b), .val (.int (1 : Int32)), .val (.int (3 : Int32)), .val (.ref t), .val (.int (1 : Int32))] [])
  replace X := X.sub (ws' := [t]) (by simp)
  replace A_b := A_b.keep K_ (ninS ne_b_t nin0)
  replace R_ := ext_keep R_ K_ (allS sz_R__t all0)
  replace A_t : Ary Z h89 t .byte [(.int (StrChars.lo8 c0)), (.int (StrChars.hi8 c0)), (.int (StrChars.lo8 c1)), (.int (StrChars.hi8 c1)), (.int (0 : Int32)), (.int (0 : Int32))] := A_t
  refine s_iinc X (pc' := 26) (L' := #[.val (.ref b), .val (.int (2 : Int32)), .val (.int (3 : Int32)), .val (.ref t), .val (.int (1 : Int32))]) d28_23 (v := (1 : Int32)) (by decide) rfl rfl rfl ?_
  refine s_iinc X (pc' := 29) (L' := #[.val (.ref b), .val (.int (2 : Int32)), .val (.int (3 : Int32)), .val (.ref t), .val (.int (2 : Int32))]) d28_26 (v := (1 : Int32)) (by decide) rfl rfl rfl ?_
  refine s_goto X (pc' := 8) d28_29 (by decide) (by decide) ?_
  refine s_iload X (pc' := 10) d28_8 rfl rfl ?_
  refine s_iloadN X (pc' := 11) d28_10 rfl rfl ?_
  refine s_icmpF X (pc' := 14) d28_11 (show (2 : Int32) < (3 : Int32) by decide) rfl ?_
  refine s_aloadN X (pc' := 15) d28_14 rfl rfl rfl ?_
  refine s_iload X (pc' := 17) d28_15 rfl rfl ?_
  refine s_aloadN X (pc' := 18) d28_17 rfl rfl rfl ?_
  refine s_iloadN X (pc' := 19) d28_18 rfl rfl ?_
  refine s_caload X (pc' := 20) (i := 2) (v := (.int c2)) d28_19 A_b rfl rfl rfl ?_
  refine s_static X (pc' := 23) (W := 0) (as' := [(.ref t), (.int (2 : Int32)), (.int c2)]) (S := []) (k' := 1) (n' := 6) d28_20 (hw _ (List.mem_of_getElem? (i := 138) rfl)) (hw _ (List.mem_of_getElem? (i := 139) rfl)) (hw _ (List.mem_of_getElem? (i := 98) rfl)) (hw _ (List.mem_of_getElem? (i := 140) rfl)) (by decide) own_pd8 rfl ((u_put l Z a0 hw hEL t _ 2 c2 _ A_t (Nat.le_of_ble_eq_true rfl) (Nat.le_of_ble_eq_true rfl) g_t U).payS (by simp) (hw _ (List.mem_of_getElem? (i := 140) rfl)) (hw _ (List.mem_of_getElem? (i := 98) rfl)) hEL (by decide) (by decide)) (Nat.le_of_ble_eq_true rfl) rfl rfl (by decide) (by decide) (by decide) (by decide) rfl (fun T h91 v_ ws_ X hgr_ q92 => ?_)
  obtain ⟨rfl, K_, A_t, rfl⟩ := q92
  show Go p e below _ T (mkF m 23 #[.val (.ref b), .val (.int (2 : Int32)), .val (.int (3 : Int32)), .val (.ref t), .val (.int (2 : Int32))] [])
  replace X := X.sub (ws' := [t]) (by simp)
  replace A_b := A_b.keep K_ (ninS ne_b_t nin0)
  replace R_ := ext_keep R_ K_ (allS sz_R__t all0)
  replace A_t : Ary Z h91 t .byte [(.int (StrChars.lo8 c0)), (.int (StrChars.hi8 c0)), (.int (StrChars.lo8 c1)), (.int (StrChars.hi8 c1)), (.int (StrChars.lo8 c2)), (.int (StrChars.hi8 c2))] := A_t
  refine s_iinc X (pc' := 26) (L' := #[.val (.ref b), .val (.int (3 : Int32)), .val (.int (3 : Int32)), .val (.ref t), .val (.int (2 : Int32))]) d28_23 (v := (1 : Int32)) (by decide) rfl rfl rfl ?_
  refine s_iinc X (pc' := 29) (L' := #[.val (.ref b), .val (.int (3 : Int32)), .val (.int (3 : Int32)), .val (.ref t), .val (.int (3 : Int32))]) d28_26 (v := (1 : Int32)) (by decide) rfl rfl rfl ?_
  refine s_goto X (pc' := 8) d28_29 (by decide) (by decide) ?_
  refine s_iload X (pc' := 10) d28_8 rfl rfl ?_
  refine s_iloadN X (pc' := 11) d28_10 rfl rfl ?_
  refine s_icmpT X (pc' := 32) d28_11 (show ¬ (3 : Int32) < (3 : Int32) by decide) (by decide) (by decide) ?_
  refine s_aloadN X (pc' := 33) d28_32 rfl rfl rfl ?_
  exact s_aret X hEL (ws' := [t]) (t := (.array .byte)) d28_33 rfl rfl rfl rfl (by decide) (by decide) (by simp) ⟨t, rfl, R_, sz_R__t, A_t, rfl⟩
theorem ef_u_c5_3 (m : MethodId) (b d : Addr) (c0 c1 c2 : Int32) : entryFrame m #[(.ref b), (.int (0 : Int32)), (.ref d), (.int (0 : Int32)), (.int (3 : Int32))] 7 = mkF m 0 #[.val (.ref b), .val (.int (0 : Int32)), .val (.ref d), .val (.int (0 : Int32)), .val (.int (3 : Int32)), .unset, .unset] [] := by first | (simp [entryFrame, mkF, argsToLocals, Value.category]; done) | rfl
set_option maxRecDepth 65536 in
set_option maxHeartbeats 40000000 in
theorem u_c5_3 (l : Launch) (Z : State) (a0 : Array Value) (hw : ∀ d ∈ tables_1, d.before a0 Z = true) (hEL : EW Z a0 consts_1) (b d : Addr) (c0 c1 c2 : Int32) (h : Heap) (A_b : Ary Z h b .char [(.int c0), (.int c1), (.int c2)]) (A_d : Ary Z h d .byte [(.int (0 : Int32)), (.int (0 : Int32)), (.int (0 : Int32))]) (ne_b_d : b ≠ d) (g_d : Z.heap.size ≤ d) (hl : ∃ c ∈ ([c0, c1, c2] : List Int32), (255 : Int32) < c) :
    Con l Z consts_1 False (⟨"java/lang/StringUTF16", "compress", "([CI[BII)I"⟩ : MethodName) jdk_52_method_21_code 7 (some .int) ({ frames := 0, cells := 0, slots := 0, locals := 0 } : Room) [d] #[(.ref b), (.int (0 : Int32)), (.ref d), (.int (0 : Int32)), (.int (3 : Int32))] h (fun v h' ws' => ∃ j, v = some (.int (Int32.ofNat j)) ∧ j < 3 ∧ (255 : Int32) < ([c0, c1, c2] : List Int32).getD j 0 ∧ Keep h h' [d] ∧ ws' = [d]) := by
  refine Con.intro own_pn15 (fun p e s m below meth c T X => ?_)
  rw [ef_u_c5_3 m b d c0 c1 c2]
  have K_ : Keep h h [d] := Keep.refl _ _
  refine s_iconst X (pc' := 1) d20_0 (v := (0 : Int32)) rfl rfl ?_
  refine s_istore X (pc' := 3) (L' := #[.val (.ref b), .val (.int (0 : Int32)), .val (.ref d), .val (.int (0 : Int32)), .val (.int (3 : Int32)), .val (.int (0 : Int32)), .unset]) d20_1 rfl rfl ?_
  refine s_iload X (pc' := 5) d20_3 rfl rfl ?_
  refine s_iload X (pc' := 7) d20_5 rfl rfl ?_
  refine s_icmpF X (pc' := 10) d20_7 (show (0 : Int32) < (3 : Int32) by decide) rfl ?_
  refine s_aloadN X (pc' := 11) d20_10 rfl rfl rfl ?_
  refine s_iloadN X (pc' := 12) d20_11 rfl rfl ?_
  refine s_caload X (pc' := 13) (i := 0) (v := (.int c0)) d20_12 A_b rfl rfl rfl ?_
  refine s_istore X (pc' := 15) (L' := #[.val (.ref b), .val (.int (0 : Int32)), .val (.ref d), .val (.int (0 : Int32)), .val (.int (3 : Int32)), .val (.int (0 : Int32)), .val (.int c0)]) d20_13 rfl rfl ?_
  refine s_iload X (pc' := 17) d20_15 rfl rfl ?_
  refine s_sipush X (pc' := 20) d20_17 (v := (255 : Int32)) (by decide) rfl ?_
  refine s_icmp X (pc' := 26) (pcF := 23) d20_20 (by decide) (by decide) rfl (fun (q0 : ¬ (255 : Int32) < c0) => ?_) (fun (q0 : (255 : Int32) < c0) => ?_)
  · refine s_aloadN X (pc' := 27) d20_26 rfl rfl rfl ?_
    refine s_iloadN X (pc' := 28) d20_27 rfl rfl ?_
    refine s_iload X (pc' := 30) d20_28 rfl rfl ?_
    refine s_i2b X (pc' := 31) d20_30 rfl ?_
    refine s_bastore X (pc' := 32) (i := 0) d20_31 A_d rfl (Nat.le_of_ble_eq_true rfl) g_d (by simp) rfl (fun T h93 X W94 A' => ?_)
    replace A_b := A_b.other W94 ne_b_d
    replace K_ := K_.wr W94 (Or.inl (by simp))
    replace A_d : Ary Z h93 d .byte [(.int (nar .byte c0.toInt8.toInt32)), (.int (0 : Int32)), (.int (0 : Int32))] := A'
    refine s_iinc X (pc' := 35) (L' := #[.val (.ref b), .val (.int (1 : Int32)), .val (.ref d), .val (.int (0 : Int32)), .val (.int (3 : Int32)), .val (.int (0 : Int32)), .val (.int c0)]) d20_32 (v := (1 : Int32)) (by decide) rfl rfl rfl ?_
    refine s_iinc X (pc' := 38) (L' := #[.val (.ref b), .val (.int (1 : Int32)), .val (.ref d), .val (.int (1 : Int32)), .val (.int (3 : Int32)), .val (.int (0 : Int32)), .val (.int c0)]) d20_35 (v := (1 : Int32)) (by decide) rfl rfl rfl ?_
    refine s_iinc X (pc' := 41) (L' := #[.val (.ref b), .val (.int (1 : Int32)), .val (.ref d), .val (.int (1 : Int32)), .val (.int (3 : Int32)), .val (.int (1 : Int32)), .val (.int c0)]) d20_38 (v := (1 : Int32)) (by decide) rfl rfl rfl ?_
    refine s_goto X (pc' := 3) d20_41 (by decide) (by decide) ?_
    refine s_iload X (pc' := 5) d20_3 rfl rfl ?_
    refine s_iload X (pc' := 7) d20_5 rfl rfl ?_
    refine s_icmpF X (pc' := 10) d20_7 (show (1 : Int32) < (3 : Int32) by decide) rfl ?_
    refine s_aloadN X (pc' := 11) d20_10 rfl rfl rfl ?_
    refine s_iloadN X (pc' := 12) d20_11 rfl rfl ?_
    refine s_caload X (pc' := 13) (i := 1) (v := (.int c1)) d20_12 A_b rfl rfl rfl ?_
    refine s_istore X (pc' := 15) (L' := #[.val (.ref b), .val (.int (1 : Int32)), .val (.ref d), .val (.int (1 : Int32)), .val (.int (3 : Int32)), .val (.int (1 : Int32)), .val (.int c1)]) d20_13 rfl rfl ?_
    refine s_iload X (pc' := 17) d20_15 rfl rfl ?_
    refine s_sipush X (pc' := 20) d20_17 (v := (255 : Int32)) (by decide) rfl ?_
    refine s_icmp X (pc' := 26) (pcF := 23) d20_20 (by decide) (by decide) rfl (fun (q1 : ¬ (255 : Int32) < c1) => ?_) (fun (q1 : (255 : Int32) < c1) => ?_)
    · refine s_aloadN X (pc' := 27) d20_26 rfl rfl rfl ?_
      refine s_iloadN X (pc' := 28) d20_27 rfl rfl ?_
      refine s_iload X (pc' := 30) d20_28 rfl rfl ?_
      refine s_i2b X (pc' := 31) d20_30 rfl ?_
      refine s_bastore X (pc' := 32) (i := 1) d20_31 A_d rfl (Nat.le_of_ble_eq_true rfl) g_d (by simp) rfl (fun T h95 X W96 A' => ?_)
      replace A_b := A_b.other W96 ne_b_d
      replace K_ := K_.wr W96 (Or.inl (by simp))
      replace A_d : Ary Z h95 d .byte [(.int (nar .byte c0.toInt8.toInt32)), (.int (nar .byte c1.toInt8.toInt32)), (.int (0 : Int32))] := A'
      refine s_iinc X (pc' := 35) (L' := #[.val (.ref b), .val (.int (2 : Int32)), .val (.ref d), .val (.int (1 : Int32)), .val (.int (3 : Int32)), .val (.int (1 : Int32)), .val (.int c1)]) d20_32 (v := (1 : Int32)) (by decide) rfl rfl rfl ?_
      refine s_iinc X (pc' := 38) (L' := #[.val (.ref b), .val (.int (2 : Int32)), .val (.ref d), .val (.int (2 : Int32)), .val (.int (3 : Int32)), .val (.int (1 : Int32)), .val (.int c1)]) d20_35 (v := (1 : Int32)) (by decide) rfl rfl rfl ?_
      refine s_iinc X (pc' := 41) (L' := #[.val (.ref b), .val (.int (2 : Int32)), .val (.ref d), .val (.int (2 : Int32)), .val (.int (3 : Int32)), .val (.int (2 : Int32)), .val (.int c1)]) d20_38 (v := (1 : Int32)) (by decide) rfl rfl rfl ?_
      refine s_goto X (pc' := 3) d20_41 (by decide) (by decide) ?_
      refine s_iload X (pc' := 5) d20_3 rfl rfl ?_
      refine s_iload X (pc' := 7) d20_5 rfl rfl ?_
      refine s_icmpF X (pc' := 10) d20_7 (show (2 : Int32) < (3 : Int32) by decide) rfl ?_
      refine s_aloadN X (pc' := 11) d20_10 rfl rfl rfl ?_
      refine s_iloadN X (pc' := 12) d20_11 rfl rfl ?_
      refine s_caload X (pc' := 13) (i := 2) (v := (.int c2)) d20_12 A_b rfl rfl rfl ?_
      refine s_istore X (pc' := 15) (L' := #[.val (.ref b), .val (.int (2 : Int32)), .val (.ref d), .val (.int (2 : Int32)), .val (.int (3 : Int32)), .val (.int (2 : Int32)), .val (.int c2)]) d20_13 rfl rfl ?_
      refine s_iload X (pc' := 17) d20_15 rfl rfl ?_
      refine s_sipush X (pc' := 20) d20_17 (v := (255 : Int32)) (by decide) rfl ?_
      refine s_icmp X (pc' := 26) (pcF := 23) d20_20 (by decide) (by decide) rfl (fun (q2 : ¬ (255 : Int32) < c2) => ?_) (fun (q2 : (255 : Int32) < c2) => ?_)
      · obtain ⟨c, hc, hw'⟩ := hl
        simp only [List.mem_cons, List.not_mem_nil, or_false] at hc
        rcases hc with rfl | rfl | rfl
        · exact absurd hw' q0
        · exact absurd hw' q1
        · exact absurd hw' q2
      · refine s_iload X (pc' := 25) d20_23 rfl rfl ?_
        exact s_iret X hEL (ws' := [d]) d20_25 (by decide) (by decide) (by simp) ⟨2, rfl, (by decide), q2, K_, rfl⟩
    · refine s_iload X (pc' := 25) d20_23 rfl rfl ?_
      exact s_iret X hEL (ws' := [d]) d20_25 (by decide) (by decide) (by simp) ⟨1, rfl, (by decide), q1, K_, rfl⟩
  · refine s_iload X (pc' := 25) d20_23 rfl rfl ?_
    exact s_iret X hEL (ws' := [d]) d20_25 (by decide) (by decide) (by simp) ⟨0, rfl, (by decide), q0, K_, rfl⟩
theorem ef_u_c3_3 (m : MethodId) (b : Addr) (c0 c1 c2 : Int32) : entryFrame m #[(.ref b), (.int (0 : Int32)), (.int (3 : Int32))] 6 = mkF m 0 #[.val (.ref b), .val (.int (0 : Int32)), .val (.int (3 : Int32)), .unset, .unset, .unset] [] := by first | (simp [entryFrame, mkF, argsToLocals, Value.category]; done) | rfl
set_option maxRecDepth 65536 in
set_option maxHeartbeats 40000000 in
theorem u_c3_3 (l : Launch) (Z : State) (a0 : Array Value) (hw : ∀ d ∈ tables_1, d.before a0 Z = true) (hEL : EW Z a0 consts_1) (b : Addr) (c0 c1 c2 : Int32) (h : Heap) (A_b : Ary Z h b .char [(.int c0), (.int c1), (.int c2)]) (hp : ∀ c ∈ ([c0, c1, c2] : List Int32), ¬ c < 0 ∧ ¬ (65535 : Int32) < c) (hl : ∃ c ∈ ([c0, c1, c2] : List Int32), (255 : Int32) < c) (U : U16 Z) :
    Con l Z consts_1 False (⟨"java/lang/StringUTF16", "compress", "([CII)[B"⟩ : MethodName) jdk_52_method_16_code 6 (some (.array .byte)) ({ frames := 3, cells := 2, slots := 9, locals := 40 } : Room) [] #[(.ref b), (.int (0 : Int32)), (.int (3 : Int32))] h (fun v h' ws' => ∃ t, v = some (.ref t) ∧ Ext h h' ∧ Ary Z h' t .byte (wbs [c0, c1, c2]) ∧ ws' = []) := by
  refine Con.intro own_pn16 (fun p e s m below meth c T X => ?_)
  rw [ef_u_c3_3 m b c0 c1 c2]
  have R_ : Ext h h := ext_refl _
  refine s_iloadN X (pc' := 1) d19_0 rfl rfl ?_
  refine s_newarr X (pc' := 3) (k' := 1) (n' := 3) (N := 3) d19_1 (hw _ (List.mem_of_getElem? (i := 22) rfl)) rfl (by decide) (by decide) (by decide) (by decide) (by decide) rfl (fun T h97 d gb_d X' E98 A_d => ?_)
  have g_d : Z.heap.size ≤ d := by rw [gb_d]; exact X.lt
  have ne_b_d : b ≠ d := Nat.ne_of_lt (by rw [gb_d]; exact A_b.lt)
  have sz_R__d : h.size ≤ d := by rw [gb_d]; exact R_.1
  replace A_b := A_b.ext E98
  replace R_ := ext_trans R_ E98
  replace X := X'
  replace A_d : Ary Z h97 d .byte [(.int (0 : Int32)), (.int (0 : Int32)), (.int (0 : Int32))] := A_d
  refine s_astoreN X (pc' := 4) (L' := #[.val (.ref b), .val (.int (0 : Int32)), .val (.int (3 : Int32)), .val (.ref d), .unset, .unset]) d19_3 rfl rfl rfl ?_
  refine s_aloadN X (pc' := 5) d19_4 rfl rfl rfl ?_
  refine s_iloadN X (pc' := 6) d19_5 rfl rfl ?_
  refine s_aloadN X (pc' := 7) d19_6 rfl rfl rfl ?_
  refine s_iconst X (pc' := 8) d19_7 (v := (0 : Int32)) rfl rfl ?_
  refine s_iloadN X (pc' := 9) d19_8 rfl rfl ?_
  refine s_static X (pc' := 12) (W := 0) (as' := [(.ref b), (.int (0 : Int32)), (.ref d), (.int (0 : Int32)), (.int (3 : Int32))]) (S := []) (k' := 1) (n' := 3) d19_9 (hw _ (List.mem_of_getElem? (i := 100) rfl)) (hw _ (List.mem_of_getElem? (i := 101) rfl)) (hw _ (List.mem_of_getElem? (i := 98) rfl)) (hw _ (List.mem_of_getElem? (i := 102) rfl)) (by decide) own_pd9 rfl ((u_c5_3 l Z a0 hw hEL b d c0 c1 c2 _ A_b A_d ne_b_d g_d hl).payS (by simp) (hw _ (List.mem_of_getElem? (i := 102) rfl)) (hw _ (List.mem_of_getElem? (i := 98) rfl)) hEL (by decide) (by decide)) (Nat.le_of_ble_eq_true rfl) rfl rfl (by decide) (by decide) (by decide) (by decide) rfl (fun T h99 v_ ws_ X hgr_ q100 => ?_)
  obtain ⟨j, rfl, hj, hjw, K_, rfl⟩ := q100
  show Go p e below _ T (mkF m 12 #[.val (.ref b), .val (.int (0 : Int32)), .val (.int (3 : Int32)), .val (.ref d), .unset, .unset] [(.int (Int32.ofNat j))])
  replace X := X.sub (ws' := [d]) (by simp)
  replace A_b := A_b.keep K_ (ninS ne_b_d nin0)
  replace R_ := ext_keep R_ K_ (allS sz_R__d all0)
  refine s_istore X (pc' := 14) (L' := #[.val (.ref b), .val (.int (0 : Int32)), .val (.int (3 : Int32)), .val (.ref d), .val (.int (Int32.ofNat j)), .unset]) d19_12 rfl rfl ?_
  refine s_iload X (pc' := 16) d19_14 rfl rfl ?_
  refine s_iloadN X (pc' := 17) d19_16 rfl rfl ?_
  refine s_icmpF X (pc' := 20) d19_17 (show ¬ Int32.ofNat j = (3 : Int32) from fun z => Nat.ne_of_lt hj ((on_eq (by omega) (by decide)).mp z)) rfl ?_
  refine s_aloadN X (pc' := 21) d19_20 rfl rfl rfl ?_
  refine s_iloadN X (pc' := 22) d19_21 rfl rfl ?_
  refine s_iloadN X (pc' := 23) d19_22 rfl rfl ?_
  refine s_static X (pc' := 26) (W := 0) (as' := [(.ref b), (.int (0 : Int32)), (.int (3 : Int32))]) (S := []) (k' := 2) (n' := 9) d19_23 (hw _ (List.mem_of_getElem? (i := 128) rfl)) (hw _ (List.mem_of_getElem? (i := 129) rfl)) (hw _ (List.mem_of_getElem? (i := 98) rfl)) (hw _ (List.mem_of_getElem? (i := 130) rfl)) (by decide) own_pd10 rfl ((u_tb3 l Z a0 hw hEL b c0 c1 c2 _ A_b U).payS (by simp) (hw _ (List.mem_of_getElem? (i := 130) rfl)) (hw _ (List.mem_of_getElem? (i := 98) rfl)) hEL (by decide) (by decide)) (Nat.le_of_ble_eq_true rfl) rfl rfl (by decide) (by decide) (by decide) (by decide) rfl (fun T h101 v_ ws_ X hgr_ q102 => ?_)
  obtain ⟨t, rfl, E_, -, A_t, rfl⟩ := q102
  show Go p e below _ T (mkF m 26 #[.val (.ref b), .val (.int (0 : Int32)), .val (.int (3 : Int32)), .val (.ref d), .val (.int (Int32.ofNat j)), .unset] [(.ref t)])
  replace X := X.sub (ws' := []) (by simp)
  replace A_b := A_b.ext E_
  replace R_ := ext_trans R_ E_
  refine s_astore X (pc' := 28) (L' := #[.val (.ref b), .val (.int (0 : Int32)), .val (.int (3 : Int32)), .val (.ref d), .val (.int (Int32.ofNat j)), .val (.ref t)]) d19_26 rfl rfl rfl ?_
  refine s_aload X (pc' := 30) d19_28 rfl rfl rfl ?_
  refine s_iload X (pc' := 32) d19_30 rfl rfl ?_
  refine s_static X (pc' := 35) (W := 0) (as' := [(.ref t), (.int (Int32.ofNat j))]) (S := []) (k' := 2) (n' := 9) d19_32 (hw _ (List.mem_of_getElem? (i := 144) rfl)) (hw _ (List.mem_of_getElem? (i := 145) rfl)) (hw _ (List.mem_of_getElem? (i := 98) rfl)) (hw _ (List.mem_of_getElem? (i := 146) rfl)) (by decide) own_pd11 rfl ((u_get l Z a0 hw hEL t [c0, c1, c2] j _ A_t (Nat.le_of_ble_eq_true rfl) hj hp U).payS (by simp) (hw _ (List.mem_of_getElem? (i := 146) rfl)) (hw _ (List.mem_of_getElem? (i := 98) rfl)) hEL (by decide) (by decide)) (Nat.le_of_ble_eq_true rfl) rfl rfl (by decide) (by decide) (by decide) (by decide) rfl (fun T h103 v_ ws_ X hgr_ q104 => ?_)
  obtain ⟨rfl, e_, rfl⟩ := q104
  rw [e_] at X
  show Go p e below _ T (mkF m 35 #[.val (.ref b), .val (.int (0 : Int32)), .val (.int (3 : Int32)), .val (.ref d), .val (.int (Int32.ofNat j)), .val (.ref t)] [(.int (([c0, c1, c2] : List Int32).getD j 0))])
  replace X := X.sub (ws' := []) (by simp)
  refine s_sipush X (pc' := 38) d19_35 (v := (255 : Int32)) (by decide) rfl ?_
  refine s_icmpT X (pc' := 54) d19_38 hjw (by decide) (by decide) ?_
  refine s_aload X (pc' := 56) d19_54 rfl rfl rfl ?_
  exact s_aret X hEL (ws' := []) (t := (.array .byte)) d19_56 rfl rfl rfl rfl (by decide) (by decide) (fun x q => by simp at q) ⟨t, rfl, R_, A_t, rfl⟩
theorem ef_u_cf3 (m : MethodId) (t : Addr) : entryFrame m #[(.ref t), (.int (3 : Int32))] 2 = mkF m 0 #[.val (.ref t), .val (.int (3 : Int32))] [] := by first | (simp [entryFrame, mkF, argsToLocals, Value.category]; done) | rfl
set_option maxRecDepth 65536 in
set_option maxHeartbeats 40000000 in
theorem u_cf3 (l : Launch) (Z : State) (a0 : Array Value) (hw : ∀ d ∈ tables_1, d.before a0 Z = true) (hEL : EW Z a0 consts_1) (t : Addr) (h : Heap) {vs : List Value} (A_t : Ary Z h t .byte vs) (hv : vs.length = 6) :
    Con l Z consts_1 False (⟨"java/lang/StringUTF16", "coderFromArrayLen", "([BI)B"⟩ : MethodName) jdk_52_method_15_code 2 (some .byte) ({ frames := 0, cells := 0, slots := 0, locals := 0 } : Room) [] #[(.ref t), (.int (3 : Int32))] h (fun v h' ws' => v = some (.int ((1 : Int32))) ∧ h' = h ∧ ws' = []) := by
  refine Con.intro own_pn17 (fun p e s m below meth c T X => ?_)
  rw [ef_u_cf3 m t]
  refine s_iloadN X (pc' := 1) d21_0 rfl rfl ?_
  refine s_aloadN X (pc' := 2) d21_1 rfl rfl rfl ?_
  refine s_alen X (pc' := 3) (z := (6 : Int32)) d21_2 A_t (by rw [hv]; rfl) rfl ?_
  refine s_isub X (pc' := 4) d21_3 rfl ?_
  refine s_bipush X (pc' := 6) d21_4 (v := (31 : Int32)) (by decide) rfl ?_
  refine s_iushr X (pc' := 7) d21_6 rfl ?_
  refine s_i2b X (pc' := 8) d21_7 rfl ?_
  refine go_int (z := (1 : Int32)) (by decide) ?_
  exact s_iretN X hEL (ws' := []) (t := .byte) d21_8 rfl (by simp) (by decide) (by decide) (fun x q => by simp at q) ⟨rfl, rfl, rfl⟩
theorem ef_u_i2_3 (m : MethodId) (x b : Addr) (c0 c1 c2 : Int32) : entryFrame m #[(.ref x), (.ref b), (.int (0 : Int32)), (.int (3 : Int32)), .null] 6 = mkF m 0 #[.val (.ref x), .val (.ref b), .val (.int (0 : Int32)), .val (.int (3 : Int32)), .val .null, .unset] [] := by first | (simp [entryFrame, mkF, argsToLocals, Value.category]; done) | rfl
set_option maxRecDepth 65536 in
set_option maxHeartbeats 40000000 in
theorem u_i2_3 (l : Launch) (Z : State) (a0 : Array Value) (hw : ∀ d ∈ tables_1, d.before a0 Z = true) (hEL : EW Z a0 consts_1) (x b : Addr) (c0 c1 c2 : Int32) {G1 : Int32} (h : Heap) (hE : Ext Z.heap h) (g_x : Z.heap.size ≤ x) (E_x : Exa Z h x "java/lang/String") (F_x_value : Fld Z h x "java/lang/String" "value" "[B" .null) (F_x_coder : Fld Z h x "java/lang/String" "coder" "B" (.int (0 : Int32))) (A_b : Ary Z h b .char [(.int c0), (.int c1), (.int c2)]) (hp : ∀ c ∈ ([c0, c1, c2] : List Int32), ¬ c < 0 ∧ ¬ (65535 : Int32) < c) (hl : ∃ c ∈ ([c0, c1, c2] : List Int32), (255 : Int32) < c) (O2 : Sta Z Z.heap "java/lang/String" "COMPACT_STRINGS" "Z" (.int G1)) (P5 : ¬ (G1 = (0 : Int32))) (U : U16 Z) :
    Con l Z consts_1 False (⟨"java/lang/String", "<init>", "([CIILjava/lang/Void;)V"⟩ : MethodName) jdk_42_method_149_code 6 none ({ frames := 4, cells := 2, slots := 9, locals := 57 } : Room) [x] #[(.ref x), (.ref b), (.int (0 : Int32)), (.int (3 : Int32)), .null] h (fun v h' ws' => v = none ∧ Keep h h' [x] ∧ Str Z h' x [c0, c1, c2] ∧ ws' = []) := by
  refine Con.intro own_pn0 (fun p e s m below meth c T X => ?_)
  rw [ef_u_i2_3 m x b c0 c1 c2]
  have K_ : Keep h h [x] := Keep.refl _ _
  refine s_aloadN X (pc' := 1) d3_0 rfl rfl rfl ?_
  refine s_initO X (pc' := 4) (W := 0) d3_1 (hw _ (List.mem_of_getElem? (i := 18) rfl)) (hw _ (List.mem_of_getElem? (i := 19) rfl)) (b' := object_method_1_code) rfl (hw _ (List.mem_of_getElem? (i := 20) rfl)) (Nat.le_of_ble_eq_true rfl) (by decide) (by decide) rfl rfl (fun T X => ?_)
  refine s_iloadN X (pc' := 5) d3_4 rfl rfl ?_
  refine s_ifT X (pc' := 27) d3_5 (show ¬ (3 : Int32) = (0 : Int32) by decide) (by decide) (by decide) ?_
  refine s_gets X (pc' := 30) d3_27 (hw _ (List.mem_of_getElem? (i := 50) rfl)) Via.refl O2 rfl (fun T X => ?_)
  refine s_ifF X (pc' := 33) d3_30 P5 rfl ?_
  refine s_aloadN X (pc' := 34) d3_33 rfl rfl rfl ?_
  refine s_iloadN X (pc' := 35) d3_34 rfl rfl ?_
  refine s_iloadN X (pc' := 36) d3_35 rfl rfl ?_
  refine s_static X (pc' := 39) (W := 0) (as' := [(.ref b), (.int (0 : Int32)), (.int (3 : Int32))]) (S := []) (k' := 2) (n' := 9) d3_36 (hw _ (List.mem_of_getElem? (i := 96) rfl)) (hw _ (List.mem_of_getElem? (i := 97) rfl)) (hw _ (List.mem_of_getElem? (i := 98) rfl)) (hw _ (List.mem_of_getElem? (i := 99) rfl)) (by decide) own_pd10 rfl ((u_c3_3 l Z a0 hw hEL b c0 c1 c2 _ A_b hp hl U).payS (by simp) (hw _ (List.mem_of_getElem? (i := 99) rfl)) (hw _ (List.mem_of_getElem? (i := 98) rfl)) hEL (by decide) (by decide)) (Nat.le_of_ble_eq_true rfl) rfl rfl (by decide) (by decide) (by decide) (by decide) rfl (fun T h105 v_ ws_ X hgr_ q106 => ?_)
  obtain ⟨t, rfl, E_, A_t, rfl⟩ := q106
  show Go p e below _ T (mkF m 39 #[.val (.ref x), .val (.ref b), .val (.int (0 : Int32)), .val (.int (3 : Int32)), .val .null, .unset] [(.ref t)])
  replace X := X.sub (ws' := [x]) (by simp)
  replace E_x := E_x.ext E_
  replace F_x_value := F_x_value.ext E_
  replace F_x_coder := F_x_coder.ext E_
  replace K_ := K_.ext E_
  refine s_astore X (pc' := 41) (L' := #[.val (.ref x), .val (.ref b), .val (.int (0 : Int32)), .val (.int (3 : Int32)), .val .null, .val (.ref t)]) d3_39 rfl rfl rfl ?_
  refine s_aloadN X (pc' := 42) d3_41 rfl rfl rfl ?_
  refine s_aload X (pc' := 44) d3_42 rfl rfl rfl ?_
  refine s_iloadN X (pc' := 45) d3_44 rfl rfl ?_
  refine s_static X (pc' := 48) (W := 1) (as' := [(.ref t), (.int (3 : Int32))]) (S := [(.ref x)]) (k' := 2) (n' := 9) d3_45 (hw _ (List.mem_of_getElem? (i := 103) rfl)) (hw _ (List.mem_of_getElem? (i := 104) rfl)) (hw _ (List.mem_of_getElem? (i := 98) rfl)) (hw _ (List.mem_of_getElem? (i := 105) rfl)) (by decide) own_pd12 rfl ((u_cf3 l Z a0 hw hEL t _ A_t rfl).payS (by simp) (hw _ (List.mem_of_getElem? (i := 105) rfl)) (hw _ (List.mem_of_getElem? (i := 98) rfl)) hEL (by decide) (by decide)) (Nat.le_of_ble_eq_true rfl) rfl rfl (by decide) (by decide) (by decide) (by decide) rfl (fun T h107 v_ ws_ X hgr_ q108 => ?_)
  obtain ⟨rfl, e_, rfl⟩ := q108
  rw [e_] at X
  show Go p e below _ T (mkF m 48 #[.val (.ref x), .val (.ref b), .val (.int (0 : Int32)), .val (.int (3 : Int32)), .val .null, .val (.ref t)] [(.int (1 : Int32)), (.ref x)])
  replace X := X.sub (ws' := [x]) (by simp)
  have ne_t_x : t ≠ x := by obtain ⟨kc, q⟩ := A_t.arv .null; exact (Exa.neArv E_x q (hw _ (List.mem_of_getElem? (i := 9) rfl))).symm
  refine s_putf X (pc' := 51) d3_48 (hw _ (List.mem_of_getElem? (i := 28) rfl)) Via.refl F_x_coder E_x (Or.inr ⟨(hw _ (List.mem_of_getElem? (i := 24) rfl)), rfl, rfl⟩) (hw _ (List.mem_of_getElem? (i := 9) rfl)) (ty := .byte) (by decide) rfl rfl g_x (by simp) rfl (fun T h109 X W110 => ?_)
  replace F_x_value := F_x_value.other W110 (Or.inr (slot_ne (Or.inr (hw _ (List.mem_of_getElem? (i := 23) rfl))) (Or.inr (hw _ (List.mem_of_getElem? (i := 24) rfl))) (t := (.array .byte)) (t' := .byte) (by decide) (by decide) (by decide)))
  replace F_x_coder := F_x_coder.same W110
  replace A_t := A_t.other W110 ne_t_x
  replace E_x := E_x.wr W110
  replace K_ := K_.wr W110 (Or.inl (by simp))
  refine s_aloadN X (pc' := 52) d3_51 rfl rfl rfl ?_
  refine s_aload X (pc' := 54) d3_52 rfl rfl rfl ?_
  refine s_putf X (pc' := 57) d3_54 (hw _ (List.mem_of_getElem? (i := 27) rfl)) Via.refl F_x_value E_x (Or.inr ⟨(hw _ (List.mem_of_getElem? (i := 23) rfl)), rfl, rfl⟩) (hw _ (List.mem_of_getElem? (i := 9) rfl)) (ty := (.array .byte)) (by decide) rfl rfl g_x (by simp) rfl (fun T h111 X W112 => ?_)
  replace F_x_value := F_x_value.same W112
  replace F_x_coder := F_x_coder.other W112 (Or.inr (slot_ne (Or.inr (hw _ (List.mem_of_getElem? (i := 24) rfl))) (Or.inr (hw _ (List.mem_of_getElem? (i := 23) rfl))) (t := .byte) (t' := (.array .byte)) (by decide) (by decide) (by decide)))
  replace A_t := A_t.other W112 ne_t_x
  replace E_x := E_x.wr W112
  replace K_ := K_.wr W112 (Or.inl (by simp))
  exact s_ret X hEL (ws' := []) d3_57 (by decide) (by decide) (fun x q => by simp at q) ⟨rfl, K_, Str.ofWide E_x F_x_value F_x_coder A_t hp (Nat.le_of_ble_eq_true rfl) hl, rfl⟩
theorem ef_u_i1_3 (m : MethodId) (x b : Addr) (c0 c1 c2 : Int32) : entryFrame m #[(.ref x), (.ref b)] 2 = mkF m 0 #[.val (.ref x), .val (.ref b)] [] := by first | (simp [entryFrame, mkF, argsToLocals, Value.category]; done) | rfl
set_option maxRecDepth 65536 in
set_option maxHeartbeats 40000000 in
theorem u_i1_3 (l : Launch) (Z : State) (a0 : Array Value) (hw : ∀ d ∈ tables_1, d.before a0 Z = true) (hEL : EW Z a0 consts_1) (x b : Addr) (c0 c1 c2 : Int32) {G1 : Int32} (h : Heap) (hE : Ext Z.heap h) (g_x : Z.heap.size ≤ x) (E_x : Exa Z h x "java/lang/String") (F_x_value : Fld Z h x "java/lang/String" "value" "[B" .null) (F_x_coder : Fld Z h x "java/lang/String" "coder" "B" (.int (0 : Int32))) (A_b : Ary Z h b .char [(.int c0), (.int c1), (.int c2)]) (hp : ∀ c ∈ ([c0, c1, c2] : List Int32), ¬ c < 0 ∧ ¬ (65535 : Int32) < c) (hl : ∃ c ∈ ([c0, c1, c2] : List Int32), (255 : Int32) < c) (O2 : Sta Z Z.heap "java/lang/String" "COMPACT_STRINGS" "Z" (.int G1)) (P5 : ¬ (G1 = (0 : Int32))) (U : U16 Z) :
    Con l Z consts_1 False (⟨"java/lang/String", "<init>", "([C)V"⟩ : MethodName) jdk_42_method_3_code 2 none ({ frames := 5, cells := 2, slots := 9, locals := 74 } : Room) [x] #[(.ref x), (.ref b)] h (fun v h' ws' => v = none ∧ Keep h h' [x] ∧ Str Z h' x [c0, c1, c2] ∧ ws' = []) := by
  refine Con.intro own_pn1 (fun p e s m below meth c T X => ?_)
  rw [ef_u_i1_3 m x b c0 c1 c2]
  refine s_aloadN X (pc' := 1) d2_0 rfl rfl rfl ?_
  refine s_aloadN X (pc' := 2) d2_1 rfl rfl rfl ?_
  refine s_iconst X (pc' := 3) d2_2 (v := (0 : Int32)) rfl rfl ?_
  refine s_aloadN X (pc' := 4) d2_3 rfl rfl rfl ?_
  refine s_alen X (pc' := 5) (z := (3 : Int32)) d2_4 A_b rfl rfl ?_
  refine s_aconst X (pc' := 6) d2_5 rfl ?_
  refine s_special X (pc' := 9) (W := 0) (as' := [(.ref b), (.int (0 : Int32)), (.int (3 : Int32)), .null]) (S := []) (k' := 2) (n' := 9) d2_6 rfl (hw _ (List.mem_of_getElem? (i := 14) rfl)) (hw _ (List.mem_of_getElem? (i := 15) rfl)) (hw _ (List.mem_of_getElem? (i := 17) rfl)) (by decide) own_pd0 rfl ((u_i2_3 l Z a0 hw hEL x b c0 c1 c2 _ hE g_x E_x F_x_value F_x_coder A_b hp hl O2 P5 U).payS (by simp) (hw _ (List.mem_of_getElem? (i := 17) rfl)) (hw _ (List.mem_of_getElem? (i := 10) rfl)) hEL (by decide) (by decide)) (Nat.le_of_ble_eq_true rfl) rfl rfl (by decide) (by decide) (by decide) (by decide) rfl (fun T h113 v_ ws_ X hgr_ q114 => ?_)
  obtain ⟨rfl, K_, S_, rfl⟩ := q114
  show Go p e below _ T (mkF m 9 #[.val (.ref x), .val (.ref b)] [])
  replace X := X.sub (ws' := [x]) (by simp)
  exact s_ret X hEL (ws' := []) d2_9 (by decide) (by decide) (fun x q => by simp at q) ⟨rfl, K_, S_, rfl⟩
theorem ef_u_nbl4 (m : MethodId)  : entryFrame m #[(.int (4 : Int32))] 1 = mkF m 0 #[.val (.int (4 : Int32))] [] := by first | (simp [entryFrame, mkF, argsToLocals, Value.category]; done) | rfl
set_option maxRecDepth 65536 in
set_option maxHeartbeats 40000000 in
theorem u_nbl4 (l : Launch) (Z : State) (a0 : Array Value) (hw : ∀ d ∈ tables_1, d.before a0 Z = true) (hEL : EW Z a0 consts_1)  (h : Heap)  :
    Con l Z consts_1 False (⟨"java/lang/StringUTF16", "newBytesLength", "(I)I"⟩ : MethodName) jdk_52_method_3_code 1 (some .int) ({ frames := 0, cells := 0, slots := 0, locals := 0 } : Room) [] #[(.int (4 : Int32))] h (fun v h' ws' => v = some (.int ((8 : Int32))) ∧ h' = h ∧ ws' = []) := by
  refine Con.intro own_pn12 (fun p e s m below meth c T X => ?_)
  rw [ef_u_nbl4 m ]
  refine s_iloadN X (pc' := 1) d30_0 rfl rfl ?_
  refine s_ifT X (pc' := 12) d30_1 (show ¬ (4 : Int32) < (0 : Int32) by decide) (by decide) (by decide) ?_
  refine s_iloadN X (pc' := 13) d30_12 rfl rfl ?_
  refine s_ldcI X (pc' := 15) d30_13 (hw _ (List.mem_of_getElem? (i := 137) rfl)) rfl ?_
  refine s_icmpT X (pc' := 55) d30_15 (show (4 : Int32) < (1073741823 : Int32) by decide) (by decide) (by decide) ?_
  refine s_iloadN X (pc' := 56) d30_55 rfl rfl ?_
  refine s_iconst X (pc' := 57) d30_56 (v := (1 : Int32)) rfl rfl ?_
  refine s_ishl X (pc' := 58) d30_57 rfl ?_
  refine go_int (z := (8 : Int32)) (by decide) ?_
  exact s_iret X hEL (ws' := []) d30_58 (by decide) (by decide) (fun x q => by simp at q) ⟨rfl, rfl, rfl⟩
theorem ef_u_nbf4 (m : MethodId)  : entryFrame m #[(.int (4 : Int32))] 1 = mkF m 0 #[.val (.int (4 : Int32))] [] := by first | (simp [entryFrame, mkF, argsToLocals, Value.category]; done) | rfl
set_option maxRecDepth 65536 in
set_option maxHeartbeats 40000000 in
theorem u_nbf4 (l : Launch) (Z : State) (a0 : Array Value) (hw : ∀ d ∈ tables_1, d.before a0 Z = true) (hEL : EW Z a0 consts_1)  (h : Heap)  :
    Con l Z consts_1 False (⟨"java/lang/StringUTF16", "newBytesFor", "(I)[B"⟩ : MethodName) jdk_52_method_2_code 1 (some (.array .byte)) ({ frames := 1, cells := 1, slots := 8, locals := 12 } : Room) [] #[(.int (4 : Int32))] h (fun v h' ws' => ∃ t, v = some (.ref t) ∧ Ext h h' ∧ h.size ≤ t ∧ Ary Z h' t .byte [(.int (0 : Int32)), (.int (0 : Int32)), (.int (0 : Int32)), (.int (0 : Int32)), (.int (0 : Int32)), (.int (0 : Int32)), (.int (0 : Int32)), (.int (0 : Int32))] ∧ ws' = [t]) := by
  refine Con.intro own_pn13 (fun p e s m below meth c T X => ?_)
  rw [ef_u_nbf4 m ]
  have R_ : Ext h h := ext_refl _
  refine s_iloadN X (pc' := 1) d29_0 rfl rfl ?_
  refine s_static X (pc' := 4) (W := 0) (as' := [(.int (4 : Int32))]) (S := []) (k' := 0) (n' := 0) d29_1 (hw _ (List.mem_of_getElem? (i := 134) rfl)) (hw _ (List.mem_of_getElem? (i := 135) rfl)) (hw _ (List.mem_of_getElem? (i := 98) rfl)) (hw _ (List.mem_of_getElem? (i := 136) rfl)) (by decide) own_pd6 rfl ((u_nbl4 l Z a0 hw hEL _).payS (by simp) (hw _ (List.mem_of_getElem? (i := 136) rfl)) (hw _ (List.mem_of_getElem? (i := 98) rfl)) hEL (by decide) (by decide)) (Nat.le_of_ble_eq_true rfl) rfl rfl (by decide) (by decide) (by decide) (by decide) rfl (fun T h115 v_ ws_ X hgr_ q116 => ?_)
  obtain ⟨rfl, e_, rfl⟩ := q116
  rw [e_] at X
  show Go p e below _ T (mkF m 4 #[.val (.int (4 : Int32))] [(.int (8 : Int32))])
  replace X := X.sub (ws' := []) (by simp)
  refine s_newarr X (pc' := 6) (k' := 1) (n' := 8) (N := 8) d29_4 (hw _ (List.mem_of_getElem? (i := 22) rfl)) rfl (by decide) (by decide) (by decide) (by decide) (by decide) rfl (fun T h117 t gb_t X' E118 A_t => ?_)
  have g_t : Z.heap.size ≤ t := by rw [gb_t]; exact X.lt
  have sz_R__t : h.size ≤ t := by rw [gb_t]; exact R_.1
  replace R_ := ext_trans R_ E118
  replace X := X'
  replace A_t : Ary Z h117 t .byte [(.int (0 : Int32)), (.int (0 : Int32)), (.int (0 : Int32)), (.int (0 : Int32)), (.int (0 : Int32)), (.int (0 : Int32)), (.int (0 : Int32)), (.int (0 : Int32))] := A_t
  exact s_aret X hEL (ws' := [t]) (t := (.array .byte)) d29_6 rfl rfl rfl rfl (by decide) (by decide) (by simp) ⟨t, rfl, R_, sz_R__t, A_t, rfl⟩
theorem ef_u_tb4 (m : MethodId) (b : Addr) (c0 c1 c2 c3 : Int32) : entryFrame m #[(.ref b), (.int (0 : Int32)), (.int (4 : Int32))] 5 = mkF m 0 #[.val (.ref b), .val (.int (0 : Int32)), .val (.int (4 : Int32)), .unset, .unset] [] := by first | (simp [entryFrame, mkF, argsToLocals, Value.category]; done) | rfl
set_option maxRecDepth 65536 in
set_option maxHeartbeats 40000000 in
theorem u_tb4 (l : Launch) (Z : State) (a0 : Array Value) (hw : ∀ d ∈ tables_1, d.before a0 Z = true) (hEL : EW Z a0 consts_1) (b : Addr) (c0 c1 c2 c3 : Int32) (h : Heap) (A_b : Ary Z h b .char [(.int c0), (.int c1), (.int c2), (.int c3)]) (U : U16 Z) :
    Con l Z consts_1 False (⟨"java/lang/StringUTF16", "toBytes", "([CII)[B"⟩ : MethodName) jdk_52_method_14_code 5 (some (.array .byte)) ({ frames := 2, cells := 1, slots := 8, locals := 24 } : Room) [] #[(.ref b), (.int (0 : Int32)), (.int (4 : Int32))] h (fun v h' ws' => ∃ t, v = some (.ref t) ∧ Ext h h' ∧ h.size ≤ t ∧ Ary Z h' t .byte (wbs [c0, c1, c2, c3]) ∧ ws' = [t]) := by
  refine Con.intro own_pn14 (fun p e s m below meth c T X => ?_)
  rw [ef_u_tb4 m b c0 c1 c2 c3]
  have R_ : Ext h h := ext_refl _
  have hz0 := X.old.1
  have hz1 := A_b.lt
  refine s_iloadN X (pc' := 1) d28_0 rfl rfl ?_
  refine s_static X (pc' := 4) (W := 0) (as' := [(.int (4 : Int32))]) (S := []) (k' := 1) (n' := 8) d28_1 (hw _ (List.mem_of_getElem? (i := 131) rfl)) (hw _ (List.mem_of_getElem? (i := 132) rfl)) (hw _ (List.mem_of_getElem? (i := 98) rfl)) (hw _ (List.mem_of_getElem? (i := 133) rfl)) (by decide) own_pd7 rfl ((u_nbf4 l Z a0 hw hEL _).payS (by simp) (hw _ (List.mem_of_getElem? (i := 133) rfl)) (hw _ (List.mem_of_getElem? (i := 98) rfl)) hEL (by decide) (by decide)) (Nat.le_of_ble_eq_true rfl) rfl rfl (by decide) (by decide) (by decide) (by decide) rfl (fun T h119 v_ ws_ X hgr_ q120 => ?_)
  obtain ⟨t, rfl, E_, sz_R__t, A_t, rfl⟩ := q120
  show Go p e below _ T (mkF m 4 #[.val (.ref b), .val (.int (0 : Int32)), .val (.int (4 : Int32)), .unset, .unset] [(.ref t)])
  replace X := X.sub (ws' := [t]) (by simp)
  replace A_b := A_b.ext E_
  replace R_ := ext_trans R_ E_
  have g_t : Z.heap.size ≤ t := Nat.le_trans hz0 sz_R__t
  have ne_b_t : b ≠ t := Nat.ne_of_lt (Nat.lt_of_lt_of_le hz1 sz_R__t)
  refine s_astoreN X (pc' := 5) (L' := #[.val (.ref b), .val (.int (0 : Int32)), .val (.int (4 : Int32)), .val (.ref t), .unset]) d28_4 rfl rfl rfl ?_
  refine s_iconst X (pc' := 6) d28_5 (v := (0 : Int32)) rfl rfl ?_
  refine s_istore X (pc' := 8) (L' := #[.val (.ref b), .val (.int (0 : Int32)), .val (.int (4 : Int32)), .val (.ref t), .val (.int (0 : Int32))]) d28_6 rfl rfl ?_
  refine s_iload X (pc' := 10) d28_8 rfl rfl ?_
  refine s_iloadN X (pc' := 11) d28_10 rfl rfl ?_
  refine s_icmpF X (pc' := 14) d28_11 (show (0 : Int32) < (4 : Int32) by decide) rfl ?_
  refine s_aloadN X (pc' := 15) d28_14 rfl rfl rfl ?_
  refine s_iload X (pc' := 17) d28_15 rfl rfl ?_
  refine s_aloadN X (pc' := 18) d28_17 rfl rfl rfl ?_
  refine s_iloadN X (pc' := 19) d28_18 rfl rfl ?_
  refine s_caload X (pc' := 20) (i := 0) (v := (.int c0)) d28_19 A_b rfl rfl rfl ?_
  refine s_static X (pc' := 23) (W := 0) (as' := [(.ref t), (.int (0 : Int32)), (.int c0)]) (S := []) (k' := 1) (n' := 8) d28_20 (hw _ (List.mem_of_getElem? (i := 138) rfl)) (hw _ (List.mem_of_getElem? (i := 139) rfl)) (hw _ (List.mem_of_getElem? (i := 98) rfl)) (hw _ (List.mem_of_getElem? (i := 140) rfl)) (by decide) own_pd8 rfl ((u_put l Z a0 hw hEL t _ 0 c0 _ A_t (Nat.le_of_ble_eq_true rfl) (Nat.le_of_ble_eq_true rfl) g_t U).payS (by simp) (hw _ (List.mem_of_getElem? (i := 140) rfl)) (hw _ (List.mem_of_getElem? (i := 98) rfl)) hEL (by decide) (by decide)) (Nat.le_of_ble_eq_true rfl) rfl rfl (by decide) (by decide) (by decide) (by decide) rfl (fun T h121 v_ ws_ X hgr_ q122 => ?_)
  obtain ⟨rfl, K_, A_t, rfl⟩ := q122
  show Go p e below _ T (mkF m 23 #[.val (.ref b), .val (.int (0 : Int32)), .val (.int (4 : Int32)), .val (.ref t), .val (.int (0 : Int32))] [])
  replace X := X.sub (ws' := [t]) (by simp)
  replace A_b := A_b.keep K_ (ninS ne_b_t nin0)
  replace R_ := ext_keep R_ K_ (allS sz_R__t all0)
  replace A_t : Ary Z h121 t .byte [(.int (StrChars.lo8 c0)), (.int (StrChars.hi8 c0)), (.int (0 : Int32)), (.int (0 : Int32)), (.int (0 : Int32)), (.int (0 : Int32)), (.int (0 : Int32)), (.int (0 : Int32))] := A_t
  refine s_iinc X (pc' := 26) (L' := #[.val (.ref b), .val (.int (1 : Int32)), .val (.int (4 : Int32)), .val (.ref t), .val (.int (0 : Int32))]) d28_23 (v := (1 : Int32)) (by decide) rfl rfl rfl ?_
  refine s_iinc X (pc' := 29) (L' := #[.val (.ref b), .val (.int (1 : Int32)), .val (.int (4 : Int32)), .val (.ref t), .val (.int (1 : Int32))]) d28_26 (v := (1 : Int32)) (by decide) rfl rfl rfl ?_
  refine s_goto X (pc' := 8) d28_29 (by decide) (by decide) ?_
  refine s_iload X (pc' := 10) d28_8 rfl rfl ?_
  refine s_iloadN X (pc' := 11) d28_10 rfl rfl ?_
  refine s_icmpF X (pc' := 14) d28_11 (show (1 : Int32) < (4 : Int32) by decide) rfl ?_
  refine s_aloadN X (pc' := 15) d28_14 rfl rfl rfl ?_
  refine s_iload X (pc' := 17) d28_15 rfl rfl ?_
  refine s_aloadN X (pc' := 18) d28_17 rfl rfl rfl ?_
  refine s_iloadN X (pc' := 19) d28_18 rfl rfl ?_
  refine s_caload X (pc' := 20) (i := 1) (v := (.int c1)) d28_19 A_b rfl rfl rfl ?_
  refine s_static X (pc' := 23) (W := 0) (as' := [(.ref t), (.int (1 : Int32)), (.int c1)]) (S := []) (k' := 1) (n' := 8) d28_20 (hw _ (List.mem_of_getElem? (i := 138) rfl)) (hw _ (List.mem_of_getElem? (i := 139) rfl)) (hw _ (List.mem_of_getElem? (i := 98) rfl)) (hw _ (List.mem_of_getElem? (i := 140) rfl)) (by decide) own_pd8 rfl ((u_put l Z a0 hw hEL t _ 1 c1 _ A_t (Nat.le_of_ble_eq_true rfl) (Nat.le_of_ble_eq_true rfl) g_t U).payS (by simp) (hw _ (List.mem_of_getElem? (i := 140) rfl)) (hw _ (List.mem_of_getElem? (i := 98) rfl)) hEL (by decide) (by decide)) (Nat.le_of_ble_eq_true rfl) rfl rfl (by decide) (by decide) (by decide) (by decide) rfl (fun T h123 v_ ws_ X hgr_ q124 => ?_)
  obtain ⟨rfl, K_, A_t, rfl⟩ := q124
  show Go p e below _ T (mkF m 23 #[.val (.ref b), .val (.int (1 : Int32)), .val (.int (4 : Int32)), .val (.ref t), .val (.int (1 : Int32))] [])
  replace X := X.sub (ws' := [t]) (by simp)
  replace A_b := A_b.keep K_ (ninS ne_b_t nin0)
  replace R_ := ext_keep R_ K_ (allS sz_R__t all0)
  replace A_t : Ary Z h123 t .byte [(.int (StrChars.lo8 c0)), (.int (StrChars.hi8 c0)), (.int (StrChars.lo8 c1)), (.int (StrChars.hi8 c1)), (.int (0 : Int32)), (.int (0 : Int32)), (.int (0 : Int32)), (.int (0 : Int32))] := A_t
  refine s_iinc X (pc' := 26) (L' := #[.val (.ref b), .val (.int (2 : Int32)), .val (.int (4 : Int32)), .val (.ref t), .val (.int (1 : Int32))]) d28_23 (v := (1 : Int32)) (by decide) rfl rfl rfl ?_
  refine s_iinc X (pc' := 29) (L' := #[.val (.ref b), .val (.int (2 : Int32)), .val (.int (4 : Int32)), .val (.ref t), .val (.int (2 : Int32))]) d28_26 (v := (1 : Int32)) (by decide) rfl rfl rfl ?_
  refine s_goto X (pc' := 8) d28_29 (by decide) (by decide) ?_
  refine s_iload X (pc' := 10) d28_8 rfl rfl ?_
  refine s_iloadN X (pc' := 11) d28_10 rfl rfl ?_
  refine s_icmpF X (pc' := 14) d28_11 (show (2 : Int32) < (4 : Int32) by decide) rfl ?_
  refine s_aloadN X (pc' := 15) d28_14 rfl rfl rfl ?_
  refine s_iload X (pc' := 17) d28_15 rfl rfl ?_
  refine s_aloadN X (pc' := 18) d28_17 rfl rfl rfl ?_
  refine s_iloadN X (pc' := 19) d28_18 rfl rfl ?_
  refine s_caload X (pc' := 20) (i := 2) (v := (.int c2)) d28_19 A_b rfl rfl rfl ?_
  refine s_static X (pc' := 23) (W := 0) (as' := [(.ref t), (.int (2 : Int32)), (.int c2)]) (S := []) (k' := 1) (n' := 8) d28_20 (hw _ (List.mem_of_getElem? (i := 138) rfl)) (hw _ (List.mem_of_getElem? (i := 139) rfl)) (hw _ (List.mem_of_getElem? (i := 98) rfl)) (hw _ (List.mem_of_getElem? (i := 140) rfl)) (by decide) own_pd8 rfl ((u_put l Z a0 hw hEL t _ 2 c2 _ A_t (Nat.le_of_ble_eq_true rfl) (Nat.le_of_ble_eq_true rfl) g_t U).payS (by simp) (hw _ (List.mem_of_getElem? (i := 140) rfl)) (hw _ (List.mem_of_getElem? (i := 98) rfl)) hEL (by decide) (by decide)) (Nat.le_of_ble_eq_true rfl) rfl rfl (by decide) (by decide) (by decide) (by decide) rfl (fun T h125 v_ ws_ X hgr_ q126 => ?_)
  obtain ⟨rfl, K_, A_t, rfl⟩ := q126
  show Go p e below _ T (mkF m 23 #[.val (.ref b), .val (.int (2 : Int32)), .val (.int (4 : Int32)), .val (.ref t), .val (.int (2 : Int32))] [])
  replace X := X.sub (ws' := [t]) (by simp)
  replace A_b := A_b.keep K_ (ninS ne_b_t nin0)
  replace R_ := ext_keep R_ K_ (allS sz_R__t all0)
  replace A_t : Ary Z h125 t .byte [(.int (StrChars.lo8 c0)), (.int (StrChars.hi8 c0)), (.int (StrChars.lo8 c1)), (.int (StrChars.hi8 c1)), (.int (StrChars.lo8 c2)), (.int (StrChars.hi8 c2)), (.int (0 : Int32)), (.int (0 : Int32))] := A_t
  refine s_iinc X (pc' := 26) (L' := #[.val (.ref b), .val (.int (3 : Int32)), .val (.int (4 : Int32)), .val (.ref t), .val (.int (2 : Int32))]) d28_23 (v := (1 : Int32)) (by decide) rfl rfl rfl ?_
  refine s_iinc X (pc' := 29) (L' := #[.val (.ref b), .val (.int (3 : Int32)), .val (.int (4 : Int32)), .val (.ref t), .val (.int (3 : Int32))]) d28_26 (v := (1 : Int32)) (by decide) rfl rfl rfl ?_
  refine s_goto X (pc' := 8) d28_29 (by decide) (by decide) ?_
  refine s_iload X (pc' := 10) d28_8 rfl rfl ?_
  refine s_iloadN X (pc' := 11) d28_10 rfl rfl ?_
  refine s_icmpF X (pc' := 14) d28_11 (show (3 : Int32) < (4 : Int32) by decide) rfl ?_
  refine s_aloadN X (pc' := 15) d28_14 rfl rfl rfl ?_
  refine s_iload X (pc' := 17) d28_15 rfl rfl ?_
  refine s_aloadN X (pc' := 18) d28_17 rfl rfl rfl ?_
  refine s_iloadN X (pc' := 19) d28_18 rfl rfl ?_
  refine s_caload X (pc' := 20) (i := 3) (v := (.int c3)) d28_19 A_b rfl rfl rfl ?_
  refine s_static X (pc' := 23) (W := 0) (as' := [(.ref t), (.int (3 : Int32)), (.int c3)]) (S := []) (k' := 1) (n' := 8) d28_20 (hw _ (List.mem_of_getElem? (i := 138) rfl)) (hw _ (List.mem_of_getElem? (i := 139) rfl)) (hw _ (List.mem_of_getElem? (i := 98) rfl)) (hw _ (List.mem_of_getElem? (i := 140) rfl)) (by decide) own_pd8 rfl ((u_put l Z a0 hw hEL t _ 3 c3 _ A_t (Nat.le_of_ble_eq_true rfl) (Nat.le_of_ble_eq_true rfl) g_t U).payS (by simp) (hw _ (List.mem_of_getElem? (i := 140) rfl)) (hw _ (List.mem_of_getElem? (i := 98) rfl)) hEL (by decide) (by decide)) (Nat.le_of_ble_eq_true rfl) rfl rfl (by decide) (by decide) (by decide) (by decide) rfl (fun T h127 v_ ws_ X hgr_ q128 => ?_)
  obtain ⟨rfl, K_, A_t, rfl⟩ := q128
  show Go p e below _ T (mkF m 23 #[.val (.ref b), .val (.int (3 : Int32)), .val (.int (4 : Int32)), .val (.ref t), .val (.int (3 : Int32))] [])
  replace X := X.sub (ws' := [t]) (by simp)
  replace A_b := A_b.keep K_ (ninS ne_b_t nin0)
  replace R_ := ext_keep R_ K_ (allS sz_R__t all0)
  replace A_t : Ary Z h127 t .byte [(.int (StrChars.lo8 c0)), (.int (StrChars.hi8 c0)), (.int (StrChars.lo8 c1)), (.int (StrChars.hi8 c1)), (.int (StrChars.lo8 c2)), (.int (StrChars.hi8 c2)), (.int (StrChars.lo8 c3)), (.int (StrChars.hi8 c3))] := A_t
  refine s_iinc X (pc' := 26) (L' := #[.val (.ref b), .val (.int (4 : Int32)), .val (.int (4 : Int32)), .val (.ref t), .val (.int (3 : Int32))]) d28_23 (v := (1 : Int32)) (by decide) rfl rfl rfl ?_
  refine s_iinc X (pc' := 29) (L' := #[.val (.ref b), .val (.int (4 : Int32)), .val (.int (4 : Int32)), .val (.ref t), .val (.int (4 : Int32))]) d28_26 (v := (1 : Int32)) (by decide) rfl rfl rfl ?_
  refine s_goto X (pc' := 8) d28_29 (by decide) (by decide) ?_
  refine s_iload X (pc' := 10) d28_8 rfl rfl ?_
  refine s_iloadN X (pc' := 11) d28_10 rfl rfl ?_
  refine s_icmpT X (pc' := 32) d28_11 (show ¬ (4 : Int32) < (4 : Int32) by decide) (by decide) (by decide) ?_
  refine s_aloadN X (pc' := 33) d28_32 rfl rfl rfl ?_
  exact s_aret X hEL (ws' := [t]) (t := (.array .byte)) d28_33 rfl rfl rfl rfl (by decide) (by decide) (by simp) ⟨t, rfl, R_, sz_R__t, A_t, rfl⟩
theorem ef_u_c5_4 (m : MethodId) (b d : Addr) (c0 c1 c2 c3 : Int32) : entryFrame m #[(.ref b), (.int (0 : Int32)), (.ref d), (.int (0 : Int32)), (.int (4 : Int32))] 7 = mkF m 0 #[.val (.ref b), .val (.int (0 : Int32)), .val (.ref d), .val (.int (0 : Int32)), .val (.int (4 : Int32)), .unset, .unset] [] := by first | (simp [entryFrame, mkF, argsToLocals, Value.category]; done) | rfl
set_option maxRecDepth 65536 in
set_option maxHeartbeats 40000000 in
theorem u_c5_4 (l : Launch) (Z : State) (a0 : Array Value) (hw : ∀ d ∈ tables_1, d.before a0 Z = true) (hEL : EW Z a0 consts_1) (b d : Addr) (c0 c1 c2 c3 : Int32) (h : Heap) (A_b : Ary Z h b .char [(.int c0), (.int c1), (.int c2), (.int c3)]) (A_d : Ary Z h d .byte [(.int (0 : Int32)), (.int (0 : Int32)), (.int (0 : Int32)), (.int (0 : Int32))]) (ne_b_d : b ≠ d) (g_d : Z.heap.size ≤ d) (hl : ∃ c ∈ ([c0, c1, c2, c3] : List Int32), (255 : Int32) < c) :
    Con l Z consts_1 False (⟨"java/lang/StringUTF16", "compress", "([CI[BII)I"⟩ : MethodName) jdk_52_method_21_code 7 (some .int) ({ frames := 0, cells := 0, slots := 0, locals := 0 } : Room) [d] #[(.ref b), (.int (0 : Int32)), (.ref d), (.int (0 : Int32)), (.int (4 : Int32))] h (fun v h' ws' => ∃ j, v = some (.int (Int32.ofNat j)) ∧ j < 4 ∧ (255 : Int32) < ([c0, c1, c2, c3] : List Int32).getD j 0 ∧ Keep h h' [d] ∧ ws' = [d]) := by
  refine Con.intro own_pn15 (fun p e s m below meth c T X => ?_)
  rw [ef_u_c5_4 m b d c0 c1 c2 c3]
  have K_ : Keep h h [d] := Keep.refl _ _
  refine s_iconst X (pc' := 1) d20_0 (v := (0 : Int32)) rfl rfl ?_
  refine s_istore X (pc' := 3) (L' := #[.val (.ref b), .val (.int (0 : Int32)), .val (.ref d), .val (.int (0 : Int32)), .val (.int (4 : Int32)), .val (.int (0 : Int32)), .unset]) d20_1 rfl rfl ?_
  refine s_iload X (pc' := 5) d20_3 rfl rfl ?_
  refine s_iload X (pc' := 7) d20_5 rfl rfl ?_
  refine s_icmpF X (pc' := 10) d20_7 (show (0 : Int32) < (4 : Int32) by decide) rfl ?_
  refine s_aloadN X (pc' := 11) d20_10 rfl rfl rfl ?_
  refine s_iloadN X (pc' := 12) d20_11 rfl rfl ?_
  refine s_caload X (pc' := 13) (i := 0) (v := (.int c0)) d20_12 A_b rfl rfl rfl ?_
  refine s_istore X (pc' := 15) (L' := #[.val (.ref b), .val (.int (0 : Int32)), .val (.ref d), .val (.int (0 : Int32)), .val (.int (4 : Int32)), .val (.int (0 : Int32)), .val (.int c0)]) d20_13 rfl rfl ?_
  refine s_iload X (pc' := 17) d20_15 rfl rfl ?_
  refine s_sipush X (pc' := 20) d20_17 (v := (255 : Int32)) (by decide) rfl ?_
  refine s_icmp X (pc' := 26) (pcF := 23) d20_20 (by decide) (by decide) rfl (fun (q0 : ¬ (255 : Int32) < c0) => ?_) (fun (q0 : (255 : Int32) < c0) => ?_)
  · refine s_aloadN X (pc' := 27) d20_26 rfl rfl rfl ?_
    refine s_iloadN X (pc' := 28) d20_27 rfl rfl ?_
    refine s_iload X (pc' := 30) d20_28 rfl rfl ?_
    refine s_i2b X (pc' := 31) d20_30 rfl ?_
    refine s_bastore X (pc' := 32) (i := 0) d20_31 A_d rfl (Nat.le_of_ble_eq_true rfl) g_d (by simp) rfl (fun T h129 X W130 A' => ?_)
    replace A_b := A_b.other W130 ne_b_d
    replace K_ := K_.wr W130 (Or.inl (by simp))
    replace A_d : Ary Z h129 d .byte [(.int (nar .byte c0.toInt8.toInt32)), (.int (0 : Int32)), (.int (0 : Int32)), (.int (0 : Int32))] := A'
    refine s_iinc X (pc' := 35) (L' := #[.val (.ref b), .val (.int (1 : Int32)), .val (.ref d), .val (.int (0 : Int32)), .val (.int (4 : Int32)), .val (.int (0 : Int32)), .val (.int c0)]) d20_32 (v := (1 : Int32)) (by decide) rfl rfl rfl ?_
    refine s_iinc X (pc' := 38) (L' := #[.val (.ref b), .val (.int (1 : Int32)), .val (.ref d), .val (.int (1 : Int32)), .val (.int (4 : Int32)), .val (.int (0 : Int32)), .val (.int c0)]) d20_35 (v := (1 : Int32)) (by decide) rfl rfl rfl ?_
    refine s_iinc X (pc' := 41) (L' := #[.val (.ref b), .val (.int (1 : Int32)), .val (.ref d), .val (.int (1 : Int32)), .val (.int (4 : Int32)), .val (.int (1 : Int32)), .val (.int c0)]) d20_38 (v := (1 : Int32)) (by decide) rfl rfl rfl ?_
    refine s_goto X (pc' := 3) d20_41 (by decide) (by decide) ?_
    refine s_iload X (pc' := 5) d20_3 rfl rfl ?_
    refine s_iload X (pc' := 7) d20_5 rfl rfl ?_
    refine s_icmpF X (pc' := 10) d20_7 (show (1 : Int32) < (4 : Int32) by decide) rfl ?_
    refine s_aloadN X (pc' := 11) d20_10 rfl rfl rfl ?_
    refine s_iloadN X (pc' := 12) d20_11 rfl rfl ?_
    refine s_caload X (pc' := 13) (i := 1) (v := (.int c1)) d20_12 A_b rfl rfl rfl ?_
    refine s_istore X (pc' := 15) (L' := #[.val (.ref b), .val (.int (1 : Int32)), .val (.ref d), .val (.int (1 : Int32)), .val (.int (4 : Int32)), .val (.int (1 : Int32)), .val (.int c1)]) d20_13 rfl rfl ?_
    refine s_iload X (pc' := 17) d20_15 rfl rfl ?_
    refine s_sipush X (pc' := 20) d20_17 (v := (255 : Int32)) (by decide) rfl ?_
    refine s_icmp X (pc' := 26) (pcF := 23) d20_20 (by decide) (by decide) rfl (fun (q1 : ¬ (255 : Int32) < c1) => ?_) (fun (q1 : (255 : Int32) < c1) => ?_)
    · refine s_aloadN X (pc' := 27) d20_26 rfl rfl rfl ?_
      refine s_iloadN X (pc' := 28) d20_27 rfl rfl ?_
      refine s_iload X (pc' := 30) d20_28 rfl rfl ?_
      refine s_i2b X (pc' := 31) d20_30 rfl ?_
      refine s_bastore X (pc' := 32) (i := 1) d20_31 A_d rfl (Nat.le_of_ble_eq_true rfl) g_d (by simp) rfl (fun T h131 X W132 A' => ?_)
      replace A_b := A_b.other W132 ne_b_d
      replace K_ := K_.wr W132 (Or.inl (by simp))
      replace A_d : Ary Z h131 d .byte [(.int (nar .byte c0.toInt8.toInt32)), (.int (nar .byte c1.toInt8.toInt32)), (.int (0 : Int32)), (.int (0 : Int32))] := A'
      refine s_iinc X (pc' := 35) (L' := #[.val (.ref b), .val (.int (2 : Int32)), .val (.ref d), .val (.int (1 : Int32)), .val (.int (4 : Int32)), .val (.int (1 : Int32)), .val (.int c1)]) d20_32 (v := (1 : Int32)) (by decide) rfl rfl rfl ?_
      refine s_iinc X (pc' := 38) (L' := #[.val (.ref b), .val (.int (2 : Int32)), .val (.ref d), .val (.int (2 : Int32)), .val (.int (4 : Int32)), .val (.int (1 : Int32)), .val (.int c1)]) d20_35 (v := (1 : Int32)) (by decide) rfl rfl rfl ?_
      refine s_iinc X (pc' := 41) (L' := #[.val (.ref b), .val (.int (2 : Int32)), .val (.ref d), .val (.int (2 : Int32)), .val (.int (4 : Int32)), .val (.int (2 : Int32)), .val (.int c1)]) d20_38 (v := (1 : Int32)) (by decide) rfl rfl rfl ?_
      refine s_goto X (pc' := 3) d20_41 (by decide) (by decide) ?_
      refine s_iload X (pc' := 5) d20_3 rfl rfl ?_
      refine s_iload X (pc' := 7) d20_5 rfl rfl ?_
      refine s_icmpF X (pc' := 10) d20_7 (show (2 : Int32) < (4 : Int32) by decide) rfl ?_
      refine s_aloadN X (pc' := 11) d20_10 rfl rfl rfl ?_
      refine s_iloadN X (pc' := 12) d20_11 rfl rfl ?_
      refine s_caload X (pc' := 13) (i := 2) (v := (.int c2)) d20_12 A_b rfl rfl rfl ?_
      refine s_istore X (pc' := 15) (L' := #[.val (.ref b), .val (.int (2 : Int32)), .val (.ref d), .val (.int (2 : Int32)), .val (.int (4 : Int32)), .val (.int (2 : Int32)), .val (.int c2)]) d20_13 rfl rfl ?_
      refine s_iload X (pc' := 17) d20_15 rfl rfl ?_
      refine s_sipush X (pc' := 20) d20_17 (v := (255 : Int32)) (by decide) rfl ?_
      refine s_icmp X (pc' := 26) (pcF := 23) d20_20 (by decide) (by decide) rfl (fun (q2 : ¬ (255 : Int32) < c2) => ?_) (fun (q2 : (255 : Int32) < c2) => ?_)
      · refine s_aloadN X (pc' := 27) d20_26 rfl rfl rfl ?_
        refine s_iloadN X (pc' := 28) d20_27 rfl rfl ?_
        refine s_iload X (pc' := 30) d20_28 rfl rfl ?_
        refine s_i2b X (pc' := 31) d20_30 rfl ?_
        refine s_bastore X (pc' := 32) (i := 2) d20_31 A_d rfl (Nat.le_of_ble_eq_true rfl) g_d (by simp) rfl (fun T h133 X W134 A' => ?_)
        replace A_b := A_b.other W134 ne_b_d
        replace K_ := K_.wr W134 (Or.inl (by simp))
        replace A_d : Ary Z h133 d .byte [(.int (nar .byte c0.toInt8.toInt32)), (.int (nar .byte c1.toInt8.toInt32)), (.int (nar .byte c2.toInt8.toInt32)), (.int (0 : Int32))] := A'
        refine s_iinc X (pc' := 35) (L' := #[.val (.ref b), .val (.int (3 : Int32)), .val (.ref d), .val (.int (2 : Int32)), .val (.int (4 : Int32)), .val (.int (2 : Int32)), .val (.int c2)]) d20_32 (v := (1 : Int32)) (by decide) rfl rfl rfl ?_
        refine s_iinc X (pc' := 38) (L' := #[.val (.ref b), .val (.int (3 : Int32)), .val (.ref d), .val (.int (3 : Int32)), .val (.int (4 : Int32)), .val (.int (2 : Int32)), .val (.int c2)]) d20_35 (v := (1 : Int32)) (by decide) rfl rfl rfl ?_
        refine s_iinc X (pc' := 41) (L' := #[.val (.ref b), .val (.int (3 : Int32)), .val (.ref d), .val (.int (3 : Int32)), .val (.int (4 : Int32)), .val (.int (3 : Int32)), .val (.int c2)]) d20_38 (v := (1 : Int32)) (by decide) rfl rfl rfl ?_
        refine s_goto X (pc' := 3) d20_41 (by decide) (by decide) ?_
        refine s_iload X (pc' := 5) d20_3 rfl rfl ?_
        refine s_iload X (pc' := 7) d20_5 rfl rfl ?_
        refine s_icmpF X (pc' := 10) d20_7 (show (3 : Int32) < (4 : Int32) by decide) rfl ?_
        refine s_aloadN X (pc' := 11) d20_10 rfl rfl rfl ?_
        refine s_iloadN X (pc' := 12) d20_11 rfl rfl ?_
        refine s_caload X (pc' := 13) (i := 3) (v := (.int c3)) d20_12 A_b rfl rfl rfl ?_
        refine s_istore X (pc' := 15) (L' := #[.val (.ref b), .val (.int (3 : Int32)), .val (.ref d), .val (.int (3 : Int32)), .val (.int (4 : Int32)), .val (.int (3 : Int32)), .val (.int c3)]) d20_13 rfl rfl ?_
        refine s_iload X (pc' := 17) d20_15 rfl rfl ?_
        refine s_sipush X (pc' := 20) d20_17 (v := (255 : Int32)) (by decide) rfl ?_
        refine s_icmp X (pc' := 26) (pcF := 23) d20_20 (by decide) (by decide) rfl (fun (q3 : ¬ (255 : Int32) < c3) => ?_) (fun (q3 : (255 : Int32) < c3) => ?_)
        · obtain ⟨c, hc, hw'⟩ := hl
          simp only [List.mem_cons, List.not_mem_nil, or_false] at hc
          rcases hc with rfl | rfl | rfl | rfl
          · exact absurd hw' q0
          · exact absurd hw' q1
          · exact absurd hw' q2
          · exact absurd hw' q3
        · refine s_iload X (pc' := 25) d20_23 rfl rfl ?_
          exact s_iret X hEL (ws' := [d]) d20_25 (by decide) (by decide) (by simp) ⟨3, rfl, (by decide), q3, K_, rfl⟩
      · refine s_iload X (pc' := 25) d20_23 rfl rfl ?_
        exact s_iret X hEL (ws' := [d]) d20_25 (by decide) (by decide) (by simp) ⟨2, rfl, (by decide), q2, K_, rfl⟩
    · refine s_iload X (pc' := 25) d20_23 rfl rfl ?_
      exact s_iret X hEL (ws' := [d]) d20_25 (by decide) (by decide) (by simp) ⟨1, rfl, (by decide), q1, K_, rfl⟩
  · refine s_iload X (pc' := 25) d20_23 rfl rfl ?_
    exact s_iret X hEL (ws' := [d]) d20_25 (by decide) (by decide) (by simp) ⟨0, rfl, (by decide), q0, K_, rfl⟩
theorem ef_u_c3_4 (m : MethodId) (b : Addr) (c0 c1 c2 c3 : Int32) : entryFrame m #[(.ref b), (.int (0 : Int32)), (.int (4 : Int32))] 6 = mkF m 0 #[.val (.ref b), .val (.int (0 : Int32)), .val (.int (4 : Int32)), .unset, .unset, .unset] [] := by first | (simp [entryFrame, mkF, argsToLocals, Value.category]; done) | rfl
set_option maxRecDepth 65536 in
set_option maxHeartbeats 40000000 in
theorem u_c3_4 (l : Launch) (Z : State) (a0 : Array Value) (hw : ∀ d ∈ tables_1, d.before a0 Z = true) (hEL : EW Z a0 consts_1) (b : Addr) (c0 c1 c2 c3 : Int32) (h : Heap) (A_b : Ary Z h b .char [(.int c0), (.int c1), (.int c2), (.int c3)]) (hp : ∀ c ∈ ([c0, c1, c2, c3] : List Int32), ¬ c < 0 ∧ ¬ (65535 : Int32) < c) (hl : ∃ c ∈ ([c0, c1, c2, c3] : List Int32), (255 : Int32) < c) (U : U16 Z) :
    Con l Z consts_1 False (⟨"java/lang/StringUTF16", "compress", "([CII)[B"⟩ : MethodName) jdk_52_method_16_code 6 (some (.array .byte)) ({ frames := 3, cells := 2, slots := 12, locals := 40 } : Room) [] #[(.ref b), (.int (0 : Int32)), (.int (4 : Int32))] h (fun v h' ws' => ∃ t, v = some (.ref t) ∧ Ext h h' ∧ Ary Z h' t .byte (wbs [c0, c1, c2, c3]) ∧ ws' = []) := by
  refine Con.intro own_pn16 (fun p e s m below meth c T X => ?_)
  rw [ef_u_c3_4 m b c0 c1 c2 c3]
  have R_ : Ext h h := ext_refl _
  refine s_iloadN X (pc' := 1) d19_0 rfl rfl ?_
  refine s_newarr X (pc' := 3) (k' := 1) (n' := 4) (N := 4) d19_1 (hw _ (List.mem_of_getElem? (i := 22) rfl)) rfl (by decide) (by decide) (by decide) (by decide) (by decide) rfl (fun T h135 d gb_d X' E136 A_d => ?_)
  have g_d : Z.heap.size ≤ d := by rw [gb_d]; exact X.lt
  have ne_b_d : b ≠ d := Nat.ne_of_lt (by rw [gb_d]; exact A_b.lt)
  have sz_R__d : h.size ≤ d := by rw [gb_d]; exact R_.1
  replace A_b := A_b.ext E136
  replace R_ := ext_trans R_ E136
  replace X := X'
  replace A_d : Ary Z h135 d .byte [(.int (0 : Int32)), (.int (0 : Int32)), (.int (0 : Int32)), (.int (0 : Int32))] := A_d
  refine s_astoreN X (pc' := 4) (L' := #[.val (.ref b), .val (.int (0 : Int32)), .val (.int (4 : Int32)), .val (.ref d), .unset, .unset]) d19_3 rfl rfl rfl ?_
  refine s_aloadN X (pc' := 5) d19_4 rfl rfl rfl ?_
  refine s_iloadN X (pc' := 6) d19_5 rfl rfl ?_
  refine s_aloadN X (pc' := 7) d19_6 rfl rfl rfl ?_
  refine s_iconst X (pc' := 8) d19_7 (v := (0 : Int32)) rfl rfl ?_
  refine s_iloadN X (pc' := 9) d19_8 rfl rfl ?_
  refine s_static X (pc' := 12) (W := 0) (as' := [(.ref b), (.int (0 : Int32)), (.ref d), (.int (0 : Int32)), (.int (4 : Int32))]) (S := []) (k' := 1) (n' := 4) d19_9 (hw _ (List.mem_of_getElem? (i := 100) rfl)) (hw _ (List.mem_of_getElem? (i := 101) rfl)) (hw _ (List.mem_of_getElem? (i := 98) rfl)) (hw _ (List.mem_of_getElem? (i := 102) rfl)) (by decide) own_pd9 rfl ((u_c5_4 l Z a0 hw hEL b d c0 c1 c2 c3 _ A_b A_d ne_b_d g_d hl).payS (by simp) (hw _ (List.mem_of_getElem? (i := 102) rfl)) (hw _ (List.mem_of_getElem? (i := 98) rfl)) hEL (by decide) (by decide)) (Nat.le_of_ble_eq_true rfl) rfl rfl (by decide) (by decide) (by decide) (by decide) rfl (fun T h137 v_ ws_ X hgr_ q138 => ?_)
  obtain ⟨j, rfl, hj, hjw, K_, rfl⟩ := q138
  show Go p e below _ T (mkF m 12 #[.val (.ref b), .val (.int (0 : Int32)), .val (.int (4 : Int32)), .val (.ref d), .unset, .unset] [(.int (Int32.ofNat j))])
  replace X := X.sub (ws' := [d]) (by simp)
  replace A_b := A_b.keep K_ (ninS ne_b_d nin0)
  replace R_ := ext_keep R_ K_ (allS sz_R__d all0)
  refine s_istore X (pc' := 14) (L' := #[.val (.ref b), .val (.int (0 : Int32)), .val (.int (4 : Int32)), .val (.ref d), .val (.int (Int32.ofNat j)), .unset]) d19_12 rfl rfl ?_
  refine s_iload X (pc' := 16) d19_14 rfl rfl ?_
  refine s_iloadN X (pc' := 17) d19_16 rfl rfl ?_
  refine s_icmpF X (pc' := 20) d19_17 (show ¬ Int32.ofNat j = (4 : Int32) from fun z => Nat.ne_of_lt hj ((on_eq (by omega) (by decide)).mp z)) rfl ?_
  refine s_aloadN X (pc' := 21) d19_20 rfl rfl rfl ?_
  refine s_iloadN X (pc' := 22) d19_21 rfl rfl ?_
  refine s_iloadN X (pc' := 23) d19_22 rfl rfl ?_
  refine s_static X (pc' := 26) (W := 0) (as' := [(.ref b), (.int (0 : Int32)), (.int (4 : Int32))]) (S := []) (k' := 2) (n' := 12) d19_23 (hw _ (List.mem_of_getElem? (i := 128) rfl)) (hw _ (List.mem_of_getElem? (i := 129) rfl)) (hw _ (List.mem_of_getElem? (i := 98) rfl)) (hw _ (List.mem_of_getElem? (i := 130) rfl)) (by decide) own_pd10 rfl ((u_tb4 l Z a0 hw hEL b c0 c1 c2 c3 _ A_b U).payS (by simp) (hw _ (List.mem_of_getElem? (i := 130) rfl)) (hw _ (List.mem_of_getElem? (i := 98) rfl)) hEL (by decide) (by decide)) (Nat.le_of_ble_eq_true rfl) rfl rfl (by decide) (by decide) (by decide) (by decide) rfl (fun T h139 v_ ws_ X hgr_ q140 => ?_)
  obtain ⟨t, rfl, E_, -, A_t, rfl⟩ := q140
  show Go p e below _ T (mkF m 26 #[.val (.ref b), .val (.int (0 : Int32)), .val (.int (4 : Int32)), .val (.ref d), .val (.int (Int32.ofNat j)), .unset] [(.ref t)])
  replace X := X.sub (ws' := []) (by simp)
  replace A_b := A_b.ext E_
  replace R_ := ext_trans R_ E_
  refine s_astore X (pc' := 28) (L' := #[.val (.ref b), .val (.int (0 : Int32)), .val (.int (4 : Int32)), .val (.ref d), .val (.int (Int32.ofNat j)), .val (.ref t)]) d19_26 rfl rfl rfl ?_
  refine s_aload X (pc' := 30) d19_28 rfl rfl rfl ?_
  refine s_iload X (pc' := 32) d19_30 rfl rfl ?_
  refine s_static X (pc' := 35) (W := 0) (as' := [(.ref t), (.int (Int32.ofNat j))]) (S := []) (k' := 2) (n' := 12) d19_32 (hw _ (List.mem_of_getElem? (i := 144) rfl)) (hw _ (List.mem_of_getElem? (i := 145) rfl)) (hw _ (List.mem_of_getElem? (i := 98) rfl)) (hw _ (List.mem_of_getElem? (i := 146) rfl)) (by decide) own_pd11 rfl ((u_get l Z a0 hw hEL t [c0, c1, c2, c3] j _ A_t (Nat.le_of_ble_eq_true rfl) hj hp U).payS (by simp) (hw _ (List.mem_of_getElem? (i := 146) rfl)) (hw _ (List.mem_of_getElem? (i := 98) rfl)) hEL (by decide) (by decide)) (Nat.le_of_ble_eq_true rfl) rfl rfl (by decide) (by decide) (by decide) (by decide) rfl (fun T h141 v_ ws_ X hgr_ q142 => ?_)
  obtain ⟨rfl, e_, rfl⟩ := q142
  rw [e_] at X
  show Go p e below _ T (mkF m 35 #[.val (.ref b), .val (.int (0 : Int32)), .val (.int (4 : Int32)), .val (.ref d), .val (.int (Int32.ofNat j)), .val (.ref t)] [(.int (([c0, c1, c2, c3] : List Int32).getD j 0))])
  replace X := X.sub (ws' := []) (by simp)
  refine s_sipush X (pc' := 38) d19_35 (v := (255 : Int32)) (by decide) rfl ?_
  refine s_icmpT X (pc' := 54) d19_38 hjw (by decide) (by decide) ?_
  refine s_aload X (pc' := 56) d19_54 rfl rfl rfl ?_
  exact s_aret X hEL (ws' := []) (t := (.array .byte)) d19_56 rfl rfl rfl rfl (by decide) (by decide) (fun x q => by simp at q) ⟨t, rfl, R_, A_t, rfl⟩
theorem ef_u_cf4 (m : MethodId) (t : Addr) : entryFrame m #[(.ref t), (.int (4 : Int32))] 2 = mkF m 0 #[.val (.ref t), .val (.int (4 : Int32))] [] := by first | (simp [entryFrame, mkF, argsToLocals, Value.category]; done) | rfl
set_option maxRecDepth 65536 in
set_option maxHeartbeats 40000000 in
theorem u_cf4 (l : Launch) (Z : State) (a0 : Array Value) (hw : ∀ d ∈ tables_1, d.before a0 Z = true) (hEL : EW Z a0 consts_1) (t : Addr) (h : Heap) {vs : List Value} (A_t : Ary Z h t .byte vs) (hv : vs.length = 8) :
    Con l Z consts_1 False (⟨"java/lang/StringUTF16", "coderFromArrayLen", "([BI)B"⟩ : MethodName) jdk_52_method_15_code 2 (some .byte) ({ frames := 0, cells := 0, slots := 0, locals := 0 } : Room) [] #[(.ref t), (.int (4 : Int32))] h (fun v h' ws' => v = some (.int ((1 : Int32))) ∧ h' = h ∧ ws' = []) := by
  refine Con.intro own_pn17 (fun p e s m below meth c T X => ?_)
  rw [ef_u_cf4 m t]
  refine s_iloadN X (pc' := 1) d21_0 rfl rfl ?_
  refine s_aloadN X (pc' := 2) d21_1 rfl rfl rfl ?_
  refine s_alen X (pc' := 3) (z := (8 : Int32)) d21_2 A_t (by rw [hv]; rfl) rfl ?_
  refine s_isub X (pc' := 4) d21_3 rfl ?_
  refine s_bipush X (pc' := 6) d21_4 (v := (31 : Int32)) (by decide) rfl ?_
  refine s_iushr X (pc' := 7) d21_6 rfl ?_
  refine s_i2b X (pc' := 8) d21_7 rfl ?_
  refine go_int (z := (1 : Int32)) (by decide) ?_
  exact s_iretN X hEL (ws' := []) (t := .byte) d21_8 rfl (by simp) (by decide) (by decide) (fun x q => by simp at q) ⟨rfl, rfl, rfl⟩
theorem ef_u_i2_4 (m : MethodId) (x b : Addr) (c0 c1 c2 c3 : Int32) : entryFrame m #[(.ref x), (.ref b), (.int (0 : Int32)), (.int (4 : Int32)), .null] 6 = mkF m 0 #[.val (.ref x), .val (.ref b), .val (.int (0 : Int32)), .val (.int (4 : Int32)), .val .null, .unset] [] := by first | (simp [entryFrame, mkF, argsToLocals, Value.category]; done) | rfl
set_option maxRecDepth 65536 in
set_option maxHeartbeats 40000000 in
theorem u_i2_4 (l : Launch) (Z : State) (a0 : Array Value) (hw : ∀ d ∈ tables_1, d.before a0 Z = true) (hEL : EW Z a0 consts_1) (x b : Addr) (c0 c1 c2 c3 : Int32) {G1 : Int32} (h : Heap) (hE : Ext Z.heap h) (g_x : Z.heap.size ≤ x) (E_x : Exa Z h x "java/lang/String") (F_x_value : Fld Z h x "java/lang/String" "value" "[B" .null) (F_x_coder : Fld Z h x "java/lang/String" "coder" "B" (.int (0 : Int32))) (A_b : Ary Z h b .char [(.int c0), (.int c1), (.int c2), (.int c3)]) (hp : ∀ c ∈ ([c0, c1, c2, c3] : List Int32), ¬ c < 0 ∧ ¬ (65535 : Int32) < c) (hl : ∃ c ∈ ([c0, c1, c2, c3] : List Int32), (255 : Int32) < c) (O2 : Sta Z Z.heap "java/lang/String" "COMPACT_STRINGS" "Z" (.int G1)) (P5 : ¬ (G1 = (0 : Int32))) (U : U16 Z) :
    Con l Z consts_1 False (⟨"java/lang/String", "<init>", "([CIILjava/lang/Void;)V"⟩ : MethodName) jdk_42_method_149_code 6 none ({ frames := 4, cells := 2, slots := 12, locals := 57 } : Room) [x] #[(.ref x), (.ref b), (.int (0 : Int32)), (.int (4 : Int32)), .null] h (fun v h' ws' => v = none ∧ Keep h h' [x] ∧ Str Z h' x [c0, c1, c2, c3] ∧ ws' = []) := by
  refine Con.intro own_pn0 (fun p e s m below meth c T X => ?_)
  rw [ef_u_i2_4 m x b c0 c1 c2 c3]
  have K_ : Keep h h [x] := Keep.refl _ _
  refine s_aloadN X (pc' := 1) d3_0 rfl rfl rfl ?_
  refine s_initO X (pc' := 4) (W := 0) d3_1 (hw _ (List.mem_of_getElem? (i := 18) rfl)) (hw _ (List.mem_of_getElem? (i := 19) rfl)) (b' := object_method_1_code) rfl (hw _ (List.mem_of_getElem? (i := 20) rfl)) (Nat.le_of_ble_eq_true rfl) (by decide) (by decide) rfl rfl (fun T X => ?_)
  refine s_iloadN X (pc' := 5) d3_4 rfl rfl ?_
  refine s_ifT X (pc' := 27) d3_5 (show ¬ (4 : Int32) = (0 : Int32) by decide) (by decide) (by decide) ?_
  refine s_gets X (pc' := 30) d3_27 (hw _ (List.mem_of_getElem? (i := 50) rfl)) Via.refl O2 rfl (fun T X => ?_)
  refine s_ifF X (pc' := 33) d3_30 P5 rfl ?_
  refine s_aloadN X (pc' := 34) d3_33 rfl rfl rfl ?_
  refine s_iloadN X (pc' := 35) d3_34 rfl rfl ?_
  refine s_iloadN X (pc' := 36) d3_35 rfl rfl ?_
  refine s_static X (pc' := 39) (W := 0) (as' := [(.ref b), (.int (0 : Int32)), (.int (4 : Int32))]) (S := []) (k' := 2) (n' := 12) d3_36 (hw _ (List.mem_of_getElem? (i := 96) rfl)) (hw _ (List.mem_of_getElem? (i := 97) rfl)) (hw _ (List.mem_of_getElem? (i := 98) rfl)) (hw _ (List.mem_of_getElem? (i := 99) rfl)) (by decide) own_pd10 rfl ((u_c3_4 l Z a0 hw hEL b c0 c1 c2 c3 _ A_b hp hl U).payS (by simp) (hw _ (List.mem_of_getElem? (i := 99) rfl)) (hw _ (List.mem_of_getElem? (i := 98) rfl)) hEL (by decide) (by decide)) (Nat.le_of_ble_eq_true rfl) rfl rfl (by decide) (by decide) (by decide) (by decide) rfl (fun T h143 v_ ws_ X hgr_ q144 => ?_)
  obtain ⟨t, rfl, E_, A_t, rfl⟩ := q144
  show Go p e below _ T (mkF m 39 #[.val (.ref x), .val (.ref b), .val (.int (0 : Int32)), .val (.int (4 : Int32)), .val .null, .unset] [(.ref t)])
  replace X := X.sub (ws' := [x]) (by simp)
  replace E_x := E_x.ext E_
  replace F_x_value := F_x_value.ext E_
  replace F_x_coder := F_x_coder.ext E_
  replace K_ := K_.ext E_
  refine s_astore X (pc' := 41) (L' := #[.val (.ref x), .val (.ref b), .val (.int (0 : Int32)), .val (.int (4 : Int32)), .val .null, .val (.ref t)]) d3_39 rfl rfl rfl ?_
  refine s_aloadN X (pc' := 42) d3_41 rfl rfl rfl ?_
  refine s_aload X (pc' := 44) d3_42 rfl rfl rfl ?_
  refine s_iloadN X (pc' := 45) d3_44 rfl rfl ?_
  refine s_static X (pc' := 48) (W := 1) (as' := [(.ref t), (.int (4 : Int32))]) (S := [(.ref x)]) (k' := 2) (n' := 12) d3_45 (hw _ (List.mem_of_getElem? (i := 103) rfl)) (hw _ (List.mem_of_getElem? (i := 104) rfl)) (hw _ (List.mem_of_getElem? (i := 98) rfl)) (hw _ (List.mem_of_getElem? (i := 105) rfl)) (by decide) own_pd12 rfl ((u_cf4 l Z a0 hw hEL t _ A_t rfl).payS (by simp) (hw _ (List.mem_of_getElem? (i := 105) rfl)) (hw _ (List.mem_of_getElem? (i := 98) rfl)) hEL (by decide) (by decide)) (Nat.le_of_ble_eq_true rfl) rfl rfl (by decide) (by decide) (by decide) (by decide) rfl (fun T h145 v_ ws_ X hgr_ q146 => ?_)
  obtain ⟨rfl, e_, rfl⟩ := q146
  rw [e_] at X
  show Go p e below _ T (mkF m 48 #[.val (.ref x), .val (.ref b), .val (.int (0 : Int32)), .val (.int (4 : Int32)), .val .null, .val (.ref t)] [(.int (1 : Int32)), (.ref x)])
  replace X := X.sub (ws' := [x]) (by simp)
  have ne_t_x : t ≠ x := by obtain ⟨kc, q⟩ := A_t.arv .null; exact (Exa.neArv E_x q (hw _ (List.mem_of_getElem? (i := 9) rfl))).symm
  refine s_putf X (pc' := 51) d3_48 (hw _ (List.mem_of_getElem? (i := 28) rfl)) Via.refl F_x_coder E_x (Or.inr ⟨(hw _ (List.mem_of_getElem? (i := 24) rfl)), rfl, rfl⟩) (hw _ (List.mem_of_getElem? (i := 9) rfl)) (ty := .byte) (by decide) rfl rfl g_x (by simp) rfl (fun T h147 X W148 => ?_)
  replace F_x_value := F_x_value.other W148 (Or.inr (slot_ne (Or.inr (hw _ (List.mem_of_getElem? (i := 23) rfl))) (Or.inr (hw _ (List.mem_of_getElem? (i := 24) rfl))) (t := (.array .byte)) (t' := .byte) (by decide) (by decide) (by decide)))
  replace F_x_coder := F_x_coder.same W148
  replace A_t := A_t.other W148 ne_t_x
  replace E_x := E_x.wr W148
  replace K_ := K_.wr W148 (Or.inl (by simp))
  refine s_aloadN X (pc' := 52) d3_51 rfl rfl rfl ?_
  refine s_aload X (pc' := 54) d3_52 rfl rfl rfl ?_
  refine s_putf X (pc' := 57) d3_54 (hw _ (List.mem_of_getElem? (i := 27) rfl)) Via.refl F_x_value E_x (Or.inr ⟨(hw _ (List.mem_of_getElem? (i := 23) rfl)), rfl, rfl⟩) (hw _ (List.mem_of_getElem? (i := 9) rfl)) (ty := (.array .byte)) (by decide) rfl rfl g_x (by simp) rfl (fun T h149 X W150 => ?_)
  replace F_x_value := F_x_value.same W150
  replace F_x_coder := F_x_coder.other W150 (Or.inr (slot_ne (Or.inr (hw _ (List.mem_of_getElem? (i := 24) rfl))) (Or.inr (hw _ (List.mem_of_getElem? (i := 23) rfl))) (t := .byte) (t' := (.array .byte)) (by decide) (by decide) (by decide)))
  replace A_t := A_t.other W150 ne_t_x
  replace E_x := E_x.wr W150
  replace K_ := K_.wr W150 (Or.inl (by simp))
  exact s_ret X hEL (ws' := []) d3_57 (by decide) (by decide) (fun x q => by simp at q) ⟨rfl, K_, Str.ofWide E_x F_x_value F_x_coder A_t hp (Nat.le_of_ble_eq_true rfl) hl, rfl⟩
theorem ef_u_i1_4 (m : MethodId) (x b : Addr) (c0 c1 c2 c3 : Int32) : entryFrame m #[(.ref x), (.ref b)] 2 = mkF m 0 #[.val (.ref x), .val (.ref b)] [] := by first | (simp [entryFrame, mkF, argsToLocals, Value.category]; done) | rfl
set_option maxRecDepth 65536 in
set_option maxHeartbeats 40000000 in
theorem u_i1_4 (l : Launch) (Z : State) (a0 : Array Value) (hw : ∀ d ∈ tables_1, d.before a0 Z = true) (hEL : EW Z a0 consts_1) (x b : Addr) (c0 c1 c2 c3 : Int32) {G1 : Int32} (h : Heap) (hE : Ext Z.heap h) (g_x : Z.heap.size ≤ x) (E_x : Exa Z h x "java/lang/String") (F_x_value : Fld Z h x "java/lang/String" "value" "[B" .null) (F_x_coder : Fld Z h x "java/lang/String" "coder" "B" (.int (0 : Int32))) (A_b : Ary Z h b .char [(.int c0), (.int c1), (.int c2), (.int c3)]) (hp : ∀ c ∈ ([c0, c1, c2, c3] : List Int32), ¬ c < 0 ∧ ¬ (65535 : Int32) < c) (hl : ∃ c ∈ ([c0, c1, c2, c3] : List Int32), (255 : Int32) < c) (O2 : Sta Z Z.heap "java/lang/String" "COMPACT_STRINGS" "Z" (.int G1)) (P5 : ¬ (G1 = (0 : Int32))) (U : U16 Z) :
    Con l Z consts_1 False (⟨"java/lang/String", "<init>", "([C)V"⟩ : MethodName) jdk_42_method_3_code 2 none ({ frames := 5, cells := 2, slots := 12, locals := 74 } : Room) [x] #[(.ref x), (.ref b)] h (fun v h' ws' => v = none ∧ Keep h h' [x] ∧ Str Z h' x [c0, c1, c2, c3] ∧ ws' = []) := by
  refine Con.intro own_pn1 (fun p e s m below meth c T X => ?_)
  rw [ef_u_i1_4 m x b c0 c1 c2 c3]
  refine s_aloadN X (pc' := 1) d2_0 rfl rfl rfl ?_
  refine s_aloadN X (pc' := 2) d2_1 rfl rfl rfl ?_
  refine s_iconst X (pc' := 3) d2_2 (v := (0 : Int32)) rfl rfl ?_
  refine s_aloadN X (pc' := 4) d2_3 rfl rfl rfl ?_
  refine s_alen X (pc' := 5) (z := (4 : Int32)) d2_4 A_b rfl rfl ?_
  refine s_aconst X (pc' := 6) d2_5 rfl ?_
  refine s_special X (pc' := 9) (W := 0) (as' := [(.ref b), (.int (0 : Int32)), (.int (4 : Int32)), .null]) (S := []) (k' := 2) (n' := 12) d2_6 rfl (hw _ (List.mem_of_getElem? (i := 14) rfl)) (hw _ (List.mem_of_getElem? (i := 15) rfl)) (hw _ (List.mem_of_getElem? (i := 17) rfl)) (by decide) own_pd0 rfl ((u_i2_4 l Z a0 hw hEL x b c0 c1 c2 c3 _ hE g_x E_x F_x_value F_x_coder A_b hp hl O2 P5 U).payS (by simp) (hw _ (List.mem_of_getElem? (i := 17) rfl)) (hw _ (List.mem_of_getElem? (i := 10) rfl)) hEL (by decide) (by decide)) (Nat.le_of_ble_eq_true rfl) rfl rfl (by decide) (by decide) (by decide) (by decide) rfl (fun T h151 v_ ws_ X hgr_ q152 => ?_)
  obtain ⟨rfl, K_, S_, rfl⟩ := q152
  show Go p e below _ T (mkF m 9 #[.val (.ref x), .val (.ref b)] [])
  replace X := X.sub (ws' := [x]) (by simp)
  exact s_ret X hEL (ws' := []) d2_9 (by decide) (by decide) (fun x q => by simp at q) ⟨rfl, K_, S_, rfl⟩
theorem ef_own_isl16 (m : MethodId) (a : Addr) : entryFrame m #[(.ref a)] 1 = mkF m 0 #[.val (.ref a)] [] := by first | (simp [entryFrame, mkF, argsToLocals, Value.category]; done) | rfl
set_option maxRecDepth 65536 in
set_option maxHeartbeats 40000000 in
theorem own_isl16 (l : Launch) (Z : State) (a0 : Array Value) (hw : ∀ d ∈ tables_1, d.before a0 Z = true) (hEL : EW Z a0 consts_1) (a : Addr) {G1 : Int32} (h : Heap) (F_a_coder : Fld Z h a "java/lang/String" "coder" "B" (.int (1 : Int32))) (O2 : Sta Z Z.heap "java/lang/String" "COMPACT_STRINGS" "Z" (.int G1)) (P5 : ¬ (G1 = (0 : Int32))) :
    Con l Z consts_1 False (⟨"java/lang/String", "isLatin1", "()Z"⟩ : MethodName) jdk_42_method_154_code 1 (some .boolean) ({ frames := 0, cells := 0, slots := 0, locals := 0 } : Room) [] #[(.ref a)] h (fun v h' ws' => v = some (.int (0)) ∧ h' = h ∧ ws' = []) := by
  refine Con.intro own_pn5 (fun p e s m below meth c T X => ?_)
  rw [ef_own_isl16 m a]
  refine s_gets X (pc' := 3) d8_0 (hw _ (List.mem_of_getElem? (i := 50) rfl)) Via.refl O2 rfl (fun T X => ?_)
  refine s_ifF X (pc' := 6) d8_3 P5 rfl ?_
  refine s_aloadN X (pc' := 7) d8_6 rfl rfl rfl ?_
  refine s_getf X (pc' := 10) d8_7 (hw _ (List.mem_of_getElem? (i := 28) rfl)) Via.refl F_a_coder rfl (fun T X => ?_)
  refine s_ifT X (pc' := 17) d8_10 (show ¬ (1 : Int32) = (0 : Int32) by decide) (by decide) (by decide) ?_
  refine s_iconst X (pc' := 18) d8_17 (v := (0 : Int32)) rfl rfl ?_
  exact s_iretN X hEL (ws' := []) (t := .boolean) d8_18 rfl (by simp) (by decide) (by decide) (fun x q => by simp at q) ⟨rfl, rfl, rfl⟩
theorem d26_0 : decode jdk_41_method_11_code 0 = .ok (.iload_n 0, 1) := by decide +kernel
theorem d26_1 : decode jdk_41_method_11_code 1 = .ok (.ifCond .lt 8, 3) := by decide +kernel
theorem d26_4 : decode jdk_41_method_11_code 4 = .ok (.iload_n 0, 1) := by decide +kernel
theorem d26_5 : decode jdk_41_method_11_code 5 = .ok (.iload_n 1, 1) := by decide +kernel
theorem d26_6 : decode jdk_41_method_11_code 6 = .ok (.if_icmp .lt 10, 3) := by decide +kernel
theorem d26_16 : decode jdk_41_method_11_code 16 = .ok (.iload_n 0, 1) := by decide +kernel
theorem d26_17 : decode jdk_41_method_11_code 17 = .ok (.ireturn, 1) := by decide +kernel
theorem d25_0 : decode jdk_42_method_155_code 0 = .ok (.iload_n 0, 1) := by decide +kernel
theorem d25_1 : decode jdk_42_method_155_code 1 = .ok (.iload_n 1, 1) := by decide +kernel
theorem d25_2 : decode jdk_42_method_155_code 2 = .ok (.getstatic 1053, 3) := by decide +kernel
theorem d25_5 : decode jdk_42_method_155_code 5 = .ok (.invokestatic 1059, 3) := by decide +kernel
theorem d25_8 : decode jdk_42_method_155_code 8 = .ok (.pop, 1) := by decide +kernel
theorem d25_9 : decode jdk_42_method_155_code 9 = .ok (.return_, 1) := by decide +kernel
theorem d41_0 : decode jdk_52_method_91_code 0 = .ok (.iload_n 0, 1) := by decide +kernel
theorem d41_1 : decode jdk_52_method_91_code 1 = .ok (.aload_n 1, 1) := by decide +kernel
theorem d41_2 : decode jdk_52_method_91_code 2 = .ok (.invokestatic 48, 3) := by decide +kernel
theorem d41_5 : decode jdk_52_method_91_code 5 = .ok (.invokestatic 414, 3) := by decide +kernel
theorem d41_8 : decode jdk_52_method_91_code 8 = .ok (.return_, 1) := by decide +kernel
theorem d40_0 : decode jdk_52_method_83_code 0 = .ok (.iload_n 1, 1) := by decide +kernel
theorem d40_1 : decode jdk_52_method_83_code 1 = .ok (.aload_n 0, 1) := by decide +kernel
theorem d40_2 : decode jdk_52_method_83_code 2 = .ok (.invokestatic 67, 3) := by decide +kernel
theorem d40_5 : decode jdk_52_method_83_code 5 = .ok (.aload_n 0, 1) := by decide +kernel
theorem d40_6 : decode jdk_52_method_83_code 6 = .ok (.iload_n 1, 1) := by decide +kernel
theorem d40_7 : decode jdk_52_method_83_code 7 = .ok (.invokestatic 71, 3) := by decide +kernel
theorem d40_10 : decode jdk_52_method_83_code 10 = .ok (.ireturn, 1) := by decide +kernel
theorem d23_0 : decode jdk_42_method_56_code 0 = .ok (.aload_n 0, 1) := by decide +kernel
theorem d23_1 : decode jdk_42_method_56_code 1 = .ok (.invokevirtual 492, 3) := by decide +kernel
theorem d23_4 : decode jdk_42_method_56_code 4 = .ok (.ifCond .eq 12, 3) := by decide +kernel
theorem d23_7 : decode jdk_42_method_56_code 7 = .ok (.aload_n 0, 1) := by decide +kernel
theorem d23_8 : decode jdk_42_method_56_code 8 = .ok (.getfield 9, 3) := by decide +kernel
theorem d23_11 : decode jdk_42_method_56_code 11 = .ok (.iload_n 1, 1) := by decide +kernel
theorem d23_12 : decode jdk_42_method_56_code 12 = .ok (.invokestatic 495, 3) := by decide +kernel
theorem d23_15 : decode jdk_42_method_56_code 15 = .ok (.ireturn, 1) := by decide +kernel
theorem d23_16 : decode jdk_42_method_56_code 16 = .ok (.aload_n 0, 1) := by decide +kernel
theorem d23_17 : decode jdk_42_method_56_code 17 = .ok (.getfield 9, 3) := by decide +kernel
theorem d23_20 : decode jdk_42_method_56_code 20 = .ok (.iload_n 1, 1) := by decide +kernel
theorem d23_21 : decode jdk_42_method_56_code 21 = .ok (.invokestatic 498, 3) := by decide +kernel
theorem d23_24 : decode jdk_42_method_56_code 24 = .ok (.ireturn, 1) := by decide +kernel
theorem ef_u_pci (m : MethodId) (i n : Nat) (G3 : Value) (rG3 : G3.isRef = true) : entryFrame m #[(.int (Int32.ofNat i)), (.int (Int32.ofNat n)), G3] 3 = mkF m 0 #[.val (.int (Int32.ofNat i)), .val (.int (Int32.ofNat n)), .val G3] [] := by
  cases G3 <;> first | (simp [Value.isRef] at rG3; done) | (simp [entryFrame, mkF, argsToLocals, Value.category]; done)
set_option maxRecDepth 65536 in
set_option maxHeartbeats 40000000 in
theorem u_pci (l : Launch) (Z : State) (a0 : Array Value) (hw : ∀ d ∈ tables_1, d.before a0 Z = true) (hEL : EW Z a0 consts_1) (i n : Nat) (G3 : Value) (h : Heap) (hi : i < n) (hn : n ≤ 8000) (rG3 : G3.isRef = true) :
    Con l Z consts_1 False (⟨"jdk/internal/util/Preconditions", "checkIndex", "(IILjava/util/function/BiFunction;)I"⟩ : MethodName) jdk_41_method_11_code 3 (some .int) ({ frames := 0, cells := 0, slots := 0, locals := 0 } : Room) [] #[(.int (Int32.ofNat i)), (.int (Int32.ofNat n)), G3] h (fun v h' ws' => v = some (.int (Int32.ofNat i)) ∧ h' = h ∧ ws' = []) := by
  refine Con.intro own_pn18 (fun p e s m below meth c T X => ?_)
  rw [ef_u_pci m i n G3 rG3]
  refine s_iloadN X (pc' := 1) d26_0 rfl rfl ?_
  refine s_ifF X (pc' := 4) d26_1 (show ¬ Int32.ofNat i < 0 from on_nn (by omega)) rfl ?_
  refine s_iloadN X (pc' := 5) d26_4 rfl rfl ?_
  refine s_iloadN X (pc' := 6) d26_5 rfl rfl ?_
  refine s_icmpT X (pc' := 16) d26_6 (show Int32.ofNat i < Int32.ofNat n from (on_lt (by omega) (by omega)).mpr hi) (by decide) (by decide) ?_
  refine s_iloadN X (pc' := 17) d26_16 rfl rfl ?_
  exact s_iret X hEL (ws' := []) d26_17 (by decide) (by decide) (fun x q => by simp at q) ⟨rfl, rfl, rfl⟩
theorem ef_u_sci (m : MethodId) (i n : Nat) : entryFrame m #[(.int (Int32.ofNat i)), (.int (Int32.ofNat n))] 2 = mkF m 0 #[.val (.int (Int32.ofNat i)), .val (.int (Int32.ofNat n))] [] := by first | (simp [entryFrame, mkF, argsToLocals, Value.category]; done) | rfl
set_option maxRecDepth 65536 in
set_option maxHeartbeats 40000000 in
theorem u_sci (l : Launch) (Z : State) (a0 : Array Value) (hw : ∀ d ∈ tables_1, d.before a0 Z = true) (hEL : EW Z a0 consts_1) (i n : Nat) (h : Heap) {G3 : Value} (hi : i < n) (hn : n ≤ 8000) (O4 : Sta Z Z.heap "jdk/internal/util/Preconditions" "SIOOBE_FORMATTER" "Ljava/util/function/BiFunction;" G3) (rG3 : G3.isRef = true) :
    Con l Z consts_1 False (⟨"java/lang/String", "checkIndex", "(II)V"⟩ : MethodName) jdk_42_method_155_code 2 none ({ frames := 1, cells := 0, slots := 0, locals := 14 } : Room) [] #[(.int (Int32.ofNat i)), (.int (Int32.ofNat n))] h (fun v h' ws' => v = none ∧ h' = h ∧ ws' = []) := by
  refine Con.intro own_pn19 (fun p e s m below meth c T X => ?_)
  rw [ef_u_sci m i n]
  refine s_iloadN X (pc' := 1) d25_0 rfl rfl ?_
  refine s_iloadN X (pc' := 2) d25_1 rfl rfl ?_
  refine s_gets X (pc' := 5) d25_2 (hw _ (List.mem_of_getElem? (i := 120) rfl)) Via.refl O4 rfl (fun T X => ?_)
  refine s_static X (pc' := 8) (W := 0) (as' := [(.int (Int32.ofNat i)), (.int (Int32.ofNat n)), G3]) (S := []) (k' := 0) (n' := 0) d25_5 (hw _ (List.mem_of_getElem? (i := 122) rfl)) (hw _ (List.mem_of_getElem? (i := 123) rfl)) (hw _ (List.mem_of_getElem? (i := 121) rfl)) (hw _ (List.mem_of_getElem? (i := 124) rfl)) (by decide) own_pd13 rfl ((u_pci l Z a0 hw hEL i n G3 _ hi hn rG3).payS (by simp) (hw _ (List.mem_of_getElem? (i := 124) rfl)) (hw _ (List.mem_of_getElem? (i := 121) rfl)) hEL (by decide) (by decide)) (Nat.le_of_ble_eq_true rfl) rfl rfl (by decide) (by decide) (by decide) (by decide) rfl (fun T h153 v_ ws_ X hgr_ q154 => ?_)
  obtain ⟨rfl, e_, rfl⟩ := q154
  rw [e_] at X
  show Go p e below _ T (mkF m 8 #[.val (.int (Int32.ofNat i)), .val (.int (Int32.ofNat n))] [(.int (Int32.ofNat i))])
  replace X := X.sub (ws' := []) (by simp)
  refine s_pop X (pc' := 9) d25_8 rfl rfl ?_
  exact s_ret X hEL (ws' := []) d25_9 (by decide) (by decide) (fun x q => by simp at q) ⟨rfl, rfl, rfl⟩
theorem ef_u_uci (m : MethodId) (t : Addr) (cs : List Int32) (i : Nat) : entryFrame m #[(.int (Int32.ofNat i)), (.ref t)] 2 = mkF m 0 #[.val (.int (Int32.ofNat i)), .val (.ref t)] [] := by first | (simp [entryFrame, mkF, argsToLocals, Value.category]; done) | rfl
set_option maxRecDepth 65536 in
set_option maxHeartbeats 40000000 in
theorem u_uci (l : Launch) (Z : State) (a0 : Array Value) (hw : ∀ d ∈ tables_1, d.before a0 Z = true) (hEL : EW Z a0 consts_1) (t : Addr) (cs : List Int32) (i : Nat) (h : Heap) {G3 : Value} (A_t : Ary Z h t .byte (wbs cs)) (hn : cs.length ≤ 4000) (hi : i < cs.length) (O4 : Sta Z Z.heap "jdk/internal/util/Preconditions" "SIOOBE_FORMATTER" "Ljava/util/function/BiFunction;" G3) (rG3 : G3.isRef = true) :
    Con l Z consts_1 False (⟨"java/lang/StringUTF16", "checkIndex", "(I[B)V"⟩ : MethodName) jdk_52_method_91_code 2 none ({ frames := 2, cells := 0, slots := 0, locals := 27 } : Room) [] #[(.int (Int32.ofNat i)), (.ref t)] h (fun v h' ws' => v = none ∧ h' = h ∧ ws' = []) := by
  refine Con.intro own_pn20 (fun p e s m below meth c T X => ?_)
  rw [ef_u_uci m t cs i]
  refine s_iloadN X (pc' := 1) d41_0 rfl rfl ?_
  refine s_aloadN X (pc' := 2) d41_1 rfl rfl rfl ?_
  refine s_static X (pc' := 5) (W := 1) (as' := [(.ref t)]) (S := [(.int (Int32.ofNat i))]) (k' := 0) (n' := 0) d41_2 (hw _ (List.mem_of_getElem? (i := 159) rfl)) (hw _ (List.mem_of_getElem? (i := 160) rfl)) (hw _ (List.mem_of_getElem? (i := 98) rfl)) (hw _ (List.mem_of_getElem? (i := 161) rfl)) (by decide) own_pd14 rfl ((u_len l Z a0 hw hEL t cs _ A_t hn).payS (by simp) (hw _ (List.mem_of_getElem? (i := 161) rfl)) (hw _ (List.mem_of_getElem? (i := 98) rfl)) hEL (by decide) (by decide)) (Nat.le_of_ble_eq_true rfl) rfl rfl (by decide) (by decide) (by decide) (by decide) rfl (fun T h155 v_ ws_ X hgr_ q156 => ?_)
  obtain ⟨rfl, e_, rfl⟩ := q156
  rw [e_] at X
  show Go p e below _ T (mkF m 5 #[.val (.int (Int32.ofNat i)), .val (.ref t)] [(.int (Int32.ofNat cs.length)), (.int (Int32.ofNat i))])
  replace X := X.sub (ws' := []) (by simp)
  refine s_static X (pc' := 8) (W := 0) (as' := [(.int (Int32.ofNat i)), (.int (Int32.ofNat cs.length))]) (S := []) (k' := 0) (n' := 0) d41_5 (hw _ (List.mem_of_getElem? (i := 177) rfl)) (hw _ (List.mem_of_getElem? (i := 118) rfl)) (hw _ (List.mem_of_getElem? (i := 10) rfl)) (hw _ (List.mem_of_getElem? (i := 119) rfl)) (by decide) own_pd15 rfl ((u_sci l Z a0 hw hEL i cs.length _ hi (by omega) O4 rG3).payS (by simp) (hw _ (List.mem_of_getElem? (i := 119) rfl)) (hw _ (List.mem_of_getElem? (i := 10) rfl)) hEL (by decide) (by decide)) (Nat.le_of_ble_eq_true rfl) rfl rfl (by decide) (by decide) (by decide) (by decide) rfl (fun T h157 v_ ws_ X hgr_ q158 => ?_)
  obtain ⟨rfl, e_, rfl⟩ := q158
  rw [e_] at X
  show Go p e below _ T (mkF m 8 #[.val (.int (Int32.ofNat i)), .val (.ref t)] [])
  replace X := X.sub (ws' := []) (by simp)
  exact s_ret X hEL (ws' := []) d41_8 (by decide) (by decide) (fun x q => by simp at q) ⟨rfl, rfl, rfl⟩
theorem ef_u_uca (m : MethodId) (t : Addr) (cs : List Int32) (i : Nat) : entryFrame m #[(.ref t), (.int (Int32.ofNat i))] 2 = mkF m 0 #[.val (.ref t), .val (.int (Int32.ofNat i))] [] := by first | (simp [entryFrame, mkF, argsToLocals, Value.category]; done) | rfl
set_option maxRecDepth 65536 in
set_option maxHeartbeats 40000000 in
theorem u_uca (l : Launch) (Z : State) (a0 : Array Value) (hw : ∀ d ∈ tables_1, d.before a0 Z = true) (hEL : EW Z a0 consts_1) (t : Addr) (cs : List Int32) (i : Nat) (h : Heap) {G3 : Value} (A_t : Ary Z h t .byte (wbs cs)) (hn : cs.length ≤ 4000) (hi : i < cs.length) (O4 : Sta Z Z.heap "jdk/internal/util/Preconditions" "SIOOBE_FORMATTER" "Ljava/util/function/BiFunction;" G3) (rG3 : G3.isRef = true) (hp : ∀ c ∈ cs, ¬ c < 0 ∧ ¬ (65535 : Int32) < c) (U : U16 Z) :
    Con l Z consts_1 False (⟨"java/lang/StringUTF16", "charAt", "([BI)C"⟩ : MethodName) jdk_52_method_83_code 2 (some .char) ({ frames := 3, cells := 0, slots := 0, locals := 40 } : Room) [] #[(.ref t), (.int (Int32.ofNat i))] h (fun v h' ws' => v = some (.int (cs.getD i 0)) ∧ h' = h ∧ ws' = []) := by
  refine Con.intro own_pn21 (fun p e s m below meth c T X => ?_)
  rw [ef_u_uca m t cs i]
  refine s_iloadN X (pc' := 1) d40_0 rfl rfl ?_
  refine s_aloadN X (pc' := 2) d40_1 rfl rfl rfl ?_
  refine s_static X (pc' := 5) (W := 0) (as' := [(.int (Int32.ofNat i)), (.ref t)]) (S := []) (k' := 0) (n' := 0) d40_2 (hw _ (List.mem_of_getElem? (i := 174) rfl)) (hw _ (List.mem_of_getElem? (i := 175) rfl)) (hw _ (List.mem_of_getElem? (i := 98) rfl)) (hw _ (List.mem_of_getElem? (i := 176) rfl)) (by decide) own_pd16 rfl ((u_uci l Z a0 hw hEL t cs i _ A_t hn hi O4 rG3).payS (by simp) (hw _ (List.mem_of_getElem? (i := 176) rfl)) (hw _ (List.mem_of_getElem? (i := 98) rfl)) hEL (by decide) (by decide)) (Nat.le_of_ble_eq_true rfl) rfl rfl (by decide) (by decide) (by decide) (by decide) rfl (fun T h159 v_ ws_ X hgr_ q160 => ?_)
  obtain ⟨rfl, e_, rfl⟩ := q160
  rw [e_] at X
  show Go p e below _ T (mkF m 5 #[.val (.ref t), .val (.int (Int32.ofNat i))] [])
  replace X := X.sub (ws' := []) (by simp)
  refine s_aloadN X (pc' := 6) d40_5 rfl rfl rfl ?_
  refine s_iloadN X (pc' := 7) d40_6 rfl rfl ?_
  refine s_static X (pc' := 10) (W := 0) (as' := [(.ref t), (.int (Int32.ofNat i))]) (S := []) (k' := 0) (n' := 0) d40_7 (hw _ (List.mem_of_getElem? (i := 144) rfl)) (hw _ (List.mem_of_getElem? (i := 145) rfl)) (hw _ (List.mem_of_getElem? (i := 98) rfl)) (hw _ (List.mem_of_getElem? (i := 146) rfl)) (by decide) own_pd11 rfl ((u_get l Z a0 hw hEL t cs i _ A_t hn hi hp U).payS (by simp) (hw _ (List.mem_of_getElem? (i := 146) rfl)) (hw _ (List.mem_of_getElem? (i := 98) rfl)) hEL (by decide) (by decide)) (Nat.le_of_ble_eq_true rfl) rfl rfl (by decide) (by decide) (by decide) (by decide) rfl (fun T h161 v_ ws_ X hgr_ q162 => ?_)
  obtain ⟨rfl, e_, rfl⟩ := q162
  rw [e_] at X
  show Go p e below _ T (mkF m 10 #[.val (.ref t), .val (.int (Int32.ofNat i))] [(.int (cs.getD i 0))])
  replace X := X.sub (ws' := []) (by simp)
  exact s_iretN X hEL (ws' := []) (t := .char) d40_10 rfl (by simp) (by decide) (by decide) (fun x q => by simp at q) ⟨by rw [nar_id (hp _ (getD_mem hi))], rfl, rfl⟩
theorem ef_u_ca (m : MethodId) (a : Addr) (cs : List Int32) (i : Nat) : entryFrame m #[(.ref a), (.int (Int32.ofNat i))] 2 = mkF m 0 #[.val (.ref a), .val (.int (Int32.ofNat i))] [] := by first | (simp [entryFrame, mkF, argsToLocals, Value.category]; done) | rfl
set_option maxRecDepth 65536 in
set_option maxHeartbeats 40000000 in
theorem u_ca (l : Launch) (Z : State) (a0 : Array Value) (hw : ∀ d ∈ tables_1, d.before a0 Z = true) (hEL : EW Z a0 consts_1) (a : Addr) (cs : List Int32) (i : Nat) (h : Heap) {G1 : Int32} {G3 : Value} (S_a : Str Z h a cs) (hl : ¬ ∀ c ∈ cs, ¬ (255 : Int32) < c) (hi : i < cs.length) (O2 : Sta Z Z.heap "java/lang/String" "COMPACT_STRINGS" "Z" (.int G1)) (P5 : ¬ (G1 = (0 : Int32))) (O4 : Sta Z Z.heap "jdk/internal/util/Preconditions" "SIOOBE_FORMATTER" "Ljava/util/function/BiFunction;" G3) (rG3 : G3.isRef = true) (U : U16 Z) :
    Con l Z consts_1 False (⟨"java/lang/String", "charAt", "(I)C"⟩ : MethodName) jdk_42_method_56_code 2 (some .char) ({ frames := 4, cells := 0, slots := 0, locals := 53 } : Room) [] #[(.ref a), (.int (Int32.ofNat i))] h (fun v h' ws' => v = some (.int (cs.getD i 0)) ∧ h' = h ∧ ws' = []) := by
  refine Con.intro own_pn22 (fun p e s m below meth c T X => ?_)
  rw [ef_u_ca m a cs i]
  obtain ⟨t, E_a, F_a_value, F_a_coder, A_t, hp, hn⟩ := S_a.wide hl
  refine s_aloadN X (pc' := 1) d23_0 rfl rfl rfl ?_
  refine s_virtual X (pc' := 4) (W := 0) (as' := []) (S := []) (k' := 0) (n' := 0) d23_1 (hw _ (List.mem_of_getElem? (i := 45) rfl)) (hw _ (List.mem_of_getElem? (i := 46) rfl)) (hw _ (List.mem_of_getElem? (i := 48) rfl)) (hw _ (List.mem_of_getElem? (i := 47) rfl)) (nface (hw _ (List.mem_of_getElem? (i := 48) rfl))) (by decide) own_pd4 rfl E_a ((own_isl16 l Z a0 hw hEL a _ F_a_coder O2 P5).payS (by simp) (hw _ (List.mem_of_getElem? (i := 49) rfl)) (hw _ (List.mem_of_getElem? (i := 10) rfl)) hEL (by decide) (by decide)) (Nat.le_of_ble_eq_true rfl) rfl rfl (by decide) (by decide) (by decide) (by decide) rfl (fun T h163 v_ ws_ X hgr_ q164 => ?_)
  obtain ⟨rfl, e_, rfl⟩ := q164
  rw [e_] at X
  show Go p e below _ T (mkF m 4 #[.val (.ref a), .val (.int (Int32.ofNat i))] [(.int (0 : Int32))])
  replace X := X.sub (ws' := []) (by simp)
  refine s_ifT X (pc' := 16) d23_4 (show (0 : Int32) = (0 : Int32) by decide) (by decide) (by decide) ?_
  refine s_aloadN X (pc' := 17) d23_16 rfl rfl rfl ?_
  refine s_getf X (pc' := 20) d23_17 (hw _ (List.mem_of_getElem? (i := 27) rfl)) Via.refl F_a_value rfl (fun T X => ?_)
  refine s_iloadN X (pc' := 21) d23_20 rfl rfl ?_
  refine s_static X (pc' := 24) (W := 0) (as' := [(.ref t), (.int (Int32.ofNat i))]) (S := []) (k' := 0) (n' := 0) d23_21 (hw _ (List.mem_of_getElem? (i := 171) rfl)) (hw _ (List.mem_of_getElem? (i := 172) rfl)) (hw _ (List.mem_of_getElem? (i := 98) rfl)) (hw _ (List.mem_of_getElem? (i := 173) rfl)) (by decide) own_pd11 rfl ((u_uca l Z a0 hw hEL t cs i _ A_t hn hi O4 rG3 hp U).payS (by simp) (hw _ (List.mem_of_getElem? (i := 173) rfl)) (hw _ (List.mem_of_getElem? (i := 98) rfl)) hEL (by decide) (by decide)) (Nat.le_of_ble_eq_true rfl) rfl rfl (by decide) (by decide) (by decide) (by decide) rfl (fun T h165 v_ ws_ X hgr_ q166 => ?_)
  obtain ⟨rfl, e_, rfl⟩ := q166
  rw [e_] at X
  show Go p e below _ T (mkF m 24 #[.val (.ref a), .val (.int (Int32.ofNat i))] [(.int (cs.getD i 0))])
  replace X := X.sub (ws' := []) (by simp)
  exact s_iretN X hEL (ws' := []) (t := .char) d23_24 rfl (by simp) (by decide) (by decide) (fun x q => by simp at q) ⟨by rw [nar_id (hp _ (getD_mem hi))], rfl, rfl⟩
theorem chPayA {p : Program} {l : Launch} {e : Env} {R : Room} {s : State} {args : Array Value} {below : List Frame} {Z : State} {a0 : Array Value} {ws : List Addr} {h : Heap} {x : Addr} {cs : List Int32} {G1 : Int32} {G3 : Value} {W i : Nat} (hw : ∀ d ∈ tables_1, d.before a0 Z = true) (hEL : EW Z a0 consts_1) (O2 : Sta Z Z.heap "java/lang/String" "COMPACT_STRINGS" "Z" (.int G1)) (P5 : ¬ (G1 = (0 : Int32))) (O4 : Sta Z Z.heap "jdk/internal/util/Preconditions" "SIOOBE_FORMATTER" "Ljava/util/function/BiFunction;" G3) (rG3 : G3.isRef = true) (U : U16 Z) (hE : Ext Z.heap h) (S : Str Z h x cs) (hi : i < cs.length) (hfr : 5 ≤ R.frames) (hlo : W + 66 ≤ R.locals) :
    Own.Pay l R p e below s args Z consts_1 False ws ⟨"java/lang/String", "charAt", "(I)C"⟩ 3 W 0 0 #[.ref x, .int (Int32.ofNat i)] h (fun v h' ws' => v = some (.int (cs.getD i 0)) ∧ h' = h ∧ ws' = []) := by
  by_cases hl : ∀ c ∈ cs, ¬ (255 : Int32) < c
  · exact chPay hw hEL O2 P5 O4 rG3 hE S hl hi rfl (by omega) (by omega)
  · exact (u_ca l Z a0 hw hEL x cs i h S hl hi O2 P5 O4 rG3 U).payS (by simp) (hw _ (List.mem_of_getElem? (i := 113) rfl)) (hw _ (List.mem_of_getElem? (i := 10) rfl)) hEL hfr (by show W + (2 + 11) + 53 ≤ _; omega)
theorem d38_0 : decode jdk_41_method_12_code 0 = .ok (.iload_n 0, 1) := by decide +kernel
theorem d38_1 : decode jdk_41_method_12_code 1 = .ok (.ifCond .lt 13, 3) := by decide +kernel
theorem d38_4 : decode jdk_41_method_12_code 4 = .ok (.iload_n 0, 1) := by decide +kernel
theorem d38_5 : decode jdk_41_method_12_code 5 = .ok (.iload_n 1, 1) := by decide +kernel
theorem d38_6 : decode jdk_41_method_12_code 6 = .ok (.if_icmp .gt 8, 3) := by decide +kernel
theorem d38_9 : decode jdk_41_method_12_code 9 = .ok (.iload_n 1, 1) := by decide +kernel
theorem d38_10 : decode jdk_41_method_12_code 10 = .ok (.iload_n 2, 1) := by decide +kernel
theorem d38_11 : decode jdk_41_method_12_code 11 = .ok (.if_icmp .le 11, 3) := by decide +kernel
theorem d38_22 : decode jdk_41_method_12_code 22 = .ok (.iload_n 0, 1) := by decide +kernel
theorem d38_23 : decode jdk_41_method_12_code 23 = .ok (.ireturn, 1) := by decide +kernel
theorem d37_0 : decode jdk_42_method_158_code 0 = .ok (.iload_n 0, 1) := by decide +kernel
theorem d37_1 : decode jdk_42_method_158_code 1 = .ok (.iload_n 1, 1) := by decide +kernel
theorem d37_2 : decode jdk_42_method_158_code 2 = .ok (.iload_n 2, 1) := by decide +kernel
theorem d37_3 : decode jdk_42_method_158_code 3 = .ok (.getstatic 1053, 3) := by decide +kernel
theorem d37_6 : decode jdk_42_method_158_code 6 = .ok (.invokestatic 1062, 3) := by decide +kernel
theorem d37_9 : decode jdk_42_method_158_code 9 = .ok (.pop, 1) := by decide +kernel
theorem d37_10 : decode jdk_42_method_158_code 10 = .ok (.return_, 1) := by decide +kernel
theorem d35_0 : decode jdk_52_method_93_code 0 = .ok (.iload_n 0, 1) := by decide +kernel
theorem d35_1 : decode jdk_52_method_93_code 1 = .ok (.iload_n 1, 1) := by decide +kernel
theorem d35_2 : decode jdk_52_method_93_code 2 = .ok (.aload_n 2, 1) := by decide +kernel
theorem d35_3 : decode jdk_52_method_93_code 3 = .ok (.invokestatic 48, 3) := by decide +kernel
theorem d35_6 : decode jdk_52_method_93_code 6 = .ok (.invokestatic 241, 3) := by decide +kernel
theorem d35_9 : decode jdk_52_method_93_code 9 = .ok (.return_, 1) := by decide +kernel
theorem d39_0 : decode jdk_52_method_48_code 0 = .ok (.iload_n 2, 1) := by decide +kernel
theorem d39_1 : decode jdk_52_method_48_code 1 = .ok (.istore 4, 2) := by decide +kernel
theorem d39_3 : decode jdk_52_method_48_code 3 = .ok (.iload 4, 2) := by decide +kernel
theorem d39_5 : decode jdk_52_method_48_code 5 = .ok (.iload_n 3, 1) := by decide +kernel
theorem d39_6 : decode jdk_52_method_48_code 6 = .ok (.if_icmp .ge 22, 3) := by decide +kernel
theorem d39_9 : decode jdk_52_method_48_code 9 = .ok (.aload_n 0, 1) := by decide +kernel
theorem d39_10 : decode jdk_52_method_48_code 10 = .ok (.iload 4, 2) := by decide +kernel
theorem d39_12 : decode jdk_52_method_48_code 12 = .ok (.invokestatic 71, 3) := by decide +kernel
theorem d39_15 : decode jdk_52_method_48_code 15 = .ok (.iload_n 1, 1) := by decide +kernel
theorem d39_16 : decode jdk_52_method_48_code 16 = .ok (.if_icmp .ne 6, 3) := by decide +kernel
theorem d39_19 : decode jdk_52_method_48_code 19 = .ok (.iload 4, 2) := by decide +kernel
theorem d39_21 : decode jdk_52_method_48_code 21 = .ok (.ireturn, 1) := by decide +kernel
theorem d39_22 : decode jdk_52_method_48_code 22 = .ok (.iinc 4 1, 3) := by decide +kernel
theorem d39_25 : decode jdk_52_method_48_code 25 = .ok (.goto (-22), 3) := by decide +kernel
theorem d39_28 : decode jdk_52_method_48_code 28 = .ok (.iconst (-1), 1) := by decide +kernel
theorem d39_29 : decode jdk_52_method_48_code 29 = .ok (.ireturn, 1) := by decide +kernel
theorem d34_0 : decode jdk_52_method_47_code 0 = .ok (.iload_n 2, 1) := by decide +kernel
theorem d34_1 : decode jdk_52_method_47_code 1 = .ok (.iload_n 3, 1) := by decide +kernel
theorem d34_2 : decode jdk_52_method_47_code 2 = .ok (.aload_n 0, 1) := by decide +kernel
theorem d34_3 : decode jdk_52_method_47_code 3 = .ok (.invokestatic 96, 3) := by decide +kernel
theorem d34_6 : decode jdk_52_method_47_code 6 = .ok (.aload_n 0, 1) := by decide +kernel
theorem d34_7 : decode jdk_52_method_47_code 7 = .ok (.iload_n 1, 1) := by decide +kernel
theorem d34_8 : decode jdk_52_method_47_code 8 = .ok (.iload_n 2, 1) := by decide +kernel
theorem d34_9 : decode jdk_52_method_47_code 9 = .ok (.iload_n 3, 1) := by decide +kernel
theorem d34_10 : decode jdk_52_method_47_code 10 = .ok (.invokestatic 244, 3) := by decide +kernel
theorem d34_13 : decode jdk_52_method_47_code 13 = .ok (.ireturn, 1) := by decide +kernel
theorem d33_0 : decode jdk_52_method_40_code 0 = .ok (.iload_n 2, 1) := by decide +kernel
theorem d33_1 : decode jdk_52_method_40_code 1 = .ok (.iconst 0, 1) := by decide +kernel
theorem d33_2 : decode jdk_52_method_40_code 2 = .ok (.invokestatic 224, 3) := by decide +kernel
theorem d33_5 : decode jdk_52_method_40_code 5 = .ok (.istore_n 2, 1) := by decide +kernel
theorem d33_6 : decode jdk_52_method_40_code 6 = .ok (.iload_n 3, 1) := by decide +kernel
theorem d33_7 : decode jdk_52_method_40_code 7 = .ok (.aload_n 0, 1) := by decide +kernel
theorem d33_8 : decode jdk_52_method_40_code 8 = .ok (.arraylength, 1) := by decide +kernel
theorem d33_9 : decode jdk_52_method_40_code 9 = .ok (.iconst 1, 1) := by decide +kernel
theorem d33_10 : decode jdk_52_method_40_code 10 = .ok (.ishr, 1) := by decide +kernel
theorem d33_11 : decode jdk_52_method_40_code 11 = .ok (.invokestatic 183, 3) := by decide +kernel
theorem d33_14 : decode jdk_52_method_40_code 14 = .ok (.istore_n 3, 1) := by decide +kernel
theorem d33_15 : decode jdk_52_method_40_code 15 = .ok (.iload_n 2, 1) := by decide +kernel
theorem d33_16 : decode jdk_52_method_40_code 16 = .ok (.iload_n 3, 1) := by decide +kernel
theorem d33_17 : decode jdk_52_method_40_code 17 = .ok (.if_icmp .lt 5, 3) := by decide +kernel
theorem d33_20 : decode jdk_52_method_40_code 20 = .ok (.iconst (-1), 1) := by decide +kernel
theorem d33_21 : decode jdk_52_method_40_code 21 = .ok (.ireturn, 1) := by decide +kernel
theorem d33_22 : decode jdk_52_method_40_code 22 = .ok (.iload_n 1, 1) := by decide +kernel
theorem d33_23 : decode jdk_52_method_40_code 23 = .ok (.ldc 227, 2) := by decide +kernel
theorem d33_25 : decode jdk_52_method_40_code 25 = .ok (.if_icmp .ge 11, 3) := by decide +kernel
theorem d33_28 : decode jdk_52_method_40_code 28 = .ok (.aload_n 0, 1) := by decide +kernel
theorem d33_29 : decode jdk_52_method_40_code 29 = .ok (.iload_n 1, 1) := by decide +kernel
theorem d33_30 : decode jdk_52_method_40_code 30 = .ok (.iload_n 2, 1) := by decide +kernel
theorem d33_31 : decode jdk_52_method_40_code 31 = .ok (.iload_n 3, 1) := by decide +kernel
theorem d33_32 : decode jdk_52_method_40_code 32 = .ok (.invokestatic 228, 3) := by decide +kernel
theorem d33_35 : decode jdk_52_method_40_code 35 = .ok (.ireturn, 1) := by decide +kernel
theorem ef_u_cft (m : MethodId) (i n : Nat) (G3 : Value) (rG3 : G3.isRef = true) : entryFrame m #[(.int (Int32.ofNat i)), (.int (Int32.ofNat n)), (.int (Int32.ofNat n)), G3] 4 = mkF m 0 #[.val (.int (Int32.ofNat i)), .val (.int (Int32.ofNat n)), .val (.int (Int32.ofNat n)), .val G3] [] := by
  cases G3 <;> first | (simp [Value.isRef] at rG3; done) | (simp [entryFrame, mkF, argsToLocals, Value.category]; done)
set_option maxRecDepth 65536 in
set_option maxHeartbeats 40000000 in
theorem u_cft (l : Launch) (Z : State) (a0 : Array Value) (hw : ∀ d ∈ tables_1, d.before a0 Z = true) (hEL : EW Z a0 consts_1) (i n : Nat) (G3 : Value) (h : Heap) (hi : i ≤ n) (hn : n ≤ 8000) (rG3 : G3.isRef = true) :
    Con l Z consts_1 False (⟨"jdk/internal/util/Preconditions", "checkFromToIndex", "(IIILjava/util/function/BiFunction;)I"⟩ : MethodName) jdk_41_method_12_code 4 (some .int) ({ frames := 0, cells := 0, slots := 0, locals := 0 } : Room) [] #[(.int (Int32.ofNat i)), (.int (Int32.ofNat n)), (.int (Int32.ofNat n)), G3] h (fun v h' ws' => v = some (.int (Int32.ofNat i)) ∧ h' = h ∧ ws' = []) := by
  refine Con.intro own_pn23 (fun p e s m below meth c T X => ?_)
  rw [ef_u_cft m i n G3 rG3]
  refine s_iloadN X (pc' := 1) d38_0 rfl rfl ?_
  refine s_ifF X (pc' := 4) d38_1 (show ¬ Int32.ofNat i < 0 from on_nn (by omega)) rfl ?_
  refine s_iloadN X (pc' := 5) d38_4 rfl rfl ?_
  refine s_iloadN X (pc' := 6) d38_5 rfl rfl ?_
  refine s_icmpF X (pc' := 9) d38_6 (show ¬ Int32.ofNat n < Int32.ofNat i from fun z => by rw [on_lt (by omega) (by omega)] at z; omega) rfl ?_
  refine s_iloadN X (pc' := 10) d38_9 rfl rfl ?_
  refine s_iloadN X (pc' := 11) d38_10 rfl rfl ?_
  refine s_icmpT X (pc' := 22) d38_11 (show ¬ Int32.ofNat n < Int32.ofNat n from fun z => by rw [on_lt (by omega) (by omega)] at z; omega) (by decide) (by decide) ?_
  refine s_iloadN X (pc' := 23) d38_22 rfl rfl ?_
  exact s_iret X hEL (ws' := []) d38_23 (by decide) (by decide) (fun x q => by simp at q) ⟨rfl, rfl, rfl⟩
theorem ef_u_scb (m : MethodId) (i n : Nat) : entryFrame m #[(.int (Int32.ofNat i)), (.int (Int32.ofNat n)), (.int (Int32.ofNat n))] 3 = mkF m 0 #[.val (.int (Int32.ofNat i)), .val (.int (Int32.ofNat n)), .val (.int (Int32.ofNat n))] [] := by first | (simp [entryFrame, mkF, argsToLocals, Value.category]; done) | rfl
set_option maxRecDepth 65536 in
set_option maxHeartbeats 40000000 in
theorem u_scb (l : Launch) (Z : State) (a0 : Array Value) (hw : ∀ d ∈ tables_1, d.before a0 Z = true) (hEL : EW Z a0 consts_1) (i n : Nat) (h : Heap) {G3 : Value} (hi : i ≤ n) (hn : n ≤ 8000) (O4 : Sta Z Z.heap "jdk/internal/util/Preconditions" "SIOOBE_FORMATTER" "Ljava/util/function/BiFunction;" G3) (rG3 : G3.isRef = true) :
    Con l Z consts_1 False (⟨"java/lang/String", "checkBoundsBeginEnd", "(III)V"⟩ : MethodName) jdk_42_method_158_code 3 none ({ frames := 1, cells := 0, slots := 0, locals := 15 } : Room) [] #[(.int (Int32.ofNat i)), (.int (Int32.ofNat n)), (.int (Int32.ofNat n))] h (fun v h' ws' => v = none ∧ h' = h ∧ ws' = []) := by
  refine Con.intro own_pn24 (fun p e s m below meth c T X => ?_)
  rw [ef_u_scb m i n]
  refine s_iloadN X (pc' := 1) d37_0 rfl rfl ?_
  refine s_iloadN X (pc' := 2) d37_1 rfl rfl ?_
  refine s_iloadN X (pc' := 3) d37_2 rfl rfl ?_
  refine s_gets X (pc' := 6) d37_3 (hw _ (List.mem_of_getElem? (i := 120) rfl)) Via.refl O4 rfl (fun T X => ?_)
  refine s_static X (pc' := 9) (W := 0) (as' := [(.int (Int32.ofNat i)), (.int (Int32.ofNat n)), (.int (Int32.ofNat n)), G3]) (S := []) (k' := 0) (n' := 0) d37_6 (hw _ (List.mem_of_getElem? (i := 165) rfl)) (hw _ (List.mem_of_getElem? (i := 166) rfl)) (hw _ (List.mem_of_getElem? (i := 121) rfl)) (hw _ (List.mem_of_getElem? (i := 167) rfl)) (by decide) own_pd17 rfl ((u_cft l Z a0 hw hEL i n G3 _ hi hn rG3).payS (by simp) (hw _ (List.mem_of_getElem? (i := 167) rfl)) (hw _ (List.mem_of_getElem? (i := 121) rfl)) hEL (by decide) (by decide)) (Nat.le_of_ble_eq_true rfl) rfl rfl (by decide) (by decide) (by decide) (by decide) rfl (fun T h167 v_ ws_ X hgr_ q168 => ?_)
  obtain ⟨rfl, e_, rfl⟩ := q168
  rw [e_] at X
  show Go p e below _ T (mkF m 9 #[.val (.int (Int32.ofNat i)), .val (.int (Int32.ofNat n)), .val (.int (Int32.ofNat n))] [(.int (Int32.ofNat i))])
  replace X := X.sub (ws' := []) (by simp)
  refine s_pop X (pc' := 10) d37_9 rfl rfl ?_
  exact s_ret X hEL (ws' := []) d37_10 (by decide) (by decide) (fun x q => by simp at q) ⟨rfl, rfl, rfl⟩
theorem ef_u_ucb (m : MethodId) (t : Addr) (cs : List Int32) (i0 : Nat) : entryFrame m #[(.int (Int32.ofNat i0)), (.int (Int32.ofNat cs.length)), (.ref t)] 3 = mkF m 0 #[.val (.int (Int32.ofNat i0)), .val (.int (Int32.ofNat cs.length)), .val (.ref t)] [] := by first | (simp [entryFrame, mkF, argsToLocals, Value.category]; done) | rfl
set_option maxRecDepth 65536 in
set_option maxHeartbeats 40000000 in
theorem u_ucb (l : Launch) (Z : State) (a0 : Array Value) (hw : ∀ d ∈ tables_1, d.before a0 Z = true) (hEL : EW Z a0 consts_1) (t : Addr) (cs : List Int32) (i0 : Nat) (h : Heap) {G3 : Value} (A_t : Ary Z h t .byte (wbs cs)) (hn : cs.length ≤ 4000) (hi : i0 ≤ cs.length) (O4 : Sta Z Z.heap "jdk/internal/util/Preconditions" "SIOOBE_FORMATTER" "Ljava/util/function/BiFunction;" G3) (rG3 : G3.isRef = true) :
    Con l Z consts_1 False (⟨"java/lang/StringUTF16", "checkBoundsBeginEnd", "(II[B)V"⟩ : MethodName) jdk_52_method_93_code 3 none ({ frames := 2, cells := 0, slots := 0, locals := 29 } : Room) [] #[(.int (Int32.ofNat i0)), (.int (Int32.ofNat cs.length)), (.ref t)] h (fun v h' ws' => v = none ∧ h' = h ∧ ws' = []) := by
  refine Con.intro own_pn25 (fun p e s m below meth c T X => ?_)
  rw [ef_u_ucb m t cs i0]
  refine s_iloadN X (pc' := 1) d35_0 rfl rfl ?_
  refine s_iloadN X (pc' := 2) d35_1 rfl rfl ?_
  refine s_aloadN X (pc' := 3) d35_2 rfl rfl rfl ?_
  refine s_static X (pc' := 6) (W := 2) (as' := [(.ref t)]) (S := [(.int (Int32.ofNat cs.length)), (.int (Int32.ofNat i0))]) (k' := 0) (n' := 0) d35_3 (hw _ (List.mem_of_getElem? (i := 159) rfl)) (hw _ (List.mem_of_getElem? (i := 160) rfl)) (hw _ (List.mem_of_getElem? (i := 98) rfl)) (hw _ (List.mem_of_getElem? (i := 161) rfl)) (by decide) own_pd14 rfl ((u_len l Z a0 hw hEL t cs _ A_t hn).payS (by simp) (hw _ (List.mem_of_getElem? (i := 161) rfl)) (hw _ (List.mem_of_getElem? (i := 98) rfl)) hEL (by decide) (by decide)) (Nat.le_of_ble_eq_true rfl) rfl rfl (by decide) (by decide) (by decide) (by decide) rfl (fun T h169 v_ ws_ X hgr_ q170 => ?_)
  obtain ⟨rfl, e_, rfl⟩ := q170
  rw [e_] at X
  show Go p e below _ T (mkF m 6 #[.val (.int (Int32.ofNat i0)), .val (.int (Int32.ofNat cs.length)), .val (.ref t)] [(.int (Int32.ofNat cs.length)), (.int (Int32.ofNat cs.length)), (.int (Int32.ofNat i0))])
  replace X := X.sub (ws' := []) (by simp)
  refine s_static X (pc' := 9) (W := 0) (as' := [(.int (Int32.ofNat i0)), (.int (Int32.ofNat cs.length)), (.int (Int32.ofNat cs.length))]) (S := []) (k' := 0) (n' := 0) d35_6 (hw _ (List.mem_of_getElem? (i := 162) rfl)) (hw _ (List.mem_of_getElem? (i := 163) rfl)) (hw _ (List.mem_of_getElem? (i := 10) rfl)) (hw _ (List.mem_of_getElem? (i := 164) rfl)) (by decide) own_pd18 rfl ((u_scb l Z a0 hw hEL i0 cs.length _ hi (by omega) O4 rG3).payS (by simp) (hw _ (List.mem_of_getElem? (i := 164) rfl)) (hw _ (List.mem_of_getElem? (i := 10) rfl)) hEL (by decide) (by decide)) (Nat.le_of_ble_eq_true rfl) rfl rfl (by decide) (by decide) (by decide) (by decide) rfl (fun T h171 v_ ws_ X hgr_ q172 => ?_)
  obtain ⟨rfl, e_, rfl⟩ := q172
  rw [e_] at X
  show Go p e below _ T (mkF m 9 #[.val (.int (Int32.ofNat i0)), .val (.int (Int32.ofNat cs.length)), .val (.ref t)] [])
  replace X := X.sub (ws' := []) (by simp)
  exact s_ret X hEL (ws' := []) d35_9 (by decide) (by decide) (fun x q => by simp at q) ⟨rfl, rfl, rfl⟩
theorem ef_u_ixu (m : MethodId) (t : Addr) (cs : List Int32) (ch : Int32) (i0 : Nat) : entryFrame m #[(.ref t), (.int ch), (.int (Int32.ofNat i0)), (.int (Int32.ofNat cs.length))] 5 = mkF m 0 #[.val (.ref t), .val (.int ch), .val (.int (Int32.ofNat i0)), .val (.int (Int32.ofNat cs.length)), .unset] [] := by first | (simp [entryFrame, mkF, argsToLocals, Value.category]; done) | rfl
set_option maxRecDepth 65536 in
set_option maxHeartbeats 40000000 in
theorem u_ixu (l : Launch) (Z : State) (a0 : Array Value) (hw : ∀ d ∈ tables_1, d.before a0 Z = true) (hEL : EW Z a0 consts_1) (t : Addr) (cs : List Int32) (ch : Int32) (i0 : Nat) (h : Heap) (A_t : Ary Z h t .byte (wbs cs)) (hn : cs.length ≤ 4000) (hi : i0 ≤ cs.length) (hp : ∀ c ∈ cs, ¬ c < 0 ∧ ¬ (65535 : Int32) < c) (U : U16 Z) :
    Con l Z consts_1 False (⟨"java/lang/StringUTF16", "indexOfCharUnsafe", "([BIII)I"⟩ : MethodName) jdk_52_method_48_code 5 (some .int) ({ frames := 1, cells := 0, slots := 0, locals := 13 } : Room) [] #[(.ref t), (.int ch), (.int (Int32.ofNat i0)), (.int (Int32.ofNat cs.length))] h (fun v h' ws' => v = some (.int (ixF (cs.drop i0) ch i0)) ∧ h' = h ∧ ws' = []) := by
  refine Con.intro own_pn26 (fun p e s m below meth c T X => ?_)
  rw [ef_u_ixu m t cs ch i0]
  obtain ⟨r, gr⟩ : ∃ r, r = ixF (cs.drop i0) ch i0 := ⟨_, rfl⟩
  rw [← gr]
  refine s_iloadN X (pc' := 1) d39_0 rfl rfl ?_
  refine s_istore X (pc' := 3) (L' := #[.val (.ref t), .val (.int ch), .val (.int (Int32.ofNat i0)), .val (.int (Int32.ofNat cs.length)), .val (.int (Int32.ofNat i0))]) d39_1 rfl rfl ?_
  have loop : ∀ (d i : Nat) (T : State), i + d = cs.length → r = ixF (cs.drop i) ch i → Cx p l e ({ frames := 1, cells := 0, slots := 0, locals := 13 } : Room) s m #[(.ref t), (.int ch), (.int (Int32.ofNat i0)), (.int (Int32.ofNat cs.length))] below meth c Z consts_1 False (⟨"java/lang/StringUTF16", "indexOfCharUnsafe", "([BIII)I"⟩ : MethodName) jdk_52_method_48_code 5 (some .int) [] T h 0 0 → Go p e below (Post Z consts_1 s ({ frames := 1, cells := 0, slots := 0, locals := 13 } : Room) (fun v h' ws' => v = some (.int r) ∧ h' = h ∧ ws' = [])) T (mkF m 3 #[.val (.ref t), .val (.int ch), .val (.int (Int32.ofNat i0)), .val (.int (Int32.ofNat cs.length)), .val (.int (Int32.ofNat i))] []) := by
    intro d
    induction d with
    | zero =>
      intro i T hid hr X
      refine s_iload X (pc' := 5) d39_3 rfl rfl ?_
      refine s_iloadN X (pc' := 6) d39_5 rfl rfl ?_
      refine s_icmpT X (pc' := 28) d39_6 (show ¬ Int32.ofNat i < Int32.ofNat cs.length from fun q => by rw [on_lt (by omega) (by omega)] at q; omega) (by decide) (by decide) ?_
      refine s_iconst X (pc' := 29) d39_28 (v := (-1 : Int32)) (by decide) rfl ?_
      exact s_iret X hEL (ws' := []) d39_29 (by decide) (by decide) (fun x q => by simp at q) ⟨by rw [hr, List.drop_eq_nil_of_le (by omega)]; rfl, rfl, rfl⟩
    | succ d ih =>
      intro i T hid hr X
      have hi' : i < cs.length := by omega
      refine s_iload X (pc' := 5) d39_3 rfl rfl ?_
      refine s_iloadN X (pc' := 6) d39_5 rfl rfl ?_
      refine s_icmpF X (pc' := 9) d39_6 (show Int32.ofNat i < Int32.ofNat cs.length from (on_lt (by omega) (by omega)).mpr hi') rfl ?_
      refine s_aloadN X (pc' := 10) d39_9 rfl rfl rfl ?_
      refine s_iload X (pc' := 12) d39_10 rfl rfl ?_
      refine s_static X (pc' := 15) (W := 0) (as' := [(.ref t), (.int (Int32.ofNat i))]) (S := []) (k' := 0) (n' := 0) d39_12 (hw _ (List.mem_of_getElem? (i := 144) rfl)) (hw _ (List.mem_of_getElem? (i := 145) rfl)) (hw _ (List.mem_of_getElem? (i := 98) rfl)) (hw _ (List.mem_of_getElem? (i := 146) rfl)) (by decide) own_pd11 rfl ((u_get l Z a0 hw hEL t cs i _ A_t hn hi' hp U).payS (by simp) (hw _ (List.mem_of_getElem? (i := 146) rfl)) (hw _ (List.mem_of_getElem? (i := 98) rfl)) hEL (by decide) (by decide)) (Nat.le_of_ble_eq_true rfl) rfl rfl (by decide) (by decide) (by decide) (by decide) rfl (fun T h173 v_ ws_ X hgr_ q174 => ?_)
      obtain ⟨rfl, e_, rfl⟩ := q174
      rw [e_] at X
      show Go p e below _ T (mkF m 15 #[.val (.ref t), .val (.int ch), .val (.int (Int32.ofNat i0)), .val (.int (Int32.ofNat cs.length)), .val (.int (Int32.ofNat i))] [(.int (cs.getD i 0))])
      replace X := X.sub (ws' := []) (by simp)
      refine s_iloadN X (pc' := 16) d39_15 rfl rfl ?_
      refine s_icmp X (pc' := 22) (pcF := 19) d39_16 (by decide) (by decide) rfl (fun (q1 : ¬ (cs.getD i 0) = ch) => ?_) (fun (q1 : (cs.getD i 0) = ch) => ?_)
      · refine s_iinc X (pc' := 25) (L' := #[.val (.ref t), .val (.int ch), .val (.int (Int32.ofNat i0)), .val (.int (Int32.ofNat cs.length)), .val (.int ((Int32.ofNat i) + (1 : Int32)))]) d39_22 (v := (1 : Int32)) (by decide) rfl rfl rfl ?_
        refine s_goto X (pc' := 3) d39_25 (by decide) (by decide) ?_
        show Go p e below _ T (mkF m 3 #[.val (.ref t), .val (.int ch), .val (.int (Int32.ofNat i0)), .val (.int (Int32.ofNat cs.length)), .val (.int ((Int32.ofNat i) + (1 : Int32)))] [])
        rw [on_succ i]
        exact ih (i + 1) T (by omega) (by rw [hr, drop_at hi', ixF, if_neg q1]) X
      · refine s_iload X (pc' := 21) d39_19 rfl rfl ?_
        exact s_iret X hEL (ws' := []) d39_21 (by decide) (by decide) (fun x q => by simp at q) ⟨by rw [hr, drop_at hi', ixF, if_pos q1], rfl, rfl⟩
  exact loop (cs.length - i0) i0 T (by omega) gr X
theorem ef_u_ixc (m : MethodId) (t : Addr) (cs : List Int32) (ch : Int32) (i0 : Nat) : entryFrame m #[(.ref t), (.int ch), (.int (Int32.ofNat i0)), (.int (Int32.ofNat cs.length))] 4 = mkF m 0 #[.val (.ref t), .val (.int ch), .val (.int (Int32.ofNat i0)), .val (.int (Int32.ofNat cs.length))] [] := by first | (simp [entryFrame, mkF, argsToLocals, Value.category]; done) | rfl
set_option maxRecDepth 65536 in
set_option maxHeartbeats 40000000 in
theorem u_ixc (l : Launch) (Z : State) (a0 : Array Value) (hw : ∀ d ∈ tables_1, d.before a0 Z = true) (hEL : EW Z a0 consts_1) (t : Addr) (cs : List Int32) (ch : Int32) (i0 : Nat) (h : Heap) {G3 : Value} (A_t : Ary Z h t .byte (wbs cs)) (hn : cs.length ≤ 4000) (hi : i0 ≤ cs.length) (O4 : Sta Z Z.heap "jdk/internal/util/Preconditions" "SIOOBE_FORMATTER" "Ljava/util/function/BiFunction;" G3) (rG3 : G3.isRef = true) (hp : ∀ c ∈ cs, ¬ c < 0 ∧ ¬ (65535 : Int32) < c) (U : U16 Z) :
    Con l Z consts_1 False (⟨"java/lang/StringUTF16", "indexOfChar", "([BIII)I"⟩ : MethodName) jdk_52_method_47_code 4 (some .int) ({ frames := 3, cells := 0, slots := 0, locals := 43 } : Room) [] #[(.ref t), (.int ch), (.int (Int32.ofNat i0)), (.int (Int32.ofNat cs.length))] h (fun v h' ws' => v = some (.int (ixF (cs.drop i0) ch i0)) ∧ h' = h ∧ ws' = []) := by
  refine Con.intro own_pn27 (fun p e s m below meth c T X => ?_)
  rw [ef_u_ixc m t cs ch i0]
  refine s_iloadN X (pc' := 1) d34_0 rfl rfl ?_
  refine s_iloadN X (pc' := 2) d34_1 rfl rfl ?_
  refine s_aloadN X (pc' := 3) d34_2 rfl rfl rfl ?_
  refine s_static X (pc' := 6) (W := 0) (as' := [(.int (Int32.ofNat i0)), (.int (Int32.ofNat cs.length)), (.ref t)]) (S := []) (k' := 0) (n' := 0) d34_3 (hw _ (List.mem_of_getElem? (i := 156) rfl)) (hw _ (List.mem_of_getElem? (i := 157) rfl)) (hw _ (List.mem_of_getElem? (i := 98) rfl)) (hw _ (List.mem_of_getElem? (i := 158) rfl)) (by decide) own_pd19 rfl ((u_ucb l Z a0 hw hEL t cs i0 _ A_t hn hi O4 rG3).payS (by simp) (hw _ (List.mem_of_getElem? (i := 158) rfl)) (hw _ (List.mem_of_getElem? (i := 98) rfl)) hEL (by decide) (by decide)) (Nat.le_of_ble_eq_true rfl) rfl rfl (by decide) (by decide) (by decide) (by decide) rfl (fun T h175 v_ ws_ X hgr_ q176 => ?_)
  obtain ⟨rfl, e_, rfl⟩ := q176
  rw [e_] at X
  show Go p e below _ T (mkF m 6 #[.val (.ref t), .val (.int ch), .val (.int (Int32.ofNat i0)), .val (.int (Int32.ofNat cs.length))] [])
  replace X := X.sub (ws' := []) (by simp)
  refine s_aloadN X (pc' := 7) d34_6 rfl rfl rfl ?_
  refine s_iloadN X (pc' := 8) d34_7 rfl rfl ?_
  refine s_iloadN X (pc' := 9) d34_8 rfl rfl ?_
  refine s_iloadN X (pc' := 10) d34_9 rfl rfl ?_
  refine s_static X (pc' := 13) (W := 0) (as' := [(.ref t), (.int ch), (.int (Int32.ofNat i0)), (.int (Int32.ofNat cs.length))]) (S := []) (k' := 0) (n' := 0) d34_10 (hw _ (List.mem_of_getElem? (i := 168) rfl)) (hw _ (List.mem_of_getElem? (i := 169) rfl)) (hw _ (List.mem_of_getElem? (i := 98) rfl)) (hw _ (List.mem_of_getElem? (i := 170) rfl)) (by decide) own_pd3 rfl ((u_ixu l Z a0 hw hEL t cs ch i0 _ A_t hn hi hp U).payS (by simp) (hw _ (List.mem_of_getElem? (i := 170) rfl)) (hw _ (List.mem_of_getElem? (i := 98) rfl)) hEL (by decide) (by decide)) (Nat.le_of_ble_eq_true rfl) rfl rfl (by decide) (by decide) (by decide) (by decide) rfl (fun T h177 v_ ws_ X hgr_ q178 => ?_)
  obtain ⟨rfl, e_, rfl⟩ := q178
  rw [e_] at X
  show Go p e below _ T (mkF m 13 #[.val (.ref t), .val (.int ch), .val (.int (Int32.ofNat i0)), .val (.int (Int32.ofNat cs.length))] [(.int (ixF (cs.drop i0) ch i0))])
  replace X := X.sub (ws' := []) (by simp)
  exact s_iret X hEL (ws' := []) d34_13 (by decide) (by decide) (fun x q => by simp at q) ⟨rfl, rfl, rfl⟩
theorem ef_u_ix (m : MethodId) (t : Addr) (cs : List Int32) (ch : Int32) (i0 : Nat) : entryFrame m #[(.ref t), (.int ch), (.int (Int32.ofNat i0)), (.int (Int32.ofNat cs.length))] 4 = mkF m 0 #[.val (.ref t), .val (.int ch), .val (.int (Int32.ofNat i0)), .val (.int (Int32.ofNat cs.length))] [] := by first | (simp [entryFrame, mkF, argsToLocals, Value.category]; done) | rfl
set_option maxRecDepth 65536 in
set_option maxHeartbeats 40000000 in
theorem u_ix (l : Launch) (Z : State) (a0 : Array Value) (hw : ∀ d ∈ tables_1, d.before a0 Z = true) (hEL : EW Z a0 consts_1) (t : Addr) (cs : List Int32) (ch : Int32) (i0 : Nat) (h : Heap) {G3 : Value} (A_t : Ary Z h t .byte (wbs cs)) (hn : cs.length ≤ 4000) (hi : i0 ≤ cs.length) (O4 : Sta Z Z.heap "jdk/internal/util/Preconditions" "SIOOBE_FORMATTER" "Ljava/util/function/BiFunction;" G3) (rG3 : G3.isRef = true) (hp : ∀ c ∈ cs, ¬ c < 0 ∧ ¬ (65535 : Int32) < c) (U : U16 Z) (hch : ¬ ch < 0 ∧ ¬ (65535 : Int32) < ch) :
    Con l Z consts_1 False (⟨"java/lang/StringUTF16", "indexOf", "([BIII)I"⟩ : MethodName) jdk_52_method_40_code 4 (some .int) ({ frames := 4, cells := 0, slots := 0, locals := 58 } : Room) [] #[(.ref t), (.int ch), (.int (Int32.ofNat i0)), (.int (Int32.ofNat cs.length))] h (fun v h' ws' => v = some (.int (ixF (cs.drop i0) ch i0)) ∧ h' = h ∧ ws' = []) := by
  refine Con.intro own_pn28 (fun p e s m below meth c T X => ?_)
  rw [ef_u_ix m t cs ch i0]
  refine s_iloadN X (pc' := 1) d33_0 rfl rfl ?_
  refine s_iconst X (pc' := 2) d33_1 (v := (0 : Int32)) rfl rfl ?_
  refine s_static X (pc' := 5) (W := 0) (as' := [(.int (Int32.ofNat i0)), (.int (0 : Int32))]) (S := []) (k' := 0) (n' := 0) d33_2 (hw _ (List.mem_of_getElem? (i := 150) rfl)) (hw _ (List.mem_of_getElem? (i := 69) rfl)) (hw _ (List.mem_of_getElem? (i := 70) rfl)) (hw _ (List.mem_of_getElem? (i := 71) rfl)) (by decide) own_pd2 rfl ((own_max l Z a0 hw hEL (Int32.ofNat i0) (0 : Int32) _).payS (by simp) (hw _ (List.mem_of_getElem? (i := 71) rfl)) (hw _ (List.mem_of_getElem? (i := 70) rfl)) hEL (by decide) (by decide)) (Nat.le_of_ble_eq_true rfl) rfl rfl (by decide) (by decide) (by decide) (by decide) rfl (fun T h179 v_ ws_ X hgr_ q180 => ?_)
  obtain ⟨rfl, e_, rfl⟩ := q180
  rw [e_] at X
  show Go p e below _ T (mkF m 5 #[.val (.ref t), .val (.int ch), .val (.int (Int32.ofNat i0)), .val (.int (Int32.ofNat cs.length))] [(.int (if (Int32.ofNat i0) < (0 : Int32) then (0 : Int32) else (Int32.ofNat i0)))])
  replace X := X.sub (ws' := []) (by simp)
  refine go_int (z := (Int32.ofNat i0)) (if_neg (on_nn (by omega))) ?_
  refine s_istoreN X (pc' := 6) (L' := #[.val (.ref t), .val (.int ch), .val (.int (Int32.ofNat i0)), .val (.int (Int32.ofNat cs.length))]) d33_5 rfl rfl ?_
  refine s_iloadN X (pc' := 7) d33_6 rfl rfl ?_
  refine s_aloadN X (pc' := 8) d33_7 rfl rfl rfl ?_
  refine s_alen X (pc' := 9) (z := Int32.ofNat (2 * cs.length)) d33_8 A_t (by rw [wbs_len]) rfl ?_
  refine s_iconst X (pc' := 10) d33_9 (v := (1 : Int32)) rfl rfl ?_
  refine s_ishr X (pc' := 11) d33_10 rfl ?_
  refine go_int (z := (Int32.ofNat cs.length)) (on_shr (by omega)) ?_
  refine s_static X (pc' := 14) (W := 0) (as' := [(.int (Int32.ofNat cs.length)), (.int (Int32.ofNat cs.length))]) (S := []) (k' := 0) (n' := 0) d33_11 (hw _ (List.mem_of_getElem? (i := 151) rfl)) (hw _ (List.mem_of_getElem? (i := 73) rfl)) (hw _ (List.mem_of_getElem? (i := 70) rfl)) (hw _ (List.mem_of_getElem? (i := 74) rfl)) (by decide) own_pd2 rfl ((own_min l Z a0 hw hEL (Int32.ofNat cs.length) (Int32.ofNat cs.length) _).payS (by simp) (hw _ (List.mem_of_getElem? (i := 74) rfl)) (hw _ (List.mem_of_getElem? (i := 70) rfl)) hEL (by decide) (by decide)) (Nat.le_of_ble_eq_true rfl) rfl rfl (by decide) (by decide) (by decide) (by decide) rfl (fun T h181 v_ ws_ X hgr_ q182 => ?_)
  obtain ⟨rfl, e_, rfl⟩ := q182
  rw [e_] at X
  show Go p e below _ T (mkF m 14 #[.val (.ref t), .val (.int ch), .val (.int (Int32.ofNat i0)), .val (.int (Int32.ofNat cs.length))] [(.int (if (Int32.ofNat cs.length) < (Int32.ofNat cs.length) then (Int32.ofNat cs.length) else (Int32.ofNat cs.length)))])
  replace X := X.sub (ws' := []) (by simp)
  refine go_int (z := (Int32.ofNat cs.length)) (by split <;> rfl) ?_
  refine s_istoreN X (pc' := 15) (L' := #[.val (.ref t), .val (.int ch), .val (.int (Int32.ofNat i0)), .val (.int (Int32.ofNat cs.length))]) d33_14 rfl rfl ?_
  refine s_iloadN X (pc' := 16) d33_15 rfl rfl ?_
  refine s_iloadN X (pc' := 17) d33_16 rfl rfl ?_
  refine s_icmp X (pc' := 22) (pcF := 20) d33_17 (by decide) (by decide) rfl (fun (q2 : (Int32.ofNat i0) < (Int32.ofNat cs.length)) => ?_) (fun (q2 : ¬ (Int32.ofNat i0) < (Int32.ofNat cs.length)) => ?_)
  · refine s_iloadN X (pc' := 23) d33_22 rfl rfl ?_
    refine s_ldcI X (pc' := 25) d33_23 (hw _ (List.mem_of_getElem? (i := 152) rfl)) rfl ?_
    refine s_icmpF X (pc' := 28) d33_25 (show ch < (65536 : Int32) by have e0 : (65536 : Int32).toInt = 65536 := rfl; have e1 : (65535 : Int32).toInt = 65535 := rfl; have q := hch.2; rw [Int32.lt_iff_toInt_lt, e1] at q; rw [Int32.lt_iff_toInt_lt, e0]; omega) rfl ?_
    refine s_aloadN X (pc' := 29) d33_28 rfl rfl rfl ?_
    refine s_iloadN X (pc' := 30) d33_29 rfl rfl ?_
    refine s_iloadN X (pc' := 31) d33_30 rfl rfl ?_
    refine s_iloadN X (pc' := 32) d33_31 rfl rfl ?_
    refine s_static X (pc' := 35) (W := 0) (as' := [(.ref t), (.int ch), (.int (Int32.ofNat i0)), (.int (Int32.ofNat cs.length))]) (S := []) (k' := 0) (n' := 0) d33_32 (hw _ (List.mem_of_getElem? (i := 153) rfl)) (hw _ (List.mem_of_getElem? (i := 154) rfl)) (hw _ (List.mem_of_getElem? (i := 98) rfl)) (hw _ (List.mem_of_getElem? (i := 155) rfl)) (by decide) own_pd3 rfl ((u_ixc l Z a0 hw hEL t cs ch i0 _ A_t hn hi O4 rG3 hp U).payS (by simp) (hw _ (List.mem_of_getElem? (i := 155) rfl)) (hw _ (List.mem_of_getElem? (i := 98) rfl)) hEL (by decide) (by decide)) (Nat.le_of_ble_eq_true rfl) rfl rfl (by decide) (by decide) (by decide) (by decide) rfl (fun T h183 v_ ws_ X hgr_ q184 => ?_)
    obtain ⟨rfl, e_, rfl⟩ := q184
    rw [e_] at X
    show Go p e below _ T (mkF m 35 #[.val (.ref t), .val (.int ch), .val (.int (Int32.ofNat i0)), .val (.int (Int32.ofNat cs.length))] [(.int (ixF (cs.drop i0) ch i0))])
    replace X := X.sub (ws' := []) (by simp)
    exact s_iret X hEL (ws' := []) d33_35 (by decide) (by decide) (fun x q => by simp at q) ⟨rfl, rfl, rfl⟩
  · refine s_iconst X (pc' := 21) d33_20 (v := (-1 : Int32)) (by decide) rfl ?_
    exact s_iret X hEL (ws' := []) d33_21 (by decide) (by decide) (fun x q => by simp at q) ⟨by rw [List.drop_eq_nil_of_le (by rw [on_lt (by omega) (by omega)] at q2; omega)]; rfl, rfl, rfl⟩
theorem ef_u_six (m : MethodId) (a : Addr) (cs : List Int32) (ch : Int32) (i0 : Nat) : entryFrame m #[(.ref a), (.int ch), (.int (Int32.ofNat i0))] 3 = mkF m 0 #[.val (.ref a), .val (.int ch), .val (.int (Int32.ofNat i0))] [] := by first | (simp [entryFrame, mkF, argsToLocals, Value.category]; done) | rfl
set_option maxRecDepth 65536 in
set_option maxHeartbeats 40000000 in
theorem u_six (l : Launch) (Z : State) (a0 : Array Value) (hw : ∀ d ∈ tables_1, d.before a0 Z = true) (hEL : EW Z a0 consts_1) (a : Addr) (cs : List Int32) (ch : Int32) (i0 : Nat) (h : Heap) {G1 : Int32} {G3 : Value} (S_a : Str Z h a cs) (hl : ¬ ∀ c ∈ cs, ¬ (255 : Int32) < c) (hi : i0 ≤ cs.length) (hch : ¬ ch < 0 ∧ ¬ (65535 : Int32) < ch) (O2 : Sta Z Z.heap "java/lang/String" "COMPACT_STRINGS" "Z" (.int G1)) (P5 : ¬ (G1 = (0 : Int32))) (O4 : Sta Z Z.heap "jdk/internal/util/Preconditions" "SIOOBE_FORMATTER" "Ljava/util/function/BiFunction;" G3) (rG3 : G3.isRef = true) (U : U16 Z) :
    Con l Z consts_1 False (⟨"java/lang/String", "indexOf", "(II)I"⟩ : MethodName) jdk_42_method_80_code 3 (some .int) ({ frames := 5, cells := 0, slots := 0, locals := 73 } : Room) [] #[(.ref a), (.int ch), (.int (Int32.ofNat i0))] h (fun v h' ws' => v = some (.int (ixF (cs.drop i0) ch i0)) ∧ h' = h ∧ ws' = []) := by
  refine Con.intro own_pn8 (fun p e s m below meth c T X => ?_)
  rw [ef_u_six m a cs ch i0]
  obtain ⟨t, E_a, F_a_value, F_a_coder, A_t, hp, hn⟩ := S_a.wide hl
  refine s_aloadN X (pc' := 1) d7_0 rfl rfl rfl ?_
  refine s_virtual X (pc' := 4) (W := 0) (as' := []) (S := []) (k' := 0) (n' := 0) d7_1 (hw _ (List.mem_of_getElem? (i := 45) rfl)) (hw _ (List.mem_of_getElem? (i := 46) rfl)) (hw _ (List.mem_of_getElem? (i := 48) rfl)) (hw _ (List.mem_of_getElem? (i := 47) rfl)) (nface (hw _ (List.mem_of_getElem? (i := 48) rfl))) (by decide) own_pd4 rfl E_a ((own_isl16 l Z a0 hw hEL a _ F_a_coder O2 P5).payS (by simp) (hw _ (List.mem_of_getElem? (i := 49) rfl)) (hw _ (List.mem_of_getElem? (i := 10) rfl)) hEL (by decide) (by decide)) (Nat.le_of_ble_eq_true rfl) rfl rfl (by decide) (by decide) (by decide) (by decide) rfl (fun T h185 v_ ws_ X hgr_ q186 => ?_)
  obtain ⟨rfl, e_, rfl⟩ := q186
  rw [e_] at X
  show Go p e below _ T (mkF m 4 #[.val (.ref a), .val (.int ch), .val (.int (Int32.ofNat i0))] [(.int (0 : Int32))])
  replace X := X.sub (ws' := []) (by simp)
  refine s_ifT X (pc' := 23) d7_4 (show (0 : Int32) = (0 : Int32) by decide) (by decide) (by decide) ?_
  refine s_aloadN X (pc' := 24) d7_23 rfl rfl rfl ?_
  refine s_getf X (pc' := 27) d7_24 (hw _ (List.mem_of_getElem? (i := 27) rfl)) Via.refl F_a_value rfl (fun T X => ?_)
  refine s_iloadN X (pc' := 28) d7_27 rfl rfl ?_
  refine s_iloadN X (pc' := 29) d7_28 rfl rfl ?_
  refine s_aloadN X (pc' := 30) d7_29 rfl rfl rfl ?_
  refine s_virtual X (pc' := 33) (W := 3) (as' := []) (S := [(.int (Int32.ofNat i0)), (.int ch), (.ref t)]) (k' := 0) (n' := 0) d7_30 (hw _ (List.mem_of_getElem? (i := 51) rfl)) (hw _ (List.mem_of_getElem? (i := 52) rfl)) (hw _ (List.mem_of_getElem? (i := 54) rfl)) (hw _ (List.mem_of_getElem? (i := 53) rfl)) (nface (hw _ (List.mem_of_getElem? (i := 54) rfl))) (by decide) own_pd5 rfl E_a (lenPay hw hEL O2 P5 X.old S_a (by decide) (by decide)) (Nat.le_of_ble_eq_true rfl) rfl rfl (by decide) (by decide) (by decide) (by decide) rfl (fun T h187 v_ ws_ X hgr_ q188 => ?_)
  obtain ⟨rfl, e_, rfl⟩ := q188
  rw [e_] at X
  show Go p e below _ T (mkF m 33 #[.val (.ref a), .val (.int ch), .val (.int (Int32.ofNat i0))] [(.int (Int32.ofNat cs.length)), (.int (Int32.ofNat i0)), (.int ch), (.ref t)])
  replace X := X.sub (ws' := []) (by simp)
  refine s_static X (pc' := 36) (W := 0) (as' := [(.ref t), (.int ch), (.int (Int32.ofNat i0)), (.int (Int32.ofNat cs.length))]) (S := []) (k' := 0) (n' := 0) d7_33 (hw _ (List.mem_of_getElem? (i := 147) rfl)) (hw _ (List.mem_of_getElem? (i := 148) rfl)) (hw _ (List.mem_of_getElem? (i := 98) rfl)) (hw _ (List.mem_of_getElem? (i := 149) rfl)) (by decide) own_pd3 rfl ((u_ix l Z a0 hw hEL t cs ch i0 _ A_t hn hi O4 rG3 hp U hch).payS (by simp) (hw _ (List.mem_of_getElem? (i := 149) rfl)) (hw _ (List.mem_of_getElem? (i := 98) rfl)) hEL (by decide) (by decide)) (Nat.le_of_ble_eq_true rfl) rfl rfl (by decide) (by decide) (by decide) (by decide) rfl (fun T h189 v_ ws_ X hgr_ q190 => ?_)
  obtain ⟨rfl, e_, rfl⟩ := q190
  rw [e_] at X
  show Go p e below _ T (mkF m 36 #[.val (.ref a), .val (.int ch), .val (.int (Int32.ofNat i0))] [(.int (ixF (cs.drop i0) ch i0))])
  replace X := X.sub (ws' := []) (by simp)
  exact s_iret X hEL (ws' := []) d7_36 (by decide) (by decide) (fun x q => by simp at q) ⟨rfl, rfl, rfl⟩
theorem ixPayA {p : Program} {l : Launch} {e : Env} {R : Room} {s : State} {args : Array Value} {below : List Frame} {Z : State} {a0 : Array Value} {ws : List Addr} {h : Heap} {x : Addr} {cs : List Int32} {G1 : Int32} {G3 : Value} {W : Nat} (hw : ∀ d ∈ tables_1, d.before a0 Z = true) (hEL : EW Z a0 consts_1) (O2 : Sta Z Z.heap "java/lang/String" "COMPACT_STRINGS" "Z" (.int G1)) (P5 : ¬ (G1 = (0 : Int32))) (O4 : Sta Z Z.heap "jdk/internal/util/Preconditions" "SIOOBE_FORMATTER" "Ljava/util/function/BiFunction;" G3) (rG3 : G3.isRef = true) (U : U16 Z) (hE : Ext Z.heap h) (S : Str Z h x cs) (ch : Int32) (i0 : Nat) (hi : i0 ≤ cs.length) (hch : ¬ ch < 0 ∧ ¬ (65535 : Int32) < ch) (hfr : 6 ≤ R.frames) (hlo : W + 87 ≤ R.locals) :
    Own.Pay l R p e below s args Z consts_1 False ws ⟨"java/lang/String", "indexOf", "(II)I"⟩ 3 W 0 0 #[.ref x, .int ch, .int (Int32.ofNat i0)] h (fun v h' ws' => v = some (.int (ixF (cs.drop i0) ch i0)) ∧ h' = h ∧ ws' = []) := by
  by_cases hl : ∀ c ∈ cs, ¬ (255 : Int32) < c
  · have hp : ∀ c ∈ cs, ¬ c < 0 ∧ ¬ (255 : Int32) < c := fun c hc => by obtain ⟨_, _, _, _, _, _, _, _, _, _, q, _⟩ := S; exact ⟨(q c hc).1, hl c hc⟩
    exact (own_six l Z a0 hw hEL x ch i0 h S hp hch hi O2 P5).payS (by simp) (hw _ (List.mem_of_getElem? (i := 44) rfl)) (hw _ (List.mem_of_getElem? (i := 10) rfl)) hEL (by show 2 + 1 ≤ _; omega) (by show W + (3 + 11) + 40 ≤ _; omega)
  · exact (u_six l Z a0 hw hEL x cs ch i0 h S hl hi hch O2 P5 O4 rG3 U).payS (by simp) (hw _ (List.mem_of_getElem? (i := 44) rfl)) (hw _ (List.mem_of_getElem? (i := 10) rfl)) hEL hfr (by show W + (3 + 11) + 73 ≤ _; omega)

/-- a HeaderParser: the String that it reads and its place there -/
def HpAt (Z : State) (h : Heap) (k r : Addr) (i : Nat) : Prop := Exa Z h k "com/example/halyard/halyard/HeaderParser" ∧ Fld Z h k "com/example/halyard/halyard/HeaderParser" "value" "Ljava/lang/String;" (.ref r) ∧ Fld Z h k "com/example/halyard/halyard/HeaderParser" "position" "I" (.int (Int32.ofNat i))
theorem HpAt.ext {Z : State} {h h' : Heap} {k r : Addr} {i : Nat} (F : HpAt Z h k r i) (E : Ext h h') : HpAt Z h' k r i := ⟨F.1.ext E, F.2.1.ext E, F.2.2.ext E⟩
theorem d5_0 : decode prog_6_method_1_code 0 = .ok (.aload_n 0, 1) := by decide +kernel
theorem d5_1 : decode prog_6_method_1_code 1 = .ok (.invokespecial 1, 3) := by decide +kernel
theorem d5_4 : decode prog_6_method_1_code 4 = .ok (.aload_n 1, 1) := by decide +kernel
theorem d5_5 : decode prog_6_method_1_code 5 = .ok (.ifnonnull 13, 3) := by decide +kernel
theorem d5_8 : decode prog_6_method_1_code 8 = .ok (.new 7, 3) := by decide +kernel
theorem d5_11 : decode prog_6_method_1_code 11 = .ok (.dup, 1) := by decide +kernel
theorem d5_12 : decode prog_6_method_1_code 12 = .ok (.ldc 9, 2) := by decide +kernel
theorem d5_14 : decode prog_6_method_1_code 14 = .ok (.invokespecial 11, 3) := by decide +kernel
theorem d5_17 : decode prog_6_method_1_code 17 = .ok (.athrow, 1) := by decide +kernel
theorem d5_18 : decode prog_6_method_1_code 18 = .ok (.aload_n 0, 1) := by decide +kernel
theorem d5_19 : decode prog_6_method_1_code 19 = .ok (.aload_n 1, 1) := by decide +kernel
theorem d5_20 : decode prog_6_method_1_code 20 = .ok (.putfield 14, 3) := by decide +kernel
theorem d5_23 : decode prog_6_method_1_code 23 = .ok (.return_, 1) := by decide +kernel
theorem ef_hp_ini (m : MethodId) (k : Addr) (r : Addr) : entryFrame m #[(.ref k), (.ref r)] 2 = mkF m 0 #[.val (.ref k), .val (.ref r)] [] := by first | (simp [entryFrame, mkF, argsToLocals, Value.category]; done) | rfl
set_option maxRecDepth 65536 in
set_option maxHeartbeats 40000000 in
theorem hp_ini (l : Launch) (Z : State) (a0 : Array Value) (hw : ∀ d ∈ tables_1, d.before a0 Z = true) (hEL : EW Z a0 consts_1) (k : Addr) (r : Addr) (h : Heap) (g_k : Z.heap.size ≤ k) (E_k : Exa Z h k "com/example/halyard/halyard/HeaderParser") (F_k_value : Fld Z h k "com/example/halyard/halyard/HeaderParser" "value" "Ljava/lang/String;" .null) (F_k_position : Fld Z h k "com/example/halyard/halyard/HeaderParser" "position" "I" (.int (0 : Int32))) :
    Con l Z consts_1 False (⟨"com/example/halyard/halyard/HeaderParser", "<init>", "(Ljava/lang/String;)V"⟩ : MethodName) prog_6_method_1_code 2 none ({ frames := 1, cells := 0, slots := 0, locals := 12 } : Room) [k] #[(.ref k), (.ref r)] h (fun v h' ws' => v = none ∧ Keep h h' [k] ∧ HpAt Z h' k r 0 ∧ ws' = [k]) := by
  refine Con.intro own_pn29 (fun p e s m below meth c T X => ?_)
  rw [ef_hp_ini m k r]
  have K_ : Keep h h [k] := Keep.refl _ _
  refine s_aloadN X (pc' := 1) d5_0 rfl rfl rfl ?_
  refine s_initO X (pc' := 4) (W := 0) d5_1 (hw _ (List.mem_of_getElem? (i := 32) rfl)) (hw _ (List.mem_of_getElem? (i := 19) rfl)) (b' := object_method_1_code) rfl (hw _ (List.mem_of_getElem? (i := 20) rfl)) (Nat.le_of_ble_eq_true rfl) (by decide) (by decide) rfl rfl (fun T X => ?_)
  refine s_aloadN X (pc' := 5) d5_4 rfl rfl rfl ?_
  refine s_ifnonnullT X (pc' := 18) d5_5 (by decide) (by decide) ?_
  refine s_aloadN X (pc' := 19) d5_18 rfl rfl rfl ?_
  refine s_aloadN X (pc' := 20) d5_19 rfl rfl rfl ?_
  refine s_putf X (pc' := 23) d5_20 (hw _ (List.mem_of_getElem? (i := 33) rfl)) Via.refl F_k_value E_k (Or.inr ⟨(hw _ (List.mem_of_getElem? (i := 34) rfl)), rfl, rfl⟩) (hw _ (List.mem_of_getElem? (i := 6) rfl)) (ty := (.object "java/lang/String")) (by decide) rfl rfl g_k (by simp) rfl (fun T h191 X W192 => ?_)
  replace F_k_value := F_k_value.same W192
  replace F_k_position := F_k_position.other W192 (Or.inr (slot_ne (Or.inl (hw _ (List.mem_of_getElem? (i := 77) rfl))) (Or.inr (hw _ (List.mem_of_getElem? (i := 34) rfl))) (t := .int) (t' := (.object "java/lang/String")) (by decide) (by decide) (by decide)))
  replace E_k := E_k.wr W192
  replace K_ := K_.wr W192 (Or.inl (by simp))
  exact s_ret X hEL (ws' := [k]) d5_23 (by decide) (by decide) (by simp) ⟨rfl, K_, ⟨E_k, F_k_value, F_k_position⟩, rfl⟩
theorem d18_0 : decode prog_6_method_3_code 0 = .ok (.aload_n 0, 1) := by decide +kernel
theorem d18_1 : decode prog_6_method_3_code 1 = .ok (.getfield 51, 3) := by decide +kernel
theorem d18_4 : decode prog_6_method_3_code 4 = .ok (.aload_n 0, 1) := by decide +kernel
theorem d18_5 : decode prog_6_method_3_code 5 = .ok (.getfield 14, 3) := by decide +kernel
theorem d18_8 : decode prog_6_method_3_code 8 = .ok (.invokevirtual 55, 3) := by decide +kernel
theorem d18_11 : decode prog_6_method_3_code 11 = .ok (.if_icmp .ne 7, 3) := by decide +kernel
theorem d18_14 : decode prog_6_method_3_code 14 = .ok (.iconst 1, 1) := by decide +kernel
theorem d18_15 : decode prog_6_method_3_code 15 = .ok (.goto 4, 3) := by decide +kernel
theorem d18_18 : decode prog_6_method_3_code 18 = .ok (.iconst 0, 1) := by decide +kernel
theorem d18_19 : decode prog_6_method_3_code 19 = .ok (.ireturn, 1) := by decide +kernel
theorem ef_hp_atEnd (m : MethodId) (k : Addr) : entryFrame m #[(.ref k)] 1 = mkF m 0 #[.val (.ref k)] [] := by first | (simp [entryFrame, mkF, argsToLocals, Value.category]; done) | rfl
set_option maxRecDepth 65536 in
set_option maxHeartbeats 40000000 in
theorem hp_atEnd (l : Launch) (Z : State) (a0 : Array Value) (hw : ∀ d ∈ tables_1, d.before a0 Z = true) (hEL : EW Z a0 consts_1) (k : Addr) {r : Addr} {i : Nat} {cs : List Int32} {G1 : Int32} (h : Heap) (F_k : HpAt Z h k r i) (S_r : Str Z h r cs) (hi : i ≤ cs.length) (O2 : Sta Z Z.heap "java/lang/String" "COMPACT_STRINGS" "Z" (.int G1)) (P5 : ¬ (G1 = (0 : Int32))) :
    Con l Z consts_1 False (⟨"com/example/halyard/halyard/HeaderParser", "atEnd", "()Z"⟩ : MethodName) prog_6_method_3_code 1 (some .boolean) ({ frames := 2, cells := 0, slots := 0, locals := 26 } : Room) [] #[(.ref k)] h (fun v h' ws' => v = some (.int (if i = cs.length then 1 else 0)) ∧ h' = h ∧ ws' = []) := by
  refine Con.intro own_pn30 (fun p e s m below meth c T X => ?_)
  rw [ef_hp_atEnd m k]
  obtain ⟨E_k, F_k_value, F_k_position⟩ := F_k
  have E_r := S_r.exa
  have hn : cs.length ≤ 4000 := by obtain ⟨_, _, _, _, _, _, _, _, _, _, _, q⟩ := S_r; exact q
  refine s_aloadN X (pc' := 1) d18_0 rfl rfl rfl ?_
  refine s_getf X (pc' := 4) d18_1 (hw _ (List.mem_of_getElem? (i := 76) rfl)) Via.refl F_k_position rfl (fun T X => ?_)
  refine s_aloadN X (pc' := 5) d18_4 rfl rfl rfl ?_
  refine s_getf X (pc' := 8) d18_5 (hw _ (List.mem_of_getElem? (i := 33) rfl)) Via.refl F_k_value rfl (fun T X => ?_)
  refine s_virtual X (pc' := 11) (W := 1) (as' := []) (S := [(.int (Int32.ofNat i))]) (k' := 0) (n' := 0) d18_8 (hw _ (List.mem_of_getElem? (i := 75) rfl)) (hw _ (List.mem_of_getElem? (i := 52) rfl)) (hw _ (List.mem_of_getElem? (i := 54) rfl)) (hw _ (List.mem_of_getElem? (i := 53) rfl)) (nface (hw _ (List.mem_of_getElem? (i := 54) rfl))) (by decide) own_pd5 rfl E_r (lenPay hw hEL O2 P5 X.old S_r (by decide) (by decide)) (Nat.le_of_ble_eq_true rfl) rfl rfl (by decide) (by decide) (by decide) (by decide) rfl (fun T h193 v_ ws_ X hgr_ q194 => ?_)
  obtain ⟨rfl, e_, rfl⟩ := q194
  rw [e_] at X
  show Go p e below _ T (mkF m 11 #[.val (.ref k)] [(.int (Int32.ofNat cs.length)), (.int (Int32.ofNat i))])
  replace X := X.sub (ws' := []) (by simp)
  refine s_icmp X (pc' := 18) (pcF := 14) d18_11 (by decide) (by decide) rfl (fun (q : ¬ (Int32.ofNat i) = (Int32.ofNat cs.length)) => ?_) (fun (q : (Int32.ofNat i) = (Int32.ofNat cs.length)) => ?_)
  · refine s_iconst X (pc' := 19) d18_18 (v := (0 : Int32)) rfl rfl ?_
    exact s_iretN X hEL (ws' := []) (t := .boolean) d18_19 rfl (by simp) (by decide) (by decide) (fun x q => by simp at q) ⟨by rw [if_neg (fun z => q (by rw [z]))]; rfl, rfl, rfl⟩
  · refine s_iconst X (pc' := 15) d18_14 (v := (1 : Int32)) rfl rfl ?_
    refine s_goto X (pc' := 19) d18_15 (by decide) (by decide) ?_
    exact s_iretN X hEL (ws' := []) (t := .boolean) d18_19 rfl (by simp) (by decide) (by decide) (fun x q => by simp at q) ⟨by rw [if_pos ((on_eq (by omega) (by omega)).mp q)]; rfl, rfl, rfl⟩
theorem d15_0 : decode prog_6_method_4_code 0 = .ok (.aload_n 0, 1) := by decide +kernel
theorem d15_1 : decode prog_6_method_4_code 1 = .ok (.getfield 51, 3) := by decide +kernel
theorem d15_4 : decode prog_6_method_4_code 4 = .ok (.ireturn, 1) := by decide +kernel
theorem ef_hp_pos (m : MethodId) (k : Addr) : entryFrame m #[(.ref k)] 1 = mkF m 0 #[.val (.ref k)] [] := by first | (simp [entryFrame, mkF, argsToLocals, Value.category]; done) | rfl
set_option maxRecDepth 65536 in
set_option maxHeartbeats 40000000 in
theorem hp_pos (l : Launch) (Z : State) (a0 : Array Value) (hw : ∀ d ∈ tables_1, d.before a0 Z = true) (hEL : EW Z a0 consts_1) (k : Addr) {r : Addr} {i : Nat} (h : Heap) (F_k : HpAt Z h k r i) :
    Con l Z consts_1 False (⟨"com/example/halyard/halyard/HeaderParser", "position", "()I"⟩ : MethodName) prog_6_method_4_code 1 (some .int) ({ frames := 0, cells := 0, slots := 0, locals := 0 } : Room) [] #[(.ref k)] h (fun v h' ws' => v = some (.int (Int32.ofNat i)) ∧ h' = h ∧ ws' = []) := by
  refine Con.intro own_pn31 (fun p e s m below meth c T X => ?_)
  rw [ef_hp_pos m k]
  obtain ⟨E_k, F_k_value, F_k_position⟩ := F_k
  refine s_aloadN X (pc' := 1) d15_0 rfl rfl rfl ?_
  refine s_getf X (pc' := 4) d15_1 (hw _ (List.mem_of_getElem? (i := 76) rfl)) Via.refl F_k_position rfl (fun T X => ?_)
  exact s_iret X hEL (ws' := []) d15_4 (by decide) (by decide) (fun x q => by simp at q) ⟨rfl, rfl, rfl⟩
theorem d6_0 : decode prog_6_method_5_code 0 = .ok (.aload_n 0, 1) := by decide +kernel
theorem d6_1 : decode prog_6_method_5_code 1 = .ok (.getfield 14, 3) := by decide +kernel
theorem d6_4 : decode prog_6_method_5_code 4 = .ok (.iload_n 2, 1) := by decide +kernel
theorem d6_5 : decode prog_6_method_5_code 5 = .ok (.iload_n 1, 1) := by decide +kernel
theorem d6_6 : decode prog_6_method_5_code 6 = .ok (.invokevirtual 61, 3) := by decide +kernel
theorem d6_9 : decode prog_6_method_5_code 9 = .ok (.istore_n 3, 1) := by decide +kernel
theorem d6_10 : decode prog_6_method_5_code 10 = .ok (.aload_n 0, 1) := by decide +kernel
theorem d6_11 : decode prog_6_method_5_code 11 = .ok (.iload_n 3, 1) := by decide +kernel
theorem d6_12 : decode prog_6_method_5_code 12 = .ok (.ifCond .ge 13, 3) := by decide +kernel
theorem d6_15 : decode prog_6_method_5_code 15 = .ok (.aload_n 0, 1) := by decide +kernel
theorem d6_16 : decode prog_6_method_5_code 16 = .ok (.getfield 14, 3) := by decide +kernel
theorem d6_19 : decode prog_6_method_5_code 19 = .ok (.invokevirtual 55, 3) := by decide +kernel
theorem d6_22 : decode prog_6_method_5_code 22 = .ok (.goto 4, 3) := by decide +kernel
theorem d6_25 : decode prog_6_method_5_code 25 = .ok (.iload_n 3, 1) := by decide +kernel
theorem d6_26 : decode prog_6_method_5_code 26 = .ok (.putfield 51, 3) := by decide +kernel
theorem d6_29 : decode prog_6_method_5_code 29 = .ok (.return_, 1) := by decide +kernel
theorem ef_hp_sf (m : MethodId) (k : Addr) (i0 : Nat) (x : Int32) : entryFrame m #[(.ref k), (.int (Int32.ofNat i0)), (.int x)] 4 = mkF m 0 #[.val (.ref k), .val (.int (Int32.ofNat i0)), .val (.int x), .unset] [] := by first | (simp [entryFrame, mkF, argsToLocals, Value.category]; done) | rfl
set_option maxRecDepth 65536 in
set_option maxHeartbeats 40000000 in
theorem hp_sf (l : Launch) (Z : State) (a0 : Array Value) (hw : ∀ d ∈ tables_1, d.before a0 Z = true) (hEL : EW Z a0 consts_1) (k : Addr) (i0 : Nat) (x : Int32) {r : Addr} {i : Nat} {cs : List Int32} {G1 : Int32} {G3 : Value} (h : Heap) (g_k : Z.heap.size ≤ k) (hi0 : i0 ≤ cs.length) (hx : ¬ x < 0 ∧ ¬ (65535 : Int32) < x) (F_k : HpAt Z h k r i) (S_r : Str Z h r cs) (hi : i ≤ cs.length) (U : U16 Z) (O2 : Sta Z Z.heap "java/lang/String" "COMPACT_STRINGS" "Z" (.int G1)) (P5 : ¬ (G1 = (0 : Int32))) (O4 : Sta Z Z.heap "jdk/internal/util/Preconditions" "SIOOBE_FORMATTER" "Ljava/util/function/BiFunction;" G3) (rG3 : G3.isRef = true) :
    Con l Z consts_1 False (⟨"com/example/halyard/halyard/HeaderParser", "skipFrom", "(IC)V"⟩ : MethodName) prog_6_method_5_code 4 none ({ frames := 6, cells := 0, slots := 0, locals := 87 } : Room) [k] #[(.ref k), (.int (Int32.ofNat i0)), (.int x)] h (fun v h' ws' => v = none ∧ Keep h h' [k] ∧ (∃ j, j ≤ cs.length ∧ Int32.ofNat j = sfV cs x i0 ∧ HpAt Z h' k r j) ∧ ws' = [k]) := by
  refine Con.intro own_pn32 (fun p e s m below meth c T X => ?_)
  rw [ef_hp_sf m k i0 x]
  obtain ⟨E_k, F_k_value, F_k_position⟩ := F_k
  have E_r := S_r.exa
  have hn : cs.length ≤ 4000 := by obtain ⟨_, _, _, _, _, _, _, _, _, _, _, q⟩ := S_r; exact q
  have K_ : Keep h h [k] := Keep.refl _ _
  refine s_aloadN X (pc' := 1) d6_0 rfl rfl rfl ?_
  refine s_getf X (pc' := 4) d6_1 (hw _ (List.mem_of_getElem? (i := 33) rfl)) Via.refl F_k_value rfl (fun T X => ?_)
  refine s_iloadN X (pc' := 5) d6_4 rfl rfl ?_
  refine s_iloadN X (pc' := 6) d6_5 rfl rfl ?_
  refine s_virtual X (pc' := 9) (W := 0) (as' := [(.int x), (.int (Int32.ofNat i0))]) (S := []) (k' := 0) (n' := 0) d6_6 (hw _ (List.mem_of_getElem? (i := 40) rfl)) (hw _ (List.mem_of_getElem? (i := 41) rfl)) (hw _ (List.mem_of_getElem? (i := 43) rfl)) (hw _ (List.mem_of_getElem? (i := 42) rfl)) (nface (hw _ (List.mem_of_getElem? (i := 43) rfl))) (by decide) own_pd2 rfl E_r (ixPayA hw hEL O2 P5 O4 rG3 U X.old S_r x i0 hi0 hx (by decide) (by decide)) (Nat.le_of_ble_eq_true rfl) rfl rfl (by decide) (by decide) (by decide) (by decide) rfl (fun T h195 v_ ws_ X hgr_ q196 => ?_)
  obtain ⟨rfl, e_, rfl⟩ := q196
  rw [e_] at X
  show Go p e below _ T (mkF m 9 #[.val (.ref k), .val (.int (Int32.ofNat i0)), .val (.int x), .unset] [(.int (ixF (cs.drop i0) x i0))])
  replace X := X.sub (ws' := [k]) (by simp)
  obtain ⟨z, gz⟩ : ∃ z, z = ixF (cs.drop i0) x i0 := ⟨_, rfl⟩
  rw [← gz]
  have hz : (z = (-1 : Int32) ∧ sfV cs x i0 = Int32.ofNat cs.length) ∨ ∃ j, j < cs.length ∧ z = Int32.ofNat j ∧ sfV cs x i0 = Int32.ofNat j := by
    rcases ixF_cases (cs.drop i0) x i0 with ⟨h1, -⟩ | ⟨j, h1, h2, -⟩
    · exact Or.inl ⟨by rw [gz, h1], by rw [sfV, h1, if_pos neg1]⟩
    · rw [List.length_drop] at h1
      exact Or.inr ⟨i0 + j, by omega, by rw [gz, h2], by rw [sfV, h2, if_neg (on_nn (by omega))]⟩
  refine s_istoreN X (pc' := 10) (L' := #[.val (.ref k), .val (.int (Int32.ofNat i0)), .val (.int x), .val (.int z)]) d6_9 rfl rfl ?_
  refine s_aloadN X (pc' := 11) d6_10 rfl rfl rfl ?_
  refine s_iloadN X (pc' := 12) d6_11 rfl rfl ?_
  rcases hz with ⟨rfl, hs⟩ | ⟨j, hj, rfl, hs⟩
  · refine s_ifF X (pc' := 15) d6_12 (show (-1 : Int32) < (0 : Int32) by decide) rfl ?_
    refine s_aloadN X (pc' := 16) d6_15 rfl rfl rfl ?_
    refine s_getf X (pc' := 19) d6_16 (hw _ (List.mem_of_getElem? (i := 33) rfl)) Via.refl F_k_value rfl (fun T X => ?_)
    refine s_virtual X (pc' := 22) (W := 1) (as' := []) (S := [(.ref k)]) (k' := 0) (n' := 0) d6_19 (hw _ (List.mem_of_getElem? (i := 75) rfl)) (hw _ (List.mem_of_getElem? (i := 52) rfl)) (hw _ (List.mem_of_getElem? (i := 54) rfl)) (hw _ (List.mem_of_getElem? (i := 53) rfl)) (nface (hw _ (List.mem_of_getElem? (i := 54) rfl))) (by decide) own_pd5 rfl E_r (lenPay hw hEL O2 P5 X.old S_r (by decide) (by decide)) (Nat.le_of_ble_eq_true rfl) rfl rfl (by decide) (by decide) (by decide) (by decide) rfl (fun T h197 v_ ws_ X hgr_ q198 => ?_)
    obtain ⟨rfl, e_, rfl⟩ := q198
    rw [e_] at X
    show Go p e below _ T (mkF m 22 #[.val (.ref k), .val (.int (Int32.ofNat i0)), .val (.int x), .val (.int (-1 : Int32))] [(.int (Int32.ofNat cs.length)), (.ref k)])
    replace X := X.sub (ws' := [k]) (by simp)
    refine s_goto X (pc' := 26) d6_22 (by decide) (by decide) ?_
    refine s_putf X (pc' := 29) d6_26 (hw _ (List.mem_of_getElem? (i := 76) rfl)) Via.refl F_k_position E_k (Or.inl (hw _ (List.mem_of_getElem? (i := 77) rfl))) (hw _ (List.mem_of_getElem? (i := 6) rfl)) (ty := .int) (by decide) rfl rfl g_k (by simp) rfl (fun T h199 X W200 => ?_)
    replace F_k_value := F_k_value.other W200 (Or.inr (slot_ne (Or.inr (hw _ (List.mem_of_getElem? (i := 34) rfl))) (Or.inl (hw _ (List.mem_of_getElem? (i := 77) rfl))) (t := (.object "java/lang/String")) (t' := .int) (by decide) (by decide) (by decide)))
    replace F_k_position := F_k_position.same W200
    replace E_k := E_k.wr W200
    replace K_ := K_.wr W200 (Or.inl (by simp))
    exact s_ret X hEL (ws' := [k]) d6_29 (by decide) (by decide) (by simp) ⟨rfl, K_, ⟨cs.length, Nat.le_refl _, hs.symm, E_k, F_k_value, F_k_position⟩, rfl⟩
  · refine s_ifT X (pc' := 25) d6_12 (show ¬ Int32.ofNat j < 0 from on_nn (by omega)) (by decide) (by decide) ?_
    refine s_iloadN X (pc' := 26) d6_25 rfl rfl ?_
    refine s_putf X (pc' := 29) d6_26 (hw _ (List.mem_of_getElem? (i := 76) rfl)) Via.refl F_k_position E_k (Or.inl (hw _ (List.mem_of_getElem? (i := 77) rfl))) (hw _ (List.mem_of_getElem? (i := 6) rfl)) (ty := .int) (by decide) rfl rfl g_k (by simp) rfl (fun T h201 X W202 => ?_)
    replace F_k_value := F_k_value.other W202 (Or.inr (slot_ne (Or.inr (hw _ (List.mem_of_getElem? (i := 34) rfl))) (Or.inl (hw _ (List.mem_of_getElem? (i := 77) rfl))) (t := (.object "java/lang/String")) (t' := .int) (by decide) (by decide) (by decide)))
    replace F_k_position := F_k_position.same W202
    replace E_k := E_k.wr W202
    replace K_ := K_.wr W202 (Or.inl (by simp))
    exact s_ret X hEL (ws' := [k]) d6_29 (by decide) (by decide) (by simp) ⟨rfl, K_, ⟨j, Nat.le_of_lt hj, hs.symm, E_k, F_k_value, F_k_position⟩, rfl⟩
theorem d16_0 : decode prog_6_method_7_code 0 = .ok (.aload_n 0, 1) := by decide +kernel
theorem d16_1 : decode prog_6_method_7_code 1 = .ok (.getfield 51, 3) := by decide +kernel
theorem d16_4 : decode prog_6_method_7_code 4 = .ok (.aload_n 0, 1) := by decide +kernel
theorem d16_5 : decode prog_6_method_7_code 5 = .ok (.getfield 14, 3) := by decide +kernel
theorem d16_8 : decode prog_6_method_7_code 8 = .ok (.invokevirtual 55, 3) := by decide +kernel
theorem d16_11 : decode prog_6_method_7_code 11 = .ok (.if_icmp .ge 48, 3) := by decide +kernel
theorem d16_14 : decode prog_6_method_7_code 14 = .ok (.aload_n 0, 1) := by decide +kernel
theorem d16_15 : decode prog_6_method_7_code 15 = .ok (.getfield 14, 3) := by decide +kernel
theorem d16_18 : decode prog_6_method_7_code 18 = .ok (.aload_n 0, 1) := by decide +kernel
theorem d16_19 : decode prog_6_method_7_code 19 = .ok (.getfield 51, 3) := by decide +kernel
theorem d16_22 : decode prog_6_method_7_code 22 = .ok (.invokevirtual 65, 3) := by decide +kernel
theorem d16_25 : decode prog_6_method_7_code 25 = .ok (.bipush 32, 2) := by decide +kernel
theorem d16_27 : decode prog_6_method_7_code 27 = .ok (.if_icmp .eq 19, 3) := by decide +kernel
theorem d16_30 : decode prog_6_method_7_code 30 = .ok (.aload_n 0, 1) := by decide +kernel
theorem d16_31 : decode prog_6_method_7_code 31 = .ok (.getfield 14, 3) := by decide +kernel
theorem d16_34 : decode prog_6_method_7_code 34 = .ok (.aload_n 0, 1) := by decide +kernel
theorem d16_35 : decode prog_6_method_7_code 35 = .ok (.getfield 51, 3) := by decide +kernel
theorem d16_38 : decode prog_6_method_7_code 38 = .ok (.invokevirtual 65, 3) := by decide +kernel
theorem d16_41 : decode prog_6_method_7_code 41 = .ok (.bipush 9, 2) := by decide +kernel
theorem d16_43 : decode prog_6_method_7_code 43 = .ok (.if_icmp .ne 16, 3) := by decide +kernel
theorem d16_46 : decode prog_6_method_7_code 46 = .ok (.aload_n 0, 1) := by decide +kernel
theorem d16_47 : decode prog_6_method_7_code 47 = .ok (.dup, 1) := by decide +kernel
theorem d16_48 : decode prog_6_method_7_code 48 = .ok (.getfield 51, 3) := by decide +kernel
theorem d16_51 : decode prog_6_method_7_code 51 = .ok (.iconst 1, 1) := by decide +kernel
theorem d16_52 : decode prog_6_method_7_code 52 = .ok (.iadd, 1) := by decide +kernel
theorem d16_53 : decode prog_6_method_7_code 53 = .ok (.putfield 51, 3) := by decide +kernel
theorem d16_56 : decode prog_6_method_7_code 56 = .ok (.goto (-56), 3) := by decide +kernel
theorem d16_59 : decode prog_6_method_7_code 59 = .ok (.return_, 1) := by decide +kernel
theorem ef_hp_skw (m : MethodId) (k : Addr) : entryFrame m #[(.ref k)] 1 = mkF m 0 #[.val (.ref k)] [] := by first | (simp [entryFrame, mkF, argsToLocals, Value.category]; done) | rfl
set_option maxRecDepth 65536 in
set_option maxHeartbeats 40000000 in
theorem hp_skw (l : Launch) (Z : State) (a0 : Array Value) (hw : ∀ d ∈ tables_1, d.before a0 Z = true) (hEL : EW Z a0 consts_1) (k : Addr) {r : Addr} {i : Nat} {cs : List Int32} {G1 : Int32} {G3 : Value} (h : Heap) (g_k : Z.heap.size ≤ k) (F_k : HpAt Z h k r i) (S_r : Str Z h r cs) (hi : i ≤ cs.length) (U : U16 Z) (O2 : Sta Z Z.heap "java/lang/String" "COMPACT_STRINGS" "Z" (.int G1)) (P5 : ¬ (G1 = (0 : Int32))) (O4 : Sta Z Z.heap "jdk/internal/util/Preconditions" "SIOOBE_FORMATTER" "Ljava/util/function/BiFunction;" G3) (rG3 : G3.isRef = true) :
    Con l Z consts_1 False (⟨"com/example/halyard/halyard/HeaderParser", "skipWhitespace", "()V"⟩ : MethodName) prog_6_method_7_code 1 none ({ frames := 5, cells := 0, slots := 0, locals := 66 } : Room) [k] #[(.ref k)] h (fun v h' ws' => v = none ∧ Keep h h' [k] ∧ HpAt Z h' k r (i + wsL (cs.drop i)) ∧ ws' = [k]) := by
  refine Con.intro own_pn33 (fun p e s m below meth c T X => ?_)
  rw [ef_hp_skw m k]
  obtain ⟨n0, gn⟩ : ∃ z, z = i + wsL (cs.drop i) := ⟨_, rfl⟩
  rw [← gn]
  have loop : ∀ (d i : Nat) (T : State) (h1 : Heap), i + d = cs.length → n0 = i + wsL (cs.drop i) → Cx p l e ({ frames := 5, cells := 0, slots := 0, locals := 66 } : Room) s m #[(.ref k)] below meth c Z consts_1 False (⟨"com/example/halyard/halyard/HeaderParser", "skipWhitespace", "()V"⟩ : MethodName) prog_6_method_7_code 1 none [k] T h1 0 0 → Keep h h1 [k] → HpAt Z h1 k r i → Str Z h1 r cs → Go p e below (Post Z consts_1 s ({ frames := 5, cells := 0, slots := 0, locals := 66 } : Room) (fun v h' ws' => v = none ∧ Keep h h' [k] ∧ HpAt Z h' k r n0 ∧ ws' = [k])) T (mkF m 0 #[.val (.ref k)] []) := by
    intro d
    induction d with
    | zero =>
      intro i T h1 hid hr X K_ F_k S_r
      obtain ⟨E_k, F_k_value, F_k_position⟩ := F_k
      have E_r := S_r.exa
      have hn : cs.length ≤ 4000 := by obtain ⟨_, _, _, _, _, _, _, _, _, _, _, q⟩ := S_r; exact q
      refine s_aloadN X (pc' := 1) d16_0 rfl rfl rfl ?_
      refine s_getf X (pc' := 4) d16_1 (hw _ (List.mem_of_getElem? (i := 76) rfl)) Via.refl F_k_position rfl (fun T X => ?_)
      refine s_aloadN X (pc' := 5) d16_4 rfl rfl rfl ?_
      refine s_getf X (pc' := 8) d16_5 (hw _ (List.mem_of_getElem? (i := 33) rfl)) Via.refl F_k_value rfl (fun T X => ?_)
      refine s_virtual X (pc' := 11) (W := 1) (as' := []) (S := [(.int (Int32.ofNat i))]) (k' := 0) (n' := 0) d16_8 (hw _ (List.mem_of_getElem? (i := 75) rfl)) (hw _ (List.mem_of_getElem? (i := 52) rfl)) (hw _ (List.mem_of_getElem? (i := 54) rfl)) (hw _ (List.mem_of_getElem? (i := 53) rfl)) (nface (hw _ (List.mem_of_getElem? (i := 54) rfl))) (by decide) own_pd5 rfl E_r (lenPay hw hEL O2 P5 X.old S_r (by decide) (by decide)) (Nat.le_of_ble_eq_true rfl) rfl rfl (by decide) (by decide) (by decide) (by decide) rfl (fun T h203 v_ ws_ X hgr_ q204 => ?_)
      obtain ⟨rfl, e_, rfl⟩ := q204
      rw [e_] at X
      show Go p e below _ T (mkF m 11 #[.val (.ref k)] [(.int (Int32.ofNat cs.length)), (.int (Int32.ofNat i))])
      replace X := X.sub (ws' := [k]) (by simp)
      refine s_icmpT X (pc' := 59) d16_11 (show ¬ Int32.ofNat i < Int32.ofNat cs.length from fun q => by rw [on_lt (by omega) (by omega)] at q; omega) (by decide) (by decide) ?_
      exact s_ret X hEL (ws' := [k]) d16_59 (by decide) (by decide) (by simp) ⟨rfl, K_, (by rw [hr, List.drop_eq_nil_of_le (by omega)]; exact ⟨E_k, F_k_value, F_k_position⟩), rfl⟩
    | succ d ih =>
      intro i T h1 hid hr X K_ F_k S_r
      obtain ⟨E_k, F_k_value, F_k_position⟩ := F_k
      have E_r := S_r.exa
      have hn : cs.length ≤ 4000 := by obtain ⟨_, _, _, _, _, _, _, _, _, _, _, q⟩ := S_r; exact q
      have hi' : i < cs.length := by omega
      refine s_aloadN X (pc' := 1) d16_0 rfl rfl rfl ?_
      refine s_getf X (pc' := 4) d16_1 (hw _ (List.mem_of_getElem? (i := 76) rfl)) Via.refl F_k_position rfl (fun T X => ?_)
      refine s_aloadN X (pc' := 5) d16_4 rfl rfl rfl ?_
      refine s_getf X (pc' := 8) d16_5 (hw _ (List.mem_of_getElem? (i := 33) rfl)) Via.refl F_k_value rfl (fun T X => ?_)
      refine s_virtual X (pc' := 11) (W := 1) (as' := []) (S := [(.int (Int32.ofNat i))]) (k' := 0) (n' := 0) d16_8 (hw _ (List.mem_of_getElem? (i := 75) rfl)) (hw _ (List.mem_of_getElem? (i := 52) rfl)) (hw _ (List.mem_of_getElem? (i := 54) rfl)) (hw _ (List.mem_of_getElem? (i := 53) rfl)) (nface (hw _ (List.mem_of_getElem? (i := 54) rfl))) (by decide) own_pd5 rfl E_r (lenPay hw hEL O2 P5 X.old S_r (by decide) (by decide)) (Nat.le_of_ble_eq_true rfl) rfl rfl (by decide) (by decide) (by decide) (by decide) rfl (fun T h205 v_ ws_ X hgr_ q206 => ?_)
      obtain ⟨rfl, e_, rfl⟩ := q206
      rw [e_] at X
      show Go p e below _ T (mkF m 11 #[.val (.ref k)] [(.int (Int32.ofNat cs.length)), (.int (Int32.ofNat i))])
      replace X := X.sub (ws' := [k]) (by simp)
      refine s_icmpF X (pc' := 14) d16_11 (show Int32.ofNat i < Int32.ofNat cs.length from (on_lt (by omega) (by omega)).mpr hi') rfl ?_
      refine s_aloadN X (pc' := 15) d16_14 rfl rfl rfl ?_
      refine s_getf X (pc' := 18) d16_15 (hw _ (List.mem_of_getElem? (i := 33) rfl)) Via.refl F_k_value rfl (fun T X => ?_)
      refine s_aloadN X (pc' := 19) d16_18 rfl rfl rfl ?_
      refine s_getf X (pc' := 22) d16_19 (hw _ (List.mem_of_getElem? (i := 76) rfl)) Via.refl F_k_position rfl (fun T X => ?_)
      refine s_virtual X (pc' := 25) (W := 0) (as' := [(.int (Int32.ofNat i))]) (S := []) (k' := 0) (n' := 0) d16_22 (hw _ (List.mem_of_getElem? (i := 109) rfl)) (hw _ (List.mem_of_getElem? (i := 110) rfl)) (hw _ (List.mem_of_getElem? (i := 112) rfl)) (hw _ (List.mem_of_getElem? (i := 111) rfl)) (nface (hw _ (List.mem_of_getElem? (i := 112) rfl))) (by decide) own_pd20 rfl E_r (chPayA hw hEL O2 P5 O4 rG3 U X.old S_r (i := i) hi' (by decide) (by decide)) (Nat.le_of_ble_eq_true rfl) rfl rfl (by decide) (by decide) (by decide) (by decide) rfl (fun T h207 v_ ws_ X hgr_ q208 => ?_)
      obtain ⟨rfl, e_, rfl⟩ := q208
      rw [e_] at X
      show Go p e below _ T (mkF m 25 #[.val (.ref k)] [(.int (cs.getD i 0))])
      replace X := X.sub (ws' := [k]) (by simp)
      refine s_bipush X (pc' := 27) d16_25 (v := (32 : Int32)) (by decide) rfl ?_
      refine s_icmp X (pc' := 46) (pcF := 30) d16_27 (by decide) (by decide) rfl (fun (q1 : (cs.getD i 0) = (32 : Int32)) => ?_) (fun (q1 : ¬ (cs.getD i 0) = (32 : Int32)) => ?_)
      · refine s_aloadN X (pc' := 47) d16_46 rfl rfl rfl ?_
        refine s_dup X (pc' := 48) d16_47 rfl rfl ?_
        refine s_getf X (pc' := 51) d16_48 (hw _ (List.mem_of_getElem? (i := 76) rfl)) Via.refl F_k_position rfl (fun T X => ?_)
        refine s_iconst X (pc' := 52) d16_51 (v := (1 : Int32)) rfl rfl ?_
        refine s_iadd X (pc' := 53) d16_52 rfl ?_
        refine go_int (z := (Int32.ofNat (i + 1))) (on_succ i) ?_
        refine s_putf X (pc' := 56) d16_53 (hw _ (List.mem_of_getElem? (i := 76) rfl)) Via.refl F_k_position E_k (Or.inl (hw _ (List.mem_of_getElem? (i := 77) rfl))) (hw _ (List.mem_of_getElem? (i := 6) rfl)) (ty := .int) (by decide) rfl rfl g_k (by simp) rfl (fun T h209 X W210 => ?_)
        replace F_k_value := F_k_value.other W210 (Or.inr (slot_ne (Or.inr (hw _ (List.mem_of_getElem? (i := 34) rfl))) (Or.inl (hw _ (List.mem_of_getElem? (i := 77) rfl))) (t := (.object "java/lang/String")) (t' := .int) (by decide) (by decide) (by decide)))
        replace F_k_position := F_k_position.same W210
        replace S_r := S_r.wr W210 E_k (by decide) (hw _ (List.mem_of_getElem? (i := 6) rfl))
        replace E_k := E_k.wr W210
        replace K_ := K_.wr W210 (Or.inl (by simp))
        refine s_goto X (pc' := 0) d16_56 (by decide) (by decide) ?_
        exact ih (i + 1) T h209 (by omega) (by rw [hr, drop_at hi', wsL, if_pos (Or.inl q1)]; omega) X K_ ⟨E_k, F_k_value, F_k_position⟩ S_r
      · refine s_aloadN X (pc' := 31) d16_30 rfl rfl rfl ?_
        refine s_getf X (pc' := 34) d16_31 (hw _ (List.mem_of_getElem? (i := 33) rfl)) Via.refl F_k_value rfl (fun T X => ?_)
        refine s_aloadN X (pc' := 35) d16_34 rfl rfl rfl ?_
        refine s_getf X (pc' := 38) d16_35 (hw _ (List.mem_of_getElem? (i := 76) rfl)) Via.refl F_k_position rfl (fun T X => ?_)
        refine s_virtual X (pc' := 41) (W := 0) (as' := [(.int (Int32.ofNat i))]) (S := []) (k' := 0) (n' := 0) d16_38 (hw _ (List.mem_of_getElem? (i := 109) rfl)) (hw _ (List.mem_of_getElem? (i := 110) rfl)) (hw _ (List.mem_of_getElem? (i := 112) rfl)) (hw _ (List.mem_of_getElem? (i := 111) rfl)) (nface (hw _ (List.mem_of_getElem? (i := 112) rfl))) (by decide) own_pd20 rfl E_r (chPayA hw hEL O2 P5 O4 rG3 U X.old S_r (i := i) hi' (by decide) (by decide)) (Nat.le_of_ble_eq_true rfl) rfl rfl (by decide) (by decide) (by decide) (by decide) rfl (fun T h211 v_ ws_ X hgr_ q212 => ?_)
        obtain ⟨rfl, e_, rfl⟩ := q212
        rw [e_] at X
        show Go p e below _ T (mkF m 41 #[.val (.ref k)] [(.int (cs.getD i 0))])
        replace X := X.sub (ws' := [k]) (by simp)
        refine s_bipush X (pc' := 43) d16_41 (v := (9 : Int32)) (by decide) rfl ?_
        refine s_icmp X (pc' := 59) (pcF := 46) d16_43 (by decide) (by decide) rfl (fun (q2 : ¬ (cs.getD i 0) = (9 : Int32)) => ?_) (fun (q2 : (cs.getD i 0) = (9 : Int32)) => ?_)
        · exact s_ret X hEL (ws' := [k]) d16_59 (by decide) (by decide) (by simp) ⟨rfl, K_, (by rw [hr, drop_at hi', wsL, if_neg (fun z => z.elim q1 q2)]; exact ⟨E_k, F_k_value, F_k_position⟩), rfl⟩
        · refine s_aloadN X (pc' := 47) d16_46 rfl rfl rfl ?_
          refine s_dup X (pc' := 48) d16_47 rfl rfl ?_
          refine s_getf X (pc' := 51) d16_48 (hw _ (List.mem_of_getElem? (i := 76) rfl)) Via.refl F_k_position rfl (fun T X => ?_)
          refine s_iconst X (pc' := 52) d16_51 (v := (1 : Int32)) rfl rfl ?_
          refine s_iadd X (pc' := 53) d16_52 rfl ?_
          refine go_int (z := (Int32.ofNat (i + 1))) (on_succ i) ?_
          refine s_putf X (pc' := 56) d16_53 (hw _ (List.mem_of_getElem? (i := 76) rfl)) Via.refl F_k_position E_k (Or.inl (hw _ (List.mem_of_getElem? (i := 77) rfl))) (hw _ (List.mem_of_getElem? (i := 6) rfl)) (ty := .int) (by decide) rfl rfl g_k (by simp) rfl (fun T h213 X W214 => ?_)
          replace F_k_value := F_k_value.other W214 (Or.inr (slot_ne (Or.inr (hw _ (List.mem_of_getElem? (i := 34) rfl))) (Or.inl (hw _ (List.mem_of_getElem? (i := 77) rfl))) (t := (.object "java/lang/String")) (t' := .int) (by decide) (by decide) (by decide)))
          replace F_k_position := F_k_position.same W214
          replace S_r := S_r.wr W214 E_k (by decide) (hw _ (List.mem_of_getElem? (i := 6) rfl))
          replace E_k := E_k.wr W214
          replace K_ := K_.wr W214 (Or.inl (by simp))
          refine s_goto X (pc' := 0) d16_56 (by decide) (by decide) ?_
          exact ih (i + 1) T h213 (by omega) (by rw [hr, drop_at hi', wsL, if_pos (Or.inr q2)]; omega) X K_ ⟨E_k, F_k_value, F_k_position⟩ S_r
  exact loop (cs.length - i) i T h (by omega) gn X (Keep.refl _ _) F_k S_r
theorem d1_0 : decode method_2_code 0 = .ok (.iload_n 0, 1) := by decide +kernel
theorem d1_1 : decode method_2_code 1 = .ok (.iconst 3, 1) := by decide +kernel
theorem d1_2 : decode method_2_code 2 = .ok (.iand, 1) := by decide +kernel
theorem d1_3 : decode method_2_code 3 = .ok (.istore_n 1, 1) := by decide +kernel
theorem d1_4 : decode method_2_code 4 = .ok (.iload_n 1, 1) := by decide +kernel
theorem d1_5 : decode method_2_code 5 = .ok (.ifCond .ne 6, 3) := by decide +kernel
theorem d1_8 : decode method_2_code 8 = .ok (.bipush 32, 2) := by decide +kernel
theorem d1_10 : decode method_2_code 10 = .ok (.ireturn, 1) := by decide +kernel
theorem d1_11 : decode method_2_code 11 = .ok (.iload_n 1, 1) := by decide +kernel
theorem d1_12 : decode method_2_code 12 = .ok (.iconst 1, 1) := by decide +kernel
theorem d1_13 : decode method_2_code 13 = .ok (.if_icmp .ne 6, 3) := by decide +kernel
theorem d1_16 : decode method_2_code 16 = .ok (.bipush 9, 2) := by decide +kernel
theorem d1_18 : decode method_2_code 18 = .ok (.ireturn, 1) := by decide +kernel
theorem d1_19 : decode method_2_code 19 = .ok (.iload_n 0, 1) := by decide +kernel
theorem d1_20 : decode method_2_code 20 = .ok (.bipush 16, 2) := by decide +kernel
theorem d1_22 : decode method_2_code 22 = .ok (.iushr, 1) := by decide +kernel
theorem d1_23 : decode method_2_code 23 = .ok (.i2c, 1) := by decide +kernel
theorem d1_24 : decode method_2_code 24 = .ok (.ireturn, 1) := by decide +kernel
theorem ef_own_ch (m : MethodId) (x : Int32) : entryFrame m #[(.int x)] 2 = mkF m 0 #[.val (.int x), .unset] [] := by first | (simp [entryFrame, mkF, argsToLocals, Value.category]; done) | rfl
set_option maxRecDepth 65536 in
set_option maxHeartbeats 40000000 in
theorem own_ch (l : Launch) (Z : State) (a0 : Array Value) (hw : ∀ d ∈ tables_1, d.before a0 Z = true) (hEL : EW Z a0 consts_1) (x : Int32) (h : Heap) :
    Con l Z consts_1 False (⟨"com/example/halyard/halyard/HeaderParserSkipWhitespacePinLaw", "ch", "(I)C"⟩ : MethodName) method_2_code 2 (some .char) ({ frames := 0, cells := 0, slots := 0, locals := 0 } : Room) [] #[(.int x)] h (fun v h' ws' => v = some (.int (chV x)) ∧ h' = h ∧ ws' = []) := by
  refine Con.intro own_pn34 (fun p e s m below meth c T X => ?_)
  rw [ef_own_ch m x]
  refine s_iloadN X (pc' := 1) d1_0 rfl rfl ?_
  refine s_iconst X (pc' := 2) d1_1 (v := (3 : Int32)) rfl rfl ?_
  refine s_iand X (pc' := 3) d1_2 rfl ?_
  refine s_istoreN X (pc' := 4) (L' := #[.val (.int x), .val (.int (x &&& (3 : Int32)))]) d1_3 rfl rfl ?_
  refine s_iloadN X (pc' := 5) d1_4 rfl rfl ?_
  refine s_if X (pc' := 11) (pcF := 8) d1_5 (by decide) (by decide) rfl (fun (q1 : ¬ (x &&& (3 : Int32)) = (0 : Int32)) => ?_) (fun (q1 : (x &&& (3 : Int32)) = (0 : Int32)) => ?_)
  · refine s_iloadN X (pc' := 12) d1_11 rfl rfl ?_
    refine s_iconst X (pc' := 13) d1_12 (v := (1 : Int32)) rfl rfl ?_
    refine s_icmp X (pc' := 19) (pcF := 16) d1_13 (by decide) (by decide) rfl (fun (q2 : ¬ (x &&& (3 : Int32)) = (1 : Int32)) => ?_) (fun (q2 : (x &&& (3 : Int32)) = (1 : Int32)) => ?_)
    · refine s_iloadN X (pc' := 20) d1_19 rfl rfl ?_
      refine s_bipush X (pc' := 22) d1_20 (v := (16 : Int32)) (by decide) rfl ?_
      refine s_iushr X (pc' := 23) d1_22 rfl ?_
      refine s_i2c X (pc' := 24) d1_23 rfl ?_
      exact s_iretN X hEL (ws' := []) (t := .char) d1_24 rfl (by simp) (by decide) (by decide) (fun x q => by simp at q) ⟨by rw [nar_id (i2c_ok _)]; rw [chV, if_neg q1, if_neg q2], rfl, rfl⟩
    · refine s_bipush X (pc' := 18) d1_16 (v := (9 : Int32)) (by decide) rfl ?_
      exact s_iretN X hEL (ws' := []) (t := .char) d1_18 rfl (by simp) (by decide) (by decide) (fun x q => by simp at q) ⟨by rw [chV, if_neg q1, if_pos q2]; rfl, rfl, rfl⟩
  · refine s_bipush X (pc' := 10) d1_8 (v := (32 : Int32)) (by decide) rfl ?_
    exact s_iretN X hEL (ws' := []) (t := .char) d1_10 rfl (by simp) (by decide) (by decide) (fun x q => by simp at q) ⟨by rw [chV, if_pos q1]; rfl, rfl, rfl⟩
theorem d27_0 : decode method_3_code 0 = .ok (.iload_n 0, 1) := by decide +kernel
theorem d27_1 : decode method_3_code 1 = .ok (.bipush 32, 2) := by decide +kernel
theorem d27_3 : decode method_3_code 3 = .ok (.if_icmp .eq 9, 3) := by decide +kernel
theorem d27_6 : decode method_3_code 6 = .ok (.iload_n 0, 1) := by decide +kernel
theorem d27_7 : decode method_3_code 7 = .ok (.bipush 9, 2) := by decide +kernel
theorem d27_9 : decode method_3_code 9 = .ok (.if_icmp .ne 7, 3) := by decide +kernel
theorem d27_12 : decode method_3_code 12 = .ok (.iconst 1, 1) := by decide +kernel
theorem d27_13 : decode method_3_code 13 = .ok (.goto 4, 3) := by decide +kernel
theorem d27_16 : decode method_3_code 16 = .ok (.iconst 0, 1) := by decide +kernel
theorem d27_17 : decode method_3_code 17 = .ok (.ireturn, 1) := by decide +kernel
theorem ef_own_ws (m : MethodId) (x : Int32) : entryFrame m #[(.int x)] 1 = mkF m 0 #[.val (.int x)] [] := by first | (simp [entryFrame, mkF, argsToLocals, Value.category]; done) | rfl
set_option maxRecDepth 65536 in
set_option maxHeartbeats 40000000 in
theorem own_ws (l : Launch) (Z : State) (a0 : Array Value) (hw : ∀ d ∈ tables_1, d.before a0 Z = true) (hEL : EW Z a0 consts_1) (x : Int32) (h : Heap) :
    Con l Z consts_1 False (⟨"com/example/halyard/halyard/HeaderParserSkipWhitespacePinLaw", "ws", "(C)Z"⟩ : MethodName) method_3_code 1 (some .boolean) ({ frames := 0, cells := 0, slots := 0, locals := 0 } : Room) [] #[(.int x)] h (fun v h' ws' => v = some (.int ((if x = (32 : Int32) ∨ x = (9 : Int32) then 1 else 0))) ∧ h' = h ∧ ws' = []) := by
  refine Con.intro own_pn35 (fun p e s m below meth c T X => ?_)
  rw [ef_own_ws m x]
  refine s_iloadN X (pc' := 1) d27_0 rfl rfl ?_
  refine s_bipush X (pc' := 3) d27_1 (v := (32 : Int32)) (by decide) rfl ?_
  refine s_icmp X (pc' := 12) (pcF := 6) d27_3 (by decide) (by decide) rfl (fun (q1 : x = (32 : Int32)) => ?_) (fun (q1 : ¬ x = (32 : Int32)) => ?_)
  · refine s_iconst X (pc' := 13) d27_12 (v := (1 : Int32)) rfl rfl ?_
    refine s_goto X (pc' := 17) d27_13 (by decide) (by decide) ?_
    exact s_iretN X hEL (ws' := []) (t := .boolean) d27_17 rfl (by simp) (by decide) (by decide) (fun x q => by simp at q) ⟨by rw [if_pos (Or.inl q1)]; rfl, rfl, rfl⟩
  · refine s_iloadN X (pc' := 7) d27_6 rfl rfl ?_
    refine s_bipush X (pc' := 9) d27_7 (v := (9 : Int32)) (by decide) rfl ?_
    refine s_icmp X (pc' := 16) (pcF := 12) d27_9 (by decide) (by decide) rfl (fun (q2 : ¬ x = (9 : Int32)) => ?_) (fun (q2 : x = (9 : Int32)) => ?_)
    · refine s_iconst X (pc' := 17) d27_16 (v := (0 : Int32)) rfl rfl ?_
      exact s_iretN X hEL (ws' := []) (t := .boolean) d27_17 rfl (by simp) (by decide) (by decide) (fun x q => by simp at q) ⟨by rw [if_neg (fun z => z.elim q1 q2)]; rfl, rfl, rfl⟩
    · refine s_iconst X (pc' := 13) d27_12 (v := (1 : Int32)) rfl rfl ?_
      refine s_goto X (pc' := 17) d27_13 (by decide) (by decide) ?_
      exact s_iretN X hEL (ws' := []) (t := .boolean) d27_17 rfl (by simp) (by decide) (by decide) (fun x q => by simp at q) ⟨by rw [if_pos (Or.inr q2)]; rfl, rfl, rfl⟩
theorem d17_0 : decode method_4_code 0 = .ok (.iload_n 2, 1) := by decide +kernel
theorem d17_1 : decode method_4_code 1 = .ok (.iload_n 1, 1) := by decide +kernel
theorem d17_2 : decode method_4_code 2 = .ok (.if_icmp .ge 16, 3) := by decide +kernel
theorem d17_5 : decode method_4_code 5 = .ok (.aload_n 0, 1) := by decide +kernel
theorem d17_6 : decode method_4_code 6 = .ok (.iload_n 2, 1) := by decide +kernel
theorem d17_7 : decode method_4_code 7 = .ok (.caload, 1) := by decide +kernel
theorem d17_8 : decode method_4_code 8 = .ok (.invokestatic 7, 3) := by decide +kernel
theorem d17_11 : decode method_4_code 11 = .ok (.ifCond .eq 7, 3) := by decide +kernel
theorem d17_14 : decode method_4_code 14 = .ok (.iload_n 2, 1) := by decide +kernel
theorem d17_15 : decode method_4_code 15 = .ok (.iconst 1, 1) := by decide +kernel
theorem d17_16 : decode method_4_code 16 = .ok (.iadd, 1) := by decide +kernel
theorem d17_17 : decode method_4_code 17 = .ok (.ireturn, 1) := by decide +kernel
theorem d17_18 : decode method_4_code 18 = .ok (.iload_n 2, 1) := by decide +kernel
theorem d17_19 : decode method_4_code 19 = .ok (.ireturn, 1) := by decide +kernel
theorem ef_own_step (m : MethodId) (b : Addr) (ds : List Int32) (n i : Nat) : entryFrame m #[(.ref b), (.int (Int32.ofNat n)), (.int (Int32.ofNat i))] 3 = mkF m 0 #[.val (.ref b), .val (.int (Int32.ofNat n)), .val (.int (Int32.ofNat i))] [] := by first | (simp [entryFrame, mkF, argsToLocals, Value.category]; done) | rfl
set_option maxRecDepth 65536 in
set_option maxHeartbeats 40000000 in
theorem own_step (l : Launch) (Z : State) (a0 : Array Value) (hw : ∀ d ∈ tables_1, d.before a0 Z = true) (hEL : EW Z a0 consts_1) (b : Addr) (ds : List Int32) (n i : Nat) (h : Heap) (A_b : Ary Z h b .char (ds.map Value.int)) (hn : n ≤ ds.length) (hd : ds.length ≤ 4000) (hi : i ≤ n) :
    Con l Z consts_1 False (⟨"com/example/halyard/halyard/HeaderParserSkipWhitespacePinLaw", "step", "([CII)I"⟩ : MethodName) method_4_code 3 (some .int) ({ frames := 1, cells := 0, slots := 0, locals := 12 } : Room) [] #[(.ref b), (.int (Int32.ofNat n)), (.int (Int32.ofNat i))] h (fun v h' ws' => v = some (.int (Int32.ofNat (stepN ds n i))) ∧ h' = h ∧ ws' = []) := by
  refine Con.intro own_pn36 (fun p e s m below meth c T X => ?_)
  rw [ef_own_step m b ds n i]
  refine s_iloadN X (pc' := 1) d17_0 rfl rfl ?_
  refine s_iloadN X (pc' := 2) d17_1 rfl rfl ?_
  refine s_icmp X (pc' := 18) (pcF := 5) d17_2 (by decide) (by decide) rfl (fun (q1 : ¬ (Int32.ofNat i) < (Int32.ofNat n)) => ?_) (fun (q1 : (Int32.ofNat i) < (Int32.ofNat n)) => ?_)
  · refine s_iloadN X (pc' := 19) d17_18 rfl rfl ?_
    exact s_iret X hEL (ws' := []) d17_19 (by decide) (by decide) (fun x q => by simp at q) ⟨by rw [stepN, if_neg (fun z => q1 ((on_lt (by omega) (by omega)).mpr z.1))], rfl, rfl⟩
  · have y1 : i < n := (on_lt (by omega) (by omega)).mp q1
    refine s_aloadN X (pc' := 6) d17_5 rfl rfl rfl ?_
    refine s_iloadN X (pc' := 7) d17_6 rfl rfl ?_
    refine s_caload X (pc' := 8) (i := i) (v := .int (ds.getD i 0)) d17_7 A_b rfl (map_at ds (by omega)) rfl ?_
    refine s_static X (pc' := 11) (W := 0) (as' := [(.int (ds.getD i 0))]) (S := []) (k' := 0) (n' := 0) d17_8 (hw _ (List.mem_of_getElem? (i := 125) rfl)) (hw _ (List.mem_of_getElem? (i := 126) rfl)) (hw _ (List.mem_of_getElem? (i := 3) rfl)) (hw _ (List.mem_of_getElem? (i := 127) rfl)) (by decide) own_pd21 rfl ((own_ws l Z a0 hw hEL (ds.getD i 0) _).payS (by simp) (hw _ (List.mem_of_getElem? (i := 127) rfl)) (hw _ (List.mem_of_getElem? (i := 3) rfl)) hEL (by decide) (by decide)) (Nat.le_of_ble_eq_true rfl) rfl rfl (by decide) (by decide) (by decide) (by decide) rfl (fun T h215 v_ ws_ X hgr_ q216 => ?_)
    obtain ⟨rfl, e_, rfl⟩ := q216
    rw [e_] at X
    show Go p e below _ T (mkF m 11 #[.val (.ref b), .val (.int (Int32.ofNat n)), .val (.int (Int32.ofNat i))] [(.int (if (ds.getD i 0) = (32 : Int32) ∨ (ds.getD i 0) = (9 : Int32) then 1 else 0))])
    replace X := X.sub (ws' := []) (by simp)
    refine s_if X (pc' := 18) (pcF := 14) d17_11 (by decide) (by decide) rfl (fun (q2 : (if (ds.getD i 0) = (32 : Int32) ∨ (ds.getD i 0) = (9 : Int32) then 1 else 0) = (0 : Int32)) => ?_) (fun (q2 : ¬ (if (ds.getD i 0) = (32 : Int32) ∨ (ds.getD i 0) = (9 : Int32) then 1 else 0) = (0 : Int32)) => ?_)
    · have n2 : ¬ (ds.getD i 0 = (32 : Int32) ∨ ds.getD i 0 = (9 : Int32)) := fun z => by rw [if_pos z] at q2; exact absurd q2 (by decide)
      refine s_iloadN X (pc' := 19) d17_18 rfl rfl ?_
      exact s_iret X hEL (ws' := []) d17_19 (by decide) (by decide) (fun x q => by simp at q) ⟨by rw [stepN, if_neg (fun z => n2 z.2)], rfl, rfl⟩
    · have y2 : ds.getD i 0 = (32 : Int32) ∨ ds.getD i 0 = (9 : Int32) := Classical.byContradiction fun z => by rw [if_neg z] at q2; exact q2 rfl
      refine s_iloadN X (pc' := 15) d17_14 rfl rfl ?_
      refine s_iconst X (pc' := 16) d17_15 (v := (1 : Int32)) rfl rfl ?_
      refine s_iadd X (pc' := 17) d17_16 rfl ?_
      exact s_iret X hEL (ws' := []) d17_17 (by decide) (by decide) (fun x q => by simp at q) ⟨by rw [stepN, if_pos ⟨y1, y2⟩, on_succ i], rfl, rfl⟩
theorem ef_own_law (m : MethodId) (xa : Int32) (xb : Int32) (xc : Int32) (xd : Int32) (xm : Int32) : entryFrame m #[(.int xa), (.int xb), (.int xc), (.int xd), (.int xm)] maxLocals = mkF m 0 #[.val (.int xa), .val (.int xb), .val (.int xc), .val (.int xd), .val (.int xm), .unset, .unset, .unset, .unset, .unset, .unset, .unset] [] := by first | (simp [entryFrame, mkF, argsToLocals, Value.category, maxLocals]; done) | rfl
set_option maxRecDepth 65536 in
set_option maxHeartbeats 40000000 in
theorem own_law (l : Launch) (Z : State) (a0 : Array Value) (hw : ∀ d ∈ tables_1, d.before a0 Z = true) (hEL : EW Z a0 consts_1) (xa : Int32) (xb : Int32) (xc : Int32) (xd : Int32) (xm : Int32) (h : Heap) {G1 : Int32} {G3 : Value} (O2 : Sta Z Z.heap "java/lang/String" "COMPACT_STRINGS" "Z" (.int G1)) (P5 : ¬ (G1 = (0 : Int32))) (O4 : Sta Z Z.heap "jdk/internal/util/Preconditions" "SIOOBE_FORMATTER" "Ljava/util/function/BiFunction;" G3) (rG3 : G3.isRef = true) (U : U16 Z) :
    Con l Z consts_1 False x code maxLocals ret room_1 [] #[(.int xa), (.int xb), (.int xc), (.int xd), (.int xm)] h (fun v h' ws' => v = some (.int 1)) := by
  refine Con.intro own_pn37 (fun p e s m below meth c T X => ?_)
  rw [ef_own_law m xa xb xc xd xm]
  refine s_iconst X (pc' := 1) at_0 (v := (4 : Int32)) rfl rfl ?_
  refine s_newarr X (pc' := 3) (k' := 1) (n' := 4) (N := 4) at_1 (hw _ (List.mem_of_getElem? (i := 0) rfl)) rfl (by decide) (by decide) (by decide) (by decide) (by decide) rfl (fun T h218 b217 gb_b217 X' E219 A_b217 => ?_)
  have g_b217 : Z.heap.size ≤ b217 := by rw [gb_b217]; exact X.lt
  replace X := X'
  replace A_b217 : Ary Z h218 b217 .char [(.int (0 : Int32)), (.int (0 : Int32)), (.int (0 : Int32)), (.int (0 : Int32))] := A_b217
  refine s_dup X (pc' := 4) at_3 rfl rfl ?_
  refine s_iconst X (pc' := 5) at_4 (v := (0 : Int32)) rfl rfl ?_
  refine s_iloadN X (pc' := 6) at_5 rfl rfl ?_
  refine s_static X (pc' := 9) (W := 3) (as' := [(.int xa)]) (S := [(.int (0 : Int32)), (.ref b217), (.ref b217)]) (k' := 1) (n' := 4) at_6 (hw _ (List.mem_of_getElem? (i := 1) rfl)) (hw _ (List.mem_of_getElem? (i := 2) rfl)) (hw _ (List.mem_of_getElem? (i := 3) rfl)) (hw _ (List.mem_of_getElem? (i := 4) rfl)) (by decide) own_pd20 rfl ((own_ch l Z a0 hw hEL xa _).payS (by simp) (hw _ (List.mem_of_getElem? (i := 4) rfl)) (hw _ (List.mem_of_getElem? (i := 3) rfl)) hEL (by decide) (by decide)) (Nat.le_of_ble_eq_true rfl) rfl rfl (by decide) (by decide) (by decide) (by decide) rfl (fun T h220 v_ ws_ X hgr_ q221 => ?_)
  obtain ⟨rfl, e_, rfl⟩ := q221
  rw [e_] at X
  show Go p e below _ T (mkF m 9 #[.val (.int xa), .val (.int xb), .val (.int xc), .val (.int xd), .val (.int xm), .unset, .unset, .unset, .unset, .unset, .unset, .unset] [(.int (chV xa)), (.int (0 : Int32)), (.ref b217), (.ref b217)])
  replace X := X.sub (ws' := [b217]) (by simp)
  obtain ⟨z0, gz0⟩ : ∃ z, z = chV xa := ⟨_, rfl⟩
  rw [← gz0]
  have kz0 : ¬ z0 < 0 ∧ ¬ (65535 : Int32) < z0 := gz0 ▸ chV_ok xa
  refine s_castore X (pc' := 10) (i := 0) at_9 A_b217 rfl (Nat.le_of_ble_eq_true rfl) g_b217 (by simp) rfl (fun T h222 X W223 A' => ?_)
  replace A_b217 : Ary Z h222 b217 .char [(.int (nar .char z0)), (.int (0 : Int32)), (.int (0 : Int32)), (.int (0 : Int32))] := A'
  refine s_dup X (pc' := 11) at_10 rfl rfl ?_
  refine s_iconst X (pc' := 12) at_11 (v := (1 : Int32)) rfl rfl ?_
  refine s_iloadN X (pc' := 13) at_12 rfl rfl ?_
  refine s_static X (pc' := 16) (W := 3) (as' := [(.int xb)]) (S := [(.int (1 : Int32)), (.ref b217), (.ref b217)]) (k' := 1) (n' := 4) at_13 (hw _ (List.mem_of_getElem? (i := 1) rfl)) (hw _ (List.mem_of_getElem? (i := 2) rfl)) (hw _ (List.mem_of_getElem? (i := 3) rfl)) (hw _ (List.mem_of_getElem? (i := 4) rfl)) (by decide) own_pd20 rfl ((own_ch l Z a0 hw hEL xb _).payS (by simp) (hw _ (List.mem_of_getElem? (i := 4) rfl)) (hw _ (List.mem_of_getElem? (i := 3) rfl)) hEL (by decide) (by decide)) (Nat.le_of_ble_eq_true rfl) rfl rfl (by decide) (by decide) (by decide) (by decide) rfl (fun T h224 v_ ws_ X hgr_ q225 => ?_)
  obtain ⟨rfl, e_, rfl⟩ := q225
  rw [e_] at X
  show Go p e below _ T (mkF m 16 #[.val (.int xa), .val (.int xb), .val (.int xc), .val (.int xd), .val (.int xm), .unset, .unset, .unset, .unset, .unset, .unset, .unset] [(.int (chV xb)), (.int (1 : Int32)), (.ref b217), (.ref b217)])
  replace X := X.sub (ws' := [b217]) (by simp)
  obtain ⟨z1, gz1⟩ : ∃ z, z = chV xb := ⟨_, rfl⟩
  rw [← gz1]
  have kz1 : ¬ z1 < 0 ∧ ¬ (65535 : Int32) < z1 := gz1 ▸ chV_ok xb
  refine s_castore X (pc' := 17) (i := 1) at_16 A_b217 rfl (Nat.le_of_ble_eq_true rfl) g_b217 (by simp) rfl (fun T h226 X W227 A' => ?_)
  replace A_b217 : Ary Z h226 b217 .char [(.int (nar .char z0)), (.int (nar .char z1)), (.int (0 : Int32)), (.int (0 : Int32))] := A'
  refine s_dup X (pc' := 18) at_17 rfl rfl ?_
  refine s_iconst X (pc' := 19) at_18 (v := (2 : Int32)) rfl rfl ?_
  refine s_iloadN X (pc' := 20) at_19 rfl rfl ?_
  refine s_static X (pc' := 23) (W := 3) (as' := [(.int xc)]) (S := [(.int (2 : Int32)), (.ref b217), (.ref b217)]) (k' := 1) (n' := 4) at_20 (hw _ (List.mem_of_getElem? (i := 1) rfl)) (hw _ (List.mem_of_getElem? (i := 2) rfl)) (hw _ (List.mem_of_getElem? (i := 3) rfl)) (hw _ (List.mem_of_getElem? (i := 4) rfl)) (by decide) own_pd20 rfl ((own_ch l Z a0 hw hEL xc _).payS (by simp) (hw _ (List.mem_of_getElem? (i := 4) rfl)) (hw _ (List.mem_of_getElem? (i := 3) rfl)) hEL (by decide) (by decide)) (Nat.le_of_ble_eq_true rfl) rfl rfl (by decide) (by decide) (by decide) (by decide) rfl (fun T h228 v_ ws_ X hgr_ q229 => ?_)
  obtain ⟨rfl, e_, rfl⟩ := q229
  rw [e_] at X
  show Go p e below _ T (mkF m 23 #[.val (.int xa), .val (.int xb), .val (.int xc), .val (.int xd), .val (.int xm), .unset, .unset, .unset, .unset, .unset, .unset, .unset] [(.int (chV xc)), (.int (2 : Int32)), (.ref b217), (.ref b217)])
  replace X := X.sub (ws' := [b217]) (by simp)
  obtain ⟨z2, gz2⟩ : ∃ z, z = chV xc := ⟨_, rfl⟩
  rw [← gz2]
  have kz2 : ¬ z2 < 0 ∧ ¬ (65535 : Int32) < z2 := gz2 ▸ chV_ok xc
  refine s_castore X (pc' := 24) (i := 2) at_23 A_b217 rfl (Nat.le_of_ble_eq_true rfl) g_b217 (by simp) rfl (fun T h230 X W231 A' => ?_)
  replace A_b217 : Ary Z h230 b217 .char [(.int (nar .char z0)), (.int (nar .char z1)), (.int (nar .char z2)), (.int (0 : Int32))] := A'
  refine s_dup X (pc' := 25) at_24 rfl rfl ?_
  refine s_iconst X (pc' := 26) at_25 (v := (3 : Int32)) rfl rfl ?_
  refine s_iloadN X (pc' := 27) at_26 rfl rfl ?_
  refine s_static X (pc' := 30) (W := 3) (as' := [(.int xd)]) (S := [(.int (3 : Int32)), (.ref b217), (.ref b217)]) (k' := 1) (n' := 4) at_27 (hw _ (List.mem_of_getElem? (i := 1) rfl)) (hw _ (List.mem_of_getElem? (i := 2) rfl)) (hw _ (List.mem_of_getElem? (i := 3) rfl)) (hw _ (List.mem_of_getElem? (i := 4) rfl)) (by decide) own_pd20 rfl ((own_ch l Z a0 hw hEL xd _).payS (by simp) (hw _ (List.mem_of_getElem? (i := 4) rfl)) (hw _ (List.mem_of_getElem? (i := 3) rfl)) hEL (by decide) (by decide)) (Nat.le_of_ble_eq_true rfl) rfl rfl (by decide) (by decide) (by decide) (by decide) rfl (fun T h232 v_ ws_ X hgr_ q233 => ?_)
  obtain ⟨rfl, e_, rfl⟩ := q233
  rw [e_] at X
  show Go p e below _ T (mkF m 30 #[.val (.int xa), .val (.int xb), .val (.int xc), .val (.int xd), .val (.int xm), .unset, .unset, .unset, .unset, .unset, .unset, .unset] [(.int (chV xd)), (.int (3 : Int32)), (.ref b217), (.ref b217)])
  replace X := X.sub (ws' := [b217]) (by simp)
  obtain ⟨z3, gz3⟩ : ∃ z, z = chV xd := ⟨_, rfl⟩
  rw [← gz3]
  have kz3 : ¬ z3 < 0 ∧ ¬ (65535 : Int32) < z3 := gz3 ▸ chV_ok xd
  refine s_castore X (pc' := 31) (i := 3) at_30 A_b217 rfl (Nat.le_of_ble_eq_true rfl) g_b217 (by simp) rfl (fun T h234 X W235 A' => ?_)
  replace A_b217 : Ary Z h234 b217 .char [(.int (nar .char z0)), (.int (nar .char z1)), (.int (nar .char z2)), (.int (nar .char z3))] := A'
  refine s_astore X (pc' := 33) (L' := #[.val (.int xa), .val (.int xb), .val (.int xc), .val (.int xd), .val (.int xm), .val (.ref b217), .unset, .unset, .unset, .unset, .unset, .unset]) at_31 rfl rfl rfl ?_
  have hpd : ∀ c ∈ ([z0, z1, z2, z3] : List Int32), ¬ c < 0 ∧ ¬ (65535 : Int32) < c := (alS kz0 (alS kz1 (alS kz2 (alS kz3 al0))))
  replace A_b217 : Ary Z h234 b217 .char [(.int z0), (.int z1), (.int z2), (.int z3)] := by rw [nar_id kz0, nar_id kz1, nar_id kz2, nar_id kz3] at A_b217; exact A_b217
  refine s_iload X (pc' := 35) at_33 rfl rfl ?_
  refine s_bipush X (pc' := 37) at_35 (v := (7 : Int32)) (by decide) rfl ?_
  refine s_iand X (pc' := 38) at_37 rfl ?_
  refine s_iconst X (pc' := 39) at_38 (v := (5 : Int32)) rfl rfl ?_
  refine s_irem X (pc' := 40) at_39 (by decide) rfl ?_
  rcases len_cases xm with pq | pq | pq | pq | pq
  · refine go_int (z := (0 : Int32)) (pq) ?_
    refine s_istore X (pc' := 42) (L' := #[.val (.int xa), .val (.int xb), .val (.int xc), .val (.int xd), .val (.int xm), .val (.ref b217), .val (.int (0 : Int32)), .unset, .unset, .unset, .unset, .unset]) at_40 rfl rfl ?_
    refine s_iload X (pc' := 44) at_42 rfl rfl ?_
    refine s_iconst X (pc' := 45) at_44 (v := (3 : Int32)) rfl rfl ?_
    refine s_iushr X (pc' := 46) at_45 rfl ?_
    refine s_bipush X (pc' := 48) at_46 (v := (7 : Int32)) (by decide) rfl ?_
    refine s_iand X (pc' := 49) at_48 rfl ?_
    refine s_iload X (pc' := 51) at_49 rfl rfl ?_
    refine s_iconst X (pc' := 52) at_51 (v := (1 : Int32)) rfl rfl ?_
    refine s_iadd X (pc' := 53) at_52 rfl ?_
    refine s_irem X (pc' := 54) at_53 (by decide) rfl ?_
    obtain ⟨k0, hk0', gk0⟩ := rem_k ((xm.toUInt32 >>> ((3 : Int32) &&& 31).toUInt32).toInt32) ((0 : Int32) + (1 : Int32)) 1 (by decide) (by decide) (by decide)
    have hk0 : k0 ≤ 0 := by omega
    refine go_int (z := (Int32.ofNat k0)) (gk0) ?_
    refine s_istore X (pc' := 56) (L' := #[.val (.int xa), .val (.int xb), .val (.int xc), .val (.int xd), .val (.int xm), .val (.ref b217), .val (.int (0 : Int32)), .val (.int (Int32.ofNat k0)), .unset, .unset, .unset, .unset]) at_54 rfl rfl ?_
    refine s_iload X (pc' := 58) at_56 rfl rfl ?_
    refine s_ifF X (pc' := 61) at_58 (show (0 : Int32) = (0 : Int32) by decide) rfl ?_
    refine s_iconst X (pc' := 62) at_61 (v := (0 : Int32)) rfl rfl ?_
    refine s_newarr X (pc' := 64) (k' := 2) (n' := 4) (N := 0) at_62 (hw _ (List.mem_of_getElem? (i := 0) rfl)) rfl (by decide) (by decide) (by decide) (by decide) (by decide) rfl (fun T h237 b236 gb_b236 X' E238 A_b236 => ?_)
    have g_b236 : Z.heap.size ≤ b236 := by rw [gb_b236]; exact X.lt
    have ne_b217_b236 : b217 ≠ b236 := Nat.ne_of_lt (by rw [gb_b236]; exact A_b217.lt)
    replace A_b217 := A_b217.ext E238
    replace X := X'
    replace A_b236 : Ary Z h237 b236 .char [] := A_b236
    refine s_astore X (pc' := 66) (L' := #[.val (.int xa), .val (.int xb), .val (.int xc), .val (.int xd), .val (.int xm), .val (.ref b217), .val (.int (0 : Int32)), .val (.int (Int32.ofNat k0)), .val (.ref b236), .unset, .unset, .unset]) at_64 rfl rfl rfl ?_
    refine s_goto X (pc' := 186) at_66 (by decide) (by decide) ?_
    refine s_new X (pc' := 189) (k' := 3) (n' := 6) at_186 (hw _ (List.mem_of_getElem? (i := 5) rfl)) (hw _ (List.mem_of_getElem? (i := 6) rfl)) (hw _ (List.mem_of_getElem? (i := 7) rfl)) (by decide) (by decide) (by decide) (by decide) rfl (fun T h240 b239 gb_b239 X' E241 E_b239 D_b239 U_b239 => ?_)
    have g_b239 : Z.heap.size ≤ b239 := by rw [gb_b239]; exact X.lt
    have ne_b217_b239 : b217 ≠ b239 := Nat.ne_of_lt (by rw [gb_b239]; exact A_b217.lt)
    have ne_b236_b239 : b236 ≠ b239 := Nat.ne_of_lt (by rw [gb_b239]; exact A_b236.lt)
    replace A_b217 := A_b217.ext E241
    replace A_b236 := A_b236.ext E241
    replace X := X'
    have F_b239_value : Fld Z h240 b239 "com/example/halyard/halyard/HeaderParser" "value" "Ljava/lang/String;" .null := D_b239 (Or.inr (hw _ (List.mem_of_getElem? (i := 34) rfl))) (ty := (.object "java/lang/String")) (by decide)
    have F_b239_position : Fld Z h240 b239 "com/example/halyard/halyard/HeaderParser" "position" "I" (.int (0 : Int32)) := D_b239 (Or.inl (hw _ (List.mem_of_getElem? (i := 77) rfl))) (ty := .int) (by decide)
    refine s_dup X (pc' := 190) at_189 rfl rfl ?_
    refine s_new X (pc' := 193) (k' := 4) (n' := 10) at_190 (hw _ (List.mem_of_getElem? (i := 8) rfl)) (hw _ (List.mem_of_getElem? (i := 9) rfl)) (hw _ (List.mem_of_getElem? (i := 10) rfl)) (by decide) (by decide) (by decide) (by decide) rfl (fun T h243 b242 gb_b242 X' E244 E_b242 D_b242 U_b242 => ?_)
    have g_b242 : Z.heap.size ≤ b242 := by rw [gb_b242]; exact X.lt
    have ne_b239_b242 : b239 ≠ b242 := Nat.ne_of_lt (by rw [gb_b242]; exact E_b239.lt)
    have ne_b217_b242 : b217 ≠ b242 := Nat.ne_of_lt (by rw [gb_b242]; exact A_b217.lt)
    have ne_b236_b242 : b236 ≠ b242 := Nat.ne_of_lt (by rw [gb_b242]; exact A_b236.lt)
    replace E_b239 := E_b239.ext E244
    replace F_b239_value := F_b239_value.ext E244
    replace F_b239_position := F_b239_position.ext E244
    replace A_b217 := A_b217.ext E244
    replace A_b236 := A_b236.ext E244
    replace X := X'
    have F_b242_value : Fld Z h243 b242 "java/lang/String" "value" "[B" .null := D_b242 (Or.inr (hw _ (List.mem_of_getElem? (i := 23) rfl))) (ty := (.array .byte)) (by decide)
    have F_b242_coder : Fld Z h243 b242 "java/lang/String" "coder" "B" (.int (0 : Int32)) := D_b242 (Or.inr (hw _ (List.mem_of_getElem? (i := 24) rfl))) (ty := .byte) (by decide)
    refine s_dup X (pc' := 194) at_193 rfl rfl ?_
    refine s_aload X (pc' := 196) at_194 rfl rfl rfl ?_
    refine s_special X (pc' := 199) (W := 3) (as' := [(.ref b236)]) (S := [(.ref b242), (.ref b239), (.ref b239)]) (k' := 8) (n' := 18) at_196 rfl (hw _ (List.mem_of_getElem? (i := 11) rfl)) (hw _ (List.mem_of_getElem? (i := 12) rfl)) (hw _ (List.mem_of_getElem? (i := 13) rfl)) (by decide) own_pd22 rfl ((sI1 l Z a0 hw hEL b242 b236 _ X.old g_b242 E_b242 F_b242_value F_b242_coder A_b236).payS (by simp) (hw _ (List.mem_of_getElem? (i := 13) rfl)) (hw _ (List.mem_of_getElem? (i := 10) rfl)) hEL (by decide) (by decide)) (Nat.le_of_ble_eq_true rfl) rfl rfl (by decide) (by decide) (by decide) (by decide) rfl (fun T h245 v_ ws_ X hgr_ q246 => ?_)
    obtain ⟨rfl, K_, S_b242, rfl⟩ := q246
    show Go p e below _ T (mkF m 199 #[.val (.int xa), .val (.int xb), .val (.int xc), .val (.int xd), .val (.int xm), .val (.ref b217), .val (.int (0 : Int32)), .val (.int (Int32.ofNat k0)), .val (.ref b236), .unset, .unset, .unset] [(.ref b242), (.ref b239), (.ref b239)])
    replace F_b239_value := F_b239_value.keep K_ (ninS ne_b239_b242 nin0)
    replace F_b239_position := F_b239_position.keep K_ (ninS ne_b239_b242 nin0)
    replace A_b217 := A_b217.keep K_ (ninS ne_b217_b242 nin0)
    replace E_b239 := E_b239.keep K_
    replace E_b242 := E_b242.keep K_
    refine s_special X (pc' := 202) (W := 1) (as' := [(.ref b242)]) (S := [(.ref b239)]) (k' := 8) (n' := 18) at_199 rfl (hw _ (List.mem_of_getElem? (i := 29) rfl)) (hw _ (List.mem_of_getElem? (i := 30) rfl)) (hw _ (List.mem_of_getElem? (i := 31) rfl)) (by decide) own_pd23 rfl ((hp_ini l Z a0 hw hEL b239 b242 _ g_b239 E_b239 F_b239_value F_b239_position).payS (by simp) (hw _ (List.mem_of_getElem? (i := 31) rfl)) (hw _ (List.mem_of_getElem? (i := 7) rfl)) hEL (by decide) (by decide)) (Nat.le_of_ble_eq_true rfl) rfl rfl (by decide) (by decide) (by decide) (by decide) rfl (fun T h247 v_ ws_ X hgr_ q248 => ?_)
    obtain ⟨rfl, K_, P_1, rfl⟩ := q248
    show Go p e below _ T (mkF m 202 #[.val (.int xa), .val (.int xb), .val (.int xc), .val (.int xd), .val (.int xm), .val (.ref b217), .val (.int (0 : Int32)), .val (.int (Int32.ofNat k0)), .val (.ref b236), .unset, .unset, .unset] [(.ref b239)])
    replace X := X.sub (ws' := [b239]) (by simp)
    replace A_b217 := A_b217.keep K_ (ninS ne_b217_b239 nin0)
    replace S_b242 := S_b242.keep K_ E_b239 (by decide) (hw _ (List.mem_of_getElem? (i := 6) rfl))
    replace E_b239 := E_b239.keep K_
    have S_r := S_b242
    refine s_astore X (pc' := 204) (L' := #[.val (.int xa), .val (.int xb), .val (.int xc), .val (.int xd), .val (.int xm), .val (.ref b217), .val (.int (0 : Int32)), .val (.int (Int32.ofNat k0)), .val (.ref b236), .val (.ref b239), .unset, .unset]) at_202 rfl rfl rfl ?_
    refine s_iload X (pc' := 206) at_204 rfl rfl ?_
    refine s_iload X (pc' := 208) at_206 rfl rfl ?_
    refine jn (A := ∀ T (st : Int32), (¬ st < 0 ∧ ¬ (65535 : Int32) < st) → sfV ([] : List Int32) st k0 = Int32.ofNat k0 → Cx p l e room_1 s m #[(.int xa), (.int xb), (.int xc), (.int xd), (.int xm)] below meth c Z consts_1 False x code maxLocals ret [b239] T h247 8 18 → Go p e below (Post Z consts_1 s room_1 (fun v h' ws' => v = some (.int 1))) T (mkF m 223 #[.val (.int xa), .val (.int xb), .val (.int xc), .val (.int xd), .val (.int xm), .val (.ref b217), .val (.int (0 : Int32)), .val (.int (Int32.ofNat k0)), .val (.ref b236), .val (.ref b239), .val (.int st), .unset] [])) (fun J => ?_) (fun T st kst hst X => ?_)
    · refine s_icmp X (pc' := 219) (pcF := 211) at_208 (by decide) (by decide) rfl (fun (q1 : ¬ (Int32.ofNat k0) < (0 : Int32)) => ?_) (fun (q1 : (Int32.ofNat k0) < (0 : Int32)) => ?_)
      · have n1 : k0 = 0 := by
          have z : ¬ k0 < 0 := fun z => q1 ((on_lt (by omega) (by decide)).mpr z)
          omega
        refine s_bipush X (pc' := 221) at_219 (v := (120 : Int32)) (by decide) rfl ?_
        refine s_istore X (pc' := 223) (L' := #[.val (.int xa), .val (.int xb), .val (.int xc), .val (.int xd), .val (.int xm), .val (.ref b217), .val (.int (0 : Int32)), .val (.int (Int32.ofNat k0)), .val (.ref b236), .val (.ref b239), .val (.int (120 : Int32)), .unset]) at_221 rfl rfl ?_
        exact J T (120 : Int32) (by decide) (sfV_all _ n1) X
      · have y1 : k0 < 0 := (on_lt (by omega) (by decide)).mp q1
        exact absurd y1 (Nat.not_lt_zero _)
    · refine s_aload X (pc' := 225) at_223 rfl rfl rfl ?_
      refine s_iload X (pc' := 227) at_225 rfl rfl ?_
      refine s_iload X (pc' := 229) at_227 rfl rfl ?_
      refine s_virtual X (pc' := 232) (W := 0) (as' := [(.int (Int32.ofNat k0)), (.int st)]) (S := []) (k' := 8) (n' := 18) at_229 (hw _ (List.mem_of_getElem? (i := 35) rfl)) (hw _ (List.mem_of_getElem? (i := 36) rfl)) (hw _ (List.mem_of_getElem? (i := 38) rfl)) (hw _ (List.mem_of_getElem? (i := 37) rfl)) (nface (hw _ (List.mem_of_getElem? (i := 38) rfl))) (by decide) own_pd24 rfl E_b239 ((hp_sf l Z a0 hw hEL b239 k0 st _ g_b239 (show k0 ≤ ([] : List Int32).length from hk0) kst P_1 S_r (Nat.zero_le _) U O2 P5 O4 rG3).payS (by simp) (hw _ (List.mem_of_getElem? (i := 39) rfl)) (hw _ (List.mem_of_getElem? (i := 7) rfl)) hEL (by decide) (by decide)) (Nat.le_of_ble_eq_true rfl) rfl rfl (by decide) (by decide) (by decide) (by decide) rfl (fun T h249 v_ ws_ X hgr_ q250 => ?_)
      obtain ⟨rfl, K_, ⟨j, hj, hjs, P_2⟩, rfl⟩ := q250
      show Go p e below _ T (mkF m 232 #[.val (.int xa), .val (.int xb), .val (.int xc), .val (.int xd), .val (.int xm), .val (.ref b217), .val (.int (0 : Int32)), .val (.int (Int32.ofNat k0)), .val (.ref b236), .val (.ref b239), .val (.int st), .unset] [])
      replace X := X.sub (ws' := [b239]) (by simp)
      replace A_b217 := A_b217.keep K_ (ninS ne_b217_b239 nin0)
      replace S_r := S_r.keep K_ E_b239 (by decide) (hw _ (List.mem_of_getElem? (i := 6) rfl))
      replace E_b239 := E_b239.keep K_
      replace hj : j ≤ 0 := hj
      obtain rfl : j = k0 := (on_eq (by omega) (by omega)).mp (hjs.trans hst)
      refine s_aload X (pc' := 234) at_232 rfl rfl rfl ?_
      refine s_virtual X (pc' := 237) (W := 0) (as' := []) (S := []) (k' := 8) (n' := 18) at_234 (hw _ (List.mem_of_getElem? (i := 78) rfl)) (hw _ (List.mem_of_getElem? (i := 79) rfl)) (hw _ (List.mem_of_getElem? (i := 81) rfl)) (hw _ (List.mem_of_getElem? (i := 80) rfl)) (nface (hw _ (List.mem_of_getElem? (i := 81) rfl))) (by decide) own_pd5 rfl E_b239 ((hp_pos l Z a0 hw hEL b239 _ P_2).payS (by simp) (hw _ (List.mem_of_getElem? (i := 82) rfl)) (hw _ (List.mem_of_getElem? (i := 7) rfl)) hEL (by decide) (by decide)) (Nat.le_of_ble_eq_true rfl) rfl rfl (by decide) (by decide) (by decide) (by decide) rfl (fun T h251 v_ ws_ X hgr_ q252 => ?_)
      obtain ⟨rfl, e_, rfl⟩ := q252
      rw [e_] at X
      show Go p e below _ T (mkF m 237 #[.val (.int xa), .val (.int xb), .val (.int xc), .val (.int xd), .val (.int xm), .val (.ref b217), .val (.int (0 : Int32)), .val (.int (Int32.ofNat j)), .val (.ref b236), .val (.ref b239), .val (.int st), .unset] [(.int (Int32.ofNat j))])
      replace X := X.sub (ws' := [b239]) (by simp)
      refine s_iload X (pc' := 239) at_237 rfl rfl ?_
      refine s_icmpT X (pc' := 244) at_239 rfl (by decide) (by decide) ?_
      refine s_aload X (pc' := 246) at_244 rfl rfl rfl ?_
      refine s_virtual X (pc' := 249) (W := 0) (as' := []) (S := []) (k' := 8) (n' := 18) at_246 (hw _ (List.mem_of_getElem? (i := 83) rfl)) (hw _ (List.mem_of_getElem? (i := 84) rfl)) (hw _ (List.mem_of_getElem? (i := 86) rfl)) (hw _ (List.mem_of_getElem? (i := 85) rfl)) (nface (hw _ (List.mem_of_getElem? (i := 86) rfl))) (by decide) own_pd25 rfl E_b239 ((hp_skw l Z a0 hw hEL b239 _ g_b239 P_2 S_r hj U O2 P5 O4 rG3).payS (by simp) (hw _ (List.mem_of_getElem? (i := 87) rfl)) (hw _ (List.mem_of_getElem? (i := 7) rfl)) hEL (by decide) (by decide)) (Nat.le_of_ble_eq_true rfl) rfl rfl (by decide) (by decide) (by decide) (by decide) rfl (fun T h253 v_ ws_ X hgr_ q254 => ?_)
      obtain ⟨rfl, K_, P_3, rfl⟩ := q254
      show Go p e below _ T (mkF m 249 #[.val (.int xa), .val (.int xb), .val (.int xc), .val (.int xd), .val (.int xm), .val (.ref b217), .val (.int (0 : Int32)), .val (.int (Int32.ofNat j)), .val (.ref b236), .val (.ref b239), .val (.int st), .unset] [])
      replace X := X.sub (ws' := [b239]) (by simp)
      replace A_b217 := A_b217.keep K_ (ninS ne_b217_b239 nin0)
      replace S_r := S_r.keep K_ E_b239 (by decide) (hw _ (List.mem_of_getElem? (i := 6) rfl))
      replace E_b239 := E_b239.keep K_
      refine s_aload X (pc' := 251) at_249 rfl rfl rfl ?_
      refine s_iload X (pc' := 253) at_251 rfl rfl ?_
      refine s_aload X (pc' := 255) at_253 rfl rfl rfl ?_
      refine s_iload X (pc' := 257) at_255 rfl rfl ?_
      refine s_aload X (pc' := 259) at_257 rfl rfl rfl ?_
      refine s_iload X (pc' := 261) at_259 rfl rfl ?_
      refine s_aload X (pc' := 263) at_261 rfl rfl rfl ?_
      refine s_iload X (pc' := 265) at_263 rfl rfl ?_
      refine s_iload X (pc' := 267) at_265 rfl rfl ?_
      refine s_static X (pc' := 270) (W := 6) (as' := [(.ref b217), (.int (0 : Int32)), (.int (Int32.ofNat j))]) (S := [(.int (0 : Int32)), (.ref b217), (.int (0 : Int32)), (.ref b217), (.int (0 : Int32)), (.ref b217)]) (k' := 8) (n' := 18) at_267 (hw _ (List.mem_of_getElem? (i := 88) rfl)) (hw _ (List.mem_of_getElem? (i := 89) rfl)) (hw _ (List.mem_of_getElem? (i := 3) rfl)) (hw _ (List.mem_of_getElem? (i := 90) rfl)) (by decide) own_pd26 rfl ((own_step l Z a0 hw hEL b217 ([z0, z1, z2, z3] : List Int32) 0 j _ A_b217 (by show 0 ≤ 4; omega) (Nat.le_of_ble_eq_true rfl) hj).payS (by simp) (hw _ (List.mem_of_getElem? (i := 90) rfl)) (hw _ (List.mem_of_getElem? (i := 3) rfl)) hEL (by decide) (by decide)) (Nat.le_of_ble_eq_true rfl) rfl rfl (by decide) (by decide) (by decide) (by decide) rfl (fun T h255 v_ ws_ X hgr_ q256 => ?_)
      obtain ⟨rfl, e_, rfl⟩ := q256
      rw [e_] at X
      show Go p e below _ T (mkF m 270 #[.val (.int xa), .val (.int xb), .val (.int xc), .val (.int xd), .val (.int xm), .val (.ref b217), .val (.int (0 : Int32)), .val (.int (Int32.ofNat j)), .val (.ref b236), .val (.ref b239), .val (.int st), .unset] [(.int (Int32.ofNat (stepN ([z0, z1, z2, z3] : List Int32) 0 j))), (.int (0 : Int32)), (.ref b217), (.int (0 : Int32)), (.ref b217), (.int (0 : Int32)), (.ref b217)])
      replace X := X.sub (ws' := [b239]) (by simp)
      refine s_static X (pc' := 273) (W := 4) (as' := [(.ref b217), (.int (0 : Int32)), (.int (Int32.ofNat (stepN ([z0, z1, z2, z3] : List Int32) 0 j)))]) (S := [(.int (0 : Int32)), (.ref b217), (.int (0 : Int32)), (.ref b217)]) (k' := 8) (n' := 18) at_270 (hw _ (List.mem_of_getElem? (i := 88) rfl)) (hw _ (List.mem_of_getElem? (i := 89) rfl)) (hw _ (List.mem_of_getElem? (i := 3) rfl)) (hw _ (List.mem_of_getElem? (i := 90) rfl)) (by decide) own_pd26 rfl ((own_step l Z a0 hw hEL b217 ([z0, z1, z2, z3] : List Int32) 0 (stepN ([z0, z1, z2, z3] : List Int32) 0 j) _ A_b217 (by show 0 ≤ 4; omega) (Nat.le_of_ble_eq_true rfl) (step_le ([z0, z1, z2, z3] : List Int32) 0 _ hj)).payS (by simp) (hw _ (List.mem_of_getElem? (i := 90) rfl)) (hw _ (List.mem_of_getElem? (i := 3) rfl)) hEL (by decide) (by decide)) (Nat.le_of_ble_eq_true rfl) rfl rfl (by decide) (by decide) (by decide) (by decide) rfl (fun T h257 v_ ws_ X hgr_ q258 => ?_)
      obtain ⟨rfl, e_, rfl⟩ := q258
      rw [e_] at X
      show Go p e below _ T (mkF m 273 #[.val (.int xa), .val (.int xb), .val (.int xc), .val (.int xd), .val (.int xm), .val (.ref b217), .val (.int (0 : Int32)), .val (.int (Int32.ofNat j)), .val (.ref b236), .val (.ref b239), .val (.int st), .unset] [(.int (Int32.ofNat (stepN ([z0, z1, z2, z3] : List Int32) 0 (stepN ([z0, z1, z2, z3] : List Int32) 0 j)))), (.int (0 : Int32)), (.ref b217), (.int (0 : Int32)), (.ref b217)])
      replace X := X.sub (ws' := [b239]) (by simp)
      refine s_static X (pc' := 276) (W := 2) (as' := [(.ref b217), (.int (0 : Int32)), (.int (Int32.ofNat (stepN ([z0, z1, z2, z3] : List Int32) 0 (stepN ([z0, z1, z2, z3] : List Int32) 0 j))))]) (S := [(.int (0 : Int32)), (.ref b217)]) (k' := 8) (n' := 18) at_273 (hw _ (List.mem_of_getElem? (i := 88) rfl)) (hw _ (List.mem_of_getElem? (i := 89) rfl)) (hw _ (List.mem_of_getElem? (i := 3) rfl)) (hw _ (List.mem_of_getElem? (i := 90) rfl)) (by decide) own_pd26 rfl ((own_step l Z a0 hw hEL b217 ([z0, z1, z2, z3] : List Int32) 0 (stepN ([z0, z1, z2, z3] : List Int32) 0 (stepN ([z0, z1, z2, z3] : List Int32) 0 j)) _ A_b217 (by show 0 ≤ 4; omega) (Nat.le_of_ble_eq_true rfl) (step_le ([z0, z1, z2, z3] : List Int32) 0 _ (step_le ([z0, z1, z2, z3] : List Int32) 0 _ hj))).payS (by simp) (hw _ (List.mem_of_getElem? (i := 90) rfl)) (hw _ (List.mem_of_getElem? (i := 3) rfl)) hEL (by decide) (by decide)) (Nat.le_of_ble_eq_true rfl) rfl rfl (by decide) (by decide) (by decide) (by decide) rfl (fun T h259 v_ ws_ X hgr_ q260 => ?_)
      obtain ⟨rfl, e_, rfl⟩ := q260
      rw [e_] at X
      show Go p e below _ T (mkF m 276 #[.val (.int xa), .val (.int xb), .val (.int xc), .val (.int xd), .val (.int xm), .val (.ref b217), .val (.int (0 : Int32)), .val (.int (Int32.ofNat j)), .val (.ref b236), .val (.ref b239), .val (.int st), .unset] [(.int (Int32.ofNat (stepN ([z0, z1, z2, z3] : List Int32) 0 (stepN ([z0, z1, z2, z3] : List Int32) 0 (stepN ([z0, z1, z2, z3] : List Int32) 0 j))))), (.int (0 : Int32)), (.ref b217)])
      replace X := X.sub (ws' := [b239]) (by simp)
      refine s_static X (pc' := 279) (W := 0) (as' := [(.ref b217), (.int (0 : Int32)), (.int (Int32.ofNat (stepN ([z0, z1, z2, z3] : List Int32) 0 (stepN ([z0, z1, z2, z3] : List Int32) 0 (stepN ([z0, z1, z2, z3] : List Int32) 0 j)))))]) (S := []) (k' := 8) (n' := 18) at_276 (hw _ (List.mem_of_getElem? (i := 88) rfl)) (hw _ (List.mem_of_getElem? (i := 89) rfl)) (hw _ (List.mem_of_getElem? (i := 3) rfl)) (hw _ (List.mem_of_getElem? (i := 90) rfl)) (by decide) own_pd26 rfl ((own_step l Z a0 hw hEL b217 ([z0, z1, z2, z3] : List Int32) 0 (stepN ([z0, z1, z2, z3] : List Int32) 0 (stepN ([z0, z1, z2, z3] : List Int32) 0 (stepN ([z0, z1, z2, z3] : List Int32) 0 j))) _ A_b217 (by show 0 ≤ 4; omega) (Nat.le_of_ble_eq_true rfl) (step_le ([z0, z1, z2, z3] : List Int32) 0 _ (step_le ([z0, z1, z2, z3] : List Int32) 0 _ (step_le ([z0, z1, z2, z3] : List Int32) 0 _ hj)))).payS (by simp) (hw _ (List.mem_of_getElem? (i := 90) rfl)) (hw _ (List.mem_of_getElem? (i := 3) rfl)) hEL (by decide) (by decide)) (Nat.le_of_ble_eq_true rfl) rfl rfl (by decide) (by decide) (by decide) (by decide) rfl (fun T h261 v_ ws_ X hgr_ q262 => ?_)
      obtain ⟨rfl, e_, rfl⟩ := q262
      rw [e_] at X
      show Go p e below _ T (mkF m 279 #[.val (.int xa), .val (.int xb), .val (.int xc), .val (.int xd), .val (.int xm), .val (.ref b217), .val (.int (0 : Int32)), .val (.int (Int32.ofNat j)), .val (.ref b236), .val (.ref b239), .val (.int st), .unset] [(.int (Int32.ofNat (stepN ([z0, z1, z2, z3] : List Int32) 0 (stepN ([z0, z1, z2, z3] : List Int32) 0 (stepN ([z0, z1, z2, z3] : List Int32) 0 (stepN ([z0, z1, z2, z3] : List Int32) 0 j))))))])
      replace X := X.sub (ws' := [b239]) (by simp)
      refine go_int (z := (Int32.ofNat (j + wsL (([] : List Int32).drop j)))) (congrArg Int32.ofNat (step4 ([z0, z1, z2, z3] : List Int32) 0 j (by decide) (by show 0 ≤ 4; omega) hj)) ?_
      have he : (j + wsL (([] : List Int32).drop j)) ≤ 0 := by
        have q := wsL_le (([] : List Int32).drop j)
        rw [List.length_drop] at q
        have q2 : ([] : List Int32).length = 0 := rfl
        omega
      have hi2 : wsL (([] : List Int32).drop (j + wsL (([] : List Int32).drop j))) = 0 := by rw [← List.drop_drop]; exact ws_idem _
      obtain ⟨ev, gev⟩ : ∃ z, z = (j + wsL (([] : List Int32).drop j)) := ⟨_, rfl⟩
      rw [← gev] at P_3 he hi2 ⊢
      refine s_istore X (pc' := 281) (L' := #[.val (.int xa), .val (.int xb), .val (.int xc), .val (.int xd), .val (.int xm), .val (.ref b217), .val (.int (0 : Int32)), .val (.int (Int32.ofNat j)), .val (.ref b236), .val (.ref b239), .val (.int st), .val (.int (Int32.ofNat ev))]) at_279 rfl rfl ?_
      refine s_aload X (pc' := 283) at_281 rfl rfl rfl ?_
      refine s_virtual X (pc' := 286) (W := 0) (as' := []) (S := []) (k' := 8) (n' := 18) at_283 (hw _ (List.mem_of_getElem? (i := 78) rfl)) (hw _ (List.mem_of_getElem? (i := 79) rfl)) (hw _ (List.mem_of_getElem? (i := 81) rfl)) (hw _ (List.mem_of_getElem? (i := 80) rfl)) (nface (hw _ (List.mem_of_getElem? (i := 81) rfl))) (by decide) own_pd5 rfl E_b239 ((hp_pos l Z a0 hw hEL b239 _ P_3).payS (by simp) (hw _ (List.mem_of_getElem? (i := 82) rfl)) (hw _ (List.mem_of_getElem? (i := 7) rfl)) hEL (by decide) (by decide)) (Nat.le_of_ble_eq_true rfl) rfl rfl (by decide) (by decide) (by decide) (by decide) rfl (fun T h263 v_ ws_ X hgr_ q264 => ?_)
      obtain ⟨rfl, e_, rfl⟩ := q264
      rw [e_] at X
      show Go p e below _ T (mkF m 286 #[.val (.int xa), .val (.int xb), .val (.int xc), .val (.int xd), .val (.int xm), .val (.ref b217), .val (.int (0 : Int32)), .val (.int (Int32.ofNat j)), .val (.ref b236), .val (.ref b239), .val (.int st), .val (.int (Int32.ofNat ev))] [(.int (Int32.ofNat ev))])
      replace X := X.sub (ws' := [b239]) (by simp)
      refine s_iload X (pc' := 288) at_286 rfl rfl ?_
      refine s_icmpT X (pc' := 293) at_288 rfl (by decide) (by decide) ?_
      refine s_aload X (pc' := 295) at_293 rfl rfl rfl ?_
      refine s_virtual X (pc' := 298) (W := 0) (as' := []) (S := []) (k' := 8) (n' := 18) at_295 (hw _ (List.mem_of_getElem? (i := 91) rfl)) (hw _ (List.mem_of_getElem? (i := 92) rfl)) (hw _ (List.mem_of_getElem? (i := 94) rfl)) (hw _ (List.mem_of_getElem? (i := 93) rfl)) (nface (hw _ (List.mem_of_getElem? (i := 94) rfl))) (by decide) own_pd4 rfl E_b239 ((hp_atEnd l Z a0 hw hEL b239 _ P_3 S_r he O2 P5).payS (by simp) (hw _ (List.mem_of_getElem? (i := 95) rfl)) (hw _ (List.mem_of_getElem? (i := 7) rfl)) hEL (by decide) (by decide)) (Nat.le_of_ble_eq_true rfl) rfl rfl (by decide) (by decide) (by decide) (by decide) rfl (fun T h265 v_ ws_ X hgr_ q266 => ?_)
      obtain ⟨rfl, e_, rfl⟩ := q266
      rw [e_] at X
      show Go p e below _ T (mkF m 298 #[.val (.int xa), .val (.int xb), .val (.int xc), .val (.int xd), .val (.int xm), .val (.ref b217), .val (.int (0 : Int32)), .val (.int (Int32.ofNat j)), .val (.ref b236), .val (.ref b239), .val (.int st), .val (.int (Int32.ofNat ev))] [(.int (if ev = ([] : List Int32).length then 1 else 0))])
      replace X := X.sub (ws' := [b239]) (by simp)
      refine s_iload X (pc' := 300) at_298 rfl rfl ?_
      refine s_iload X (pc' := 302) at_300 rfl rfl ?_
      refine jn (A := ∀ T, Cx p l e room_1 s m #[(.int xa), (.int xb), (.int xc), (.int xd), (.int xm)] below meth c Z consts_1 False x code maxLocals ret [b239] T h253 8 18 → Go p e below (Post Z consts_1 s room_1 (fun v h' ws' => v = some (.int 1))) T (mkF m 315 #[.val (.int xa), .val (.int xb), .val (.int xc), .val (.int xd), .val (.int xm), .val (.ref b217), .val (.int (0 : Int32)), .val (.int (Int32.ofNat j)), .val (.ref b236), .val (.ref b239), .val (.int st), .val (.int (Int32.ofNat ev))] [])) (fun J => ?_) (fun T X => ?_)
      · refine s_icmp X (pc' := 309) (pcF := 305) at_302 (by decide) (by decide) rfl (fun (q2 : ¬ (Int32.ofNat ev) = (0 : Int32)) => ?_) (fun (q2 : (Int32.ofNat ev) = (0 : Int32)) => ?_)
        · refine s_iconst X (pc' := 310) at_309 (v := (0 : Int32)) rfl rfl ?_
          refine s_icmpT X (pc' := 315) at_310 (show (if ev = ([] : List Int32).length then (1 : Int32) else 0) = (0 : Int32) from if_neg (fun z => q2 (congrArg Int32.ofNat z))) (by decide) (by decide) ?_
          exact J T X
        · refine s_iconst X (pc' := 306) at_305 (v := (1 : Int32)) rfl rfl ?_
          refine s_goto X (pc' := 310) at_306 (by decide) (by decide) ?_
          refine s_icmpT X (pc' := 315) at_310 (show (if ev = ([] : List Int32).length then (1 : Int32) else 0) = (1 : Int32) from if_pos ((on_eq (by omega) (by decide)).mp (show Int32.ofNat ev = Int32.ofNat 0 from q2))) (by decide) (by decide) ?_
          exact J T X
      · refine s_aload X (pc' := 317) at_315 rfl rfl rfl ?_
        refine s_virtual X (pc' := 320) (W := 0) (as' := []) (S := []) (k' := 8) (n' := 18) at_317 (hw _ (List.mem_of_getElem? (i := 83) rfl)) (hw _ (List.mem_of_getElem? (i := 84) rfl)) (hw _ (List.mem_of_getElem? (i := 86) rfl)) (hw _ (List.mem_of_getElem? (i := 85) rfl)) (nface (hw _ (List.mem_of_getElem? (i := 86) rfl))) (by decide) own_pd25 rfl E_b239 ((hp_skw l Z a0 hw hEL b239 _ g_b239 P_3 S_r he U O2 P5 O4 rG3).payS (by simp) (hw _ (List.mem_of_getElem? (i := 87) rfl)) (hw _ (List.mem_of_getElem? (i := 7) rfl)) hEL (by decide) (by decide)) (Nat.le_of_ble_eq_true rfl) rfl rfl (by decide) (by decide) (by decide) (by decide) rfl (fun T h267 v_ ws_ X hgr_ q268 => ?_)
        obtain ⟨rfl, K_, P_4, rfl⟩ := q268
        show Go p e below _ T (mkF m 320 #[.val (.int xa), .val (.int xb), .val (.int xc), .val (.int xd), .val (.int xm), .val (.ref b217), .val (.int (0 : Int32)), .val (.int (Int32.ofNat j)), .val (.ref b236), .val (.ref b239), .val (.int st), .val (.int (Int32.ofNat ev))] [])
        replace X := X.sub (ws' := [b239]) (by simp)
        replace A_b217 := A_b217.keep K_ (ninS ne_b217_b239 nin0)
        replace S_r := S_r.keep K_ E_b239 (by decide) (hw _ (List.mem_of_getElem? (i := 6) rfl))
        replace E_b239 := E_b239.keep K_
        rw [hi2] at P_4
        refine s_aload X (pc' := 322) at_320 rfl rfl rfl ?_
        refine s_virtual X (pc' := 325) (W := 0) (as' := []) (S := []) (k' := 8) (n' := 18) at_322 (hw _ (List.mem_of_getElem? (i := 78) rfl)) (hw _ (List.mem_of_getElem? (i := 79) rfl)) (hw _ (List.mem_of_getElem? (i := 81) rfl)) (hw _ (List.mem_of_getElem? (i := 80) rfl)) (nface (hw _ (List.mem_of_getElem? (i := 81) rfl))) (by decide) own_pd5 rfl E_b239 ((hp_pos l Z a0 hw hEL b239 _ P_4).payS (by simp) (hw _ (List.mem_of_getElem? (i := 82) rfl)) (hw _ (List.mem_of_getElem? (i := 7) rfl)) hEL (by decide) (by decide)) (Nat.le_of_ble_eq_true rfl) rfl rfl (by decide) (by decide) (by decide) (by decide) rfl (fun T h269 v_ ws_ X hgr_ q270 => ?_)
        obtain ⟨rfl, e_, rfl⟩ := q270
        rw [e_] at X
        show Go p e below _ T (mkF m 325 #[.val (.int xa), .val (.int xb), .val (.int xc), .val (.int xd), .val (.int xm), .val (.ref b217), .val (.int (0 : Int32)), .val (.int (Int32.ofNat j)), .val (.ref b236), .val (.ref b239), .val (.int st), .val (.int (Int32.ofNat ev))] [(.int (Int32.ofNat (ev + 0)))])
        replace X := X.sub (ws' := [b239]) (by simp)
        refine s_iload X (pc' := 327) at_325 rfl rfl ?_
        refine s_icmpF X (pc' := 330) at_327 (show Int32.ofNat (ev + 0) = Int32.ofNat ev from rfl) rfl ?_
        refine s_iconst X (pc' := 331) at_330 (v := (1 : Int32)) rfl rfl ?_
        refine s_goto X (pc' := 335) at_331 (by decide) (by decide) ?_
        exact s_iretN X hEL (ws' := []) (t := .boolean) at_335 rfl (by simp) (by decide) (by decide) (fun x q => by simp at q) rfl
  · refine go_int (z := (1 : Int32)) (pq) ?_
    refine s_istore X (pc' := 42) (L' := #[.val (.int xa), .val (.int xb), .val (.int xc), .val (.int xd), .val (.int xm), .val (.ref b217), .val (.int (1 : Int32)), .unset, .unset, .unset, .unset, .unset]) at_40 rfl rfl ?_
    refine s_iload X (pc' := 44) at_42 rfl rfl ?_
    refine s_iconst X (pc' := 45) at_44 (v := (3 : Int32)) rfl rfl ?_
    refine s_iushr X (pc' := 46) at_45 rfl ?_
    refine s_bipush X (pc' := 48) at_46 (v := (7 : Int32)) (by decide) rfl ?_
    refine s_iand X (pc' := 49) at_48 rfl ?_
    refine s_iload X (pc' := 51) at_49 rfl rfl ?_
    refine s_iconst X (pc' := 52) at_51 (v := (1 : Int32)) rfl rfl ?_
    refine s_iadd X (pc' := 53) at_52 rfl ?_
    refine s_irem X (pc' := 54) at_53 (by decide) rfl ?_
    obtain ⟨k0, hk0', gk0⟩ := rem_k ((xm.toUInt32 >>> ((3 : Int32) &&& 31).toUInt32).toInt32) ((1 : Int32) + (1 : Int32)) 2 (by decide) (by decide) (by decide)
    have hk0 : k0 ≤ 1 := by omega
    refine go_int (z := (Int32.ofNat k0)) (gk0) ?_
    refine s_istore X (pc' := 56) (L' := #[.val (.int xa), .val (.int xb), .val (.int xc), .val (.int xd), .val (.int xm), .val (.ref b217), .val (.int (1 : Int32)), .val (.int (Int32.ofNat k0)), .unset, .unset, .unset, .unset]) at_54 rfl rfl ?_
    refine s_iload X (pc' := 58) at_56 rfl rfl ?_
    refine s_ifT X (pc' := 69) at_58 (show ¬ (1 : Int32) = (0 : Int32) by decide) (by decide) (by decide) ?_
    refine s_iload X (pc' := 71) at_69 rfl rfl ?_
    refine s_iconst X (pc' := 72) at_71 (v := (1 : Int32)) rfl rfl ?_
    refine s_icmpF X (pc' := 75) at_72 (show (1 : Int32) = (1 : Int32) by decide) rfl ?_
    refine s_iconst X (pc' := 76) at_75 (v := (1 : Int32)) rfl rfl ?_
    refine s_newarr X (pc' := 78) (k' := 2) (n' := 5) (N := 1) at_76 (hw _ (List.mem_of_getElem? (i := 0) rfl)) rfl (by decide) (by decide) (by decide) (by decide) (by decide) rfl (fun T h272 b271 gb_b271 X' E273 A_b271 => ?_)
    have g_b271 : Z.heap.size ≤ b271 := by rw [gb_b271]; exact X.lt
    have ne_b217_b271 : b217 ≠ b271 := Nat.ne_of_lt (by rw [gb_b271]; exact A_b217.lt)
    replace A_b217 := A_b217.ext E273
    replace X := X'
    replace A_b271 : Ary Z h272 b271 .char [(.int (0 : Int32))] := A_b271
    refine s_dup X (pc' := 79) at_78 rfl rfl ?_
    refine s_iconst X (pc' := 80) at_79 (v := (0 : Int32)) rfl rfl ?_
    refine s_aload X (pc' := 82) at_80 rfl rfl rfl ?_
    refine s_iconst X (pc' := 83) at_82 (v := (0 : Int32)) rfl rfl ?_
    refine s_caload X (pc' := 84) (i := 0) (v := (.int z0)) at_83 A_b217 rfl rfl rfl ?_
    refine s_castore X (pc' := 85) (i := 0) at_84 A_b271 rfl (Nat.le_of_ble_eq_true rfl) g_b271 (by simp) rfl (fun T h274 X W275 A' => ?_)
    replace A_b217 := A_b217.other W275 ne_b217_b271
    replace A_b271 : Ary Z h274 b271 .char [(.int (nar .char z0))] := A'
    refine s_astore X (pc' := 87) (L' := #[.val (.int xa), .val (.int xb), .val (.int xc), .val (.int xd), .val (.int xm), .val (.ref b217), .val (.int (1 : Int32)), .val (.int (Int32.ofNat k0)), .val (.ref b271), .unset, .unset, .unset]) at_85 rfl rfl rfl ?_
    refine s_goto X (pc' := 186) at_87 (by decide) (by decide) ?_
    refine s_new X (pc' := 189) (k' := 3) (n' := 7) at_186 (hw _ (List.mem_of_getElem? (i := 5) rfl)) (hw _ (List.mem_of_getElem? (i := 6) rfl)) (hw _ (List.mem_of_getElem? (i := 7) rfl)) (by decide) (by decide) (by decide) (by decide) rfl (fun T h277 b276 gb_b276 X' E278 E_b276 D_b276 U_b276 => ?_)
    have g_b276 : Z.heap.size ≤ b276 := by rw [gb_b276]; exact X.lt
    have ne_b217_b276 : b217 ≠ b276 := Nat.ne_of_lt (by rw [gb_b276]; exact A_b217.lt)
    have ne_b271_b276 : b271 ≠ b276 := Nat.ne_of_lt (by rw [gb_b276]; exact A_b271.lt)
    replace A_b217 := A_b217.ext E278
    replace A_b271 := A_b271.ext E278
    replace X := X'
    have F_b276_value : Fld Z h277 b276 "com/example/halyard/halyard/HeaderParser" "value" "Ljava/lang/String;" .null := D_b276 (Or.inr (hw _ (List.mem_of_getElem? (i := 34) rfl))) (ty := (.object "java/lang/String")) (by decide)
    have F_b276_position : Fld Z h277 b276 "com/example/halyard/halyard/HeaderParser" "position" "I" (.int (0 : Int32)) := D_b276 (Or.inl (hw _ (List.mem_of_getElem? (i := 77) rfl))) (ty := .int) (by decide)
    refine s_dup X (pc' := 190) at_189 rfl rfl ?_
    refine s_new X (pc' := 193) (k' := 4) (n' := 11) at_190 (hw _ (List.mem_of_getElem? (i := 8) rfl)) (hw _ (List.mem_of_getElem? (i := 9) rfl)) (hw _ (List.mem_of_getElem? (i := 10) rfl)) (by decide) (by decide) (by decide) (by decide) rfl (fun T h280 b279 gb_b279 X' E281 E_b279 D_b279 U_b279 => ?_)
    have g_b279 : Z.heap.size ≤ b279 := by rw [gb_b279]; exact X.lt
    have ne_b276_b279 : b276 ≠ b279 := Nat.ne_of_lt (by rw [gb_b279]; exact E_b276.lt)
    have ne_b217_b279 : b217 ≠ b279 := Nat.ne_of_lt (by rw [gb_b279]; exact A_b217.lt)
    have ne_b271_b279 : b271 ≠ b279 := Nat.ne_of_lt (by rw [gb_b279]; exact A_b271.lt)
    replace E_b276 := E_b276.ext E281
    replace F_b276_value := F_b276_value.ext E281
    replace F_b276_position := F_b276_position.ext E281
    replace A_b217 := A_b217.ext E281
    replace A_b271 := A_b271.ext E281
    replace X := X'
    have F_b279_value : Fld Z h280 b279 "java/lang/String" "value" "[B" .null := D_b279 (Or.inr (hw _ (List.mem_of_getElem? (i := 23) rfl))) (ty := (.array .byte)) (by decide)
    have F_b279_coder : Fld Z h280 b279 "java/lang/String" "coder" "B" (.int (0 : Int32)) := D_b279 (Or.inr (hw _ (List.mem_of_getElem? (i := 24) rfl))) (ty := .byte) (by decide)
    refine s_dup X (pc' := 194) at_193 rfl rfl ?_
    refine s_aload X (pc' := 196) at_194 rfl rfl rfl ?_
    have hp : ∀ c ∈ ([z0] : List Int32), ¬ c < 0 ∧ ¬ (65535 : Int32) < c := (alS kz0 al0)
    replace A_b271 : Ary Z h280 b271 .char [(.int z0)] := by rw [nar_id kz0] at A_b271; exact A_b271
    by_cases hl : ∀ c ∈ ([z0] : List Int32), ¬ (255 : Int32) < c
    · refine s_special X (pc' := 199) (W := 3) (as' := [(.ref b271)]) (S := [(.ref b279), (.ref b276), (.ref b276)]) (k' := 5) (n' := 12) at_196 rfl (hw _ (List.mem_of_getElem? (i := 11) rfl)) (hw _ (List.mem_of_getElem? (i := 12) rfl)) (hw _ (List.mem_of_getElem? (i := 13) rfl)) (by decide) own_pd22 rfl (newStrPay hw hEL O2 P5 X.old g_b279 (by simp) E_b279 F_b279_value F_b279_coder (cs := [z0]) (rfl) A_b271 (n := 1) rfl (by decide) (by decide) (fun c hc => ⟨(hp c hc).1, hl c hc⟩) (by decide) (by decide)) (Nat.le_of_ble_eq_true rfl) rfl rfl (by decide) (by decide) (by decide) (by decide) rfl (fun T h282 v_ ws_ X hgr_ q283 => ?_)
      obtain ⟨rfl, K_, S_b279, rfl⟩ := q283
      show Go p e below _ T (mkF m 199 #[.val (.int xa), .val (.int xb), .val (.int xc), .val (.int xd), .val (.int xm), .val (.ref b217), .val (.int (1 : Int32)), .val (.int (Int32.ofNat k0)), .val (.ref b271), .unset, .unset, .unset] [(.ref b279), (.ref b276), (.ref b276)])
      replace F_b276_value := F_b276_value.keep K_ (ninS ne_b276_b279 nin0)
      replace F_b276_position := F_b276_position.keep K_ (ninS ne_b276_b279 nin0)
      replace A_b217 := A_b217.keep K_ (ninS ne_b217_b279 nin0)
      replace E_b276 := E_b276.keep K_
      replace E_b279 := E_b279.keep K_
      refine s_special X (pc' := 202) (W := 1) (as' := [(.ref b279)]) (S := [(.ref b276)]) (k' := 5) (n' := 12) at_199 rfl (hw _ (List.mem_of_getElem? (i := 29) rfl)) (hw _ (List.mem_of_getElem? (i := 30) rfl)) (hw _ (List.mem_of_getElem? (i := 31) rfl)) (by decide) own_pd23 rfl ((hp_ini l Z a0 hw hEL b276 b279 _ g_b276 E_b276 F_b276_value F_b276_position).payS (by simp) (hw _ (List.mem_of_getElem? (i := 31) rfl)) (hw _ (List.mem_of_getElem? (i := 7) rfl)) hEL (by decide) (by decide)) (Nat.le_of_ble_eq_true rfl) rfl rfl (by decide) (by decide) (by decide) (by decide) rfl (fun T h286 v_ ws_ X hgr_ q287 => ?_)
      obtain ⟨rfl, K_, P_1, rfl⟩ := q287
      show Go p e below _ T (mkF m 202 #[.val (.int xa), .val (.int xb), .val (.int xc), .val (.int xd), .val (.int xm), .val (.ref b217), .val (.int (1 : Int32)), .val (.int (Int32.ofNat k0)), .val (.ref b271), .unset, .unset, .unset] [(.ref b276)])
      replace X := X.sub (ws' := [b276]) (by simp)
      replace A_b217 := A_b217.keep K_ (ninS ne_b217_b276 nin0)
      replace S_b279 := S_b279.keep K_ E_b276 (by decide) (hw _ (List.mem_of_getElem? (i := 6) rfl))
      replace E_b276 := E_b276.keep K_
      have S_r := S_b279
      refine s_astore X (pc' := 204) (L' := #[.val (.int xa), .val (.int xb), .val (.int xc), .val (.int xd), .val (.int xm), .val (.ref b217), .val (.int (1 : Int32)), .val (.int (Int32.ofNat k0)), .val (.ref b271), .val (.ref b276), .unset, .unset]) at_202 rfl rfl rfl ?_
      refine s_iload X (pc' := 206) at_204 rfl rfl ?_
      refine s_iload X (pc' := 208) at_206 rfl rfl ?_
      refine jn (A := ∀ T (st : Int32), (¬ st < 0 ∧ ¬ (65535 : Int32) < st) → sfV ([z0] : List Int32) st k0 = Int32.ofNat k0 → Cx p l e room_1 s m #[(.int xa), (.int xb), (.int xc), (.int xd), (.int xm)] below meth c Z consts_1 False x code maxLocals ret [b276] T h286 5 12 → Go p e below (Post Z consts_1 s room_1 (fun v h' ws' => v = some (.int 1))) T (mkF m 223 #[.val (.int xa), .val (.int xb), .val (.int xc), .val (.int xd), .val (.int xm), .val (.ref b217), .val (.int (1 : Int32)), .val (.int (Int32.ofNat k0)), .val (.ref b271), .val (.ref b276), .val (.int st), .unset] [])) (fun J => ?_) (fun T st kst hst X => ?_)
      · refine s_icmp X (pc' := 219) (pcF := 211) at_208 (by decide) (by decide) rfl (fun (q1 : ¬ (Int32.ofNat k0) < (1 : Int32)) => ?_) (fun (q1 : (Int32.ofNat k0) < (1 : Int32)) => ?_)
        · have n1 : k0 = 1 := by
            have z : ¬ k0 < 1 := fun z => q1 ((on_lt (by omega) (by decide)).mpr z)
            omega
          refine s_bipush X (pc' := 221) at_219 (v := (120 : Int32)) (by decide) rfl ?_
          refine s_istore X (pc' := 223) (L' := #[.val (.int xa), .val (.int xb), .val (.int xc), .val (.int xd), .val (.int xm), .val (.ref b217), .val (.int (1 : Int32)), .val (.int (Int32.ofNat k0)), .val (.ref b271), .val (.ref b276), .val (.int (120 : Int32)), .unset]) at_221 rfl rfl ?_
          exact J T (120 : Int32) (by decide) (sfV_all _ n1) X
        · have y1 : k0 < 1 := (on_lt (by omega) (by decide)).mp q1
          refine s_aload X (pc' := 213) at_211 rfl rfl rfl ?_
          refine s_iload X (pc' := 215) at_213 rfl rfl ?_
          refine s_caload X (pc' := 216) (i := k0) (v := .int (([z0, z1, z2, z3] : List Int32).getD k0 0)) at_215 A_b217 rfl (map_at ([z0, z1, z2, z3] : List Int32) (show k0 < 4 by omega)) rfl ?_
          refine s_goto X (pc' := 221) at_216 (by decide) (by decide) ?_
          refine s_istore X (pc' := 223) (L' := #[.val (.int xa), .val (.int xb), .val (.int xc), .val (.int xd), .val (.int xm), .val (.ref b217), .val (.int (1 : Int32)), .val (.int (Int32.ofNat k0)), .val (.ref b271), .val (.ref b276), .val (.int (([z0, z1, z2, z3] : List Int32).getD k0 0)), .unset]) at_221 rfl rfl ?_
          exact J T _ (hpd _ (getD_mem (show k0 < 4 by omega))) (by
            have q := take_getD (ds := ([z0, z1, z2, z3] : List Int32)) (n := 1) (i := k0) y1
            rw [← q]
            exact sfV_self (cs := ([z0] : List Int32)) (Nat.le_of_ble_eq_true rfl) y1) X
      · refine s_aload X (pc' := 225) at_223 rfl rfl rfl ?_
        refine s_iload X (pc' := 227) at_225 rfl rfl ?_
        refine s_iload X (pc' := 229) at_227 rfl rfl ?_
        refine s_virtual X (pc' := 232) (W := 0) (as' := [(.int (Int32.ofNat k0)), (.int st)]) (S := []) (k' := 5) (n' := 12) at_229 (hw _ (List.mem_of_getElem? (i := 35) rfl)) (hw _ (List.mem_of_getElem? (i := 36) rfl)) (hw _ (List.mem_of_getElem? (i := 38) rfl)) (hw _ (List.mem_of_getElem? (i := 37) rfl)) (nface (hw _ (List.mem_of_getElem? (i := 38) rfl))) (by decide) own_pd24 rfl E_b276 ((hp_sf l Z a0 hw hEL b276 k0 st _ g_b276 (show k0 ≤ ([z0] : List Int32).length from hk0) kst P_1 S_r (Nat.zero_le _) U O2 P5 O4 rG3).payS (by simp) (hw _ (List.mem_of_getElem? (i := 39) rfl)) (hw _ (List.mem_of_getElem? (i := 7) rfl)) hEL (by decide) (by decide)) (Nat.le_of_ble_eq_true rfl) rfl rfl (by decide) (by decide) (by decide) (by decide) rfl (fun T h288 v_ ws_ X hgr_ q289 => ?_)
        obtain ⟨rfl, K_, ⟨j, hj, hjs, P_2⟩, rfl⟩ := q289
        show Go p e below _ T (mkF m 232 #[.val (.int xa), .val (.int xb), .val (.int xc), .val (.int xd), .val (.int xm), .val (.ref b217), .val (.int (1 : Int32)), .val (.int (Int32.ofNat k0)), .val (.ref b271), .val (.ref b276), .val (.int st), .unset] [])
        replace X := X.sub (ws' := [b276]) (by simp)
        replace A_b217 := A_b217.keep K_ (ninS ne_b217_b276 nin0)
        replace S_r := S_r.keep K_ E_b276 (by decide) (hw _ (List.mem_of_getElem? (i := 6) rfl))
        replace E_b276 := E_b276.keep K_
        replace hj : j ≤ 1 := hj
        obtain rfl : j = k0 := (on_eq (by omega) (by omega)).mp (hjs.trans hst)
        refine s_aload X (pc' := 234) at_232 rfl rfl rfl ?_
        refine s_virtual X (pc' := 237) (W := 0) (as' := []) (S := []) (k' := 5) (n' := 12) at_234 (hw _ (List.mem_of_getElem? (i := 78) rfl)) (hw _ (List.mem_of_getElem? (i := 79) rfl)) (hw _ (List.mem_of_getElem? (i := 81) rfl)) (hw _ (List.mem_of_getElem? (i := 80) rfl)) (nface (hw _ (List.mem_of_getElem? (i := 81) rfl))) (by decide) own_pd5 rfl E_b276 ((hp_pos l Z a0 hw hEL b276 _ P_2).payS (by simp) (hw _ (List.mem_of_getElem? (i := 82) rfl)) (hw _ (List.mem_of_getElem? (i := 7) rfl)) hEL (by decide) (by decide)) (Nat.le_of_ble_eq_true rfl) rfl rfl (by decide) (by decide) (by decide) (by decide) rfl (fun T h290 v_ ws_ X hgr_ q291 => ?_)
        obtain ⟨rfl, e_, rfl⟩ := q291
        rw [e_] at X
        show Go p e below _ T (mkF m 237 #[.val (.int xa), .val (.int xb), .val (.int xc), .val (.int xd), .val (.int xm), .val (.ref b217), .val (.int (1 : Int32)), .val (.int (Int32.ofNat j)), .val (.ref b271), .val (.ref b276), .val (.int st), .unset] [(.int (Int32.ofNat j))])
        replace X := X.sub (ws' := [b276]) (by simp)
        refine s_iload X (pc' := 239) at_237 rfl rfl ?_
        refine s_icmpT X (pc' := 244) at_239 rfl (by decide) (by decide) ?_
        refine s_aload X (pc' := 246) at_244 rfl rfl rfl ?_
        refine s_virtual X (pc' := 249) (W := 0) (as' := []) (S := []) (k' := 5) (n' := 12) at_246 (hw _ (List.mem_of_getElem? (i := 83) rfl)) (hw _ (List.mem_of_getElem? (i := 84) rfl)) (hw _ (List.mem_of_getElem? (i := 86) rfl)) (hw _ (List.mem_of_getElem? (i := 85) rfl)) (nface (hw _ (List.mem_of_getElem? (i := 86) rfl))) (by decide) own_pd25 rfl E_b276 ((hp_skw l Z a0 hw hEL b276 _ g_b276 P_2 S_r hj U O2 P5 O4 rG3).payS (by simp) (hw _ (List.mem_of_getElem? (i := 87) rfl)) (hw _ (List.mem_of_getElem? (i := 7) rfl)) hEL (by decide) (by decide)) (Nat.le_of_ble_eq_true rfl) rfl rfl (by decide) (by decide) (by decide) (by decide) rfl (fun T h292 v_ ws_ X hgr_ q293 => ?_)
        obtain ⟨rfl, K_, P_3, rfl⟩ := q293
        show Go p e below _ T (mkF m 249 #[.val (.int xa), .val (.int xb), .val (.int xc), .val (.int xd), .val (.int xm), .val (.ref b217), .val (.int (1 : Int32)), .val (.int (Int32.ofNat j)), .val (.ref b271), .val (.ref b276), .val (.int st), .unset] [])
        replace X := X.sub (ws' := [b276]) (by simp)
        replace A_b217 := A_b217.keep K_ (ninS ne_b217_b276 nin0)
        replace S_r := S_r.keep K_ E_b276 (by decide) (hw _ (List.mem_of_getElem? (i := 6) rfl))
        replace E_b276 := E_b276.keep K_
        refine s_aload X (pc' := 251) at_249 rfl rfl rfl ?_
        refine s_iload X (pc' := 253) at_251 rfl rfl ?_
        refine s_aload X (pc' := 255) at_253 rfl rfl rfl ?_
        refine s_iload X (pc' := 257) at_255 rfl rfl ?_
        refine s_aload X (pc' := 259) at_257 rfl rfl rfl ?_
        refine s_iload X (pc' := 261) at_259 rfl rfl ?_
        refine s_aload X (pc' := 263) at_261 rfl rfl rfl ?_
        refine s_iload X (pc' := 265) at_263 rfl rfl ?_
        refine s_iload X (pc' := 267) at_265 rfl rfl ?_
        refine s_static X (pc' := 270) (W := 6) (as' := [(.ref b217), (.int (1 : Int32)), (.int (Int32.ofNat j))]) (S := [(.int (1 : Int32)), (.ref b217), (.int (1 : Int32)), (.ref b217), (.int (1 : Int32)), (.ref b217)]) (k' := 5) (n' := 12) at_267 (hw _ (List.mem_of_getElem? (i := 88) rfl)) (hw _ (List.mem_of_getElem? (i := 89) rfl)) (hw _ (List.mem_of_getElem? (i := 3) rfl)) (hw _ (List.mem_of_getElem? (i := 90) rfl)) (by decide) own_pd26 rfl ((own_step l Z a0 hw hEL b217 ([z0, z1, z2, z3] : List Int32) 1 j _ A_b217 (by show 1 ≤ 4; omega) (Nat.le_of_ble_eq_true rfl) hj).payS (by simp) (hw _ (List.mem_of_getElem? (i := 90) rfl)) (hw _ (List.mem_of_getElem? (i := 3) rfl)) hEL (by decide) (by decide)) (Nat.le_of_ble_eq_true rfl) rfl rfl (by decide) (by decide) (by decide) (by decide) rfl (fun T h294 v_ ws_ X hgr_ q295 => ?_)
        obtain ⟨rfl, e_, rfl⟩ := q295
        rw [e_] at X
        show Go p e below _ T (mkF m 270 #[.val (.int xa), .val (.int xb), .val (.int xc), .val (.int xd), .val (.int xm), .val (.ref b217), .val (.int (1 : Int32)), .val (.int (Int32.ofNat j)), .val (.ref b271), .val (.ref b276), .val (.int st), .unset] [(.int (Int32.ofNat (stepN ([z0, z1, z2, z3] : List Int32) 1 j))), (.int (1 : Int32)), (.ref b217), (.int (1 : Int32)), (.ref b217), (.int (1 : Int32)), (.ref b217)])
        replace X := X.sub (ws' := [b276]) (by simp)
        refine s_static X (pc' := 273) (W := 4) (as' := [(.ref b217), (.int (1 : Int32)), (.int (Int32.ofNat (stepN ([z0, z1, z2, z3] : List Int32) 1 j)))]) (S := [(.int (1 : Int32)), (.ref b217), (.int (1 : Int32)), (.ref b217)]) (k' := 5) (n' := 12) at_270 (hw _ (List.mem_of_getElem? (i := 88) rfl)) (hw _ (List.mem_of_getElem? (i := 89) rfl)) (hw _ (List.mem_of_getElem? (i := 3) rfl)) (hw _ (List.mem_of_getElem? (i := 90) rfl)) (by decide) own_pd26 rfl ((own_step l Z a0 hw hEL b217 ([z0, z1, z2, z3] : List Int32) 1 (stepN ([z0, z1, z2, z3] : List Int32) 1 j) _ A_b217 (by show 1 ≤ 4; omega) (Nat.le_of_ble_eq_true rfl) (step_le ([z0, z1, z2, z3] : List Int32) 1 _ hj)).payS (by simp) (hw _ (List.mem_of_getElem? (i := 90) rfl)) (hw _ (List.mem_of_getElem? (i := 3) rfl)) hEL (by decide) (by decide)) (Nat.le_of_ble_eq_true rfl) rfl rfl (by decide) (by decide) (by decide) (by decide) rfl (fun T h296 v_ ws_ X hgr_ q297 => ?_)
        obtain ⟨rfl, e_, rfl⟩ := q297
        rw [e_] at X
        show Go p e below _ T (mkF m 273 #[.val (.int xa), .val (.int xb), .val (.int xc), .val (.int xd), .val (.int xm), .val (.ref b217), .val (.int (1 : Int32)), .val (.int (Int32.ofNat j)), .val (.ref b271), .val (.ref b276), .val (.int st), .unset] [(.int (Int32.ofNat (stepN ([z0, z1, z2, z3] : List Int32) 1 (stepN ([z0, z1, z2, z3] : List Int32) 1 j)))), (.int (1 : Int32)), (.ref b217), (.int (1 : Int32)), (.ref b217)])
        replace X := X.sub (ws' := [b276]) (by simp)
        refine s_static X (pc' := 276) (W := 2) (as' := [(.ref b217), (.int (1 : Int32)), (.int (Int32.ofNat (stepN ([z0, z1, z2, z3] : List Int32) 1 (stepN ([z0, z1, z2, z3] : List Int32) 1 j))))]) (S := [(.int (1 : Int32)), (.ref b217)]) (k' := 5) (n' := 12) at_273 (hw _ (List.mem_of_getElem? (i := 88) rfl)) (hw _ (List.mem_of_getElem? (i := 89) rfl)) (hw _ (List.mem_of_getElem? (i := 3) rfl)) (hw _ (List.mem_of_getElem? (i := 90) rfl)) (by decide) own_pd26 rfl ((own_step l Z a0 hw hEL b217 ([z0, z1, z2, z3] : List Int32) 1 (stepN ([z0, z1, z2, z3] : List Int32) 1 (stepN ([z0, z1, z2, z3] : List Int32) 1 j)) _ A_b217 (by show 1 ≤ 4; omega) (Nat.le_of_ble_eq_true rfl) (step_le ([z0, z1, z2, z3] : List Int32) 1 _ (step_le ([z0, z1, z2, z3] : List Int32) 1 _ hj))).payS (by simp) (hw _ (List.mem_of_getElem? (i := 90) rfl)) (hw _ (List.mem_of_getElem? (i := 3) rfl)) hEL (by decide) (by decide)) (Nat.le_of_ble_eq_true rfl) rfl rfl (by decide) (by decide) (by decide) (by decide) rfl (fun T h298 v_ ws_ X hgr_ q299 => ?_)
        obtain ⟨rfl, e_, rfl⟩ := q299
        rw [e_] at X
        show Go p e below _ T (mkF m 276 #[.val (.int xa), .val (.int xb), .val (.int xc), .val (.int xd), .val (.int xm), .val (.ref b217), .val (.int (1 : Int32)), .val (.int (Int32.ofNat j)), .val (.ref b271), .val (.ref b276), .val (.int st), .unset] [(.int (Int32.ofNat (stepN ([z0, z1, z2, z3] : List Int32) 1 (stepN ([z0, z1, z2, z3] : List Int32) 1 (stepN ([z0, z1, z2, z3] : List Int32) 1 j))))), (.int (1 : Int32)), (.ref b217)])
        replace X := X.sub (ws' := [b276]) (by simp)
        refine s_static X (pc' := 279) (W := 0) (as' := [(.ref b217), (.int (1 : Int32)), (.int (Int32.ofNat (stepN ([z0, z1, z2, z3] : List Int32) 1 (stepN ([z0, z1, z2, z3] : List Int32) 1 (stepN ([z0, z1, z2, z3] : List Int32) 1 j)))))]) (S := []) (k' := 5) (n' := 12) at_276 (hw _ (List.mem_of_getElem? (i := 88) rfl)) (hw _ (List.mem_of_getElem? (i := 89) rfl)) (hw _ (List.mem_of_getElem? (i := 3) rfl)) (hw _ (List.mem_of_getElem? (i := 90) rfl)) (by decide) own_pd26 rfl ((own_step l Z a0 hw hEL b217 ([z0, z1, z2, z3] : List Int32) 1 (stepN ([z0, z1, z2, z3] : List Int32) 1 (stepN ([z0, z1, z2, z3] : List Int32) 1 (stepN ([z0, z1, z2, z3] : List Int32) 1 j))) _ A_b217 (by show 1 ≤ 4; omega) (Nat.le_of_ble_eq_true rfl) (step_le ([z0, z1, z2, z3] : List Int32) 1 _ (step_le ([z0, z1, z2, z3] : List Int32) 1 _ (step_le ([z0, z1, z2, z3] : List Int32) 1 _ hj)))).payS (by simp) (hw _ (List.mem_of_getElem? (i := 90) rfl)) (hw _ (List.mem_of_getElem? (i := 3) rfl)) hEL (by decide) (by decide)) (Nat.le_of_ble_eq_true rfl) rfl rfl (by decide) (by decide) (by decide) (by decide) rfl (fun T h300 v_ ws_ X hgr_ q301 => ?_)
        obtain ⟨rfl, e_, rfl⟩ := q301
        rw [e_] at X
        show Go p e below _ T (mkF m 279 #[.val (.int xa), .val (.int xb), .val (.int xc), .val (.int xd), .val (.int xm), .val (.ref b217), .val (.int (1 : Int32)), .val (.int (Int32.ofNat j)), .val (.ref b271), .val (.ref b276), .val (.int st), .unset] [(.int (Int32.ofNat (stepN ([z0, z1, z2, z3] : List Int32) 1 (stepN ([z0, z1, z2, z3] : List Int32) 1 (stepN ([z0, z1, z2, z3] : List Int32) 1 (stepN ([z0, z1, z2, z3] : List Int32) 1 j))))))])
        replace X := X.sub (ws' := [b276]) (by simp)
        refine go_int (z := (Int32.ofNat (j + wsL (([z0] : List Int32).drop j)))) (congrArg Int32.ofNat (step4 ([z0, z1, z2, z3] : List Int32) 1 j (by decide) (by show 1 ≤ 4; omega) hj)) ?_
        have he : (j + wsL (([z0] : List Int32).drop j)) ≤ 1 := by
          have q := wsL_le (([z0] : List Int32).drop j)
          rw [List.length_drop] at q
          have q2 : ([z0] : List Int32).length = 1 := rfl
          omega
        have hi2 : wsL (([z0] : List Int32).drop (j + wsL (([z0] : List Int32).drop j))) = 0 := by rw [← List.drop_drop]; exact ws_idem _
        obtain ⟨ev, gev⟩ : ∃ z, z = (j + wsL (([z0] : List Int32).drop j)) := ⟨_, rfl⟩
        rw [← gev] at P_3 he hi2 ⊢
        refine s_istore X (pc' := 281) (L' := #[.val (.int xa), .val (.int xb), .val (.int xc), .val (.int xd), .val (.int xm), .val (.ref b217), .val (.int (1 : Int32)), .val (.int (Int32.ofNat j)), .val (.ref b271), .val (.ref b276), .val (.int st), .val (.int (Int32.ofNat ev))]) at_279 rfl rfl ?_
        refine s_aload X (pc' := 283) at_281 rfl rfl rfl ?_
        refine s_virtual X (pc' := 286) (W := 0) (as' := []) (S := []) (k' := 5) (n' := 12) at_283 (hw _ (List.mem_of_getElem? (i := 78) rfl)) (hw _ (List.mem_of_getElem? (i := 79) rfl)) (hw _ (List.mem_of_getElem? (i := 81) rfl)) (hw _ (List.mem_of_getElem? (i := 80) rfl)) (nface (hw _ (List.mem_of_getElem? (i := 81) rfl))) (by decide) own_pd5 rfl E_b276 ((hp_pos l Z a0 hw hEL b276 _ P_3).payS (by simp) (hw _ (List.mem_of_getElem? (i := 82) rfl)) (hw _ (List.mem_of_getElem? (i := 7) rfl)) hEL (by decide) (by decide)) (Nat.le_of_ble_eq_true rfl) rfl rfl (by decide) (by decide) (by decide) (by decide) rfl (fun T h302 v_ ws_ X hgr_ q303 => ?_)
        obtain ⟨rfl, e_, rfl⟩ := q303
        rw [e_] at X
        show Go p e below _ T (mkF m 286 #[.val (.int xa), .val (.int xb), .val (.int xc), .val (.int xd), .val (.int xm), .val (.ref b217), .val (.int (1 : Int32)), .val (.int (Int32.ofNat j)), .val (.ref b271), .val (.ref b276), .val (.int st), .val (.int (Int32.ofNat ev))] [(.int (Int32.ofNat ev))])
        replace X := X.sub (ws' := [b276]) (by simp)
        refine s_iload X (pc' := 288) at_286 rfl rfl ?_
        refine s_icmpT X (pc' := 293) at_288 rfl (by decide) (by decide) ?_
        refine s_aload X (pc' := 295) at_293 rfl rfl rfl ?_
        refine s_virtual X (pc' := 298) (W := 0) (as' := []) (S := []) (k' := 5) (n' := 12) at_295 (hw _ (List.mem_of_getElem? (i := 91) rfl)) (hw _ (List.mem_of_getElem? (i := 92) rfl)) (hw _ (List.mem_of_getElem? (i := 94) rfl)) (hw _ (List.mem_of_getElem? (i := 93) rfl)) (nface (hw _ (List.mem_of_getElem? (i := 94) rfl))) (by decide) own_pd4 rfl E_b276 ((hp_atEnd l Z a0 hw hEL b276 _ P_3 S_r he O2 P5).payS (by simp) (hw _ (List.mem_of_getElem? (i := 95) rfl)) (hw _ (List.mem_of_getElem? (i := 7) rfl)) hEL (by decide) (by decide)) (Nat.le_of_ble_eq_true rfl) rfl rfl (by decide) (by decide) (by decide) (by decide) rfl (fun T h304 v_ ws_ X hgr_ q305 => ?_)
        obtain ⟨rfl, e_, rfl⟩ := q305
        rw [e_] at X
        show Go p e below _ T (mkF m 298 #[.val (.int xa), .val (.int xb), .val (.int xc), .val (.int xd), .val (.int xm), .val (.ref b217), .val (.int (1 : Int32)), .val (.int (Int32.ofNat j)), .val (.ref b271), .val (.ref b276), .val (.int st), .val (.int (Int32.ofNat ev))] [(.int (if ev = ([z0] : List Int32).length then 1 else 0))])
        replace X := X.sub (ws' := [b276]) (by simp)
        refine s_iload X (pc' := 300) at_298 rfl rfl ?_
        refine s_iload X (pc' := 302) at_300 rfl rfl ?_
        refine jn (A := ∀ T, Cx p l e room_1 s m #[(.int xa), (.int xb), (.int xc), (.int xd), (.int xm)] below meth c Z consts_1 False x code maxLocals ret [b276] T h292 5 12 → Go p e below (Post Z consts_1 s room_1 (fun v h' ws' => v = some (.int 1))) T (mkF m 315 #[.val (.int xa), .val (.int xb), .val (.int xc), .val (.int xd), .val (.int xm), .val (.ref b217), .val (.int (1 : Int32)), .val (.int (Int32.ofNat j)), .val (.ref b271), .val (.ref b276), .val (.int st), .val (.int (Int32.ofNat ev))] [])) (fun J => ?_) (fun T X => ?_)
        · refine s_icmp X (pc' := 309) (pcF := 305) at_302 (by decide) (by decide) rfl (fun (q2 : ¬ (Int32.ofNat ev) = (1 : Int32)) => ?_) (fun (q2 : (Int32.ofNat ev) = (1 : Int32)) => ?_)
          · refine s_iconst X (pc' := 310) at_309 (v := (0 : Int32)) rfl rfl ?_
            refine s_icmpT X (pc' := 315) at_310 (show (if ev = ([z0] : List Int32).length then (1 : Int32) else 0) = (0 : Int32) from if_neg (fun z => q2 (congrArg Int32.ofNat z))) (by decide) (by decide) ?_
            exact J T X
          · refine s_iconst X (pc' := 306) at_305 (v := (1 : Int32)) rfl rfl ?_
            refine s_goto X (pc' := 310) at_306 (by decide) (by decide) ?_
            refine s_icmpT X (pc' := 315) at_310 (show (if ev = ([z0] : List Int32).length then (1 : Int32) else 0) = (1 : Int32) from if_pos ((on_eq (by omega) (by decide)).mp (show Int32.ofNat ev = Int32.ofNat 1 from q2))) (by decide) (by decide) ?_
            exact J T X
        · refine s_aload X (pc' := 317) at_315 rfl rfl rfl ?_
          refine s_virtual X (pc' := 320) (W := 0) (as' := []) (S := []) (k' := 5) (n' := 12) at_317 (hw _ (List.mem_of_getElem? (i := 83) rfl)) (hw _ (List.mem_of_getElem? (i := 84) rfl)) (hw _ (List.mem_of_getElem? (i := 86) rfl)) (hw _ (List.mem_of_getElem? (i := 85) rfl)) (nface (hw _ (List.mem_of_getElem? (i := 86) rfl))) (by decide) own_pd25 rfl E_b276 ((hp_skw l Z a0 hw hEL b276 _ g_b276 P_3 S_r he U O2 P5 O4 rG3).payS (by simp) (hw _ (List.mem_of_getElem? (i := 87) rfl)) (hw _ (List.mem_of_getElem? (i := 7) rfl)) hEL (by decide) (by decide)) (Nat.le_of_ble_eq_true rfl) rfl rfl (by decide) (by decide) (by decide) (by decide) rfl (fun T h306 v_ ws_ X hgr_ q307 => ?_)
          obtain ⟨rfl, K_, P_4, rfl⟩ := q307
          show Go p e below _ T (mkF m 320 #[.val (.int xa), .val (.int xb), .val (.int xc), .val (.int xd), .val (.int xm), .val (.ref b217), .val (.int (1 : Int32)), .val (.int (Int32.ofNat j)), .val (.ref b271), .val (.ref b276), .val (.int st), .val (.int (Int32.ofNat ev))] [])
          replace X := X.sub (ws' := [b276]) (by simp)
          replace A_b217 := A_b217.keep K_ (ninS ne_b217_b276 nin0)
          replace S_r := S_r.keep K_ E_b276 (by decide) (hw _ (List.mem_of_getElem? (i := 6) rfl))
          replace E_b276 := E_b276.keep K_
          rw [hi2] at P_4
          refine s_aload X (pc' := 322) at_320 rfl rfl rfl ?_
          refine s_virtual X (pc' := 325) (W := 0) (as' := []) (S := []) (k' := 5) (n' := 12) at_322 (hw _ (List.mem_of_getElem? (i := 78) rfl)) (hw _ (List.mem_of_getElem? (i := 79) rfl)) (hw _ (List.mem_of_getElem? (i := 81) rfl)) (hw _ (List.mem_of_getElem? (i := 80) rfl)) (nface (hw _ (List.mem_of_getElem? (i := 81) rfl))) (by decide) own_pd5 rfl E_b276 ((hp_pos l Z a0 hw hEL b276 _ P_4).payS (by simp) (hw _ (List.mem_of_getElem? (i := 82) rfl)) (hw _ (List.mem_of_getElem? (i := 7) rfl)) hEL (by decide) (by decide)) (Nat.le_of_ble_eq_true rfl) rfl rfl (by decide) (by decide) (by decide) (by decide) rfl (fun T h308 v_ ws_ X hgr_ q309 => ?_)
          obtain ⟨rfl, e_, rfl⟩ := q309
          rw [e_] at X
          show Go p e below _ T (mkF m 325 #[.val (.int xa), .val (.int xb), .val (.int xc), .val (.int xd), .val (.int xm), .val (.ref b217), .val (.int (1 : Int32)), .val (.int (Int32.ofNat j)), .val (.ref b271), .val (.ref b276), .val (.int st), .val (.int (Int32.ofNat ev))] [(.int (Int32.ofNat (ev + 0)))])
          replace X := X.sub (ws' := [b276]) (by simp)
          refine s_iload X (pc' := 327) at_325 rfl rfl ?_
          refine s_icmpF X (pc' := 330) at_327 (show Int32.ofNat (ev + 0) = Int32.ofNat ev from rfl) rfl ?_
          refine s_iconst X (pc' := 331) at_330 (v := (1 : Int32)) rfl rfl ?_
          refine s_goto X (pc' := 335) at_331 (by decide) (by decide) ?_
          exact s_iretN X hEL (ws' := []) (t := .boolean) at_335 rfl (by simp) (by decide) (by decide) (fun x q => by simp at q) rfl
    · refine s_special X (pc' := 199) (W := 3) (as' := [(.ref b271)]) (S := [(.ref b279), (.ref b276), (.ref b276)]) (k' := 6) (n' := 14) at_196 rfl (hw _ (List.mem_of_getElem? (i := 11) rfl)) (hw _ (List.mem_of_getElem? (i := 12) rfl)) (hw _ (List.mem_of_getElem? (i := 13) rfl)) (by decide) own_pd22 rfl ((u_i1_1 l Z a0 hw hEL b279 b271 z0 _ X.old g_b279 E_b279 F_b279_value F_b279_coder A_b271 hp (nall hl) O2 P5 U).payS (by simp) (hw _ (List.mem_of_getElem? (i := 13) rfl)) (hw _ (List.mem_of_getElem? (i := 10) rfl)) hEL (by decide) (by decide)) (Nat.le_of_ble_eq_true rfl) rfl rfl (by decide) (by decide) (by decide) (by decide) rfl (fun T h284 v_ ws_ X hgr_ q285 => ?_)
      obtain ⟨rfl, K_, S_b279, rfl⟩ := q285
      show Go p e below _ T (mkF m 199 #[.val (.int xa), .val (.int xb), .val (.int xc), .val (.int xd), .val (.int xm), .val (.ref b217), .val (.int (1 : Int32)), .val (.int (Int32.ofNat k0)), .val (.ref b271), .unset, .unset, .unset] [(.ref b279), (.ref b276), (.ref b276)])
      replace F_b276_value := F_b276_value.keep K_ (ninS ne_b276_b279 nin0)
      replace F_b276_position := F_b276_position.keep K_ (ninS ne_b276_b279 nin0)
      replace A_b217 := A_b217.keep K_ (ninS ne_b217_b279 nin0)
      replace E_b276 := E_b276.keep K_
      replace E_b279 := E_b279.keep K_
      refine s_special X (pc' := 202) (W := 1) (as' := [(.ref b279)]) (S := [(.ref b276)]) (k' := 6) (n' := 14) at_199 rfl (hw _ (List.mem_of_getElem? (i := 29) rfl)) (hw _ (List.mem_of_getElem? (i := 30) rfl)) (hw _ (List.mem_of_getElem? (i := 31) rfl)) (by decide) own_pd23 rfl ((hp_ini l Z a0 hw hEL b276 b279 _ g_b276 E_b276 F_b276_value F_b276_position).payS (by simp) (hw _ (List.mem_of_getElem? (i := 31) rfl)) (hw _ (List.mem_of_getElem? (i := 7) rfl)) hEL (by decide) (by decide)) (Nat.le_of_ble_eq_true rfl) rfl rfl (by decide) (by decide) (by decide) (by decide) rfl (fun T h310 v_ ws_ X hgr_ q311 => ?_)
      obtain ⟨rfl, K_, P_1, rfl⟩ := q311
      show Go p e below _ T (mkF m 202 #[.val (.int xa), .val (.int xb), .val (.int xc), .val (.int xd), .val (.int xm), .val (.ref b217), .val (.int (1 : Int32)), .val (.int (Int32.ofNat k0)), .val (.ref b271), .unset, .unset, .unset] [(.ref b276)])
      replace X := X.sub (ws' := [b276]) (by simp)
      replace A_b217 := A_b217.keep K_ (ninS ne_b217_b276 nin0)
      replace S_b279 := S_b279.keep K_ E_b276 (by decide) (hw _ (List.mem_of_getElem? (i := 6) rfl))
      replace E_b276 := E_b276.keep K_
      have S_r := S_b279
      refine s_astore X (pc' := 204) (L' := #[.val (.int xa), .val (.int xb), .val (.int xc), .val (.int xd), .val (.int xm), .val (.ref b217), .val (.int (1 : Int32)), .val (.int (Int32.ofNat k0)), .val (.ref b271), .val (.ref b276), .unset, .unset]) at_202 rfl rfl rfl ?_
      refine s_iload X (pc' := 206) at_204 rfl rfl ?_
      refine s_iload X (pc' := 208) at_206 rfl rfl ?_
      refine jn (A := ∀ T (st : Int32), (¬ st < 0 ∧ ¬ (65535 : Int32) < st) → sfV ([z0] : List Int32) st k0 = Int32.ofNat k0 → Cx p l e room_1 s m #[(.int xa), (.int xb), (.int xc), (.int xd), (.int xm)] below meth c Z consts_1 False x code maxLocals ret [b276] T h310 6 14 → Go p e below (Post Z consts_1 s room_1 (fun v h' ws' => v = some (.int 1))) T (mkF m 223 #[.val (.int xa), .val (.int xb), .val (.int xc), .val (.int xd), .val (.int xm), .val (.ref b217), .val (.int (1 : Int32)), .val (.int (Int32.ofNat k0)), .val (.ref b271), .val (.ref b276), .val (.int st), .unset] [])) (fun J => ?_) (fun T st kst hst X => ?_)
      · refine s_icmp X (pc' := 219) (pcF := 211) at_208 (by decide) (by decide) rfl (fun (q1 : ¬ (Int32.ofNat k0) < (1 : Int32)) => ?_) (fun (q1 : (Int32.ofNat k0) < (1 : Int32)) => ?_)
        · have n1 : k0 = 1 := by
            have z : ¬ k0 < 1 := fun z => q1 ((on_lt (by omega) (by decide)).mpr z)
            omega
          refine s_bipush X (pc' := 221) at_219 (v := (120 : Int32)) (by decide) rfl ?_
          refine s_istore X (pc' := 223) (L' := #[.val (.int xa), .val (.int xb), .val (.int xc), .val (.int xd), .val (.int xm), .val (.ref b217), .val (.int (1 : Int32)), .val (.int (Int32.ofNat k0)), .val (.ref b271), .val (.ref b276), .val (.int (120 : Int32)), .unset]) at_221 rfl rfl ?_
          exact J T (120 : Int32) (by decide) (sfV_all _ n1) X
        · have y1 : k0 < 1 := (on_lt (by omega) (by decide)).mp q1
          refine s_aload X (pc' := 213) at_211 rfl rfl rfl ?_
          refine s_iload X (pc' := 215) at_213 rfl rfl ?_
          refine s_caload X (pc' := 216) (i := k0) (v := .int (([z0, z1, z2, z3] : List Int32).getD k0 0)) at_215 A_b217 rfl (map_at ([z0, z1, z2, z3] : List Int32) (show k0 < 4 by omega)) rfl ?_
          refine s_goto X (pc' := 221) at_216 (by decide) (by decide) ?_
          refine s_istore X (pc' := 223) (L' := #[.val (.int xa), .val (.int xb), .val (.int xc), .val (.int xd), .val (.int xm), .val (.ref b217), .val (.int (1 : Int32)), .val (.int (Int32.ofNat k0)), .val (.ref b271), .val (.ref b276), .val (.int (([z0, z1, z2, z3] : List Int32).getD k0 0)), .unset]) at_221 rfl rfl ?_
          exact J T _ (hpd _ (getD_mem (show k0 < 4 by omega))) (by
            have q := take_getD (ds := ([z0, z1, z2, z3] : List Int32)) (n := 1) (i := k0) y1
            rw [← q]
            exact sfV_self (cs := ([z0] : List Int32)) (Nat.le_of_ble_eq_true rfl) y1) X
      · refine s_aload X (pc' := 225) at_223 rfl rfl rfl ?_
        refine s_iload X (pc' := 227) at_225 rfl rfl ?_
        refine s_iload X (pc' := 229) at_227 rfl rfl ?_
        refine s_virtual X (pc' := 232) (W := 0) (as' := [(.int (Int32.ofNat k0)), (.int st)]) (S := []) (k' := 6) (n' := 14) at_229 (hw _ (List.mem_of_getElem? (i := 35) rfl)) (hw _ (List.mem_of_getElem? (i := 36) rfl)) (hw _ (List.mem_of_getElem? (i := 38) rfl)) (hw _ (List.mem_of_getElem? (i := 37) rfl)) (nface (hw _ (List.mem_of_getElem? (i := 38) rfl))) (by decide) own_pd24 rfl E_b276 ((hp_sf l Z a0 hw hEL b276 k0 st _ g_b276 (show k0 ≤ ([z0] : List Int32).length from hk0) kst P_1 S_r (Nat.zero_le _) U O2 P5 O4 rG3).payS (by simp) (hw _ (List.mem_of_getElem? (i := 39) rfl)) (hw _ (List.mem_of_getElem? (i := 7) rfl)) hEL (by decide) (by decide)) (Nat.le_of_ble_eq_true rfl) rfl rfl (by decide) (by decide) (by decide) (by decide) rfl (fun T h312 v_ ws_ X hgr_ q313 => ?_)
        obtain ⟨rfl, K_, ⟨j, hj, hjs, P_2⟩, rfl⟩ := q313
        show Go p e below _ T (mkF m 232 #[.val (.int xa), .val (.int xb), .val (.int xc), .val (.int xd), .val (.int xm), .val (.ref b217), .val (.int (1 : Int32)), .val (.int (Int32.ofNat k0)), .val (.ref b271), .val (.ref b276), .val (.int st), .unset] [])
        replace X := X.sub (ws' := [b276]) (by simp)
        replace A_b217 := A_b217.keep K_ (ninS ne_b217_b276 nin0)
        replace S_r := S_r.keep K_ E_b276 (by decide) (hw _ (List.mem_of_getElem? (i := 6) rfl))
        replace E_b276 := E_b276.keep K_
        replace hj : j ≤ 1 := hj
        obtain rfl : j = k0 := (on_eq (by omega) (by omega)).mp (hjs.trans hst)
        refine s_aload X (pc' := 234) at_232 rfl rfl rfl ?_
        refine s_virtual X (pc' := 237) (W := 0) (as' := []) (S := []) (k' := 6) (n' := 14) at_234 (hw _ (List.mem_of_getElem? (i := 78) rfl)) (hw _ (List.mem_of_getElem? (i := 79) rfl)) (hw _ (List.mem_of_getElem? (i := 81) rfl)) (hw _ (List.mem_of_getElem? (i := 80) rfl)) (nface (hw _ (List.mem_of_getElem? (i := 81) rfl))) (by decide) own_pd5 rfl E_b276 ((hp_pos l Z a0 hw hEL b276 _ P_2).payS (by simp) (hw _ (List.mem_of_getElem? (i := 82) rfl)) (hw _ (List.mem_of_getElem? (i := 7) rfl)) hEL (by decide) (by decide)) (Nat.le_of_ble_eq_true rfl) rfl rfl (by decide) (by decide) (by decide) (by decide) rfl (fun T h314 v_ ws_ X hgr_ q315 => ?_)
        obtain ⟨rfl, e_, rfl⟩ := q315
        rw [e_] at X
        show Go p e below _ T (mkF m 237 #[.val (.int xa), .val (.int xb), .val (.int xc), .val (.int xd), .val (.int xm), .val (.ref b217), .val (.int (1 : Int32)), .val (.int (Int32.ofNat j)), .val (.ref b271), .val (.ref b276), .val (.int st), .unset] [(.int (Int32.ofNat j))])
        replace X := X.sub (ws' := [b276]) (by simp)
        refine s_iload X (pc' := 239) at_237 rfl rfl ?_
        refine s_icmpT X (pc' := 244) at_239 rfl (by decide) (by decide) ?_
        refine s_aload X (pc' := 246) at_244 rfl rfl rfl ?_
        refine s_virtual X (pc' := 249) (W := 0) (as' := []) (S := []) (k' := 6) (n' := 14) at_246 (hw _ (List.mem_of_getElem? (i := 83) rfl)) (hw _ (List.mem_of_getElem? (i := 84) rfl)) (hw _ (List.mem_of_getElem? (i := 86) rfl)) (hw _ (List.mem_of_getElem? (i := 85) rfl)) (nface (hw _ (List.mem_of_getElem? (i := 86) rfl))) (by decide) own_pd25 rfl E_b276 ((hp_skw l Z a0 hw hEL b276 _ g_b276 P_2 S_r hj U O2 P5 O4 rG3).payS (by simp) (hw _ (List.mem_of_getElem? (i := 87) rfl)) (hw _ (List.mem_of_getElem? (i := 7) rfl)) hEL (by decide) (by decide)) (Nat.le_of_ble_eq_true rfl) rfl rfl (by decide) (by decide) (by decide) (by decide) rfl (fun T h316 v_ ws_ X hgr_ q317 => ?_)
        obtain ⟨rfl, K_, P_3, rfl⟩ := q317
        show Go p e below _ T (mkF m 249 #[.val (.int xa), .val (.int xb), .val (.int xc), .val (.int xd), .val (.int xm), .val (.ref b217), .val (.int (1 : Int32)), .val (.int (Int32.ofNat j)), .val (.ref b271), .val (.ref b276), .val (.int st), .unset] [])
        replace X := X.sub (ws' := [b276]) (by simp)
        replace A_b217 := A_b217.keep K_ (ninS ne_b217_b276 nin0)
        replace S_r := S_r.keep K_ E_b276 (by decide) (hw _ (List.mem_of_getElem? (i := 6) rfl))
        replace E_b276 := E_b276.keep K_
        refine s_aload X (pc' := 251) at_249 rfl rfl rfl ?_
        refine s_iload X (pc' := 253) at_251 rfl rfl ?_
        refine s_aload X (pc' := 255) at_253 rfl rfl rfl ?_
        refine s_iload X (pc' := 257) at_255 rfl rfl ?_
        refine s_aload X (pc' := 259) at_257 rfl rfl rfl ?_
        refine s_iload X (pc' := 261) at_259 rfl rfl ?_
        refine s_aload X (pc' := 263) at_261 rfl rfl rfl ?_
        refine s_iload X (pc' := 265) at_263 rfl rfl ?_
        refine s_iload X (pc' := 267) at_265 rfl rfl ?_
        refine s_static X (pc' := 270) (W := 6) (as' := [(.ref b217), (.int (1 : Int32)), (.int (Int32.ofNat j))]) (S := [(.int (1 : Int32)), (.ref b217), (.int (1 : Int32)), (.ref b217), (.int (1 : Int32)), (.ref b217)]) (k' := 6) (n' := 14) at_267 (hw _ (List.mem_of_getElem? (i := 88) rfl)) (hw _ (List.mem_of_getElem? (i := 89) rfl)) (hw _ (List.mem_of_getElem? (i := 3) rfl)) (hw _ (List.mem_of_getElem? (i := 90) rfl)) (by decide) own_pd26 rfl ((own_step l Z a0 hw hEL b217 ([z0, z1, z2, z3] : List Int32) 1 j _ A_b217 (by show 1 ≤ 4; omega) (Nat.le_of_ble_eq_true rfl) hj).payS (by simp) (hw _ (List.mem_of_getElem? (i := 90) rfl)) (hw _ (List.mem_of_getElem? (i := 3) rfl)) hEL (by decide) (by decide)) (Nat.le_of_ble_eq_true rfl) rfl rfl (by decide) (by decide) (by decide) (by decide) rfl (fun T h318 v_ ws_ X hgr_ q319 => ?_)
        obtain ⟨rfl, e_, rfl⟩ := q319
        rw [e_] at X
        show Go p e below _ T (mkF m 270 #[.val (.int xa), .val (.int xb), .val (.int xc), .val (.int xd), .val (.int xm), .val (.ref b217), .val (.int (1 : Int32)), .val (.int (Int32.ofNat j)), .val (.ref b271), .val (.ref b276), .val (.int st), .unset] [(.int (Int32.ofNat (stepN ([z0, z1, z2, z3] : List Int32) 1 j))), (.int (1 : Int32)), (.ref b217), (.int (1 : Int32)), (.ref b217), (.int (1 : Int32)), (.ref b217)])
        replace X := X.sub (ws' := [b276]) (by simp)
        refine s_static X (pc' := 273) (W := 4) (as' := [(.ref b217), (.int (1 : Int32)), (.int (Int32.ofNat (stepN ([z0, z1, z2, z3] : List Int32) 1 j)))]) (S := [(.int (1 : Int32)), (.ref b217), (.int (1 : Int32)), (.ref b217)]) (k' := 6) (n' := 14) at_270 (hw _ (List.mem_of_getElem? (i := 88) rfl)) (hw _ (List.mem_of_getElem? (i := 89) rfl)) (hw _ (List.mem_of_getElem? (i := 3) rfl)) (hw _ (List.mem_of_getElem? (i := 90) rfl)) (by decide) own_pd26 rfl ((own_step l Z a0 hw hEL b217 ([z0, z1, z2, z3] : List Int32) 1 (stepN ([z0, z1, z2, z3] : List Int32) 1 j) _ A_b217 (by show 1 ≤ 4; omega) (Nat.le_of_ble_eq_true rfl) (step_le ([z0, z1, z2, z3] : List Int32) 1 _ hj)).payS (by simp) (hw _ (List.mem_of_getElem? (i := 90) rfl)) (hw _ (List.mem_of_getElem? (i := 3) rfl)) hEL (by decide) (by decide)) (Nat.le_of_ble_eq_true rfl) rfl rfl (by decide) (by decide) (by decide) (by decide) rfl (fun T h320 v_ ws_ X hgr_ q321 => ?_)
        obtain ⟨rfl, e_, rfl⟩ := q321
        rw [e_] at X
        show Go p e below _ T (mkF m 273 #[.val (.int xa), .val (.int xb), .val (.int xc), .val (.int xd), .val (.int xm), .val (.ref b217), .val (.int (1 : Int32)), .val (.int (Int32.ofNat j)), .val (.ref b271), .val (.ref b276), .val (.int st), .unset] [(.int (Int32.ofNat (stepN ([z0, z1, z2, z3] : List Int32) 1 (stepN ([z0, z1, z2, z3] : List Int32) 1 j)))), (.int (1 : Int32)), (.ref b217), (.int (1 : Int32)), (.ref b217)])
        replace X := X.sub (ws' := [b276]) (by simp)
        refine s_static X (pc' := 276) (W := 2) (as' := [(.ref b217), (.int (1 : Int32)), (.int (Int32.ofNat (stepN ([z0, z1, z2, z3] : List Int32) 1 (stepN ([z0, z1, z2, z3] : List Int32) 1 j))))]) (S := [(.int (1 : Int32)), (.ref b217)]) (k' := 6) (n' := 14) at_273 (hw _ (List.mem_of_getElem? (i := 88) rfl)) (hw _ (List.mem_of_getElem? (i := 89) rfl)) (hw _ (List.mem_of_getElem? (i := 3) rfl)) (hw _ (List.mem_of_getElem? (i := 90) rfl)) (by decide) own_pd26 rfl ((own_step l Z a0 hw hEL b217 ([z0, z1, z2, z3] : List Int32) 1 (stepN ([z0, z1, z2, z3] : List Int32) 1 (stepN ([z0, z1, z2, z3] : List Int32) 1 j)) _ A_b217 (by show 1 ≤ 4; omega) (Nat.le_of_ble_eq_true rfl) (step_le ([z0, z1, z2, z3] : List Int32) 1 _ (step_le ([z0, z1, z2, z3] : List Int32) 1 _ hj))).payS (by simp) (hw _ (List.mem_of_getElem? (i := 90) rfl)) (hw _ (List.mem_of_getElem? (i := 3) rfl)) hEL (by decide) (by decide)) (Nat.le_of_ble_eq_true rfl) rfl rfl (by decide) (by decide) (by decide) (by decide) rfl (fun T h322 v_ ws_ X hgr_ q323 => ?_)
        obtain ⟨rfl, e_, rfl⟩ := q323
        rw [e_] at X
        show Go p e below _ T (mkF m 276 #[.val (.int xa), .val (.int xb), .val (.int xc), .val (.int xd), .val (.int xm), .val (.ref b217), .val (.int (1 : Int32)), .val (.int (Int32.ofNat j)), .val (.ref b271), .val (.ref b276), .val (.int st), .unset] [(.int (Int32.ofNat (stepN ([z0, z1, z2, z3] : List Int32) 1 (stepN ([z0, z1, z2, z3] : List Int32) 1 (stepN ([z0, z1, z2, z3] : List Int32) 1 j))))), (.int (1 : Int32)), (.ref b217)])
        replace X := X.sub (ws' := [b276]) (by simp)
        refine s_static X (pc' := 279) (W := 0) (as' := [(.ref b217), (.int (1 : Int32)), (.int (Int32.ofNat (stepN ([z0, z1, z2, z3] : List Int32) 1 (stepN ([z0, z1, z2, z3] : List Int32) 1 (stepN ([z0, z1, z2, z3] : List Int32) 1 j)))))]) (S := []) (k' := 6) (n' := 14) at_276 (hw _ (List.mem_of_getElem? (i := 88) rfl)) (hw _ (List.mem_of_getElem? (i := 89) rfl)) (hw _ (List.mem_of_getElem? (i := 3) rfl)) (hw _ (List.mem_of_getElem? (i := 90) rfl)) (by decide) own_pd26 rfl ((own_step l Z a0 hw hEL b217 ([z0, z1, z2, z3] : List Int32) 1 (stepN ([z0, z1, z2, z3] : List Int32) 1 (stepN ([z0, z1, z2, z3] : List Int32) 1 (stepN ([z0, z1, z2, z3] : List Int32) 1 j))) _ A_b217 (by show 1 ≤ 4; omega) (Nat.le_of_ble_eq_true rfl) (step_le ([z0, z1, z2, z3] : List Int32) 1 _ (step_le ([z0, z1, z2, z3] : List Int32) 1 _ (step_le ([z0, z1, z2, z3] : List Int32) 1 _ hj)))).payS (by simp) (hw _ (List.mem_of_getElem? (i := 90) rfl)) (hw _ (List.mem_of_getElem? (i := 3) rfl)) hEL (by decide) (by decide)) (Nat.le_of_ble_eq_true rfl) rfl rfl (by decide) (by decide) (by decide) (by decide) rfl (fun T h324 v_ ws_ X hgr_ q325 => ?_)
        obtain ⟨rfl, e_, rfl⟩ := q325
        rw [e_] at X
        show Go p e below _ T (mkF m 279 #[.val (.int xa), .val (.int xb), .val (.int xc), .val (.int xd), .val (.int xm), .val (.ref b217), .val (.int (1 : Int32)), .val (.int (Int32.ofNat j)), .val (.ref b271), .val (.ref b276), .val (.int st), .unset] [(.int (Int32.ofNat (stepN ([z0, z1, z2, z3] : List Int32) 1 (stepN ([z0, z1, z2, z3] : List Int32) 1 (stepN ([z0, z1, z2, z3] : List Int32) 1 (stepN ([z0, z1, z2, z3] : List Int32) 1 j))))))])
        replace X := X.sub (ws' := [b276]) (by simp)
        refine go_int (z := (Int32.ofNat (j + wsL (([z0] : List Int32).drop j)))) (congrArg Int32.ofNat (step4 ([z0, z1, z2, z3] : List Int32) 1 j (by decide) (by show 1 ≤ 4; omega) hj)) ?_
        have he : (j + wsL (([z0] : List Int32).drop j)) ≤ 1 := by
          have q := wsL_le (([z0] : List Int32).drop j)
          rw [List.length_drop] at q
          have q2 : ([z0] : List Int32).length = 1 := rfl
          omega
        have hi2 : wsL (([z0] : List Int32).drop (j + wsL (([z0] : List Int32).drop j))) = 0 := by rw [← List.drop_drop]; exact ws_idem _
        obtain ⟨ev, gev⟩ : ∃ z, z = (j + wsL (([z0] : List Int32).drop j)) := ⟨_, rfl⟩
        rw [← gev] at P_3 he hi2 ⊢
        refine s_istore X (pc' := 281) (L' := #[.val (.int xa), .val (.int xb), .val (.int xc), .val (.int xd), .val (.int xm), .val (.ref b217), .val (.int (1 : Int32)), .val (.int (Int32.ofNat j)), .val (.ref b271), .val (.ref b276), .val (.int st), .val (.int (Int32.ofNat ev))]) at_279 rfl rfl ?_
        refine s_aload X (pc' := 283) at_281 rfl rfl rfl ?_
        refine s_virtual X (pc' := 286) (W := 0) (as' := []) (S := []) (k' := 6) (n' := 14) at_283 (hw _ (List.mem_of_getElem? (i := 78) rfl)) (hw _ (List.mem_of_getElem? (i := 79) rfl)) (hw _ (List.mem_of_getElem? (i := 81) rfl)) (hw _ (List.mem_of_getElem? (i := 80) rfl)) (nface (hw _ (List.mem_of_getElem? (i := 81) rfl))) (by decide) own_pd5 rfl E_b276 ((hp_pos l Z a0 hw hEL b276 _ P_3).payS (by simp) (hw _ (List.mem_of_getElem? (i := 82) rfl)) (hw _ (List.mem_of_getElem? (i := 7) rfl)) hEL (by decide) (by decide)) (Nat.le_of_ble_eq_true rfl) rfl rfl (by decide) (by decide) (by decide) (by decide) rfl (fun T h326 v_ ws_ X hgr_ q327 => ?_)
        obtain ⟨rfl, e_, rfl⟩ := q327
        rw [e_] at X
        show Go p e below _ T (mkF m 286 #[.val (.int xa), .val (.int xb), .val (.int xc), .val (.int xd), .val (.int xm), .val (.ref b217), .val (.int (1 : Int32)), .val (.int (Int32.ofNat j)), .val (.ref b271), .val (.ref b276), .val (.int st), .val (.int (Int32.ofNat ev))] [(.int (Int32.ofNat ev))])
        replace X := X.sub (ws' := [b276]) (by simp)
        refine s_iload X (pc' := 288) at_286 rfl rfl ?_
        refine s_icmpT X (pc' := 293) at_288 rfl (by decide) (by decide) ?_
        refine s_aload X (pc' := 295) at_293 rfl rfl rfl ?_
        refine s_virtual X (pc' := 298) (W := 0) (as' := []) (S := []) (k' := 6) (n' := 14) at_295 (hw _ (List.mem_of_getElem? (i := 91) rfl)) (hw _ (List.mem_of_getElem? (i := 92) rfl)) (hw _ (List.mem_of_getElem? (i := 94) rfl)) (hw _ (List.mem_of_getElem? (i := 93) rfl)) (nface (hw _ (List.mem_of_getElem? (i := 94) rfl))) (by decide) own_pd4 rfl E_b276 ((hp_atEnd l Z a0 hw hEL b276 _ P_3 S_r he O2 P5).payS (by simp) (hw _ (List.mem_of_getElem? (i := 95) rfl)) (hw _ (List.mem_of_getElem? (i := 7) rfl)) hEL (by decide) (by decide)) (Nat.le_of_ble_eq_true rfl) rfl rfl (by decide) (by decide) (by decide) (by decide) rfl (fun T h328 v_ ws_ X hgr_ q329 => ?_)
        obtain ⟨rfl, e_, rfl⟩ := q329
        rw [e_] at X
        show Go p e below _ T (mkF m 298 #[.val (.int xa), .val (.int xb), .val (.int xc), .val (.int xd), .val (.int xm), .val (.ref b217), .val (.int (1 : Int32)), .val (.int (Int32.ofNat j)), .val (.ref b271), .val (.ref b276), .val (.int st), .val (.int (Int32.ofNat ev))] [(.int (if ev = ([z0] : List Int32).length then 1 else 0))])
        replace X := X.sub (ws' := [b276]) (by simp)
        refine s_iload X (pc' := 300) at_298 rfl rfl ?_
        refine s_iload X (pc' := 302) at_300 rfl rfl ?_
        refine jn (A := ∀ T, Cx p l e room_1 s m #[(.int xa), (.int xb), (.int xc), (.int xd), (.int xm)] below meth c Z consts_1 False x code maxLocals ret [b276] T h316 6 14 → Go p e below (Post Z consts_1 s room_1 (fun v h' ws' => v = some (.int 1))) T (mkF m 315 #[.val (.int xa), .val (.int xb), .val (.int xc), .val (.int xd), .val (.int xm), .val (.ref b217), .val (.int (1 : Int32)), .val (.int (Int32.ofNat j)), .val (.ref b271), .val (.ref b276), .val (.int st), .val (.int (Int32.ofNat ev))] [])) (fun J => ?_) (fun T X => ?_)
        · refine s_icmp X (pc' := 309) (pcF := 305) at_302 (by decide) (by decide) rfl (fun (q2 : ¬ (Int32.ofNat ev) = (1 : Int32)) => ?_) (fun (q2 : (Int32.ofNat ev) = (1 : Int32)) => ?_)
          · refine s_iconst X (pc' := 310) at_309 (v := (0 : Int32)) rfl rfl ?_
            refine s_icmpT X (pc' := 315) at_310 (show (if ev = ([z0] : List Int32).length then (1 : Int32) else 0) = (0 : Int32) from if_neg (fun z => q2 (congrArg Int32.ofNat z))) (by decide) (by decide) ?_
            exact J T X
          · refine s_iconst X (pc' := 306) at_305 (v := (1 : Int32)) rfl rfl ?_
            refine s_goto X (pc' := 310) at_306 (by decide) (by decide) ?_
            refine s_icmpT X (pc' := 315) at_310 (show (if ev = ([z0] : List Int32).length then (1 : Int32) else 0) = (1 : Int32) from if_pos ((on_eq (by omega) (by decide)).mp (show Int32.ofNat ev = Int32.ofNat 1 from q2))) (by decide) (by decide) ?_
            exact J T X
        · refine s_aload X (pc' := 317) at_315 rfl rfl rfl ?_
          refine s_virtual X (pc' := 320) (W := 0) (as' := []) (S := []) (k' := 6) (n' := 14) at_317 (hw _ (List.mem_of_getElem? (i := 83) rfl)) (hw _ (List.mem_of_getElem? (i := 84) rfl)) (hw _ (List.mem_of_getElem? (i := 86) rfl)) (hw _ (List.mem_of_getElem? (i := 85) rfl)) (nface (hw _ (List.mem_of_getElem? (i := 86) rfl))) (by decide) own_pd25 rfl E_b276 ((hp_skw l Z a0 hw hEL b276 _ g_b276 P_3 S_r he U O2 P5 O4 rG3).payS (by simp) (hw _ (List.mem_of_getElem? (i := 87) rfl)) (hw _ (List.mem_of_getElem? (i := 7) rfl)) hEL (by decide) (by decide)) (Nat.le_of_ble_eq_true rfl) rfl rfl (by decide) (by decide) (by decide) (by decide) rfl (fun T h330 v_ ws_ X hgr_ q331 => ?_)
          obtain ⟨rfl, K_, P_4, rfl⟩ := q331
          show Go p e below _ T (mkF m 320 #[.val (.int xa), .val (.int xb), .val (.int xc), .val (.int xd), .val (.int xm), .val (.ref b217), .val (.int (1 : Int32)), .val (.int (Int32.ofNat j)), .val (.ref b271), .val (.ref b276), .val (.int st), .val (.int (Int32.ofNat ev))] [])
          replace X := X.sub (ws' := [b276]) (by simp)
          replace A_b217 := A_b217.keep K_ (ninS ne_b217_b276 nin0)
          replace S_r := S_r.keep K_ E_b276 (by decide) (hw _ (List.mem_of_getElem? (i := 6) rfl))
          replace E_b276 := E_b276.keep K_
          rw [hi2] at P_4
          refine s_aload X (pc' := 322) at_320 rfl rfl rfl ?_
          refine s_virtual X (pc' := 325) (W := 0) (as' := []) (S := []) (k' := 6) (n' := 14) at_322 (hw _ (List.mem_of_getElem? (i := 78) rfl)) (hw _ (List.mem_of_getElem? (i := 79) rfl)) (hw _ (List.mem_of_getElem? (i := 81) rfl)) (hw _ (List.mem_of_getElem? (i := 80) rfl)) (nface (hw _ (List.mem_of_getElem? (i := 81) rfl))) (by decide) own_pd5 rfl E_b276 ((hp_pos l Z a0 hw hEL b276 _ P_4).payS (by simp) (hw _ (List.mem_of_getElem? (i := 82) rfl)) (hw _ (List.mem_of_getElem? (i := 7) rfl)) hEL (by decide) (by decide)) (Nat.le_of_ble_eq_true rfl) rfl rfl (by decide) (by decide) (by decide) (by decide) rfl (fun T h332 v_ ws_ X hgr_ q333 => ?_)
          obtain ⟨rfl, e_, rfl⟩ := q333
          rw [e_] at X
          show Go p e below _ T (mkF m 325 #[.val (.int xa), .val (.int xb), .val (.int xc), .val (.int xd), .val (.int xm), .val (.ref b217), .val (.int (1 : Int32)), .val (.int (Int32.ofNat j)), .val (.ref b271), .val (.ref b276), .val (.int st), .val (.int (Int32.ofNat ev))] [(.int (Int32.ofNat (ev + 0)))])
          replace X := X.sub (ws' := [b276]) (by simp)
          refine s_iload X (pc' := 327) at_325 rfl rfl ?_
          refine s_icmpF X (pc' := 330) at_327 (show Int32.ofNat (ev + 0) = Int32.ofNat ev from rfl) rfl ?_
          refine s_iconst X (pc' := 331) at_330 (v := (1 : Int32)) rfl rfl ?_
          refine s_goto X (pc' := 335) at_331 (by decide) (by decide) ?_
          exact s_iretN X hEL (ws' := []) (t := .boolean) at_335 rfl (by simp) (by decide) (by decide) (fun x q => by simp at q) rfl
  · refine go_int (z := (2 : Int32)) (pq) ?_
    refine s_istore X (pc' := 42) (L' := #[.val (.int xa), .val (.int xb), .val (.int xc), .val (.int xd), .val (.int xm), .val (.ref b217), .val (.int (2 : Int32)), .unset, .unset, .unset, .unset, .unset]) at_40 rfl rfl ?_
    refine s_iload X (pc' := 44) at_42 rfl rfl ?_
    refine s_iconst X (pc' := 45) at_44 (v := (3 : Int32)) rfl rfl ?_
    refine s_iushr X (pc' := 46) at_45 rfl ?_
    refine s_bipush X (pc' := 48) at_46 (v := (7 : Int32)) (by decide) rfl ?_
    refine s_iand X (pc' := 49) at_48 rfl ?_
    refine s_iload X (pc' := 51) at_49 rfl rfl ?_
    refine s_iconst X (pc' := 52) at_51 (v := (1 : Int32)) rfl rfl ?_
    refine s_iadd X (pc' := 53) at_52 rfl ?_
    refine s_irem X (pc' := 54) at_53 (by decide) rfl ?_
    obtain ⟨k0, hk0', gk0⟩ := rem_k ((xm.toUInt32 >>> ((3 : Int32) &&& 31).toUInt32).toInt32) ((2 : Int32) + (1 : Int32)) 3 (by decide) (by decide) (by decide)
    have hk0 : k0 ≤ 2 := by omega
    refine go_int (z := (Int32.ofNat k0)) (gk0) ?_
    refine s_istore X (pc' := 56) (L' := #[.val (.int xa), .val (.int xb), .val (.int xc), .val (.int xd), .val (.int xm), .val (.ref b217), .val (.int (2 : Int32)), .val (.int (Int32.ofNat k0)), .unset, .unset, .unset, .unset]) at_54 rfl rfl ?_
    refine s_iload X (pc' := 58) at_56 rfl rfl ?_
    refine s_ifT X (pc' := 69) at_58 (show ¬ (2 : Int32) = (0 : Int32) by decide) (by decide) (by decide) ?_
    refine s_iload X (pc' := 71) at_69 rfl rfl ?_
    refine s_iconst X (pc' := 72) at_71 (v := (1 : Int32)) rfl rfl ?_
    refine s_icmpT X (pc' := 90) at_72 (show ¬ (2 : Int32) = (1 : Int32) by decide) (by decide) (by decide) ?_
    refine s_iload X (pc' := 92) at_90 rfl rfl ?_
    refine s_iconst X (pc' := 93) at_92 (v := (2 : Int32)) rfl rfl ?_
    refine s_icmpF X (pc' := 96) at_93 (show (2 : Int32) = (2 : Int32) by decide) rfl ?_
    refine s_iconst X (pc' := 97) at_96 (v := (2 : Int32)) rfl rfl ?_
    refine s_newarr X (pc' := 99) (k' := 2) (n' := 6) (N := 2) at_97 (hw _ (List.mem_of_getElem? (i := 0) rfl)) rfl (by decide) (by decide) (by decide) (by decide) (by decide) rfl (fun T h335 b334 gb_b334 X' E336 A_b334 => ?_)
    have g_b334 : Z.heap.size ≤ b334 := by rw [gb_b334]; exact X.lt
    have ne_b217_b334 : b217 ≠ b334 := Nat.ne_of_lt (by rw [gb_b334]; exact A_b217.lt)
    replace A_b217 := A_b217.ext E336
    replace X := X'
    replace A_b334 : Ary Z h335 b334 .char [(.int (0 : Int32)), (.int (0 : Int32))] := A_b334
    refine s_dup X (pc' := 100) at_99 rfl rfl ?_
    refine s_iconst X (pc' := 101) at_100 (v := (0 : Int32)) rfl rfl ?_
    refine s_aload X (pc' := 103) at_101 rfl rfl rfl ?_
    refine s_iconst X (pc' := 104) at_103 (v := (0 : Int32)) rfl rfl ?_
    refine s_caload X (pc' := 105) (i := 0) (v := (.int z0)) at_104 A_b217 rfl rfl rfl ?_
    refine s_castore X (pc' := 106) (i := 0) at_105 A_b334 rfl (Nat.le_of_ble_eq_true rfl) g_b334 (by simp) rfl (fun T h337 X W338 A' => ?_)
    replace A_b217 := A_b217.other W338 ne_b217_b334
    replace A_b334 : Ary Z h337 b334 .char [(.int (nar .char z0)), (.int (0 : Int32))] := A'
    refine s_dup X (pc' := 107) at_106 rfl rfl ?_
    refine s_iconst X (pc' := 108) at_107 (v := (1 : Int32)) rfl rfl ?_
    refine s_aload X (pc' := 110) at_108 rfl rfl rfl ?_
    refine s_iconst X (pc' := 111) at_110 (v := (1 : Int32)) rfl rfl ?_
    refine s_caload X (pc' := 112) (i := 1) (v := (.int z1)) at_111 A_b217 rfl rfl rfl ?_
    refine s_castore X (pc' := 113) (i := 1) at_112 A_b334 rfl (Nat.le_of_ble_eq_true rfl) g_b334 (by simp) rfl (fun T h339 X W340 A' => ?_)
    replace A_b217 := A_b217.other W340 ne_b217_b334
    replace A_b334 : Ary Z h339 b334 .char [(.int (nar .char z0)), (.int (nar .char z1))] := A'
    refine s_astore X (pc' := 115) (L' := #[.val (.int xa), .val (.int xb), .val (.int xc), .val (.int xd), .val (.int xm), .val (.ref b217), .val (.int (2 : Int32)), .val (.int (Int32.ofNat k0)), .val (.ref b334), .unset, .unset, .unset]) at_113 rfl rfl rfl ?_
    refine s_goto X (pc' := 186) at_115 (by decide) (by decide) ?_
    refine s_new X (pc' := 189) (k' := 3) (n' := 8) at_186 (hw _ (List.mem_of_getElem? (i := 5) rfl)) (hw _ (List.mem_of_getElem? (i := 6) rfl)) (hw _ (List.mem_of_getElem? (i := 7) rfl)) (by decide) (by decide) (by decide) (by decide) rfl (fun T h342 b341 gb_b341 X' E343 E_b341 D_b341 U_b341 => ?_)
    have g_b341 : Z.heap.size ≤ b341 := by rw [gb_b341]; exact X.lt
    have ne_b217_b341 : b217 ≠ b341 := Nat.ne_of_lt (by rw [gb_b341]; exact A_b217.lt)
    have ne_b334_b341 : b334 ≠ b341 := Nat.ne_of_lt (by rw [gb_b341]; exact A_b334.lt)
    replace A_b217 := A_b217.ext E343
    replace A_b334 := A_b334.ext E343
    replace X := X'
    have F_b341_value : Fld Z h342 b341 "com/example/halyard/halyard/HeaderParser" "value" "Ljava/lang/String;" .null := D_b341 (Or.inr (hw _ (List.mem_of_getElem? (i := 34) rfl))) (ty := (.object "java/lang/String")) (by decide)
    have F_b341_position : Fld Z h342 b341 "com/example/halyard/halyard/HeaderParser" "position" "I" (.int (0 : Int32)) := D_b341 (Or.inl (hw _ (List.mem_of_getElem? (i := 77) rfl))) (ty := .int) (by decide)
    refine s_dup X (pc' := 190) at_189 rfl rfl ?_
    refine s_new X (pc' := 193) (k' := 4) (n' := 12) at_190 (hw _ (List.mem_of_getElem? (i := 8) rfl)) (hw _ (List.mem_of_getElem? (i := 9) rfl)) (hw _ (List.mem_of_getElem? (i := 10) rfl)) (by decide) (by decide) (by decide) (by decide) rfl (fun T h345 b344 gb_b344 X' E346 E_b344 D_b344 U_b344 => ?_)
    have g_b344 : Z.heap.size ≤ b344 := by rw [gb_b344]; exact X.lt
    have ne_b341_b344 : b341 ≠ b344 := Nat.ne_of_lt (by rw [gb_b344]; exact E_b341.lt)
    have ne_b217_b344 : b217 ≠ b344 := Nat.ne_of_lt (by rw [gb_b344]; exact A_b217.lt)
    have ne_b334_b344 : b334 ≠ b344 := Nat.ne_of_lt (by rw [gb_b344]; exact A_b334.lt)
    replace E_b341 := E_b341.ext E346
    replace F_b341_value := F_b341_value.ext E346
    replace F_b341_position := F_b341_position.ext E346
    replace A_b217 := A_b217.ext E346
    replace A_b334 := A_b334.ext E346
    replace X := X'
    have F_b344_value : Fld Z h345 b344 "java/lang/String" "value" "[B" .null := D_b344 (Or.inr (hw _ (List.mem_of_getElem? (i := 23) rfl))) (ty := (.array .byte)) (by decide)
    have F_b344_coder : Fld Z h345 b344 "java/lang/String" "coder" "B" (.int (0 : Int32)) := D_b344 (Or.inr (hw _ (List.mem_of_getElem? (i := 24) rfl))) (ty := .byte) (by decide)
    refine s_dup X (pc' := 194) at_193 rfl rfl ?_
    refine s_aload X (pc' := 196) at_194 rfl rfl rfl ?_
    have hp : ∀ c ∈ ([z0, z1] : List Int32), ¬ c < 0 ∧ ¬ (65535 : Int32) < c := (alS kz0 (alS kz1 al0))
    replace A_b334 : Ary Z h345 b334 .char [(.int z0), (.int z1)] := by rw [nar_id kz0, nar_id kz1] at A_b334; exact A_b334
    by_cases hl : ∀ c ∈ ([z0, z1] : List Int32), ¬ (255 : Int32) < c
    · refine s_special X (pc' := 199) (W := 3) (as' := [(.ref b334)]) (S := [(.ref b344), (.ref b341), (.ref b341)]) (k' := 5) (n' := 14) at_196 rfl (hw _ (List.mem_of_getElem? (i := 11) rfl)) (hw _ (List.mem_of_getElem? (i := 12) rfl)) (hw _ (List.mem_of_getElem? (i := 13) rfl)) (by decide) own_pd22 rfl (newStrPay hw hEL O2 P5 X.old g_b344 (by simp) E_b344 F_b344_value F_b344_coder (cs := [z0, z1]) (rfl) A_b334 (n := 2) rfl (by decide) (by decide) (fun c hc => ⟨(hp c hc).1, hl c hc⟩) (by decide) (by decide)) (Nat.le_of_ble_eq_true rfl) rfl rfl (by decide) (by decide) (by decide) (by decide) rfl (fun T h347 v_ ws_ X hgr_ q348 => ?_)
      obtain ⟨rfl, K_, S_b344, rfl⟩ := q348
      show Go p e below _ T (mkF m 199 #[.val (.int xa), .val (.int xb), .val (.int xc), .val (.int xd), .val (.int xm), .val (.ref b217), .val (.int (2 : Int32)), .val (.int (Int32.ofNat k0)), .val (.ref b334), .unset, .unset, .unset] [(.ref b344), (.ref b341), (.ref b341)])
      replace F_b341_value := F_b341_value.keep K_ (ninS ne_b341_b344 nin0)
      replace F_b341_position := F_b341_position.keep K_ (ninS ne_b341_b344 nin0)
      replace A_b217 := A_b217.keep K_ (ninS ne_b217_b344 nin0)
      replace E_b341 := E_b341.keep K_
      replace E_b344 := E_b344.keep K_
      refine s_special X (pc' := 202) (W := 1) (as' := [(.ref b344)]) (S := [(.ref b341)]) (k' := 5) (n' := 14) at_199 rfl (hw _ (List.mem_of_getElem? (i := 29) rfl)) (hw _ (List.mem_of_getElem? (i := 30) rfl)) (hw _ (List.mem_of_getElem? (i := 31) rfl)) (by decide) own_pd23 rfl ((hp_ini l Z a0 hw hEL b341 b344 _ g_b341 E_b341 F_b341_value F_b341_position).payS (by simp) (hw _ (List.mem_of_getElem? (i := 31) rfl)) (hw _ (List.mem_of_getElem? (i := 7) rfl)) hEL (by decide) (by decide)) (Nat.le_of_ble_eq_true rfl) rfl rfl (by decide) (by decide) (by decide) (by decide) rfl (fun T h351 v_ ws_ X hgr_ q352 => ?_)
      obtain ⟨rfl, K_, P_1, rfl⟩ := q352
      show Go p e below _ T (mkF m 202 #[.val (.int xa), .val (.int xb), .val (.int xc), .val (.int xd), .val (.int xm), .val (.ref b217), .val (.int (2 : Int32)), .val (.int (Int32.ofNat k0)), .val (.ref b334), .unset, .unset, .unset] [(.ref b341)])
      replace X := X.sub (ws' := [b341]) (by simp)
      replace A_b217 := A_b217.keep K_ (ninS ne_b217_b341 nin0)
      replace S_b344 := S_b344.keep K_ E_b341 (by decide) (hw _ (List.mem_of_getElem? (i := 6) rfl))
      replace E_b341 := E_b341.keep K_
      have S_r := S_b344
      refine s_astore X (pc' := 204) (L' := #[.val (.int xa), .val (.int xb), .val (.int xc), .val (.int xd), .val (.int xm), .val (.ref b217), .val (.int (2 : Int32)), .val (.int (Int32.ofNat k0)), .val (.ref b334), .val (.ref b341), .unset, .unset]) at_202 rfl rfl rfl ?_
      refine s_iload X (pc' := 206) at_204 rfl rfl ?_
      refine s_iload X (pc' := 208) at_206 rfl rfl ?_
      refine jn (A := ∀ T (st : Int32), (¬ st < 0 ∧ ¬ (65535 : Int32) < st) → sfV ([z0, z1] : List Int32) st k0 = Int32.ofNat k0 → Cx p l e room_1 s m #[(.int xa), (.int xb), (.int xc), (.int xd), (.int xm)] below meth c Z consts_1 False x code maxLocals ret [b341] T h351 5 14 → Go p e below (Post Z consts_1 s room_1 (fun v h' ws' => v = some (.int 1))) T (mkF m 223 #[.val (.int xa), .val (.int xb), .val (.int xc), .val (.int xd), .val (.int xm), .val (.ref b217), .val (.int (2 : Int32)), .val (.int (Int32.ofNat k0)), .val (.ref b334), .val (.ref b341), .val (.int st), .unset] [])) (fun J => ?_) (fun T st kst hst X => ?_)
      · refine s_icmp X (pc' := 219) (pcF := 211) at_208 (by decide) (by decide) rfl (fun (q1 : ¬ (Int32.ofNat k0) < (2 : Int32)) => ?_) (fun (q1 : (Int32.ofNat k0) < (2 : Int32)) => ?_)
        · have n1 : k0 = 2 := by
            have z : ¬ k0 < 2 := fun z => q1 ((on_lt (by omega) (by decide)).mpr z)
            omega
          refine s_bipush X (pc' := 221) at_219 (v := (120 : Int32)) (by decide) rfl ?_
          refine s_istore X (pc' := 223) (L' := #[.val (.int xa), .val (.int xb), .val (.int xc), .val (.int xd), .val (.int xm), .val (.ref b217), .val (.int (2 : Int32)), .val (.int (Int32.ofNat k0)), .val (.ref b334), .val (.ref b341), .val (.int (120 : Int32)), .unset]) at_221 rfl rfl ?_
          exact J T (120 : Int32) (by decide) (sfV_all _ n1) X
        · have y1 : k0 < 2 := (on_lt (by omega) (by decide)).mp q1
          refine s_aload X (pc' := 213) at_211 rfl rfl rfl ?_
          refine s_iload X (pc' := 215) at_213 rfl rfl ?_
          refine s_caload X (pc' := 216) (i := k0) (v := .int (([z0, z1, z2, z3] : List Int32).getD k0 0)) at_215 A_b217 rfl (map_at ([z0, z1, z2, z3] : List Int32) (show k0 < 4 by omega)) rfl ?_
          refine s_goto X (pc' := 221) at_216 (by decide) (by decide) ?_
          refine s_istore X (pc' := 223) (L' := #[.val (.int xa), .val (.int xb), .val (.int xc), .val (.int xd), .val (.int xm), .val (.ref b217), .val (.int (2 : Int32)), .val (.int (Int32.ofNat k0)), .val (.ref b334), .val (.ref b341), .val (.int (([z0, z1, z2, z3] : List Int32).getD k0 0)), .unset]) at_221 rfl rfl ?_
          exact J T _ (hpd _ (getD_mem (show k0 < 4 by omega))) (by
            have q := take_getD (ds := ([z0, z1, z2, z3] : List Int32)) (n := 2) (i := k0) y1
            rw [← q]
            exact sfV_self (cs := ([z0, z1] : List Int32)) (Nat.le_of_ble_eq_true rfl) y1) X
      · refine s_aload X (pc' := 225) at_223 rfl rfl rfl ?_
        refine s_iload X (pc' := 227) at_225 rfl rfl ?_
        refine s_iload X (pc' := 229) at_227 rfl rfl ?_
        refine s_virtual X (pc' := 232) (W := 0) (as' := [(.int (Int32.ofNat k0)), (.int st)]) (S := []) (k' := 5) (n' := 14) at_229 (hw _ (List.mem_of_getElem? (i := 35) rfl)) (hw _ (List.mem_of_getElem? (i := 36) rfl)) (hw _ (List.mem_of_getElem? (i := 38) rfl)) (hw _ (List.mem_of_getElem? (i := 37) rfl)) (nface (hw _ (List.mem_of_getElem? (i := 38) rfl))) (by decide) own_pd24 rfl E_b341 ((hp_sf l Z a0 hw hEL b341 k0 st _ g_b341 (show k0 ≤ ([z0, z1] : List Int32).length from hk0) kst P_1 S_r (Nat.zero_le _) U O2 P5 O4 rG3).payS (by simp) (hw _ (List.mem_of_getElem? (i := 39) rfl)) (hw _ (List.mem_of_getElem? (i := 7) rfl)) hEL (by decide) (by decide)) (Nat.le_of_ble_eq_true rfl) rfl rfl (by decide) (by decide) (by decide) (by decide) rfl (fun T h353 v_ ws_ X hgr_ q354 => ?_)
        obtain ⟨rfl, K_, ⟨j, hj, hjs, P_2⟩, rfl⟩ := q354
        show Go p e below _ T (mkF m 232 #[.val (.int xa), .val (.int xb), .val (.int xc), .val (.int xd), .val (.int xm), .val (.ref b217), .val (.int (2 : Int32)), .val (.int (Int32.ofNat k0)), .val (.ref b334), .val (.ref b341), .val (.int st), .unset] [])
        replace X := X.sub (ws' := [b341]) (by simp)
        replace A_b217 := A_b217.keep K_ (ninS ne_b217_b341 nin0)
        replace S_r := S_r.keep K_ E_b341 (by decide) (hw _ (List.mem_of_getElem? (i := 6) rfl))
        replace E_b341 := E_b341.keep K_
        replace hj : j ≤ 2 := hj
        obtain rfl : j = k0 := (on_eq (by omega) (by omega)).mp (hjs.trans hst)
        refine s_aload X (pc' := 234) at_232 rfl rfl rfl ?_
        refine s_virtual X (pc' := 237) (W := 0) (as' := []) (S := []) (k' := 5) (n' := 14) at_234 (hw _ (List.mem_of_getElem? (i := 78) rfl)) (hw _ (List.mem_of_getElem? (i := 79) rfl)) (hw _ (List.mem_of_getElem? (i := 81) rfl)) (hw _ (List.mem_of_getElem? (i := 80) rfl)) (nface (hw _ (List.mem_of_getElem? (i := 81) rfl))) (by decide) own_pd5 rfl E_b341 ((hp_pos l Z a0 hw hEL b341 _ P_2).payS (by simp) (hw _ (List.mem_of_getElem? (i := 82) rfl)) (hw _ (List.mem_of_getElem? (i := 7) rfl)) hEL (by decide) (by decide)) (Nat.le_of_ble_eq_true rfl) rfl rfl (by decide) (by decide) (by decide) (by decide) rfl (fun T h355 v_ ws_ X hgr_ q356 => ?_)
        obtain ⟨rfl, e_, rfl⟩ := q356
        rw [e_] at X
        show Go p e below _ T (mkF m 237 #[.val (.int xa), .val (.int xb), .val (.int xc), .val (.int xd), .val (.int xm), .val (.ref b217), .val (.int (2 : Int32)), .val (.int (Int32.ofNat j)), .val (.ref b334), .val (.ref b341), .val (.int st), .unset] [(.int (Int32.ofNat j))])
        replace X := X.sub (ws' := [b341]) (by simp)
        refine s_iload X (pc' := 239) at_237 rfl rfl ?_
        refine s_icmpT X (pc' := 244) at_239 rfl (by decide) (by decide) ?_
        refine s_aload X (pc' := 246) at_244 rfl rfl rfl ?_
        refine s_virtual X (pc' := 249) (W := 0) (as' := []) (S := []) (k' := 5) (n' := 14) at_246 (hw _ (List.mem_of_getElem? (i := 83) rfl)) (hw _ (List.mem_of_getElem? (i := 84) rfl)) (hw _ (List.mem_of_getElem? (i := 86) rfl)) (hw _ (List.mem_of_getElem? (i := 85) rfl)) (nface (hw _ (List.mem_of_getElem? (i := 86) rfl))) (by decide) own_pd25 rfl E_b341 ((hp_skw l Z a0 hw hEL b341 _ g_b341 P_2 S_r hj U O2 P5 O4 rG3).payS (by simp) (hw _ (List.mem_of_getElem? (i := 87) rfl)) (hw _ (List.mem_of_getElem? (i := 7) rfl)) hEL (by decide) (by decide)) (Nat.le_of_ble_eq_true rfl) rfl rfl (by decide) (by decide) (by decide) (by decide) rfl (fun T h357 v_ ws_ X hgr_ q358 => ?_)
        obtain ⟨rfl, K_, P_3, rfl⟩ := q358
        show Go p e below _ T (mkF m 249 #[.val (.int xa), .val (.int xb), .val (.int xc), .val (.int xd), .val (.int xm), .val (.ref b217), .val (.int (2 : Int32)), .val (.int (Int32.ofNat j)), .val (.ref b334), .val (.ref b341), .val (.int st), .unset] [])
        replace X := X.sub (ws' := [b341]) (by simp)
        replace A_b217 := A_b217.keep K_ (ninS ne_b217_b341 nin0)
        replace S_r := S_r.keep K_ E_b341 (by decide) (hw _ (List.mem_of_getElem? (i := 6) rfl))
        replace E_b341 := E_b341.keep K_
        refine s_aload X (pc' := 251) at_249 rfl rfl rfl ?_
        refine s_iload X (pc' := 253) at_251 rfl rfl ?_
        refine s_aload X (pc' := 255) at_253 rfl rfl rfl ?_
        refine s_iload X (pc' := 257) at_255 rfl rfl ?_
        refine s_aload X (pc' := 259) at_257 rfl rfl rfl ?_
        refine s_iload X (pc' := 261) at_259 rfl rfl ?_
        refine s_aload X (pc' := 263) at_261 rfl rfl rfl ?_
        refine s_iload X (pc' := 265) at_263 rfl rfl ?_
        refine s_iload X (pc' := 267) at_265 rfl rfl ?_
        refine s_static X (pc' := 270) (W := 6) (as' := [(.ref b217), (.int (2 : Int32)), (.int (Int32.ofNat j))]) (S := [(.int (2 : Int32)), (.ref b217), (.int (2 : Int32)), (.ref b217), (.int (2 : Int32)), (.ref b217)]) (k' := 5) (n' := 14) at_267 (hw _ (List.mem_of_getElem? (i := 88) rfl)) (hw _ (List.mem_of_getElem? (i := 89) rfl)) (hw _ (List.mem_of_getElem? (i := 3) rfl)) (hw _ (List.mem_of_getElem? (i := 90) rfl)) (by decide) own_pd26 rfl ((own_step l Z a0 hw hEL b217 ([z0, z1, z2, z3] : List Int32) 2 j _ A_b217 (by show 2 ≤ 4; omega) (Nat.le_of_ble_eq_true rfl) hj).payS (by simp) (hw _ (List.mem_of_getElem? (i := 90) rfl)) (hw _ (List.mem_of_getElem? (i := 3) rfl)) hEL (by decide) (by decide)) (Nat.le_of_ble_eq_true rfl) rfl rfl (by decide) (by decide) (by decide) (by decide) rfl (fun T h359 v_ ws_ X hgr_ q360 => ?_)
        obtain ⟨rfl, e_, rfl⟩ := q360
        rw [e_] at X
        show Go p e below _ T (mkF m 270 #[.val (.int xa), .val (.int xb), .val (.int xc), .val (.int xd), .val (.int xm), .val (.ref b217), .val (.int (2 : Int32)), .val (.int (Int32.ofNat j)), .val (.ref b334), .val (.ref b341), .val (.int st), .unset] [(.int (Int32.ofNat (stepN ([z0, z1, z2, z3] : List Int32) 2 j))), (.int (2 : Int32)), (.ref b217), (.int (2 : Int32)), (.ref b217), (.int (2 : Int32)), (.ref b217)])
        replace X := X.sub (ws' := [b341]) (by simp)
        refine s_static X (pc' := 273) (W := 4) (as' := [(.ref b217), (.int (2 : Int32)), (.int (Int32.ofNat (stepN ([z0, z1, z2, z3] : List Int32) 2 j)))]) (S := [(.int (2 : Int32)), (.ref b217), (.int (2 : Int32)), (.ref b217)]) (k' := 5) (n' := 14) at_270 (hw _ (List.mem_of_getElem? (i := 88) rfl)) (hw _ (List.mem_of_getElem? (i := 89) rfl)) (hw _ (List.mem_of_getElem? (i := 3) rfl)) (hw _ (List.mem_of_getElem? (i := 90) rfl)) (by decide) own_pd26 rfl ((own_step l Z a0 hw hEL b217 ([z0, z1, z2, z3] : List Int32) 2 (stepN ([z0, z1, z2, z3] : List Int32) 2 j) _ A_b217 (by show 2 ≤ 4; omega) (Nat.le_of_ble_eq_true rfl) (step_le ([z0, z1, z2, z3] : List Int32) 2 _ hj)).payS (by simp) (hw _ (List.mem_of_getElem? (i := 90) rfl)) (hw _ (List.mem_of_getElem? (i := 3) rfl)) hEL (by decide) (by decide)) (Nat.le_of_ble_eq_true rfl) rfl rfl (by decide) (by decide) (by decide) (by decide) rfl (fun T h361 v_ ws_ X hgr_ q362 => ?_)
        obtain ⟨rfl, e_, rfl⟩ := q362
        rw [e_] at X
        show Go p e below _ T (mkF m 273 #[.val (.int xa), .val (.int xb), .val (.int xc), .val (.int xd), .val (.int xm), .val (.ref b217), .val (.int (2 : Int32)), .val (.int (Int32.ofNat j)), .val (.ref b334), .val (.ref b341), .val (.int st), .unset] [(.int (Int32.ofNat (stepN ([z0, z1, z2, z3] : List Int32) 2 (stepN ([z0, z1, z2, z3] : List Int32) 2 j)))), (.int (2 : Int32)), (.ref b217), (.int (2 : Int32)), (.ref b217)])
        replace X := X.sub (ws' := [b341]) (by simp)
        refine s_static X (pc' := 276) (W := 2) (as' := [(.ref b217), (.int (2 : Int32)), (.int (Int32.ofNat (stepN ([z0, z1, z2, z3] : List Int32) 2 (stepN ([z0, z1, z2, z3] : List Int32) 2 j))))]) (S := [(.int (2 : Int32)), (.ref b217)]) (k' := 5) (n' := 14) at_273 (hw _ (List.mem_of_getElem? (i := 88) rfl)) (hw _ (List.mem_of_getElem? (i := 89) rfl)) (hw _ (List.mem_of_getElem? (i := 3) rfl)) (hw _ (List.mem_of_getElem? (i := 90) rfl)) (by decide) own_pd26 rfl ((own_step l Z a0 hw hEL b217 ([z0, z1, z2, z3] : List Int32) 2 (stepN ([z0, z1, z2, z3] : List Int32) 2 (stepN ([z0, z1, z2, z3] : List Int32) 2 j)) _ A_b217 (by show 2 ≤ 4; omega) (Nat.le_of_ble_eq_true rfl) (step_le ([z0, z1, z2, z3] : List Int32) 2 _ (step_le ([z0, z1, z2, z3] : List Int32) 2 _ hj))).payS (by simp) (hw _ (List.mem_of_getElem? (i := 90) rfl)) (hw _ (List.mem_of_getElem? (i := 3) rfl)) hEL (by decide) (by decide)) (Nat.le_of_ble_eq_true rfl) rfl rfl (by decide) (by decide) (by decide) (by decide) rfl (fun T h363 v_ ws_ X hgr_ q364 => ?_)
        obtain ⟨rfl, e_, rfl⟩ := q364
        rw [e_] at X
        show Go p e below _ T (mkF m 276 #[.val (.int xa), .val (.int xb), .val (.int xc), .val (.int xd), .val (.int xm), .val (.ref b217), .val (.int (2 : Int32)), .val (.int (Int32.ofNat j)), .val (.ref b334), .val (.ref b341), .val (.int st), .unset] [(.int (Int32.ofNat (stepN ([z0, z1, z2, z3] : List Int32) 2 (stepN ([z0, z1, z2, z3] : List Int32) 2 (stepN ([z0, z1, z2, z3] : List Int32) 2 j))))), (.int (2 : Int32)), (.ref b217)])
        replace X := X.sub (ws' := [b341]) (by simp)
        refine s_static X (pc' := 279) (W := 0) (as' := [(.ref b217), (.int (2 : Int32)), (.int (Int32.ofNat (stepN ([z0, z1, z2, z3] : List Int32) 2 (stepN ([z0, z1, z2, z3] : List Int32) 2 (stepN ([z0, z1, z2, z3] : List Int32) 2 j)))))]) (S := []) (k' := 5) (n' := 14) at_276 (hw _ (List.mem_of_getElem? (i := 88) rfl)) (hw _ (List.mem_of_getElem? (i := 89) rfl)) (hw _ (List.mem_of_getElem? (i := 3) rfl)) (hw _ (List.mem_of_getElem? (i := 90) rfl)) (by decide) own_pd26 rfl ((own_step l Z a0 hw hEL b217 ([z0, z1, z2, z3] : List Int32) 2 (stepN ([z0, z1, z2, z3] : List Int32) 2 (stepN ([z0, z1, z2, z3] : List Int32) 2 (stepN ([z0, z1, z2, z3] : List Int32) 2 j))) _ A_b217 (by show 2 ≤ 4; omega) (Nat.le_of_ble_eq_true rfl) (step_le ([z0, z1, z2, z3] : List Int32) 2 _ (step_le ([z0, z1, z2, z3] : List Int32) 2 _ (step_le ([z0, z1, z2, z3] : List Int32) 2 _ hj)))).payS (by simp) (hw _ (List.mem_of_getElem? (i := 90) rfl)) (hw _ (List.mem_of_getElem? (i := 3) rfl)) hEL (by decide) (by decide)) (Nat.le_of_ble_eq_true rfl) rfl rfl (by decide) (by decide) (by decide) (by decide) rfl (fun T h365 v_ ws_ X hgr_ q366 => ?_)
        obtain ⟨rfl, e_, rfl⟩ := q366
        rw [e_] at X
        show Go p e below _ T (mkF m 279 #[.val (.int xa), .val (.int xb), .val (.int xc), .val (.int xd), .val (.int xm), .val (.ref b217), .val (.int (2 : Int32)), .val (.int (Int32.ofNat j)), .val (.ref b334), .val (.ref b341), .val (.int st), .unset] [(.int (Int32.ofNat (stepN ([z0, z1, z2, z3] : List Int32) 2 (stepN ([z0, z1, z2, z3] : List Int32) 2 (stepN ([z0, z1, z2, z3] : List Int32) 2 (stepN ([z0, z1, z2, z3] : List Int32) 2 j))))))])
        replace X := X.sub (ws' := [b341]) (by simp)
        refine go_int (z := (Int32.ofNat (j + wsL (([z0, z1] : List Int32).drop j)))) (congrArg Int32.ofNat (step4 ([z0, z1, z2, z3] : List Int32) 2 j (by decide) (by show 2 ≤ 4; omega) hj)) ?_
        have he : (j + wsL (([z0, z1] : List Int32).drop j)) ≤ 2 := by
          have q := wsL_le (([z0, z1] : List Int32).drop j)
          rw [List.length_drop] at q
          have q2 : ([z0, z1] : List Int32).length = 2 := rfl
          omega
        have hi2 : wsL (([z0, z1] : List Int32).drop (j + wsL (([z0, z1] : List Int32).drop j))) = 0 := by rw [← List.drop_drop]; exact ws_idem _
        obtain ⟨ev, gev⟩ : ∃ z, z = (j + wsL (([z0, z1] : List Int32).drop j)) := ⟨_, rfl⟩
        rw [← gev] at P_3 he hi2 ⊢
        refine s_istore X (pc' := 281) (L' := #[.val (.int xa), .val (.int xb), .val (.int xc), .val (.int xd), .val (.int xm), .val (.ref b217), .val (.int (2 : Int32)), .val (.int (Int32.ofNat j)), .val (.ref b334), .val (.ref b341), .val (.int st), .val (.int (Int32.ofNat ev))]) at_279 rfl rfl ?_
        refine s_aload X (pc' := 283) at_281 rfl rfl rfl ?_
        refine s_virtual X (pc' := 286) (W := 0) (as' := []) (S := []) (k' := 5) (n' := 14) at_283 (hw _ (List.mem_of_getElem? (i := 78) rfl)) (hw _ (List.mem_of_getElem? (i := 79) rfl)) (hw _ (List.mem_of_getElem? (i := 81) rfl)) (hw _ (List.mem_of_getElem? (i := 80) rfl)) (nface (hw _ (List.mem_of_getElem? (i := 81) rfl))) (by decide) own_pd5 rfl E_b341 ((hp_pos l Z a0 hw hEL b341 _ P_3).payS (by simp) (hw _ (List.mem_of_getElem? (i := 82) rfl)) (hw _ (List.mem_of_getElem? (i := 7) rfl)) hEL (by decide) (by decide)) (Nat.le_of_ble_eq_true rfl) rfl rfl (by decide) (by decide) (by decide) (by decide) rfl (fun T h367 v_ ws_ X hgr_ q368 => ?_)
        obtain ⟨rfl, e_, rfl⟩ := q368
        rw [e_] at X
        show Go p e below _ T (mkF m 286 #[.val (.int xa), .val (.int xb), .val (.int xc), .val (.int xd), .val (.int xm), .val (.ref b217), .val (.int (2 : Int32)), .val (.int (Int32.ofNat j)), .val (.ref b334), .val (.ref b341), .val (.int st), .val (.int (Int32.ofNat ev))] [(.int (Int32.ofNat ev))])
        replace X := X.sub (ws' := [b341]) (by simp)
        refine s_iload X (pc' := 288) at_286 rfl rfl ?_
        refine s_icmpT X (pc' := 293) at_288 rfl (by decide) (by decide) ?_
        refine s_aload X (pc' := 295) at_293 rfl rfl rfl ?_
        refine s_virtual X (pc' := 298) (W := 0) (as' := []) (S := []) (k' := 5) (n' := 14) at_295 (hw _ (List.mem_of_getElem? (i := 91) rfl)) (hw _ (List.mem_of_getElem? (i := 92) rfl)) (hw _ (List.mem_of_getElem? (i := 94) rfl)) (hw _ (List.mem_of_getElem? (i := 93) rfl)) (nface (hw _ (List.mem_of_getElem? (i := 94) rfl))) (by decide) own_pd4 rfl E_b341 ((hp_atEnd l Z a0 hw hEL b341 _ P_3 S_r he O2 P5).payS (by simp) (hw _ (List.mem_of_getElem? (i := 95) rfl)) (hw _ (List.mem_of_getElem? (i := 7) rfl)) hEL (by decide) (by decide)) (Nat.le_of_ble_eq_true rfl) rfl rfl (by decide) (by decide) (by decide) (by decide) rfl (fun T h369 v_ ws_ X hgr_ q370 => ?_)
        obtain ⟨rfl, e_, rfl⟩ := q370
        rw [e_] at X
        show Go p e below _ T (mkF m 298 #[.val (.int xa), .val (.int xb), .val (.int xc), .val (.int xd), .val (.int xm), .val (.ref b217), .val (.int (2 : Int32)), .val (.int (Int32.ofNat j)), .val (.ref b334), .val (.ref b341), .val (.int st), .val (.int (Int32.ofNat ev))] [(.int (if ev = ([z0, z1] : List Int32).length then 1 else 0))])
        replace X := X.sub (ws' := [b341]) (by simp)
        refine s_iload X (pc' := 300) at_298 rfl rfl ?_
        refine s_iload X (pc' := 302) at_300 rfl rfl ?_
        refine jn (A := ∀ T, Cx p l e room_1 s m #[(.int xa), (.int xb), (.int xc), (.int xd), (.int xm)] below meth c Z consts_1 False x code maxLocals ret [b341] T h357 5 14 → Go p e below (Post Z consts_1 s room_1 (fun v h' ws' => v = some (.int 1))) T (mkF m 315 #[.val (.int xa), .val (.int xb), .val (.int xc), .val (.int xd), .val (.int xm), .val (.ref b217), .val (.int (2 : Int32)), .val (.int (Int32.ofNat j)), .val (.ref b334), .val (.ref b341), .val (.int st), .val (.int (Int32.ofNat ev))] [])) (fun J => ?_) (fun T X => ?_)
        · refine s_icmp X (pc' := 309) (pcF := 305) at_302 (by decide) (by decide) rfl (fun (q2 : ¬ (Int32.ofNat ev) = (2 : Int32)) => ?_) (fun (q2 : (Int32.ofNat ev) = (2 : Int32)) => ?_)
          · refine s_iconst X (pc' := 310) at_309 (v := (0 : Int32)) rfl rfl ?_
            refine s_icmpT X (pc' := 315) at_310 (show (if ev = ([z0, z1] : List Int32).length then (1 : Int32) else 0) = (0 : Int32) from if_neg (fun z => q2 (congrArg Int32.ofNat z))) (by decide) (by decide) ?_
            exact J T X
          · refine s_iconst X (pc' := 306) at_305 (v := (1 : Int32)) rfl rfl ?_
            refine s_goto X (pc' := 310) at_306 (by decide) (by decide) ?_
            refine s_icmpT X (pc' := 315) at_310 (show (if ev = ([z0, z1] : List Int32).length then (1 : Int32) else 0) = (1 : Int32) from if_pos ((on_eq (by omega) (by decide)).mp (show Int32.ofNat ev = Int32.ofNat 2 from q2))) (by decide) (by decide) ?_
            exact J T X
        · refine s_aload X (pc' := 317) at_315 rfl rfl rfl ?_
          refine s_virtual X (pc' := 320) (W := 0) (as' := []) (S := []) (k' := 5) (n' := 14) at_317 (hw _ (List.mem_of_getElem? (i := 83) rfl)) (hw _ (List.mem_of_getElem? (i := 84) rfl)) (hw _ (List.mem_of_getElem? (i := 86) rfl)) (hw _ (List.mem_of_getElem? (i := 85) rfl)) (nface (hw _ (List.mem_of_getElem? (i := 86) rfl))) (by decide) own_pd25 rfl E_b341 ((hp_skw l Z a0 hw hEL b341 _ g_b341 P_3 S_r he U O2 P5 O4 rG3).payS (by simp) (hw _ (List.mem_of_getElem? (i := 87) rfl)) (hw _ (List.mem_of_getElem? (i := 7) rfl)) hEL (by decide) (by decide)) (Nat.le_of_ble_eq_true rfl) rfl rfl (by decide) (by decide) (by decide) (by decide) rfl (fun T h371 v_ ws_ X hgr_ q372 => ?_)
          obtain ⟨rfl, K_, P_4, rfl⟩ := q372
          show Go p e below _ T (mkF m 320 #[.val (.int xa), .val (.int xb), .val (.int xc), .val (.int xd), .val (.int xm), .val (.ref b217), .val (.int (2 : Int32)), .val (.int (Int32.ofNat j)), .val (.ref b334), .val (.ref b341), .val (.int st), .val (.int (Int32.ofNat ev))] [])
          replace X := X.sub (ws' := [b341]) (by simp)
          replace A_b217 := A_b217.keep K_ (ninS ne_b217_b341 nin0)
          replace S_r := S_r.keep K_ E_b341 (by decide) (hw _ (List.mem_of_getElem? (i := 6) rfl))
          replace E_b341 := E_b341.keep K_
          rw [hi2] at P_4
          refine s_aload X (pc' := 322) at_320 rfl rfl rfl ?_
          refine s_virtual X (pc' := 325) (W := 0) (as' := []) (S := []) (k' := 5) (n' := 14) at_322 (hw _ (List.mem_of_getElem? (i := 78) rfl)) (hw _ (List.mem_of_getElem? (i := 79) rfl)) (hw _ (List.mem_of_getElem? (i := 81) rfl)) (hw _ (List.mem_of_getElem? (i := 80) rfl)) (nface (hw _ (List.mem_of_getElem? (i := 81) rfl))) (by decide) own_pd5 rfl E_b341 ((hp_pos l Z a0 hw hEL b341 _ P_4).payS (by simp) (hw _ (List.mem_of_getElem? (i := 82) rfl)) (hw _ (List.mem_of_getElem? (i := 7) rfl)) hEL (by decide) (by decide)) (Nat.le_of_ble_eq_true rfl) rfl rfl (by decide) (by decide) (by decide) (by decide) rfl (fun T h373 v_ ws_ X hgr_ q374 => ?_)
          obtain ⟨rfl, e_, rfl⟩ := q374
          rw [e_] at X
          show Go p e below _ T (mkF m 325 #[.val (.int xa), .val (.int xb), .val (.int xc), .val (.int xd), .val (.int xm), .val (.ref b217), .val (.int (2 : Int32)), .val (.int (Int32.ofNat j)), .val (.ref b334), .val (.ref b341), .val (.int st), .val (.int (Int32.ofNat ev))] [(.int (Int32.ofNat (ev + 0)))])
          replace X := X.sub (ws' := [b341]) (by simp)
          refine s_iload X (pc' := 327) at_325 rfl rfl ?_
          refine s_icmpF X (pc' := 330) at_327 (show Int32.ofNat (ev + 0) = Int32.ofNat ev from rfl) rfl ?_
          refine s_iconst X (pc' := 331) at_330 (v := (1 : Int32)) rfl rfl ?_
          refine s_goto X (pc' := 335) at_331 (by decide) (by decide) ?_
          exact s_iretN X hEL (ws' := []) (t := .boolean) at_335 rfl (by simp) (by decide) (by decide) (fun x q => by simp at q) rfl
    · refine s_special X (pc' := 199) (W := 3) (as' := [(.ref b334)]) (S := [(.ref b344), (.ref b341), (.ref b341)]) (k' := 6) (n' := 18) at_196 rfl (hw _ (List.mem_of_getElem? (i := 11) rfl)) (hw _ (List.mem_of_getElem? (i := 12) rfl)) (hw _ (List.mem_of_getElem? (i := 13) rfl)) (by decide) own_pd22 rfl ((u_i1_2 l Z a0 hw hEL b344 b334 z0 z1 _ X.old g_b344 E_b344 F_b344_value F_b344_coder A_b334 hp (nall hl) O2 P5 U).payS (by simp) (hw _ (List.mem_of_getElem? (i := 13) rfl)) (hw _ (List.mem_of_getElem? (i := 10) rfl)) hEL (by decide) (by decide)) (Nat.le_of_ble_eq_true rfl) rfl rfl (by decide) (by decide) (by decide) (by decide) rfl (fun T h349 v_ ws_ X hgr_ q350 => ?_)
      obtain ⟨rfl, K_, S_b344, rfl⟩ := q350
      show Go p e below _ T (mkF m 199 #[.val (.int xa), .val (.int xb), .val (.int xc), .val (.int xd), .val (.int xm), .val (.ref b217), .val (.int (2 : Int32)), .val (.int (Int32.ofNat k0)), .val (.ref b334), .unset, .unset, .unset] [(.ref b344), (.ref b341), (.ref b341)])
      replace F_b341_value := F_b341_value.keep K_ (ninS ne_b341_b344 nin0)
      replace F_b341_position := F_b341_position.keep K_ (ninS ne_b341_b344 nin0)
      replace A_b217 := A_b217.keep K_ (ninS ne_b217_b344 nin0)
      replace E_b341 := E_b341.keep K_
      replace E_b344 := E_b344.keep K_
      refine s_special X (pc' := 202) (W := 1) (as' := [(.ref b344)]) (S := [(.ref b341)]) (k' := 6) (n' := 18) at_199 rfl (hw _ (List.mem_of_getElem? (i := 29) rfl)) (hw _ (List.mem_of_getElem? (i := 30) rfl)) (hw _ (List.mem_of_getElem? (i := 31) rfl)) (by decide) own_pd23 rfl ((hp_ini l Z a0 hw hEL b341 b344 _ g_b341 E_b341 F_b341_value F_b341_position).payS (by simp) (hw _ (List.mem_of_getElem? (i := 31) rfl)) (hw _ (List.mem_of_getElem? (i := 7) rfl)) hEL (by decide) (by decide)) (Nat.le_of_ble_eq_true rfl) rfl rfl (by decide) (by decide) (by decide) (by decide) rfl (fun T h375 v_ ws_ X hgr_ q376 => ?_)
      obtain ⟨rfl, K_, P_1, rfl⟩ := q376
      show Go p e below _ T (mkF m 202 #[.val (.int xa), .val (.int xb), .val (.int xc), .val (.int xd), .val (.int xm), .val (.ref b217), .val (.int (2 : Int32)), .val (.int (Int32.ofNat k0)), .val (.ref b334), .unset, .unset, .unset] [(.ref b341)])
      replace X := X.sub (ws' := [b341]) (by simp)
      replace A_b217 := A_b217.keep K_ (ninS ne_b217_b341 nin0)
      replace S_b344 := S_b344.keep K_ E_b341 (by decide) (hw _ (List.mem_of_getElem? (i := 6) rfl))
      replace E_b341 := E_b341.keep K_
      have S_r := S_b344
      refine s_astore X (pc' := 204) (L' := #[.val (.int xa), .val (.int xb), .val (.int xc), .val (.int xd), .val (.int xm), .val (.ref b217), .val (.int (2 : Int32)), .val (.int (Int32.ofNat k0)), .val (.ref b334), .val (.ref b341), .unset, .unset]) at_202 rfl rfl rfl ?_
      refine s_iload X (pc' := 206) at_204 rfl rfl ?_
      refine s_iload X (pc' := 208) at_206 rfl rfl ?_
      refine jn (A := ∀ T (st : Int32), (¬ st < 0 ∧ ¬ (65535 : Int32) < st) → sfV ([z0, z1] : List Int32) st k0 = Int32.ofNat k0 → Cx p l e room_1 s m #[(.int xa), (.int xb), (.int xc), (.int xd), (.int xm)] below meth c Z consts_1 False x code maxLocals ret [b341] T h375 6 18 → Go p e below (Post Z consts_1 s room_1 (fun v h' ws' => v = some (.int 1))) T (mkF m 223 #[.val (.int xa), .val (.int xb), .val (.int xc), .val (.int xd), .val (.int xm), .val (.ref b217), .val (.int (2 : Int32)), .val (.int (Int32.ofNat k0)), .val (.ref b334), .val (.ref b341), .val (.int st), .unset] [])) (fun J => ?_) (fun T st kst hst X => ?_)
      · refine s_icmp X (pc' := 219) (pcF := 211) at_208 (by decide) (by decide) rfl (fun (q1 : ¬ (Int32.ofNat k0) < (2 : Int32)) => ?_) (fun (q1 : (Int32.ofNat k0) < (2 : Int32)) => ?_)
        · have n1 : k0 = 2 := by
            have z : ¬ k0 < 2 := fun z => q1 ((on_lt (by omega) (by decide)).mpr z)
            omega
          refine s_bipush X (pc' := 221) at_219 (v := (120 : Int32)) (by decide) rfl ?_
          refine s_istore X (pc' := 223) (L' := #[.val (.int xa), .val (.int xb), .val (.int xc), .val (.int xd), .val (.int xm), .val (.ref b217), .val (.int (2 : Int32)), .val (.int (Int32.ofNat k0)), .val (.ref b334), .val (.ref b341), .val (.int (120 : Int32)), .unset]) at_221 rfl rfl ?_
          exact J T (120 : Int32) (by decide) (sfV_all _ n1) X
        · have y1 : k0 < 2 := (on_lt (by omega) (by decide)).mp q1
          refine s_aload X (pc' := 213) at_211 rfl rfl rfl ?_
          refine s_iload X (pc' := 215) at_213 rfl rfl ?_
          refine s_caload X (pc' := 216) (i := k0) (v := .int (([z0, z1, z2, z3] : List Int32).getD k0 0)) at_215 A_b217 rfl (map_at ([z0, z1, z2, z3] : List Int32) (show k0 < 4 by omega)) rfl ?_
          refine s_goto X (pc' := 221) at_216 (by decide) (by decide) ?_
          refine s_istore X (pc' := 223) (L' := #[.val (.int xa), .val (.int xb), .val (.int xc), .val (.int xd), .val (.int xm), .val (.ref b217), .val (.int (2 : Int32)), .val (.int (Int32.ofNat k0)), .val (.ref b334), .val (.ref b341), .val (.int (([z0, z1, z2, z3] : List Int32).getD k0 0)), .unset]) at_221 rfl rfl ?_
          exact J T _ (hpd _ (getD_mem (show k0 < 4 by omega))) (by
            have q := take_getD (ds := ([z0, z1, z2, z3] : List Int32)) (n := 2) (i := k0) y1
            rw [← q]
            exact sfV_self (cs := ([z0, z1] : List Int32)) (Nat.le_of_ble_eq_true rfl) y1) X
      · refine s_aload X (pc' := 225) at_223 rfl rfl rfl ?_
        refine s_iload X (pc' := 227) at_225 rfl rfl ?_
        refine s_iload X (pc' := 229) at_227 rfl rfl ?_
        refine s_virtual X (pc' := 232) (W := 0) (as' := [(.int (Int32.ofNat k0)), (.int st)]) (S := []) (k' := 6) (n' := 18) at_229 (hw _ (List.mem_of_getElem? (i := 35) rfl)) (hw _ (List.mem_of_getElem? (i := 36) rfl)) (hw _ (List.mem_of_getElem? (i := 38) rfl)) (hw _ (List.mem_of_getElem? (i := 37) rfl)) (nface (hw _ (List.mem_of_getElem? (i := 38) rfl))) (by decide) own_pd24 rfl E_b341 ((hp_sf l Z a0 hw hEL b341 k0 st _ g_b341 (show k0 ≤ ([z0, z1] : List Int32).length from hk0) kst P_1 S_r (Nat.zero_le _) U O2 P5 O4 rG3).payS (by simp) (hw _ (List.mem_of_getElem? (i := 39) rfl)) (hw _ (List.mem_of_getElem? (i := 7) rfl)) hEL (by decide) (by decide)) (Nat.le_of_ble_eq_true rfl) rfl rfl (by decide) (by decide) (by decide) (by decide) rfl (fun T h377 v_ ws_ X hgr_ q378 => ?_)
        obtain ⟨rfl, K_, ⟨j, hj, hjs, P_2⟩, rfl⟩ := q378
        show Go p e below _ T (mkF m 232 #[.val (.int xa), .val (.int xb), .val (.int xc), .val (.int xd), .val (.int xm), .val (.ref b217), .val (.int (2 : Int32)), .val (.int (Int32.ofNat k0)), .val (.ref b334), .val (.ref b341), .val (.int st), .unset] [])
        replace X := X.sub (ws' := [b341]) (by simp)
        replace A_b217 := A_b217.keep K_ (ninS ne_b217_b341 nin0)
        replace S_r := S_r.keep K_ E_b341 (by decide) (hw _ (List.mem_of_getElem? (i := 6) rfl))
        replace E_b341 := E_b341.keep K_
        replace hj : j ≤ 2 := hj
        obtain rfl : j = k0 := (on_eq (by omega) (by omega)).mp (hjs.trans hst)
        refine s_aload X (pc' := 234) at_232 rfl rfl rfl ?_
        refine s_virtual X (pc' := 237) (W := 0) (as' := []) (S := []) (k' := 6) (n' := 18) at_234 (hw _ (List.mem_of_getElem? (i := 78) rfl)) (hw _ (List.mem_of_getElem? (i := 79) rfl)) (hw _ (List.mem_of_getElem? (i := 81) rfl)) (hw _ (List.mem_of_getElem? (i := 80) rfl)) (nface (hw _ (List.mem_of_getElem? (i := 81) rfl))) (by decide) own_pd5 rfl E_b341 ((hp_pos l Z a0 hw hEL b341 _ P_2).payS (by simp) (hw _ (List.mem_of_getElem? (i := 82) rfl)) (hw _ (List.mem_of_getElem? (i := 7) rfl)) hEL (by decide) (by decide)) (Nat.le_of_ble_eq_true rfl) rfl rfl (by decide) (by decide) (by decide) (by decide) rfl (fun T h379 v_ ws_ X hgr_ q380 => ?_)
        obtain ⟨rfl, e_, rfl⟩ := q380
        rw [e_] at X
        show Go p e below _ T (mkF m 237 #[.val (.int xa), .val (.int xb), .val (.int xc), .val (.int xd), .val (.int xm), .val (.ref b217), .val (.int (2 : Int32)), .val (.int (Int32.ofNat j)), .val (.ref b334), .val (.ref b341), .val (.int st), .unset] [(.int (Int32.ofNat j))])
        replace X := X.sub (ws' := [b341]) (by simp)
        refine s_iload X (pc' := 239) at_237 rfl rfl ?_
        refine s_icmpT X (pc' := 244) at_239 rfl (by decide) (by decide) ?_
        refine s_aload X (pc' := 246) at_244 rfl rfl rfl ?_
        refine s_virtual X (pc' := 249) (W := 0) (as' := []) (S := []) (k' := 6) (n' := 18) at_246 (hw _ (List.mem_of_getElem? (i := 83) rfl)) (hw _ (List.mem_of_getElem? (i := 84) rfl)) (hw _ (List.mem_of_getElem? (i := 86) rfl)) (hw _ (List.mem_of_getElem? (i := 85) rfl)) (nface (hw _ (List.mem_of_getElem? (i := 86) rfl))) (by decide) own_pd25 rfl E_b341 ((hp_skw l Z a0 hw hEL b341 _ g_b341 P_2 S_r hj U O2 P5 O4 rG3).payS (by simp) (hw _ (List.mem_of_getElem? (i := 87) rfl)) (hw _ (List.mem_of_getElem? (i := 7) rfl)) hEL (by decide) (by decide)) (Nat.le_of_ble_eq_true rfl) rfl rfl (by decide) (by decide) (by decide) (by decide) rfl (fun T h381 v_ ws_ X hgr_ q382 => ?_)
        obtain ⟨rfl, K_, P_3, rfl⟩ := q382
        show Go p e below _ T (mkF m 249 #[.val (.int xa), .val (.int xb), .val (.int xc), .val (.int xd), .val (.int xm), .val (.ref b217), .val (.int (2 : Int32)), .val (.int (Int32.ofNat j)), .val (.ref b334), .val (.ref b341), .val (.int st), .unset] [])
        replace X := X.sub (ws' := [b341]) (by simp)
        replace A_b217 := A_b217.keep K_ (ninS ne_b217_b341 nin0)
        replace S_r := S_r.keep K_ E_b341 (by decide) (hw _ (List.mem_of_getElem? (i := 6) rfl))
        replace E_b341 := E_b341.keep K_
        refine s_aload X (pc' := 251) at_249 rfl rfl rfl ?_
        refine s_iload X (pc' := 253) at_251 rfl rfl ?_
        refine s_aload X (pc' := 255) at_253 rfl rfl rfl ?_
        refine s_iload X (pc' := 257) at_255 rfl rfl ?_
        refine s_aload X (pc' := 259) at_257 rfl rfl rfl ?_
        refine s_iload X (pc' := 261) at_259 rfl rfl ?_
        refine s_aload X (pc' := 263) at_261 rfl rfl rfl ?_
        refine s_iload X (pc' := 265) at_263 rfl rfl ?_
        refine s_iload X (pc' := 267) at_265 rfl rfl ?_
        refine s_static X (pc' := 270) (W := 6) (as' := [(.ref b217), (.int (2 : Int32)), (.int (Int32.ofNat j))]) (S := [(.int (2 : Int32)), (.ref b217), (.int (2 : Int32)), (.ref b217), (.int (2 : Int32)), (.ref b217)]) (k' := 6) (n' := 18) at_267 (hw _ (List.mem_of_getElem? (i := 88) rfl)) (hw _ (List.mem_of_getElem? (i := 89) rfl)) (hw _ (List.mem_of_getElem? (i := 3) rfl)) (hw _ (List.mem_of_getElem? (i := 90) rfl)) (by decide) own_pd26 rfl ((own_step l Z a0 hw hEL b217 ([z0, z1, z2, z3] : List Int32) 2 j _ A_b217 (by show 2 ≤ 4; omega) (Nat.le_of_ble_eq_true rfl) hj).payS (by simp) (hw _ (List.mem_of_getElem? (i := 90) rfl)) (hw _ (List.mem_of_getElem? (i := 3) rfl)) hEL (by decide) (by decide)) (Nat.le_of_ble_eq_true rfl) rfl rfl (by decide) (by decide) (by decide) (by decide) rfl (fun T h383 v_ ws_ X hgr_ q384 => ?_)
        obtain ⟨rfl, e_, rfl⟩ := q384
        rw [e_] at X
        show Go p e below _ T (mkF m 270 #[.val (.int xa), .val (.int xb), .val (.int xc), .val (.int xd), .val (.int xm), .val (.ref b217), .val (.int (2 : Int32)), .val (.int (Int32.ofNat j)), .val (.ref b334), .val (.ref b341), .val (.int st), .unset] [(.int (Int32.ofNat (stepN ([z0, z1, z2, z3] : List Int32) 2 j))), (.int (2 : Int32)), (.ref b217), (.int (2 : Int32)), (.ref b217), (.int (2 : Int32)), (.ref b217)])
        replace X := X.sub (ws' := [b341]) (by simp)
        refine s_static X (pc' := 273) (W := 4) (as' := [(.ref b217), (.int (2 : Int32)), (.int (Int32.ofNat (stepN ([z0, z1, z2, z3] : List Int32) 2 j)))]) (S := [(.int (2 : Int32)), (.ref b217), (.int (2 : Int32)), (.ref b217)]) (k' := 6) (n' := 18) at_270 (hw _ (List.mem_of_getElem? (i := 88) rfl)) (hw _ (List.mem_of_getElem? (i := 89) rfl)) (hw _ (List.mem_of_getElem? (i := 3) rfl)) (hw _ (List.mem_of_getElem? (i := 90) rfl)) (by decide) own_pd26 rfl ((own_step l Z a0 hw hEL b217 ([z0, z1, z2, z3] : List Int32) 2 (stepN ([z0, z1, z2, z3] : List Int32) 2 j) _ A_b217 (by show 2 ≤ 4; omega) (Nat.le_of_ble_eq_true rfl) (step_le ([z0, z1, z2, z3] : List Int32) 2 _ hj)).payS (by simp) (hw _ (List.mem_of_getElem? (i := 90) rfl)) (hw _ (List.mem_of_getElem? (i := 3) rfl)) hEL (by decide) (by decide)) (Nat.le_of_ble_eq_true rfl) rfl rfl (by decide) (by decide) (by decide) (by decide) rfl (fun T h385 v_ ws_ X hgr_ q386 => ?_)
        obtain ⟨rfl, e_, rfl⟩ := q386
        rw [e_] at X
        show Go p e below _ T (mkF m 273 #[.val (.int xa), .val (.int xb), .val (.int xc), .val (.int xd), .val (.int xm), .val (.ref b217), .val (.int (2 : Int32)), .val (.int (Int32.ofNat j)), .val (.ref b334), .val (.ref b341), .val (.int st), .unset] [(.int (Int32.ofNat (stepN ([z0, z1, z2, z3] : List Int32) 2 (stepN ([z0, z1, z2, z3] : List Int32) 2 j)))), (.int (2 : Int32)), (.ref b217), (.int (2 : Int32)), (.ref b217)])
        replace X := X.sub (ws' := [b341]) (by simp)
        refine s_static X (pc' := 276) (W := 2) (as' := [(.ref b217), (.int (2 : Int32)), (.int (Int32.ofNat (stepN ([z0, z1, z2, z3] : List Int32) 2 (stepN ([z0, z1, z2, z3] : List Int32) 2 j))))]) (S := [(.int (2 : Int32)), (.ref b217)]) (k' := 6) (n' := 18) at_273 (hw _ (List.mem_of_getElem? (i := 88) rfl)) (hw _ (List.mem_of_getElem? (i := 89) rfl)) (hw _ (List.mem_of_getElem? (i := 3) rfl)) (hw _ (List.mem_of_getElem? (i := 90) rfl)) (by decide) own_pd26 rfl ((own_step l Z a0 hw hEL b217 ([z0, z1, z2, z3] : List Int32) 2 (stepN ([z0, z1, z2, z3] : List Int32) 2 (stepN ([z0, z1, z2, z3] : List Int32) 2 j)) _ A_b217 (by show 2 ≤ 4; omega) (Nat.le_of_ble_eq_true rfl) (step_le ([z0, z1, z2, z3] : List Int32) 2 _ (step_le ([z0, z1, z2, z3] : List Int32) 2 _ hj))).payS (by simp) (hw _ (List.mem_of_getElem? (i := 90) rfl)) (hw _ (List.mem_of_getElem? (i := 3) rfl)) hEL (by decide) (by decide)) (Nat.le_of_ble_eq_true rfl) rfl rfl (by decide) (by decide) (by decide) (by decide) rfl (fun T h387 v_ ws_ X hgr_ q388 => ?_)
        obtain ⟨rfl, e_, rfl⟩ := q388
        rw [e_] at X
        show Go p e below _ T (mkF m 276 #[.val (.int xa), .val (.int xb), .val (.int xc), .val (.int xd), .val (.int xm), .val (.ref b217), .val (.int (2 : Int32)), .val (.int (Int32.ofNat j)), .val (.ref b334), .val (.ref b341), .val (.int st), .unset] [(.int (Int32.ofNat (stepN ([z0, z1, z2, z3] : List Int32) 2 (stepN ([z0, z1, z2, z3] : List Int32) 2 (stepN ([z0, z1, z2, z3] : List Int32) 2 j))))), (.int (2 : Int32)), (.ref b217)])
        replace X := X.sub (ws' := [b341]) (by simp)
        refine s_static X (pc' := 279) (W := 0) (as' := [(.ref b217), (.int (2 : Int32)), (.int (Int32.ofNat (stepN ([z0, z1, z2, z3] : List Int32) 2 (stepN ([z0, z1, z2, z3] : List Int32) 2 (stepN ([z0, z1, z2, z3] : List Int32) 2 j)))))]) (S := []) (k' := 6) (n' := 18) at_276 (hw _ (List.mem_of_getElem? (i := 88) rfl)) (hw _ (List.mem_of_getElem? (i := 89) rfl)) (hw _ (List.mem_of_getElem? (i := 3) rfl)) (hw _ (List.mem_of_getElem? (i := 90) rfl)) (by decide) own_pd26 rfl ((own_step l Z a0 hw hEL b217 ([z0, z1, z2, z3] : List Int32) 2 (stepN ([z0, z1, z2, z3] : List Int32) 2 (stepN ([z0, z1, z2, z3] : List Int32) 2 (stepN ([z0, z1, z2, z3] : List Int32) 2 j))) _ A_b217 (by show 2 ≤ 4; omega) (Nat.le_of_ble_eq_true rfl) (step_le ([z0, z1, z2, z3] : List Int32) 2 _ (step_le ([z0, z1, z2, z3] : List Int32) 2 _ (step_le ([z0, z1, z2, z3] : List Int32) 2 _ hj)))).payS (by simp) (hw _ (List.mem_of_getElem? (i := 90) rfl)) (hw _ (List.mem_of_getElem? (i := 3) rfl)) hEL (by decide) (by decide)) (Nat.le_of_ble_eq_true rfl) rfl rfl (by decide) (by decide) (by decide) (by decide) rfl (fun T h389 v_ ws_ X hgr_ q390 => ?_)
        obtain ⟨rfl, e_, rfl⟩ := q390
        rw [e_] at X
        show Go p e below _ T (mkF m 279 #[.val (.int xa), .val (.int xb), .val (.int xc), .val (.int xd), .val (.int xm), .val (.ref b217), .val (.int (2 : Int32)), .val (.int (Int32.ofNat j)), .val (.ref b334), .val (.ref b341), .val (.int st), .unset] [(.int (Int32.ofNat (stepN ([z0, z1, z2, z3] : List Int32) 2 (stepN ([z0, z1, z2, z3] : List Int32) 2 (stepN ([z0, z1, z2, z3] : List Int32) 2 (stepN ([z0, z1, z2, z3] : List Int32) 2 j))))))])
        replace X := X.sub (ws' := [b341]) (by simp)
        refine go_int (z := (Int32.ofNat (j + wsL (([z0, z1] : List Int32).drop j)))) (congrArg Int32.ofNat (step4 ([z0, z1, z2, z3] : List Int32) 2 j (by decide) (by show 2 ≤ 4; omega) hj)) ?_
        have he : (j + wsL (([z0, z1] : List Int32).drop j)) ≤ 2 := by
          have q := wsL_le (([z0, z1] : List Int32).drop j)
          rw [List.length_drop] at q
          have q2 : ([z0, z1] : List Int32).length = 2 := rfl
          omega
        have hi2 : wsL (([z0, z1] : List Int32).drop (j + wsL (([z0, z1] : List Int32).drop j))) = 0 := by rw [← List.drop_drop]; exact ws_idem _
        obtain ⟨ev, gev⟩ : ∃ z, z = (j + wsL (([z0, z1] : List Int32).drop j)) := ⟨_, rfl⟩
        rw [← gev] at P_3 he hi2 ⊢
        refine s_istore X (pc' := 281) (L' := #[.val (.int xa), .val (.int xb), .val (.int xc), .val (.int xd), .val (.int xm), .val (.ref b217), .val (.int (2 : Int32)), .val (.int (Int32.ofNat j)), .val (.ref b334), .val (.ref b341), .val (.int st), .val (.int (Int32.ofNat ev))]) at_279 rfl rfl ?_
        refine s_aload X (pc' := 283) at_281 rfl rfl rfl ?_
        refine s_virtual X (pc' := 286) (W := 0) (as' := []) (S := []) (k' := 6) (n' := 18) at_283 (hw _ (List.mem_of_getElem? (i := 78) rfl)) (hw _ (List.mem_of_getElem? (i := 79) rfl)) (hw _ (List.mem_of_getElem? (i := 81) rfl)) (hw _ (List.mem_of_getElem? (i := 80) rfl)) (nface (hw _ (List.mem_of_getElem? (i := 81) rfl))) (by decide) own_pd5 rfl E_b341 ((hp_pos l Z a0 hw hEL b341 _ P_3).payS (by simp) (hw _ (List.mem_of_getElem? (i := 82) rfl)) (hw _ (List.mem_of_getElem? (i := 7) rfl)) hEL (by decide) (by decide)) (Nat.le_of_ble_eq_true rfl) rfl rfl (by decide) (by decide) (by decide) (by decide) rfl (fun T h391 v_ ws_ X hgr_ q392 => ?_)
        obtain ⟨rfl, e_, rfl⟩ := q392
        rw [e_] at X
        show Go p e below _ T (mkF m 286 #[.val (.int xa), .val (.int xb), .val (.int xc), .val (.int xd), .val (.int xm), .val (.ref b217), .val (.int (2 : Int32)), .val (.int (Int32.ofNat j)), .val (.ref b334), .val (.ref b341), .val (.int st), .val (.int (Int32.ofNat ev))] [(.int (Int32.ofNat ev))])
        replace X := X.sub (ws' := [b341]) (by simp)
        refine s_iload X (pc' := 288) at_286 rfl rfl ?_
        refine s_icmpT X (pc' := 293) at_288 rfl (by decide) (by decide) ?_
        refine s_aload X (pc' := 295) at_293 rfl rfl rfl ?_
        refine s_virtual X (pc' := 298) (W := 0) (as' := []) (S := []) (k' := 6) (n' := 18) at_295 (hw _ (List.mem_of_getElem? (i := 91) rfl)) (hw _ (List.mem_of_getElem? (i := 92) rfl)) (hw _ (List.mem_of_getElem? (i := 94) rfl)) (hw _ (List.mem_of_getElem? (i := 93) rfl)) (nface (hw _ (List.mem_of_getElem? (i := 94) rfl))) (by decide) own_pd4 rfl E_b341 ((hp_atEnd l Z a0 hw hEL b341 _ P_3 S_r he O2 P5).payS (by simp) (hw _ (List.mem_of_getElem? (i := 95) rfl)) (hw _ (List.mem_of_getElem? (i := 7) rfl)) hEL (by decide) (by decide)) (Nat.le_of_ble_eq_true rfl) rfl rfl (by decide) (by decide) (by decide) (by decide) rfl (fun T h393 v_ ws_ X hgr_ q394 => ?_)
        obtain ⟨rfl, e_, rfl⟩ := q394
        rw [e_] at X
        show Go p e below _ T (mkF m 298 #[.val (.int xa), .val (.int xb), .val (.int xc), .val (.int xd), .val (.int xm), .val (.ref b217), .val (.int (2 : Int32)), .val (.int (Int32.ofNat j)), .val (.ref b334), .val (.ref b341), .val (.int st), .val (.int (Int32.ofNat ev))] [(.int (if ev = ([z0, z1] : List Int32).length then 1 else 0))])
        replace X := X.sub (ws' := [b341]) (by simp)
        refine s_iload X (pc' := 300) at_298 rfl rfl ?_
        refine s_iload X (pc' := 302) at_300 rfl rfl ?_
        refine jn (A := ∀ T, Cx p l e room_1 s m #[(.int xa), (.int xb), (.int xc), (.int xd), (.int xm)] below meth c Z consts_1 False x code maxLocals ret [b341] T h381 6 18 → Go p e below (Post Z consts_1 s room_1 (fun v h' ws' => v = some (.int 1))) T (mkF m 315 #[.val (.int xa), .val (.int xb), .val (.int xc), .val (.int xd), .val (.int xm), .val (.ref b217), .val (.int (2 : Int32)), .val (.int (Int32.ofNat j)), .val (.ref b334), .val (.ref b341), .val (.int st), .val (.int (Int32.ofNat ev))] [])) (fun J => ?_) (fun T X => ?_)
        · refine s_icmp X (pc' := 309) (pcF := 305) at_302 (by decide) (by decide) rfl (fun (q2 : ¬ (Int32.ofNat ev) = (2 : Int32)) => ?_) (fun (q2 : (Int32.ofNat ev) = (2 : Int32)) => ?_)
          · refine s_iconst X (pc' := 310) at_309 (v := (0 : Int32)) rfl rfl ?_
            refine s_icmpT X (pc' := 315) at_310 (show (if ev = ([z0, z1] : List Int32).length then (1 : Int32) else 0) = (0 : Int32) from if_neg (fun z => q2 (congrArg Int32.ofNat z))) (by decide) (by decide) ?_
            exact J T X
          · refine s_iconst X (pc' := 306) at_305 (v := (1 : Int32)) rfl rfl ?_
            refine s_goto X (pc' := 310) at_306 (by decide) (by decide) ?_
            refine s_icmpT X (pc' := 315) at_310 (show (if ev = ([z0, z1] : List Int32).length then (1 : Int32) else 0) = (1 : Int32) from if_pos ((on_eq (by omega) (by decide)).mp (show Int32.ofNat ev = Int32.ofNat 2 from q2))) (by decide) (by decide) ?_
            exact J T X
        · refine s_aload X (pc' := 317) at_315 rfl rfl rfl ?_
          refine s_virtual X (pc' := 320) (W := 0) (as' := []) (S := []) (k' := 6) (n' := 18) at_317 (hw _ (List.mem_of_getElem? (i := 83) rfl)) (hw _ (List.mem_of_getElem? (i := 84) rfl)) (hw _ (List.mem_of_getElem? (i := 86) rfl)) (hw _ (List.mem_of_getElem? (i := 85) rfl)) (nface (hw _ (List.mem_of_getElem? (i := 86) rfl))) (by decide) own_pd25 rfl E_b341 ((hp_skw l Z a0 hw hEL b341 _ g_b341 P_3 S_r he U O2 P5 O4 rG3).payS (by simp) (hw _ (List.mem_of_getElem? (i := 87) rfl)) (hw _ (List.mem_of_getElem? (i := 7) rfl)) hEL (by decide) (by decide)) (Nat.le_of_ble_eq_true rfl) rfl rfl (by decide) (by decide) (by decide) (by decide) rfl (fun T h395 v_ ws_ X hgr_ q396 => ?_)
          obtain ⟨rfl, K_, P_4, rfl⟩ := q396
          show Go p e below _ T (mkF m 320 #[.val (.int xa), .val (.int xb), .val (.int xc), .val (.int xd), .val (.int xm), .val (.ref b217), .val (.int (2 : Int32)), .val (.int (Int32.ofNat j)), .val (.ref b334), .val (.ref b341), .val (.int st), .val (.int (Int32.ofNat ev))] [])
          replace X := X.sub (ws' := [b341]) (by simp)
          replace A_b217 := A_b217.keep K_ (ninS ne_b217_b341 nin0)
          replace S_r := S_r.keep K_ E_b341 (by decide) (hw _ (List.mem_of_getElem? (i := 6) rfl))
          replace E_b341 := E_b341.keep K_
          rw [hi2] at P_4
          refine s_aload X (pc' := 322) at_320 rfl rfl rfl ?_
          refine s_virtual X (pc' := 325) (W := 0) (as' := []) (S := []) (k' := 6) (n' := 18) at_322 (hw _ (List.mem_of_getElem? (i := 78) rfl)) (hw _ (List.mem_of_getElem? (i := 79) rfl)) (hw _ (List.mem_of_getElem? (i := 81) rfl)) (hw _ (List.mem_of_getElem? (i := 80) rfl)) (nface (hw _ (List.mem_of_getElem? (i := 81) rfl))) (by decide) own_pd5 rfl E_b341 ((hp_pos l Z a0 hw hEL b341 _ P_4).payS (by simp) (hw _ (List.mem_of_getElem? (i := 82) rfl)) (hw _ (List.mem_of_getElem? (i := 7) rfl)) hEL (by decide) (by decide)) (Nat.le_of_ble_eq_true rfl) rfl rfl (by decide) (by decide) (by decide) (by decide) rfl (fun T h397 v_ ws_ X hgr_ q398 => ?_)
          obtain ⟨rfl, e_, rfl⟩ := q398
          rw [e_] at X
          show Go p e below _ T (mkF m 325 #[.val (.int xa), .val (.int xb), .val (.int xc), .val (.int xd), .val (.int xm), .val (.ref b217), .val (.int (2 : Int32)), .val (.int (Int32.ofNat j)), .val (.ref b334), .val (.ref b341), .val (.int st), .val (.int (Int32.ofNat ev))] [(.int (Int32.ofNat (ev + 0)))])
          replace X := X.sub (ws' := [b341]) (by simp)
          refine s_iload X (pc' := 327) at_325 rfl rfl ?_
          refine s_icmpF X (pc' := 330) at_327 (show Int32.ofNat (ev + 0) = Int32.ofNat ev from rfl) rfl ?_
          refine s_iconst X (pc' := 331) at_330 (v := (1 : Int32)) rfl rfl ?_
          refine s_goto X (pc' := 335) at_331 (by decide) (by decide) ?_
          exact s_iretN X hEL (ws' := []) (t := .boolean) at_335 rfl (by simp) (by decide) (by decide) (fun x q => by simp at q) rfl
  · refine go_int (z := (3 : Int32)) (pq) ?_
    refine s_istore X (pc' := 42) (L' := #[.val (.int xa), .val (.int xb), .val (.int xc), .val (.int xd), .val (.int xm), .val (.ref b217), .val (.int (3 : Int32)), .unset, .unset, .unset, .unset, .unset]) at_40 rfl rfl ?_
    refine s_iload X (pc' := 44) at_42 rfl rfl ?_
    refine s_iconst X (pc' := 45) at_44 (v := (3 : Int32)) rfl rfl ?_
    refine s_iushr X (pc' := 46) at_45 rfl ?_
    refine s_bipush X (pc' := 48) at_46 (v := (7 : Int32)) (by decide) rfl ?_
    refine s_iand X (pc' := 49) at_48 rfl ?_
    refine s_iload X (pc' := 51) at_49 rfl rfl ?_
    refine s_iconst X (pc' := 52) at_51 (v := (1 : Int32)) rfl rfl ?_
    refine s_iadd X (pc' := 53) at_52 rfl ?_
    refine s_irem X (pc' := 54) at_53 (by decide) rfl ?_
    obtain ⟨k0, hk0', gk0⟩ := rem_k ((xm.toUInt32 >>> ((3 : Int32) &&& 31).toUInt32).toInt32) ((3 : Int32) + (1 : Int32)) 4 (by decide) (by decide) (by decide)
    have hk0 : k0 ≤ 3 := by omega
    refine go_int (z := (Int32.ofNat k0)) (gk0) ?_
    refine s_istore X (pc' := 56) (L' := #[.val (.int xa), .val (.int xb), .val (.int xc), .val (.int xd), .val (.int xm), .val (.ref b217), .val (.int (3 : Int32)), .val (.int (Int32.ofNat k0)), .unset, .unset, .unset, .unset]) at_54 rfl rfl ?_
    refine s_iload X (pc' := 58) at_56 rfl rfl ?_
    refine s_ifT X (pc' := 69) at_58 (show ¬ (3 : Int32) = (0 : Int32) by decide) (by decide) (by decide) ?_
    refine s_iload X (pc' := 71) at_69 rfl rfl ?_
    refine s_iconst X (pc' := 72) at_71 (v := (1 : Int32)) rfl rfl ?_
    refine s_icmpT X (pc' := 90) at_72 (show ¬ (3 : Int32) = (1 : Int32) by decide) (by decide) (by decide) ?_
    refine s_iload X (pc' := 92) at_90 rfl rfl ?_
    refine s_iconst X (pc' := 93) at_92 (v := (2 : Int32)) rfl rfl ?_
    refine s_icmpT X (pc' := 118) at_93 (show ¬ (3 : Int32) = (2 : Int32) by decide) (by decide) (by decide) ?_
    refine s_iload X (pc' := 120) at_118 rfl rfl ?_
    refine s_iconst X (pc' := 121) at_120 (v := (3 : Int32)) rfl rfl ?_
    refine s_icmpF X (pc' := 124) at_121 (show (3 : Int32) = (3 : Int32) by decide) rfl ?_
    refine s_iconst X (pc' := 125) at_124 (v := (3 : Int32)) rfl rfl ?_
    refine s_newarr X (pc' := 127) (k' := 2) (n' := 7) (N := 3) at_125 (hw _ (List.mem_of_getElem? (i := 0) rfl)) rfl (by decide) (by decide) (by decide) (by decide) (by decide) rfl (fun T h400 b399 gb_b399 X' E401 A_b399 => ?_)
    have g_b399 : Z.heap.size ≤ b399 := by rw [gb_b399]; exact X.lt
    have ne_b217_b399 : b217 ≠ b399 := Nat.ne_of_lt (by rw [gb_b399]; exact A_b217.lt)
    replace A_b217 := A_b217.ext E401
    replace X := X'
    replace A_b399 : Ary Z h400 b399 .char [(.int (0 : Int32)), (.int (0 : Int32)), (.int (0 : Int32))] := A_b399
    refine s_dup X (pc' := 128) at_127 rfl rfl ?_
    refine s_iconst X (pc' := 129) at_128 (v := (0 : Int32)) rfl rfl ?_
    refine s_aload X (pc' := 131) at_129 rfl rfl rfl ?_
    refine s_iconst X (pc' := 132) at_131 (v := (0 : Int32)) rfl rfl ?_
    refine s_caload X (pc' := 133) (i := 0) (v := (.int z0)) at_132 A_b217 rfl rfl rfl ?_
    refine s_castore X (pc' := 134) (i := 0) at_133 A_b399 rfl (Nat.le_of_ble_eq_true rfl) g_b399 (by simp) rfl (fun T h402 X W403 A' => ?_)
    replace A_b217 := A_b217.other W403 ne_b217_b399
    replace A_b399 : Ary Z h402 b399 .char [(.int (nar .char z0)), (.int (0 : Int32)), (.int (0 : Int32))] := A'
    refine s_dup X (pc' := 135) at_134 rfl rfl ?_
    refine s_iconst X (pc' := 136) at_135 (v := (1 : Int32)) rfl rfl ?_
    refine s_aload X (pc' := 138) at_136 rfl rfl rfl ?_
    refine s_iconst X (pc' := 139) at_138 (v := (1 : Int32)) rfl rfl ?_
    refine s_caload X (pc' := 140) (i := 1) (v := (.int z1)) at_139 A_b217 rfl rfl rfl ?_
    refine s_castore X (pc' := 141) (i := 1) at_140 A_b399 rfl (Nat.le_of_ble_eq_true rfl) g_b399 (by simp) rfl (fun T h404 X W405 A' => ?_)
    replace A_b217 := A_b217.other W405 ne_b217_b399
    replace A_b399 : Ary Z h404 b399 .char [(.int (nar .char z0)), (.int (nar .char z1)), (.int (0 : Int32))] := A'
    refine s_dup X (pc' := 142) at_141 rfl rfl ?_
    refine s_iconst X (pc' := 143) at_142 (v := (2 : Int32)) rfl rfl ?_
    refine s_aload X (pc' := 145) at_143 rfl rfl rfl ?_
    refine s_iconst X (pc' := 146) at_145 (v := (2 : Int32)) rfl rfl ?_
    refine s_caload X (pc' := 147) (i := 2) (v := (.int z2)) at_146 A_b217 rfl rfl rfl ?_
    refine s_castore X (pc' := 148) (i := 2) at_147 A_b399 rfl (Nat.le_of_ble_eq_true rfl) g_b399 (by simp) rfl (fun T h406 X W407 A' => ?_)
    replace A_b217 := A_b217.other W407 ne_b217_b399
    replace A_b399 : Ary Z h406 b399 .char [(.int (nar .char z0)), (.int (nar .char z1)), (.int (nar .char z2))] := A'
    refine s_astore X (pc' := 150) (L' := #[.val (.int xa), .val (.int xb), .val (.int xc), .val (.int xd), .val (.int xm), .val (.ref b217), .val (.int (3 : Int32)), .val (.int (Int32.ofNat k0)), .val (.ref b399), .unset, .unset, .unset]) at_148 rfl rfl rfl ?_
    refine s_goto X (pc' := 186) at_150 (by decide) (by decide) ?_
    refine s_new X (pc' := 189) (k' := 3) (n' := 9) at_186 (hw _ (List.mem_of_getElem? (i := 5) rfl)) (hw _ (List.mem_of_getElem? (i := 6) rfl)) (hw _ (List.mem_of_getElem? (i := 7) rfl)) (by decide) (by decide) (by decide) (by decide) rfl (fun T h409 b408 gb_b408 X' E410 E_b408 D_b408 U_b408 => ?_)
    have g_b408 : Z.heap.size ≤ b408 := by rw [gb_b408]; exact X.lt
    have ne_b217_b408 : b217 ≠ b408 := Nat.ne_of_lt (by rw [gb_b408]; exact A_b217.lt)
    have ne_b399_b408 : b399 ≠ b408 := Nat.ne_of_lt (by rw [gb_b408]; exact A_b399.lt)
    replace A_b217 := A_b217.ext E410
    replace A_b399 := A_b399.ext E410
    replace X := X'
    have F_b408_value : Fld Z h409 b408 "com/example/halyard/halyard/HeaderParser" "value" "Ljava/lang/String;" .null := D_b408 (Or.inr (hw _ (List.mem_of_getElem? (i := 34) rfl))) (ty := (.object "java/lang/String")) (by decide)
    have F_b408_position : Fld Z h409 b408 "com/example/halyard/halyard/HeaderParser" "position" "I" (.int (0 : Int32)) := D_b408 (Or.inl (hw _ (List.mem_of_getElem? (i := 77) rfl))) (ty := .int) (by decide)
    refine s_dup X (pc' := 190) at_189 rfl rfl ?_
    refine s_new X (pc' := 193) (k' := 4) (n' := 13) at_190 (hw _ (List.mem_of_getElem? (i := 8) rfl)) (hw _ (List.mem_of_getElem? (i := 9) rfl)) (hw _ (List.mem_of_getElem? (i := 10) rfl)) (by decide) (by decide) (by decide) (by decide) rfl (fun T h412 b411 gb_b411 X' E413 E_b411 D_b411 U_b411 => ?_)
    have g_b411 : Z.heap.size ≤ b411 := by rw [gb_b411]; exact X.lt
    have ne_b408_b411 : b408 ≠ b411 := Nat.ne_of_lt (by rw [gb_b411]; exact E_b408.lt)
    have ne_b217_b411 : b217 ≠ b411 := Nat.ne_of_lt (by rw [gb_b411]; exact A_b217.lt)
    have ne_b399_b411 : b399 ≠ b411 := Nat.ne_of_lt (by rw [gb_b411]; exact A_b399.lt)
    replace E_b408 := E_b408.ext E413
    replace F_b408_value := F_b408_value.ext E413
    replace F_b408_position := F_b408_position.ext E413
    replace A_b217 := A_b217.ext E413
    replace A_b399 := A_b399.ext E413
    replace X := X'
    have F_b411_value : Fld Z h412 b411 "java/lang/String" "value" "[B" .null := D_b411 (Or.inr (hw _ (List.mem_of_getElem? (i := 23) rfl))) (ty := (.array .byte)) (by decide)
    have F_b411_coder : Fld Z h412 b411 "java/lang/String" "coder" "B" (.int (0 : Int32)) := D_b411 (Or.inr (hw _ (List.mem_of_getElem? (i := 24) rfl))) (ty := .byte) (by decide)
    refine s_dup X (pc' := 194) at_193 rfl rfl ?_
    refine s_aload X (pc' := 196) at_194 rfl rfl rfl ?_
    have hp : ∀ c ∈ ([z0, z1, z2] : List Int32), ¬ c < 0 ∧ ¬ (65535 : Int32) < c := (alS kz0 (alS kz1 (alS kz2 al0)))
    replace A_b399 : Ary Z h412 b399 .char [(.int z0), (.int z1), (.int z2)] := by rw [nar_id kz0, nar_id kz1, nar_id kz2] at A_b399; exact A_b399
    by_cases hl : ∀ c ∈ ([z0, z1, z2] : List Int32), ¬ (255 : Int32) < c
    · refine s_special X (pc' := 199) (W := 3) (as' := [(.ref b399)]) (S := [(.ref b411), (.ref b408), (.ref b408)]) (k' := 5) (n' := 16) at_196 rfl (hw _ (List.mem_of_getElem? (i := 11) rfl)) (hw _ (List.mem_of_getElem? (i := 12) rfl)) (hw _ (List.mem_of_getElem? (i := 13) rfl)) (by decide) own_pd22 rfl (newStrPay hw hEL O2 P5 X.old g_b411 (by simp) E_b411 F_b411_value F_b411_coder (cs := [z0, z1, z2]) (rfl) A_b399 (n := 3) rfl (by decide) (by decide) (fun c hc => ⟨(hp c hc).1, hl c hc⟩) (by decide) (by decide)) (Nat.le_of_ble_eq_true rfl) rfl rfl (by decide) (by decide) (by decide) (by decide) rfl (fun T h414 v_ ws_ X hgr_ q415 => ?_)
      obtain ⟨rfl, K_, S_b411, rfl⟩ := q415
      show Go p e below _ T (mkF m 199 #[.val (.int xa), .val (.int xb), .val (.int xc), .val (.int xd), .val (.int xm), .val (.ref b217), .val (.int (3 : Int32)), .val (.int (Int32.ofNat k0)), .val (.ref b399), .unset, .unset, .unset] [(.ref b411), (.ref b408), (.ref b408)])
      replace F_b408_value := F_b408_value.keep K_ (ninS ne_b408_b411 nin0)
      replace F_b408_position := F_b408_position.keep K_ (ninS ne_b408_b411 nin0)
      replace A_b217 := A_b217.keep K_ (ninS ne_b217_b411 nin0)
      replace E_b408 := E_b408.keep K_
      replace E_b411 := E_b411.keep K_
      refine s_special X (pc' := 202) (W := 1) (as' := [(.ref b411)]) (S := [(.ref b408)]) (k' := 5) (n' := 16) at_199 rfl (hw _ (List.mem_of_getElem? (i := 29) rfl)) (hw _ (List.mem_of_getElem? (i := 30) rfl)) (hw _ (List.mem_of_getElem? (i := 31) rfl)) (by decide) own_pd23 rfl ((hp_ini l Z a0 hw hEL b408 b411 _ g_b408 E_b408 F_b408_value F_b408_position).payS (by simp) (hw _ (List.mem_of_getElem? (i := 31) rfl)) (hw _ (List.mem_of_getElem? (i := 7) rfl)) hEL (by decide) (by decide)) (Nat.le_of_ble_eq_true rfl) rfl rfl (by decide) (by decide) (by decide) (by decide) rfl (fun T h418 v_ ws_ X hgr_ q419 => ?_)
      obtain ⟨rfl, K_, P_1, rfl⟩ := q419
      show Go p e below _ T (mkF m 202 #[.val (.int xa), .val (.int xb), .val (.int xc), .val (.int xd), .val (.int xm), .val (.ref b217), .val (.int (3 : Int32)), .val (.int (Int32.ofNat k0)), .val (.ref b399), .unset, .unset, .unset] [(.ref b408)])
      replace X := X.sub (ws' := [b408]) (by simp)
      replace A_b217 := A_b217.keep K_ (ninS ne_b217_b408 nin0)
      replace S_b411 := S_b411.keep K_ E_b408 (by decide) (hw _ (List.mem_of_getElem? (i := 6) rfl))
      replace E_b408 := E_b408.keep K_
      have S_r := S_b411
      refine s_astore X (pc' := 204) (L' := #[.val (.int xa), .val (.int xb), .val (.int xc), .val (.int xd), .val (.int xm), .val (.ref b217), .val (.int (3 : Int32)), .val (.int (Int32.ofNat k0)), .val (.ref b399), .val (.ref b408), .unset, .unset]) at_202 rfl rfl rfl ?_
      refine s_iload X (pc' := 206) at_204 rfl rfl ?_
      refine s_iload X (pc' := 208) at_206 rfl rfl ?_
      refine jn (A := ∀ T (st : Int32), (¬ st < 0 ∧ ¬ (65535 : Int32) < st) → sfV ([z0, z1, z2] : List Int32) st k0 = Int32.ofNat k0 → Cx p l e room_1 s m #[(.int xa), (.int xb), (.int xc), (.int xd), (.int xm)] below meth c Z consts_1 False x code maxLocals ret [b408] T h418 5 16 → Go p e below (Post Z consts_1 s room_1 (fun v h' ws' => v = some (.int 1))) T (mkF m 223 #[.val (.int xa), .val (.int xb), .val (.int xc), .val (.int xd), .val (.int xm), .val (.ref b217), .val (.int (3 : Int32)), .val (.int (Int32.ofNat k0)), .val (.ref b399), .val (.ref b408), .val (.int st), .unset] [])) (fun J => ?_) (fun T st kst hst X => ?_)
      · refine s_icmp X (pc' := 219) (pcF := 211) at_208 (by decide) (by decide) rfl (fun (q1 : ¬ (Int32.ofNat k0) < (3 : Int32)) => ?_) (fun (q1 : (Int32.ofNat k0) < (3 : Int32)) => ?_)
        · have n1 : k0 = 3 := by
            have z : ¬ k0 < 3 := fun z => q1 ((on_lt (by omega) (by decide)).mpr z)
            omega
          refine s_bipush X (pc' := 221) at_219 (v := (120 : Int32)) (by decide) rfl ?_
          refine s_istore X (pc' := 223) (L' := #[.val (.int xa), .val (.int xb), .val (.int xc), .val (.int xd), .val (.int xm), .val (.ref b217), .val (.int (3 : Int32)), .val (.int (Int32.ofNat k0)), .val (.ref b399), .val (.ref b408), .val (.int (120 : Int32)), .unset]) at_221 rfl rfl ?_
          exact J T (120 : Int32) (by decide) (sfV_all _ n1) X
        · have y1 : k0 < 3 := (on_lt (by omega) (by decide)).mp q1
          refine s_aload X (pc' := 213) at_211 rfl rfl rfl ?_
          refine s_iload X (pc' := 215) at_213 rfl rfl ?_
          refine s_caload X (pc' := 216) (i := k0) (v := .int (([z0, z1, z2, z3] : List Int32).getD k0 0)) at_215 A_b217 rfl (map_at ([z0, z1, z2, z3] : List Int32) (show k0 < 4 by omega)) rfl ?_
          refine s_goto X (pc' := 221) at_216 (by decide) (by decide) ?_
          refine s_istore X (pc' := 223) (L' := #[.val (.int xa), .val (.int xb), .val (.int xc), .val (.int xd), .val (.int xm), .val (.ref b217), .val (.int (3 : Int32)), .val (.int (Int32.ofNat k0)), .val (.ref b399), .val (.ref b408), .val (.int (([z0, z1, z2, z3] : List Int32).getD k0 0)), .unset]) at_221 rfl rfl ?_
          exact J T _ (hpd _ (getD_mem (show k0 < 4 by omega))) (by
            have q := take_getD (ds := ([z0, z1, z2, z3] : List Int32)) (n := 3) (i := k0) y1
            rw [← q]
            exact sfV_self (cs := ([z0, z1, z2] : List Int32)) (Nat.le_of_ble_eq_true rfl) y1) X
      · refine s_aload X (pc' := 225) at_223 rfl rfl rfl ?_
        refine s_iload X (pc' := 227) at_225 rfl rfl ?_
        refine s_iload X (pc' := 229) at_227 rfl rfl ?_
        refine s_virtual X (pc' := 232) (W := 0) (as' := [(.int (Int32.ofNat k0)), (.int st)]) (S := []) (k' := 5) (n' := 16) at_229 (hw _ (List.mem_of_getElem? (i := 35) rfl)) (hw _ (List.mem_of_getElem? (i := 36) rfl)) (hw _ (List.mem_of_getElem? (i := 38) rfl)) (hw _ (List.mem_of_getElem? (i := 37) rfl)) (nface (hw _ (List.mem_of_getElem? (i := 38) rfl))) (by decide) own_pd24 rfl E_b408 ((hp_sf l Z a0 hw hEL b408 k0 st _ g_b408 (show k0 ≤ ([z0, z1, z2] : List Int32).length from hk0) kst P_1 S_r (Nat.zero_le _) U O2 P5 O4 rG3).payS (by simp) (hw _ (List.mem_of_getElem? (i := 39) rfl)) (hw _ (List.mem_of_getElem? (i := 7) rfl)) hEL (by decide) (by decide)) (Nat.le_of_ble_eq_true rfl) rfl rfl (by decide) (by decide) (by decide) (by decide) rfl (fun T h420 v_ ws_ X hgr_ q421 => ?_)
        obtain ⟨rfl, K_, ⟨j, hj, hjs, P_2⟩, rfl⟩ := q421
        show Go p e below _ T (mkF m 232 #[.val (.int xa), .val (.int xb), .val (.int xc), .val (.int xd), .val (.int xm), .val (.ref b217), .val (.int (3 : Int32)), .val (.int (Int32.ofNat k0)), .val (.ref b399), .val (.ref b408), .val (.int st), .unset] [])
        replace X := X.sub (ws' := [b408]) (by simp)
        replace A_b217 := A_b217.keep K_ (ninS ne_b217_b408 nin0)
        replace S_r := S_r.keep K_ E_b408 (by decide) (hw _ (List.mem_of_getElem? (i := 6) rfl))
        replace E_b408 := E_b408.keep K_
        replace hj : j ≤ 3 := hj
        obtain rfl : j = k0 := (on_eq (by omega) (by omega)).mp (hjs.trans hst)
        refine s_aload X (pc' := 234) at_232 rfl rfl rfl ?_
        refine s_virtual X (pc' := 237) (W := 0) (as' := []) (S := []) (k' := 5) (n' := 16) at_234 (hw _ (List.mem_of_getElem? (i := 78) rfl)) (hw _ (List.mem_of_getElem? (i := 79) rfl)) (hw _ (List.mem_of_getElem? (i := 81) rfl)) (hw _ (List.mem_of_getElem? (i := 80) rfl)) (nface (hw _ (List.mem_of_getElem? (i := 81) rfl))) (by decide) own_pd5 rfl E_b408 ((hp_pos l Z a0 hw hEL b408 _ P_2).payS (by simp) (hw _ (List.mem_of_getElem? (i := 82) rfl)) (hw _ (List.mem_of_getElem? (i := 7) rfl)) hEL (by decide) (by decide)) (Nat.le_of_ble_eq_true rfl) rfl rfl (by decide) (by decide) (by decide) (by decide) rfl (fun T h422 v_ ws_ X hgr_ q423 => ?_)
        obtain ⟨rfl, e_, rfl⟩ := q423
        rw [e_] at X
        show Go p e below _ T (mkF m 237 #[.val (.int xa), .val (.int xb), .val (.int xc), .val (.int xd), .val (.int xm), .val (.ref b217), .val (.int (3 : Int32)), .val (.int (Int32.ofNat j)), .val (.ref b399), .val (.ref b408), .val (.int st), .unset] [(.int (Int32.ofNat j))])
        replace X := X.sub (ws' := [b408]) (by simp)
        refine s_iload X (pc' := 239) at_237 rfl rfl ?_
        refine s_icmpT X (pc' := 244) at_239 rfl (by decide) (by decide) ?_
        refine s_aload X (pc' := 246) at_244 rfl rfl rfl ?_
        refine s_virtual X (pc' := 249) (W := 0) (as' := []) (S := []) (k' := 5) (n' := 16) at_246 (hw _ (List.mem_of_getElem? (i := 83) rfl)) (hw _ (List.mem_of_getElem? (i := 84) rfl)) (hw _ (List.mem_of_getElem? (i := 86) rfl)) (hw _ (List.mem_of_getElem? (i := 85) rfl)) (nface (hw _ (List.mem_of_getElem? (i := 86) rfl))) (by decide) own_pd25 rfl E_b408 ((hp_skw l Z a0 hw hEL b408 _ g_b408 P_2 S_r hj U O2 P5 O4 rG3).payS (by simp) (hw _ (List.mem_of_getElem? (i := 87) rfl)) (hw _ (List.mem_of_getElem? (i := 7) rfl)) hEL (by decide) (by decide)) (Nat.le_of_ble_eq_true rfl) rfl rfl (by decide) (by decide) (by decide) (by decide) rfl (fun T h424 v_ ws_ X hgr_ q425 => ?_)
        obtain ⟨rfl, K_, P_3, rfl⟩ := q425
        show Go p e below _ T (mkF m 249 #[.val (.int xa), .val (.int xb), .val (.int xc), .val (.int xd), .val (.int xm), .val (.ref b217), .val (.int (3 : Int32)), .val (.int (Int32.ofNat j)), .val (.ref b399), .val (.ref b408), .val (.int st), .unset] [])
        replace X := X.sub (ws' := [b408]) (by simp)
        replace A_b217 := A_b217.keep K_ (ninS ne_b217_b408 nin0)
        replace S_r := S_r.keep K_ E_b408 (by decide) (hw _ (List.mem_of_getElem? (i := 6) rfl))
        replace E_b408 := E_b408.keep K_
        refine s_aload X (pc' := 251) at_249 rfl rfl rfl ?_
        refine s_iload X (pc' := 253) at_251 rfl rfl ?_
        refine s_aload X (pc' := 255) at_253 rfl rfl rfl ?_
        refine s_iload X (pc' := 257) at_255 rfl rfl ?_
        refine s_aload X (pc' := 259) at_257 rfl rfl rfl ?_
        refine s_iload X (pc' := 261) at_259 rfl rfl ?_
        refine s_aload X (pc' := 263) at_261 rfl rfl rfl ?_
        refine s_iload X (pc' := 265) at_263 rfl rfl ?_
        refine s_iload X (pc' := 267) at_265 rfl rfl ?_
        refine s_static X (pc' := 270) (W := 6) (as' := [(.ref b217), (.int (3 : Int32)), (.int (Int32.ofNat j))]) (S := [(.int (3 : Int32)), (.ref b217), (.int (3 : Int32)), (.ref b217), (.int (3 : Int32)), (.ref b217)]) (k' := 5) (n' := 16) at_267 (hw _ (List.mem_of_getElem? (i := 88) rfl)) (hw _ (List.mem_of_getElem? (i := 89) rfl)) (hw _ (List.mem_of_getElem? (i := 3) rfl)) (hw _ (List.mem_of_getElem? (i := 90) rfl)) (by decide) own_pd26 rfl ((own_step l Z a0 hw hEL b217 ([z0, z1, z2, z3] : List Int32) 3 j _ A_b217 (by show 3 ≤ 4; omega) (Nat.le_of_ble_eq_true rfl) hj).payS (by simp) (hw _ (List.mem_of_getElem? (i := 90) rfl)) (hw _ (List.mem_of_getElem? (i := 3) rfl)) hEL (by decide) (by decide)) (Nat.le_of_ble_eq_true rfl) rfl rfl (by decide) (by decide) (by decide) (by decide) rfl (fun T h426 v_ ws_ X hgr_ q427 => ?_)
        obtain ⟨rfl, e_, rfl⟩ := q427
        rw [e_] at X
        show Go p e below _ T (mkF m 270 #[.val (.int xa), .val (.int xb), .val (.int xc), .val (.int xd), .val (.int xm), .val (.ref b217), .val (.int (3 : Int32)), .val (.int (Int32.ofNat j)), .val (.ref b399), .val (.ref b408), .val (.int st), .unset] [(.int (Int32.ofNat (stepN ([z0, z1, z2, z3] : List Int32) 3 j))), (.int (3 : Int32)), (.ref b217), (.int (3 : Int32)), (.ref b217), (.int (3 : Int32)), (.ref b217)])
        replace X := X.sub (ws' := [b408]) (by simp)
        refine s_static X (pc' := 273) (W := 4) (as' := [(.ref b217), (.int (3 : Int32)), (.int (Int32.ofNat (stepN ([z0, z1, z2, z3] : List Int32) 3 j)))]) (S := [(.int (3 : Int32)), (.ref b217), (.int (3 : Int32)), (.ref b217)]) (k' := 5) (n' := 16) at_270 (hw _ (List.mem_of_getElem? (i := 88) rfl)) (hw _ (List.mem_of_getElem? (i := 89) rfl)) (hw _ (List.mem_of_getElem? (i := 3) rfl)) (hw _ (List.mem_of_getElem? (i := 90) rfl)) (by decide) own_pd26 rfl ((own_step l Z a0 hw hEL b217 ([z0, z1, z2, z3] : List Int32) 3 (stepN ([z0, z1, z2, z3] : List Int32) 3 j) _ A_b217 (by show 3 ≤ 4; omega) (Nat.le_of_ble_eq_true rfl) (step_le ([z0, z1, z2, z3] : List Int32) 3 _ hj)).payS (by simp) (hw _ (List.mem_of_getElem? (i := 90) rfl)) (hw _ (List.mem_of_getElem? (i := 3) rfl)) hEL (by decide) (by decide)) (Nat.le_of_ble_eq_true rfl) rfl rfl (by decide) (by decide) (by decide) (by decide) rfl (fun T h428 v_ ws_ X hgr_ q429 => ?_)
        obtain ⟨rfl, e_, rfl⟩ := q429
        rw [e_] at X
        show Go p e below _ T (mkF m 273 #[.val (.int xa), .val (.int xb), .val (.int xc), .val (.int xd), .val (.int xm), .val (.ref b217), .val (.int (3 : Int32)), .val (.int (Int32.ofNat j)), .val (.ref b399), .val (.ref b408), .val (.int st), .unset] [(.int (Int32.ofNat (stepN ([z0, z1, z2, z3] : List Int32) 3 (stepN ([z0, z1, z2, z3] : List Int32) 3 j)))), (.int (3 : Int32)), (.ref b217), (.int (3 : Int32)), (.ref b217)])
        replace X := X.sub (ws' := [b408]) (by simp)
        refine s_static X (pc' := 276) (W := 2) (as' := [(.ref b217), (.int (3 : Int32)), (.int (Int32.ofNat (stepN ([z0, z1, z2, z3] : List Int32) 3 (stepN ([z0, z1, z2, z3] : List Int32) 3 j))))]) (S := [(.int (3 : Int32)), (.ref b217)]) (k' := 5) (n' := 16) at_273 (hw _ (List.mem_of_getElem? (i := 88) rfl)) (hw _ (List.mem_of_getElem? (i := 89) rfl)) (hw _ (List.mem_of_getElem? (i := 3) rfl)) (hw _ (List.mem_of_getElem? (i := 90) rfl)) (by decide) own_pd26 rfl ((own_step l Z a0 hw hEL b217 ([z0, z1, z2, z3] : List Int32) 3 (stepN ([z0, z1, z2, z3] : List Int32) 3 (stepN ([z0, z1, z2, z3] : List Int32) 3 j)) _ A_b217 (by show 3 ≤ 4; omega) (Nat.le_of_ble_eq_true rfl) (step_le ([z0, z1, z2, z3] : List Int32) 3 _ (step_le ([z0, z1, z2, z3] : List Int32) 3 _ hj))).payS (by simp) (hw _ (List.mem_of_getElem? (i := 90) rfl)) (hw _ (List.mem_of_getElem? (i := 3) rfl)) hEL (by decide) (by decide)) (Nat.le_of_ble_eq_true rfl) rfl rfl (by decide) (by decide) (by decide) (by decide) rfl (fun T h430 v_ ws_ X hgr_ q431 => ?_)
        obtain ⟨rfl, e_, rfl⟩ := q431
        rw [e_] at X
        show Go p e below _ T (mkF m 276 #[.val (.int xa), .val (.int xb), .val (.int xc), .val (.int xd), .val (.int xm), .val (.ref b217), .val (.int (3 : Int32)), .val (.int (Int32.ofNat j)), .val (.ref b399), .val (.ref b408), .val (.int st), .unset] [(.int (Int32.ofNat (stepN ([z0, z1, z2, z3] : List Int32) 3 (stepN ([z0, z1, z2, z3] : List Int32) 3 (stepN ([z0, z1, z2, z3] : List Int32) 3 j))))), (.int (3 : Int32)), (.ref b217)])
        replace X := X.sub (ws' := [b408]) (by simp)
        refine s_static X (pc' := 279) (W := 0) (as' := [(.ref b217), (.int (3 : Int32)), (.int (Int32.ofNat (stepN ([z0, z1, z2, z3] : List Int32) 3 (stepN ([z0, z1, z2, z3] : List Int32) 3 (stepN ([z0, z1, z2, z3] : List Int32) 3 j)))))]) (S := []) (k' := 5) (n' := 16) at_276 (hw _ (List.mem_of_getElem? (i := 88) rfl)) (hw _ (List.mem_of_getElem? (i := 89) rfl)) (hw _ (List.mem_of_getElem? (i := 3) rfl)) (hw _ (List.mem_of_getElem? (i := 90) rfl)) (by decide) own_pd26 rfl ((own_step l Z a0 hw hEL b217 ([z0, z1, z2, z3] : List Int32) 3 (stepN ([z0, z1, z2, z3] : List Int32) 3 (stepN ([z0, z1, z2, z3] : List Int32) 3 (stepN ([z0, z1, z2, z3] : List Int32) 3 j))) _ A_b217 (by show 3 ≤ 4; omega) (Nat.le_of_ble_eq_true rfl) (step_le ([z0, z1, z2, z3] : List Int32) 3 _ (step_le ([z0, z1, z2, z3] : List Int32) 3 _ (step_le ([z0, z1, z2, z3] : List Int32) 3 _ hj)))).payS (by simp) (hw _ (List.mem_of_getElem? (i := 90) rfl)) (hw _ (List.mem_of_getElem? (i := 3) rfl)) hEL (by decide) (by decide)) (Nat.le_of_ble_eq_true rfl) rfl rfl (by decide) (by decide) (by decide) (by decide) rfl (fun T h432 v_ ws_ X hgr_ q433 => ?_)
        obtain ⟨rfl, e_, rfl⟩ := q433
        rw [e_] at X
        show Go p e below _ T (mkF m 279 #[.val (.int xa), .val (.int xb), .val (.int xc), .val (.int xd), .val (.int xm), .val (.ref b217), .val (.int (3 : Int32)), .val (.int (Int32.ofNat j)), .val (.ref b399), .val (.ref b408), .val (.int st), .unset] [(.int (Int32.ofNat (stepN ([z0, z1, z2, z3] : List Int32) 3 (stepN ([z0, z1, z2, z3] : List Int32) 3 (stepN ([z0, z1, z2, z3] : List Int32) 3 (stepN ([z0, z1, z2, z3] : List Int32) 3 j))))))])
        replace X := X.sub (ws' := [b408]) (by simp)
        refine go_int (z := (Int32.ofNat (j + wsL (([z0, z1, z2] : List Int32).drop j)))) (congrArg Int32.ofNat (step4 ([z0, z1, z2, z3] : List Int32) 3 j (by decide) (by show 3 ≤ 4; omega) hj)) ?_
        have he : (j + wsL (([z0, z1, z2] : List Int32).drop j)) ≤ 3 := by
          have q := wsL_le (([z0, z1, z2] : List Int32).drop j)
          rw [List.length_drop] at q
          have q2 : ([z0, z1, z2] : List Int32).length = 3 := rfl
          omega
        have hi2 : wsL (([z0, z1, z2] : List Int32).drop (j + wsL (([z0, z1, z2] : List Int32).drop j))) = 0 := by rw [← List.drop_drop]; exact ws_idem _
        obtain ⟨ev, gev⟩ : ∃ z, z = (j + wsL (([z0, z1, z2] : List Int32).drop j)) := ⟨_, rfl⟩
        rw [← gev] at P_3 he hi2 ⊢
        refine s_istore X (pc' := 281) (L' := #[.val (.int xa), .val (.int xb), .val (.int xc), .val (.int xd), .val (.int xm), .val (.ref b217), .val (.int (3 : Int32)), .val (.int (Int32.ofNat j)), .val (.ref b399), .val (.ref b408), .val (.int st), .val (.int (Int32.ofNat ev))]) at_279 rfl rfl ?_
        refine s_aload X (pc' := 283) at_281 rfl rfl rfl ?_
        refine s_virtual X (pc' := 286) (W := 0) (as' := []) (S := []) (k' := 5) (n' := 16) at_283 (hw _ (List.mem_of_getElem? (i := 78) rfl)) (hw _ (List.mem_of_getElem? (i := 79) rfl)) (hw _ (List.mem_of_getElem? (i := 81) rfl)) (hw _ (List.mem_of_getElem? (i := 80) rfl)) (nface (hw _ (List.mem_of_getElem? (i := 81) rfl))) (by decide) own_pd5 rfl E_b408 ((hp_pos l Z a0 hw hEL b408 _ P_3).payS (by simp) (hw _ (List.mem_of_getElem? (i := 82) rfl)) (hw _ (List.mem_of_getElem? (i := 7) rfl)) hEL (by decide) (by decide)) (Nat.le_of_ble_eq_true rfl) rfl rfl (by decide) (by decide) (by decide) (by decide) rfl (fun T h434 v_ ws_ X hgr_ q435 => ?_)
        obtain ⟨rfl, e_, rfl⟩ := q435
        rw [e_] at X
        show Go p e below _ T (mkF m 286 #[.val (.int xa), .val (.int xb), .val (.int xc), .val (.int xd), .val (.int xm), .val (.ref b217), .val (.int (3 : Int32)), .val (.int (Int32.ofNat j)), .val (.ref b399), .val (.ref b408), .val (.int st), .val (.int (Int32.ofNat ev))] [(.int (Int32.ofNat ev))])
        replace X := X.sub (ws' := [b408]) (by simp)
        refine s_iload X (pc' := 288) at_286 rfl rfl ?_
        refine s_icmpT X (pc' := 293) at_288 rfl (by decide) (by decide) ?_
        refine s_aload X (pc' := 295) at_293 rfl rfl rfl ?_
        refine s_virtual X (pc' := 298) (W := 0) (as' := []) (S := []) (k' := 5) (n' := 16) at_295 (hw _ (List.mem_of_getElem? (i := 91) rfl)) (hw _ (List.mem_of_getElem? (i := 92) rfl)) (hw _ (List.mem_of_getElem? (i := 94) rfl)) (hw _ (List.mem_of_getElem? (i := 93) rfl)) (nface (hw _ (List.mem_of_getElem? (i := 94) rfl))) (by decide) own_pd4 rfl E_b408 ((hp_atEnd l Z a0 hw hEL b408 _ P_3 S_r he O2 P5).payS (by simp) (hw _ (List.mem_of_getElem? (i := 95) rfl)) (hw _ (List.mem_of_getElem? (i := 7) rfl)) hEL (by decide) (by decide)) (Nat.le_of_ble_eq_true rfl) rfl rfl (by decide) (by decide) (by decide) (by decide) rfl (fun T h436 v_ ws_ X hgr_ q437 => ?_)
        obtain ⟨rfl, e_, rfl⟩ := q437
        rw [e_] at X
        show Go p e below _ T (mkF m 298 #[.val (.int xa), .val (.int xb), .val (.int xc), .val (.int xd), .val (.int xm), .val (.ref b217), .val (.int (3 : Int32)), .val (.int (Int32.ofNat j)), .val (.ref b399), .val (.ref b408), .val (.int st), .val (.int (Int32.ofNat ev))] [(.int (if ev = ([z0, z1, z2] : List Int32).length then 1 else 0))])
        replace X := X.sub (ws' := [b408]) (by simp)
        refine s_iload X (pc' := 300) at_298 rfl rfl ?_
        refine s_iload X (pc' := 302) at_300 rfl rfl ?_
        refine jn (A := ∀ T, Cx p l e room_1 s m #[(.int xa), (.int xb), (.int xc), (.int xd), (.int xm)] below meth c Z consts_1 False x code maxLocals ret [b408] T h424 5 16 → Go p e below (Post Z consts_1 s room_1 (fun v h' ws' => v = some (.int 1))) T (mkF m 315 #[.val (.int xa), .val (.int xb), .val (.int xc), .val (.int xd), .val (.int xm), .val (.ref b217), .val (.int (3 : Int32)), .val (.int (Int32.ofNat j)), .val (.ref b399), .val (.ref b408), .val (.int st), .val (.int (Int32.ofNat ev))] [])) (fun J => ?_) (fun T X => ?_)
        · refine s_icmp X (pc' := 309) (pcF := 305) at_302 (by decide) (by decide) rfl (fun (q2 : ¬ (Int32.ofNat ev) = (3 : Int32)) => ?_) (fun (q2 : (Int32.ofNat ev) = (3 : Int32)) => ?_)
          · refine s_iconst X (pc' := 310) at_309 (v := (0 : Int32)) rfl rfl ?_
            refine s_icmpT X (pc' := 315) at_310 (show (if ev = ([z0, z1, z2] : List Int32).length then (1 : Int32) else 0) = (0 : Int32) from if_neg (fun z => q2 (congrArg Int32.ofNat z))) (by decide) (by decide) ?_
            exact J T X
          · refine s_iconst X (pc' := 306) at_305 (v := (1 : Int32)) rfl rfl ?_
            refine s_goto X (pc' := 310) at_306 (by decide) (by decide) ?_
            refine s_icmpT X (pc' := 315) at_310 (show (if ev = ([z0, z1, z2] : List Int32).length then (1 : Int32) else 0) = (1 : Int32) from if_pos ((on_eq (by omega) (by decide)).mp (show Int32.ofNat ev = Int32.ofNat 3 from q2))) (by decide) (by decide) ?_
            exact J T X
        · refine s_aload X (pc' := 317) at_315 rfl rfl rfl ?_
          refine s_virtual X (pc' := 320) (W := 0) (as' := []) (S := []) (k' := 5) (n' := 16) at_317 (hw _ (List.mem_of_getElem? (i := 83) rfl)) (hw _ (List.mem_of_getElem? (i := 84) rfl)) (hw _ (List.mem_of_getElem? (i := 86) rfl)) (hw _ (List.mem_of_getElem? (i := 85) rfl)) (nface (hw _ (List.mem_of_getElem? (i := 86) rfl))) (by decide) own_pd25 rfl E_b408 ((hp_skw l Z a0 hw hEL b408 _ g_b408 P_3 S_r he U O2 P5 O4 rG3).payS (by simp) (hw _ (List.mem_of_getElem? (i := 87) rfl)) (hw _ (List.mem_of_getElem? (i := 7) rfl)) hEL (by decide) (by decide)) (Nat.le_of_ble_eq_true rfl) rfl rfl (by decide) (by decide) (by decide) (by decide) rfl (fun T h438 v_ ws_ X hgr_ q439 => ?_)
          obtain ⟨rfl, K_, P_4, rfl⟩ := q439
          show Go p e below _ T (mkF m 320 #[.val (.int xa), .val (.int xb), .val (.int xc), .val (.int xd), .val (.int xm), .val (.ref b217), .val (.int (3 : Int32)), .val (.int (Int32.ofNat j)), .val (.ref b399), .val (.ref b408), .val (.int st), .val (.int (Int32.ofNat ev))] [])
          replace X := X.sub (ws' := [b408]) (by simp)
          replace A_b217 := A_b217.keep K_ (ninS ne_b217_b408 nin0)
          replace S_r := S_r.keep K_ E_b408 (by decide) (hw _ (List.mem_of_getElem? (i := 6) rfl))
          replace E_b408 := E_b408.keep K_
          rw [hi2] at P_4
          refine s_aload X (pc' := 322) at_320 rfl rfl rfl ?_
          refine s_virtual X (pc' := 325) (W := 0) (as' := []) (S := []) (k' := 5) (n' := 16) at_322 (hw _ (List.mem_of_getElem? (i := 78) rfl)) (hw _ (List.mem_of_getElem? (i := 79) rfl)) (hw _ (List.mem_of_getElem? (i := 81) rfl)) (hw _ (List.mem_of_getElem? (i := 80) rfl)) (nface (hw _ (List.mem_of_getElem? (i := 81) rfl))) (by decide) own_pd5 rfl E_b408 ((hp_pos l Z a0 hw hEL b408 _ P_4).payS (by simp) (hw _ (List.mem_of_getElem? (i := 82) rfl)) (hw _ (List.mem_of_getElem? (i := 7) rfl)) hEL (by decide) (by decide)) (Nat.le_of_ble_eq_true rfl) rfl rfl (by decide) (by decide) (by decide) (by decide) rfl (fun T h440 v_ ws_ X hgr_ q441 => ?_)
          obtain ⟨rfl, e_, rfl⟩ := q441
          rw [e_] at X
          show Go p e below _ T (mkF m 325 #[.val (.int xa), .val (.int xb), .val (.int xc), .val (.int xd), .val (.int xm), .val (.ref b217), .val (.int (3 : Int32)), .val (.int (Int32.ofNat j)), .val (.ref b399), .val (.ref b408), .val (.int st), .val (.int (Int32.ofNat ev))] [(.int (Int32.ofNat (ev + 0)))])
          replace X := X.sub (ws' := [b408]) (by simp)
          refine s_iload X (pc' := 327) at_325 rfl rfl ?_
          refine s_icmpF X (pc' := 330) at_327 (show Int32.ofNat (ev + 0) = Int32.ofNat ev from rfl) rfl ?_
          refine s_iconst X (pc' := 331) at_330 (v := (1 : Int32)) rfl rfl ?_
          refine s_goto X (pc' := 335) at_331 (by decide) (by decide) ?_
          exact s_iretN X hEL (ws' := []) (t := .boolean) at_335 rfl (by simp) (by decide) (by decide) (fun x q => by simp at q) rfl
    · refine s_special X (pc' := 199) (W := 3) (as' := [(.ref b399)]) (S := [(.ref b411), (.ref b408), (.ref b408)]) (k' := 6) (n' := 22) at_196 rfl (hw _ (List.mem_of_getElem? (i := 11) rfl)) (hw _ (List.mem_of_getElem? (i := 12) rfl)) (hw _ (List.mem_of_getElem? (i := 13) rfl)) (by decide) own_pd22 rfl ((u_i1_3 l Z a0 hw hEL b411 b399 z0 z1 z2 _ X.old g_b411 E_b411 F_b411_value F_b411_coder A_b399 hp (nall hl) O2 P5 U).payS (by simp) (hw _ (List.mem_of_getElem? (i := 13) rfl)) (hw _ (List.mem_of_getElem? (i := 10) rfl)) hEL (by decide) (by decide)) (Nat.le_of_ble_eq_true rfl) rfl rfl (by decide) (by decide) (by decide) (by decide) rfl (fun T h416 v_ ws_ X hgr_ q417 => ?_)
      obtain ⟨rfl, K_, S_b411, rfl⟩ := q417
      show Go p e below _ T (mkF m 199 #[.val (.int xa), .val (.int xb), .val (.int xc), .val (.int xd), .val (.int xm), .val (.ref b217), .val (.int (3 : Int32)), .val (.int (Int32.ofNat k0)), .val (.ref b399), .unset, .unset, .unset] [(.ref b411), (.ref b408), (.ref b408)])
      replace F_b408_value := F_b408_value.keep K_ (ninS ne_b408_b411 nin0)
      replace F_b408_position := F_b408_position.keep K_ (ninS ne_b408_b411 nin0)
      replace A_b217 := A_b217.keep K_ (ninS ne_b217_b411 nin0)
      replace E_b408 := E_b408.keep K_
      replace E_b411 := E_b411.keep K_
      refine s_special X (pc' := 202) (W := 1) (as' := [(.ref b411)]) (S := [(.ref b408)]) (k' := 6) (n' := 22) at_199 rfl (hw _ (List.mem_of_getElem? (i := 29) rfl)) (hw _ (List.mem_of_getElem? (i := 30) rfl)) (hw _ (List.mem_of_getElem? (i := 31) rfl)) (by decide) own_pd23 rfl ((hp_ini l Z a0 hw hEL b408 b411 _ g_b408 E_b408 F_b408_value F_b408_position).payS (by simp) (hw _ (List.mem_of_getElem? (i := 31) rfl)) (hw _ (List.mem_of_getElem? (i := 7) rfl)) hEL (by decide) (by decide)) (Nat.le_of_ble_eq_true rfl) rfl rfl (by decide) (by decide) (by decide) (by decide) rfl (fun T h442 v_ ws_ X hgr_ q443 => ?_)
      obtain ⟨rfl, K_, P_1, rfl⟩ := q443
      show Go p e below _ T (mkF m 202 #[.val (.int xa), .val (.int xb), .val (.int xc), .val (.int xd), .val (.int xm), .val (.ref b217), .val (.int (3 : Int32)), .val (.int (Int32.ofNat k0)), .val (.ref b399), .unset, .unset, .unset] [(.ref b408)])
      replace X := X.sub (ws' := [b408]) (by simp)
      replace A_b217 := A_b217.keep K_ (ninS ne_b217_b408 nin0)
      replace S_b411 := S_b411.keep K_ E_b408 (by decide) (hw _ (List.mem_of_getElem? (i := 6) rfl))
      replace E_b408 := E_b408.keep K_
      have S_r := S_b411
      refine s_astore X (pc' := 204) (L' := #[.val (.int xa), .val (.int xb), .val (.int xc), .val (.int xd), .val (.int xm), .val (.ref b217), .val (.int (3 : Int32)), .val (.int (Int32.ofNat k0)), .val (.ref b399), .val (.ref b408), .unset, .unset]) at_202 rfl rfl rfl ?_
      refine s_iload X (pc' := 206) at_204 rfl rfl ?_
      refine s_iload X (pc' := 208) at_206 rfl rfl ?_
      refine jn (A := ∀ T (st : Int32), (¬ st < 0 ∧ ¬ (65535 : Int32) < st) → sfV ([z0, z1, z2] : List Int32) st k0 = Int32.ofNat k0 → Cx p l e room_1 s m #[(.int xa), (.int xb), (.int xc), (.int xd), (.int xm)] below meth c Z consts_1 False x code maxLocals ret [b408] T h442 6 22 → Go p e below (Post Z consts_1 s room_1 (fun v h' ws' => v = some (.int 1))) T (mkF m 223 #[.val (.int xa), .val (.int xb), .val (.int xc), .val (.int xd), .val (.int xm), .val (.ref b217), .val (.int (3 : Int32)), .val (.int (Int32.ofNat k0)), .val (.ref b399), .val (.ref b408), .val (.int st), .unset] [])) (fun J => ?_) (fun T st kst hst X => ?_)
      · refine s_icmp X (pc' := 219) (pcF := 211) at_208 (by decide) (by decide) rfl (fun (q1 : ¬ (Int32.ofNat k0) < (3 : Int32)) => ?_) (fun (q1 : (Int32.ofNat k0) < (3 : Int32)) => ?_)
        · have n1 : k0 = 3 := by
            have z : ¬ k0 < 3 := fun z => q1 ((on_lt (by omega) (by decide)).mpr z)
            omega
          refine s_bipush X (pc' := 221) at_219 (v := (120 : Int32)) (by decide) rfl ?_
          refine s_istore X (pc' := 223) (L' := #[.val (.int xa), .val (.int xb), .val (.int xc), .val (.int xd), .val (.int xm), .val (.ref b217), .val (.int (3 : Int32)), .val (.int (Int32.ofNat k0)), .val (.ref b399), .val (.ref b408), .val (.int (120 : Int32)), .unset]) at_221 rfl rfl ?_
          exact J T (120 : Int32) (by decide) (sfV_all _ n1) X
        · have y1 : k0 < 3 := (on_lt (by omega) (by decide)).mp q1
          refine s_aload X (pc' := 213) at_211 rfl rfl rfl ?_
          refine s_iload X (pc' := 215) at_213 rfl rfl ?_
          refine s_caload X (pc' := 216) (i := k0) (v := .int (([z0, z1, z2, z3] : List Int32).getD k0 0)) at_215 A_b217 rfl (map_at ([z0, z1, z2, z3] : List Int32) (show k0 < 4 by omega)) rfl ?_
          refine s_goto X (pc' := 221) at_216 (by decide) (by decide) ?_
          refine s_istore X (pc' := 223) (L' := #[.val (.int xa), .val (.int xb), .val (.int xc), .val (.int xd), .val (.int xm), .val (.ref b217), .val (.int (3 : Int32)), .val (.int (Int32.ofNat k0)), .val (.ref b399), .val (.ref b408), .val (.int (([z0, z1, z2, z3] : List Int32).getD k0 0)), .unset]) at_221 rfl rfl ?_
          exact J T _ (hpd _ (getD_mem (show k0 < 4 by omega))) (by
            have q := take_getD (ds := ([z0, z1, z2, z3] : List Int32)) (n := 3) (i := k0) y1
            rw [← q]
            exact sfV_self (cs := ([z0, z1, z2] : List Int32)) (Nat.le_of_ble_eq_true rfl) y1) X
      · refine s_aload X (pc' := 225) at_223 rfl rfl rfl ?_
        refine s_iload X (pc' := 227) at_225 rfl rfl ?_
        refine s_iload X (pc' := 229) at_227 rfl rfl ?_
        refine s_virtual X (pc' := 232) (W := 0) (as' := [(.int (Int32.ofNat k0)), (.int st)]) (S := []) (k' := 6) (n' := 22) at_229 (hw _ (List.mem_of_getElem? (i := 35) rfl)) (hw _ (List.mem_of_getElem? (i := 36) rfl)) (hw _ (List.mem_of_getElem? (i := 38) rfl)) (hw _ (List.mem_of_getElem? (i := 37) rfl)) (nface (hw _ (List.mem_of_getElem? (i := 38) rfl))) (by decide) own_pd24 rfl E_b408 ((hp_sf l Z a0 hw hEL b408 k0 st _ g_b408 (show k0 ≤ ([z0, z1, z2] : List Int32).length from hk0) kst P_1 S_r (Nat.zero_le _) U O2 P5 O4 rG3).payS (by simp) (hw _ (List.mem_of_getElem? (i := 39) rfl)) (hw _ (List.mem_of_getElem? (i := 7) rfl)) hEL (by decide) (by decide)) (Nat.le_of_ble_eq_true rfl) rfl rfl (by decide) (by decide) (by decide) (by decide) rfl (fun T h444 v_ ws_ X hgr_ q445 => ?_)
        obtain ⟨rfl, K_, ⟨j, hj, hjs, P_2⟩, rfl⟩ := q445
        show Go p e below _ T (mkF m 232 #[.val (.int xa), .val (.int xb), .val (.int xc), .val (.int xd), .val (.int xm), .val (.ref b217), .val (.int (3 : Int32)), .val (.int (Int32.ofNat k0)), .val (.ref b399), .val (.ref b408), .val (.int st), .unset] [])
        replace X := X.sub (ws' := [b408]) (by simp)
        replace A_b217 := A_b217.keep K_ (ninS ne_b217_b408 nin0)
        replace S_r := S_r.keep K_ E_b408 (by decide) (hw _ (List.mem_of_getElem? (i := 6) rfl))
        replace E_b408 := E_b408.keep K_
        replace hj : j ≤ 3 := hj
        obtain rfl : j = k0 := (on_eq (by omega) (by omega)).mp (hjs.trans hst)
        refine s_aload X (pc' := 234) at_232 rfl rfl rfl ?_
        refine s_virtual X (pc' := 237) (W := 0) (as' := []) (S := []) (k' := 6) (n' := 22) at_234 (hw _ (List.mem_of_getElem? (i := 78) rfl)) (hw _ (List.mem_of_getElem? (i := 79) rfl)) (hw _ (List.mem_of_getElem? (i := 81) rfl)) (hw _ (List.mem_of_getElem? (i := 80) rfl)) (nface (hw _ (List.mem_of_getElem? (i := 81) rfl))) (by decide) own_pd5 rfl E_b408 ((hp_pos l Z a0 hw hEL b408 _ P_2).payS (by simp) (hw _ (List.mem_of_getElem? (i := 82) rfl)) (hw _ (List.mem_of_getElem? (i := 7) rfl)) hEL (by decide) (by decide)) (Nat.le_of_ble_eq_true rfl) rfl rfl (by decide) (by decide) (by decide) (by decide) rfl (fun T h446 v_ ws_ X hgr_ q447 => ?_)
        obtain ⟨rfl, e_, rfl⟩ := q447
        rw [e_] at X
        show Go p e below _ T (mkF m 237 #[.val (.int xa), .val (.int xb), .val (.int xc), .val (.int xd), .val (.int xm), .val (.ref b217), .val (.int (3 : Int32)), .val (.int (Int32.ofNat j)), .val (.ref b399), .val (.ref b408), .val (.int st), .unset] [(.int (Int32.ofNat j))])
        replace X := X.sub (ws' := [b408]) (by simp)
        refine s_iload X (pc' := 239) at_237 rfl rfl ?_
        refine s_icmpT X (pc' := 244) at_239 rfl (by decide) (by decide) ?_
        refine s_aload X (pc' := 246) at_244 rfl rfl rfl ?_
        refine s_virtual X (pc' := 249) (W := 0) (as' := []) (S := []) (k' := 6) (n' := 22) at_246 (hw _ (List.mem_of_getElem? (i := 83) rfl)) (hw _ (List.mem_of_getElem? (i := 84) rfl)) (hw _ (List.mem_of_getElem? (i := 86) rfl)) (hw _ (List.mem_of_getElem? (i := 85) rfl)) (nface (hw _ (List.mem_of_getElem? (i := 86) rfl))) (by decide) own_pd25 rfl E_b408 ((hp_skw l Z a0 hw hEL b408 _ g_b408 P_2 S_r hj U O2 P5 O4 rG3).payS (by simp) (hw _ (List.mem_of_getElem? (i := 87) rfl)) (hw _ (List.mem_of_getElem? (i := 7) rfl)) hEL (by decide) (by decide)) (Nat.le_of_ble_eq_true rfl) rfl rfl (by decide) (by decide) (by decide) (by decide) rfl (fun T h448 v_ ws_ X hgr_ q449 => ?_)
        obtain ⟨rfl, K_, P_3, rfl⟩ := q449
        show Go p e below _ T (mkF m 249 #[.val (.int xa), .val (.int xb), .val (.int xc), .val (.int xd), .val (.int xm), .val (.ref b217), .val (.int (3 : Int32)), .val (.int (Int32.ofNat j)), .val (.ref b399), .val (.ref b408), .val (.int st), .unset] [])
        replace X := X.sub (ws' := [b408]) (by simp)
        replace A_b217 := A_b217.keep K_ (ninS ne_b217_b408 nin0)
        replace S_r := S_r.keep K_ E_b408 (by decide) (hw _ (List.mem_of_getElem? (i := 6) rfl))
        replace E_b408 := E_b408.keep K_
        refine s_aload X (pc' := 251) at_249 rfl rfl rfl ?_
        refine s_iload X (pc' := 253) at_251 rfl rfl ?_
        refine s_aload X (pc' := 255) at_253 rfl rfl rfl ?_
        refine s_iload X (pc' := 257) at_255 rfl rfl ?_
        refine s_aload X (pc' := 259) at_257 rfl rfl rfl ?_
        refine s_iload X (pc' := 261) at_259 rfl rfl ?_
        refine s_aload X (pc' := 263) at_261 rfl rfl rfl ?_
        refine s_iload X (pc' := 265) at_263 rfl rfl ?_
        refine s_iload X (pc' := 267) at_265 rfl rfl ?_
        refine s_static X (pc' := 270) (W := 6) (as' := [(.ref b217), (.int (3 : Int32)), (.int (Int32.ofNat j))]) (S := [(.int (3 : Int32)), (.ref b217), (.int (3 : Int32)), (.ref b217), (.int (3 : Int32)), (.ref b217)]) (k' := 6) (n' := 22) at_267 (hw _ (List.mem_of_getElem? (i := 88) rfl)) (hw _ (List.mem_of_getElem? (i := 89) rfl)) (hw _ (List.mem_of_getElem? (i := 3) rfl)) (hw _ (List.mem_of_getElem? (i := 90) rfl)) (by decide) own_pd26 rfl ((own_step l Z a0 hw hEL b217 ([z0, z1, z2, z3] : List Int32) 3 j _ A_b217 (by show 3 ≤ 4; omega) (Nat.le_of_ble_eq_true rfl) hj).payS (by simp) (hw _ (List.mem_of_getElem? (i := 90) rfl)) (hw _ (List.mem_of_getElem? (i := 3) rfl)) hEL (by decide) (by decide)) (Nat.le_of_ble_eq_true rfl) rfl rfl (by decide) (by decide) (by decide) (by decide) rfl (fun T h450 v_ ws_ X hgr_ q451 => ?_)
        obtain ⟨rfl, e_, rfl⟩ := q451
        rw [e_] at X
        show Go p e below _ T (mkF m 270 #[.val (.int xa), .val (.int xb), .val (.int xc), .val (.int xd), .val (.int xm), .val (.ref b217), .val (.int (3 : Int32)), .val (.int (Int32.ofNat j)), .val (.ref b399), .val (.ref b408), .val (.int st), .unset] [(.int (Int32.ofNat (stepN ([z0, z1, z2, z3] : List Int32) 3 j))), (.int (3 : Int32)), (.ref b217), (.int (3 : Int32)), (.ref b217), (.int (3 : Int32)), (.ref b217)])
        replace X := X.sub (ws' := [b408]) (by simp)
        refine s_static X (pc' := 273) (W := 4) (as' := [(.ref b217), (.int (3 : Int32)), (.int (Int32.ofNat (stepN ([z0, z1, z2, z3] : List Int32) 3 j)))]) (S := [(.int (3 : Int32)), (.ref b217), (.int (3 : Int32)), (.ref b217)]) (k' := 6) (n' := 22) at_270 (hw _ (List.mem_of_getElem? (i := 88) rfl)) (hw _ (List.mem_of_getElem? (i := 89) rfl)) (hw _ (List.mem_of_getElem? (i := 3) rfl)) (hw _ (List.mem_of_getElem? (i := 90) rfl)) (by decide) own_pd26 rfl ((own_step l Z a0 hw hEL b217 ([z0, z1, z2, z3] : List Int32) 3 (stepN ([z0, z1, z2, z3] : List Int32) 3 j) _ A_b217 (by show 3 ≤ 4; omega) (Nat.le_of_ble_eq_true rfl) (step_le ([z0, z1, z2, z3] : List Int32) 3 _ hj)).payS (by simp) (hw _ (List.mem_of_getElem? (i := 90) rfl)) (hw _ (List.mem_of_getElem? (i := 3) rfl)) hEL (by decide) (by decide)) (Nat.le_of_ble_eq_true rfl) rfl rfl (by decide) (by decide) (by decide) (by decide) rfl (fun T h452 v_ ws_ X hgr_ q453 => ?_)
        obtain ⟨rfl, e_, rfl⟩ := q453
        rw [e_] at X
        show Go p e below _ T (mkF m 273 #[.val (.int xa), .val (.int xb), .val (.int xc), .val (.int xd), .val (.int xm), .val (.ref b217), .val (.int (3 : Int32)), .val (.int (Int32.ofNat j)), .val (.ref b399), .val (.ref b408), .val (.int st), .unset] [(.int (Int32.ofNat (stepN ([z0, z1, z2, z3] : List Int32) 3 (stepN ([z0, z1, z2, z3] : List Int32) 3 j)))), (.int (3 : Int32)), (.ref b217), (.int (3 : Int32)), (.ref b217)])
        replace X := X.sub (ws' := [b408]) (by simp)
        refine s_static X (pc' := 276) (W := 2) (as' := [(.ref b217), (.int (3 : Int32)), (.int (Int32.ofNat (stepN ([z0, z1, z2, z3] : List Int32) 3 (stepN ([z0, z1, z2, z3] : List Int32) 3 j))))]) (S := [(.int (3 : Int32)), (.ref b217)]) (k' := 6) (n' := 22) at_273 (hw _ (List.mem_of_getElem? (i := 88) rfl)) (hw _ (List.mem_of_getElem? (i := 89) rfl)) (hw _ (List.mem_of_getElem? (i := 3) rfl)) (hw _ (List.mem_of_getElem? (i := 90) rfl)) (by decide) own_pd26 rfl ((own_step l Z a0 hw hEL b217 ([z0, z1, z2, z3] : List Int32) 3 (stepN ([z0, z1, z2, z3] : List Int32) 3 (stepN ([z0, z1, z2, z3] : List Int32) 3 j)) _ A_b217 (by show 3 ≤ 4; omega) (Nat.le_of_ble_eq_true rfl) (step_le ([z0, z1, z2, z3] : List Int32) 3 _ (step_le ([z0, z1, z2, z3] : List Int32) 3 _ hj))).payS (by simp) (hw _ (List.mem_of_getElem? (i := 90) rfl)) (hw _ (List.mem_of_getElem? (i := 3) rfl)) hEL (by decide) (by decide)) (Nat.le_of_ble_eq_true rfl) rfl rfl (by decide) (by decide) (by decide) (by decide) rfl (fun T h454 v_ ws_ X hgr_ q455 => ?_)
        obtain ⟨rfl, e_, rfl⟩ := q455
        rw [e_] at X
        show Go p e below _ T (mkF m 276 #[.val (.int xa), .val (.int xb), .val (.int xc), .val (.int xd), .val (.int xm), .val (.ref b217), .val (.int (3 : Int32)), .val (.int (Int32.ofNat j)), .val (.ref b399), .val (.ref b408), .val (.int st), .unset] [(.int (Int32.ofNat (stepN ([z0, z1, z2, z3] : List Int32) 3 (stepN ([z0, z1, z2, z3] : List Int32) 3 (stepN ([z0, z1, z2, z3] : List Int32) 3 j))))), (.int (3 : Int32)), (.ref b217)])
        replace X := X.sub (ws' := [b408]) (by simp)
        refine s_static X (pc' := 279) (W := 0) (as' := [(.ref b217), (.int (3 : Int32)), (.int (Int32.ofNat (stepN ([z0, z1, z2, z3] : List Int32) 3 (stepN ([z0, z1, z2, z3] : List Int32) 3 (stepN ([z0, z1, z2, z3] : List Int32) 3 j)))))]) (S := []) (k' := 6) (n' := 22) at_276 (hw _ (List.mem_of_getElem? (i := 88) rfl)) (hw _ (List.mem_of_getElem? (i := 89) rfl)) (hw _ (List.mem_of_getElem? (i := 3) rfl)) (hw _ (List.mem_of_getElem? (i := 90) rfl)) (by decide) own_pd26 rfl ((own_step l Z a0 hw hEL b217 ([z0, z1, z2, z3] : List Int32) 3 (stepN ([z0, z1, z2, z3] : List Int32) 3 (stepN ([z0, z1, z2, z3] : List Int32) 3 (stepN ([z0, z1, z2, z3] : List Int32) 3 j))) _ A_b217 (by show 3 ≤ 4; omega) (Nat.le_of_ble_eq_true rfl) (step_le ([z0, z1, z2, z3] : List Int32) 3 _ (step_le ([z0, z1, z2, z3] : List Int32) 3 _ (step_le ([z0, z1, z2, z3] : List Int32) 3 _ hj)))).payS (by simp) (hw _ (List.mem_of_getElem? (i := 90) rfl)) (hw _ (List.mem_of_getElem? (i := 3) rfl)) hEL (by decide) (by decide)) (Nat.le_of_ble_eq_true rfl) rfl rfl (by decide) (by decide) (by decide) (by decide) rfl (fun T h456 v_ ws_ X hgr_ q457 => ?_)
        obtain ⟨rfl, e_, rfl⟩ := q457
        rw [e_] at X
        show Go p e below _ T (mkF m 279 #[.val (.int xa), .val (.int xb), .val (.int xc), .val (.int xd), .val (.int xm), .val (.ref b217), .val (.int (3 : Int32)), .val (.int (Int32.ofNat j)), .val (.ref b399), .val (.ref b408), .val (.int st), .unset] [(.int (Int32.ofNat (stepN ([z0, z1, z2, z3] : List Int32) 3 (stepN ([z0, z1, z2, z3] : List Int32) 3 (stepN ([z0, z1, z2, z3] : List Int32) 3 (stepN ([z0, z1, z2, z3] : List Int32) 3 j))))))])
        replace X := X.sub (ws' := [b408]) (by simp)
        refine go_int (z := (Int32.ofNat (j + wsL (([z0, z1, z2] : List Int32).drop j)))) (congrArg Int32.ofNat (step4 ([z0, z1, z2, z3] : List Int32) 3 j (by decide) (by show 3 ≤ 4; omega) hj)) ?_
        have he : (j + wsL (([z0, z1, z2] : List Int32).drop j)) ≤ 3 := by
          have q := wsL_le (([z0, z1, z2] : List Int32).drop j)
          rw [List.length_drop] at q
          have q2 : ([z0, z1, z2] : List Int32).length = 3 := rfl
          omega
        have hi2 : wsL (([z0, z1, z2] : List Int32).drop (j + wsL (([z0, z1, z2] : List Int32).drop j))) = 0 := by rw [← List.drop_drop]; exact ws_idem _
        obtain ⟨ev, gev⟩ : ∃ z, z = (j + wsL (([z0, z1, z2] : List Int32).drop j)) := ⟨_, rfl⟩
        rw [← gev] at P_3 he hi2 ⊢
        refine s_istore X (pc' := 281) (L' := #[.val (.int xa), .val (.int xb), .val (.int xc), .val (.int xd), .val (.int xm), .val (.ref b217), .val (.int (3 : Int32)), .val (.int (Int32.ofNat j)), .val (.ref b399), .val (.ref b408), .val (.int st), .val (.int (Int32.ofNat ev))]) at_279 rfl rfl ?_
        refine s_aload X (pc' := 283) at_281 rfl rfl rfl ?_
        refine s_virtual X (pc' := 286) (W := 0) (as' := []) (S := []) (k' := 6) (n' := 22) at_283 (hw _ (List.mem_of_getElem? (i := 78) rfl)) (hw _ (List.mem_of_getElem? (i := 79) rfl)) (hw _ (List.mem_of_getElem? (i := 81) rfl)) (hw _ (List.mem_of_getElem? (i := 80) rfl)) (nface (hw _ (List.mem_of_getElem? (i := 81) rfl))) (by decide) own_pd5 rfl E_b408 ((hp_pos l Z a0 hw hEL b408 _ P_3).payS (by simp) (hw _ (List.mem_of_getElem? (i := 82) rfl)) (hw _ (List.mem_of_getElem? (i := 7) rfl)) hEL (by decide) (by decide)) (Nat.le_of_ble_eq_true rfl) rfl rfl (by decide) (by decide) (by decide) (by decide) rfl (fun T h458 v_ ws_ X hgr_ q459 => ?_)
        obtain ⟨rfl, e_, rfl⟩ := q459
        rw [e_] at X
        show Go p e below _ T (mkF m 286 #[.val (.int xa), .val (.int xb), .val (.int xc), .val (.int xd), .val (.int xm), .val (.ref b217), .val (.int (3 : Int32)), .val (.int (Int32.ofNat j)), .val (.ref b399), .val (.ref b408), .val (.int st), .val (.int (Int32.ofNat ev))] [(.int (Int32.ofNat ev))])
        replace X := X.sub (ws' := [b408]) (by simp)
        refine s_iload X (pc' := 288) at_286 rfl rfl ?_
        refine s_icmpT X (pc' := 293) at_288 rfl (by decide) (by decide) ?_
        refine s_aload X (pc' := 295) at_293 rfl rfl rfl ?_
        refine s_virtual X (pc' := 298) (W := 0) (as' := []) (S := []) (k' := 6) (n' := 22) at_295 (hw _ (List.mem_of_getElem? (i := 91) rfl)) (hw _ (List.mem_of_getElem? (i := 92) rfl)) (hw _ (List.mem_of_getElem? (i := 94) rfl)) (hw _ (List.mem_of_getElem? (i := 93) rfl)) (nface (hw _ (List.mem_of_getElem? (i := 94) rfl))) (by decide) own_pd4 rfl E_b408 ((hp_atEnd l Z a0 hw hEL b408 _ P_3 S_r he O2 P5).payS (by simp) (hw _ (List.mem_of_getElem? (i := 95) rfl)) (hw _ (List.mem_of_getElem? (i := 7) rfl)) hEL (by decide) (by decide)) (Nat.le_of_ble_eq_true rfl) rfl rfl (by decide) (by decide) (by decide) (by decide) rfl (fun T h460 v_ ws_ X hgr_ q461 => ?_)
        obtain ⟨rfl, e_, rfl⟩ := q461
        rw [e_] at X
        show Go p e below _ T (mkF m 298 #[.val (.int xa), .val (.int xb), .val (.int xc), .val (.int xd), .val (.int xm), .val (.ref b217), .val (.int (3 : Int32)), .val (.int (Int32.ofNat j)), .val (.ref b399), .val (.ref b408), .val (.int st), .val (.int (Int32.ofNat ev))] [(.int (if ev = ([z0, z1, z2] : List Int32).length then 1 else 0))])
        replace X := X.sub (ws' := [b408]) (by simp)
        refine s_iload X (pc' := 300) at_298 rfl rfl ?_
        refine s_iload X (pc' := 302) at_300 rfl rfl ?_
        refine jn (A := ∀ T, Cx p l e room_1 s m #[(.int xa), (.int xb), (.int xc), (.int xd), (.int xm)] below meth c Z consts_1 False x code maxLocals ret [b408] T h448 6 22 → Go p e below (Post Z consts_1 s room_1 (fun v h' ws' => v = some (.int 1))) T (mkF m 315 #[.val (.int xa), .val (.int xb), .val (.int xc), .val (.int xd), .val (.int xm), .val (.ref b217), .val (.int (3 : Int32)), .val (.int (Int32.ofNat j)), .val (.ref b399), .val (.ref b408), .val (.int st), .val (.int (Int32.ofNat ev))] [])) (fun J => ?_) (fun T X => ?_)
        · refine s_icmp X (pc' := 309) (pcF := 305) at_302 (by decide) (by decide) rfl (fun (q2 : ¬ (Int32.ofNat ev) = (3 : Int32)) => ?_) (fun (q2 : (Int32.ofNat ev) = (3 : Int32)) => ?_)
          · refine s_iconst X (pc' := 310) at_309 (v := (0 : Int32)) rfl rfl ?_
            refine s_icmpT X (pc' := 315) at_310 (show (if ev = ([z0, z1, z2] : List Int32).length then (1 : Int32) else 0) = (0 : Int32) from if_neg (fun z => q2 (congrArg Int32.ofNat z))) (by decide) (by decide) ?_
            exact J T X
          · refine s_iconst X (pc' := 306) at_305 (v := (1 : Int32)) rfl rfl ?_
            refine s_goto X (pc' := 310) at_306 (by decide) (by decide) ?_
            refine s_icmpT X (pc' := 315) at_310 (show (if ev = ([z0, z1, z2] : List Int32).length then (1 : Int32) else 0) = (1 : Int32) from if_pos ((on_eq (by omega) (by decide)).mp (show Int32.ofNat ev = Int32.ofNat 3 from q2))) (by decide) (by decide) ?_
            exact J T X
        · refine s_aload X (pc' := 317) at_315 rfl rfl rfl ?_
          refine s_virtual X (pc' := 320) (W := 0) (as' := []) (S := []) (k' := 6) (n' := 22) at_317 (hw _ (List.mem_of_getElem? (i := 83) rfl)) (hw _ (List.mem_of_getElem? (i := 84) rfl)) (hw _ (List.mem_of_getElem? (i := 86) rfl)) (hw _ (List.mem_of_getElem? (i := 85) rfl)) (nface (hw _ (List.mem_of_getElem? (i := 86) rfl))) (by decide) own_pd25 rfl E_b408 ((hp_skw l Z a0 hw hEL b408 _ g_b408 P_3 S_r he U O2 P5 O4 rG3).payS (by simp) (hw _ (List.mem_of_getElem? (i := 87) rfl)) (hw _ (List.mem_of_getElem? (i := 7) rfl)) hEL (by decide) (by decide)) (Nat.le_of_ble_eq_true rfl) rfl rfl (by decide) (by decide) (by decide) (by decide) rfl (fun T h462 v_ ws_ X hgr_ q463 => ?_)
          obtain ⟨rfl, K_, P_4, rfl⟩ := q463
          show Go p e below _ T (mkF m 320 #[.val (.int xa), .val (.int xb), .val (.int xc), .val (.int xd), .val (.int xm), .val (.ref b217), .val (.int (3 : Int32)), .val (.int (Int32.ofNat j)), .val (.ref b399), .val (.ref b408), .val (.int st), .val (.int (Int32.ofNat ev))] [])
          replace X := X.sub (ws' := [b408]) (by simp)
          replace A_b217 := A_b217.keep K_ (ninS ne_b217_b408 nin0)
          replace S_r := S_r.keep K_ E_b408 (by decide) (hw _ (List.mem_of_getElem? (i := 6) rfl))
          replace E_b408 := E_b408.keep K_
          rw [hi2] at P_4
          refine s_aload X (pc' := 322) at_320 rfl rfl rfl ?_
          refine s_virtual X (pc' := 325) (W := 0) (as' := []) (S := []) (k' := 6) (n' := 22) at_322 (hw _ (List.mem_of_getElem? (i := 78) rfl)) (hw _ (List.mem_of_getElem? (i := 79) rfl)) (hw _ (List.mem_of_getElem? (i := 81) rfl)) (hw _ (List.mem_of_getElem? (i := 80) rfl)) (nface (hw _ (List.mem_of_getElem? (i := 81) rfl))) (by decide) own_pd5 rfl E_b408 ((hp_pos l Z a0 hw hEL b408 _ P_4).payS (by simp) (hw _ (List.mem_of_getElem? (i := 82) rfl)) (hw _ (List.mem_of_getElem? (i := 7) rfl)) hEL (by decide) (by decide)) (Nat.le_of_ble_eq_true rfl) rfl rfl (by decide) (by decide) (by decide) (by decide) rfl (fun T h464 v_ ws_ X hgr_ q465 => ?_)
          obtain ⟨rfl, e_, rfl⟩ := q465
          rw [e_] at X
          show Go p e below _ T (mkF m 325 #[.val (.int xa), .val (.int xb), .val (.int xc), .val (.int xd), .val (.int xm), .val (.ref b217), .val (.int (3 : Int32)), .val (.int (Int32.ofNat j)), .val (.ref b399), .val (.ref b408), .val (.int st), .val (.int (Int32.ofNat ev))] [(.int (Int32.ofNat (ev + 0)))])
          replace X := X.sub (ws' := [b408]) (by simp)
          refine s_iload X (pc' := 327) at_325 rfl rfl ?_
          refine s_icmpF X (pc' := 330) at_327 (show Int32.ofNat (ev + 0) = Int32.ofNat ev from rfl) rfl ?_
          refine s_iconst X (pc' := 331) at_330 (v := (1 : Int32)) rfl rfl ?_
          refine s_goto X (pc' := 335) at_331 (by decide) (by decide) ?_
          exact s_iretN X hEL (ws' := []) (t := .boolean) at_335 rfl (by simp) (by decide) (by decide) (fun x q => by simp at q) rfl
  · refine go_int (z := (4 : Int32)) (pq) ?_
    refine s_istore X (pc' := 42) (L' := #[.val (.int xa), .val (.int xb), .val (.int xc), .val (.int xd), .val (.int xm), .val (.ref b217), .val (.int (4 : Int32)), .unset, .unset, .unset, .unset, .unset]) at_40 rfl rfl ?_
    refine s_iload X (pc' := 44) at_42 rfl rfl ?_
    refine s_iconst X (pc' := 45) at_44 (v := (3 : Int32)) rfl rfl ?_
    refine s_iushr X (pc' := 46) at_45 rfl ?_
    refine s_bipush X (pc' := 48) at_46 (v := (7 : Int32)) (by decide) rfl ?_
    refine s_iand X (pc' := 49) at_48 rfl ?_
    refine s_iload X (pc' := 51) at_49 rfl rfl ?_
    refine s_iconst X (pc' := 52) at_51 (v := (1 : Int32)) rfl rfl ?_
    refine s_iadd X (pc' := 53) at_52 rfl ?_
    refine s_irem X (pc' := 54) at_53 (by decide) rfl ?_
    obtain ⟨k0, hk0', gk0⟩ := rem_k ((xm.toUInt32 >>> ((3 : Int32) &&& 31).toUInt32).toInt32) ((4 : Int32) + (1 : Int32)) 5 (by decide) (by decide) (by decide)
    have hk0 : k0 ≤ 4 := by omega
    refine go_int (z := (Int32.ofNat k0)) (gk0) ?_
    refine s_istore X (pc' := 56) (L' := #[.val (.int xa), .val (.int xb), .val (.int xc), .val (.int xd), .val (.int xm), .val (.ref b217), .val (.int (4 : Int32)), .val (.int (Int32.ofNat k0)), .unset, .unset, .unset, .unset]) at_54 rfl rfl ?_
    refine s_iload X (pc' := 58) at_56 rfl rfl ?_
    refine s_ifT X (pc' := 69) at_58 (show ¬ (4 : Int32) = (0 : Int32) by decide) (by decide) (by decide) ?_
    refine s_iload X (pc' := 71) at_69 rfl rfl ?_
    refine s_iconst X (pc' := 72) at_71 (v := (1 : Int32)) rfl rfl ?_
    refine s_icmpT X (pc' := 90) at_72 (show ¬ (4 : Int32) = (1 : Int32) by decide) (by decide) (by decide) ?_
    refine s_iload X (pc' := 92) at_90 rfl rfl ?_
    refine s_iconst X (pc' := 93) at_92 (v := (2 : Int32)) rfl rfl ?_
    refine s_icmpT X (pc' := 118) at_93 (show ¬ (4 : Int32) = (2 : Int32) by decide) (by decide) (by decide) ?_
    refine s_iload X (pc' := 120) at_118 rfl rfl ?_
    refine s_iconst X (pc' := 121) at_120 (v := (3 : Int32)) rfl rfl ?_
    refine s_icmpT X (pc' := 153) at_121 (show ¬ (4 : Int32) = (3 : Int32) by decide) (by decide) (by decide) ?_
    refine s_iconst X (pc' := 154) at_153 (v := (4 : Int32)) rfl rfl ?_
    refine s_newarr X (pc' := 156) (k' := 2) (n' := 8) (N := 4) at_154 (hw _ (List.mem_of_getElem? (i := 0) rfl)) rfl (by decide) (by decide) (by decide) (by decide) (by decide) rfl (fun T h467 b466 gb_b466 X' E468 A_b466 => ?_)
    have g_b466 : Z.heap.size ≤ b466 := by rw [gb_b466]; exact X.lt
    have ne_b217_b466 : b217 ≠ b466 := Nat.ne_of_lt (by rw [gb_b466]; exact A_b217.lt)
    replace A_b217 := A_b217.ext E468
    replace X := X'
    replace A_b466 : Ary Z h467 b466 .char [(.int (0 : Int32)), (.int (0 : Int32)), (.int (0 : Int32)), (.int (0 : Int32))] := A_b466
    refine s_dup X (pc' := 157) at_156 rfl rfl ?_
    refine s_iconst X (pc' := 158) at_157 (v := (0 : Int32)) rfl rfl ?_
    refine s_aload X (pc' := 160) at_158 rfl rfl rfl ?_
    refine s_iconst X (pc' := 161) at_160 (v := (0 : Int32)) rfl rfl ?_
    refine s_caload X (pc' := 162) (i := 0) (v := (.int z0)) at_161 A_b217 rfl rfl rfl ?_
    refine s_castore X (pc' := 163) (i := 0) at_162 A_b466 rfl (Nat.le_of_ble_eq_true rfl) g_b466 (by simp) rfl (fun T h469 X W470 A' => ?_)
    replace A_b217 := A_b217.other W470 ne_b217_b466
    replace A_b466 : Ary Z h469 b466 .char [(.int (nar .char z0)), (.int (0 : Int32)), (.int (0 : Int32)), (.int (0 : Int32))] := A'
    refine s_dup X (pc' := 164) at_163 rfl rfl ?_
    refine s_iconst X (pc' := 165) at_164 (v := (1 : Int32)) rfl rfl ?_
    refine s_aload X (pc' := 167) at_165 rfl rfl rfl ?_
    refine s_iconst X (pc' := 168) at_167 (v := (1 : Int32)) rfl rfl ?_
    refine s_caload X (pc' := 169) (i := 1) (v := (.int z1)) at_168 A_b217 rfl rfl rfl ?_
    refine s_castore X (pc' := 170) (i := 1) at_169 A_b466 rfl (Nat.le_of_ble_eq_true rfl) g_b466 (by simp) rfl (fun T h471 X W472 A' => ?_)
    replace A_b217 := A_b217.other W472 ne_b217_b466
    replace A_b466 : Ary Z h471 b466 .char [(.int (nar .char z0)), (.int (nar .char z1)), (.int (0 : Int32)), (.int (0 : Int32))] := A'
    refine s_dup X (pc' := 171) at_170 rfl rfl ?_
    refine s_iconst X (pc' := 172) at_171 (v := (2 : Int32)) rfl rfl ?_
    refine s_aload X (pc' := 174) at_172 rfl rfl rfl ?_
    refine s_iconst X (pc' := 175) at_174 (v := (2 : Int32)) rfl rfl ?_
    refine s_caload X (pc' := 176) (i := 2) (v := (.int z2)) at_175 A_b217 rfl rfl rfl ?_
    refine s_castore X (pc' := 177) (i := 2) at_176 A_b466 rfl (Nat.le_of_ble_eq_true rfl) g_b466 (by simp) rfl (fun T h473 X W474 A' => ?_)
    replace A_b217 := A_b217.other W474 ne_b217_b466
    replace A_b466 : Ary Z h473 b466 .char [(.int (nar .char z0)), (.int (nar .char z1)), (.int (nar .char z2)), (.int (0 : Int32))] := A'
    refine s_dup X (pc' := 178) at_177 rfl rfl ?_
    refine s_iconst X (pc' := 179) at_178 (v := (3 : Int32)) rfl rfl ?_
    refine s_aload X (pc' := 181) at_179 rfl rfl rfl ?_
    refine s_iconst X (pc' := 182) at_181 (v := (3 : Int32)) rfl rfl ?_
    refine s_caload X (pc' := 183) (i := 3) (v := (.int z3)) at_182 A_b217 rfl rfl rfl ?_
    refine s_castore X (pc' := 184) (i := 3) at_183 A_b466 rfl (Nat.le_of_ble_eq_true rfl) g_b466 (by simp) rfl (fun T h475 X W476 A' => ?_)
    replace A_b217 := A_b217.other W476 ne_b217_b466
    replace A_b466 : Ary Z h475 b466 .char [(.int (nar .char z0)), (.int (nar .char z1)), (.int (nar .char z2)), (.int (nar .char z3))] := A'
    refine s_astore X (pc' := 186) (L' := #[.val (.int xa), .val (.int xb), .val (.int xc), .val (.int xd), .val (.int xm), .val (.ref b217), .val (.int (4 : Int32)), .val (.int (Int32.ofNat k0)), .val (.ref b466), .unset, .unset, .unset]) at_184 rfl rfl rfl ?_
    refine s_new X (pc' := 189) (k' := 3) (n' := 10) at_186 (hw _ (List.mem_of_getElem? (i := 5) rfl)) (hw _ (List.mem_of_getElem? (i := 6) rfl)) (hw _ (List.mem_of_getElem? (i := 7) rfl)) (by decide) (by decide) (by decide) (by decide) rfl (fun T h478 b477 gb_b477 X' E479 E_b477 D_b477 U_b477 => ?_)
    have g_b477 : Z.heap.size ≤ b477 := by rw [gb_b477]; exact X.lt
    have ne_b217_b477 : b217 ≠ b477 := Nat.ne_of_lt (by rw [gb_b477]; exact A_b217.lt)
    have ne_b466_b477 : b466 ≠ b477 := Nat.ne_of_lt (by rw [gb_b477]; exact A_b466.lt)
    replace A_b217 := A_b217.ext E479
    replace A_b466 := A_b466.ext E479
    replace X := X'
    have F_b477_value : Fld Z h478 b477 "com/example/halyard/halyard/HeaderParser" "value" "Ljava/lang/String;" .null := D_b477 (Or.inr (hw _ (List.mem_of_getElem? (i := 34) rfl))) (ty := (.object "java/lang/String")) (by decide)
    have F_b477_position : Fld Z h478 b477 "com/example/halyard/halyard/HeaderParser" "position" "I" (.int (0 : Int32)) := D_b477 (Or.inl (hw _ (List.mem_of_getElem? (i := 77) rfl))) (ty := .int) (by decide)
    refine s_dup X (pc' := 190) at_189 rfl rfl ?_
    refine s_new X (pc' := 193) (k' := 4) (n' := 14) at_190 (hw _ (List.mem_of_getElem? (i := 8) rfl)) (hw _ (List.mem_of_getElem? (i := 9) rfl)) (hw _ (List.mem_of_getElem? (i := 10) rfl)) (by decide) (by decide) (by decide) (by decide) rfl (fun T h481 b480 gb_b480 X' E482 E_b480 D_b480 U_b480 => ?_)
    have g_b480 : Z.heap.size ≤ b480 := by rw [gb_b480]; exact X.lt
    have ne_b477_b480 : b477 ≠ b480 := Nat.ne_of_lt (by rw [gb_b480]; exact E_b477.lt)
    have ne_b217_b480 : b217 ≠ b480 := Nat.ne_of_lt (by rw [gb_b480]; exact A_b217.lt)
    have ne_b466_b480 : b466 ≠ b480 := Nat.ne_of_lt (by rw [gb_b480]; exact A_b466.lt)
    replace E_b477 := E_b477.ext E482
    replace F_b477_value := F_b477_value.ext E482
    replace F_b477_position := F_b477_position.ext E482
    replace A_b217 := A_b217.ext E482
    replace A_b466 := A_b466.ext E482
    replace X := X'
    have F_b480_value : Fld Z h481 b480 "java/lang/String" "value" "[B" .null := D_b480 (Or.inr (hw _ (List.mem_of_getElem? (i := 23) rfl))) (ty := (.array .byte)) (by decide)
    have F_b480_coder : Fld Z h481 b480 "java/lang/String" "coder" "B" (.int (0 : Int32)) := D_b480 (Or.inr (hw _ (List.mem_of_getElem? (i := 24) rfl))) (ty := .byte) (by decide)
    refine s_dup X (pc' := 194) at_193 rfl rfl ?_
    refine s_aload X (pc' := 196) at_194 rfl rfl rfl ?_
    have hp : ∀ c ∈ ([z0, z1, z2, z3] : List Int32), ¬ c < 0 ∧ ¬ (65535 : Int32) < c := (alS kz0 (alS kz1 (alS kz2 (alS kz3 al0))))
    replace A_b466 : Ary Z h481 b466 .char [(.int z0), (.int z1), (.int z2), (.int z3)] := by rw [nar_id kz0, nar_id kz1, nar_id kz2, nar_id kz3] at A_b466; exact A_b466
    by_cases hl : ∀ c ∈ ([z0, z1, z2, z3] : List Int32), ¬ (255 : Int32) < c
    · refine s_special X (pc' := 199) (W := 3) (as' := [(.ref b466)]) (S := [(.ref b480), (.ref b477), (.ref b477)]) (k' := 5) (n' := 18) at_196 rfl (hw _ (List.mem_of_getElem? (i := 11) rfl)) (hw _ (List.mem_of_getElem? (i := 12) rfl)) (hw _ (List.mem_of_getElem? (i := 13) rfl)) (by decide) own_pd22 rfl (newStrPay hw hEL O2 P5 X.old g_b480 (by simp) E_b480 F_b480_value F_b480_coder (cs := [z0, z1, z2, z3]) (rfl) A_b466 (n := 4) rfl (by decide) (by decide) (fun c hc => ⟨(hp c hc).1, hl c hc⟩) (by decide) (by decide)) (Nat.le_of_ble_eq_true rfl) rfl rfl (by decide) (by decide) (by decide) (by decide) rfl (fun T h483 v_ ws_ X hgr_ q484 => ?_)
      obtain ⟨rfl, K_, S_b480, rfl⟩ := q484
      show Go p e below _ T (mkF m 199 #[.val (.int xa), .val (.int xb), .val (.int xc), .val (.int xd), .val (.int xm), .val (.ref b217), .val (.int (4 : Int32)), .val (.int (Int32.ofNat k0)), .val (.ref b466), .unset, .unset, .unset] [(.ref b480), (.ref b477), (.ref b477)])
      replace F_b477_value := F_b477_value.keep K_ (ninS ne_b477_b480 nin0)
      replace F_b477_position := F_b477_position.keep K_ (ninS ne_b477_b480 nin0)
      replace A_b217 := A_b217.keep K_ (ninS ne_b217_b480 nin0)
      replace E_b477 := E_b477.keep K_
      replace E_b480 := E_b480.keep K_
      refine s_special X (pc' := 202) (W := 1) (as' := [(.ref b480)]) (S := [(.ref b477)]) (k' := 5) (n' := 18) at_199 rfl (hw _ (List.mem_of_getElem? (i := 29) rfl)) (hw _ (List.mem_of_getElem? (i := 30) rfl)) (hw _ (List.mem_of_getElem? (i := 31) rfl)) (by decide) own_pd23 rfl ((hp_ini l Z a0 hw hEL b477 b480 _ g_b477 E_b477 F_b477_value F_b477_position).payS (by simp) (hw _ (List.mem_of_getElem? (i := 31) rfl)) (hw _ (List.mem_of_getElem? (i := 7) rfl)) hEL (by decide) (by decide)) (Nat.le_of_ble_eq_true rfl) rfl rfl (by decide) (by decide) (by decide) (by decide) rfl (fun T h487 v_ ws_ X hgr_ q488 => ?_)
      obtain ⟨rfl, K_, P_1, rfl⟩ := q488
      show Go p e below _ T (mkF m 202 #[.val (.int xa), .val (.int xb), .val (.int xc), .val (.int xd), .val (.int xm), .val (.ref b217), .val (.int (4 : Int32)), .val (.int (Int32.ofNat k0)), .val (.ref b466), .unset, .unset, .unset] [(.ref b477)])
      replace X := X.sub (ws' := [b477]) (by simp)
      replace A_b217 := A_b217.keep K_ (ninS ne_b217_b477 nin0)
      replace S_b480 := S_b480.keep K_ E_b477 (by decide) (hw _ (List.mem_of_getElem? (i := 6) rfl))
      replace E_b477 := E_b477.keep K_
      have S_r := S_b480
      refine s_astore X (pc' := 204) (L' := #[.val (.int xa), .val (.int xb), .val (.int xc), .val (.int xd), .val (.int xm), .val (.ref b217), .val (.int (4 : Int32)), .val (.int (Int32.ofNat k0)), .val (.ref b466), .val (.ref b477), .unset, .unset]) at_202 rfl rfl rfl ?_
      refine s_iload X (pc' := 206) at_204 rfl rfl ?_
      refine s_iload X (pc' := 208) at_206 rfl rfl ?_
      refine jn (A := ∀ T (st : Int32), (¬ st < 0 ∧ ¬ (65535 : Int32) < st) → sfV ([z0, z1, z2, z3] : List Int32) st k0 = Int32.ofNat k0 → Cx p l e room_1 s m #[(.int xa), (.int xb), (.int xc), (.int xd), (.int xm)] below meth c Z consts_1 False x code maxLocals ret [b477] T h487 5 18 → Go p e below (Post Z consts_1 s room_1 (fun v h' ws' => v = some (.int 1))) T (mkF m 223 #[.val (.int xa), .val (.int xb), .val (.int xc), .val (.int xd), .val (.int xm), .val (.ref b217), .val (.int (4 : Int32)), .val (.int (Int32.ofNat k0)), .val (.ref b466), .val (.ref b477), .val (.int st), .unset] [])) (fun J => ?_) (fun T st kst hst X => ?_)
      · refine s_icmp X (pc' := 219) (pcF := 211) at_208 (by decide) (by decide) rfl (fun (q1 : ¬ (Int32.ofNat k0) < (4 : Int32)) => ?_) (fun (q1 : (Int32.ofNat k0) < (4 : Int32)) => ?_)
        · have n1 : k0 = 4 := by
            have z : ¬ k0 < 4 := fun z => q1 ((on_lt (by omega) (by decide)).mpr z)
            omega
          refine s_bipush X (pc' := 221) at_219 (v := (120 : Int32)) (by decide) rfl ?_
          refine s_istore X (pc' := 223) (L' := #[.val (.int xa), .val (.int xb), .val (.int xc), .val (.int xd), .val (.int xm), .val (.ref b217), .val (.int (4 : Int32)), .val (.int (Int32.ofNat k0)), .val (.ref b466), .val (.ref b477), .val (.int (120 : Int32)), .unset]) at_221 rfl rfl ?_
          exact J T (120 : Int32) (by decide) (sfV_all _ n1) X
        · have y1 : k0 < 4 := (on_lt (by omega) (by decide)).mp q1
          refine s_aload X (pc' := 213) at_211 rfl rfl rfl ?_
          refine s_iload X (pc' := 215) at_213 rfl rfl ?_
          refine s_caload X (pc' := 216) (i := k0) (v := .int (([z0, z1, z2, z3] : List Int32).getD k0 0)) at_215 A_b217 rfl (map_at ([z0, z1, z2, z3] : List Int32) (show k0 < 4 by omega)) rfl ?_
          refine s_goto X (pc' := 221) at_216 (by decide) (by decide) ?_
          refine s_istore X (pc' := 223) (L' := #[.val (.int xa), .val (.int xb), .val (.int xc), .val (.int xd), .val (.int xm), .val (.ref b217), .val (.int (4 : Int32)), .val (.int (Int32.ofNat k0)), .val (.ref b466), .val (.ref b477), .val (.int (([z0, z1, z2, z3] : List Int32).getD k0 0)), .unset]) at_221 rfl rfl ?_
          exact J T _ (hpd _ (getD_mem (show k0 < 4 by omega))) (by
            have q := take_getD (ds := ([z0, z1, z2, z3] : List Int32)) (n := 4) (i := k0) y1
            rw [← q]
            exact sfV_self (cs := ([z0, z1, z2, z3] : List Int32)) (Nat.le_of_ble_eq_true rfl) y1) X
      · refine s_aload X (pc' := 225) at_223 rfl rfl rfl ?_
        refine s_iload X (pc' := 227) at_225 rfl rfl ?_
        refine s_iload X (pc' := 229) at_227 rfl rfl ?_
        refine s_virtual X (pc' := 232) (W := 0) (as' := [(.int (Int32.ofNat k0)), (.int st)]) (S := []) (k' := 5) (n' := 18) at_229 (hw _ (List.mem_of_getElem? (i := 35) rfl)) (hw _ (List.mem_of_getElem? (i := 36) rfl)) (hw _ (List.mem_of_getElem? (i := 38) rfl)) (hw _ (List.mem_of_getElem? (i := 37) rfl)) (nface (hw _ (List.mem_of_getElem? (i := 38) rfl))) (by decide) own_pd24 rfl E_b477 ((hp_sf l Z a0 hw hEL b477 k0 st _ g_b477 (show k0 ≤ ([z0, z1, z2, z3] : List Int32).length from hk0) kst P_1 S_r (Nat.zero_le _) U O2 P5 O4 rG3).payS (by simp) (hw _ (List.mem_of_getElem? (i := 39) rfl)) (hw _ (List.mem_of_getElem? (i := 7) rfl)) hEL (by decide) (by decide)) (Nat.le_of_ble_eq_true rfl) rfl rfl (by decide) (by decide) (by decide) (by decide) rfl (fun T h489 v_ ws_ X hgr_ q490 => ?_)
        obtain ⟨rfl, K_, ⟨j, hj, hjs, P_2⟩, rfl⟩ := q490
        show Go p e below _ T (mkF m 232 #[.val (.int xa), .val (.int xb), .val (.int xc), .val (.int xd), .val (.int xm), .val (.ref b217), .val (.int (4 : Int32)), .val (.int (Int32.ofNat k0)), .val (.ref b466), .val (.ref b477), .val (.int st), .unset] [])
        replace X := X.sub (ws' := [b477]) (by simp)
        replace A_b217 := A_b217.keep K_ (ninS ne_b217_b477 nin0)
        replace S_r := S_r.keep K_ E_b477 (by decide) (hw _ (List.mem_of_getElem? (i := 6) rfl))
        replace E_b477 := E_b477.keep K_
        replace hj : j ≤ 4 := hj
        obtain rfl : j = k0 := (on_eq (by omega) (by omega)).mp (hjs.trans hst)
        refine s_aload X (pc' := 234) at_232 rfl rfl rfl ?_
        refine s_virtual X (pc' := 237) (W := 0) (as' := []) (S := []) (k' := 5) (n' := 18) at_234 (hw _ (List.mem_of_getElem? (i := 78) rfl)) (hw _ (List.mem_of_getElem? (i := 79) rfl)) (hw _ (List.mem_of_getElem? (i := 81) rfl)) (hw _ (List.mem_of_getElem? (i := 80) rfl)) (nface (hw _ (List.mem_of_getElem? (i := 81) rfl))) (by decide) own_pd5 rfl E_b477 ((hp_pos l Z a0 hw hEL b477 _ P_2).payS (by simp) (hw _ (List.mem_of_getElem? (i := 82) rfl)) (hw _ (List.mem_of_getElem? (i := 7) rfl)) hEL (by decide) (by decide)) (Nat.le_of_ble_eq_true rfl) rfl rfl (by decide) (by decide) (by decide) (by decide) rfl (fun T h491 v_ ws_ X hgr_ q492 => ?_)
        obtain ⟨rfl, e_, rfl⟩ := q492
        rw [e_] at X
        show Go p e below _ T (mkF m 237 #[.val (.int xa), .val (.int xb), .val (.int xc), .val (.int xd), .val (.int xm), .val (.ref b217), .val (.int (4 : Int32)), .val (.int (Int32.ofNat j)), .val (.ref b466), .val (.ref b477), .val (.int st), .unset] [(.int (Int32.ofNat j))])
        replace X := X.sub (ws' := [b477]) (by simp)
        refine s_iload X (pc' := 239) at_237 rfl rfl ?_
        refine s_icmpT X (pc' := 244) at_239 rfl (by decide) (by decide) ?_
        refine s_aload X (pc' := 246) at_244 rfl rfl rfl ?_
        refine s_virtual X (pc' := 249) (W := 0) (as' := []) (S := []) (k' := 5) (n' := 18) at_246 (hw _ (List.mem_of_getElem? (i := 83) rfl)) (hw _ (List.mem_of_getElem? (i := 84) rfl)) (hw _ (List.mem_of_getElem? (i := 86) rfl)) (hw _ (List.mem_of_getElem? (i := 85) rfl)) (nface (hw _ (List.mem_of_getElem? (i := 86) rfl))) (by decide) own_pd25 rfl E_b477 ((hp_skw l Z a0 hw hEL b477 _ g_b477 P_2 S_r hj U O2 P5 O4 rG3).payS (by simp) (hw _ (List.mem_of_getElem? (i := 87) rfl)) (hw _ (List.mem_of_getElem? (i := 7) rfl)) hEL (by decide) (by decide)) (Nat.le_of_ble_eq_true rfl) rfl rfl (by decide) (by decide) (by decide) (by decide) rfl (fun T h493 v_ ws_ X hgr_ q494 => ?_)
        obtain ⟨rfl, K_, P_3, rfl⟩ := q494
        show Go p e below _ T (mkF m 249 #[.val (.int xa), .val (.int xb), .val (.int xc), .val (.int xd), .val (.int xm), .val (.ref b217), .val (.int (4 : Int32)), .val (.int (Int32.ofNat j)), .val (.ref b466), .val (.ref b477), .val (.int st), .unset] [])
        replace X := X.sub (ws' := [b477]) (by simp)
        replace A_b217 := A_b217.keep K_ (ninS ne_b217_b477 nin0)
        replace S_r := S_r.keep K_ E_b477 (by decide) (hw _ (List.mem_of_getElem? (i := 6) rfl))
        replace E_b477 := E_b477.keep K_
        refine s_aload X (pc' := 251) at_249 rfl rfl rfl ?_
        refine s_iload X (pc' := 253) at_251 rfl rfl ?_
        refine s_aload X (pc' := 255) at_253 rfl rfl rfl ?_
        refine s_iload X (pc' := 257) at_255 rfl rfl ?_
        refine s_aload X (pc' := 259) at_257 rfl rfl rfl ?_
        refine s_iload X (pc' := 261) at_259 rfl rfl ?_
        refine s_aload X (pc' := 263) at_261 rfl rfl rfl ?_
        refine s_iload X (pc' := 265) at_263 rfl rfl ?_
        refine s_iload X (pc' := 267) at_265 rfl rfl ?_
        refine s_static X (pc' := 270) (W := 6) (as' := [(.ref b217), (.int (4 : Int32)), (.int (Int32.ofNat j))]) (S := [(.int (4 : Int32)), (.ref b217), (.int (4 : Int32)), (.ref b217), (.int (4 : Int32)), (.ref b217)]) (k' := 5) (n' := 18) at_267 (hw _ (List.mem_of_getElem? (i := 88) rfl)) (hw _ (List.mem_of_getElem? (i := 89) rfl)) (hw _ (List.mem_of_getElem? (i := 3) rfl)) (hw _ (List.mem_of_getElem? (i := 90) rfl)) (by decide) own_pd26 rfl ((own_step l Z a0 hw hEL b217 ([z0, z1, z2, z3] : List Int32) 4 j _ A_b217 (by show 4 ≤ 4; omega) (Nat.le_of_ble_eq_true rfl) hj).payS (by simp) (hw _ (List.mem_of_getElem? (i := 90) rfl)) (hw _ (List.mem_of_getElem? (i := 3) rfl)) hEL (by decide) (by decide)) (Nat.le_of_ble_eq_true rfl) rfl rfl (by decide) (by decide) (by decide) (by decide) rfl (fun T h495 v_ ws_ X hgr_ q496 => ?_)
        obtain ⟨rfl, e_, rfl⟩ := q496
        rw [e_] at X
        show Go p e below _ T (mkF m 270 #[.val (.int xa), .val (.int xb), .val (.int xc), .val (.int xd), .val (.int xm), .val (.ref b217), .val (.int (4 : Int32)), .val (.int (Int32.ofNat j)), .val (.ref b466), .val (.ref b477), .val (.int st), .unset] [(.int (Int32.ofNat (stepN ([z0, z1, z2, z3] : List Int32) 4 j))), (.int (4 : Int32)), (.ref b217), (.int (4 : Int32)), (.ref b217), (.int (4 : Int32)), (.ref b217)])
        replace X := X.sub (ws' := [b477]) (by simp)
        refine s_static X (pc' := 273) (W := 4) (as' := [(.ref b217), (.int (4 : Int32)), (.int (Int32.ofNat (stepN ([z0, z1, z2, z3] : List Int32) 4 j)))]) (S := [(.int (4 : Int32)), (.ref b217), (.int (4 : Int32)), (.ref b217)]) (k' := 5) (n' := 18) at_270 (hw _ (List.mem_of_getElem? (i := 88) rfl)) (hw _ (List.mem_of_getElem? (i := 89) rfl)) (hw _ (List.mem_of_getElem? (i := 3) rfl)) (hw _ (List.mem_of_getElem? (i := 90) rfl)) (by decide) own_pd26 rfl ((own_step l Z a0 hw hEL b217 ([z0, z1, z2, z3] : List Int32) 4 (stepN ([z0, z1, z2, z3] : List Int32) 4 j) _ A_b217 (by show 4 ≤ 4; omega) (Nat.le_of_ble_eq_true rfl) (step_le ([z0, z1, z2, z3] : List Int32) 4 _ hj)).payS (by simp) (hw _ (List.mem_of_getElem? (i := 90) rfl)) (hw _ (List.mem_of_getElem? (i := 3) rfl)) hEL (by decide) (by decide)) (Nat.le_of_ble_eq_true rfl) rfl rfl (by decide) (by decide) (by decide) (by decide) rfl (fun T h497 v_ ws_ X hgr_ q498 => ?_)
        obtain ⟨rfl, e_, rfl⟩ := q498
        rw [e_] at X
        show Go p e below _ T (mkF m 273 #[.val (.int xa), .val (.int xb), .val (.int xc), .val (.int xd), .val (.int xm), .val (.ref b217), .val (.int (4 : Int32)), .val (.int (Int32.ofNat j)), .val (.ref b466), .val (.ref b477), .val (.int st), .unset] [(.int (Int32.ofNat (stepN ([z0, z1, z2, z3] : List Int32) 4 (stepN ([z0, z1, z2, z3] : List Int32) 4 j)))), (.int (4 : Int32)), (.ref b217), (.int (4 : Int32)), (.ref b217)])
        replace X := X.sub (ws' := [b477]) (by simp)
        refine s_static X (pc' := 276) (W := 2) (as' := [(.ref b217), (.int (4 : Int32)), (.int (Int32.ofNat (stepN ([z0, z1, z2, z3] : List Int32) 4 (stepN ([z0, z1, z2, z3] : List Int32) 4 j))))]) (S := [(.int (4 : Int32)), (.ref b217)]) (k' := 5) (n' := 18) at_273 (hw _ (List.mem_of_getElem? (i := 88) rfl)) (hw _ (List.mem_of_getElem? (i := 89) rfl)) (hw _ (List.mem_of_getElem? (i := 3) rfl)) (hw _ (List.mem_of_getElem? (i := 90) rfl)) (by decide) own_pd26 rfl ((own_step l Z a0 hw hEL b217 ([z0, z1, z2, z3] : List Int32) 4 (stepN ([z0, z1, z2, z3] : List Int32) 4 (stepN ([z0, z1, z2, z3] : List Int32) 4 j)) _ A_b217 (by show 4 ≤ 4; omega) (Nat.le_of_ble_eq_true rfl) (step_le ([z0, z1, z2, z3] : List Int32) 4 _ (step_le ([z0, z1, z2, z3] : List Int32) 4 _ hj))).payS (by simp) (hw _ (List.mem_of_getElem? (i := 90) rfl)) (hw _ (List.mem_of_getElem? (i := 3) rfl)) hEL (by decide) (by decide)) (Nat.le_of_ble_eq_true rfl) rfl rfl (by decide) (by decide) (by decide) (by decide) rfl (fun T h499 v_ ws_ X hgr_ q500 => ?_)
        obtain ⟨rfl, e_, rfl⟩ := q500
        rw [e_] at X
        show Go p e below _ T (mkF m 276 #[.val (.int xa), .val (.int xb), .val (.int xc), .val (.int xd), .val (.int xm), .val (.ref b217), .val (.int (4 : Int32)), .val (.int (Int32.ofNat j)), .val (.ref b466), .val (.ref b477), .val (.int st), .unset] [(.int (Int32.ofNat (stepN ([z0, z1, z2, z3] : List Int32) 4 (stepN ([z0, z1, z2, z3] : List Int32) 4 (stepN ([z0, z1, z2, z3] : List Int32) 4 j))))), (.int (4 : Int32)), (.ref b217)])
        replace X := X.sub (ws' := [b477]) (by simp)
        refine s_static X (pc' := 279) (W := 0) (as' := [(.ref b217), (.int (4 : Int32)), (.int (Int32.ofNat (stepN ([z0, z1, z2, z3] : List Int32) 4 (stepN ([z0, z1, z2, z3] : List Int32) 4 (stepN ([z0, z1, z2, z3] : List Int32) 4 j)))))]) (S := []) (k' := 5) (n' := 18) at_276 (hw _ (List.mem_of_getElem? (i := 88) rfl)) (hw _ (List.mem_of_getElem? (i := 89) rfl)) (hw _ (List.mem_of_getElem? (i := 3) rfl)) (hw _ (List.mem_of_getElem? (i := 90) rfl)) (by decide) own_pd26 rfl ((own_step l Z a0 hw hEL b217 ([z0, z1, z2, z3] : List Int32) 4 (stepN ([z0, z1, z2, z3] : List Int32) 4 (stepN ([z0, z1, z2, z3] : List Int32) 4 (stepN ([z0, z1, z2, z3] : List Int32) 4 j))) _ A_b217 (by show 4 ≤ 4; omega) (Nat.le_of_ble_eq_true rfl) (step_le ([z0, z1, z2, z3] : List Int32) 4 _ (step_le ([z0, z1, z2, z3] : List Int32) 4 _ (step_le ([z0, z1, z2, z3] : List Int32) 4 _ hj)))).payS (by simp) (hw _ (List.mem_of_getElem? (i := 90) rfl)) (hw _ (List.mem_of_getElem? (i := 3) rfl)) hEL (by decide) (by decide)) (Nat.le_of_ble_eq_true rfl) rfl rfl (by decide) (by decide) (by decide) (by decide) rfl (fun T h501 v_ ws_ X hgr_ q502 => ?_)
        obtain ⟨rfl, e_, rfl⟩ := q502
        rw [e_] at X
        show Go p e below _ T (mkF m 279 #[.val (.int xa), .val (.int xb), .val (.int xc), .val (.int xd), .val (.int xm), .val (.ref b217), .val (.int (4 : Int32)), .val (.int (Int32.ofNat j)), .val (.ref b466), .val (.ref b477), .val (.int st), .unset] [(.int (Int32.ofNat (stepN ([z0, z1, z2, z3] : List Int32) 4 (stepN ([z0, z1, z2, z3] : List Int32) 4 (stepN ([z0, z1, z2, z3] : List Int32) 4 (stepN ([z0, z1, z2, z3] : List Int32) 4 j))))))])
        replace X := X.sub (ws' := [b477]) (by simp)
        refine go_int (z := (Int32.ofNat (j + wsL (([z0, z1, z2, z3] : List Int32).drop j)))) (congrArg Int32.ofNat (step4 ([z0, z1, z2, z3] : List Int32) 4 j (by decide) (by show 4 ≤ 4; omega) hj)) ?_
        have he : (j + wsL (([z0, z1, z2, z3] : List Int32).drop j)) ≤ 4 := by
          have q := wsL_le (([z0, z1, z2, z3] : List Int32).drop j)
          rw [List.length_drop] at q
          have q2 : ([z0, z1, z2, z3] : List Int32).length = 4 := rfl
          omega
        have hi2 : wsL (([z0, z1, z2, z3] : List Int32).drop (j + wsL (([z0, z1, z2, z3] : List Int32).drop j))) = 0 := by rw [← List.drop_drop]; exact ws_idem _
        obtain ⟨ev, gev⟩ : ∃ z, z = (j + wsL (([z0, z1, z2, z3] : List Int32).drop j)) := ⟨_, rfl⟩
        rw [← gev] at P_3 he hi2 ⊢
        refine s_istore X (pc' := 281) (L' := #[.val (.int xa), .val (.int xb), .val (.int xc), .val (.int xd), .val (.int xm), .val (.ref b217), .val (.int (4 : Int32)), .val (.int (Int32.ofNat j)), .val (.ref b466), .val (.ref b477), .val (.int st), .val (.int (Int32.ofNat ev))]) at_279 rfl rfl ?_
        refine s_aload X (pc' := 283) at_281 rfl rfl rfl ?_
        refine s_virtual X (pc' := 286) (W := 0) (as' := []) (S := []) (k' := 5) (n' := 18) at_283 (hw _ (List.mem_of_getElem? (i := 78) rfl)) (hw _ (List.mem_of_getElem? (i := 79) rfl)) (hw _ (List.mem_of_getElem? (i := 81) rfl)) (hw _ (List.mem_of_getElem? (i := 80) rfl)) (nface (hw _ (List.mem_of_getElem? (i := 81) rfl))) (by decide) own_pd5 rfl E_b477 ((hp_pos l Z a0 hw hEL b477 _ P_3).payS (by simp) (hw _ (List.mem_of_getElem? (i := 82) rfl)) (hw _ (List.mem_of_getElem? (i := 7) rfl)) hEL (by decide) (by decide)) (Nat.le_of_ble_eq_true rfl) rfl rfl (by decide) (by decide) (by decide) (by decide) rfl (fun T h503 v_ ws_ X hgr_ q504 => ?_)
        obtain ⟨rfl, e_, rfl⟩ := q504
        rw [e_] at X
        show Go p e below _ T (mkF m 286 #[.val (.int xa), .val (.int xb), .val (.int xc), .val (.int xd), .val (.int xm), .val (.ref b217), .val (.int (4 : Int32)), .val (.int (Int32.ofNat j)), .val (.ref b466), .val (.ref b477), .val (.int st), .val (.int (Int32.ofNat ev))] [(.int (Int32.ofNat ev))])
        replace X := X.sub (ws' := [b477]) (by simp)
        refine s_iload X (pc' := 288) at_286 rfl rfl ?_
        refine s_icmpT X (pc' := 293) at_288 rfl (by decide) (by decide) ?_
        refine s_aload X (pc' := 295) at_293 rfl rfl rfl ?_
        refine s_virtual X (pc' := 298) (W := 0) (as' := []) (S := []) (k' := 5) (n' := 18) at_295 (hw _ (List.mem_of_getElem? (i := 91) rfl)) (hw _ (List.mem_of_getElem? (i := 92) rfl)) (hw _ (List.mem_of_getElem? (i := 94) rfl)) (hw _ (List.mem_of_getElem? (i := 93) rfl)) (nface (hw _ (List.mem_of_getElem? (i := 94) rfl))) (by decide) own_pd4 rfl E_b477 ((hp_atEnd l Z a0 hw hEL b477 _ P_3 S_r he O2 P5).payS (by simp) (hw _ (List.mem_of_getElem? (i := 95) rfl)) (hw _ (List.mem_of_getElem? (i := 7) rfl)) hEL (by decide) (by decide)) (Nat.le_of_ble_eq_true rfl) rfl rfl (by decide) (by decide) (by decide) (by decide) rfl (fun T h505 v_ ws_ X hgr_ q506 => ?_)
        obtain ⟨rfl, e_, rfl⟩ := q506
        rw [e_] at X
        show Go p e below _ T (mkF m 298 #[.val (.int xa), .val (.int xb), .val (.int xc), .val (.int xd), .val (.int xm), .val (.ref b217), .val (.int (4 : Int32)), .val (.int (Int32.ofNat j)), .val (.ref b466), .val (.ref b477), .val (.int st), .val (.int (Int32.ofNat ev))] [(.int (if ev = ([z0, z1, z2, z3] : List Int32).length then 1 else 0))])
        replace X := X.sub (ws' := [b477]) (by simp)
        refine s_iload X (pc' := 300) at_298 rfl rfl ?_
        refine s_iload X (pc' := 302) at_300 rfl rfl ?_
        refine jn (A := ∀ T, Cx p l e room_1 s m #[(.int xa), (.int xb), (.int xc), (.int xd), (.int xm)] below meth c Z consts_1 False x code maxLocals ret [b477] T h493 5 18 → Go p e below (Post Z consts_1 s room_1 (fun v h' ws' => v = some (.int 1))) T (mkF m 315 #[.val (.int xa), .val (.int xb), .val (.int xc), .val (.int xd), .val (.int xm), .val (.ref b217), .val (.int (4 : Int32)), .val (.int (Int32.ofNat j)), .val (.ref b466), .val (.ref b477), .val (.int st), .val (.int (Int32.ofNat ev))] [])) (fun J => ?_) (fun T X => ?_)
        · refine s_icmp X (pc' := 309) (pcF := 305) at_302 (by decide) (by decide) rfl (fun (q2 : ¬ (Int32.ofNat ev) = (4 : Int32)) => ?_) (fun (q2 : (Int32.ofNat ev) = (4 : Int32)) => ?_)
          · refine s_iconst X (pc' := 310) at_309 (v := (0 : Int32)) rfl rfl ?_
            refine s_icmpT X (pc' := 315) at_310 (show (if ev = ([z0, z1, z2, z3] : List Int32).length then (1 : Int32) else 0) = (0 : Int32) from if_neg (fun z => q2 (congrArg Int32.ofNat z))) (by decide) (by decide) ?_
            exact J T X
          · refine s_iconst X (pc' := 306) at_305 (v := (1 : Int32)) rfl rfl ?_
            refine s_goto X (pc' := 310) at_306 (by decide) (by decide) ?_
            refine s_icmpT X (pc' := 315) at_310 (show (if ev = ([z0, z1, z2, z3] : List Int32).length then (1 : Int32) else 0) = (1 : Int32) from if_pos ((on_eq (by omega) (by decide)).mp (show Int32.ofNat ev = Int32.ofNat 4 from q2))) (by decide) (by decide) ?_
            exact J T X
        · refine s_aload X (pc' := 317) at_315 rfl rfl rfl ?_
          refine s_virtual X (pc' := 320) (W := 0) (as' := []) (S := []) (k' := 5) (n' := 18) at_317 (hw _ (List.mem_of_getElem? (i := 83) rfl)) (hw _ (List.mem_of_getElem? (i := 84) rfl)) (hw _ (List.mem_of_getElem? (i := 86) rfl)) (hw _ (List.mem_of_getElem? (i := 85) rfl)) (nface (hw _ (List.mem_of_getElem? (i := 86) rfl))) (by decide) own_pd25 rfl E_b477 ((hp_skw l Z a0 hw hEL b477 _ g_b477 P_3 S_r he U O2 P5 O4 rG3).payS (by simp) (hw _ (List.mem_of_getElem? (i := 87) rfl)) (hw _ (List.mem_of_getElem? (i := 7) rfl)) hEL (by decide) (by decide)) (Nat.le_of_ble_eq_true rfl) rfl rfl (by decide) (by decide) (by decide) (by decide) rfl (fun T h507 v_ ws_ X hgr_ q508 => ?_)
          obtain ⟨rfl, K_, P_4, rfl⟩ := q508
          show Go p e below _ T (mkF m 320 #[.val (.int xa), .val (.int xb), .val (.int xc), .val (.int xd), .val (.int xm), .val (.ref b217), .val (.int (4 : Int32)), .val (.int (Int32.ofNat j)), .val (.ref b466), .val (.ref b477), .val (.int st), .val (.int (Int32.ofNat ev))] [])
          replace X := X.sub (ws' := [b477]) (by simp)
          replace A_b217 := A_b217.keep K_ (ninS ne_b217_b477 nin0)
          replace S_r := S_r.keep K_ E_b477 (by decide) (hw _ (List.mem_of_getElem? (i := 6) rfl))
          replace E_b477 := E_b477.keep K_
          rw [hi2] at P_4
          refine s_aload X (pc' := 322) at_320 rfl rfl rfl ?_
          refine s_virtual X (pc' := 325) (W := 0) (as' := []) (S := []) (k' := 5) (n' := 18) at_322 (hw _ (List.mem_of_getElem? (i := 78) rfl)) (hw _ (List.mem_of_getElem? (i := 79) rfl)) (hw _ (List.mem_of_getElem? (i := 81) rfl)) (hw _ (List.mem_of_getElem? (i := 80) rfl)) (nface (hw _ (List.mem_of_getElem? (i := 81) rfl))) (by decide) own_pd5 rfl E_b477 ((hp_pos l Z a0 hw hEL b477 _ P_4).payS (by simp) (hw _ (List.mem_of_getElem? (i := 82) rfl)) (hw _ (List.mem_of_getElem? (i := 7) rfl)) hEL (by decide) (by decide)) (Nat.le_of_ble_eq_true rfl) rfl rfl (by decide) (by decide) (by decide) (by decide) rfl (fun T h509 v_ ws_ X hgr_ q510 => ?_)
          obtain ⟨rfl, e_, rfl⟩ := q510
          rw [e_] at X
          show Go p e below _ T (mkF m 325 #[.val (.int xa), .val (.int xb), .val (.int xc), .val (.int xd), .val (.int xm), .val (.ref b217), .val (.int (4 : Int32)), .val (.int (Int32.ofNat j)), .val (.ref b466), .val (.ref b477), .val (.int st), .val (.int (Int32.ofNat ev))] [(.int (Int32.ofNat (ev + 0)))])
          replace X := X.sub (ws' := [b477]) (by simp)
          refine s_iload X (pc' := 327) at_325 rfl rfl ?_
          refine s_icmpF X (pc' := 330) at_327 (show Int32.ofNat (ev + 0) = Int32.ofNat ev from rfl) rfl ?_
          refine s_iconst X (pc' := 331) at_330 (v := (1 : Int32)) rfl rfl ?_
          refine s_goto X (pc' := 335) at_331 (by decide) (by decide) ?_
          exact s_iretN X hEL (ws' := []) (t := .boolean) at_335 rfl (by simp) (by decide) (by decide) (fun x q => by simp at q) rfl
    · refine s_special X (pc' := 199) (W := 3) (as' := [(.ref b466)]) (S := [(.ref b480), (.ref b477), (.ref b477)]) (k' := 6) (n' := 26) at_196 rfl (hw _ (List.mem_of_getElem? (i := 11) rfl)) (hw _ (List.mem_of_getElem? (i := 12) rfl)) (hw _ (List.mem_of_getElem? (i := 13) rfl)) (by decide) own_pd22 rfl ((u_i1_4 l Z a0 hw hEL b480 b466 z0 z1 z2 z3 _ X.old g_b480 E_b480 F_b480_value F_b480_coder A_b466 hp (nall hl) O2 P5 U).payS (by simp) (hw _ (List.mem_of_getElem? (i := 13) rfl)) (hw _ (List.mem_of_getElem? (i := 10) rfl)) hEL (by decide) (by decide)) (Nat.le_of_ble_eq_true rfl) rfl rfl (by decide) (by decide) (by decide) (by decide) rfl (fun T h485 v_ ws_ X hgr_ q486 => ?_)
      obtain ⟨rfl, K_, S_b480, rfl⟩ := q486
      show Go p e below _ T (mkF m 199 #[.val (.int xa), .val (.int xb), .val (.int xc), .val (.int xd), .val (.int xm), .val (.ref b217), .val (.int (4 : Int32)), .val (.int (Int32.ofNat k0)), .val (.ref b466), .unset, .unset, .unset] [(.ref b480), (.ref b477), (.ref b477)])
      replace F_b477_value := F_b477_value.keep K_ (ninS ne_b477_b480 nin0)
      replace F_b477_position := F_b477_position.keep K_ (ninS ne_b477_b480 nin0)
      replace A_b217 := A_b217.keep K_ (ninS ne_b217_b480 nin0)
      replace E_b477 := E_b477.keep K_
      replace E_b480 := E_b480.keep K_
      refine s_special X (pc' := 202) (W := 1) (as' := [(.ref b480)]) (S := [(.ref b477)]) (k' := 6) (n' := 26) at_199 rfl (hw _ (List.mem_of_getElem? (i := 29) rfl)) (hw _ (List.mem_of_getElem? (i := 30) rfl)) (hw _ (List.mem_of_getElem? (i := 31) rfl)) (by decide) own_pd23 rfl ((hp_ini l Z a0 hw hEL b477 b480 _ g_b477 E_b477 F_b477_value F_b477_position).payS (by simp) (hw _ (List.mem_of_getElem? (i := 31) rfl)) (hw _ (List.mem_of_getElem? (i := 7) rfl)) hEL (by decide) (by decide)) (Nat.le_of_ble_eq_true rfl) rfl rfl (by decide) (by decide) (by decide) (by decide) rfl (fun T h511 v_ ws_ X hgr_ q512 => ?_)
      obtain ⟨rfl, K_, P_1, rfl⟩ := q512
      show Go p e below _ T (mkF m 202 #[.val (.int xa), .val (.int xb), .val (.int xc), .val (.int xd), .val (.int xm), .val (.ref b217), .val (.int (4 : Int32)), .val (.int (Int32.ofNat k0)), .val (.ref b466), .unset, .unset, .unset] [(.ref b477)])
      replace X := X.sub (ws' := [b477]) (by simp)
      replace A_b217 := A_b217.keep K_ (ninS ne_b217_b477 nin0)
      replace S_b480 := S_b480.keep K_ E_b477 (by decide) (hw _ (List.mem_of_getElem? (i := 6) rfl))
      replace E_b477 := E_b477.keep K_
      have S_r := S_b480
      refine s_astore X (pc' := 204) (L' := #[.val (.int xa), .val (.int xb), .val (.int xc), .val (.int xd), .val (.int xm), .val (.ref b217), .val (.int (4 : Int32)), .val (.int (Int32.ofNat k0)), .val (.ref b466), .val (.ref b477), .unset, .unset]) at_202 rfl rfl rfl ?_
      refine s_iload X (pc' := 206) at_204 rfl rfl ?_
      refine s_iload X (pc' := 208) at_206 rfl rfl ?_
      refine jn (A := ∀ T (st : Int32), (¬ st < 0 ∧ ¬ (65535 : Int32) < st) → sfV ([z0, z1, z2, z3] : List Int32) st k0 = Int32.ofNat k0 → Cx p l e room_1 s m #[(.int xa), (.int xb), (.int xc), (.int xd), (.int xm)] below meth c Z consts_1 False x code maxLocals ret [b477] T h511 6 26 → Go p e below (Post Z consts_1 s room_1 (fun v h' ws' => v = some (.int 1))) T (mkF m 223 #[.val (.int xa), .val (.int xb), .val (.int xc), .val (.int xd), .val (.int xm), .val (.ref b217), .val (.int (4 : Int32)), .val (.int (Int32.ofNat k0)), .val (.ref b466), .val (.ref b477), .val (.int st), .unset] [])) (fun J => ?_) (fun T st kst hst X => ?_)
      · refine s_icmp X (pc' := 219) (pcF := 211) at_208 (by decide) (by decide) rfl (fun (q1 : ¬ (Int32.ofNat k0) < (4 : Int32)) => ?_) (fun (q1 : (Int32.ofNat k0) < (4 : Int32)) => ?_)
        · have n1 : k0 = 4 := by
            have z : ¬ k0 < 4 := fun z => q1 ((on_lt (by omega) (by decide)).mpr z)
            omega
          refine s_bipush X (pc' := 221) at_219 (v := (120 : Int32)) (by decide) rfl ?_
          refine s_istore X (pc' := 223) (L' := #[.val (.int xa), .val (.int xb), .val (.int xc), .val (.int xd), .val (.int xm), .val (.ref b217), .val (.int (4 : Int32)), .val (.int (Int32.ofNat k0)), .val (.ref b466), .val (.ref b477), .val (.int (120 : Int32)), .unset]) at_221 rfl rfl ?_
          exact J T (120 : Int32) (by decide) (sfV_all _ n1) X
        · have y1 : k0 < 4 := (on_lt (by omega) (by decide)).mp q1
          refine s_aload X (pc' := 213) at_211 rfl rfl rfl ?_
          refine s_iload X (pc' := 215) at_213 rfl rfl ?_
          refine s_caload X (pc' := 216) (i := k0) (v := .int (([z0, z1, z2, z3] : List Int32).getD k0 0)) at_215 A_b217 rfl (map_at ([z0, z1, z2, z3] : List Int32) (show k0 < 4 by omega)) rfl ?_
          refine s_goto X (pc' := 221) at_216 (by decide) (by decide) ?_
          refine s_istore X (pc' := 223) (L' := #[.val (.int xa), .val (.int xb), .val (.int xc), .val (.int xd), .val (.int xm), .val (.ref b217), .val (.int (4 : Int32)), .val (.int (Int32.ofNat k0)), .val (.ref b466), .val (.ref b477), .val (.int (([z0, z1, z2, z3] : List Int32).getD k0 0)), .unset]) at_221 rfl rfl ?_
          exact J T _ (hpd _ (getD_mem (show k0 < 4 by omega))) (by
            have q := take_getD (ds := ([z0, z1, z2, z3] : List Int32)) (n := 4) (i := k0) y1
            rw [← q]
            exact sfV_self (cs := ([z0, z1, z2, z3] : List Int32)) (Nat.le_of_ble_eq_true rfl) y1) X
      · refine s_aload X (pc' := 225) at_223 rfl rfl rfl ?_
        refine s_iload X (pc' := 227) at_225 rfl rfl ?_
        refine s_iload X (pc' := 229) at_227 rfl rfl ?_
        refine s_virtual X (pc' := 232) (W := 0) (as' := [(.int (Int32.ofNat k0)), (.int st)]) (S := []) (k' := 6) (n' := 26) at_229 (hw _ (List.mem_of_getElem? (i := 35) rfl)) (hw _ (List.mem_of_getElem? (i := 36) rfl)) (hw _ (List.mem_of_getElem? (i := 38) rfl)) (hw _ (List.mem_of_getElem? (i := 37) rfl)) (nface (hw _ (List.mem_of_getElem? (i := 38) rfl))) (by decide) own_pd24 rfl E_b477 ((hp_sf l Z a0 hw hEL b477 k0 st _ g_b477 (show k0 ≤ ([z0, z1, z2, z3] : List Int32).length from hk0) kst P_1 S_r (Nat.zero_le _) U O2 P5 O4 rG3).payS (by simp) (hw _ (List.mem_of_getElem? (i := 39) rfl)) (hw _ (List.mem_of_getElem? (i := 7) rfl)) hEL (by decide) (by decide)) (Nat.le_of_ble_eq_true rfl) rfl rfl (by decide) (by decide) (by decide) (by decide) rfl (fun T h513 v_ ws_ X hgr_ q514 => ?_)
        obtain ⟨rfl, K_, ⟨j, hj, hjs, P_2⟩, rfl⟩ := q514
        show Go p e below _ T (mkF m 232 #[.val (.int xa), .val (.int xb), .val (.int xc), .val (.int xd), .val (.int xm), .val (.ref b217), .val (.int (4 : Int32)), .val (.int (Int32.ofNat k0)), .val (.ref b466), .val (.ref b477), .val (.int st), .unset] [])
        replace X := X.sub (ws' := [b477]) (by simp)
        replace A_b217 := A_b217.keep K_ (ninS ne_b217_b477 nin0)
        replace S_r := S_r.keep K_ E_b477 (by decide) (hw _ (List.mem_of_getElem? (i := 6) rfl))
        replace E_b477 := E_b477.keep K_
        replace hj : j ≤ 4 := hj
        obtain rfl : j = k0 := (on_eq (by omega) (by omega)).mp (hjs.trans hst)
        refine s_aload X (pc' := 234) at_232 rfl rfl rfl ?_
        refine s_virtual X (pc' := 237) (W := 0) (as' := []) (S := []) (k' := 6) (n' := 26) at_234 (hw _ (List.mem_of_getElem? (i := 78) rfl)) (hw _ (List.mem_of_getElem? (i := 79) rfl)) (hw _ (List.mem_of_getElem? (i := 81) rfl)) (hw _ (List.mem_of_getElem? (i := 80) rfl)) (nface (hw _ (List.mem_of_getElem? (i := 81) rfl))) (by decide) own_pd5 rfl E_b477 ((hp_pos l Z a0 hw hEL b477 _ P_2).payS (by simp) (hw _ (List.mem_of_getElem? (i := 82) rfl)) (hw _ (List.mem_of_getElem? (i := 7) rfl)) hEL (by decide) (by decide)) (Nat.le_of_ble_eq_true rfl) rfl rfl (by decide) (by decide) (by decide) (by decide) rfl (fun T h515 v_ ws_ X hgr_ q516 => ?_)
        obtain ⟨rfl, e_, rfl⟩ := q516
        rw [e_] at X
        show Go p e below _ T (mkF m 237 #[.val (.int xa), .val (.int xb), .val (.int xc), .val (.int xd), .val (.int xm), .val (.ref b217), .val (.int (4 : Int32)), .val (.int (Int32.ofNat j)), .val (.ref b466), .val (.ref b477), .val (.int st), .unset] [(.int (Int32.ofNat j))])
        replace X := X.sub (ws' := [b477]) (by simp)
        refine s_iload X (pc' := 239) at_237 rfl rfl ?_
        refine s_icmpT X (pc' := 244) at_239 rfl (by decide) (by decide) ?_
        refine s_aload X (pc' := 246) at_244 rfl rfl rfl ?_
        refine s_virtual X (pc' := 249) (W := 0) (as' := []) (S := []) (k' := 6) (n' := 26) at_246 (hw _ (List.mem_of_getElem? (i := 83) rfl)) (hw _ (List.mem_of_getElem? (i := 84) rfl)) (hw _ (List.mem_of_getElem? (i := 86) rfl)) (hw _ (List.mem_of_getElem? (i := 85) rfl)) (nface (hw _ (List.mem_of_getElem? (i := 86) rfl))) (by decide) own_pd25 rfl E_b477 ((hp_skw l Z a0 hw hEL b477 _ g_b477 P_2 S_r hj U O2 P5 O4 rG3).payS (by simp) (hw _ (List.mem_of_getElem? (i := 87) rfl)) (hw _ (List.mem_of_getElem? (i := 7) rfl)) hEL (by decide) (by decide)) (Nat.le_of_ble_eq_true rfl) rfl rfl (by decide) (by decide) (by decide) (by decide) rfl (fun T h517 v_ ws_ X hgr_ q518 => ?_)
        obtain ⟨rfl, K_, P_3, rfl⟩ := q518
        show Go p e below _ T (mkF m 249 #[.val (.int xa), .val (.int xb), .val (.int xc), .val (.int xd), .val (.int xm), .val (.ref b217), .val (.int (4 : Int32)), .val (.int (Int32.ofNat j)), .val (.ref b466), .val (.ref b477), .val (.int st), .unset] [])
        replace X := X.sub (ws' := [b477]) (by simp)
        replace A_b217 := A_b217.keep K_ (ninS ne_b217_b477 nin0)
        replace S_r := S_r.keep K_ E_b477 (by decide) (hw _ (List.mem_of_getElem? (i := 6) rfl))
        replace E_b477 := E_b477.keep K_
        refine s_aload X (pc' := 251) at_249 rfl rfl rfl ?_
        refine s_iload X (pc' := 253) at_251 rfl rfl ?_
        refine s_aload X (pc' := 255) at_253 rfl rfl rfl ?_
        refine s_iload X (pc' := 257) at_255 rfl rfl ?_
        refine s_aload X (pc' := 259) at_257 rfl rfl rfl ?_
        refine s_iload X (pc' := 261) at_259 rfl rfl ?_
        refine s_aload X (pc' := 263) at_261 rfl rfl rfl ?_
        refine s_iload X (pc' := 265) at_263 rfl rfl ?_
        refine s_iload X (pc' := 267) at_265 rfl rfl ?_
        refine s_static X (pc' := 270) (W := 6) (as' := [(.ref b217), (.int (4 : Int32)), (.int (Int32.ofNat j))]) (S := [(.int (4 : Int32)), (.ref b217), (.int (4 : Int32)), (.ref b217), (.int (4 : Int32)), (.ref b217)]) (k' := 6) (n' := 26) at_267 (hw _ (List.mem_of_getElem? (i := 88) rfl)) (hw _ (List.mem_of_getElem? (i := 89) rfl)) (hw _ (List.mem_of_getElem? (i := 3) rfl)) (hw _ (List.mem_of_getElem? (i := 90) rfl)) (by decide) own_pd26 rfl ((own_step l Z a0 hw hEL b217 ([z0, z1, z2, z3] : List Int32) 4 j _ A_b217 (by show 4 ≤ 4; omega) (Nat.le_of_ble_eq_true rfl) hj).payS (by simp) (hw _ (List.mem_of_getElem? (i := 90) rfl)) (hw _ (List.mem_of_getElem? (i := 3) rfl)) hEL (by decide) (by decide)) (Nat.le_of_ble_eq_true rfl) rfl rfl (by decide) (by decide) (by decide) (by decide) rfl (fun T h519 v_ ws_ X hgr_ q520 => ?_)
        obtain ⟨rfl, e_, rfl⟩ := q520
        rw [e_] at X
        show Go p e below _ T (mkF m 270 #[.val (.int xa), .val (.int xb), .val (.int xc), .val (.int xd), .val (.int xm), .val (.ref b217), .val (.int (4 : Int32)), .val (.int (Int32.ofNat j)), .val (.ref b466), .val (.ref b477), .val (.int st), .unset] [(.int (Int32.ofNat (stepN ([z0, z1, z2, z3] : List Int32) 4 j))), (.int (4 : Int32)), (.ref b217), (.int (4 : Int32)), (.ref b217), (.int (4 : Int32)), (.ref b217)])
        replace X := X.sub (ws' := [b477]) (by simp)
        refine s_static X (pc' := 273) (W := 4) (as' := [(.ref b217), (.int (4 : Int32)), (.int (Int32.ofNat (stepN ([z0, z1, z2, z3] : List Int32) 4 j)))]) (S := [(.int (4 : Int32)), (.ref b217), (.int (4 : Int32)), (.ref b217)]) (k' := 6) (n' := 26) at_270 (hw _ (List.mem_of_getElem? (i := 88) rfl)) (hw _ (List.mem_of_getElem? (i := 89) rfl)) (hw _ (List.mem_of_getElem? (i := 3) rfl)) (hw _ (List.mem_of_getElem? (i := 90) rfl)) (by decide) own_pd26 rfl ((own_step l Z a0 hw hEL b217 ([z0, z1, z2, z3] : List Int32) 4 (stepN ([z0, z1, z2, z3] : List Int32) 4 j) _ A_b217 (by show 4 ≤ 4; omega) (Nat.le_of_ble_eq_true rfl) (step_le ([z0, z1, z2, z3] : List Int32) 4 _ hj)).payS (by simp) (hw _ (List.mem_of_getElem? (i := 90) rfl)) (hw _ (List.mem_of_getElem? (i := 3) rfl)) hEL (by decide) (by decide)) (Nat.le_of_ble_eq_true rfl) rfl rfl (by decide) (by decide) (by decide) (by decide) rfl (fun T h521 v_ ws_ X hgr_ q522 => ?_)
        obtain ⟨rfl, e_, rfl⟩ := q522
        rw [e_] at X
        show Go p e below _ T (mkF m 273 #[.val (.int xa), .val (.int xb), .val (.int xc), .val (.int xd), .val (.int xm), .val (.ref b217), .val (.int (4 : Int32)), .val (.int (Int32.ofNat j)), .val (.ref b466), .val (.ref b477), .val (.int st), .unset] [(.int (Int32.ofNat (stepN ([z0, z1, z2, z3] : List Int32) 4 (stepN ([z0, z1, z2, z3] : List Int32) 4 j)))), (.int (4 : Int32)), (.ref b217), (.int (4 : Int32)), (.ref b217)])
        replace X := X.sub (ws' := [b477]) (by simp)
        refine s_static X (pc' := 276) (W := 2) (as' := [(.ref b217), (.int (4 : Int32)), (.int (Int32.ofNat (stepN ([z0, z1, z2, z3] : List Int32) 4 (stepN ([z0, z1, z2, z3] : List Int32) 4 j))))]) (S := [(.int (4 : Int32)), (.ref b217)]) (k' := 6) (n' := 26) at_273 (hw _ (List.mem_of_getElem? (i := 88) rfl)) (hw _ (List.mem_of_getElem? (i := 89) rfl)) (hw _ (List.mem_of_getElem? (i := 3) rfl)) (hw _ (List.mem_of_getElem? (i := 90) rfl)) (by decide) own_pd26 rfl ((own_step l Z a0 hw hEL b217 ([z0, z1, z2, z3] : List Int32) 4 (stepN ([z0, z1, z2, z3] : List Int32) 4 (stepN ([z0, z1, z2, z3] : List Int32) 4 j)) _ A_b217 (by show 4 ≤ 4; omega) (Nat.le_of_ble_eq_true rfl) (step_le ([z0, z1, z2, z3] : List Int32) 4 _ (step_le ([z0, z1, z2, z3] : List Int32) 4 _ hj))).payS (by simp) (hw _ (List.mem_of_getElem? (i := 90) rfl)) (hw _ (List.mem_of_getElem? (i := 3) rfl)) hEL (by decide) (by decide)) (Nat.le_of_ble_eq_true rfl) rfl rfl (by decide) (by decide) (by decide) (by decide) rfl (fun T h523 v_ ws_ X hgr_ q524 => ?_)
        obtain ⟨rfl, e_, rfl⟩ := q524
        rw [e_] at X
        show Go p e below _ T (mkF m 276 #[.val (.int xa), .val (.int xb), .val (.int xc), .val (.int xd), .val (.int xm), .val (.ref b217), .val (.int (4 : Int32)), .val (.int (Int32.ofNat j)), .val (.ref b466), .val (.ref b477), .val (.int st), .unset] [(.int (Int32.ofNat (stepN ([z0, z1, z2, z3] : List Int32) 4 (stepN ([z0, z1, z2, z3] : List Int32) 4 (stepN ([z0, z1, z2, z3] : List Int32) 4 j))))), (.int (4 : Int32)), (.ref b217)])
        replace X := X.sub (ws' := [b477]) (by simp)
        refine s_static X (pc' := 279) (W := 0) (as' := [(.ref b217), (.int (4 : Int32)), (.int (Int32.ofNat (stepN ([z0, z1, z2, z3] : List Int32) 4 (stepN ([z0, z1, z2, z3] : List Int32) 4 (stepN ([z0, z1, z2, z3] : List Int32) 4 j)))))]) (S := []) (k' := 6) (n' := 26) at_276 (hw _ (List.mem_of_getElem? (i := 88) rfl)) (hw _ (List.mem_of_getElem? (i := 89) rfl)) (hw _ (List.mem_of_getElem? (i := 3) rfl)) (hw _ (List.mem_of_getElem? (i := 90) rfl)) (by decide) own_pd26 rfl ((own_step l Z a0 hw hEL b217 ([z0, z1, z2, z3] : List Int32) 4 (stepN ([z0, z1, z2, z3] : List Int32) 4 (stepN ([z0, z1, z2, z3] : List Int32) 4 (stepN ([z0, z1, z2, z3] : List Int32) 4 j))) _ A_b217 (by show 4 ≤ 4; omega) (Nat.le_of_ble_eq_true rfl) (step_le ([z0, z1, z2, z3] : List Int32) 4 _ (step_le ([z0, z1, z2, z3] : List Int32) 4 _ (step_le ([z0, z1, z2, z3] : List Int32) 4 _ hj)))).payS (by simp) (hw _ (List.mem_of_getElem? (i := 90) rfl)) (hw _ (List.mem_of_getElem? (i := 3) rfl)) hEL (by decide) (by decide)) (Nat.le_of_ble_eq_true rfl) rfl rfl (by decide) (by decide) (by decide) (by decide) rfl (fun T h525 v_ ws_ X hgr_ q526 => ?_)
        obtain ⟨rfl, e_, rfl⟩ := q526
        rw [e_] at X
        show Go p e below _ T (mkF m 279 #[.val (.int xa), .val (.int xb), .val (.int xc), .val (.int xd), .val (.int xm), .val (.ref b217), .val (.int (4 : Int32)), .val (.int (Int32.ofNat j)), .val (.ref b466), .val (.ref b477), .val (.int st), .unset] [(.int (Int32.ofNat (stepN ([z0, z1, z2, z3] : List Int32) 4 (stepN ([z0, z1, z2, z3] : List Int32) 4 (stepN ([z0, z1, z2, z3] : List Int32) 4 (stepN ([z0, z1, z2, z3] : List Int32) 4 j))))))])
        replace X := X.sub (ws' := [b477]) (by simp)
        refine go_int (z := (Int32.ofNat (j + wsL (([z0, z1, z2, z3] : List Int32).drop j)))) (congrArg Int32.ofNat (step4 ([z0, z1, z2, z3] : List Int32) 4 j (by decide) (by show 4 ≤ 4; omega) hj)) ?_
        have he : (j + wsL (([z0, z1, z2, z3] : List Int32).drop j)) ≤ 4 := by
          have q := wsL_le (([z0, z1, z2, z3] : List Int32).drop j)
          rw [List.length_drop] at q
          have q2 : ([z0, z1, z2, z3] : List Int32).length = 4 := rfl
          omega
        have hi2 : wsL (([z0, z1, z2, z3] : List Int32).drop (j + wsL (([z0, z1, z2, z3] : List Int32).drop j))) = 0 := by rw [← List.drop_drop]; exact ws_idem _
        obtain ⟨ev, gev⟩ : ∃ z, z = (j + wsL (([z0, z1, z2, z3] : List Int32).drop j)) := ⟨_, rfl⟩
        rw [← gev] at P_3 he hi2 ⊢
        refine s_istore X (pc' := 281) (L' := #[.val (.int xa), .val (.int xb), .val (.int xc), .val (.int xd), .val (.int xm), .val (.ref b217), .val (.int (4 : Int32)), .val (.int (Int32.ofNat j)), .val (.ref b466), .val (.ref b477), .val (.int st), .val (.int (Int32.ofNat ev))]) at_279 rfl rfl ?_
        refine s_aload X (pc' := 283) at_281 rfl rfl rfl ?_
        refine s_virtual X (pc' := 286) (W := 0) (as' := []) (S := []) (k' := 6) (n' := 26) at_283 (hw _ (List.mem_of_getElem? (i := 78) rfl)) (hw _ (List.mem_of_getElem? (i := 79) rfl)) (hw _ (List.mem_of_getElem? (i := 81) rfl)) (hw _ (List.mem_of_getElem? (i := 80) rfl)) (nface (hw _ (List.mem_of_getElem? (i := 81) rfl))) (by decide) own_pd5 rfl E_b477 ((hp_pos l Z a0 hw hEL b477 _ P_3).payS (by simp) (hw _ (List.mem_of_getElem? (i := 82) rfl)) (hw _ (List.mem_of_getElem? (i := 7) rfl)) hEL (by decide) (by decide)) (Nat.le_of_ble_eq_true rfl) rfl rfl (by decide) (by decide) (by decide) (by decide) rfl (fun T h527 v_ ws_ X hgr_ q528 => ?_)
        obtain ⟨rfl, e_, rfl⟩ := q528
        rw [e_] at X
        show Go p e below _ T (mkF m 286 #[.val (.int xa), .val (.int xb), .val (.int xc), .val (.int xd), .val (.int xm), .val (.ref b217), .val (.int (4 : Int32)), .val (.int (Int32.ofNat j)), .val (.ref b466), .val (.ref b477), .val (.int st), .val (.int (Int32.ofNat ev))] [(.int (Int32.ofNat ev))])
        replace X := X.sub (ws' := [b477]) (by simp)
        refine s_iload X (pc' := 288) at_286 rfl rfl ?_
        refine s_icmpT X (pc' := 293) at_288 rfl (by decide) (by decide) ?_
        refine s_aload X (pc' := 295) at_293 rfl rfl rfl ?_
        refine s_virtual X (pc' := 298) (W := 0) (as' := []) (S := []) (k' := 6) (n' := 26) at_295 (hw _ (List.mem_of_getElem? (i := 91) rfl)) (hw _ (List.mem_of_getElem? (i := 92) rfl)) (hw _ (List.mem_of_getElem? (i := 94) rfl)) (hw _ (List.mem_of_getElem? (i := 93) rfl)) (nface (hw _ (List.mem_of_getElem? (i := 94) rfl))) (by decide) own_pd4 rfl E_b477 ((hp_atEnd l Z a0 hw hEL b477 _ P_3 S_r he O2 P5).payS (by simp) (hw _ (List.mem_of_getElem? (i := 95) rfl)) (hw _ (List.mem_of_getElem? (i := 7) rfl)) hEL (by decide) (by decide)) (Nat.le_of_ble_eq_true rfl) rfl rfl (by decide) (by decide) (by decide) (by decide) rfl (fun T h529 v_ ws_ X hgr_ q530 => ?_)
        obtain ⟨rfl, e_, rfl⟩ := q530
        rw [e_] at X
        show Go p e below _ T (mkF m 298 #[.val (.int xa), .val (.int xb), .val (.int xc), .val (.int xd), .val (.int xm), .val (.ref b217), .val (.int (4 : Int32)), .val (.int (Int32.ofNat j)), .val (.ref b466), .val (.ref b477), .val (.int st), .val (.int (Int32.ofNat ev))] [(.int (if ev = ([z0, z1, z2, z3] : List Int32).length then 1 else 0))])
        replace X := X.sub (ws' := [b477]) (by simp)
        refine s_iload X (pc' := 300) at_298 rfl rfl ?_
        refine s_iload X (pc' := 302) at_300 rfl rfl ?_
        refine jn (A := ∀ T, Cx p l e room_1 s m #[(.int xa), (.int xb), (.int xc), (.int xd), (.int xm)] below meth c Z consts_1 False x code maxLocals ret [b477] T h517 6 26 → Go p e below (Post Z consts_1 s room_1 (fun v h' ws' => v = some (.int 1))) T (mkF m 315 #[.val (.int xa), .val (.int xb), .val (.int xc), .val (.int xd), .val (.int xm), .val (.ref b217), .val (.int (4 : Int32)), .val (.int (Int32.ofNat j)), .val (.ref b466), .val (.ref b477), .val (.int st), .val (.int (Int32.ofNat ev))] [])) (fun J => ?_) (fun T X => ?_)
        · refine s_icmp X (pc' := 309) (pcF := 305) at_302 (by decide) (by decide) rfl (fun (q2 : ¬ (Int32.ofNat ev) = (4 : Int32)) => ?_) (fun (q2 : (Int32.ofNat ev) = (4 : Int32)) => ?_)
          · refine s_iconst X (pc' := 310) at_309 (v := (0 : Int32)) rfl rfl ?_
            refine s_icmpT X (pc' := 315) at_310 (show (if ev = ([z0, z1, z2, z3] : List Int32).length then (1 : Int32) else 0) = (0 : Int32) from if_neg (fun z => q2 (congrArg Int32.ofNat z))) (by decide) (by decide) ?_
            exact J T X
          · refine s_iconst X (pc' := 306) at_305 (v := (1 : Int32)) rfl rfl ?_
            refine s_goto X (pc' := 310) at_306 (by decide) (by decide) ?_
            refine s_icmpT X (pc' := 315) at_310 (show (if ev = ([z0, z1, z2, z3] : List Int32).length then (1 : Int32) else 0) = (1 : Int32) from if_pos ((on_eq (by omega) (by decide)).mp (show Int32.ofNat ev = Int32.ofNat 4 from q2))) (by decide) (by decide) ?_
            exact J T X
        · refine s_aload X (pc' := 317) at_315 rfl rfl rfl ?_
          refine s_virtual X (pc' := 320) (W := 0) (as' := []) (S := []) (k' := 6) (n' := 26) at_317 (hw _ (List.mem_of_getElem? (i := 83) rfl)) (hw _ (List.mem_of_getElem? (i := 84) rfl)) (hw _ (List.mem_of_getElem? (i := 86) rfl)) (hw _ (List.mem_of_getElem? (i := 85) rfl)) (nface (hw _ (List.mem_of_getElem? (i := 86) rfl))) (by decide) own_pd25 rfl E_b477 ((hp_skw l Z a0 hw hEL b477 _ g_b477 P_3 S_r he U O2 P5 O4 rG3).payS (by simp) (hw _ (List.mem_of_getElem? (i := 87) rfl)) (hw _ (List.mem_of_getElem? (i := 7) rfl)) hEL (by decide) (by decide)) (Nat.le_of_ble_eq_true rfl) rfl rfl (by decide) (by decide) (by decide) (by decide) rfl (fun T h531 v_ ws_ X hgr_ q532 => ?_)
          obtain ⟨rfl, K_, P_4, rfl⟩ := q532
          show Go p e below _ T (mkF m 320 #[.val (.int xa), .val (.int xb), .val (.int xc), .val (.int xd), .val (.int xm), .val (.ref b217), .val (.int (4 : Int32)), .val (.int (Int32.ofNat j)), .val (.ref b466), .val (.ref b477), .val (.int st), .val (.int (Int32.ofNat ev))] [])
          replace X := X.sub (ws' := [b477]) (by simp)
          replace A_b217 := A_b217.keep K_ (ninS ne_b217_b477 nin0)
          replace S_r := S_r.keep K_ E_b477 (by decide) (hw _ (List.mem_of_getElem? (i := 6) rfl))
          replace E_b477 := E_b477.keep K_
          rw [hi2] at P_4
          refine s_aload X (pc' := 322) at_320 rfl rfl rfl ?_
          refine s_virtual X (pc' := 325) (W := 0) (as' := []) (S := []) (k' := 6) (n' := 26) at_322 (hw _ (List.mem_of_getElem? (i := 78) rfl)) (hw _ (List.mem_of_getElem? (i := 79) rfl)) (hw _ (List.mem_of_getElem? (i := 81) rfl)) (hw _ (List.mem_of_getElem? (i := 80) rfl)) (nface (hw _ (List.mem_of_getElem? (i := 81) rfl))) (by decide) own_pd5 rfl E_b477 ((hp_pos l Z a0 hw hEL b477 _ P_4).payS (by simp) (hw _ (List.mem_of_getElem? (i := 82) rfl)) (hw _ (List.mem_of_getElem? (i := 7) rfl)) hEL (by decide) (by decide)) (Nat.le_of_ble_eq_true rfl) rfl rfl (by decide) (by decide) (by decide) (by decide) rfl (fun T h533 v_ ws_ X hgr_ q534 => ?_)
          obtain ⟨rfl, e_, rfl⟩ := q534
          rw [e_] at X
          show Go p e below _ T (mkF m 325 #[.val (.int xa), .val (.int xb), .val (.int xc), .val (.int xd), .val (.int xm), .val (.ref b217), .val (.int (4 : Int32)), .val (.int (Int32.ofNat j)), .val (.ref b466), .val (.ref b477), .val (.int st), .val (.int (Int32.ofNat ev))] [(.int (Int32.ofNat (ev + 0)))])
          replace X := X.sub (ws' := [b477]) (by simp)
          refine s_iload X (pc' := 327) at_325 rfl rfl ?_
          refine s_icmpF X (pc' := 330) at_327 (show Int32.ofNat (ev + 0) = Int32.ofNat ev from rfl) rfl ?_
          refine s_iconst X (pc' := 331) at_330 (v := (1 : Int32)) rfl rfl ?_
          refine s_goto X (pc' := 335) at_331 (by decide) (by decide) ?_
          exact s_iretN X hEL (ws' := []) (t := .boolean) at_335 rfl (by simp) (by decide) (by decide) (fun x q => by simp at q) rfl
set_option maxRecDepth 65536 in
set_option maxHeartbeats 40000000 in
theorem comes_1 {Post' : Tables → Env → Array Value → State → Outcome → State → Prop} (hpost : ∀ tb e args s v u, (limb_1_1.after args s (.returned v) u = true ∧ limb_1_2.after args s (.returned v) u = true ∧ True) → ReturnedEndW s (.returned v) u (Jvm.fieldLocs frame_1_writes args s ++ Jvm.arrayLocs frame_1_arrays args s ++ Jvm.staticLocs frame_1_statics s) 24 1152 → Post' tb e args s (.returned v) u) :
    ArmFor flags0 classFile x code maxLocals ret World_1 tables_1 room_1 Calls_1 rest_1 Pre_1 Post' := by
  intro l hfl _ _ p e ha hc hk s m args below hf hA hF happ hP
  obtain ⟨hcalls, hrest, hpre⟩ := hP
  obtain ⟨-, -, -, hnamed, -, -, -, hat⟩ := (Spec.applies_iff hf).mp happ
  obtain ⟨hg, hnr⟩ := and_e (Cond.before_iff.mp (show (Jvm.Cond.and given_1 narrow_1).before args s = true from hpre))
  obtain ⟨hg0, hg1⟩ := and_e hg
  obtain ⟨ha0, hg2⟩ := and_e hg1
  obtain ⟨ha1, hg3⟩ := and_e hg2
  obtain ⟨ha2, hg4⟩ := and_e hg3
  obtain ⟨ha3, hg5⟩ := and_e hg4
  obtain ⟨w0, w1, w2, w3, w4, rfl⟩ : ∃ w0 w1 w2 w3 w4 : Value, args = #[w0, w1, w2, w3, w4] := by
    have hs : args.size = 5 := by simpa [Cond.value, given_1] using hg0
    obtain ⟨L⟩ := args
    match L, hs with
    | [w0, w1, w2, w3, w4], _ => exact ⟨w0, w1, w2, w3, w4, rfl⟩
  have hw := fun d (hd : d ∈ tables_1) => atoms_spec (ws := Jvm.Cond.code x code maxLocals ret :: tables_1) hat d (List.mem_cons_of_mem _ hd)
  obtain ⟨hsets, hown0⟩ := atoms_of _ (rest_1_c_eq ▸ (show rest_1_c.before _ s = true from hrest))
  have hfit : Fit s := fun {y c} hc i hi => by
    obtain ⟨ha, rfl⟩ := Array.getElem?_eq_some_iff.mp hc
    have q := List.all_eq_true.mp ((Array.all_eq_true_iff_forall_mem.mp hF) _ (Array.getElem_mem ha)) i (List.mem_range.mpr hi)
    simpa [Array.getElem?_eq_getElem hi] using q
  have n5 := not_v (Cond.before_iff.mp (hsets _ (List.mem_of_getElem? (i := 2) rfl)))
  obtain ⟨i0, e0⟩ := is_v ha0
  obtain rfl : w0 = (.int i0) := Option.some.inj e0
  obtain ⟨i1, e1⟩ := is_v ha1
  obtain rfl : w1 = (.int i1) := Option.some.inj e1
  obtain ⟨i2, e2⟩ := is_v ha2
  obtain rfl : w2 = (.int i2) := Option.some.inj e2
  obtain ⟨i3, e3⟩ := is_v ha3
  obtain rfl : w3 = (.int i3) := Option.some.inj e3
  obtain ⟨i4, e4⟩ := is_v hg5
  obtain rfl : w4 = (.int i4) := Option.some.inj e4
  obtain ⟨G1, eG1⟩ := is_v (Cond.before_iff.mp (hsets _ (List.mem_of_getElem? (i := 1) rfl)))
  have O2 : Sta s s.heap "java/lang/String" "COMPACT_STRINGS" "Z" (.int G1) := Sta.start eG1 (Or.inl (hsets _ (List.mem_of_getElem? (i := 0) rfl)))
  have P5 : ¬ (G1 = (0 : Int32)) := gotF (Cond.eq_ints eG1 (Term.int_eval (0))) n5
  obtain ⟨G3, eG3, rG3⟩ := isR_v (Cond.before_iff.mp (hsets _ (List.mem_of_getElem? (i := 8) rfl)))
  have O4 : Sta s s.heap "jdk/internal/util/Preconditions" "SIOOBE_FORMATTER" "Ljava/util/function/BiFunction;" G3 := Sta.start eG3 (Or.inl (hsets _ (List.mem_of_getElem? (i := 7) rfl)))
  have hEL : EW s _ consts_1 := (EW.cons (hw _ (List.mem_of_getElem? (i := 21) rfl)) (by decide) EW.nil)
  have hCH : CHv s consts_1 s.vm s.heap := CHv.start hEL (fun q hq => hcalls.1 q hq) (hsets _ (List.mem_of_getElem? (i := 2) rfl)) (hw _ (List.mem_of_getElem? (i := 22) rfl)) (hw _ (List.mem_of_getElem? (i := 9) rfl))
  have U_1 : Sta s s.heap "java/lang/StringUTF16" "$assertionsDisabled" "Z" (.int (1 : Int32)) := Sta.start (Cond.eq_int (hsets _ (List.mem_of_getElem? (i := 12) rfl)) (Term.int_eval (1))) (Or.inl (hsets _ (List.mem_of_getElem? (i := 11) rfl)))
  have U_0 : Sta s s.heap "java/lang/StringUTF16" "HI_BYTE_SHIFT" "I" (.int (0 : Int32)) := Sta.start (Cond.eq_int (hsets _ (List.mem_of_getElem? (i := 15) rfl)) (Term.int_eval (0))) (Or.inl (hsets _ (List.mem_of_getElem? (i := 14) rfl)))
  have U_8 : Sta s s.heap "java/lang/StringUTF16" "LO_BYTE_SHIFT" "I" (.int (8 : Int32)) := Sta.start (Cond.eq_int (hsets _ (List.mem_of_getElem? (i := 18) rfl)) (Term.int_eval (8))) (Or.inl (hsets _ (List.mem_of_getElem? (i := 17) rfl)))
  have U : U16 s := ⟨U_1, U_0, U_8⟩
  have C := own_law l s _ hw hEL i0 i1 i2 i3 i4 s.heap (O2 := O2) (P5 := P5) (O4 := O4) (rG3 := rG3) (U := U)
  obtain ⟨n, o, h1, h2, h3, v, L, ws', rfl, hv, N, -, -, -, hq⟩ := C tables_1 p e ha hc hk s m _ below hf ((Spec.applies_iff_loose hf).mp happ).1 ⟨rfl, State.Warmed39.refl s, rfl, hCH, (fun q hq => by simp at hq), ext_refl _⟩ (fun q => q.elim)
  obtain rfl : v = some (.int 1) := hv
  exact ⟨n, _, h1, h2, h3, hpost _ _ _ _ _ _ ⟨Cond.after_iff.mpr rfl, Cond.after_iff.mpr (eq_i res_at (Term.int_eval (1)) rfl), trivial⟩ ⟨hq.1, hq.2.1, hq.2.2.1, (hq.2.2.2.sift fun y hy => Or.inr (N y hy)).mono (by decide) (by decide)⟩⟩
theorem main_1_1 : Claimed_1_1 := comes_1 fun _ _ _ _ _ _ h hF => ⟨h.1, hF⟩
theorem main_1_2 : Claimed_1_2 := comes_1 fun _ _ _ _ _ _ h hF => ⟨h.2.1, hF⟩
end Jvm.Pilot.@@N@@
namespace Jvm.Pilot.@@N@@
open Jvm Jvm.ClassFile Sem Op Lib Jvm.Free Jvm.Stand Jvm.Pilot.@@N@@.Jvm.D
/-! MADE BY PROGRAM (witnessworld.py) out of the Statement's table words and the real class files: 21 classes; the members and pool entries that the words name. The judged class is class 1, her method 4. -/
namespace start1
open Jvm.ClassFile
def u (s : String) : CpInfo := .utf8 (stringToUtf16 s)
/-- a pool by its gaps: so many unusable entries, then the entry; so many at the end -/
def gap : Nat → List CpInfo → List CpInfo
  | 0, r => r
  | n + 1, r => .unusable :: gap n r
def poolList (es : List (Nat × CpInfo)) (last : Nat) : List CpInfo := es.foldr (fun e r => gap e.1 (e.2 :: r)) (gap last [])
def pool (es : List (Nat × CpInfo)) (last : Nat) : Array CpInfo := ⟨poolList es last⟩
def fileOf (pool : Array CpInfo) (this : Nat) (attrs : Array Attribute := #[]) (ms : Array MethodInfo := #[]) (fl : Nat := 33) (sup : Nat := 0) (ifs : Array Nat := #[]) (fds : Array FieldInfo := #[]) : ClassFile where
  minorVersion := 0
  majorVersion := 65
  constantPool := pool
  accessFlags := fl
  thisClass := this
  superClass := sup
  interfaces := ifs
  fields := fds
  methods := ms
  attributes := attrs
def plain (name : String) (sup : Option ClassId) : Class where
  name := name
  kind := .ordinary
  loader := none
  accessFlags := 33
  super := sup
  interfaces := #[]
  cf := none
  fields := #[]
  methods := #[]
  instanceTypes := #[]
  staticTypes := #[]
  resolved := #[]
  callSites := []
  init := .initialized
  statics := none
  mirror := none

def pool0 : Array CpInfo := pool [(5, u "<init>"), (0, u "()V"), (1, .class_ 10), (1, u "java/lang/Object")] 113

def k0c0 : Code := { maxStack := 0, maxLocals := 1, code := object_method_1_code, exceptionTable := #[], attributes := #[] }
def k0m0 : Method := { name := "<init>", desc := "()V", sig := { parameters := [], returnType := none }, accessFlags := 1, code := some k0c0 }
/-- java/lang/Object -/
def k0 : Class := { plain "java/lang/Object" none with
  accessFlags := 33
  interfaces := #[]
  cf := some (fileOf pool0 8 #[] #[{ accessFlags := 1, nameIndex := 5, descriptorIndex := 6, attributes := #[] }] 33 0 #[] #[])
  fields := #[]
  methods := #[k0m0]
  instanceTypes := #[]
  staticTypes := #[]
  resolved := Array.replicate 124 none
  statics := none }

def pool1 : Array CpInfo := pool [(2, .class_ 4), (1, u "java/lang/Object"), (0, u "<init>"), (0, u "()V"), (0, .methodref 8 9), (0, .class_ 10), (0, .nameAndType 11 12), (0, u "com/example/halyard/halyard/HeaderParserSkipWhitespacePinLaw"), (0, u "ws"), (0, u "(C)Z"), (0, .methodref 8 14), (0, .nameAndType 15 16), (0, u "ch"), (0, u "(I)C"), (0, .class_ 18), (0, u "com/example/halyard/halyard/HeaderParser"), (0, .class_ 20), (0, u "java/lang/String"), (0, .methodref 19 22), (0, .nameAndType 5 23), (0, u "([C)V"), (0, .methodref 17 25), (0, .nameAndType 5 26), (0, u "(Ljava/lang/String;)V"), (0, .methodref 17 28), (0, .nameAndType 29 30), (0, u "skipFrom"), (0, u "(IC)V"), (0, .methodref 17 32), (0, .nameAndType 33 34), (0, u "position"), (0, u "()I"), (0, .methodref 17 36), (0, .nameAndType 37 6), (0, u "skipWhitespace"), (0, .methodref 8 39), (0, .nameAndType 40 41), (0, u "step"), (0, u "([CII)I"), (0, .methodref 17 43), (0, .nameAndType 44 45), (0, u "atEnd"), (0, u "()Z"), (3, u "law"), (0, u "(IIIII)Z")] 4

def k1m0 : Method := { name := "<init>", desc := "()V", sig := { parameters := [], returnType := none }, accessFlags := 1, code := none }
def k1c1 : Code := { maxStack := 2, maxLocals := 2, code := method_2_code, exceptionTable := #[], attributes := #[] }
def k1m1 : Method := { name := "ch", desc := "(I)C", sig := { parameters := [.int], returnType := some .char }, accessFlags := 10, code := some k1c1 }
def k1c2 : Code := { maxStack := 2, maxLocals := 1, code := method_3_code, exceptionTable := #[], attributes := #[] }
def k1m2 : Method := { name := "ws", desc := "(C)Z", sig := { parameters := [.char], returnType := some .boolean }, accessFlags := 10, code := some k1c2 }
def k1c3 : Code := { maxStack := 2, maxLocals := 3, code := method_4_code, exceptionTable := #[], attributes := #[] }
def k1m3 : Method := { name := "step", desc := "([CII)I", sig := { parameters := [(.array .char), .int, .int], returnType := some .int }, accessFlags := 10, code := some k1c3 }
def k1c4 : Code := { maxStack := 9, maxLocals := 12, code := code, exceptionTable := #[], attributes := #[] }
def k1m4 : Method := { name := "law", desc := "(IIIII)Z", sig := { parameters := [.int, .int, .int, .int, .int], returnType := some .boolean }, accessFlags := 9, code := some k1c4 }
/-- com/example/halyard/halyard/HeaderParserSkipWhitespacePinLaw -/
def k1 : Class := { plain "com/example/halyard/halyard/HeaderParserSkipWhitespacePinLaw" (some 0) with
  accessFlags := 49
  interfaces := #[]
  cf := some (fileOf pool1 8 #[] #[{ accessFlags := 1, nameIndex := 5, descriptorIndex := 6, attributes := #[] }, { accessFlags := 10, nameIndex := 15, descriptorIndex := 16, attributes := #[] }, { accessFlags := 10, nameIndex := 11, descriptorIndex := 12, attributes := #[] }, { accessFlags := 10, nameIndex := 40, descriptorIndex := 41, attributes := #[] }, { accessFlags := 9, nameIndex := 49, descriptorIndex := 50, attributes := #[] }] 49 2 #[] #[])
  fields := #[]
  methods := #[k1m0, k1m1, k1m2, k1m3, k1m4]
  instanceTypes := #[]
  staticTypes := #[]
  resolved := Array.replicate 55 none
  statics := none }

def pool2 : Array CpInfo := pool [(1, .methodref 2 3), (0, .class_ 4), (0, .nameAndType 5 6), (0, u "java/lang/Object"), (0, u "<init>"), (0, u "()V"), (6, u "(Ljava/lang/String;)V"), (0, .fieldref 15 16), (0, .class_ 17), (0, .nameAndType 18 19), (0, u "com/example/halyard/halyard/HeaderParser"), (0, u "value"), (0, u "Ljava/lang/String;"), (6, u "skipWhitespace"), (2, u "atEnd"), (0, u "()Z"), (20, .fieldref 15 52), (0, .nameAndType 53 54), (0, u "position"), (0, u "I"), (0, .methodref 56 57), (0, .class_ 58), (0, .nameAndType 59 60), (0, u "java/lang/String"), (0, u "length"), (0, u "()I"), (0, .methodref 56 62), (0, .nameAndType 63 64), (0, u "indexOf"), (0, u "(II)I"), (0, .methodref 56 66), (0, .nameAndType 67 68), (0, u "charAt"), (0, u "(I)C"), (85, u "TOKEN_SYMBOLS"), (8, u "skipFrom"), (0, u "(IC)V")] 27

def k2c0 : Code := { maxStack := 3, maxLocals := 2, code := prog_6_method_1_code, exceptionTable := #[], attributes := #[] }
def k2m0 : Method := { name := "<init>", desc := "(Ljava/lang/String;)V", sig := { parameters := [(.object "java/lang/String")], returnType := none }, accessFlags := 0, code := some k2c0 }
def k2c1 : Code := { maxStack := 2, maxLocals := 1, code := prog_6_method_3_code, exceptionTable := #[], attributes := #[] }
def k2m1 : Method := { name := "atEnd", desc := "()Z", sig := { parameters := [], returnType := some .boolean }, accessFlags := 0, code := some k2c1 }
def k2c2 : Code := { maxStack := 1, maxLocals := 1, code := prog_6_method_4_code, exceptionTable := #[], attributes := #[] }
def k2m2 : Method := { name := "position", desc := "()I", sig := { parameters := [], returnType := some .int }, accessFlags := 0, code := some k2c2 }
def k2c3 : Code := { maxStack := 3, maxLocals := 4, code := prog_6_method_5_code, exceptionTable := #[], attributes := #[] }
def k2m3 : Method := { name := "skipFrom", desc := "(IC)V", sig := { parameters := [.int, .char], returnType := none }, accessFlags := 0, code := some k2c3 }
def k2c4 : Code := { maxStack := 3, maxLocals := 1, code := prog_6_method_7_code, exceptionTable := #[], attributes := #[] }
def k2m4 : Method := { name := "skipWhitespace", desc := "()V", sig := { parameters := [], returnType := none }, accessFlags := 0, code := some k2c4 }
/-- com/example/halyard/halyard/HeaderParser -/
def k2 : Class := { plain "com/example/halyard/halyard/HeaderParser" (some 0) with
  accessFlags := 48
  interfaces := #[]
  cf := some (fileOf pool2 15 #[] #[{ accessFlags := 0, nameIndex := 5, descriptorIndex := 13, attributes := #[] }, { accessFlags := 0, nameIndex := 29, descriptorIndex := 30, attributes := #[] }, { accessFlags := 0, nameIndex := 53, descriptorIndex := 60, attributes := #[] }, { accessFlags := 0, nameIndex := 163, descriptorIndex := 164, attributes := #[] }, { accessFlags := 0, nameIndex := 26, descriptorIndex := 6, attributes := #[] }] 48 2 #[] #[{ accessFlags := 26, nameIndex := 154, descriptorIndex := 19, attributes := #[] }, { accessFlags := 18, nameIndex := 18, descriptorIndex := 19, attributes := #[] }, { accessFlags := 2, nameIndex := 53, descriptorIndex := 54, attributes := #[] }])
  fields := #[{ name := "TOKEN_SYMBOLS", type := (.object "java/lang/String"), accessFlags := 26, slot := 0, constantValue := 0 }, { name := "value", type := (.object "java/lang/String"), accessFlags := 18, slot := 0, constantValue := 0 }, { name := "position", type := .int, accessFlags := 2, slot := 1, constantValue := 0 }]
  methods := #[k2m0, k2m1, k2m2, k2m3, k2m4]
  instanceTypes := #[(.object "java/lang/String"), .int]
  staticTypes := #[(.object "java/lang/String")]
  resolved := Array.replicate 192 none
  statics := none }

def pool3 : Array CpInfo := pool [(1, .class_ 2), (0, u "java/io/Serializable"), (0, .class_ 4), (0, u "java/lang/Object")] 2

/-- java/io/Serializable -/
def k3 : Class := { plain "java/io/Serializable" (some 0) with
  accessFlags := 1537
  interfaces := #[]
  cf := some (fileOf pool3 1 #[] #[] 1537 3 #[] #[])
  fields := #[]
  methods := #[]
  instanceTypes := #[]
  staticTypes := #[]
  resolved := Array.replicate 7 none
  statics := none }

def pool4 : Array CpInfo := pool [(1, .class_ 2), (0, u "java/lang/Comparable"), (0, .class_ 4), (0, u "java/lang/Object")] 7

/-- java/lang/Comparable -/
def k4 : Class := { plain "java/lang/Comparable" (some 0) with
  accessFlags := 1537
  interfaces := #[]
  cf := some (fileOf pool4 1 #[] #[] 1537 3 #[] #[])
  fields := #[]
  methods := #[]
  instanceTypes := #[]
  staticTypes := #[]
  resolved := Array.replicate 12 none
  statics := none }

def pool5 : Array CpInfo := pool [(2, .class_ 4), (1, u "java/lang/CharSequence"), (42, .class_ 48), (0, u "java/lang/CharSequence$1CodePointIterator"), (10, .class_ 60), (0, u "java/lang/CharSequence$1CharIterator"), (5, .class_ 67), (0, u "java/lang/Object")] 63

/-- java/lang/CharSequence -/
def k5 : Class := { plain "java/lang/CharSequence" (some 0) with
  accessFlags := 1537
  interfaces := #[]
  cf := some (fileOf pool5 2 #[.nestMembers #[47, 59]] #[] 1537 66 #[] #[])
  fields := #[]
  methods := #[]
  instanceTypes := #[]
  staticTypes := #[]
  resolved := Array.replicate 131 none
  statics := none }

def pool6 : Array CpInfo := pool [(1, .class_ 2), (0, u "java/lang/constant/Constable"), (0, .class_ 4), (0, u "java/lang/Object")] 6

/-- java/lang/constant/Constable -/
def k6 : Class := { plain "java/lang/constant/Constable" (some 0) with
  accessFlags := 1537
  interfaces := #[]
  cf := some (fileOf pool6 1 #[] #[] 1537 3 #[] #[])
  fields := #[]
  methods := #[]
  instanceTypes := #[]
  staticTypes := #[]
  resolved := Array.replicate 11 none
  statics := none }

def pool7 : Array CpInfo := pool [(1, .class_ 2), (0, u "java/lang/constant/ConstantDesc"), (0, .class_ 4), (0, u "java/lang/Object")] 32

/-- java/lang/constant/ConstantDesc -/
def k7 : Class := { plain "java/lang/constant/ConstantDesc" (some 0) with
  accessFlags := 1537
  interfaces := #[]
  cf := some (fileOf pool7 1 #[] #[] 1537 3 #[] #[])
  fields := #[]
  methods := #[]
  instanceTypes := #[]
  staticTypes := #[]
  resolved := Array.replicate 37 none
  statics := none }

def pool8 : Array CpInfo := pool [(1, .methodref 2 3), (0, .class_ 4), (0, .nameAndType 5 6), (0, u "java/lang/Object"), (0, u "<init>"), (0, u "()V"), (0, .string 8), (0, u ""), (0, .fieldref 10 11), (0, .class_ 12), (0, .nameAndType 13 14), (0, u "java/lang/String"), (0, u "value"), (0, u "[B"), (0, .fieldref 10 16), (0, .nameAndType 17 18), (0, u "coder"), (0, u "B"), (2, u "hash"), (0, u "I"), (2, u "hashIsZero"), (0, u "Z"), (0, .methodref 10 28), (0, .nameAndType 5 29), (0, u "([CIILjava/lang/Void;)V"), (8, .fieldref 10 39), (0, .nameAndType 40 26), (0, u "COMPACT_STRINGS"), (1, .class_ 44), (1, u "java/lang/StringUTF16"), (0, u "compress"), (1, .methodref 42 48), (0, .nameAndType 49 50), (0, u "coderFromArrayLen"), (0, u "([BI)B"), (56, .class_ 109), (1, u "java/lang/StringLatin1"), (32, u "()Z"), (34, .methodref 42 178), (0, .nameAndType 45 179), (0, u "([CII)[B"), (154, u "()I"), (0, .methodref 10 336), (0, .nameAndType 17 337), (0, u "()B"), (25, u "([BI)C"), (27, u "(II)V"), (35, u "(I)C"), (64, .methodref 10 493), (0, .nameAndType 494 142), (0, u "isLatin1"), (0, .methodref 107 496), (0, .nameAndType 497 363), (0, u "charAt"), (0, .methodref 42 496), (2, u "checkIndex"), (3, .methodref 10 506), (0, .nameAndType 507 334), (0, u "length"), (5, u "checkFromToIndex"), (9, u "checkBoundsBeginEnd"), (0, u "(III)V"), (50, .class_ 576), (0, u "java/lang/CharSequence"), (22, u "CASE_INSENSITIVE_ORDER"), (0, u "Ljava/util/Comparator;"), (34, u "indexOf"), (0, u "(II)I"), (0, .methodref 107 638), (0, .nameAndType 635 639), (0, u "([BIII)I"), (0, .methodref 42 638), (369, u "([C)V"), (42, .fieldref 1054 1055), (0, .class_ 1056), (0, .nameAndType 1057 1058), (0, u "jdk/internal/util/Preconditions"), (0, u "SIOOBE_FORMATTER"), (0, u "Ljava/util/function/BiFunction;"), (0, .methodref 1054 1060), (0, .nameAndType 501 1061), (0, u "(IILjava/util/function/BiFunction;)I"), (0, .methodref 1054 1063), (0, .nameAndType 513 1064), (0, u "(IIILjava/util/function/BiFunction;)I"), (36, u "serialPersistentFields"), (0, u "[Ljava/io/ObjectStreamField;"), (0, .class_ 1104), (0, u "java/lang/String$CaseInsensitiveComparator"), (1, .class_ 1107), (0, u "java/io/Serializable"), (0, .class_ 1109), (0, u "java/lang/Comparable"), (0, .class_ 1111), (0, u "java/lang/constant/Constable"), (0, .class_ 1113), (0, u "java/lang/constant/ConstantDesc"), (2, u "serialVersionUID"), (0, u "J"), (3, u "REPL"), (0, u "C"), (2, u "LATIN1"), (1, u "UTF16")] 323

def k8m0 : Method := { name := "<init>", desc := "()V", sig := { parameters := [], returnType := none }, accessFlags := 1, code := none }
def k8c1 : Code := { maxStack := 5, maxLocals := 2, code := jdk_42_method_3_code, exceptionTable := #[], attributes := #[] }
def k8m1 : Method := { name := "<init>", desc := "([C)V", sig := { parameters := [(.array .char)], returnType := none }, accessFlags := 1, code := some k8c1 }
def k8c2 : Code := { maxStack := 2, maxLocals := 1, code := jdk_42_method_54_code, exceptionTable := #[], attributes := #[] }
def k8m2 : Method := { name := "length", desc := "()I", sig := { parameters := [], returnType := some .int }, accessFlags := 1, code := some k8c2 }
def k8c3 : Code := { maxStack := 2, maxLocals := 2, code := jdk_42_method_56_code, exceptionTable := #[], attributes := #[] }
def k8m3 : Method := { name := "charAt", desc := "(I)C", sig := { parameters := [.int], returnType := some .char }, accessFlags := 1, code := some k8c3 }
def k8c4 : Code := { maxStack := 4, maxLocals := 3, code := jdk_42_method_80_code, exceptionTable := #[], attributes := #[] }
def k8m4 : Method := { name := "indexOf", desc := "(II)I", sig := { parameters := [.int, .int], returnType := some .int }, accessFlags := 1, code := some k8c4 }
def k8c5 : Code := { maxStack := 4, maxLocals := 6, code := jdk_42_method_149_code, exceptionTable := #[], attributes := #[] }
def k8m5 : Method := { name := "<init>", desc := "([CIILjava/lang/Void;)V", sig := { parameters := [(.array .char), .int, .int, (.object "java/lang/Void")], returnType := none }, accessFlags := 2, code := some k8c5 }
def k8c6 : Code := { maxStack := 1, maxLocals := 1, code := jdk_42_method_152_code, exceptionTable := #[], attributes := #[] }
def k8m6 : Method := { name := "coder", desc := "()B", sig := { parameters := [], returnType := some .byte }, accessFlags := 0, code := some k8c6 }
def k8c7 : Code := { maxStack := 1, maxLocals := 1, code := jdk_42_method_154_code, exceptionTable := #[], attributes := #[] }
def k8m7 : Method := { name := "isLatin1", desc := "()Z", sig := { parameters := [], returnType := some .boolean }, accessFlags := 0, code := some k8c7 }
def k8c8 : Code := { maxStack := 3, maxLocals := 2, code := jdk_42_method_155_code, exceptionTable := #[], attributes := #[] }
def k8m8 : Method := { name := "checkIndex", desc := "(II)V", sig := { parameters := [.int, .int], returnType := none }, accessFlags := 8, code := some k8c8 }
def k8c9 : Code := { maxStack := 4, maxLocals := 3, code := jdk_42_method_158_code, exceptionTable := #[], attributes := #[] }
def k8m9 : Method := { name := "checkBoundsBeginEnd", desc := "(III)V", sig := { parameters := [.int, .int, .int], returnType := none }, accessFlags := 8, code := some k8c9 }
/-- java/lang/String -/
def k8 : Class := { plain "java/lang/String" (some 0) with
  accessFlags := 49
  interfaces := #[3, 4, 5, 6, 7]
  cf := some (fileOf pool8 10 #[.nestMembers #[1103]] #[{ accessFlags := 1, nameIndex := 5, descriptorIndex := 6, attributes := #[] }, { accessFlags := 1, nameIndex := 5, descriptorIndex := 1010, attributes := #[] }, { accessFlags := 1, nameIndex := 507, descriptorIndex := 334, attributes := #[] }, { accessFlags := 1, nameIndex := 497, descriptorIndex := 427, attributes := #[] }, { accessFlags := 1, nameIndex := 635, descriptorIndex := 636, attributes := #[] }, { accessFlags := 2, nameIndex := 5, descriptorIndex := 29, attributes := #[] }, { accessFlags := 0, nameIndex := 17, descriptorIndex := 337, attributes := #[] }, { accessFlags := 0, nameIndex := 494, descriptorIndex := 142, attributes := #[] }, { accessFlags := 8, nameIndex := 501, descriptorIndex := 391, attributes := #[] }, { accessFlags := 8, nameIndex := 523, descriptorIndex := 524, attributes := #[] }] 49 2 #[1106, 1108, 575, 1110, 1112] #[{ accessFlags := 18, nameIndex := 13, descriptorIndex := 14, attributes := #[] }, { accessFlags := 18, nameIndex := 17, descriptorIndex := 18, attributes := #[] }, { accessFlags := 2, nameIndex := 21, descriptorIndex := 22, attributes := #[] }, { accessFlags := 2, nameIndex := 25, descriptorIndex := 26, attributes := #[] }, { accessFlags := 26, nameIndex := 1116, descriptorIndex := 1117, attributes := #[] }, { accessFlags := 24, nameIndex := 40, descriptorIndex := 26, attributes := #[] }, { accessFlags := 26, nameIndex := 1101, descriptorIndex := 1102, attributes := #[] }, { accessFlags := 26, nameIndex := 1121, descriptorIndex := 1122, attributes := #[] }, { accessFlags := 25, nameIndex := 599, descriptorIndex := 600, attributes := #[] }, { accessFlags := 24, nameIndex := 1125, descriptorIndex := 18, attributes := #[] }, { accessFlags := 24, nameIndex := 1127, descriptorIndex := 18, attributes := #[] }])
  fields := #[{ name := "value", type := (.array .byte), accessFlags := 18, slot := 0, constantValue := 0 }, { name := "coder", type := .byte, accessFlags := 18, slot := 1, constantValue := 0 }, { name := "hash", type := .int, accessFlags := 2, slot := 2, constantValue := 0 }, { name := "hashIsZero", type := .boolean, accessFlags := 2, slot := 3, constantValue := 0 }, { name := "serialVersionUID", type := .long, accessFlags := 26, slot := 0, constantValue := 0 }, { name := "COMPACT_STRINGS", type := .boolean, accessFlags := 24, slot := 1, constantValue := 0 }, { name := "serialPersistentFields", type := (.array (.object "java/io/ObjectStreamField")), accessFlags := 26, slot := 2, constantValue := 0 }, { name := "REPL", type := .char, accessFlags := 26, slot := 3, constantValue := 0 }, { name := "CASE_INSENSITIVE_ORDER", type := (.object "java/util/Comparator"), accessFlags := 25, slot := 4, constantValue := 0 }, { name := "LATIN1", type := .byte, accessFlags := 24, slot := 5, constantValue := 0 }, { name := "UTF16", type := .byte, accessFlags := 24, slot := 6, constantValue := 0 }]
  methods := #[k8m0, k8m1, k8m2, k8m3, k8m4, k8m5, k8m6, k8m7, k8m8, k8m9]
  instanceTypes := #[(.array .byte), .byte, .int, .boolean]
  staticTypes := #[.long, .boolean, (.array (.object "java/io/ObjectStreamField")), .char, (.object "java/util/Comparator"), .byte, .byte]
  resolved := Array.replicate 1451 none
  statics := some 0 }

def pool9 : Array CpInfo := pool [(1, .class_ 2), (0, u "java/lang/String"), (1, .class_ 6), (1, u "java/lang/Object"), (0, u "<init>"), (0, u "()V"), (0, .methodref 1 10), (0, .nameAndType 11 12), (0, u "checkIndex"), (0, u "(II)V"), (1, .class_ 16), (1, u "java/lang/StringLatin1"), (21, .methodref 39 40), (0, .class_ 41), (0, .nameAndType 42 43), (0, u "java/lang/Math"), (0, u "min"), (0, u "(II)I"), (9, u "([BI)C"), (34, .methodref 14 89), (0, .nameAndType 90 91), (0, u "canEncode"), (0, u "(I)Z"), (0, .methodref 39 93), (0, .nameAndType 94 43), (0, u "max"), (0, .methodref 14 96), (0, .nameAndType 97 98), (0, u "indexOfChar"), (0, u "([BIII)I"), (2, u "indexOf"), (19, u "$assertionsDisabled"), (0, u "Z"), (98, .class_ 223), (1, u "java/lang/StringLatin1$LinesSpliterator"), (28, u "charAt"), (137, .class_ 391), (0, u "java/lang/StringLatin1$CharsSpliterator")] 3

def k9m0 : Method := { name := "<init>", desc := "()V", sig := { parameters := [], returnType := none }, accessFlags := 0, code := none }
def k9c1 : Code := { maxStack := 2, maxLocals := 2, code := jdk_43_method_2_code, exceptionTable := #[], attributes := #[] }
def k9m1 : Method := { name := "charAt", desc := "([BI)C", sig := { parameters := [(.array .byte), .int], returnType := some .char }, accessFlags := 9, code := some k9c1 }
def k9c2 : Code := { maxStack := 2, maxLocals := 1, code := jdk_43_method_4_code, exceptionTable := #[], attributes := #[] }
def k9m2 : Method := { name := "canEncode", desc := "(I)Z", sig := { parameters := [.int], returnType := some .boolean }, accessFlags := 9, code := some k9c2 }
def k9c3 : Code := { maxStack := 4, maxLocals := 4, code := jdk_43_method_22_code, exceptionTable := #[], attributes := #[] }
def k9m3 : Method := { name := "indexOf", desc := "([BIII)I", sig := { parameters := [(.array .byte), .int, .int, .int], returnType := some .int }, accessFlags := 9, code := some k9c3 }
def k9c4 : Code := { maxStack := 2, maxLocals := 6, code := jdk_43_method_23_code, exceptionTable := #[], attributes := #[] }
def k9m4 : Method := { name := "indexOfChar", desc := "([BIII)I", sig := { parameters := [(.array .byte), .int, .int, .int], returnType := some .int }, accessFlags := 10, code := some k9c4 }
/-- java/lang/StringLatin1 -/
def k9 : Class := { plain "java/lang/StringLatin1" (some 0) with
  accessFlags := 48
  interfaces := #[]
  cf := some (fileOf pool9 14 #[.nestMembers #[390, 221]] #[{ accessFlags := 0, nameIndex := 7, descriptorIndex := 8, attributes := #[] }, { accessFlags := 9, nameIndex := 252, descriptorIndex := 53, attributes := #[] }, { accessFlags := 9, nameIndex := 90, descriptorIndex := 91, attributes := #[] }, { accessFlags := 9, nameIndex := 101, descriptorIndex := 98, attributes := #[] }, { accessFlags := 10, nameIndex := 97, descriptorIndex := 98, attributes := #[] }] 48 4 #[] #[{ accessFlags := 4120, nameIndex := 121, descriptorIndex := 122, attributes := #[] }])
  fields := #[{ name := "$assertionsDisabled", type := .boolean, accessFlags := 4120, slot := 0, constantValue := 0 }]
  methods := #[k9m0, k9m1, k9m2, k9m3, k9m4]
  instanceTypes := #[]
  staticTypes := #[.boolean]
  resolved := Array.replicate 395 none
  statics := none }

def pool10 : Array CpInfo := pool [(1, .class_ 2), (0, u "java/lang/Math"), (1, .class_ 6), (1, u "java/lang/Object"), (0, u "<init>"), (0, u "()V"), (89, .class_ 100), (1, u "java/lang/Math$RandomNumberGeneratorHolder"), (71, u "negativeZeroFloatBits"), (0, u "J"), (2, u "negativeZeroDoubleBits"), (21, u "max"), (2, u "min"), (43, u "$assertionsDisabled"), (0, u "Z"), (88, u "(II)I"), (2, u "twoToTheDoubleScaleDown"), (0, u "D"), (4, u "twoToTheDoubleScaleUp"), (9, u "E"), (3, u "PI"), (2, u "TAU"), (2, u "DEGREES_TO_RADIANS"), (0, u "RADIANS_TO_DEGREES")] 94

def k10m0 : Method := { name := "<init>", desc := "()V", sig := { parameters := [], returnType := none }, accessFlags := 2, code := none }
def k10c1 : Code := { maxStack := 2, maxLocals := 2, code := jdk_29_method_65_code, exceptionTable := #[], attributes := #[] }
def k10m1 : Method := { name := "max", desc := "(II)I", sig := { parameters := [.int, .int], returnType := some .int }, accessFlags := 9, code := some k10c1 }
def k10c2 : Code := { maxStack := 2, maxLocals := 2, code := jdk_29_method_69_code, exceptionTable := #[], attributes := #[] }
def k10m2 : Method := { name := "min", desc := "(II)I", sig := { parameters := [.int, .int], returnType := some .int }, accessFlags := 9, code := some k10c2 }
/-- java/lang/Math -/
def k10 : Class := { plain "java/lang/Math" (some 0) with
  accessFlags := 49
  interfaces := #[]
  cf := some (fileOf pool10 1 #[.nestMembers #[98]] #[{ accessFlags := 2, nameIndex := 7, descriptorIndex := 8, attributes := #[] }, { accessFlags := 9, nameIndex := 198, descriptorIndex := 335, attributes := #[] }, { accessFlags := 9, nameIndex := 201, descriptorIndex := 335, attributes := #[] }] 49 4 #[] #[{ accessFlags := 25, nameIndex := 354, descriptorIndex := 339, attributes := #[] }, { accessFlags := 25, nameIndex := 358, descriptorIndex := 339, attributes := #[] }, { accessFlags := 25, nameIndex := 361, descriptorIndex := 339, attributes := #[] }, { accessFlags := 26, nameIndex := 364, descriptorIndex := 339, attributes := #[] }, { accessFlags := 26, nameIndex := 365, descriptorIndex := 339, attributes := #[] }, { accessFlags := 26, nameIndex := 172, descriptorIndex := 173, attributes := #[] }, { accessFlags := 26, nameIndex := 176, descriptorIndex := 173, attributes := #[] }, { accessFlags := 8, nameIndex := 344, descriptorIndex := 339, attributes := #[] }, { accessFlags := 8, nameIndex := 338, descriptorIndex := 339, attributes := #[] }, { accessFlags := 4120, nameIndex := 245, descriptorIndex := 246, attributes := #[] }])
  fields := #[{ name := "E", type := .double, accessFlags := 25, slot := 0, constantValue := 0 }, { name := "PI", type := .double, accessFlags := 25, slot := 1, constantValue := 0 }, { name := "TAU", type := .double, accessFlags := 25, slot := 2, constantValue := 0 }, { name := "DEGREES_TO_RADIANS", type := .double, accessFlags := 26, slot := 3, constantValue := 0 }, { name := "RADIANS_TO_DEGREES", type := .double, accessFlags := 26, slot := 4, constantValue := 0 }, { name := "negativeZeroFloatBits", type := .long, accessFlags := 26, slot := 5, constantValue := 0 }, { name := "negativeZeroDoubleBits", type := .long, accessFlags := 26, slot := 6, constantValue := 0 }, { name := "twoToTheDoubleScaleUp", type := .double, accessFlags := 8, slot := 7, constantValue := 0 }, { name := "twoToTheDoubleScaleDown", type := .double, accessFlags := 8, slot := 8, constantValue := 0 }, { name := "$assertionsDisabled", type := .boolean, accessFlags := 4120, slot := 9, constantValue := 0 }]
  methods := #[k10m0, k10m1, k10m2]
  instanceTypes := #[]
  staticTypes := #[.double, .double, .double, .double, .double, .long, .long, .double, .double, .boolean]
  resolved := Array.replicate 460 none
  statics := none }

def pool11 : Array CpInfo := pool [(3, .class_ 4), (0, u "java/lang/String"), (1, .class_ 8), (1, u "java/lang/Object"), (0, u "<init>"), (0, u "()V"), (0, .methodref 12 13), (0, .class_ 14), (0, .nameAndType 15 16), (0, u "java/lang/StringUTF16"), (0, u "newBytesLength"), (0, u "(I)I"), (3, .integer 1073741823), (23, .fieldref 12 45), (0, .nameAndType 46 47), (0, u "$assertionsDisabled"), (0, u "Z"), (0, .methodref 12 49), (0, .nameAndType 50 51), (0, u "length"), (0, u "([B)I"), (7, .fieldref 12 60), (0, .nameAndType 61 62), (0, u "HI_BYTE_SHIFT"), (0, u "I"), (0, .fieldref 12 64), (0, .nameAndType 65 62), (0, u "LO_BYTE_SHIFT"), (1, .methodref 12 68), (0, .nameAndType 69 70), (0, u "checkIndex"), (0, u "(I[B)V"), (0, .methodref 12 72), (0, .nameAndType 73 74), (0, u "getChar"), (0, u "([BI)C"), (21, .methodref 12 97), (0, .nameAndType 98 99), (0, u "checkBoundsBeginEnd"), (0, u "(II[B)V"), (7, .methodref 12 108), (0, .nameAndType 109 110), (0, u "newBytesFor"), (0, u "(I)[B"), (0, .methodref 12 112), (0, .nameAndType 113 114), (0, u "putChar"), (0, u "([BII)V"), (0, .methodref 12 116), (0, .nameAndType 117 118), (0, u "compress"), (0, u "([CI[BII)I"), (0, .methodref 12 120), (0, .nameAndType 121 122), (0, u "toBytes"), (0, u "([CII)[B"), (60, .methodref 184 185), (0, .class_ 186), (0, .nameAndType 187 188), (0, u "java/lang/Math"), (0, u "min"), (0, u "(II)I"), (35, .methodref 184 225), (0, .nameAndType 226 188), (0, u "max"), (0, .integer 65536), (0, .methodref 12 229), (0, .nameAndType 230 231), (0, u "indexOfChar"), (0, u "([BIII)I"), (9, .methodref 3 242), (0, .nameAndType 98 243), (0, u "(III)V"), (0, .methodref 12 245), (0, .nameAndType 246 231), (0, u "indexOfCharUnsafe"), (14, u "coderFromArrayLen"), (0, u "([BI)B"), (5, u "indexOf"), (100, .class_ 371), (1, u "java/lang/StringUTF16$LinesSpliterator"), (20, u "charAt"), (21, .methodref 3 415), (0, .nameAndType 69 416), (0, u "(II)V"), (13, u "MAX_LENGTH"), (196, .class_ 628), (0, u "java/lang/StringUTF16$CodePointsSpliterator"), (0, .class_ 630), (0, u "java/lang/StringUTF16$CharsSpliterator")] 4

def k11m0 : Method := { name := "<init>", desc := "()V", sig := { parameters := [], returnType := none }, accessFlags := 0, code := none }
def k11c1 : Code := { maxStack := 1, maxLocals := 1, code := jdk_52_method_2_code, exceptionTable := #[], attributes := #[] }
def k11m1 : Method := { name := "newBytesFor", desc := "(I)[B", sig := { parameters := [.int], returnType := some (.array .byte) }, accessFlags := 9, code := some k11c1 }
def k11c2 : Code := { maxStack := 4, maxLocals := 1, code := jdk_52_method_3_code, exceptionTable := #[], attributes := #[] }
def k11m2 : Method := { name := "newBytesLength", desc := "(I)I", sig := { parameters := [.int], returnType := some .int }, accessFlags := 9, code := some k11c2 }
def k11c3 : Code := { maxStack := 4, maxLocals := 3, code := jdk_52_method_4_code, exceptionTable := #[], attributes := #[] }
def k11m3 : Method := { name := "putChar", desc := "([BII)V", sig := { parameters := [(.array .byte), .int, .int], returnType := none }, accessFlags := 8, code := some k11c3 }
def k11c4 : Code := { maxStack := 3, maxLocals := 2, code := jdk_52_method_5_code, exceptionTable := #[], attributes := #[] }
def k11m4 : Method := { name := "getChar", desc := "([BI)C", sig := { parameters := [(.array .byte), .int], returnType := some .char }, accessFlags := 8, code := some k11c4 }
def k11c5 : Code := { maxStack := 2, maxLocals := 1, code := jdk_52_method_6_code, exceptionTable := #[], attributes := #[] }
def k11m5 : Method := { name := "length", desc := "([B)I", sig := { parameters := [(.array .byte)], returnType := some .int }, accessFlags := 9, code := some k11c5 }
def k11c6 : Code := { maxStack := 4, maxLocals := 5, code := jdk_52_method_14_code, exceptionTable := #[], attributes := #[] }
def k11m6 : Method := { name := "toBytes", desc := "([CII)[B", sig := { parameters := [(.array .char), .int, .int], returnType := some (.array .byte) }, accessFlags := 9, code := some k11c6 }
def k11c7 : Code := { maxStack := 2, maxLocals := 2, code := jdk_52_method_15_code, exceptionTable := #[], attributes := #[] }
def k11m7 : Method := { name := "coderFromArrayLen", desc := "([BI)B", sig := { parameters := [(.array .byte), .int], returnType := some .byte }, accessFlags := 8, code := some k11c7 }
def k11c8 : Code := { maxStack := 5, maxLocals := 6, code := jdk_52_method_16_code, exceptionTable := #[], attributes := #[] }
def k11m8 : Method := { name := "compress", desc := "([CII)[B", sig := { parameters := [(.array .char), .int, .int], returnType := some (.array .byte) }, accessFlags := 9, code := some k11c8 }
def k11c9 : Code := { maxStack := 3, maxLocals := 7, code := jdk_52_method_21_code, exceptionTable := #[], attributes := #[] }
def k11m9 : Method := { name := "compress", desc := "([CI[BII)I", sig := { parameters := [(.array .char), .int, (.array .byte), .int, .int], returnType := some .int }, accessFlags := 9, code := some k11c9 }
def k11c10 : Code := { maxStack := 4, maxLocals := 4, code := jdk_52_method_40_code, exceptionTable := #[], attributes := #[] }
def k11m10 : Method := { name := "indexOf", desc := "([BIII)I", sig := { parameters := [(.array .byte), .int, .int, .int], returnType := some .int }, accessFlags := 9, code := some k11c10 }
def k11c11 : Code := { maxStack := 4, maxLocals := 4, code := jdk_52_method_47_code, exceptionTable := #[], attributes := #[] }
def k11m11 : Method := { name := "indexOfChar", desc := "([BIII)I", sig := { parameters := [(.array .byte), .int, .int, .int], returnType := some .int }, accessFlags := 10, code := some k11c11 }
def k11c12 : Code := { maxStack := 2, maxLocals := 5, code := jdk_52_method_48_code, exceptionTable := #[], attributes := #[] }
def k11m12 : Method := { name := "indexOfCharUnsafe", desc := "([BIII)I", sig := { parameters := [(.array .byte), .int, .int, .int], returnType := some .int }, accessFlags := 10, code := some k11c12 }
def k11c13 : Code := { maxStack := 2, maxLocals := 2, code := jdk_52_method_83_code, exceptionTable := #[], attributes := #[] }
def k11m13 : Method := { name := "charAt", desc := "([BI)C", sig := { parameters := [(.array .byte), .int], returnType := some .char }, accessFlags := 9, code := some k11c13 }
def k11c14 : Code := { maxStack := 2, maxLocals := 2, code := jdk_52_method_91_code, exceptionTable := #[], attributes := #[] }
def k11m14 : Method := { name := "checkIndex", desc := "(I[B)V", sig := { parameters := [.int, (.array .byte)], returnType := none }, accessFlags := 9, code := some k11c14 }
def k11c15 : Code := { maxStack := 3, maxLocals := 3, code := jdk_52_method_93_code, exceptionTable := #[], attributes := #[] }
def k11m15 : Method := { name := "checkBoundsBeginEnd", desc := "(II[B)V", sig := { parameters := [.int, .int, (.array .byte)], returnType := none }, accessFlags := 9, code := some k11c15 }
/-- java/lang/StringUTF16 -/
def k11 : Class := { plain "java/lang/StringUTF16" (some 0) with
  accessFlags := 48
  interfaces := #[]
  cf := some (fileOf pool11 12 #[.nestMembers #[627, 629, 369]] #[{ accessFlags := 0, nameIndex := 9, descriptorIndex := 10, attributes := #[] }, { accessFlags := 9, nameIndex := 109, descriptorIndex := 110, attributes := #[] }, { accessFlags := 9, nameIndex := 15, descriptorIndex := 16, attributes := #[] }, { accessFlags := 8, nameIndex := 113, descriptorIndex := 114, attributes := #[] }, { accessFlags := 8, nameIndex := 73, descriptorIndex := 74, attributes := #[] }, { accessFlags := 9, nameIndex := 50, descriptorIndex := 51, attributes := #[] }, { accessFlags := 9, nameIndex := 121, descriptorIndex := 122, attributes := #[] }, { accessFlags := 8, nameIndex := 261, descriptorIndex := 262, attributes := #[] }, { accessFlags := 9, nameIndex := 117, descriptorIndex := 122, attributes := #[] }, { accessFlags := 9, nameIndex := 117, descriptorIndex := 118, attributes := #[] }, { accessFlags := 9, nameIndex := 268, descriptorIndex := 231, attributes := #[] }, { accessFlags := 10, nameIndex := 230, descriptorIndex := 231, attributes := #[] }, { accessFlags := 10, nameIndex := 246, descriptorIndex := 231, attributes := #[] }, { accessFlags := 9, nameIndex := 392, descriptorIndex := 74, attributes := #[] }, { accessFlags := 9, nameIndex := 69, descriptorIndex := 70, attributes := #[] }, { accessFlags := 9, nameIndex := 98, descriptorIndex := 99, attributes := #[] }] 48 6 #[] #[{ accessFlags := 26, nameIndex := 61, descriptorIndex := 62, attributes := #[] }, { accessFlags := 26, nameIndex := 65, descriptorIndex := 62, attributes := #[] }, { accessFlags := 24, nameIndex := 430, descriptorIndex := 62, attributes := #[] }, { accessFlags := 4120, nameIndex := 46, descriptorIndex := 47, attributes := #[] }])
  fields := #[{ name := "HI_BYTE_SHIFT", type := .int, accessFlags := 26, slot := 0, constantValue := 0 }, { name := "LO_BYTE_SHIFT", type := .int, accessFlags := 26, slot := 1, constantValue := 0 }, { name := "MAX_LENGTH", type := .int, accessFlags := 24, slot := 2, constantValue := 0 }, { name := "$assertionsDisabled", type := .boolean, accessFlags := 4120, slot := 3, constantValue := 0 }]
  methods := #[k11m0, k11m1, k11m2, k11m3, k11m4, k11m5, k11m6, k11m7, k11m8, k11m9, k11m10, k11m11, k11m12, k11m13, k11m14, k11m15]
  instanceTypes := #[]
  staticTypes := #[.int, .int, .int, .boolean]
  resolved := Array.replicate 635 none
  statics := some 1 }

def pool12 : Array CpInfo := pool [(2, .class_ 4), (1, u "java/lang/Object"), (0, u "<init>"), (0, u "()V"), (17, .class_ 26), (1, u "jdk/internal/util/Preconditions"), (6, u "checkIndex"), (13, u "checkFromToIndex"), (7, .class_ 56), (0, u "jdk/internal/util/Preconditions$4"), (57, .class_ 115), (0, u "jdk/internal/util/Preconditions$1"), (7, u "SIOOBE_FORMATTER"), (0, u "Ljava/util/function/BiFunction;"), (0, .class_ 126), (0, u "jdk/internal/util/Preconditions$2"), (3, u "AIOOBE_FORMATTER"), (0, .class_ 132), (0, u "jdk/internal/util/Preconditions$3"), (3, u "IOOBE_FORMATTER"), (41, u "(IILjava/util/function/BiFunction;)I"), (4, u "(IIILjava/util/function/BiFunction;)I")] 10

def k12m0 : Method := { name := "<init>", desc := "()V", sig := { parameters := [], returnType := none }, accessFlags := 1, code := none }
def k12c1 : Code := { maxStack := 3, maxLocals := 3, code := jdk_41_method_11_code, exceptionTable := #[], attributes := #[] }
def k12m1 : Method := { name := "checkIndex", desc := "(IILjava/util/function/BiFunction;)I", sig := { parameters := [.int, .int, (.object "java/util/function/BiFunction")], returnType := some .int }, accessFlags := 9, code := some k12c1 }
def k12c2 : Code := { maxStack := 4, maxLocals := 4, code := jdk_41_method_12_code, exceptionTable := #[], attributes := #[] }
def k12m2 : Method := { name := "checkFromToIndex", desc := "(IIILjava/util/function/BiFunction;)I", sig := { parameters := [.int, .int, .int, (.object "java/util/function/BiFunction")], returnType := some .int }, accessFlags := 9, code := some k12c2 }
/-- jdk/internal/util/Preconditions -/
def k12 : Class := { plain "jdk/internal/util/Preconditions" (some 0) with
  accessFlags := 33
  interfaces := #[]
  cf := some (fileOf pool12 24 #[.nestMembers #[55, 131, 125, 114]] #[{ accessFlags := 1, nameIndex := 5, descriptorIndex := 6, attributes := #[] }, { accessFlags := 9, nameIndex := 33, descriptorIndex := 178, attributes := #[] }, { accessFlags := 9, nameIndex := 47, descriptorIndex := 183, attributes := #[] }] 33 2 #[] #[{ accessFlags := 25, nameIndex := 123, descriptorIndex := 124, attributes := #[] }, { accessFlags := 25, nameIndex := 130, descriptorIndex := 124, attributes := #[] }, { accessFlags := 25, nameIndex := 136, descriptorIndex := 124, attributes := #[] }])
  fields := #[{ name := "SIOOBE_FORMATTER", type := (.object "java/util/function/BiFunction"), accessFlags := 25, slot := 0, constantValue := 0 }, { name := "AIOOBE_FORMATTER", type := (.object "java/util/function/BiFunction"), accessFlags := 25, slot := 1, constantValue := 0 }, { name := "IOOBE_FORMATTER", type := (.object "java/util/function/BiFunction"), accessFlags := 25, slot := 2, constantValue := 0 }]
  methods := #[k12m0, k12m1, k12m2]
  instanceTypes := #[]
  staticTypes := #[(.object "java/util/function/BiFunction"), (.object "java/util/function/BiFunction"), (.object "java/util/function/BiFunction")]
  resolved := Array.replicate 194 none
  statics := some 2 }

def pool13 : Array CpInfo := pool [(9, u "<init>"), (6, .class_ 18), (1, u "java/lang/Object"), (0, u "()V"), (1, .class_ 23), (1, u "jdk/internal/util/ArraysSupport"), (0, u "LOG2_ARRAY_LONG_INDEX_SCALE"), (0, u "I"), (2, u "U"), (0, u "Ljdk/internal/misc/Unsafe;"), (8, u "BIG_ENDIAN"), (0, u "Z"), (8, u "LOG2_BYTE_BIT_SIZE"), (4, u "LOG2_ARRAY_INT_INDEX_SCALE"), (54, u "JLA"), (0, u "Ljdk/internal/access/JavaLangAccess;"), (11, u "LOG2_ARRAY_BOOLEAN_INDEX_SCALE"), (9, u "LOG2_ARRAY_BYTE_INDEX_SCALE"), (5, u "LOG2_ARRAY_CHAR_INDEX_SCALE"), (5, u "LOG2_ARRAY_SHORT_INDEX_SCALE"), (18, u "LOG2_ARRAY_FLOAT_INDEX_SCALE"), (24, u "LOG2_ARRAY_DOUBLE_INDEX_SCALE"), (89, u "T_BOOLEAN"), (2, u "T_CHAR"), (1, u "T_FLOAT"), (1, u "T_DOUBLE"), (1, u "T_BYTE"), (1, u "T_SHORT"), (1, u "T_INT"), (1, u "T_LONG"), (1, u "SOFT_MAX_ARRAY_LENGTH")] 83

def k13m0 : Method := { name := "<init>", desc := "()V", sig := { parameters := [], returnType := none }, accessFlags := 2, code := none }
/-- jdk/internal/util/ArraysSupport -/
def k13 : Class := { plain "jdk/internal/util/ArraysSupport" (some 0) with
  accessFlags := 33
  interfaces := #[]
  cf := some (fileOf pool13 21 #[] #[{ accessFlags := 2, nameIndex := 9, descriptorIndex := 19, attributes := #[] }] 33 16 #[] #[{ accessFlags := 24, nameIndex := 28, descriptorIndex := 29, attributes := #[] }, { accessFlags := 26, nameIndex := 38, descriptorIndex := 39, attributes := #[] }, { accessFlags := 25, nameIndex := 121, descriptorIndex := 25, attributes := #[] }, { accessFlags := 25, nameIndex := 131, descriptorIndex := 25, attributes := #[] }, { accessFlags := 25, nameIndex := 137, descriptorIndex := 25, attributes := #[] }, { accessFlags := 25, nameIndex := 143, descriptorIndex := 25, attributes := #[] }, { accessFlags := 25, nameIndex := 53, descriptorIndex := 25, attributes := #[] }, { accessFlags := 25, nameIndex := 24, descriptorIndex := 25, attributes := #[] }, { accessFlags := 25, nameIndex := 162, descriptorIndex := 25, attributes := #[] }, { accessFlags := 25, nameIndex := 187, descriptorIndex := 25, attributes := #[] }, { accessFlags := 26, nameIndex := 48, descriptorIndex := 25, attributes := #[] }, { accessFlags := 25, nameIndex := 277, descriptorIndex := 25, attributes := #[] }, { accessFlags := 25, nameIndex := 280, descriptorIndex := 25, attributes := #[] }, { accessFlags := 25, nameIndex := 282, descriptorIndex := 25, attributes := #[] }, { accessFlags := 25, nameIndex := 284, descriptorIndex := 25, attributes := #[] }, { accessFlags := 25, nameIndex := 286, descriptorIndex := 25, attributes := #[] }, { accessFlags := 25, nameIndex := 288, descriptorIndex := 25, attributes := #[] }, { accessFlags := 25, nameIndex := 290, descriptorIndex := 25, attributes := #[] }, { accessFlags := 25, nameIndex := 292, descriptorIndex := 25, attributes := #[] }, { accessFlags := 26, nameIndex := 108, descriptorIndex := 109, attributes := #[] }, { accessFlags := 25, nameIndex := 294, descriptorIndex := 25, attributes := #[] }])
  fields := #[{ name := "U", type := (.object "jdk/internal/misc/Unsafe"), accessFlags := 24, slot := 0, constantValue := 0 }, { name := "BIG_ENDIAN", type := .boolean, accessFlags := 26, slot := 1, constantValue := 0 }, { name := "LOG2_ARRAY_BOOLEAN_INDEX_SCALE", type := .int, accessFlags := 25, slot := 2, constantValue := 0 }, { name := "LOG2_ARRAY_BYTE_INDEX_SCALE", type := .int, accessFlags := 25, slot := 3, constantValue := 0 }, { name := "LOG2_ARRAY_CHAR_INDEX_SCALE", type := .int, accessFlags := 25, slot := 4, constantValue := 0 }, { name := "LOG2_ARRAY_SHORT_INDEX_SCALE", type := .int, accessFlags := 25, slot := 5, constantValue := 0 }, { name := "LOG2_ARRAY_INT_INDEX_SCALE", type := .int, accessFlags := 25, slot := 6, constantValue := 0 }, { name := "LOG2_ARRAY_LONG_INDEX_SCALE", type := .int, accessFlags := 25, slot := 7, constantValue := 0 }, { name := "LOG2_ARRAY_FLOAT_INDEX_SCALE", type := .int, accessFlags := 25, slot := 8, constantValue := 0 }, { name := "LOG2_ARRAY_DOUBLE_INDEX_SCALE", type := .int, accessFlags := 25, slot := 9, constantValue := 0 }, { name := "LOG2_BYTE_BIT_SIZE", type := .int, accessFlags := 26, slot := 10, constantValue := 0 }, { name := "T_BOOLEAN", type := .int, accessFlags := 25, slot := 11, constantValue := 0 }, { name := "T_CHAR", type := .int, accessFlags := 25, slot := 12, constantValue := 0 }, { name := "T_FLOAT", type := .int, accessFlags := 25, slot := 13, constantValue := 0 }, { name := "T_DOUBLE", type := .int, accessFlags := 25, slot := 14, constantValue := 0 }, { name := "T_BYTE", type := .int, accessFlags := 25, slot := 15, constantValue := 0 }, { name := "T_SHORT", type := .int, accessFlags := 25, slot := 16, constantValue := 0 }, { name := "T_INT", type := .int, accessFlags := 25, slot := 17, constantValue := 0 }, { name := "T_LONG", type := .int, accessFlags := 25, slot := 18, constantValue := 0 }, { name := "JLA", type := (.object "jdk/internal/access/JavaLangAccess"), accessFlags := 26, slot := 19, constantValue := 0 }, { name := "SOFT_MAX_ARRAY_LENGTH", type := .int, accessFlags := 25, slot := 20, constantValue := 0 }]
  methods := #[k13m0]
  instanceTypes := #[]
  staticTypes := #[(.object "jdk/internal/misc/Unsafe"), .boolean, .int, .int, .int, .int, .int, .int, .int, .int, .int, .int, .int, .int, .int, .int, .int, .int, .int, (.object "jdk/internal/access/JavaLangAccess"), .int]
  resolved := Array.replicate 378 none
  statics := none }

def pool14 : Array CpInfo := pool [(1, u "java/lang/Cloneable"), (0, .class_ 1), (0, u "java/lang/Object"), (0, .class_ 3)] 3

/-- java/lang/Cloneable -/
def k14 : Class := { plain "java/lang/Cloneable" (some 0) with
  accessFlags := 1537
  interfaces := #[]
  cf := some (fileOf pool14 2 #[] #[] 1537 4 #[] #[])
  fields := #[]
  methods := #[]
  instanceTypes := #[]
  staticTypes := #[]
  resolved := Array.replicate 8 none
  statics := none }

/-- the primitive byte -/
def k15 : Class := { plain "byte" none with kind := .primitive 'B', accessFlags := 0x411 }
/-- [B -/
def k16 : Class := { plain "[B" (some 0) with kind := .array 15 .byte, interfaces := #[14, 3], accessFlags := 1041 }

/-- the primitive char -/
def k17 : Class := { plain "char" none with kind := .primitive 'C', accessFlags := 0x411 }
/-- [C -/
def k18 : Class := { plain "[C" (some 0) with kind := .array 17 .char, interfaces := #[14, 3], accessFlags := 1041 }

/-- the primitive int -/
def k19 : Class := { plain "int" none with kind := .primitive 'I', accessFlags := 0x411 }
/-- [I -/
def k20 : Class := { plain "[I" (some 0) with kind := .array 19 .int, interfaces := #[14, 3], accessFlags := 1041 }

def heap : Heap := #[{ cls := 8, slots := #[.long 0, .int 1, .null, .int 0, .null, .int 0, .int 0], vm := .statics 8 },
  { cls := 11, slots := #[.int 0, .int 8, .int 0, .int 1], vm := .statics 11 },
  { cls := 12, slots := #[.null, .null, .null], vm := .statics 12 }]
def classes : Array Class := #[k0, k1, k2, k3, k4, k5, k6, k7, k8, k9, k10, k11, k12, k13, k14, k15, k16, k17, k18, k19, k20]
def interned : List (Array UInt16 × Addr) := []
def slotsUsed : Nat := 14
def theMethod : MethodId := ⟨1, 4⟩
def args0 : Array Value := #[.int 5, .int 5, .int 5, .int 5, .int 5]
def aboutOver (below : List Frame) : State where
  vm := { classes := classes, interned := interned.toArray }
  heap := heap
  slotsUsed := slotsUsed
  threads := #[{ frames := .invoking theMethod args0 :: below }]
def below0 : List Frame := [.native { method := ⟨0, 0⟩, args := #[] }]
def about1 : State := aboutOver below0
def p0 : Program := .bare "" "" ""
def e0 : Env := launch0.env 0 0 0
theorem w_frames : about1.frames = Frame.invoking theMethod args0 :: below0 := rfl
set_option maxRecDepth 65536 in
theorem w_args : argsFit about1.vm theMethod args0 = true := by decide +kernel
set_option maxRecDepth 65536 in
theorem w_heap : heapFits about1 = true := by decide +kernel
set_option maxRecDepth 65536 in
theorem w_runnable : about1.curStatus? = some .runnable := by decide +kernel
set_option maxRecDepth 65536 in
theorem w_alone : about1.alone = true := by decide +kernel
set_option maxRecDepth 65536 in
theorem w_named : about1.methodNamed? x = some theMethod := by decide +kernel
set_option maxRecDepth 65536 in
theorem w_hears : about1.hears theMethod below0 = true := by decide +kernel
set_option maxRecDepth 65536 in
theorem w_ripe : about1.ripe theMethod args0 below0 = true := by decide +kernel
theorem w_running : about1.status = .running := rfl
set_option maxRecDepth 65536 in
theorem w_room : about1.hasRoom e0.platform room_1 = true :=
  launch0.hasRoom_least _ room_1 (by decide +kernel) (by decide +kernel) (by decide +kernel) (by decide +kernel) (by decide +kernel) (by decide +kernel)
theorem allAtoms_all (ts : List Jvm.Cond) (a : Array Jvm.Value) (st : Jvm.State) : (allAtoms ts).before a st = ts.all (fun c => c.before a st) := by
  induction ts with
  | nil => rfl
  | cons c t ih =>
    show (Jvm.Cond.and c (allAtoms t)).before a st = _
    rw [Jvm.Cond.before_and, ih, List.all_cons]
def words1 : List Jvm.Cond := Jvm.Cond.code x code maxLocals ret :: tables_1
/-- a 'code' word, met by the world's own term for the bytes: nothing is compared byte by byte -/
theorem code_word {y : MethodName} {bytes : ByteArray} {mx : Nat} {rt : Option FieldType} {a : Array Value} {s : State} {m : MethodId} {meth : Method} {c : Code} (h1 : s.methodNamed? y = some m) (h2 : s.vm.method? m = some meth) (h3 : meth.code = some c) (h4 : c.code = bytes)
    (h5 : (c.maxLocals == mx && c.exceptionTable.isEmpty && decide (c.maxStack ≤ mostOperands) && decide (meth.sig.returnType = rt) && !meth.locks && decide (parseMethodDescriptor y.desc = some meth.sig)) = true) : (Jvm.Cond.code y bytes mx rt).before a s = true := by
  simp only [Bool.and_eq_true, beq_iff_eq, Bool.not_eq_true', decide_eq_true_eq] at h5
  obtain ⟨⟨⟨⟨⟨g1, g2⟩, g3⟩, g4⟩, g5⟩, g6⟩ := h5
  simp [Cond.before, Cond.holds, Cond.value, h1, h2, h3, h4, g1, g2, g3, g4, g5, g6]
def isCode : Jvm.Cond → Bool
  | .code _ _ _ _ => true
  | _ => false
theorem all_split {L : List Jvm.Cond} {P : Jvm.Cond → Bool} (h1 : L.all (fun c => isCode c || P c) = true) (h2 : ∀ c ∈ L.filter isCode, P c = true) : L.all P = true := by
  refine List.all_eq_true.mpr fun c hc => ?_
  have h := List.all_eq_true.mp h1 c hc
  rcases Bool.eq_false_or_eq_true (isCode c) with hi | hi
  · exact h2 c (List.mem_filter.mpr ⟨hc, hi⟩)
  · simpa [hi] using h
set_option maxRecDepth 65536 in
theorem w_c0 : (Jvm.Cond.code x code maxLocals ret).before args0 about1 = true := code_word (m := ⟨1, 4⟩) (meth := k1m4) (c := k1c4) (by decide +kernel) rfl rfl rfl (by decide +kernel)
set_option maxRecDepth 65536 in
theorem w_c1 : (Jvm.Cond.code ({ cls := "com/example/halyard/halyard/HeaderParserSkipWhitespacePinLaw", name := "ch", desc := "(I)C" } : Jvm.MethodName) method_2_code (2 : Nat) (Option.some Jvm.ClassFile.FieldType.char)).before args0 about1 = true := code_word (m := ⟨1, 1⟩) (meth := k1m1) (c := k1c1) (by decide +kernel) rfl rfl rfl (by decide +kernel)
set_option maxRecDepth 65536 in
theorem w_c2 : (Jvm.Cond.code ({ cls := "java/lang/String", name := "<init>", desc := "([C)V" } : Jvm.MethodName) jdk_42_method_3_code (2 : Nat) (Option.none : Option Jvm.ClassFile.FieldType)).before args0 about1 = true := code_word (m := ⟨8, 1⟩) (meth := k8m1) (c := k8c1) (by decide +kernel) rfl rfl rfl (by decide +kernel)
set_option maxRecDepth 65536 in
theorem w_c3 : (Jvm.Cond.code ({ cls := "java/lang/String", name := "<init>", desc := "([CIILjava/lang/Void;)V" } : Jvm.MethodName) jdk_42_method_149_code (6 : Nat) (Option.none : Option Jvm.ClassFile.FieldType)).before args0 about1 = true := code_word (m := ⟨8, 5⟩) (meth := k8m5) (c := k8c5) (by decide +kernel) rfl rfl rfl (by decide +kernel)
set_option maxRecDepth 65536 in
theorem w_c4 : (Jvm.Cond.code ({ cls := "java/lang/Object", name := "<init>", desc := "()V" } : Jvm.MethodName) object_method_1_code (1 : Nat) (Option.none : Option Jvm.ClassFile.FieldType)).before args0 about1 = true := code_word (m := ⟨0, 0⟩) (meth := k0m0) (c := k0c0) (by decide +kernel) rfl rfl rfl (by decide +kernel)
set_option maxRecDepth 65536 in
theorem w_c5 : (Jvm.Cond.code ({ cls := "com/example/halyard/halyard/HeaderParser", name := "<init>", desc := "(Ljava/lang/String;)V" } : Jvm.MethodName) prog_6_method_1_code (2 : Nat) (Option.none : Option Jvm.ClassFile.FieldType)).before args0 about1 = true := code_word (m := ⟨2, 0⟩) (meth := k2m0) (c := k2c0) (by decide +kernel) rfl rfl rfl (by decide +kernel)
set_option maxRecDepth 65536 in
theorem w_c6 : (Jvm.Cond.code ({ cls := "com/example/halyard/halyard/HeaderParser", name := "skipFrom", desc := "(IC)V" } : Jvm.MethodName) prog_6_method_5_code (4 : Nat) (Option.none : Option Jvm.ClassFile.FieldType)).before args0 about1 = true := code_word (m := ⟨2, 3⟩) (meth := k2m3) (c := k2c3) (by decide +kernel) rfl rfl rfl (by decide +kernel)
set_option maxRecDepth 65536 in
theorem w_c7 : (Jvm.Cond.code ({ cls := "java/lang/String", name := "indexOf", desc := "(II)I" } : Jvm.MethodName) jdk_42_method_80_code (3 : Nat) (Option.some Jvm.ClassFile.FieldType.int)).before args0 about1 = true := code_word (m := ⟨8, 4⟩) (meth := k8m4) (c := k8c4) (by decide +kernel) rfl rfl rfl (by decide +kernel)
set_option maxRecDepth 65536 in
theorem w_c8 : (Jvm.Cond.code ({ cls := "java/lang/String", name := "isLatin1", desc := "()Z" } : Jvm.MethodName) jdk_42_method_154_code (1 : Nat) (Option.some Jvm.ClassFile.FieldType.boolean)).before args0 about1 = true := code_word (m := ⟨8, 7⟩) (meth := k8m7) (c := k8c7) (by decide +kernel) rfl rfl rfl (by decide +kernel)
set_option maxRecDepth 65536 in
theorem w_c9 : (Jvm.Cond.code ({ cls := "java/lang/String", name := "length", desc := "()I" } : Jvm.MethodName) jdk_42_method_54_code (1 : Nat) (Option.some Jvm.ClassFile.FieldType.int)).before args0 about1 = true := code_word (m := ⟨8, 2⟩) (meth := k8m2) (c := k8c2) (by decide +kernel) rfl rfl rfl (by decide +kernel)
set_option maxRecDepth 65536 in
theorem w_c10 : (Jvm.Cond.code ({ cls := "java/lang/String", name := "coder", desc := "()B" } : Jvm.MethodName) jdk_42_method_152_code (1 : Nat) (Option.some Jvm.ClassFile.FieldType.byte)).before args0 about1 = true := code_word (m := ⟨8, 6⟩) (meth := k8m6) (c := k8c6) (by decide +kernel) rfl rfl rfl (by decide +kernel)
set_option maxRecDepth 65536 in
theorem w_c11 : (Jvm.Cond.code ({ cls := "java/lang/StringLatin1", name := "indexOf", desc := "([BIII)I" } : Jvm.MethodName) jdk_43_method_22_code (4 : Nat) (Option.some Jvm.ClassFile.FieldType.int)).before args0 about1 = true := code_word (m := ⟨9, 3⟩) (meth := k9m3) (c := k9c3) (by decide +kernel) rfl rfl rfl (by decide +kernel)
set_option maxRecDepth 65536 in
theorem w_c12 : (Jvm.Cond.code ({ cls := "java/lang/StringLatin1", name := "canEncode", desc := "(I)Z" } : Jvm.MethodName) jdk_43_method_4_code (1 : Nat) (Option.some Jvm.ClassFile.FieldType.boolean)).before args0 about1 = true := code_word (m := ⟨9, 2⟩) (meth := k9m2) (c := k9c2) (by decide +kernel) rfl rfl rfl (by decide +kernel)
set_option maxRecDepth 65536 in
theorem w_c13 : (Jvm.Cond.code ({ cls := "java/lang/Math", name := "max", desc := "(II)I" } : Jvm.MethodName) jdk_29_method_65_code (2 : Nat) (Option.some Jvm.ClassFile.FieldType.int)).before args0 about1 = true := code_word (m := ⟨10, 1⟩) (meth := k10m1) (c := k10c1) (by decide +kernel) rfl rfl rfl (by decide +kernel)
set_option maxRecDepth 65536 in
theorem w_c14 : (Jvm.Cond.code ({ cls := "java/lang/Math", name := "min", desc := "(II)I" } : Jvm.MethodName) jdk_29_method_69_code (2 : Nat) (Option.some Jvm.ClassFile.FieldType.int)).before args0 about1 = true := code_word (m := ⟨10, 2⟩) (meth := k10m2) (c := k10c2) (by decide +kernel) rfl rfl rfl (by decide +kernel)
set_option maxRecDepth 65536 in
theorem w_c15 : (Jvm.Cond.code ({ cls := "com/example/halyard/halyard/HeaderParser", name := "position", desc := "()I" } : Jvm.MethodName) prog_6_method_4_code (1 : Nat) (Option.some Jvm.ClassFile.FieldType.int)).before args0 about1 = true := code_word (m := ⟨2, 2⟩) (meth := k2m2) (c := k2c2) (by decide +kernel) rfl rfl rfl (by decide +kernel)
set_option maxRecDepth 65536 in
theorem w_c16 : (Jvm.Cond.code ({ cls := "com/example/halyard/halyard/HeaderParser", name := "skipWhitespace", desc := "()V" } : Jvm.MethodName) prog_6_method_7_code (1 : Nat) (Option.none : Option Jvm.ClassFile.FieldType)).before args0 about1 = true := code_word (m := ⟨2, 4⟩) (meth := k2m4) (c := k2c4) (by decide +kernel) rfl rfl rfl (by decide +kernel)
set_option maxRecDepth 65536 in
theorem w_c17 : (Jvm.Cond.code ({ cls := "com/example/halyard/halyard/HeaderParserSkipWhitespacePinLaw", name := "step", desc := "([CII)I" } : Jvm.MethodName) method_4_code (3 : Nat) (Option.some Jvm.ClassFile.FieldType.int)).before args0 about1 = true := code_word (m := ⟨1, 3⟩) (meth := k1m3) (c := k1c3) (by decide +kernel) rfl rfl rfl (by decide +kernel)
set_option maxRecDepth 65536 in
theorem w_c18 : (Jvm.Cond.code ({ cls := "com/example/halyard/halyard/HeaderParser", name := "atEnd", desc := "()Z" } : Jvm.MethodName) prog_6_method_3_code (1 : Nat) (Option.some Jvm.ClassFile.FieldType.boolean)).before args0 about1 = true := code_word (m := ⟨2, 1⟩) (meth := k2m1) (c := k2c1) (by decide +kernel) rfl rfl rfl (by decide +kernel)
set_option maxRecDepth 65536 in
theorem w_c19 : (Jvm.Cond.code ({ cls := "java/lang/StringUTF16", name := "compress", desc := "([CII)[B" } : Jvm.MethodName) jdk_52_method_16_code (6 : Nat) (Option.some (Jvm.ClassFile.FieldType.array Jvm.ClassFile.FieldType.byte))).before args0 about1 = true := code_word (m := ⟨11, 8⟩) (meth := k11m8) (c := k11c8) (by decide +kernel) rfl rfl rfl (by decide +kernel)
set_option maxRecDepth 65536 in
theorem w_c20 : (Jvm.Cond.code ({ cls := "java/lang/StringUTF16", name := "compress", desc := "([CI[BII)I" } : Jvm.MethodName) jdk_52_method_21_code (7 : Nat) (Option.some Jvm.ClassFile.FieldType.int)).before args0 about1 = true := code_word (m := ⟨11, 9⟩) (meth := k11m9) (c := k11c9) (by decide +kernel) rfl rfl rfl (by decide +kernel)
set_option maxRecDepth 65536 in
theorem w_c21 : (Jvm.Cond.code ({ cls := "java/lang/StringUTF16", name := "coderFromArrayLen", desc := "([BI)B" } : Jvm.MethodName) jdk_52_method_15_code (2 : Nat) (Option.some Jvm.ClassFile.FieldType.byte)).before args0 about1 = true := code_word (m := ⟨11, 7⟩) (meth := k11m7) (c := k11c7) (by decide +kernel) rfl rfl rfl (by decide +kernel)
set_option maxRecDepth 65536 in
theorem w_c22 : (Jvm.Cond.code ({ cls := "java/lang/StringLatin1", name := "indexOfChar", desc := "([BIII)I" } : Jvm.MethodName) jdk_43_method_23_code (6 : Nat) (Option.some Jvm.ClassFile.FieldType.int)).before args0 about1 = true := code_word (m := ⟨9, 4⟩) (meth := k9m4) (c := k9c4) (by decide +kernel) rfl rfl rfl (by decide +kernel)
set_option maxRecDepth 65536 in
theorem w_c23 : (Jvm.Cond.code ({ cls := "java/lang/String", name := "charAt", desc := "(I)C" } : Jvm.MethodName) jdk_42_method_56_code (2 : Nat) (Option.some Jvm.ClassFile.FieldType.char)).before args0 about1 = true := code_word (m := ⟨8, 3⟩) (meth := k8m3) (c := k8c3) (by decide +kernel) rfl rfl rfl (by decide +kernel)
set_option maxRecDepth 65536 in
theorem w_c24 : (Jvm.Cond.code ({ cls := "java/lang/StringLatin1", name := "charAt", desc := "([BI)C" } : Jvm.MethodName) jdk_43_method_2_code (2 : Nat) (Option.some Jvm.ClassFile.FieldType.char)).before args0 about1 = true := code_word (m := ⟨9, 1⟩) (meth := k9m1) (c := k9c1) (by decide +kernel) rfl rfl rfl (by decide +kernel)
set_option maxRecDepth 65536 in
theorem w_c25 : (Jvm.Cond.code ({ cls := "java/lang/String", name := "checkIndex", desc := "(II)V" } : Jvm.MethodName) jdk_42_method_155_code (2 : Nat) (Option.none : Option Jvm.ClassFile.FieldType)).before args0 about1 = true := code_word (m := ⟨8, 8⟩) (meth := k8m8) (c := k8c8) (by decide +kernel) rfl rfl rfl (by decide +kernel)
set_option maxRecDepth 65536 in
theorem w_c26 : (Jvm.Cond.code ({ cls := "jdk/internal/util/Preconditions", name := "checkIndex", desc := "(IILjava/util/function/BiFunction;)I" } : Jvm.MethodName) jdk_41_method_11_code (3 : Nat) (Option.some Jvm.ClassFile.FieldType.int)).before args0 about1 = true := code_word (m := ⟨12, 1⟩) (meth := k12m1) (c := k12c1) (by decide +kernel) rfl rfl rfl (by decide +kernel)
set_option maxRecDepth 65536 in
theorem w_c27 : (Jvm.Cond.code ({ cls := "com/example/halyard/halyard/HeaderParserSkipWhitespacePinLaw", name := "ws", desc := "(C)Z" } : Jvm.MethodName) method_3_code (1 : Nat) (Option.some Jvm.ClassFile.FieldType.boolean)).before args0 about1 = true := code_word (m := ⟨1, 2⟩) (meth := k1m2) (c := k1c2) (by decide +kernel) rfl rfl rfl (by decide +kernel)
set_option maxRecDepth 65536 in
theorem w_c28 : (Jvm.Cond.code ({ cls := "java/lang/StringUTF16", name := "toBytes", desc := "([CII)[B" } : Jvm.MethodName) jdk_52_method_14_code (5 : Nat) (Option.some (Jvm.ClassFile.FieldType.array Jvm.ClassFile.FieldType.byte))).before args0 about1 = true := code_word (m := ⟨11, 6⟩) (meth := k11m6) (c := k11c6) (by decide +kernel) rfl rfl rfl (by decide +kernel)
set_option maxRecDepth 65536 in
theorem w_c29 : (Jvm.Cond.code ({ cls := "java/lang/StringUTF16", name := "newBytesFor", desc := "(I)[B" } : Jvm.MethodName) jdk_52_method_2_code (1 : Nat) (Option.some (Jvm.ClassFile.FieldType.array Jvm.ClassFile.FieldType.byte))).before args0 about1 = true := code_word (m := ⟨11, 1⟩) (meth := k11m1) (c := k11c1) (by decide +kernel) rfl rfl rfl (by decide +kernel)
set_option maxRecDepth 65536 in
theorem w_c30 : (Jvm.Cond.code ({ cls := "java/lang/StringUTF16", name := "newBytesLength", desc := "(I)I" } : Jvm.MethodName) jdk_52_method_3_code (1 : Nat) (Option.some Jvm.ClassFile.FieldType.int)).before args0 about1 = true := code_word (m := ⟨11, 2⟩) (meth := k11m2) (c := k11c2) (by decide +kernel) rfl rfl rfl (by decide +kernel)
set_option maxRecDepth 65536 in
theorem w_c31 : (Jvm.Cond.code ({ cls := "java/lang/StringUTF16", name := "putChar", desc := "([BII)V" } : Jvm.MethodName) jdk_52_method_4_code (3 : Nat) (Option.none : Option Jvm.ClassFile.FieldType)).before args0 about1 = true := code_word (m := ⟨11, 3⟩) (meth := k11m3) (c := k11c3) (by decide +kernel) rfl rfl rfl (by decide +kernel)
set_option maxRecDepth 65536 in
theorem w_c32 : (Jvm.Cond.code ({ cls := "java/lang/StringUTF16", name := "getChar", desc := "([BI)C" } : Jvm.MethodName) jdk_52_method_5_code (2 : Nat) (Option.some Jvm.ClassFile.FieldType.char)).before args0 about1 = true := code_word (m := ⟨11, 4⟩) (meth := k11m4) (c := k11c4) (by decide +kernel) rfl rfl rfl (by decide +kernel)
set_option maxRecDepth 65536 in
theorem w_c33 : (Jvm.Cond.code ({ cls := "java/lang/StringUTF16", name := "indexOf", desc := "([BIII)I" } : Jvm.MethodName) jdk_52_method_40_code (4 : Nat) (Option.some Jvm.ClassFile.FieldType.int)).before args0 about1 = true := code_word (m := ⟨11, 10⟩) (meth := k11m10) (c := k11c10) (by decide +kernel) rfl rfl rfl (by decide +kernel)
set_option maxRecDepth 65536 in
theorem w_c34 : (Jvm.Cond.code ({ cls := "java/lang/StringUTF16", name := "indexOfChar", desc := "([BIII)I" } : Jvm.MethodName) jdk_52_method_47_code (4 : Nat) (Option.some Jvm.ClassFile.FieldType.int)).before args0 about1 = true := code_word (m := ⟨11, 11⟩) (meth := k11m11) (c := k11c11) (by decide +kernel) rfl rfl rfl (by decide +kernel)
set_option maxRecDepth 65536 in
theorem w_c35 : (Jvm.Cond.code ({ cls := "java/lang/StringUTF16", name := "checkBoundsBeginEnd", desc := "(II[B)V" } : Jvm.MethodName) jdk_52_method_93_code (3 : Nat) (Option.none : Option Jvm.ClassFile.FieldType)).before args0 about1 = true := code_word (m := ⟨11, 15⟩) (meth := k11m15) (c := k11c15) (by decide +kernel) rfl rfl rfl (by decide +kernel)
set_option maxRecDepth 65536 in
theorem w_c36 : (Jvm.Cond.code ({ cls := "java/lang/StringUTF16", name := "length", desc := "([B)I" } : Jvm.MethodName) jdk_52_method_6_code (1 : Nat) (Option.some Jvm.ClassFile.FieldType.int)).before args0 about1 = true := code_word (m := ⟨11, 5⟩) (meth := k11m5) (c := k11c5) (by decide +kernel) rfl rfl rfl (by decide +kernel)
set_option maxRecDepth 65536 in
theorem w_c37 : (Jvm.Cond.code ({ cls := "java/lang/String", name := "checkBoundsBeginEnd", desc := "(III)V" } : Jvm.MethodName) jdk_42_method_158_code (3 : Nat) (Option.none : Option Jvm.ClassFile.FieldType)).before args0 about1 = true := code_word (m := ⟨8, 9⟩) (meth := k8m9) (c := k8c9) (by decide +kernel) rfl rfl rfl (by decide +kernel)
set_option maxRecDepth 65536 in
theorem w_c38 : (Jvm.Cond.code ({ cls := "jdk/internal/util/Preconditions", name := "checkFromToIndex", desc := "(IIILjava/util/function/BiFunction;)I" } : Jvm.MethodName) jdk_41_method_12_code (4 : Nat) (Option.some Jvm.ClassFile.FieldType.int)).before args0 about1 = true := code_word (m := ⟨12, 2⟩) (meth := k12m2) (c := k12c2) (by decide +kernel) rfl rfl rfl (by decide +kernel)
set_option maxRecDepth 65536 in
theorem w_c39 : (Jvm.Cond.code ({ cls := "java/lang/StringUTF16", name := "indexOfCharUnsafe", desc := "([BIII)I" } : Jvm.MethodName) jdk_52_method_48_code (5 : Nat) (Option.some Jvm.ClassFile.FieldType.int)).before args0 about1 = true := code_word (m := ⟨11, 12⟩) (meth := k11m12) (c := k11c12) (by decide +kernel) rfl rfl rfl (by decide +kernel)
set_option maxRecDepth 65536 in
theorem w_c40 : (Jvm.Cond.code ({ cls := "java/lang/StringUTF16", name := "charAt", desc := "([BI)C" } : Jvm.MethodName) jdk_52_method_83_code (2 : Nat) (Option.some Jvm.ClassFile.FieldType.char)).before args0 about1 = true := code_word (m := ⟨11, 13⟩) (meth := k11m13) (c := k11c13) (by decide +kernel) rfl rfl rfl (by decide +kernel)
set_option maxRecDepth 65536 in
theorem w_c41 : (Jvm.Cond.code ({ cls := "java/lang/StringUTF16", name := "checkIndex", desc := "(I[B)V" } : Jvm.MethodName) jdk_52_method_91_code (2 : Nat) (Option.none : Option Jvm.ClassFile.FieldType)).before args0 about1 = true := code_word (m := ⟨11, 14⟩) (meth := k11m14) (c := k11c14) (by decide +kernel) rfl rfl rfl (by decide +kernel)
def codes1 : List Jvm.Cond := [Jvm.Cond.code x code maxLocals ret, Jvm.Cond.code ({ cls := "com/example/halyard/halyard/HeaderParserSkipWhitespacePinLaw", name := "ch", desc := "(I)C" } : Jvm.MethodName) method_2_code (2 : Nat) (Option.some Jvm.ClassFile.FieldType.char), Jvm.Cond.code ({ cls := "java/lang/String", name := "<init>", desc := "([C)V" } : Jvm.MethodName) jdk_42_method_3_code (2 : Nat) (Option.none : Option Jvm.ClassFile.FieldType), Jvm.Cond.code ({ cls := "java/lang/String", name := "<init>", desc := "([CIILjava/lang/Void;)V" } : Jvm.MethodName) jdk_42_method_149_code (6 : Nat) (Option.none : Option Jvm.ClassFile.FieldType), Jvm.Cond.code ({ cls := "java/lang/Object", name := "<init>", desc := "()V" } : Jvm.MethodName) object_method_1_code (1 : Nat) (Option.none : Option Jvm.ClassFile.FieldType), Jvm.Cond.code ({ cls := "com/example/halyard/halyard/HeaderParser", name := "<init>", desc := "(Ljava/lang/String;)V" } : Jvm.MethodName) prog_6_method_1_code (2 : Nat) (Option.none : Option Jvm.ClassFile.FieldType), Jvm.Cond.code ({ cls := "com/example/halyard/halyard/HeaderParser", name := "skipFrom", desc := "(IC)V" } : Jvm.MethodName) prog_6_method_5_code (4 : Nat) (Option.none : Option Jvm.ClassFile.FieldType), Jvm.Cond.code ({ cls := "java/lang/String", name := "indexOf", desc := "(II)I" } : Jvm.MethodName) jdk_42_method_80_code (3 : Nat) (Option.some Jvm.ClassFile.FieldType.int), Jvm.Cond.code ({ cls := "java/lang/String", name := "isLatin1", desc := "()Z" } : Jvm.MethodName) jdk_42_method_154_code (1 : Nat) (Option.some Jvm.ClassFile.FieldType.boolean), Jvm.Cond.code ({ cls := "java/lang/String", name := "length", desc := "()I" } : Jvm.MethodName) jdk_42_method_54_code (1 : Nat) (Option.some Jvm.ClassFile.FieldType.int), Jvm.Cond.code ({ cls := "java/lang/String", name := "coder", desc := "()B" } : Jvm.MethodName) jdk_42_method_152_code (1 : Nat) (Option.some Jvm.ClassFile.FieldType.byte), Jvm.Cond.code ({ cls := "java/lang/StringLatin1", name := "indexOf", desc := "([BIII)I" } : Jvm.MethodName) jdk_43_method_22_code (4 : Nat) (Option.some Jvm.ClassFile.FieldType.int), Jvm.Cond.code ({ cls := "java/lang/StringLatin1", name := "canEncode", desc := "(I)Z" } : Jvm.MethodName) jdk_43_method_4_code (1 : Nat) (Option.some Jvm.ClassFile.FieldType.boolean), Jvm.Cond.code ({ cls := "java/lang/Math", name := "max", desc := "(II)I" } : Jvm.MethodName) jdk_29_method_65_code (2 : Nat) (Option.some Jvm.ClassFile.FieldType.int), Jvm.Cond.code ({ cls := "java/lang/Math", name := "min", desc := "(II)I" } : Jvm.MethodName) jdk_29_method_69_code (2 : Nat) (Option.some Jvm.ClassFile.FieldType.int), Jvm.Cond.code ({ cls := "com/example/halyard/halyard/HeaderParser", name := "position", desc := "()I" } : Jvm.MethodName) prog_6_method_4_code (1 : Nat) (Option.some Jvm.ClassFile.FieldType.int), Jvm.Cond.code ({ cls := "com/example/halyard/halyard/HeaderParser", name := "skipWhitespace", desc := "()V" } : Jvm.MethodName) prog_6_method_7_code (1 : Nat) (Option.none : Option Jvm.ClassFile.FieldType), Jvm.Cond.code ({ cls := "com/example/halyard/halyard/HeaderParserSkipWhitespacePinLaw", name := "step", desc := "([CII)I" } : Jvm.MethodName) method_4_code (3 : Nat) (Option.some Jvm.ClassFile.FieldType.int), Jvm.Cond.code ({ cls := "com/example/halyard/halyard/HeaderParser", name := "atEnd", desc := "()Z" } : Jvm.MethodName) prog_6_method_3_code (1 : Nat) (Option.some Jvm.ClassFile.FieldType.boolean), Jvm.Cond.code ({ cls := "java/lang/StringUTF16", name := "compress", desc := "([CII)[B" } : Jvm.MethodName) jdk_52_method_16_code (6 : Nat) (Option.some (Jvm.ClassFile.FieldType.array Jvm.ClassFile.FieldType.byte)), Jvm.Cond.code ({ cls := "java/lang/StringUTF16", name := "compress", desc := "([CI[BII)I" } : Jvm.MethodName) jdk_52_method_21_code (7 : Nat) (Option.some Jvm.ClassFile.FieldType.int), Jvm.Cond.code ({ cls := "java/lang/StringUTF16", name := "coderFromArrayLen", desc := "([BI)B" } : Jvm.MethodName) jdk_52_method_15_code (2 : Nat) (Option.some Jvm.ClassFile.FieldType.byte), Jvm.Cond.code ({ cls := "java/lang/StringLatin1", name := "indexOfChar", desc := "([BIII)I" } : Jvm.MethodName) jdk_43_method_23_code (6 : Nat) (Option.some Jvm.ClassFile.FieldType.int), Jvm.Cond.code ({ cls := "java/lang/String", name := "charAt", desc := "(I)C" } : Jvm.MethodName) jdk_42_method_56_code (2 : Nat) (Option.some Jvm.ClassFile.FieldType.char), Jvm.Cond.code ({ cls := "java/lang/StringLatin1", name := "charAt", desc := "([BI)C" } : Jvm.MethodName) jdk_43_method_2_code (2 : Nat) (Option.some Jvm.ClassFile.FieldType.char), Jvm.Cond.code ({ cls := "java/lang/String", name := "checkIndex", desc := "(II)V" } : Jvm.MethodName) jdk_42_method_155_code (2 : Nat) (Option.none : Option Jvm.ClassFile.FieldType), Jvm.Cond.code ({ cls := "jdk/internal/util/Preconditions", name := "checkIndex", desc := "(IILjava/util/function/BiFunction;)I" } : Jvm.MethodName) jdk_41_method_11_code (3 : Nat) (Option.some Jvm.ClassFile.FieldType.int), Jvm.Cond.code ({ cls := "com/example/halyard/halyard/HeaderParserSkipWhitespacePinLaw", name := "ws", desc := "(C)Z" } : Jvm.MethodName) method_3_code (1 : Nat) (Option.some Jvm.ClassFile.FieldType.boolean), Jvm.Cond.code ({ cls := "java/lang/StringUTF16", name := "toBytes", desc := "([CII)[B" } : Jvm.MethodName) jdk_52_method_14_code (5 : Nat) (Option.some (Jvm.ClassFile.FieldType.array Jvm.ClassFile.FieldType.byte)), Jvm.Cond.code ({ cls := "java/lang/StringUTF16", name := "newBytesFor", desc := "(I)[B" } : Jvm.MethodName) jdk_52_method_2_code (1 : Nat) (Option.some (Jvm.ClassFile.FieldType.array Jvm.ClassFile.FieldType.byte)), Jvm.Cond.code ({ cls := "java/lang/StringUTF16", name := "newBytesLength", desc := "(I)I" } : Jvm.MethodName) jdk_52_method_3_code (1 : Nat) (Option.some Jvm.ClassFile.FieldType.int), Jvm.Cond.code ({ cls := "java/lang/StringUTF16", name := "putChar", desc := "([BII)V" } : Jvm.MethodName) jdk_52_method_4_code (3 : Nat) (Option.none : Option Jvm.ClassFile.FieldType), Jvm.Cond.code ({ cls := "java/lang/StringUTF16", name := "getChar", desc := "([BI)C" } : Jvm.MethodName) jdk_52_method_5_code (2 : Nat) (Option.some Jvm.ClassFile.FieldType.char), Jvm.Cond.code ({ cls := "java/lang/StringUTF16", name := "indexOf", desc := "([BIII)I" } : Jvm.MethodName) jdk_52_method_40_code (4 : Nat) (Option.some Jvm.ClassFile.FieldType.int), Jvm.Cond.code ({ cls := "java/lang/StringUTF16", name := "indexOfChar", desc := "([BIII)I" } : Jvm.MethodName) jdk_52_method_47_code (4 : Nat) (Option.some Jvm.ClassFile.FieldType.int), Jvm.Cond.code ({ cls := "java/lang/StringUTF16", name := "checkBoundsBeginEnd", desc := "(II[B)V" } : Jvm.MethodName) jdk_52_method_93_code (3 : Nat) (Option.none : Option Jvm.ClassFile.FieldType), Jvm.Cond.code ({ cls := "java/lang/StringUTF16", name := "length", desc := "([B)I" } : Jvm.MethodName) jdk_52_method_6_code (1 : Nat) (Option.some Jvm.ClassFile.FieldType.int), Jvm.Cond.code ({ cls := "java/lang/String", name := "checkBoundsBeginEnd", desc := "(III)V" } : Jvm.MethodName) jdk_42_method_158_code (3 : Nat) (Option.none : Option Jvm.ClassFile.FieldType), Jvm.Cond.code ({ cls := "jdk/internal/util/Preconditions", name := "checkFromToIndex", desc := "(IIILjava/util/function/BiFunction;)I" } : Jvm.MethodName) jdk_41_method_12_code (4 : Nat) (Option.some Jvm.ClassFile.FieldType.int), Jvm.Cond.code ({ cls := "java/lang/StringUTF16", name := "indexOfCharUnsafe", desc := "([BIII)I" } : Jvm.MethodName) jdk_52_method_48_code (5 : Nat) (Option.some Jvm.ClassFile.FieldType.int), Jvm.Cond.code ({ cls := "java/lang/StringUTF16", name := "charAt", desc := "([BI)C" } : Jvm.MethodName) jdk_52_method_83_code (2 : Nat) (Option.some Jvm.ClassFile.FieldType.char), Jvm.Cond.code ({ cls := "java/lang/StringUTF16", name := "checkIndex", desc := "(I[B)V" } : Jvm.MethodName) jdk_52_method_91_code (2 : Nat) (Option.none : Option Jvm.ClassFile.FieldType)]
set_option maxRecDepth 65536 in
theorem codes_eq : words1.filter isCode = codes1 := rfl
theorem w_codes : ∀ c ∈ words1.filter isCode, c.before args0 about1 = true := by
  rw [codes_eq]
  intro c hc
  simp only [codes1, List.mem_cons, List.not_mem_nil, or_false] at hc
  rcases hc with rfl | rfl | rfl | rfl | rfl | rfl | rfl | rfl | rfl | rfl | rfl | rfl | rfl | rfl | rfl | rfl | rfl | rfl | rfl | rfl | rfl | rfl | rfl | rfl | rfl | rfl | rfl | rfl | rfl | rfl | rfl | rfl | rfl | rfl | rfl | rfl | rfl | rfl | rfl | rfl | rfl | rfl
  · exact w_c0
  · exact w_c1
  · exact w_c2
  · exact w_c3
  · exact w_c4
  · exact w_c5
  · exact w_c6
  · exact w_c7
  · exact w_c8
  · exact w_c9
  · exact w_c10
  · exact w_c11
  · exact w_c12
  · exact w_c13
  · exact w_c14
  · exact w_c15
  · exact w_c16
  · exact w_c17
  · exact w_c18
  · exact w_c19
  · exact w_c20
  · exact w_c21
  · exact w_c22
  · exact w_c23
  · exact w_c24
  · exact w_c25
  · exact w_c26
  · exact w_c27
  · exact w_c28
  · exact w_c29
  · exact w_c30
  · exact w_c31
  · exact w_c32
  · exact w_c33
  · exact w_c34
  · exact w_c35
  · exact w_c36
  · exact w_c37
  · exact w_c38
  · exact w_c39
  · exact w_c40
  · exact w_c41
set_option maxRecDepth 65536 in
theorem w_t1 : (words1.take 24).all (fun c => isCode c || c.before args0 about1) = true := by decide +kernel
set_option maxRecDepth 65536 in
theorem w_t2 : ((words1.drop 24).take 24).all (fun c => isCode c || c.before args0 about1) = true := by decide +kernel
set_option maxRecDepth 65536 in
theorem w_t3 : (((words1.drop 24).drop 24).take 24).all (fun c => isCode c || c.before args0 about1) = true := by decide +kernel
set_option maxRecDepth 65536 in
theorem w_t4 : ((((words1.drop 24).drop 24).drop 24).take 24).all (fun c => isCode c || c.before args0 about1) = true := by decide +kernel
set_option maxRecDepth 65536 in
theorem w_t5 : (((((words1.drop 24).drop 24).drop 24).drop 24).take 24).all (fun c => isCode c || c.before args0 about1) = true := by decide +kernel
set_option maxRecDepth 65536 in
theorem w_t6 : ((((((words1.drop 24).drop 24).drop 24).drop 24).drop 24).take 24).all (fun c => isCode c || c.before args0 about1) = true := by decide +kernel
set_option maxRecDepth 65536 in
theorem w_t7 : (((((((words1.drop 24).drop 24).drop 24).drop 24).drop 24).drop 24).take 24).all (fun c => isCode c || c.before args0 about1) = true := by decide +kernel
set_option maxRecDepth 65536 in
theorem w_t8 : (((((((words1.drop 24).drop 24).drop 24).drop 24).drop 24).drop 24).drop 24).all (fun c => isCode c || c.before args0 about1) = true := by decide +kernel
theorem w_tables : (allAtoms (Jvm.Cond.code x code maxLocals ret :: tables_1)).before args0 about1 = true := by
  rw [allAtoms_all]
  show words1.all (fun c => c.before args0 about1) = true
  refine all_split ?_ w_codes
  rw [← List.take_append_drop 24 words1, List.all_append, w_t1, ← List.take_append_drop 24 (words1.drop 24), List.all_append, w_t2, ← List.take_append_drop 24 ((words1.drop 24).drop 24), List.all_append, w_t3, ← List.take_append_drop 24 (((words1.drop 24).drop 24).drop 24), List.all_append, w_t4, ← List.take_append_drop 24 ((((words1.drop 24).drop 24).drop 24).drop 24), List.all_append, w_t5, ← List.take_append_drop 24 (((((words1.drop 24).drop 24).drop 24).drop 24).drop 24), List.all_append, w_t6, ← List.take_append_drop 24 ((((((words1.drop 24).drop 24).drop 24).drop 24).drop 24).drop 24), List.all_append, w_t7, w_t8]
  rfl
set_option maxRecDepth 65536 in
theorem w_rest : rest_1_c.before args0 about1 = true := by decide +kernel
set_option maxRecDepth 65536 in
theorem w_case : (Jvm.Cond.and given_1 narrow_1).before args0 about1 = true := by decide +kernel
set_option maxRecDepth 65536 in
theorem w_consts : constsHeld consts_1 about1 := Jvm.Lit.constsHeldB_iff.mp (by decide +kernel)
theorem w_applies : (headSpec (Jvm.Cond.code x code maxLocals ret :: tables_1) room_1).applies x e0.platform about1 = true :=
  (Spec.applies_iff w_frames).mpr ⟨w_running, w_runnable, w_alone, w_named, w_hears, w_ripe, w_room, w_tables⟩
theorem atStart : AtStart classFile x code maxLocals ret World_1 tables_1 room_1 Calls_1 rest_1 Pre_1 launch0 p0 e0 about1 theMethod args0 below0 :=
  ⟨lists_1, trivial, launch0.admits_env _ _ _, launch0.least_env, fairChoices_fair.cas, fairChoices_fair.clock, w_frames, w_args, w_heap, w_applies, ⟨w_consts, trivial⟩, w_rest, w_case⟩
end start1
theorem witness_1 : WitnessClaimed_1 := ⟨start1.p0, start1.e0, start1.about1, start1.theMethod, start1.args0, start1.below0, start1.atStart⟩
end Jvm.Pilot.@@N@@
