import JvmDerived
import JvmDerived.Pilot.@@N@@Statement
import JvmDerived.Pilot.@@N@@Code
set_option linter.unusedVariables false
set_option linter.unusedSimpArgs false

namespace Jvm.RoadKit
open Sem ClassFile Op Lib Jvm.Stand Jvm.Free Jvm.LawKit
section New
variable {p : Program} {l : Launch} {e : Env} {R : Room} {s : State} {m : MethodId} {args : Array Value} {below : List Frame} {meth : Method} {c : Code} {T : State} {locs : List Loc} {cells slots : Nat}
theorem retI (X : Stand p l e R s m args below meth c T locs cells slots) (hx : p.tables.exec = Jvm.exec) {pc : Nat} {Ls : Array Slot} {z : Int32} {rest : List Value} (hret : meth.sig.returnType = some .int) (hd : decode c.code pc = .ok (.ireturn, 1)) {fs : List Frame}
    (hl : ∀ (f : JFrame) (acts : List Action), f.method = m → f.locked = none → f.entered = [] → (doReturn e (T.setTop f) acts (some (.int z))).1 = T.setFrames fs) : Steps p.tables e below (T.setTop (mkF m pc Ls (.int z :: rest))) (T.setFrames fs) := by
  have hm' : T.vm.method? m = some meth := X.method'
  have hn : narrow .int (.int z) = .int z := rfl
  show Steps p.tables e below (T.setTop { method := m, pc := pc, locals := Ls, stack := _ :: rest, locked := none }) _
  jvm_step X.here [X.here.top, hx, hd, hm', hret, hn]
  first | (intro acts; rw [hl _ acts rfl rfl rfl]) | rw [hl _ _ rfl rfl rfl]
  exact Steps.refl _
theorem retL (X : Stand p l e R s m args below meth c T locs cells slots) (hx : p.tables.exec = Jvm.exec) {pc : Nat} {Ls : Array Slot} {z : Int64} {rest : List Value} (hret : meth.sig.returnType = some .long) (hd : decode c.code pc = .ok (.lreturn, 1)) {fs : List Frame}
    (hl : ∀ (f : JFrame) (acts : List Action), f.method = m → f.locked = none → f.entered = [] → (doReturn e (T.setTop f) acts (some (.long z))).1 = T.setFrames fs) : Steps p.tables e below (T.setTop (mkF m pc Ls (.long z :: rest))) (T.setFrames fs) := by
  have hm' : T.vm.method? m = some meth := X.method'
  have hn : narrow .long (.long z) = .long z := rfl
  show Steps p.tables e below (T.setTop { method := m, pc := pc, locals := Ls, stack := _ :: rest, locked := none }) _
  jvm_step X.here [X.here.top, hx, hd, hm', hret, hn]
  first | (intro acts; rw [hl _ acts rfl rfl rfl]) | rw [hl _ _ rfl rfl rfl]
  exact Steps.refl _
end New
end Jvm.RoadKit
namespace Jvm.Pilot.@@N@@
open Jvm Jvm.ClassFile Sem Op Lib Jvm.Free Jvm.Stand Jvm.LawKit Jvm.RoadKit Bundle Jvm.Pilot.@@N@@.Jvm.D
/-- from here the run comes to an end of which W holds -/
def own_Go (p : Program) (e : Env) (below : List Frame) (W : State → Outcome → Prop) (T : State) (g : JFrame) : Prop :=
  ∃ s₂ o, Steps p.tables e below (T.setTop g) s₂ ∧ s₂.status = .running ∧ Ended s₂ below o ∧ W s₂ o
theorem own_Go.of {p : Program} {e : Env} {below : List Frame} {W : State → Outcome → Prop} {T T' : State} {g g' : JFrame} (f : ∀ t, Steps p.tables e below (T'.setTop g') t → Steps p.tables e below (T.setTop g) t) (k : own_Go p e below W T' g') : own_Go p e below W T g := by
  obtain ⟨s₂, o, h1, h2⟩ := k
  exact ⟨s₂, o, f _ h1, h2⟩
theorem own_via {G A : Prop} (h1 : A → G) (h2 : A) : G := h1 h2
section OwnSteps
variable {p : Program} {l : Launch} {e : Env} {R : Room} {s : State} {m : MethodId} {args : Array Value} {below : List Frame} {meth : Method} {c : Code} {T : State} {locs : List Loc} {cells slots : Nat} {W : State → Outcome → Prop} {pc pc' : Nat} {L : Array Slot} {S : List Value}
theorem og_iloadN (X : Stand p l e R s m args below meth c T locs cells slots) (hx : p.tables.exec = Jvm.exec) {k : Fin 4} {v : Int32} (hd : decode c.code pc = .ok (.iload_n k, 1)) (hl : L[k.val]? = some (.val (.int v))) (hp : pc + 1 = pc') (h : own_Go p e below W T (mkF m pc' L ((.int v) :: S))) : own_Go p e below W T (mkF m pc L S) := by
  subst hp; exact own_Go.of (fun t q => XS.iloadN X.here hx rfl hd hl q) h
theorem og_iload (X : Stand p l e R s m args below meth c T locs cells slots) (hx : p.tables.exec = Jvm.exec) {k : Nat} {v : Int32} (hd : decode c.code pc = .ok (.iload k, 2)) (hl : L[k]? = some (.val (.int v))) (hp : pc + 2 = pc') (h : own_Go p e below W T (mkF m pc' L ((.int v) :: S))) : own_Go p e below W T (mkF m pc L S) := by
  subst hp; exact own_Go.of (fun t q => XS.iload X.here hx rfl hd hl q) h
theorem og_istoreN (X : Stand p l e R s m args below meth c T locs cells slots) (hx : p.tables.exec = Jvm.exec) {k : Fin 4} {v : Int32} {L' : Array Slot} (hd : decode c.code pc = .ok (.istore_n k, 1)) (hl : storeLocals L k.val (.int v) = some L') (hp : pc + 1 = pc') (h : own_Go p e below W T (mkF m pc' L' S)) : own_Go p e below W T (mkF m pc L ((.int v) :: S)) := by
  subst hp; exact own_Go.of (fun t q => XS.istoreN X.here hx rfl hd rfl hl q) h
theorem og_istore (X : Stand p l e R s m args below meth c T locs cells slots) (hx : p.tables.exec = Jvm.exec) {k : Nat} {v : Int32} {L' : Array Slot} (hd : decode c.code pc = .ok (.istore k, 2)) (hl : storeLocals L k (.int v) = some L') (hp : pc + 2 = pc') (h : own_Go p e below W T (mkF m pc' L' S)) : own_Go p e below W T (mkF m pc L ((.int v) :: S)) := by
  subst hp; exact own_Go.of (fun t q => XS.istore X.here hx rfl hd rfl hl q) h
theorem og_lloadN (X : Stand p l e R s m args below meth c T locs cells slots) (hx : p.tables.exec = Jvm.exec) {k : Fin 4} {v : Int64} (hd : decode c.code pc = .ok (.lload_n k, 1)) (hl : L[k.val]? = some (.val (.long v))) (hp : pc + 1 = pc') (h : own_Go p e below W T (mkF m pc' L ((.long v) :: S))) : own_Go p e below W T (mkF m pc L S) := by
  subst hp; exact own_Go.of (fun t q => XS.lloadN X.here hx rfl hd hl q) h
theorem og_lload (X : Stand p l e R s m args below meth c T locs cells slots) (hx : p.tables.exec = Jvm.exec) {k : Nat} {v : Int64} (hd : decode c.code pc = .ok (.lload k, 2)) (hl : L[k]? = some (.val (.long v))) (hp : pc + 2 = pc') (h : own_Go p e below W T (mkF m pc' L ((.long v) :: S))) : own_Go p e below W T (mkF m pc L S) := by
  subst hp; exact own_Go.of (fun t q => XS.lload X.here hx rfl hd hl q) h
theorem og_lstoreN (X : Stand p l e R s m args below meth c T locs cells slots) (hx : p.tables.exec = Jvm.exec) {k : Fin 4} {v : Int64} {L' : Array Slot} (hd : decode c.code pc = .ok (.lstore_n k, 1)) (hl : storeLocals L k.val (.long v) = some L') (hp : pc + 1 = pc') (h : own_Go p e below W T (mkF m pc' L' S)) : own_Go p e below W T (mkF m pc L ((.long v) :: S)) := by
  subst hp; exact own_Go.of (fun t q => XS.lstoreN X.here hx rfl hd rfl hl q) h
theorem og_lstore (X : Stand p l e R s m args below meth c T locs cells slots) (hx : p.tables.exec = Jvm.exec) {k : Nat} {v : Int64} {L' : Array Slot} (hd : decode c.code pc = .ok (.lstore k, 2)) (hl : storeLocals L k (.long v) = some L') (hp : pc + 2 = pc') (h : own_Go p e below W T (mkF m pc' L' S)) : own_Go p e below W T (mkF m pc L ((.long v) :: S)) := by
  subst hp; exact own_Go.of (fun t q => XS.lstore X.here hx rfl hd rfl hl q) h
theorem og_aloadN (X : Stand p l e R s m args below meth c T locs cells slots) (hx : p.tables.exec = Jvm.exec) {k : Fin 4} {v : Value} (hd : decode c.code pc = .ok (.aload_n k, 1)) (hl : L[k.val]? = some (.val v)) (hv : v.isRef = true) (hp : pc + 1 = pc') (h : own_Go p e below W T (mkF m pc' L (v :: S))) : own_Go p e below W T (mkF m pc L S) := by
  subst hp; exact own_Go.of (fun t q => XS.aloadN X.here hx rfl hd hl hv q) h
theorem og_aload (X : Stand p l e R s m args below meth c T locs cells slots) (hx : p.tables.exec = Jvm.exec) {k : Nat} {v : Value} (hd : decode c.code pc = .ok (.aload k, 2)) (hl : L[k]? = some (.val v)) (hv : v.isRef = true) (hp : pc + 2 = pc') (h : own_Go p e below W T (mkF m pc' L (v :: S))) : own_Go p e below W T (mkF m pc L S) := by
  subst hp; exact own_Go.of (fun t q => XS.aload X.here hx rfl hd hl hv q) h
theorem og_astoreN (X : Stand p l e R s m args below meth c T locs cells slots) (hx : p.tables.exec = Jvm.exec) {k : Fin 4} {v : Value} {L' : Array Slot} (hd : decode c.code pc = .ok (.astore_n k, 1)) (hv : v.isRef = true) (hl : storeLocals L k.val v = some L') (hp : pc + 1 = pc') (h : own_Go p e below W T (mkF m pc' L' S)) : own_Go p e below W T (mkF m pc L (v :: S)) := by
  subst hp; exact own_Go.of (fun t q => XS.astoreN X.here hx rfl hd rfl hv hl q) h
theorem og_astore (X : Stand p l e R s m args below meth c T locs cells slots) (hx : p.tables.exec = Jvm.exec) {k : Nat} {v : Value} {L' : Array Slot} (hd : decode c.code pc = .ok (.astore k, 2)) (hv : v.isRef = true) (hl : storeLocals L k v = some L') (hp : pc + 2 = pc') (h : own_Go p e below W T (mkF m pc' L' S)) : own_Go p e below W T (mkF m pc L (v :: S)) := by
  subst hp; exact own_Go.of (fun t q => XS.astore X.here hx rfl hd rfl hv hl q) h
theorem og_iconst (X : Stand p l e R s m args below meth c T locs cells slots) (hx : p.tables.exec = Jvm.exec) {i : Int} {n : Int32} (hd : decode c.code pc = .ok (.iconst i, 1)) (hn : Int32.ofInt i = n) (hp : pc + 1 = pc') (h : own_Go p e below W T (mkF m pc' L (.int n :: S))) : own_Go p e below W T (mkF m pc L S) := by
  subst hp hn; exact own_Go.of (fun t q => XS.iconst X.here hx rfl hd q) h
theorem og_bipush (X : Stand p l e R s m args below meth c T locs cells slots) (hx : p.tables.exec = Jvm.exec) {i : Int} {n : Int32} (hd : decode c.code pc = .ok (.bipush i, 2)) (hn : (Int8.ofInt i).toInt32 = n) (hp : pc + 2 = pc') (h : own_Go p e below W T (mkF m pc' L (.int n :: S))) : own_Go p e below W T (mkF m pc L S) := by
  subst hp hn; exact own_Go.of (fun t q => XS.bipush X.here hx rfl hd q) h
theorem og_sipush (X : Stand p l e R s m args below meth c T locs cells slots) (hx : p.tables.exec = Jvm.exec) {i : Int} {n : Int32} (hd : decode c.code pc = .ok (.sipush i, 3)) (hn : (Int16.ofInt i).toInt32 = n) (hp : pc + 3 = pc') (h : own_Go p e below W T (mkF m pc' L (.int n :: S))) : own_Go p e below W T (mkF m pc L S) := by
  subst hp hn; exact own_Go.of (fun t q => XS.sipush X.here hx rfl hd q) h
theorem og_lconst0 (X : Stand p l e R s m args below meth c T locs cells slots) (hx : p.tables.exec = Jvm.exec) (hd : decode c.code pc = .ok (.lconst 0, 1)) (hp : pc + 1 = pc') (h : own_Go p e below W T (mkF m pc' L (.long (0 : Int64) :: S))) : own_Go p e below W T (mkF m pc L S) := by
  subst hp; exact own_Go.of (fun t q => XS.lconst X.here hx rfl hd q) h
theorem og_lconst1 (X : Stand p l e R s m args below meth c T locs cells slots) (hx : p.tables.exec = Jvm.exec) (hd : decode c.code pc = .ok (.lconst 1, 1)) (hp : pc + 1 = pc') (h : own_Go p e below W T (mkF m pc' L (.long (1 : Int64) :: S))) : own_Go p e below W T (mkF m pc L S) := by
  subst hp; exact own_Go.of (fun t q => XS.lconst X.here hx rfl hd q) h
theorem og_aconst_null (X : Stand p l e R s m args below meth c T locs cells slots) (hx : p.tables.exec = Jvm.exec)  (hd : decode c.code pc = .ok (.aconst_null, 1)) (hp : pc + 1 = pc') (h : own_Go p e below W T (mkF m pc' L (.null :: S))) : own_Go p e below W T (mkF m pc L S) := by
  subst hp; exact own_Go.of (fun t q => XS.aconstNull X.here hx rfl hd q) h
theorem og_iadd (X : Stand p l e R s m args below meth c T locs cells slots) (hx : p.tables.exec = Jvm.exec) {x y : Int32} (hd : decode c.code pc = .ok (.iadd, 1)) (hp : pc + 1 = pc') (h : own_Go p e below W T (mkF m pc' L (.int (x + y) :: S))) : own_Go p e below W T (mkF m pc L (.int y :: .int x :: S)) := by
  subst hp; exact own_Go.of (fun t q => XS.iadd X.here hx rfl hd rfl q) h
theorem og_ladd (X : Stand p l e R s m args below meth c T locs cells slots) (hx : p.tables.exec = Jvm.exec) {x y : Int64} (hd : decode c.code pc = .ok (.ladd, 1)) (hp : pc + 1 = pc') (h : own_Go p e below W T (mkF m pc' L (.long (x + y) :: S))) : own_Go p e below W T (mkF m pc L (.long y :: .long x :: S)) := by
  subst hp; exact own_Go.of (fun t q => XS.ladd X.here hx rfl hd rfl q) h
theorem og_isub (X : Stand p l e R s m args below meth c T locs cells slots) (hx : p.tables.exec = Jvm.exec) {x y : Int32} (hd : decode c.code pc = .ok (.isub, 1)) (hp : pc + 1 = pc') (h : own_Go p e below W T (mkF m pc' L (.int (x - y) :: S))) : own_Go p e below W T (mkF m pc L (.int y :: .int x :: S)) := by
  subst hp; exact own_Go.of (fun t q => XS.isub X.here hx rfl hd rfl q) h
theorem og_lsub (X : Stand p l e R s m args below meth c T locs cells slots) (hx : p.tables.exec = Jvm.exec) {x y : Int64} (hd : decode c.code pc = .ok (.lsub, 1)) (hp : pc + 1 = pc') (h : own_Go p e below W T (mkF m pc' L (.long (x - y) :: S))) : own_Go p e below W T (mkF m pc L (.long y :: .long x :: S)) := by
  subst hp; exact own_Go.of (fun t q => XS.lsub X.here hx rfl hd rfl q) h
theorem og_imul (X : Stand p l e R s m args below meth c T locs cells slots) (hx : p.tables.exec = Jvm.exec) {x y : Int32} (hd : decode c.code pc = .ok (.imul, 1)) (hp : pc + 1 = pc') (h : own_Go p e below W T (mkF m pc' L (.int (x * y) :: S))) : own_Go p e below W T (mkF m pc L (.int y :: .int x :: S)) := by
  subst hp; exact own_Go.of (fun t q => XS.imul X.here hx rfl hd rfl q) h
theorem og_lmul (X : Stand p l e R s m args below meth c T locs cells slots) (hx : p.tables.exec = Jvm.exec) {x y : Int64} (hd : decode c.code pc = .ok (.lmul, 1)) (hp : pc + 1 = pc') (h : own_Go p e below W T (mkF m pc' L (.long (x * y) :: S))) : own_Go p e below W T (mkF m pc L (.long y :: .long x :: S)) := by
  subst hp; exact own_Go.of (fun t q => XS.lmul X.here hx rfl hd rfl q) h
theorem og_iand (X : Stand p l e R s m args below meth c T locs cells slots) (hx : p.tables.exec = Jvm.exec) {x y : Int32} (hd : decode c.code pc = .ok (.iand, 1)) (hp : pc + 1 = pc') (h : own_Go p e below W T (mkF m pc' L (.int (x &&& y) :: S))) : own_Go p e below W T (mkF m pc L (.int y :: .int x :: S)) := by
  subst hp; exact own_Go.of (fun t q => XS.iand X.here hx rfl hd rfl q) h
theorem og_land (X : Stand p l e R s m args below meth c T locs cells slots) (hx : p.tables.exec = Jvm.exec) {x y : Int64} (hd : decode c.code pc = .ok (.land, 1)) (hp : pc + 1 = pc') (h : own_Go p e below W T (mkF m pc' L (.long (x &&& y) :: S))) : own_Go p e below W T (mkF m pc L (.long y :: .long x :: S)) := by
  subst hp; exact own_Go.of (fun t q => XS.land X.here hx rfl hd rfl q) h
theorem og_ior (X : Stand p l e R s m args below meth c T locs cells slots) (hx : p.tables.exec = Jvm.exec) {x y : Int32} (hd : decode c.code pc = .ok (.ior, 1)) (hp : pc + 1 = pc') (h : own_Go p e below W T (mkF m pc' L (.int (x ||| y) :: S))) : own_Go p e below W T (mkF m pc L (.int y :: .int x :: S)) := by
  subst hp; exact own_Go.of (fun t q => XS.ior X.here hx rfl hd rfl q) h
theorem og_lor (X : Stand p l e R s m args below meth c T locs cells slots) (hx : p.tables.exec = Jvm.exec) {x y : Int64} (hd : decode c.code pc = .ok (.lor, 1)) (hp : pc + 1 = pc') (h : own_Go p e below W T (mkF m pc' L (.long (x ||| y) :: S))) : own_Go p e below W T (mkF m pc L (.long y :: .long x :: S)) := by
  subst hp; exact own_Go.of (fun t q => XS.lor X.here hx rfl hd rfl q) h
theorem og_ixor (X : Stand p l e R s m args below meth c T locs cells slots) (hx : p.tables.exec = Jvm.exec) {x y : Int32} (hd : decode c.code pc = .ok (.ixor, 1)) (hp : pc + 1 = pc') (h : own_Go p e below W T (mkF m pc' L (.int (x ^^^ y) :: S))) : own_Go p e below W T (mkF m pc L (.int y :: .int x :: S)) := by
  subst hp; exact own_Go.of (fun t q => XS.ixor X.here hx rfl hd rfl q) h
theorem og_lxor (X : Stand p l e R s m args below meth c T locs cells slots) (hx : p.tables.exec = Jvm.exec) {x y : Int64} (hd : decode c.code pc = .ok (.lxor, 1)) (hp : pc + 1 = pc') (h : own_Go p e below W T (mkF m pc' L (.long (x ^^^ y) :: S))) : own_Go p e below W T (mkF m pc L (.long y :: .long x :: S)) := by
  subst hp; exact own_Go.of (fun t q => XS.lxor X.here hx rfl hd rfl q) h
theorem og_ineg (X : Stand p l e R s m args below meth c T locs cells slots) (hx : p.tables.exec = Jvm.exec) {x : Int32} (hd : decode c.code pc = .ok (.ineg, 1)) (hp : pc + 1 = pc') (h : own_Go p e below W T (mkF m pc' L (.int (-x) :: S))) : own_Go p e below W T (mkF m pc L (.int x :: S)) := by
  subst hp; exact own_Go.of (fun t q => XS.ineg X.here hx rfl hd rfl q) h
theorem og_lneg (X : Stand p l e R s m args below meth c T locs cells slots) (hx : p.tables.exec = Jvm.exec) {x : Int64} (hd : decode c.code pc = .ok (.lneg, 1)) (hp : pc + 1 = pc') (h : own_Go p e below W T (mkF m pc' L (.long (-x) :: S))) : own_Go p e below W T (mkF m pc L (.long x :: S)) := by
  subst hp; exact own_Go.of (fun t q => XS.lneg X.here hx rfl hd rfl q) h
theorem og_i2l (X : Stand p l e R s m args below meth c T locs cells slots) (hx : p.tables.exec = Jvm.exec) {x : Int32} (hd : decode c.code pc = .ok (.i2l, 1)) (hp : pc + 1 = pc') (h : own_Go p e below W T (mkF m pc' L (.long (x.toInt64) :: S))) : own_Go p e below W T (mkF m pc L (.int x :: S)) := by
  subst hp; exact own_Go.of (fun t q => XS.i2l X.here hx rfl hd rfl q) h
theorem og_l2i (X : Stand p l e R s m args below meth c T locs cells slots) (hx : p.tables.exec = Jvm.exec) {x : Int64} (hd : decode c.code pc = .ok (.l2i, 1)) (hp : pc + 1 = pc') (h : own_Go p e below W T (mkF m pc' L (.int (x.toInt32) :: S))) : own_Go p e below W T (mkF m pc L (.long x :: S)) := by
  subst hp; exact own_Go.of (fun t q => XS.l2i X.here hx rfl hd rfl q) h
theorem og_i2b (X : Stand p l e R s m args below meth c T locs cells slots) (hx : p.tables.exec = Jvm.exec) {x : Int32} (hd : decode c.code pc = .ok (.i2b, 1)) (hp : pc + 1 = pc') (h : own_Go p e below W T (mkF m pc' L (.int (x.toInt8.toInt32) :: S))) : own_Go p e below W T (mkF m pc L (.int x :: S)) := by
  subst hp; exact own_Go.of (fun t q => XS.i2b X.here hx rfl hd rfl q) h
theorem og_i2s (X : Stand p l e R s m args below meth c T locs cells slots) (hx : p.tables.exec = Jvm.exec) {x : Int32} (hd : decode c.code pc = .ok (.i2s, 1)) (hp : pc + 1 = pc') (h : own_Go p e below W T (mkF m pc' L (.int (x.toInt16.toInt32) :: S))) : own_Go p e below W T (mkF m pc L (.int x :: S)) := by
  subst hp; exact own_Go.of (fun t q => XS.i2s X.here hx rfl hd rfl q) h
theorem og_i2c (X : Stand p l e R s m args below meth c T locs cells slots) (hx : p.tables.exec = Jvm.exec) {x : Int32} (hd : decode c.code pc = .ok (.i2c, 1)) (hp : pc + 1 = pc') (h : own_Go p e below W T (mkF m pc' L (.int (x.toUInt32.toUInt16.toUInt32.toInt32) :: S))) : own_Go p e below W T (mkF m pc L (.int x :: S)) := by
  subst hp; exact own_Go.of (fun t q => XS.i2c X.here hx rfl hd rfl q) h
theorem og_ishl (X : Stand p l e R s m args below meth c T locs cells slots) (hx : p.tables.exec = Jvm.exec) {x : Int32} {y : Int32} (hd : decode c.code pc = .ok (.ishl, 1)) (hp : pc + 1 = pc') (h : own_Go p e below W T (mkF m pc' L (.int (x <<< (y &&& 31)) :: S))) : own_Go p e below W T (mkF m pc L (.int y :: .int x :: S)) := by
  subst hp; exact own_Go.of (fun t q => XS.ishl X.here hx rfl hd rfl q) h
theorem og_ishr (X : Stand p l e R s m args below meth c T locs cells slots) (hx : p.tables.exec = Jvm.exec) {x : Int32} {y : Int32} (hd : decode c.code pc = .ok (.ishr, 1)) (hp : pc + 1 = pc') (h : own_Go p e below W T (mkF m pc' L (.int (x >>> (y &&& 31)) :: S))) : own_Go p e below W T (mkF m pc L (.int y :: .int x :: S)) := by
  subst hp; exact own_Go.of (fun t q => XS.ishr X.here hx rfl hd rfl q) h
theorem og_iushr (X : Stand p l e R s m args below meth c T locs cells slots) (hx : p.tables.exec = Jvm.exec) {x : Int32} {y : Int32} (hd : decode c.code pc = .ok (.iushr, 1)) (hp : pc + 1 = pc') (h : own_Go p e below W T (mkF m pc' L (.int ((x.toUInt32 >>> (y &&& 31).toUInt32).toInt32) :: S))) : own_Go p e below W T (mkF m pc L (.int y :: .int x :: S)) := by
  subst hp; exact own_Go.of (fun t q => XS.iushr X.here hx rfl hd rfl q) h
theorem og_lshl (X : Stand p l e R s m args below meth c T locs cells slots) (hx : p.tables.exec = Jvm.exec) {x : Int64} {y : Int32} (hd : decode c.code pc = .ok (.lshl, 1)) (hp : pc + 1 = pc') (h : own_Go p e below W T (mkF m pc' L (.long (x <<< (y &&& 0x3f).toInt64) :: S))) : own_Go p e below W T (mkF m pc L (.int y :: .long x :: S)) := by
  subst hp; exact own_Go.of (fun t q => XS.lshl X.here hx rfl hd rfl q) h
theorem og_lshr (X : Stand p l e R s m args below meth c T locs cells slots) (hx : p.tables.exec = Jvm.exec) {x : Int64} {y : Int32} (hd : decode c.code pc = .ok (.lshr, 1)) (hp : pc + 1 = pc') (h : own_Go p e below W T (mkF m pc' L (.long (x >>> (y &&& 0x3f).toInt64) :: S))) : own_Go p e below W T (mkF m pc L (.int y :: .long x :: S)) := by
  subst hp; exact own_Go.of (fun t q => XS.lshr X.here hx rfl hd rfl q) h
theorem og_lushr (X : Stand p l e R s m args below meth c T locs cells slots) (hx : p.tables.exec = Jvm.exec) {x : Int64} {y : Int32} (hd : decode c.code pc = .ok (.lushr, 1)) (hp : pc + 1 = pc') (h : own_Go p e below W T (mkF m pc' L (.long ((x.toUInt64 >>> (y &&& 0x3f).toInt64.toUInt64).toInt64) :: S))) : own_Go p e below W T (mkF m pc L (.int y :: .long x :: S)) := by
  subst hp; exact own_Go.of (fun t q => XS.lushr X.here hx rfl hd rfl q) h
theorem og_lcmp (X : Stand p l e R s m args below meth c T locs cells slots) (hx : p.tables.exec = Jvm.exec) {x y : Int64} (hd : decode c.code pc = .ok (.lcmp, 1)) (hp : pc + 1 = pc') (h : own_Go p e below W T (mkF m pc' L (.int (lcmpW x y) :: S))) : own_Go p e below W T (mkF m pc L (.long y :: .long x :: S)) := by
  subst hp; exact own_Go.of (fun t q => XS.lcmp X.here hx rfl hd rfl q) h
theorem og_idiv (X : Stand p l e R s m args below meth c T locs cells slots) (hx : p.tables.exec = Jvm.exec) {x y : Int32} (hd : decode c.code pc = .ok (.idiv, 1)) (hy : y ≠ 0) (hp : pc + 1 = pc') (h : own_Go p e below W T (mkF m pc' L (.int (x / y) :: S))) : own_Go p e below W T (mkF m pc L (.int y :: .int x :: S)) := by
  subst hp; exact own_Go.of (fun t q => XS.idiv X.here hx rfl hd rfl hy q) h
theorem og_ldiv (X : Stand p l e R s m args below meth c T locs cells slots) (hx : p.tables.exec = Jvm.exec) {x y : Int64} (hd : decode c.code pc = .ok (.ldiv, 1)) (hy : y ≠ 0) (hp : pc + 1 = pc') (h : own_Go p e below W T (mkF m pc' L (.long (x / y) :: S))) : own_Go p e below W T (mkF m pc L (.long y :: .long x :: S)) := by
  subst hp; exact own_Go.of (fun t q => XS.ldiv X.here hx rfl hd rfl hy q) h
theorem og_irem (X : Stand p l e R s m args below meth c T locs cells slots) (hx : p.tables.exec = Jvm.exec) {x y : Int32} (hd : decode c.code pc = .ok (.irem, 1)) (hy : y ≠ 0) (hp : pc + 1 = pc') (h : own_Go p e below W T (mkF m pc' L (.int (x % y) :: S))) : own_Go p e below W T (mkF m pc L (.int y :: .int x :: S)) := by
  subst hp; exact own_Go.of (fun t q => iremM X hx rfl hd rfl hy q) h
theorem og_lrem (X : Stand p l e R s m args below meth c T locs cells slots) (hx : p.tables.exec = Jvm.exec) {x y : Int64} (hd : decode c.code pc = .ok (.lrem, 1)) (hy : y ≠ 0) (hp : pc + 1 = pc') (h : own_Go p e below W T (mkF m pc' L (.long (x - (x / y) * y) :: S))) : own_Go p e below W T (mkF m pc L (.long y :: .long x :: S)) := by
  subst hp; exact own_Go.of (fun t q => XS.lrem X.here hx rfl hd rfl hy q) h
theorem og_iinc (X : Stand p l e R s m args below meth c T locs cells slots) (hx : p.tables.exec = Jvm.exec) {k : Nat} {z : Int} {v : Int32} {L' : Array Slot} (hd : decode c.code pc = .ok (.iinc k z, 3)) (hl : L[k]? = some (.val (.int v))) (hs : storeLocals L k (.int (v + Int32.ofInt z)) = some L') (hp : pc + 3 = pc') (h : own_Go p e below W T (mkF m pc' L' S)) : own_Go p e below W T (mkF m pc L S) := by
  subst hp; exact own_Go.of (fun t q => XS.iinc X.here hx rfl hd hl hs q) h
theorem og_dup (X : Stand p l e R s m args below meth c T locs cells slots) (hx : p.tables.exec = Jvm.exec) {v : Value} (hd : decode c.code pc = .ok (.dup, 1)) (hc : v.category = 1) (hp : pc + 1 = pc') (h : own_Go p e below W T (mkF m pc' L (v :: v :: S))) : own_Go p e below W T (mkF m pc L (v :: S)) := by
  subst hp; exact own_Go.of (fun t q => XS.dup X.here hx rfl hd rfl hc q) h
theorem og_pop (X : Stand p l e R s m args below meth c T locs cells slots) (hx : p.tables.exec = Jvm.exec) {v : Value} (hd : decode c.code pc = .ok (.pop, 1)) (hc : v.category = 1) (hp : pc + 1 = pc') (h : own_Go p e below W T (mkF m pc' L S)) : own_Go p e below W T (mkF m pc L (v :: S)) := by
  subst hp; exact own_Go.of (fun t q => XS.pop X.here hx rfl hd rfl hc q) h
theorem og_dup_x1 (X : Stand p l e R s m args below meth c T locs cells slots) (hx : p.tables.exec = Jvm.exec) {v w : Value} (hd : decode c.code pc = .ok (.dup_x1, 1)) (hc : v.category = 1) (hc' : w.category = 1) (hp : pc + 1 = pc') (h : own_Go p e below W T (mkF m pc' L (v :: w :: v :: S))) : own_Go p e below W T (mkF m pc L (v :: w :: S)) := by
  subst hp; exact own_Go.of (fun t q => XS.dupX1 X.here hx rfl hd rfl hc hc' q) h
theorem og_goto (X : Stand p l e R s m args below meth c T locs cells slots) (hx : p.tables.exec = Jvm.exec) {o : Int} (hd : decode c.code pc = .ok (.goto o, 3)) (ho : 0 ≤ (pc : Int) + o) (hp : ((pc : Int) + o).toNat = pc') (h : own_Go p e below W T (mkF m pc' L S)) : own_Go p e below W T (mkF m pc L S) := by
  exact own_Go.of (fun t q => XS.goto X.here hx rfl rfl hd ho hp q) h
theorem og_ifYes (X : Stand p l e R s m args below meth c T locs cells slots) (hx : p.tables.exec = Jvm.exec) {cd : ClassFile.Cond} {x : Int32} {o : Int} (hd : decode c.code pc = .ok (.ifCond cd o, 3)) (hc : ifCond.holds cd x = true) (ho : 0 ≤ (pc : Int) + o) (hp : ((pc : Int) + o).toNat = pc') (h : own_Go p e below W T (mkF m pc' L S)) : own_Go p e below W T (mkF m pc L (.int x :: S)) := by
  exact own_Go.of (fun t q => XS.ifYes X.here hx rfl rfl hd rfl hc ho hp q) h
theorem og_ifNo (X : Stand p l e R s m args below meth c T locs cells slots) (hx : p.tables.exec = Jvm.exec) {cd : ClassFile.Cond} {x : Int32} {o : Int} (hd : decode c.code pc = .ok (.ifCond cd o, 3)) (hc : ifCond.holds cd x = false) (hp : pc + 3 = pc') (h : own_Go p e below W T (mkF m pc' L S)) : own_Go p e below W T (mkF m pc L (.int x :: S)) := by
  subst hp; exact own_Go.of (fun t q => XS.ifNo X.here hx rfl hd rfl hc q) h
theorem og_icmpYes (X : Stand p l e R s m args below meth c T locs cells slots) (hx : p.tables.exec = Jvm.exec) {cd : ClassFile.Cond} {x y : Int32} {o : Int} (hd : decode c.code pc = .ok (.if_icmp cd o, 3)) (hc : if_icmp.holds cd x y = true) (ho : 0 ≤ (pc : Int) + o) (hp : ((pc : Int) + o).toNat = pc') (h : own_Go p e below W T (mkF m pc' L S)) : own_Go p e below W T (mkF m pc L (.int y :: .int x :: S)) := by
  exact own_Go.of (fun t q => XS.icmpYes X.here hx rfl rfl hd rfl hc ho hp q) h
theorem og_icmpNo (X : Stand p l e R s m args below meth c T locs cells slots) (hx : p.tables.exec = Jvm.exec) {cd : ClassFile.Cond} {x y : Int32} {o : Int} (hd : decode c.code pc = .ok (.if_icmp cd o, 3)) (hc : if_icmp.holds cd x y = false) (hp : pc + 3 = pc') (h : own_Go p e below W T (mkF m pc' L S)) : own_Go p e below W T (mkF m pc L (.int y :: .int x :: S)) := by
  subst hp; exact own_Go.of (fun t q => XS.icmpNo X.here hx rfl hd rfl hc q) h
theorem og_ifnullYes (X : Stand p l e R s m args below meth c T locs cells slots) (hx : p.tables.exec = Jvm.exec) {o : Int} (hd : decode c.code pc = .ok (.ifnull o, 3)) (ho : 0 ≤ (pc : Int) + o) (hp : ((pc : Int) + o).toNat = pc') (h : own_Go p e below W T (mkF m pc' L S)) : own_Go p e below W T (mkF m pc L (.null :: S)) := by
  exact own_Go.of (fun t q => XS.ifnullYes X.here hx rfl rfl hd rfl ho hp q) h
theorem og_ifnullNo (X : Stand p l e R s m args below meth c T locs cells slots) (hx : p.tables.exec = Jvm.exec) {b : Addr} {o : Int} (hd : decode c.code pc = .ok (.ifnull o, 3)) (hp : pc + 3 = pc') (h : own_Go p e below W T (mkF m pc' L S)) : own_Go p e below W T (mkF m pc L (.ref b :: S)) := by
  subst hp; exact own_Go.of (fun t q => XS.ifnullNo X.here hx rfl hd rfl q) h
theorem og_ifnonnullYes (X : Stand p l e R s m args below meth c T locs cells slots) (hx : p.tables.exec = Jvm.exec) {b : Addr} {o : Int} (hd : decode c.code pc = .ok (.ifnonnull o, 3)) (ho : 0 ≤ (pc : Int) + o) (hp : ((pc : Int) + o).toNat = pc') (h : own_Go p e below W T (mkF m pc' L S)) : own_Go p e below W T (mkF m pc L (.ref b :: S)) := by
  exact own_Go.of (fun t q => XS.ifnonnullYes X.here hx rfl rfl hd rfl ho hp q) h
theorem og_ifnonnullNo (X : Stand p l e R s m args below meth c T locs cells slots) (hx : p.tables.exec = Jvm.exec) {o : Int} (hd : decode c.code pc = .ok (.ifnonnull o, 3)) (hp : pc + 3 = pc') (h : own_Go p e below W T (mkF m pc' L S)) : own_Go p e below W T (mkF m pc L (.null :: S)) := by
  subst hp; exact own_Go.of (fun t q => XS.ifnonnullNo X.here hx rfl hd rfl q) h
theorem og_ldc (X : Stand p l e R s m args below meth c T locs cells slots) (hx : p.tables.exec = Jvm.exec) {own : String} {index : Nat} {v : Int32} (hd : decode c.code pc = .ok (.ldc index, 2)) (hown : s.vm.findClass own = some m.cls) (w : (Jvm.Cond.constant own index v).before args s = true) (hp : pc + 2 = pc') (h : own_Go p e below W T (mkF m pc' L (.int v :: S))) : own_Go p e below W T (mkF m pc L S) := by
  subst hp; exact own_Go.of (fun t q => X.ldcInt hx hown w (g := mkF m pc L S) rfl hd _ q) h
theorem og_ldc2_w (X : Stand p l e R s m args below meth c T locs cells slots) (hx : p.tables.exec = Jvm.exec) {own : String} {index : Nat} {v : Int64} (hd : decode c.code pc = .ok (.ldc2_w index, 3)) (hown : s.vm.findClass own = some m.cls) (w : (Jvm.Cond.constantLong own index v).before args s = true) (hp : pc + 3 = pc') (h : own_Go p e below W T (mkF m pc' L (.long v :: S))) : own_Go p e below W T (mkF m pc L S) := by
  subst hp; exact own_Go.of (fun t q => X.ldc2Long hx hown w (g := mkF m pc L S) rfl hd _ q) h
end OwnSteps
theorem own_eq_int {args : Array Value} {first s : State} {o : Option Outcome} {idx : List Nat} {a : Term} {z : Int32} (h : (Jvm.Cond.eq a (Term.int z)).value args first o s idx = some true) : a.eval args first o idx s = some (.int z) := by
  obtain ⟨x, y, ha, hb, k1, k2⟩ := cmp_v (Or.inl h)
  have e : y = .int z := Option.some.inj (hb.symm.trans (Term.int_eval z))
  subst e
  obtain ⟨w, rfl⟩ := k2
  simp [Cond.value, ha, hb] at h
  rw [ha, h]

theorem own_fold (f : Nat → Option Bool) : ∀ n, (List.range n).foldl (init := some true) (fun acc i => match acc with | some true => f i | x => x) = some true → ∀ i, i < n → f i = some true := by
  intro n
  induction n with
  | zero => intro _ i hi; exact absurd hi (Nat.not_lt_zero i)
  | succ n ih =>
    intro h i hi
    rw [List.range_succ, List.foldl_append] at h
    generalize hg : (List.range n).foldl (init := some true) (fun acc i => match acc with | some true => f i | x => x) = g at h
    simp only [List.foldl_cons, List.foldl_nil] at h
    cases g with
    | none => simp at h
    | some b =>
      cases b with
      | false => simp at h
      | true =>
        rcases Nat.lt_or_ge i n with q | q
        · exact ih hg i q
        · have e : i = n := by omega
          subst e; exact h
theorem own_all {args : Array Value} {s : State} {t : Term} {c : Jvm.Cond} {a : Addr} {cell : Cell} (h : (Jvm.Cond.all t c).value args s none s [] = some true) (ht : t.eval args s none [] s = some (.ref a)) (ha : s.arrayAt? a = some cell) : ∀ i, i < cell.slots.size → c.value args s none s [i] = some true := by
  simp only [Cond.value, ht, ha] at h
  exact own_fold (fun i => c.value args s none s [i]) _ h
theorem own_len {args : Array Value} {s : State} {t : Term} {a : Addr} {cell : Cell} {z : Int32} (h : (Jvm.Cond.eq (Term.length t) (Term.int z)).value args s none s [] = some true) (ht : t.eval args s none [] s = some (.ref a)) (ha : s.arrayAt? a = some cell) : cell.slots.size < 2 ^ 31 ∧ cell.slots.size.toInt32 = z := by
  have q := own_eq_int h
  simp only [Term.eval, ht, ha, Option.bind_eq_bind, Option.bind_some] at q
  by_cases hl : cell.slots.size < 2 ^ 31
  · simp [hl] at q; exact ⟨hl, q⟩
  · simp [hl] at q
theorem own_exa {args : Array Value} {s : State} {t : Term} {r : Addr} {C : String} {idx : List Nat} (h : (Jvm.Cond.exactly t C).value args s none s idx = some true) (ht : t.eval args s none idx s = some (.ref r)) : Exa s s.heap r C := by
  refine Exa.start (args := #[.ref r]) (t := Term.arg 0) rfl ?_
  have e : (Term.arg 0).eval #[.ref r] s none [] s = some (.ref r) := rfl
  simp only [Cond.value, ht] at h
  simp only [Cond.value, e]
  exact h

theorem own_nsRoot {Z : State} {a0 : Array Value} {O K : String} {n : Nat} (w : (Jvm.Cond.noSuperclass O).before a0 Z = true) (wk : (Jvm.Cond.instantiable K n).before a0 Z = true) (hn : O ≠ K) : NS Z O K := by
  obtain ⟨c, k, h1, h2, h3, -, -⟩ := Cond.noSuperclass_spec w
  obtain ⟨t, kt, g1, -⟩ := Cond.instantiable_spec wk
  have ne := ids_ne h1 g1 hn
  refine ⟨c, t, h1, g1, fun fuel => ?_⟩
  cases fuel with
  | zero => rfl
  | succ f => simp [Vm.isSubclassAux, ne, h2, h3]
theorem own_nsNo {Z : State} {a0 : Array Value} {C S K : String} {n : Nat} (w : (Jvm.Cond.superclass C S).before a0 Z = true) (wk : (Jvm.Cond.instantiable K n).before a0 Z = true) (q : NS Z C K) (hn : C ≠ K) : ∃ c t, Z.vm.findClass C = some c ∧ Z.vm.findClass K = some t ∧ Z.vm.assignable c t = false := by
  obtain ⟨c, t, h0, g0, n3⟩ := q
  obtain ⟨p, k, kp, h1, h2, h3, h4, h5, -, h7⟩ := Cond.superclass_spec h0 w
  obtain ⟨t', kt, g1, g2, g3, g4, -⟩ := Cond.instantiable_spec wk
  cases g0.symm.trans g1
  have ne := ids_ne h0 g0 hn
  have gi : kt.isInterface = false := by
    simp only [Bool.or_eq_false_iff] at g4
    exact g4.1
  refine ⟨c, t, h0, g0, ?_⟩
  show Z.vm.assignableAux (255 + 1) c t = false
  simp [Vm.assignableAux, ne, h2, g2, h5, g3, gi, Vm.isSubclass, n3]

def own_Cache (Z : State) (ca : Addr) : Prop := ∃ cell : Cell, Arr Z Z.heap ca cell (.object "java/lang/Integer") ∧ cell.slots.size = 256 ∧ ∀ i, i < 256 → ∃ r : Addr, cell.slots[i]? = some (.ref r) ∧ Exa Z Z.heap r "java/lang/Integer"
theorem own_cache_at {Z : State} {ca : Addr} (hC : own_Cache Z ca) {x : Int32} (h1 : ¬ x < (-128 : Int32)) (h2 : ¬ (127 : Int32) < x) : ∃ (cell : Cell) (r : Addr), Arr Z Z.heap ca cell (.object "java/lang/Integer") ∧ ¬ ((x + (128 : Int32)) < 0 ∨ cell.slots.size ≤ (x + (128 : Int32)).toNatClampNeg) ∧ cell.slots[(x + (128 : Int32)).toNatClampNeg]? = some (.ref r) ∧ Exa Z Z.heap r "java/lang/Integer" := by
  obtain ⟨cell, A, hs, hr⟩ := hC
  rw [Int32.lt_iff_toInt_lt] at h1 h2
  have e1 : (-128 : Int32).toInt = -128 := by decide
  have e2 : (127 : Int32).toInt = 127 := by decide
  rw [e1] at h1
  rw [e2] at h2
  have q3 := c_iadd x (128 : Int32)
  have e3 : (128 : Int32).toInt = 128 := by decide
  rw [e3] at q3
  have q4 := rng32 (x + (128 : Int32))
  have n0 : ¬ (x + (128 : Int32)) < 0 := by
    rw [Int32.lt_iff_toInt_lt]
    have e4 : (0 : Int32).toInt = 0 := by decide
    rw [e4]; omega
  have n1 := nat_of n0
  have lt : (x + (128 : Int32)).toNatClampNeg < 256 := by omega
  obtain ⟨r, c1, c2⟩ := hr _ lt
  exact ⟨cell, r, A, fun q => q.elim n0 fun q => by omega, c1, c2⟩
theorem own_cache_start {s : State} {args : Array Value} (hf : Fit s) (hi : (Jvm.Cond.initialized "java/lang/Integer$IntegerCache").before args s = true)
    (h0 : (Jvm.Cond.laysStatic "java/lang/Integer$IntegerCache" "high" "I").before args s = true) (h0' : (Jvm.Cond.initializedFor "java/lang/Integer$IntegerCache" "high" "I").before args s = true) (h1 : (Jvm.Cond.laysStatic "java/lang/Integer$IntegerCache" "cache" "[Ljava/lang/Integer;").before args s = true) (h1' : (Jvm.Cond.eq (Jvm.Term.static "java/lang/Integer$IntegerCache" "high" "I") (Jvm.Term.int (127 : Int32))).before args s = true)
    (h2 : (Jvm.Cond.arrayOf (Jvm.Term.static "java/lang/Integer$IntegerCache" "cache" "[Ljava/lang/Integer;") (Jvm.ClassFile.FieldType.object "java/lang/Integer")).before args s = true)
    (h3 : (Jvm.Cond.exactly (Jvm.Term.static "java/lang/Integer$IntegerCache" "cache" "[Ljava/lang/Integer;") "[Ljava/lang/Integer;").before args s = true)
    (h4 : (Jvm.Cond.eq (Jvm.Term.length (Jvm.Term.static "java/lang/Integer$IntegerCache" "cache" "[Ljava/lang/Integer;")) (Jvm.Term.int (256 : Int32))).before args s = true)
    (h5 : (Jvm.Cond.all (Jvm.Term.static "java/lang/Integer$IntegerCache" "cache" "[Ljava/lang/Integer;") (Jvm.Cond.and (Jvm.Cond.exactly (Jvm.Term.elem (Jvm.Term.static "java/lang/Integer$IntegerCache" "cache" "[Ljava/lang/Integer;") (Jvm.Term.index (0 : Nat))) "java/lang/Integer") (Jvm.Cond.eq (Jvm.Term.field (Jvm.Term.elem (Jvm.Term.static "java/lang/Integer$IntegerCache" "cache" "[Ljava/lang/Integer;") (Jvm.Term.index (0 : Nat))) "java/lang/Integer" "value" "I") (Jvm.Term.sub (Jvm.Term.index (0 : Nat)) (Jvm.Term.int (128 : Int32)))))).before args s = true) :
    ∃ ca, Sta s s.heap "java/lang/Integer$IntegerCache" "high" "I" (.int (127 : Int32)) ∧ Sta s s.heap "java/lang/Integer$IntegerCache" "cache" "[Ljava/lang/Integer;" (.ref ca) ∧ own_Cache s ca := by
  obtain ⟨ca, ec⟩ := arr_v (Cond.before_iff.mp h2)
  have S := Sta.start ec (Or.inr ⟨hi, h1⟩)
  have Sh := Sta.start (own_eq_int (Cond.before_iff.mp h1')) (Or.inl h0')
  obtain ⟨cell, A⟩ := Arr.start ec (Cond.before_iff.mp h2)
  have hA := A.fin (U := s) (Vm.Alike.refl _)
  obtain ⟨hl, hz⟩ := own_len (Cond.before_iff.mp h4) ec hA
  have hs : cell.slots.size = 256 := by
    have q := congrArg Int32.toInt hz
    rw [len_toInt hl] at q
    have e : (256 : Int32).toInt = 256 := by decide
    rw [e] at q
    omega
  refine ⟨ca, Sh, S, cell, A, hs, fun i hi => ?_⟩
  obtain ⟨g1, -⟩ := and_e (own_all (Cond.before_iff.mp h5) ec hA i (by omega))
  obtain ⟨r, er⟩ := exa_v g1
  have ej : (Jvm.Term.index (0 : Nat)).eval args s none [i] s = some (.int i.toInt32) := rfl
  obtain ⟨c1, c2⟩ := elem_in er (show (Jvm.Term.static "java/lang/Integer$IntegerCache" "cache" "[Ljava/lang/Integer;").eval args s none [i] s = _ from ec) ej A.1
  have en : (i.toInt32).toNatClampNeg = i := by
    have q := nat_of (fun q => c1 (Or.inl q))
    rw [len_toInt (by omega)] at q
    omega
  rw [en] at c2
  exact ⟨r, c2, own_exa g1 er⟩

theorem d2_0 : decode jdk_30_method_1_code 0 = .ok (.aload_n 0, 1) := by decide +kernel
theorem d2_1 : decode jdk_30_method_1_code 1 = .ok (.invokespecial 1, 3) := by decide +kernel
theorem d2_4 : decode jdk_30_method_1_code 4 = .ok (.return_, 1) := by decide +kernel
theorem pnRec : plainName "java/lang/Record" = true := by first | (simp [plainName, overriddenIn]; done) | decide +kernel
theorem efRec (m : MethodId) (z0 : Addr) : entryFrame m #[(.ref z0)] 1 = mkF m 0 #[.val (.ref z0)] [] := by first | (simp [entryFrame, mkF, argsToLocals, Value.category]; done) | rfl
def QRec (Z : State) (o : Addr) (h0 : Heap) (n0 : Nat) (v : Option Value) (h : Heap) (L : List Loc) : Prop := v = none ∧ Fr n0 L ∧ h = h0
set_option maxRecDepth 65536 in
set_option maxHeartbeats 40000000 in
theorem rmRec (l : Launch) (Z : State) (a0 : Array Value) (hw : ∀ d ∈ tables_1, d.before a0 Z = true) (ws : List Jvm.Cond) (o : Addr) (h0 : Heap) (n0 : Nat) (Z0 : n0 ≤ h0.size) :
    MetFree l (⟨"java/lang/Record", "<init>", "()V"⟩ : MethodName) (head1 (Jvm.Cond.code (⟨"java/lang/Record", "<init>", "()V"⟩ : MethodName) jdk_30_method_1_code 1 none :: ws) ({ frames := 1, cells := 0, slots := 0, locals := 12 } : Room)) (fun a U => a = #[(.ref o)] ∧ Z.Warmed39 U.vm ∧ U.heap = h0) (fun _ _ _ _ _ => True) (fun _ U oc U' => ∃ v L, oc = .returned v ∧ QRec Z o h0 n0 v U'.heap L ∧ FrameEnd U oc U' L ({ frames := 1, cells := 0, slots := 0, locals := 12 } : Room).cells ({ frames := 1, cells := 0, slots := 0, locals := 12 } : Room).slots) := by
  refine MetFree.of_bodySF (plainFor_of_name pnRec) hisR ?_
  intro p e s m args below meth c s₁ Bd hml0 hP hK
  obtain ⟨rfl, hZ, hh⟩ := hP
  have hx := Bd.exec
  have hby := Bd.bytes
  have hml : c.maxLocals = 1 := hml0
  have hown : s.vm.findClass "java/lang/Record" = some m.cls := findClass_of_methodNamed Bd.named
  have hnm := (name_of_methodNamed Bd.named Bd.method).1
  have X0 : Stand p l e ({ frames := 1, cells := 0, slots := 0, locals := 12 } : Room) s m #[(.ref o)] below meth c s₁ [] 0 0 := Stand.of_body Bd
  have e0 : s₁.heap = h0 := by rw [← hh, Bd.state]; rfl
  have N0 := Fr.nil n0
  show own_Go p e below (fun s₂ oc => ∃ v L, oc = .returned v ∧ QRec Z o h0 n0 v s₂.heap L ∧ FrameEnd s oc s₂ L ({ frames := 1, cells := 0, slots := 0, locals := 12 } : Room).cells ({ frames := 1, cells := 0, slots := 0, locals := 12 } : Room).slots) s₁ (entryFrame m #[(.ref o)] 1)
  refine own_Go.of (g' := mkF m 0 #[.val (.ref o)] []) (fun t k => castTop (efRec m o) k) ?_
  refine og_aloadN (pc' := 1) X0 hx (hb hby d2_0) rfl rfl rfl ?_
  obtain ⟨T1, X1, e1, st1⟩ := initO X0 hx hZ hown (hw _ (List.mem_of_getElem? (i := 14) rfl)) (hw _ (List.mem_of_getElem? (i := 15) rfl)) (hw _ (List.mem_of_getElem? (i := 16) rfl)) e0 (g := (mkF m 1 #[.val (.ref o)] [(.ref o)])) rfl (by rw [hml]; rfl) rfl (hb hby d2_1) (by decide) (W := 0) (by show 2 * 0 + _ ≤ _; exact Nat.le_of_eq rfl) (by decide)
  refine own_Go.of (g' := (mkF m 4 #[.val (.ref o)] [])) (fun t k => st1 _ k) ?_
  obtain ⟨fs, hr, hrun, hended, hW, hsame⟩ := X1.leave (v := none) (fun _ => rfl) (BodyLoose.notSynchronized Bd)
  refine ⟨_, _, X1.returnOut hx Bd.returns (hb hby d2_4) hr, hrun, hended, none, _, rfl, ?_, ⟨_, rfl⟩, hW, hsame.mono (by decide) (by decide)⟩
  show QRec Z o h0 n0 _ T1.heap _
  rw [e1]
  exact ⟨rfl, N0, rfl⟩

theorem d9_0 : decode jdk_18_method_1_code 0 = .ok (.aload_n 0, 1) := by decide +kernel
theorem d9_1 : decode jdk_18_method_1_code 1 = .ok (.invokespecial 1, 3) := by decide +kernel
theorem d9_4 : decode jdk_18_method_1_code 4 = .ok (.return_, 1) := by decide +kernel
theorem pnNum : plainName "java/lang/Number" = true := by first | (simp [plainName, overriddenIn]; done) | decide +kernel
theorem efNum (m : MethodId) (z0 : Addr) : entryFrame m #[(.ref z0)] 1 = mkF m 0 #[.val (.ref z0)] [] := by first | (simp [entryFrame, mkF, argsToLocals, Value.category]; done) | rfl
def QNum (Z : State) (o : Addr) (h0 : Heap) (n0 : Nat) (v : Option Value) (h : Heap) (L : List Loc) : Prop := v = none ∧ Fr n0 L ∧ h = h0
set_option maxRecDepth 65536 in
set_option maxHeartbeats 40000000 in
theorem rmNum (l : Launch) (Z : State) (a0 : Array Value) (hw : ∀ d ∈ tables_1, d.before a0 Z = true) (ws : List Jvm.Cond) (o : Addr) (h0 : Heap) (n0 : Nat) (Z0 : n0 ≤ h0.size) :
    MetFree l (⟨"java/lang/Number", "<init>", "()V"⟩ : MethodName) (head1 (Jvm.Cond.code (⟨"java/lang/Number", "<init>", "()V"⟩ : MethodName) jdk_18_method_1_code 1 none :: ws) ({ frames := 1, cells := 0, slots := 0, locals := 12 } : Room)) (fun a U => a = #[(.ref o)] ∧ Z.Warmed39 U.vm ∧ U.heap = h0) (fun _ _ _ _ _ => True) (fun _ U oc U' => ∃ v L, oc = .returned v ∧ QNum Z o h0 n0 v U'.heap L ∧ FrameEnd U oc U' L ({ frames := 1, cells := 0, slots := 0, locals := 12 } : Room).cells ({ frames := 1, cells := 0, slots := 0, locals := 12 } : Room).slots) := by
  refine MetFree.of_bodySF (plainFor_of_name pnNum) hisR ?_
  intro p e s m args below meth c s₁ Bd hml0 hP hK
  obtain ⟨rfl, hZ, hh⟩ := hP
  have hx := Bd.exec
  have hby := Bd.bytes
  have hml : c.maxLocals = 1 := hml0
  have hown : s.vm.findClass "java/lang/Number" = some m.cls := findClass_of_methodNamed Bd.named
  have hnm := (name_of_methodNamed Bd.named Bd.method).1
  have X0 : Stand p l e ({ frames := 1, cells := 0, slots := 0, locals := 12 } : Room) s m #[(.ref o)] below meth c s₁ [] 0 0 := Stand.of_body Bd
  have e0 : s₁.heap = h0 := by rw [← hh, Bd.state]; rfl
  have N0 := Fr.nil n0
  show own_Go p e below (fun s₂ oc => ∃ v L, oc = .returned v ∧ QNum Z o h0 n0 v s₂.heap L ∧ FrameEnd s oc s₂ L ({ frames := 1, cells := 0, slots := 0, locals := 12 } : Room).cells ({ frames := 1, cells := 0, slots := 0, locals := 12 } : Room).slots) s₁ (entryFrame m #[(.ref o)] 1)
  refine own_Go.of (g' := mkF m 0 #[.val (.ref o)] []) (fun t k => castTop (efNum m o) k) ?_
  refine og_aloadN (pc' := 1) X0 hx (hb hby d9_0) rfl rfl rfl ?_
  obtain ⟨T1, X1, e1, st1⟩ := initO X0 hx hZ hown (hw _ (List.mem_of_getElem? (i := 77) rfl)) (hw _ (List.mem_of_getElem? (i := 15) rfl)) (hw _ (List.mem_of_getElem? (i := 16) rfl)) e0 (g := (mkF m 1 #[.val (.ref o)] [(.ref o)])) rfl (by rw [hml]; rfl) rfl (hb hby d9_1) (by decide) (W := 0) (by show 2 * 0 + _ ≤ _; exact Nat.le_of_eq rfl) (by decide)
  refine own_Go.of (g' := (mkF m 4 #[.val (.ref o)] [])) (fun t k => st1 _ k) ?_
  obtain ⟨fs, hr, hrun, hended, hW, hsame⟩ := X1.leave (v := none) (fun _ => rfl) (BodyLoose.notSynchronized Bd)
  refine ⟨_, _, X1.returnOut hx Bd.returns (hb hby d9_4) hr, hrun, hended, none, _, rfl, ?_, ⟨_, rfl⟩, hW, hsame.mono (by decide) (by decide)⟩
  show QNum Z o h0 n0 _ T1.heap _
  rw [e1]
  exact ⟨rfl, N0, rfl⟩

theorem d5_0 : decode prog_20_method_1_code 0 = .ok (.aload_n 0, 1) := by decide +kernel
theorem d5_1 : decode prog_20_method_1_code 1 = .ok (.invokespecial 1, 3) := by decide +kernel
theorem d5_4 : decode prog_20_method_1_code 4 = .ok (.aload_n 0, 1) := by decide +kernel
theorem d5_5 : decode prog_20_method_1_code 5 = .ok (.iload_n 1, 1) := by decide +kernel
theorem d5_6 : decode prog_20_method_1_code 6 = .ok (.putfield 7, 3) := by decide +kernel
theorem d5_9 : decode prog_20_method_1_code 9 = .ok (.aload_n 0, 1) := by decide +kernel
theorem d5_10 : decode prog_20_method_1_code 10 = .ok (.iload_n 2, 1) := by decide +kernel
theorem d5_11 : decode prog_20_method_1_code 11 = .ok (.putfield 13, 3) := by decide +kernel
theorem d5_14 : decode prog_20_method_1_code 14 = .ok (.aload_n 0, 1) := by decide +kernel
theorem d5_15 : decode prog_20_method_1_code 15 = .ok (.iload_n 3, 1) := by decide +kernel
theorem d5_16 : decode prog_20_method_1_code 16 = .ok (.putfield 16, 3) := by decide +kernel
theorem d5_19 : decode prog_20_method_1_code 19 = .ok (.return_, 1) := by decide +kernel
theorem pnEF : plainName "com/example/capwright/capwright/cap/CapFile$ExternalField" = true := by first | (simp [plainName, overriddenIn]; done) | decide +kernel
theorem pd_0 : parseMethodDescriptor "()V" = some ⟨[], none⟩ := by decide +kernel
theorem efEF (m : MethodId) (z0 : Addr) (z1 : Int32) (z2 : Int32) (z3 : Int32) : entryFrame m #[(.ref z0), (.int z1), (.int z2), (.int z3)] 4 = mkF m 0 #[.val (.ref z0), .val (.int z1), .val (.int z2), .val (.int z3)] [] := by first | (simp [entryFrame, mkF, argsToLocals, Value.category]; done) | rfl
def QEF (Z : State) (o : Addr) (p0 : Int32) (p1 : Int32) (p2 : Int32) (u0 : Value) (u1 : Value) (u2 : Value) (h0 : Heap) (n0 : Nat) (v : Option Value) (h : Heap) (L : List Loc) : Prop := v = none ∧ Fr n0 L ∧ Keep h0 h [o] ∧ Exa Z h o "com/example/capwright/capwright/cap/CapFile$ExternalField" ∧ Fld Z h o "com/example/capwright/capwright/cap/CapFile$ExternalField" "packageToken" "I" (.int p0) ∧ Fld Z h o "com/example/capwright/capwright/cap/CapFile$ExternalField" "classToken" "I" (.int p1) ∧ Fld Z h o "com/example/capwright/capwright/cap/CapFile$ExternalField" "token" "I" (.int p2)
set_option maxRecDepth 65536 in
set_option maxHeartbeats 40000000 in
theorem rmEF (l : Launch) (Z : State) (a0 : Array Value) (hw : ∀ d ∈ tables_1, d.before a0 Z = true) (ws : List Jvm.Cond) (o : Addr) (p0 : Int32) (p1 : Int32) (p2 : Int32) (u0 : Value) (u1 : Value) (u2 : Value) (h0 : Heap) (n0 : Nat) (Z0 : n0 ≤ h0.size) (E_o : Exa Z h0 o "com/example/capwright/capwright/cap/CapFile$ExternalField") (F0_o : Fld Z h0 o "com/example/capwright/capwright/cap/CapFile$ExternalField" "packageToken" "I" u0) (F1_o : Fld Z h0 o "com/example/capwright/capwright/cap/CapFile$ExternalField" "classToken" "I" u1) (F2_o : Fld Z h0 o "com/example/capwright/capwright/cap/CapFile$ExternalField" "token" "I" u2) (g_o : n0 ≤ o) :
    MetFree l (⟨"com/example/capwright/capwright/cap/CapFile$ExternalField", "<init>", "(III)V"⟩ : MethodName) (head1 (Jvm.Cond.code (⟨"com/example/capwright/capwright/cap/CapFile$ExternalField", "<init>", "(III)V"⟩ : MethodName) prog_20_method_1_code 4 none :: ws) ({ frames := 2, cells := 0, slots := 0, locals := 24 } : Room)) (fun a U => a = #[(.ref o), (.int p0), (.int p1), (.int p2)] ∧ Z.Warmed39 U.vm ∧ U.heap = h0) (fun _ _ _ _ _ => True) (fun _ U oc U' => ∃ v L, oc = .returned v ∧ QEF Z o p0 p1 p2 u0 u1 u2 h0 n0 v U'.heap L ∧ FrameEnd U oc U' L ({ frames := 2, cells := 0, slots := 0, locals := 24 } : Room).cells ({ frames := 2, cells := 0, slots := 0, locals := 24 } : Room).slots) := by
  refine MetFree.of_bodySF (plainFor_of_name pnEF) hisR ?_
  intro p e s m args below meth c s₁ Bd hml0 hP hK
  obtain ⟨rfl, hZ, hh⟩ := hP
  have hx := Bd.exec
  have hby := Bd.bytes
  have hml : c.maxLocals = 4 := hml0
  have hown : s.vm.findClass "com/example/capwright/capwright/cap/CapFile$ExternalField" = some m.cls := findClass_of_methodNamed Bd.named
  have hnm := (name_of_methodNamed Bd.named Bd.method).1
  have X0 : Stand p l e ({ frames := 2, cells := 0, slots := 0, locals := 24 } : Room) s m #[(.ref o), (.int p0), (.int p1), (.int p2)] below meth c s₁ [] 0 0 := Stand.of_body Bd
  have e0 : s₁.heap = h0 := by rw [← hh, Bd.state]; rfl
  have N0 := Fr.nil n0
  show own_Go p e below (fun s₂ oc => ∃ v L, oc = .returned v ∧ QEF Z o p0 p1 p2 u0 u1 u2 h0 n0 v s₂.heap L ∧ FrameEnd s oc s₂ L ({ frames := 2, cells := 0, slots := 0, locals := 24 } : Room).cells ({ frames := 2, cells := 0, slots := 0, locals := 24 } : Room).slots) s₁ (entryFrame m #[(.ref o), (.int p0), (.int p1), (.int p2)] 4)
  refine own_Go.of (g' := mkF m 0 #[.val (.ref o), .val (.int p0), .val (.int p1), .val (.int p2)] []) (fun t k => castTop (efEF m o p0 p1 p2) k) ?_
  refine og_aloadN (pc' := 1) X0 hx (hb hby d5_0) rfl rfl rfl ?_
  obtain ⟨_, _, ⟨T1, L1, k1, n1⟩, -, X1, ⟨Lc1, hQ1, l1, y1, z1⟩, st1⟩ := X0.specialBack hx (y := (⟨"java/lang/Record", "<init>", "()V"⟩ : MethodName)) rfl hown (mvT hZ (hw _ (List.mem_of_getElem? (i := 36) rfl))) (mvT hZ (hw _ (List.mem_of_getElem? (i := 10) rfl))) (mvT hZ (hw _ (List.mem_of_getElem? (i := 13) rfl))) (by decide) (backOf (W := 0) (rmRec l Z a0 hw [] o h0 n0 Z0 ) hZ (hw _ (List.mem_of_getElem? (i := 13) rfl)) (hw _ (List.mem_of_getElem? (i := 12) rfl)) (by decide) (by decide)) (g := (mkF m 1 #[.val (.ref o), .val (.int p0), .val (.int p1), .val (.int p2)] [(.ref o)])) rfl (by rw [hml]; rfl) (Steps.refl _) (a := o) (argsL := []) (rest := []) (lenOf pd_0 rfl) rfl (by show 2 * 0 + _ ≤ _; exact Nat.le_of_eq rfl) (hb hby d5_1) (fun _ _ => ⟨rfl, e0, (by decide : 0 + 0 ≤ _), (by decide : 0 + 0 ≤ _)⟩)
  dsimp only [Pt.U, Pt.locs, Pt.cells, Pt.slots] at X1 l1 y1 z1 st1 hQ1
  subst l1 y1 z1
  obtain ⟨rfl, N1q, e1⟩ := hQ1
  have N1 := Fr.app N0 N1q
  refine own_Go.of (g' := (mkF m 4 #[.val (.ref o), .val (.int p0), .val (.int p1), .val (.int p2)] [])) (fun t k => st1.trans k) ?_
  refine og_aloadN (pc' := 5) X1 hx (hb hby d5_4) rfl rfl rfl ?_
  refine og_iloadN (pc' := 6) X1 hx (hb hby d5_5) rfl rfl ?_
  obtain ⟨T2, h2, X2, e2, W2, st2⟩ := putF X1 hx hZ hown (host := "") (Or.inl (hw _ (List.mem_of_getElem? (i := 37) rfl))) Via.refl e1 F0_o E_o (Or.inr ⟨(hw _ (List.mem_of_getElem? (i := 38) rfl)), rfl, hnm⟩) (hw _ (List.mem_of_getElem? (i := 31) rfl)) (ty := .int) (by decide) rfl rfl (g := (mkF m 6 #[.val (.ref o), .val (.int p0), .val (.int p1), .val (.int p2)] [(.int p0), (.ref o)])) rfl rfl (hb hby d5_6)
  have w2 : Fld Z h2 o "com/example/capwright/capwright/cap/CapFile$ExternalField" "packageToken" "I" (.int p0) := F0_o.same W2
  have f2_0 := E_o.wr W2
  have f2_1 := F1_o.other W2 (Or.inr (slot_ne (a0 := a0) (C := "com/example/capwright/capwright/cap/CapFile$ExternalField") (Or.inr (hw _ (List.mem_of_getElem? (i := 40) rfl))) (Or.inr (hw _ (List.mem_of_getElem? (i := 38) rfl))) (by decide) (t := .int) (t' := .int) (by decide) (by decide)))
  have f2_2 := F2_o.other W2 (Or.inr (slot_ne (a0 := a0) (C := "com/example/capwright/capwright/cap/CapFile$ExternalField") (Or.inr (hw _ (List.mem_of_getElem? (i := 42) rfl))) (Or.inr (hw _ (List.mem_of_getElem? (i := 38) rfl))) (by decide) (t := .int) (t' := .int) (by decide) (by decide)))
  have K2 : Keep h0 h2 [o] := (Keep.refl h0 [o]).wr W2 (Or.inl (List.mem_of_getElem? (i := 0) rfl))
  have Z2 : n0 ≤ h2.size := Nat.le_trans Z0 K2.1
  have N2 := Fr.snoc X2 N1 g_o
  refine own_Go.of (g' := (mkF m 9 #[.val (.ref o), .val (.int p0), .val (.int p1), .val (.int p2)] [])) (fun t k => st2 _ k) ?_
  refine og_aloadN (pc' := 10) X2 hx (hb hby d5_9) rfl rfl rfl ?_
  refine og_iloadN (pc' := 11) X2 hx (hb hby d5_10) rfl rfl ?_
  obtain ⟨T3, h3, X3, e3, W3, st3⟩ := putF X2 hx hZ hown (host := "") (Or.inl (hw _ (List.mem_of_getElem? (i := 39) rfl))) Via.refl e2 f2_1 f2_0 (Or.inr ⟨(hw _ (List.mem_of_getElem? (i := 40) rfl)), rfl, hnm⟩) (hw _ (List.mem_of_getElem? (i := 31) rfl)) (ty := .int) (by decide) rfl rfl (g := (mkF m 11 #[.val (.ref o), .val (.int p0), .val (.int p1), .val (.int p2)] [(.int p1), (.ref o)])) rfl rfl (hb hby d5_11)
  have w3 : Fld Z h3 o "com/example/capwright/capwright/cap/CapFile$ExternalField" "classToken" "I" (.int p1) := f2_1.same W3
  have f3_0 := f2_0.wr W3
  have f3_1 := f2_2.other W3 (Or.inr (slot_ne (a0 := a0) (C := "com/example/capwright/capwright/cap/CapFile$ExternalField") (Or.inr (hw _ (List.mem_of_getElem? (i := 42) rfl))) (Or.inr (hw _ (List.mem_of_getElem? (i := 40) rfl))) (by decide) (t := .int) (t' := .int) (by decide) (by decide)))
  have f3_3 := w2.other W3 (Or.inr (slot_ne (a0 := a0) (C := "com/example/capwright/capwright/cap/CapFile$ExternalField") (Or.inr (hw _ (List.mem_of_getElem? (i := 38) rfl))) (Or.inr (hw _ (List.mem_of_getElem? (i := 40) rfl))) (by decide) (t := .int) (t' := .int) (by decide) (by decide)))
  have K3 : Keep h0 h3 [o] := K2.wr W3 (Or.inl (List.mem_of_getElem? (i := 0) rfl))
  have Z3 : n0 ≤ h3.size := Nat.le_trans Z0 K3.1
  have N3 := Fr.snoc X3 N2 g_o
  refine own_Go.of (g' := (mkF m 14 #[.val (.ref o), .val (.int p0), .val (.int p1), .val (.int p2)] [])) (fun t k => st3 _ k) ?_
  refine og_aloadN (pc' := 15) X3 hx (hb hby d5_14) rfl rfl rfl ?_
  refine og_iloadN (pc' := 16) X3 hx (hb hby d5_15) rfl rfl ?_
  obtain ⟨T4, h4, X4, e4, W4, st4⟩ := putF X3 hx hZ hown (host := "") (Or.inl (hw _ (List.mem_of_getElem? (i := 41) rfl))) Via.refl e3 f3_1 f3_0 (Or.inr ⟨(hw _ (List.mem_of_getElem? (i := 42) rfl)), rfl, hnm⟩) (hw _ (List.mem_of_getElem? (i := 31) rfl)) (ty := .int) (by decide) rfl rfl (g := (mkF m 16 #[.val (.ref o), .val (.int p0), .val (.int p1), .val (.int p2)] [(.int p2), (.ref o)])) rfl rfl (hb hby d5_16)
  have w4 : Fld Z h4 o "com/example/capwright/capwright/cap/CapFile$ExternalField" "token" "I" (.int p2) := f3_1.same W4
  have f4_0 := f3_0.wr W4
  have f4_2 := f3_3.other W4 (Or.inr (slot_ne (a0 := a0) (C := "com/example/capwright/capwright/cap/CapFile$ExternalField") (Or.inr (hw _ (List.mem_of_getElem? (i := 38) rfl))) (Or.inr (hw _ (List.mem_of_getElem? (i := 42) rfl))) (by decide) (t := .int) (t' := .int) (by decide) (by decide)))
  have f4_3 := w3.other W4 (Or.inr (slot_ne (a0 := a0) (C := "com/example/capwright/capwright/cap/CapFile$ExternalField") (Or.inr (hw _ (List.mem_of_getElem? (i := 40) rfl))) (Or.inr (hw _ (List.mem_of_getElem? (i := 42) rfl))) (by decide) (t := .int) (t' := .int) (by decide) (by decide)))
  have K4 : Keep h0 h4 [o] := K3.wr W4 (Or.inl (List.mem_of_getElem? (i := 0) rfl))
  have Z4 : n0 ≤ h4.size := Nat.le_trans Z0 K4.1
  have N4 := Fr.snoc X4 N3 g_o
  refine own_Go.of (g' := (mkF m 19 #[.val (.ref o), .val (.int p0), .val (.int p1), .val (.int p2)] [])) (fun t k => st4 _ k) ?_
  obtain ⟨fs, hr, hrun, hended, hW, hsame⟩ := X4.leave (v := none) (fun _ => rfl) (BodyLoose.notSynchronized Bd)
  refine ⟨_, _, X4.returnOut hx Bd.returns (hb hby d5_19) hr, hrun, hended, none, _, rfl, ?_, ⟨_, rfl⟩, hW, hsame.mono (by decide) (by decide)⟩
  show QEF Z o p0 p1 p2 u0 u1 u2 h0 n0 _ T4.heap _
  rw [e4]
  exact ⟨rfl, N4, K4, f4_0, f4_2, f4_3, w4⟩

theorem d1_0 : decode prog_21_method_1_code 0 = .ok (.aload_n 0, 1) := by decide +kernel
theorem d1_1 : decode prog_21_method_1_code 1 = .ok (.invokespecial 1, 3) := by decide +kernel
theorem d1_4 : decode prog_21_method_1_code 4 = .ok (.aload_n 0, 1) := by decide +kernel
theorem d1_5 : decode prog_21_method_1_code 5 = .ok (.iload_n 1, 1) := by decide +kernel
theorem d1_6 : decode prog_21_method_1_code 6 = .ok (.putfield 7, 3) := by decide +kernel
theorem d1_9 : decode prog_21_method_1_code 9 = .ok (.aload_n 0, 1) := by decide +kernel
theorem d1_10 : decode prog_21_method_1_code 10 = .ok (.iload_n 2, 1) := by decide +kernel
theorem d1_11 : decode prog_21_method_1_code 11 = .ok (.putfield 13, 3) := by decide +kernel
theorem d1_14 : decode prog_21_method_1_code 14 = .ok (.aload_n 0, 1) := by decide +kernel
theorem d1_15 : decode prog_21_method_1_code 15 = .ok (.iload_n 3, 1) := by decide +kernel
theorem d1_16 : decode prog_21_method_1_code 16 = .ok (.putfield 16, 3) := by decide +kernel
theorem d1_19 : decode prog_21_method_1_code 19 = .ok (.return_, 1) := by decide +kernel
theorem pnEM : plainName "com/example/capwright/capwright/cap/CapFile$ExternalMethod" = true := by first | (simp [plainName, overriddenIn]; done) | decide +kernel
theorem efEM (m : MethodId) (z0 : Addr) (z1 : Int32) (z2 : Int32) (z3 : Int32) : entryFrame m #[(.ref z0), (.int z1), (.int z2), (.int z3)] 4 = mkF m 0 #[.val (.ref z0), .val (.int z1), .val (.int z2), .val (.int z3)] [] := by first | (simp [entryFrame, mkF, argsToLocals, Value.category]; done) | rfl
def QEM (Z : State) (o : Addr) (p0 : Int32) (p1 : Int32) (p2 : Int32) (u0 : Value) (u1 : Value) (u2 : Value) (h0 : Heap) (n0 : Nat) (v : Option Value) (h : Heap) (L : List Loc) : Prop := v = none ∧ Fr n0 L ∧ Keep h0 h [o] ∧ Exa Z h o "com/example/capwright/capwright/cap/CapFile$ExternalMethod" ∧ Fld Z h o "com/example/capwright/capwright/cap/CapFile$ExternalMethod" "packageToken" "I" (.int p0) ∧ Fld Z h o "com/example/capwright/capwright/cap/CapFile$ExternalMethod" "classToken" "I" (.int p1) ∧ Fld Z h o "com/example/capwright/capwright/cap/CapFile$ExternalMethod" "token" "I" (.int p2)
set_option maxRecDepth 65536 in
set_option maxHeartbeats 40000000 in
theorem rmEM (l : Launch) (Z : State) (a0 : Array Value) (hw : ∀ d ∈ tables_1, d.before a0 Z = true) (ws : List Jvm.Cond) (o : Addr) (p0 : Int32) (p1 : Int32) (p2 : Int32) (u0 : Value) (u1 : Value) (u2 : Value) (h0 : Heap) (n0 : Nat) (Z0 : n0 ≤ h0.size) (E_o : Exa Z h0 o "com/example/capwright/capwright/cap/CapFile$ExternalMethod") (F0_o : Fld Z h0 o "com/example/capwright/capwright/cap/CapFile$ExternalMethod" "packageToken" "I" u0) (F1_o : Fld Z h0 o "com/example/capwright/capwright/cap/CapFile$ExternalMethod" "classToken" "I" u1) (F2_o : Fld Z h0 o "com/example/capwright/capwright/cap/CapFile$ExternalMethod" "token" "I" u2) (g_o : n0 ≤ o) :
    MetFree l (⟨"com/example/capwright/capwright/cap/CapFile$ExternalMethod", "<init>", "(III)V"⟩ : MethodName) (head1 (Jvm.Cond.code (⟨"com/example/capwright/capwright/cap/CapFile$ExternalMethod", "<init>", "(III)V"⟩ : MethodName) prog_21_method_1_code 4 none :: ws) ({ frames := 2, cells := 0, slots := 0, locals := 24 } : Room)) (fun a U => a = #[(.ref o), (.int p0), (.int p1), (.int p2)] ∧ Z.Warmed39 U.vm ∧ U.heap = h0) (fun _ _ _ _ _ => True) (fun _ U oc U' => ∃ v L, oc = .returned v ∧ QEM Z o p0 p1 p2 u0 u1 u2 h0 n0 v U'.heap L ∧ FrameEnd U oc U' L ({ frames := 2, cells := 0, slots := 0, locals := 24 } : Room).cells ({ frames := 2, cells := 0, slots := 0, locals := 24 } : Room).slots) := by
  refine MetFree.of_bodySF (plainFor_of_name pnEM) hisR ?_
  intro p e s m args below meth c s₁ Bd hml0 hP hK
  obtain ⟨rfl, hZ, hh⟩ := hP
  have hx := Bd.exec
  have hby := Bd.bytes
  have hml : c.maxLocals = 4 := hml0
  have hown : s.vm.findClass "com/example/capwright/capwright/cap/CapFile$ExternalMethod" = some m.cls := findClass_of_methodNamed Bd.named
  have hnm := (name_of_methodNamed Bd.named Bd.method).1
  have X0 : Stand p l e ({ frames := 2, cells := 0, slots := 0, locals := 24 } : Room) s m #[(.ref o), (.int p0), (.int p1), (.int p2)] below meth c s₁ [] 0 0 := Stand.of_body Bd
  have e0 : s₁.heap = h0 := by rw [← hh, Bd.state]; rfl
  have N0 := Fr.nil n0
  show own_Go p e below (fun s₂ oc => ∃ v L, oc = .returned v ∧ QEM Z o p0 p1 p2 u0 u1 u2 h0 n0 v s₂.heap L ∧ FrameEnd s oc s₂ L ({ frames := 2, cells := 0, slots := 0, locals := 24 } : Room).cells ({ frames := 2, cells := 0, slots := 0, locals := 24 } : Room).slots) s₁ (entryFrame m #[(.ref o), (.int p0), (.int p1), (.int p2)] 4)
  refine own_Go.of (g' := mkF m 0 #[.val (.ref o), .val (.int p0), .val (.int p1), .val (.int p2)] []) (fun t k => castTop (efEM m o p0 p1 p2) k) ?_
  refine og_aloadN (pc' := 1) X0 hx (hb hby d1_0) rfl rfl rfl ?_
  obtain ⟨_, _, ⟨T1, L1, k1, n1⟩, -, X1, ⟨Lc1, hQ1, l1, y1, z1⟩, st1⟩ := X0.specialBack hx (y := (⟨"java/lang/Record", "<init>", "()V"⟩ : MethodName)) rfl hown (mvT hZ (hw _ (List.mem_of_getElem? (i := 9) rfl))) (mvT hZ (hw _ (List.mem_of_getElem? (i := 10) rfl))) (mvT hZ (hw _ (List.mem_of_getElem? (i := 13) rfl))) (by decide) (backOf (W := 0) (rmRec l Z a0 hw [] o h0 n0 Z0 ) hZ (hw _ (List.mem_of_getElem? (i := 13) rfl)) (hw _ (List.mem_of_getElem? (i := 12) rfl)) (by decide) (by decide)) (g := (mkF m 1 #[.val (.ref o), .val (.int p0), .val (.int p1), .val (.int p2)] [(.ref o)])) rfl (by rw [hml]; rfl) (Steps.refl _) (a := o) (argsL := []) (rest := []) (lenOf pd_0 rfl) rfl (by show 2 * 0 + _ ≤ _; exact Nat.le_of_eq rfl) (hb hby d1_1) (fun _ _ => ⟨rfl, e0, (by decide : 0 + 0 ≤ _), (by decide : 0 + 0 ≤ _)⟩)
  dsimp only [Pt.U, Pt.locs, Pt.cells, Pt.slots] at X1 l1 y1 z1 st1 hQ1
  subst l1 y1 z1
  obtain ⟨rfl, N1q, e1⟩ := hQ1
  have N1 := Fr.app N0 N1q
  refine own_Go.of (g' := (mkF m 4 #[.val (.ref o), .val (.int p0), .val (.int p1), .val (.int p2)] [])) (fun t k => st1.trans k) ?_
  refine og_aloadN (pc' := 5) X1 hx (hb hby d1_4) rfl rfl rfl ?_
  refine og_iloadN (pc' := 6) X1 hx (hb hby d1_5) rfl rfl ?_
  obtain ⟨T2, h2, X2, e2, W2, st2⟩ := putF X1 hx hZ hown (host := "") (Or.inl (hw _ (List.mem_of_getElem? (i := 17) rfl))) Via.refl e1 F0_o E_o (Or.inr ⟨(hw _ (List.mem_of_getElem? (i := 18) rfl)), rfl, hnm⟩) (hw _ (List.mem_of_getElem? (i := 4) rfl)) (ty := .int) (by decide) rfl rfl (g := (mkF m 6 #[.val (.ref o), .val (.int p0), .val (.int p1), .val (.int p2)] [(.int p0), (.ref o)])) rfl rfl (hb hby d1_6)
  have w2 : Fld Z h2 o "com/example/capwright/capwright/cap/CapFile$ExternalMethod" "packageToken" "I" (.int p0) := F0_o.same W2
  have f2_0 := E_o.wr W2
  have f2_1 := F1_o.other W2 (Or.inr (slot_ne (a0 := a0) (C := "com/example/capwright/capwright/cap/CapFile$ExternalMethod") (Or.inr (hw _ (List.mem_of_getElem? (i := 20) rfl))) (Or.inr (hw _ (List.mem_of_getElem? (i := 18) rfl))) (by decide) (t := .int) (t' := .int) (by decide) (by decide)))
  have f2_2 := F2_o.other W2 (Or.inr (slot_ne (a0 := a0) (C := "com/example/capwright/capwright/cap/CapFile$ExternalMethod") (Or.inr (hw _ (List.mem_of_getElem? (i := 22) rfl))) (Or.inr (hw _ (List.mem_of_getElem? (i := 18) rfl))) (by decide) (t := .int) (t' := .int) (by decide) (by decide)))
  have K2 : Keep h0 h2 [o] := (Keep.refl h0 [o]).wr W2 (Or.inl (List.mem_of_getElem? (i := 0) rfl))
  have Z2 : n0 ≤ h2.size := Nat.le_trans Z0 K2.1
  have N2 := Fr.snoc X2 N1 g_o
  refine own_Go.of (g' := (mkF m 9 #[.val (.ref o), .val (.int p0), .val (.int p1), .val (.int p2)] [])) (fun t k => st2 _ k) ?_
  refine og_aloadN (pc' := 10) X2 hx (hb hby d1_9) rfl rfl rfl ?_
  refine og_iloadN (pc' := 11) X2 hx (hb hby d1_10) rfl rfl ?_
  obtain ⟨T3, h3, X3, e3, W3, st3⟩ := putF X2 hx hZ hown (host := "") (Or.inl (hw _ (List.mem_of_getElem? (i := 19) rfl))) Via.refl e2 f2_1 f2_0 (Or.inr ⟨(hw _ (List.mem_of_getElem? (i := 20) rfl)), rfl, hnm⟩) (hw _ (List.mem_of_getElem? (i := 4) rfl)) (ty := .int) (by decide) rfl rfl (g := (mkF m 11 #[.val (.ref o), .val (.int p0), .val (.int p1), .val (.int p2)] [(.int p1), (.ref o)])) rfl rfl (hb hby d1_11)
  have w3 : Fld Z h3 o "com/example/capwright/capwright/cap/CapFile$ExternalMethod" "classToken" "I" (.int p1) := f2_1.same W3
  have f3_0 := f2_0.wr W3
  have f3_1 := f2_2.other W3 (Or.inr (slot_ne (a0 := a0) (C := "com/example/capwright/capwright/cap/CapFile$ExternalMethod") (Or.inr (hw _ (List.mem_of_getElem? (i := 22) rfl))) (Or.inr (hw _ (List.mem_of_getElem? (i := 20) rfl))) (by decide) (t := .int) (t' := .int) (by decide) (by decide)))
  have f3_3 := w2.other W3 (Or.inr (slot_ne (a0 := a0) (C := "com/example/capwright/capwright/cap/CapFile$ExternalMethod") (Or.inr (hw _ (List.mem_of_getElem? (i := 18) rfl))) (Or.inr (hw _ (List.mem_of_getElem? (i := 20) rfl))) (by decide) (t := .int) (t' := .int) (by decide) (by decide)))
  have K3 : Keep h0 h3 [o] := K2.wr W3 (Or.inl (List.mem_of_getElem? (i := 0) rfl))
  have Z3 : n0 ≤ h3.size := Nat.le_trans Z0 K3.1
  have N3 := Fr.snoc X3 N2 g_o
  refine own_Go.of (g' := (mkF m 14 #[.val (.ref o), .val (.int p0), .val (.int p1), .val (.int p2)] [])) (fun t k => st3 _ k) ?_
  refine og_aloadN (pc' := 15) X3 hx (hb hby d1_14) rfl rfl rfl ?_
  refine og_iloadN (pc' := 16) X3 hx (hb hby d1_15) rfl rfl ?_
  obtain ⟨T4, h4, X4, e4, W4, st4⟩ := putF X3 hx hZ hown (host := "") (Or.inl (hw _ (List.mem_of_getElem? (i := 21) rfl))) Via.refl e3 f3_1 f3_0 (Or.inr ⟨(hw _ (List.mem_of_getElem? (i := 22) rfl)), rfl, hnm⟩) (hw _ (List.mem_of_getElem? (i := 4) rfl)) (ty := .int) (by decide) rfl rfl (g := (mkF m 16 #[.val (.ref o), .val (.int p0), .val (.int p1), .val (.int p2)] [(.int p2), (.ref o)])) rfl rfl (hb hby d1_16)
  have w4 : Fld Z h4 o "com/example/capwright/capwright/cap/CapFile$ExternalMethod" "token" "I" (.int p2) := f3_1.same W4
  have f4_0 := f3_0.wr W4
  have f4_2 := f3_3.other W4 (Or.inr (slot_ne (a0 := a0) (C := "com/example/capwright/capwright/cap/CapFile$ExternalMethod") (Or.inr (hw _ (List.mem_of_getElem? (i := 18) rfl))) (Or.inr (hw _ (List.mem_of_getElem? (i := 22) rfl))) (by decide) (t := .int) (t' := .int) (by decide) (by decide)))
  have f4_3 := w3.other W4 (Or.inr (slot_ne (a0 := a0) (C := "com/example/capwright/capwright/cap/CapFile$ExternalMethod") (Or.inr (hw _ (List.mem_of_getElem? (i := 20) rfl))) (Or.inr (hw _ (List.mem_of_getElem? (i := 22) rfl))) (by decide) (t := .int) (t' := .int) (by decide) (by decide)))
  have K4 : Keep h0 h4 [o] := K3.wr W4 (Or.inl (List.mem_of_getElem? (i := 0) rfl))
  have Z4 : n0 ≤ h4.size := Nat.le_trans Z0 K4.1
  have N4 := Fr.snoc X4 N3 g_o
  refine own_Go.of (g' := (mkF m 19 #[.val (.ref o), .val (.int p0), .val (.int p1), .val (.int p2)] [])) (fun t k => st4 _ k) ?_
  obtain ⟨fs, hr, hrun, hended, hW, hsame⟩ := X4.leave (v := none) (fun _ => rfl) (BodyLoose.notSynchronized Bd)
  refine ⟨_, _, X4.returnOut hx Bd.returns (hb hby d1_19) hr, hrun, hended, none, _, rfl, ?_, ⟨_, rfl⟩, hW, hsame.mono (by decide) (by decide)⟩
  show QEM Z o p0 p1 p2 u0 u1 u2 h0 n0 _ T4.heap _
  rw [e4]
  exact ⟨rfl, N4, K4, f4_0, f4_2, f4_3, w4⟩

theorem d7_0 : decode prog_27_method_1_code 0 = .ok (.aload_n 0, 1) := by decide +kernel
theorem d7_1 : decode prog_27_method_1_code 1 = .ok (.invokespecial 1, 3) := by decide +kernel
theorem d7_4 : decode prog_27_method_1_code 4 = .ok (.aload_n 0, 1) := by decide +kernel
theorem d7_5 : decode prog_27_method_1_code 5 = .ok (.iload_n 1, 1) := by decide +kernel
theorem d7_6 : decode prog_27_method_1_code 6 = .ok (.putfield 7, 3) := by decide +kernel
theorem d7_9 : decode prog_27_method_1_code 9 = .ok (.return_, 1) := by decide +kernel
theorem pnIM : plainName "com/example/capwright/capwright/cap/CapFile$InternalMethod" = true := by first | (simp [plainName, overriddenIn]; done) | decide +kernel
theorem efIM (m : MethodId) (z0 : Addr) (z1 : Int32) : entryFrame m #[(.ref z0), (.int z1)] 2 = mkF m 0 #[.val (.ref z0), .val (.int z1)] [] := by first | (simp [entryFrame, mkF, argsToLocals, Value.category]; done) | rfl
def QIM (Z : State) (o : Addr) (p0 : Int32) (u0 : Value) (h0 : Heap) (n0 : Nat) (v : Option Value) (h : Heap) (L : List Loc) : Prop := v = none ∧ Fr n0 L ∧ Keep h0 h [o] ∧ Exa Z h o "com/example/capwright/capwright/cap/CapFile$InternalMethod" ∧ Fld Z h o "com/example/capwright/capwright/cap/CapFile$InternalMethod" "methodIndex" "I" (.int p0)
set_option maxRecDepth 65536 in
set_option maxHeartbeats 40000000 in
theorem rmIM (l : Launch) (Z : State) (a0 : Array Value) (hw : ∀ d ∈ tables_1, d.before a0 Z = true) (ws : List Jvm.Cond) (o : Addr) (p0 : Int32) (u0 : Value) (h0 : Heap) (n0 : Nat) (Z0 : n0 ≤ h0.size) (E_o : Exa Z h0 o "com/example/capwright/capwright/cap/CapFile$InternalMethod") (F0_o : Fld Z h0 o "com/example/capwright/capwright/cap/CapFile$InternalMethod" "methodIndex" "I" u0) (g_o : n0 ≤ o) :
    MetFree l (⟨"com/example/capwright/capwright/cap/CapFile$InternalMethod", "<init>", "(I)V"⟩ : MethodName) (head1 (Jvm.Cond.code (⟨"com/example/capwright/capwright/cap/CapFile$InternalMethod", "<init>", "(I)V"⟩ : MethodName) prog_27_method_1_code 2 none :: ws) ({ frames := 2, cells := 0, slots := 0, locals := 24 } : Room)) (fun a U => a = #[(.ref o), (.int p0)] ∧ Z.Warmed39 U.vm ∧ U.heap = h0) (fun _ _ _ _ _ => True) (fun _ U oc U' => ∃ v L, oc = .returned v ∧ QIM Z o p0 u0 h0 n0 v U'.heap L ∧ FrameEnd U oc U' L ({ frames := 2, cells := 0, slots := 0, locals := 24 } : Room).cells ({ frames := 2, cells := 0, slots := 0, locals := 24 } : Room).slots) := by
  refine MetFree.of_bodySF (plainFor_of_name pnIM) hisR ?_
  intro p e s m args below meth c s₁ Bd hml0 hP hK
  obtain ⟨rfl, hZ, hh⟩ := hP
  have hx := Bd.exec
  have hby := Bd.bytes
  have hml : c.maxLocals = 2 := hml0
  have hown : s.vm.findClass "com/example/capwright/capwright/cap/CapFile$InternalMethod" = some m.cls := findClass_of_methodNamed Bd.named
  have hnm := (name_of_methodNamed Bd.named Bd.method).1
  have X0 : Stand p l e ({ frames := 2, cells := 0, slots := 0, locals := 24 } : Room) s m #[(.ref o), (.int p0)] below meth c s₁ [] 0 0 := Stand.of_body Bd
  have e0 : s₁.heap = h0 := by rw [← hh, Bd.state]; rfl
  have N0 := Fr.nil n0
  show own_Go p e below (fun s₂ oc => ∃ v L, oc = .returned v ∧ QIM Z o p0 u0 h0 n0 v s₂.heap L ∧ FrameEnd s oc s₂ L ({ frames := 2, cells := 0, slots := 0, locals := 24 } : Room).cells ({ frames := 2, cells := 0, slots := 0, locals := 24 } : Room).slots) s₁ (entryFrame m #[(.ref o), (.int p0)] 2)
  refine own_Go.of (g' := mkF m 0 #[.val (.ref o), .val (.int p0)] []) (fun t k => castTop (efIM m o p0) k) ?_
  refine og_aloadN (pc' := 1) X0 hx (hb hby d7_0) rfl rfl rfl ?_
  obtain ⟨_, _, ⟨T1, L1, k1, n1⟩, -, X1, ⟨Lc1, hQ1, l1, y1, z1⟩, st1⟩ := X0.specialBack hx (y := (⟨"java/lang/Record", "<init>", "()V"⟩ : MethodName)) rfl hown (mvT hZ (hw _ (List.mem_of_getElem? (i := 61) rfl))) (mvT hZ (hw _ (List.mem_of_getElem? (i := 10) rfl))) (mvT hZ (hw _ (List.mem_of_getElem? (i := 13) rfl))) (by decide) (backOf (W := 0) (rmRec l Z a0 hw [] o h0 n0 Z0 ) hZ (hw _ (List.mem_of_getElem? (i := 13) rfl)) (hw _ (List.mem_of_getElem? (i := 12) rfl)) (by decide) (by decide)) (g := (mkF m 1 #[.val (.ref o), .val (.int p0)] [(.ref o)])) rfl (by rw [hml]; rfl) (Steps.refl _) (a := o) (argsL := []) (rest := []) (lenOf pd_0 rfl) rfl (by show 2 * 0 + _ ≤ _; exact Nat.le_of_eq rfl) (hb hby d7_1) (fun _ _ => ⟨rfl, e0, (by decide : 0 + 0 ≤ _), (by decide : 0 + 0 ≤ _)⟩)
  dsimp only [Pt.U, Pt.locs, Pt.cells, Pt.slots] at X1 l1 y1 z1 st1 hQ1
  subst l1 y1 z1
  obtain ⟨rfl, N1q, e1⟩ := hQ1
  have N1 := Fr.app N0 N1q
  refine own_Go.of (g' := (mkF m 4 #[.val (.ref o), .val (.int p0)] [])) (fun t k => st1.trans k) ?_
  refine og_aloadN (pc' := 5) X1 hx (hb hby d7_4) rfl rfl rfl ?_
  refine og_iloadN (pc' := 6) X1 hx (hb hby d7_5) rfl rfl ?_
  obtain ⟨T2, h2, X2, e2, W2, st2⟩ := putF X1 hx hZ hown (host := "") (Or.inl (hw _ (List.mem_of_getElem? (i := 62) rfl))) Via.refl e1 F0_o E_o (Or.inr ⟨(hw _ (List.mem_of_getElem? (i := 63) rfl)), rfl, hnm⟩) (hw _ (List.mem_of_getElem? (i := 56) rfl)) (ty := .int) (by decide) rfl rfl (g := (mkF m 6 #[.val (.ref o), .val (.int p0)] [(.int p0), (.ref o)])) rfl rfl (hb hby d7_6)
  have w2 : Fld Z h2 o "com/example/capwright/capwright/cap/CapFile$InternalMethod" "methodIndex" "I" (.int p0) := F0_o.same W2
  have f2_0 := E_o.wr W2
  have K2 : Keep h0 h2 [o] := (Keep.refl h0 [o]).wr W2 (Or.inl (List.mem_of_getElem? (i := 0) rfl))
  have Z2 : n0 ≤ h2.size := Nat.le_trans Z0 K2.1
  have N2 := Fr.snoc X2 N1 g_o
  refine own_Go.of (g' := (mkF m 9 #[.val (.ref o), .val (.int p0)] [])) (fun t k => st2 _ k) ?_
  obtain ⟨fs, hr, hrun, hended, hW, hsame⟩ := X2.leave (v := none) (fun _ => rfl) (BodyLoose.notSynchronized Bd)
  refine ⟨_, _, X2.returnOut hx Bd.returns (hb hby d7_9) hr, hrun, hended, none, _, rfl, ?_, ⟨_, rfl⟩, hW, hsame.mono (by decide) (by decide)⟩
  show QIM Z o p0 u0 h0 n0 _ T2.heap _
  rw [e2]
  exact ⟨rfl, N2, K2, f2_0, w2⟩

theorem d8_0 : decode jdk_33_method_23_code 0 = .ok (.aload_n 0, 1) := by decide +kernel
theorem d8_1 : decode jdk_33_method_23_code 1 = .ok (.invokespecial 202, 3) := by decide +kernel
theorem d8_4 : decode jdk_33_method_23_code 4 = .ok (.aload_n 0, 1) := by decide +kernel
theorem d8_5 : decode jdk_33_method_23_code 5 = .ok (.iload_n 1, 1) := by decide +kernel
theorem d8_6 : decode jdk_33_method_23_code 6 = .ok (.putfield 205, 3) := by decide +kernel
theorem d8_9 : decode jdk_33_method_23_code 9 = .ok (.return_, 1) := by decide +kernel
theorem pnIN : plainName "java/lang/Integer" = true := by first | (simp [plainName, overriddenIn]; done) | decide +kernel
theorem efIN (m : MethodId) (z0 : Addr) (z1 : Int32) : entryFrame m #[(.ref z0), (.int z1)] 2 = mkF m 0 #[.val (.ref z0), .val (.int z1)] [] := by first | (simp [entryFrame, mkF, argsToLocals, Value.category]; done) | rfl
def QIN (Z : State) (o : Addr) (p0 : Int32) (u0 : Value) (h0 : Heap) (n0 : Nat) (v : Option Value) (h : Heap) (L : List Loc) : Prop := v = none ∧ Fr n0 L ∧ Keep h0 h [o] ∧ Exa Z h o "java/lang/Integer" ∧ Fld Z h o "java/lang/Integer" "value" "I" (.int p0)
set_option maxRecDepth 65536 in
set_option maxHeartbeats 40000000 in
theorem rmIN (l : Launch) (Z : State) (a0 : Array Value) (hw : ∀ d ∈ tables_1, d.before a0 Z = true) (ws : List Jvm.Cond) (o : Addr) (p0 : Int32) (u0 : Value) (h0 : Heap) (n0 : Nat) (Z0 : n0 ≤ h0.size) (E_o : Exa Z h0 o "java/lang/Integer") (F0_o : Fld Z h0 o "java/lang/Integer" "value" "I" u0) (g_o : n0 ≤ o) :
    MetFree l (⟨"java/lang/Integer", "<init>", "(I)V"⟩ : MethodName) (head1 (Jvm.Cond.code (⟨"java/lang/Integer", "<init>", "(I)V"⟩ : MethodName) jdk_33_method_23_code 2 none :: ws) ({ frames := 2, cells := 0, slots := 0, locals := 24 } : Room)) (fun a U => a = #[(.ref o), (.int p0)] ∧ Z.Warmed39 U.vm ∧ U.heap = h0) (fun _ _ _ _ _ => True) (fun _ U oc U' => ∃ v L, oc = .returned v ∧ QIN Z o p0 u0 h0 n0 v U'.heap L ∧ FrameEnd U oc U' L ({ frames := 2, cells := 0, slots := 0, locals := 24 } : Room).cells ({ frames := 2, cells := 0, slots := 0, locals := 24 } : Room).slots) := by
  refine MetFree.of_bodySF (plainFor_of_name pnIN) hisR ?_
  intro p e s m args below meth c s₁ Bd hml0 hP hK
  obtain ⟨rfl, hZ, hh⟩ := hP
  have hx := Bd.exec
  have hby := Bd.bytes
  have hml : c.maxLocals = 2 := hml0
  have hown : s.vm.findClass "java/lang/Integer" = some m.cls := findClass_of_methodNamed Bd.named
  have hnm := (name_of_methodNamed Bd.named Bd.method).1
  have X0 : Stand p l e ({ frames := 2, cells := 0, slots := 0, locals := 24 } : Room) s m #[(.ref o), (.int p0)] below meth c s₁ [] 0 0 := Stand.of_body Bd
  have e0 : s₁.heap = h0 := by rw [← hh, Bd.state]; rfl
  have N0 := Fr.nil n0
  show own_Go p e below (fun s₂ oc => ∃ v L, oc = .returned v ∧ QIN Z o p0 u0 h0 n0 v s₂.heap L ∧ FrameEnd s oc s₂ L ({ frames := 2, cells := 0, slots := 0, locals := 24 } : Room).cells ({ frames := 2, cells := 0, slots := 0, locals := 24 } : Room).slots) s₁ (entryFrame m #[(.ref o), (.int p0)] 2)
  refine own_Go.of (g' := mkF m 0 #[.val (.ref o), .val (.int p0)] []) (fun t k => castTop (efIN m o p0) k) ?_
  refine og_aloadN (pc' := 1) X0 hx (hb hby d8_0) rfl rfl rfl ?_
  obtain ⟨_, _, ⟨T1, L1, k1, n1⟩, -, X1, ⟨Lc1, hQ1, l1, y1, z1⟩, st1⟩ := X0.specialBack hx (y := (⟨"java/lang/Number", "<init>", "()V"⟩ : MethodName)) rfl hown (mvT hZ (hw _ (List.mem_of_getElem? (i := 71) rfl))) (mvT hZ (hw _ (List.mem_of_getElem? (i := 72) rfl))) (mvT hZ (hw _ (List.mem_of_getElem? (i := 76) rfl))) (by decide) (backOf (W := 0) (rmNum l Z a0 hw [] o h0 n0 Z0 ) hZ (hw _ (List.mem_of_getElem? (i := 76) rfl)) (hw _ (List.mem_of_getElem? (i := 75) rfl)) (by decide) (by decide)) (g := (mkF m 1 #[.val (.ref o), .val (.int p0)] [(.ref o)])) rfl (by rw [hml]; rfl) (Steps.refl _) (a := o) (argsL := []) (rest := []) (lenOf pd_0 rfl) rfl (by show 2 * 0 + _ ≤ _; exact Nat.le_of_eq rfl) (hb hby d8_1) (fun _ _ => ⟨rfl, e0, (by decide : 0 + 0 ≤ _), (by decide : 0 + 0 ≤ _)⟩)
  dsimp only [Pt.U, Pt.locs, Pt.cells, Pt.slots] at X1 l1 y1 z1 st1 hQ1
  subst l1 y1 z1
  obtain ⟨rfl, N1q, e1⟩ := hQ1
  have N1 := Fr.app N0 N1q
  refine own_Go.of (g' := (mkF m 4 #[.val (.ref o), .val (.int p0)] [])) (fun t k => st1.trans k) ?_
  refine og_aloadN (pc' := 5) X1 hx (hb hby d8_4) rfl rfl rfl ?_
  refine og_iloadN (pc' := 6) X1 hx (hb hby d8_5) rfl rfl ?_
  obtain ⟨T2, h2, X2, e2, W2, st2⟩ := putF X1 hx hZ hown (host := "") (Or.inl (hw _ (List.mem_of_getElem? (i := 78) rfl))) Via.refl e1 F0_o E_o (Or.inr ⟨(hw _ (List.mem_of_getElem? (i := 79) rfl)), rfl, hnm⟩) (hw _ (List.mem_of_getElem? (i := 66) rfl)) (ty := .int) (by decide) rfl rfl (g := (mkF m 6 #[.val (.ref o), .val (.int p0)] [(.int p0), (.ref o)])) rfl rfl (hb hby d8_6)
  have w2 : Fld Z h2 o "java/lang/Integer" "value" "I" (.int p0) := F0_o.same W2
  have f2_0 := E_o.wr W2
  have K2 : Keep h0 h2 [o] := (Keep.refl h0 [o]).wr W2 (Or.inl (List.mem_of_getElem? (i := 0) rfl))
  have Z2 : n0 ≤ h2.size := Nat.le_trans Z0 K2.1
  have N2 := Fr.snoc X2 N1 g_o
  refine own_Go.of (g' := (mkF m 9 #[.val (.ref o), .val (.int p0)] [])) (fun t k => st2 _ k) ?_
  obtain ⟨fs, hr, hrun, hended, hW, hsame⟩ := X2.leave (v := none) (fun _ => rfl) (BodyLoose.notSynchronized Bd)
  refine ⟨_, _, X2.returnOut hx Bd.returns (hb hby d8_9) hr, hrun, hended, none, _, rfl, ?_, ⟨_, rfl⟩, hW, hsame.mono (by decide) (by decide)⟩
  show QIN Z o p0 u0 h0 n0 _ T2.heap _
  rw [e2]
  exact ⟨rfl, N2, K2, f2_0, w2⟩

def own_eq (r0 : Int32) (r1 : Int32) (r2 : Int32) (s0 : Int32) (s1 : Int32) (s2 : Int32) : Int32 := (if s0 = r0 then (if s1 = r1 then (if s2 = r2 then (1 : Int32) else (0 : Int32)) else (0 : Int32)) else (0 : Int32))
theorem d4_0 : decode prog_21_method_2_code 0 = .ok (.aload_n 1, 1) := by decide +kernel
theorem d4_1 : decode prog_21_method_2_code 1 = .ok (.instanceof 8, 3) := by decide +kernel
theorem d4_4 : decode prog_21_method_2_code 4 = .ok (.ifCond .eq 45, 3) := by decide +kernel
theorem d4_7 : decode prog_21_method_2_code 7 = .ok (.aload_n 1, 1) := by decide +kernel
theorem d4_8 : decode prog_21_method_2_code 8 = .ok (.checkcast 8, 3) := by decide +kernel
theorem d4_11 : decode prog_21_method_2_code 11 = .ok (.astore_n 2, 1) := by decide +kernel
theorem d4_12 : decode prog_21_method_2_code 12 = .ok (.aload_n 2, 1) := by decide +kernel
theorem d4_13 : decode prog_21_method_2_code 13 = .ok (.getfield 7, 3) := by decide +kernel
theorem d4_16 : decode prog_21_method_2_code 16 = .ok (.aload_n 0, 1) := by decide +kernel
theorem d4_17 : decode prog_21_method_2_code 17 = .ok (.getfield 7, 3) := by decide +kernel
theorem d4_20 : decode prog_21_method_2_code 20 = .ok (.if_icmp .ne 29, 3) := by decide +kernel
theorem d4_23 : decode prog_21_method_2_code 23 = .ok (.aload_n 2, 1) := by decide +kernel
theorem d4_24 : decode prog_21_method_2_code 24 = .ok (.getfield 13, 3) := by decide +kernel
theorem d4_27 : decode prog_21_method_2_code 27 = .ok (.aload_n 0, 1) := by decide +kernel
theorem d4_28 : decode prog_21_method_2_code 28 = .ok (.getfield 13, 3) := by decide +kernel
theorem d4_31 : decode prog_21_method_2_code 31 = .ok (.if_icmp .ne 18, 3) := by decide +kernel
theorem d4_34 : decode prog_21_method_2_code 34 = .ok (.aload_n 2, 1) := by decide +kernel
theorem d4_35 : decode prog_21_method_2_code 35 = .ok (.getfield 16, 3) := by decide +kernel
theorem d4_38 : decode prog_21_method_2_code 38 = .ok (.aload_n 0, 1) := by decide +kernel
theorem d4_39 : decode prog_21_method_2_code 39 = .ok (.getfield 16, 3) := by decide +kernel
theorem d4_42 : decode prog_21_method_2_code 42 = .ok (.if_icmp .ne 7, 3) := by decide +kernel
theorem d4_45 : decode prog_21_method_2_code 45 = .ok (.iconst 1, 1) := by decide +kernel
theorem d4_46 : decode prog_21_method_2_code 46 = .ok (.goto 4, 3) := by decide +kernel
theorem d4_49 : decode prog_21_method_2_code 49 = .ok (.iconst 0, 1) := by decide +kernel
theorem d4_50 : decode prog_21_method_2_code 50 = .ok (.ireturn, 1) := by decide +kernel
theorem pneqA : plainName "com/example/capwright/capwright/cap/CapFile$ExternalMethod" = true := by first | (simp [plainName, overriddenIn]; done) | decide +kernel
theorem efeqA (m : MethodId) (z0 : Addr) (z1 : Addr) : entryFrame m #[(.ref z0), (.ref z1)] 3 = mkF m 0 #[.val (.ref z0), .val (.ref z1), .unset] [] := by first | (simp [entryFrame, mkF, argsToLocals, Value.category]; done) | rfl
def QeqA (Z : State) (o : Addr) (b : Addr) (r0 : Int32) (r1 : Int32) (r2 : Int32) (s0 : Int32) (s1 : Int32) (s2 : Int32) (h0 : Heap) (n0 : Nat) (v : Option Value) (h : Heap) (L : List Loc) : Prop := v = some (.int (own_eq r0 r1 r2 s0 s1 s2)) ∧ Fr n0 L ∧ h = h0
set_option maxRecDepth 65536 in
set_option maxHeartbeats 40000000 in
theorem rmeqA (l : Launch) (Z : State) (a0 : Array Value) (hw : ∀ d ∈ tables_1, d.before a0 Z = true) (ws : List Jvm.Cond) (o : Addr) (b : Addr) (r0 : Int32) (r1 : Int32) (r2 : Int32) (s0 : Int32) (s1 : Int32) (s2 : Int32) (h0 : Heap) (n0 : Nat) (Z0 : n0 ≤ h0.size) (F0_o : Fld Z h0 o "com/example/capwright/capwright/cap/CapFile$ExternalMethod" "packageToken" "I" (.int r0)) (F1_o : Fld Z h0 o "com/example/capwright/capwright/cap/CapFile$ExternalMethod" "classToken" "I" (.int r1)) (F2_o : Fld Z h0 o "com/example/capwright/capwright/cap/CapFile$ExternalMethod" "token" "I" (.int r2)) (F0_b : Fld Z h0 b "com/example/capwright/capwright/cap/CapFile$ExternalMethod" "packageToken" "I" (.int s0)) (F1_b : Fld Z h0 b "com/example/capwright/capwright/cap/CapFile$ExternalMethod" "classToken" "I" (.int s1)) (F2_b : Fld Z h0 b "com/example/capwright/capwright/cap/CapFile$ExternalMethod" "token" "I" (.int s2)) (E_b : Exa Z h0 b "com/example/capwright/capwright/cap/CapFile$ExternalMethod") :
    MetFree l (⟨"com/example/capwright/capwright/cap/CapFile$ExternalMethod", "equals", "(Ljava/lang/Object;)Z"⟩ : MethodName) (head1 (Jvm.Cond.code (⟨"com/example/capwright/capwright/cap/CapFile$ExternalMethod", "equals", "(Ljava/lang/Object;)Z"⟩ : MethodName) prog_21_method_2_code 3 (some .boolean) :: ws) ({ frames := 0, cells := 0, slots := 0, locals := 0 } : Room)) (fun a U => a = #[(.ref o), (.ref b)] ∧ Z.Warmed39 U.vm ∧ U.heap = h0) (fun _ _ _ _ _ => True) (fun _ U oc U' => ∃ v L, oc = .returned v ∧ QeqA Z o b r0 r1 r2 s0 s1 s2 h0 n0 v U'.heap L ∧ FrameEnd U oc U' L ({ frames := 0, cells := 0, slots := 0, locals := 0 } : Room).cells ({ frames := 0, cells := 0, slots := 0, locals := 0 } : Room).slots) := by
  refine MetFree.of_bodySF (plainFor_of_name pneqA) hisR ?_
  intro p e s m args below meth c s₁ Bd hml0 hP hK
  obtain ⟨rfl, hZ, hh⟩ := hP
  have hx := Bd.exec
  have hby := Bd.bytes
  have hml : c.maxLocals = 3 := hml0
  have hown : s.vm.findClass "com/example/capwright/capwright/cap/CapFile$ExternalMethod" = some m.cls := findClass_of_methodNamed Bd.named
  have hnm := (name_of_methodNamed Bd.named Bd.method).1
  have X0 : Stand p l e ({ frames := 0, cells := 0, slots := 0, locals := 0 } : Room) s m #[(.ref o), (.ref b)] below meth c s₁ [] 0 0 := Stand.of_body Bd
  have e0 : s₁.heap = h0 := by rw [← hh, Bd.state]; rfl
  have N0 := Fr.nil n0
  show own_Go p e below (fun s₂ oc => ∃ v L, oc = .returned v ∧ QeqA Z o b r0 r1 r2 s0 s1 s2 h0 n0 v s₂.heap L ∧ FrameEnd s oc s₂ L ({ frames := 0, cells := 0, slots := 0, locals := 0 } : Room).cells ({ frames := 0, cells := 0, slots := 0, locals := 0 } : Room).slots) s₁ (entryFrame m #[(.ref o), (.ref b)] 3)
  refine own_Go.of (g' := mkF m 0 #[.val (.ref o), .val (.ref b), .unset] []) (fun t k => castTop (efeqA m o b) k) ?_
  have hv : own_eq r0 r1 r2 s0 s1 s2 = own_eq r0 r1 r2 s0 s1 s2 := rfl
  refine og_aloadN (pc' := 1) X0 hx (hb hby d4_0) rfl rfl rfl ?_
  obtain ⟨T1, X1, e1, st1⟩ := instY X0 hx hZ hown (hw _ (List.mem_of_getElem? (i := 28) rfl)) e0 (Ins.self E_b) (g := (mkF m 1 #[.val (.ref o), .val (.ref b), .unset] [(.ref b)])) rfl rfl (hb hby d4_1)
  refine own_Go.of (g' := (mkF m 4 #[.val (.ref o), .val (.ref b), .unset] [(.int (1 : Int32))])) (fun t k => st1 _ k) ?_
  refine og_ifNo (pc' := 7) X1 hx (hb hby d4_4) ((if0 _ _).trans (feq (by decide)).1) rfl ?_
  refine og_aloadN (pc' := 8) X1 hx (hb hby d4_7) rfl rfl rfl ?_
  obtain ⟨T2, X2, e2, st2⟩ := castY X1 hx hZ hown (hw _ (List.mem_of_getElem? (i := 28) rfl)) e1 (Ins.self E_b) (g := (mkF m 8 #[.val (.ref o), .val (.ref b), .unset] [(.ref b)])) rfl rfl (hb hby d4_8)
  refine own_Go.of (g' := (mkF m 11 #[.val (.ref o), .val (.ref b), .unset] [(.ref b)])) (fun t k => st2 _ k) ?_
  refine og_astoreN (pc' := 12) (L' := #[.val (.ref o), .val (.ref b), .val (.ref b)]) X2 hx (hb hby d4_11) rfl rfl rfl ?_
  refine og_aloadN (pc' := 13) X2 hx (hb hby d4_12) rfl rfl rfl ?_
  obtain ⟨T3, X3, e3, st3⟩ := getF X2 hx hZ hown (host := "") (Or.inl (hw _ (List.mem_of_getElem? (i := 17) rfl))) Via.refl e2 F0_b (g := (mkF m 13 #[.val (.ref o), .val (.ref b), .val (.ref b)] [(.ref b)])) rfl rfl (hb hby d4_13)
  refine own_Go.of (g' := (mkF m 16 #[.val (.ref o), .val (.ref b), .val (.ref b)] [(.int s0)])) (fun t k => st3 _ k) ?_
  refine og_aloadN (pc' := 17) X3 hx (hb hby d4_16) rfl rfl rfl ?_
  obtain ⟨T4, X4, e4, st4⟩ := getF X3 hx hZ hown (host := "") (Or.inl (hw _ (List.mem_of_getElem? (i := 17) rfl))) Via.refl e3 F0_o (g := (mkF m 17 #[.val (.ref o), .val (.ref b), .val (.ref b)] [(.ref o), (.int s0)])) rfl rfl (hb hby d4_17)
  refine own_Go.of (g' := (mkF m 20 #[.val (.ref o), .val (.ref b), .val (.ref b)] [(.int r0), (.int s0)])) (fun t k => st4 _ k) ?_
  by_cases hc20_1 : s0 = r0
  · have hv := hv.trans (if_pos hc20_1)
    refine og_icmpNo (pc' := 23) X4 hx (hb hby d4_20) (teq hc20_1).2 rfl ?_
    refine og_aloadN (pc' := 24) X4 hx (hb hby d4_23) rfl rfl rfl ?_
    obtain ⟨T5, X5, e5, st5⟩ := getF X4 hx hZ hown (host := "") (Or.inl (hw _ (List.mem_of_getElem? (i := 19) rfl))) Via.refl e4 F1_b (g := (mkF m 24 #[.val (.ref o), .val (.ref b), .val (.ref b)] [(.ref b)])) rfl rfl (hb hby d4_24)
    refine own_Go.of (g' := (mkF m 27 #[.val (.ref o), .val (.ref b), .val (.ref b)] [(.int s1)])) (fun t k => st5 _ k) ?_
    refine og_aloadN (pc' := 28) X5 hx (hb hby d4_27) rfl rfl rfl ?_
    obtain ⟨T6, X6, e6, st6⟩ := getF X5 hx hZ hown (host := "") (Or.inl (hw _ (List.mem_of_getElem? (i := 19) rfl))) Via.refl e5 F1_o (g := (mkF m 28 #[.val (.ref o), .val (.ref b), .val (.ref b)] [(.ref o), (.int s1)])) rfl rfl (hb hby d4_28)
    refine own_Go.of (g' := (mkF m 31 #[.val (.ref o), .val (.ref b), .val (.ref b)] [(.int r1), (.int s1)])) (fun t k => st6 _ k) ?_
    by_cases hc31_2 : s1 = r1
    · have hv := hv.trans (if_pos hc31_2)
      refine og_icmpNo (pc' := 34) X6 hx (hb hby d4_31) (teq hc31_2).2 rfl ?_
      refine og_aloadN (pc' := 35) X6 hx (hb hby d4_34) rfl rfl rfl ?_
      obtain ⟨T7, X7, e7, st7⟩ := getF X6 hx hZ hown (host := "") (Or.inl (hw _ (List.mem_of_getElem? (i := 21) rfl))) Via.refl e6 F2_b (g := (mkF m 35 #[.val (.ref o), .val (.ref b), .val (.ref b)] [(.ref b)])) rfl rfl (hb hby d4_35)
      refine own_Go.of (g' := (mkF m 38 #[.val (.ref o), .val (.ref b), .val (.ref b)] [(.int s2)])) (fun t k => st7 _ k) ?_
      refine og_aloadN (pc' := 39) X7 hx (hb hby d4_38) rfl rfl rfl ?_
      obtain ⟨T8, X8, e8, st8⟩ := getF X7 hx hZ hown (host := "") (Or.inl (hw _ (List.mem_of_getElem? (i := 21) rfl))) Via.refl e7 F2_o (g := (mkF m 39 #[.val (.ref o), .val (.ref b), .val (.ref b)] [(.ref o), (.int s2)])) rfl rfl (hb hby d4_39)
      refine own_Go.of (g' := (mkF m 42 #[.val (.ref o), .val (.ref b), .val (.ref b)] [(.int r2), (.int s2)])) (fun t k => st8 _ k) ?_
      by_cases hc42_3 : s2 = r2
      · have hv := hv.trans (if_pos hc42_3)
        refine og_icmpNo (pc' := 45) X8 hx (hb hby d4_42) (teq hc42_3).2 rfl ?_
        refine og_iconst (pc' := 46) (n := 1) X8 hx (hb hby d4_45) rfl rfl ?_
        refine og_goto (pc' := 50) X8 hx (hb hby d4_46) (by decide) (by decide) ?_
        obtain ⟨fs, hr, hrun, hended, hW, hsame⟩ := X8.leave (v := some (.int (1 : Int32))) (fun h => by rw [Bd.returns] at h; cases h) (BodyLoose.notSynchronized Bd)
        refine ⟨_, _, retN X8 hx (t := .boolean) Bd.returns (by simp) (hb hby d4_50) hr, hrun, hended, some (.int (1 : Int32)), _, rfl, ?_, ⟨_, rfl⟩, hW, hsame.mono (by decide) (by decide)⟩
        show QeqA Z o b r0 r1 r2 s0 s1 s2 h0 n0 _ T8.heap _
        rw [e8]
        exact ⟨(congrArg (fun z => some (Value.int z)) hv.symm), N0, rfl⟩
      · have hv := hv.trans (if_neg hc42_3)
        refine og_icmpYes (pc' := 49) X8 hx (hb hby d4_42) (feq hc42_3).2 (by decide) (by decide) ?_
        refine og_iconst (pc' := 50) (n := 0) X8 hx (hb hby d4_49) rfl rfl ?_
        obtain ⟨fs, hr, hrun, hended, hW, hsame⟩ := X8.leave (v := some (.int (0 : Int32))) (fun h => by rw [Bd.returns] at h; cases h) (BodyLoose.notSynchronized Bd)
        refine ⟨_, _, retN X8 hx (t := .boolean) Bd.returns (by simp) (hb hby d4_50) hr, hrun, hended, some (.int (0 : Int32)), _, rfl, ?_, ⟨_, rfl⟩, hW, hsame.mono (by decide) (by decide)⟩
        show QeqA Z o b r0 r1 r2 s0 s1 s2 h0 n0 _ T8.heap _
        rw [e8]
        exact ⟨(congrArg (fun z => some (Value.int z)) hv.symm), N0, rfl⟩
    · have hv := hv.trans (if_neg hc31_2)
      refine og_icmpYes (pc' := 49) X6 hx (hb hby d4_31) (feq hc31_2).2 (by decide) (by decide) ?_
      refine og_iconst (pc' := 50) (n := 0) X6 hx (hb hby d4_49) rfl rfl ?_
      obtain ⟨fs, hr, hrun, hended, hW, hsame⟩ := X6.leave (v := some (.int (0 : Int32))) (fun h => by rw [Bd.returns] at h; cases h) (BodyLoose.notSynchronized Bd)
      refine ⟨_, _, retN X6 hx (t := .boolean) Bd.returns (by simp) (hb hby d4_50) hr, hrun, hended, some (.int (0 : Int32)), _, rfl, ?_, ⟨_, rfl⟩, hW, hsame.mono (by decide) (by decide)⟩
      show QeqA Z o b r0 r1 r2 s0 s1 s2 h0 n0 _ T6.heap _
      rw [e6]
      exact ⟨(congrArg (fun z => some (Value.int z)) hv.symm), N0, rfl⟩
  · have hv := hv.trans (if_neg hc20_1)
    refine og_icmpYes (pc' := 49) X4 hx (hb hby d4_20) (feq hc20_1).2 (by decide) (by decide) ?_
    refine og_iconst (pc' := 50) (n := 0) X4 hx (hb hby d4_49) rfl rfl ?_
    obtain ⟨fs, hr, hrun, hended, hW, hsame⟩ := X4.leave (v := some (.int (0 : Int32))) (fun h => by rw [Bd.returns] at h; cases h) (BodyLoose.notSynchronized Bd)
    refine ⟨_, _, retN X4 hx (t := .boolean) Bd.returns (by simp) (hb hby d4_50) hr, hrun, hended, some (.int (0 : Int32)), _, rfl, ?_, ⟨_, rfl⟩, hW, hsame.mono (by decide) (by decide)⟩
    show QeqA Z o b r0 r1 r2 s0 s1 s2 h0 n0 _ T4.heap _
    rw [e4]
    exact ⟨(congrArg (fun z => some (Value.int z)) hv.symm), N0, rfl⟩

theorem pneqF : plainName "com/example/capwright/capwright/cap/CapFile$ExternalMethod" = true := by first | (simp [plainName, overriddenIn]; done) | decide +kernel
theorem efeqF (m : MethodId) (z0 : Addr) (z1 : Addr) : entryFrame m #[(.ref z0), (.ref z1)] 3 = mkF m 0 #[.val (.ref z0), .val (.ref z1), .unset] [] := by first | (simp [entryFrame, mkF, argsToLocals, Value.category]; done) | rfl
def QeqF (Z : State) (o : Addr) (b : Addr) (h0 : Heap) (n0 : Nat) (v : Option Value) (h : Heap) (L : List Loc) : Prop := v = some (.int (0 : Int32)) ∧ Fr n0 L ∧ h = h0
set_option maxRecDepth 65536 in
set_option maxHeartbeats 40000000 in
theorem rmeqF (l : Launch) (Z : State) (a0 : Array Value) (hw : ∀ d ∈ tables_1, d.before a0 Z = true) (ws : List Jvm.Cond) (o : Addr) (b : Addr) (h0 : Heap) (n0 : Nat) (Z0 : n0 ≤ h0.size) (E_b : Exa Z h0 b "com/example/capwright/capwright/cap/CapFile$ExternalField") :
    MetFree l (⟨"com/example/capwright/capwright/cap/CapFile$ExternalMethod", "equals", "(Ljava/lang/Object;)Z"⟩ : MethodName) (head1 (Jvm.Cond.code (⟨"com/example/capwright/capwright/cap/CapFile$ExternalMethod", "equals", "(Ljava/lang/Object;)Z"⟩ : MethodName) prog_21_method_2_code 3 (some .boolean) :: ws) ({ frames := 0, cells := 0, slots := 0, locals := 0 } : Room)) (fun a U => a = #[(.ref o), (.ref b)] ∧ Z.Warmed39 U.vm ∧ U.heap = h0) (fun _ _ _ _ _ => True) (fun _ U oc U' => ∃ v L, oc = .returned v ∧ QeqF Z o b h0 n0 v U'.heap L ∧ FrameEnd U oc U' L ({ frames := 0, cells := 0, slots := 0, locals := 0 } : Room).cells ({ frames := 0, cells := 0, slots := 0, locals := 0 } : Room).slots) := by
  refine MetFree.of_bodySF (plainFor_of_name pneqF) hisR ?_
  intro p e s m args below meth c s₁ Bd hml0 hP hK
  obtain ⟨rfl, hZ, hh⟩ := hP
  have hx := Bd.exec
  have hby := Bd.bytes
  have hml : c.maxLocals = 3 := hml0
  have hown : s.vm.findClass "com/example/capwright/capwright/cap/CapFile$ExternalMethod" = some m.cls := findClass_of_methodNamed Bd.named
  have hnm := (name_of_methodNamed Bd.named Bd.method).1
  have X0 : Stand p l e ({ frames := 0, cells := 0, slots := 0, locals := 0 } : Room) s m #[(.ref o), (.ref b)] below meth c s₁ [] 0 0 := Stand.of_body Bd
  have e0 : s₁.heap = h0 := by rw [← hh, Bd.state]; rfl
  have N0 := Fr.nil n0
  show own_Go p e below (fun s₂ oc => ∃ v L, oc = .returned v ∧ QeqF Z o b h0 n0 v s₂.heap L ∧ FrameEnd s oc s₂ L ({ frames := 0, cells := 0, slots := 0, locals := 0 } : Room).cells ({ frames := 0, cells := 0, slots := 0, locals := 0 } : Room).slots) s₁ (entryFrame m #[(.ref o), (.ref b)] 3)
  refine own_Go.of (g' := mkF m 0 #[.val (.ref o), .val (.ref b), .unset] []) (fun t k => castTop (efeqF m o b) k) ?_
  refine og_aloadN (pc' := 1) X0 hx (hb hby d4_0) rfl rfl rfl ?_
  obtain ⟨T1, X1, e1, st1⟩ := instNo X0 hx hZ hown (hw _ (List.mem_of_getElem? (i := 28) rfl)) e0 E_b (own_nsNo (hw _ (List.mem_of_getElem? (i := 43) rfl)) (hw _ (List.mem_of_getElem? (i := 4) rfl)) (NS.step (hw _ (List.mem_of_getElem? (i := 43) rfl)) (NS.step (hw _ (List.mem_of_getElem? (i := 44) rfl)) (own_nsRoot (hw _ (List.mem_of_getElem? (i := 45) rfl)) (hw _ (List.mem_of_getElem? (i := 4) rfl)) (by decide)) (by decide)) (by decide)) (by decide)) (g := (mkF m 1 #[.val (.ref o), .val (.ref b), .unset] [(.ref b)])) rfl rfl (hb hby d4_1)
  refine own_Go.of (g' := (mkF m 4 #[.val (.ref o), .val (.ref b), .unset] [(.int (0 : Int32))])) (fun t k => st1 _ k) ?_
  refine og_ifYes (pc' := 49) X1 hx (hb hby d4_4) ((if0 _ _).trans (teq (by decide)).1) (by decide) (by decide) ?_
  refine og_iconst (pc' := 50) (n := 0) X1 hx (hb hby d4_49) rfl rfl ?_
  obtain ⟨fs, hr, hrun, hended, hW, hsame⟩ := X1.leave (v := some (.int (0 : Int32))) (fun h => by rw [Bd.returns] at h; cases h) (BodyLoose.notSynchronized Bd)
  refine ⟨_, _, retN X1 hx (t := .boolean) Bd.returns (by simp) (hb hby d4_50) hr, hrun, hended, some (.int (0 : Int32)), _, rfl, ?_, ⟨_, rfl⟩, hW, hsame.mono (by decide) (by decide)⟩
  show QeqF Z o b h0 n0 _ T1.heap _
  rw [e1]
  exact ⟨rfl, N0, rfl⟩

theorem pneqM : plainName "com/example/capwright/capwright/cap/CapFile$ExternalMethod" = true := by first | (simp [plainName, overriddenIn]; done) | decide +kernel
theorem efeqM (m : MethodId) (z0 : Addr) (z1 : Addr) : entryFrame m #[(.ref z0), (.ref z1)] 3 = mkF m 0 #[.val (.ref z0), .val (.ref z1), .unset] [] := by first | (simp [entryFrame, mkF, argsToLocals, Value.category]; done) | rfl
def QeqM (Z : State) (o : Addr) (b : Addr) (h0 : Heap) (n0 : Nat) (v : Option Value) (h : Heap) (L : List Loc) : Prop := v = some (.int (0 : Int32)) ∧ Fr n0 L ∧ h = h0
set_option maxRecDepth 65536 in
set_option maxHeartbeats 40000000 in
theorem rmeqM (l : Launch) (Z : State) (a0 : Array Value) (hw : ∀ d ∈ tables_1, d.before a0 Z = true) (ws : List Jvm.Cond) (o : Addr) (b : Addr) (h0 : Heap) (n0 : Nat) (Z0 : n0 ≤ h0.size) (E_b : Exa Z h0 b "com/example/capwright/capwright/cap/CapFile$InternalMethod") :
    MetFree l (⟨"com/example/capwright/capwright/cap/CapFile$ExternalMethod", "equals", "(Ljava/lang/Object;)Z"⟩ : MethodName) (head1 (Jvm.Cond.code (⟨"com/example/capwright/capwright/cap/CapFile$ExternalMethod", "equals", "(Ljava/lang/Object;)Z"⟩ : MethodName) prog_21_method_2_code 3 (some .boolean) :: ws) ({ frames := 0, cells := 0, slots := 0, locals := 0 } : Room)) (fun a U => a = #[(.ref o), (.ref b)] ∧ Z.Warmed39 U.vm ∧ U.heap = h0) (fun _ _ _ _ _ => True) (fun _ U oc U' => ∃ v L, oc = .returned v ∧ QeqM Z o b h0 n0 v U'.heap L ∧ FrameEnd U oc U' L ({ frames := 0, cells := 0, slots := 0, locals := 0 } : Room).cells ({ frames := 0, cells := 0, slots := 0, locals := 0 } : Room).slots) := by
  refine MetFree.of_bodySF (plainFor_of_name pneqM) hisR ?_
  intro p e s m args below meth c s₁ Bd hml0 hP hK
  obtain ⟨rfl, hZ, hh⟩ := hP
  have hx := Bd.exec
  have hby := Bd.bytes
  have hml : c.maxLocals = 3 := hml0
  have hown : s.vm.findClass "com/example/capwright/capwright/cap/CapFile$ExternalMethod" = some m.cls := findClass_of_methodNamed Bd.named
  have hnm := (name_of_methodNamed Bd.named Bd.method).1
  have X0 : Stand p l e ({ frames := 0, cells := 0, slots := 0, locals := 0 } : Room) s m #[(.ref o), (.ref b)] below meth c s₁ [] 0 0 := Stand.of_body Bd
  have e0 : s₁.heap = h0 := by rw [← hh, Bd.state]; rfl
  have N0 := Fr.nil n0
  show own_Go p e below (fun s₂ oc => ∃ v L, oc = .returned v ∧ QeqM Z o b h0 n0 v s₂.heap L ∧ FrameEnd s oc s₂ L ({ frames := 0, cells := 0, slots := 0, locals := 0 } : Room).cells ({ frames := 0, cells := 0, slots := 0, locals := 0 } : Room).slots) s₁ (entryFrame m #[(.ref o), (.ref b)] 3)
  refine own_Go.of (g' := mkF m 0 #[.val (.ref o), .val (.ref b), .unset] []) (fun t k => castTop (efeqM m o b) k) ?_
  refine og_aloadN (pc' := 1) X0 hx (hb hby d4_0) rfl rfl rfl ?_
  obtain ⟨T1, X1, e1, st1⟩ := instNo X0 hx hZ hown (hw _ (List.mem_of_getElem? (i := 28) rfl)) e0 E_b (own_nsNo (hw _ (List.mem_of_getElem? (i := 64) rfl)) (hw _ (List.mem_of_getElem? (i := 4) rfl)) (NS.step (hw _ (List.mem_of_getElem? (i := 64) rfl)) (NS.step (hw _ (List.mem_of_getElem? (i := 44) rfl)) (own_nsRoot (hw _ (List.mem_of_getElem? (i := 45) rfl)) (hw _ (List.mem_of_getElem? (i := 4) rfl)) (by decide)) (by decide)) (by decide)) (by decide)) (g := (mkF m 1 #[.val (.ref o), .val (.ref b), .unset] [(.ref b)])) rfl rfl (hb hby d4_1)
  refine own_Go.of (g' := (mkF m 4 #[.val (.ref o), .val (.ref b), .unset] [(.int (0 : Int32))])) (fun t k => st1 _ k) ?_
  refine og_ifYes (pc' := 49) X1 hx (hb hby d4_4) ((if0 _ _).trans (teq (by decide)).1) (by decide) (by decide) ?_
  refine og_iconst (pc' := 50) (n := 0) X1 hx (hb hby d4_49) rfl rfl ?_
  obtain ⟨fs, hr, hrun, hended, hW, hsame⟩ := X1.leave (v := some (.int (0 : Int32))) (fun h => by rw [Bd.returns] at h; cases h) (BodyLoose.notSynchronized Bd)
  refine ⟨_, _, retN X1 hx (t := .boolean) Bd.returns (by simp) (hb hby d4_50) hr, hrun, hended, some (.int (0 : Int32)), _, rfl, ?_, ⟨_, rfl⟩, hW, hsame.mono (by decide) (by decide)⟩
  show QeqM Z o b h0 n0 _ T1.heap _
  rw [e1]
  exact ⟨rfl, N0, rfl⟩

theorem pneqI : plainName "com/example/capwright/capwright/cap/CapFile$ExternalMethod" = true := by first | (simp [plainName, overriddenIn]; done) | decide +kernel
theorem efeqI (m : MethodId) (z0 : Addr) (z1 : Addr) : entryFrame m #[(.ref z0), (.ref z1)] 3 = mkF m 0 #[.val (.ref z0), .val (.ref z1), .unset] [] := by first | (simp [entryFrame, mkF, argsToLocals, Value.category]; done) | rfl
def QeqI (Z : State) (o : Addr) (b : Addr) (h0 : Heap) (n0 : Nat) (v : Option Value) (h : Heap) (L : List Loc) : Prop := v = some (.int (0 : Int32)) ∧ Fr n0 L ∧ h = h0
set_option maxRecDepth 65536 in
set_option maxHeartbeats 40000000 in
theorem rmeqI (l : Launch) (Z : State) (a0 : Array Value) (hw : ∀ d ∈ tables_1, d.before a0 Z = true) (ws : List Jvm.Cond) (o : Addr) (b : Addr) (h0 : Heap) (n0 : Nat) (Z0 : n0 ≤ h0.size) (E_b : Exa Z h0 b "java/lang/Integer") :
    MetFree l (⟨"com/example/capwright/capwright/cap/CapFile$ExternalMethod", "equals", "(Ljava/lang/Object;)Z"⟩ : MethodName) (head1 (Jvm.Cond.code (⟨"com/example/capwright/capwright/cap/CapFile$ExternalMethod", "equals", "(Ljava/lang/Object;)Z"⟩ : MethodName) prog_21_method_2_code 3 (some .boolean) :: ws) ({ frames := 0, cells := 0, slots := 0, locals := 0 } : Room)) (fun a U => a = #[(.ref o), (.ref b)] ∧ Z.Warmed39 U.vm ∧ U.heap = h0) (fun _ _ _ _ _ => True) (fun _ U oc U' => ∃ v L, oc = .returned v ∧ QeqI Z o b h0 n0 v U'.heap L ∧ FrameEnd U oc U' L ({ frames := 0, cells := 0, slots := 0, locals := 0 } : Room).cells ({ frames := 0, cells := 0, slots := 0, locals := 0 } : Room).slots) := by
  refine MetFree.of_bodySF (plainFor_of_name pneqI) hisR ?_
  intro p e s m args below meth c s₁ Bd hml0 hP hK
  obtain ⟨rfl, hZ, hh⟩ := hP
  have hx := Bd.exec
  have hby := Bd.bytes
  have hml : c.maxLocals = 3 := hml0
  have hown : s.vm.findClass "com/example/capwright/capwright/cap/CapFile$ExternalMethod" = some m.cls := findClass_of_methodNamed Bd.named
  have hnm := (name_of_methodNamed Bd.named Bd.method).1
  have X0 : Stand p l e ({ frames := 0, cells := 0, slots := 0, locals := 0 } : Room) s m #[(.ref o), (.ref b)] below meth c s₁ [] 0 0 := Stand.of_body Bd
  have e0 : s₁.heap = h0 := by rw [← hh, Bd.state]; rfl
  have N0 := Fr.nil n0
  show own_Go p e below (fun s₂ oc => ∃ v L, oc = .returned v ∧ QeqI Z o b h0 n0 v s₂.heap L ∧ FrameEnd s oc s₂ L ({ frames := 0, cells := 0, slots := 0, locals := 0 } : Room).cells ({ frames := 0, cells := 0, slots := 0, locals := 0 } : Room).slots) s₁ (entryFrame m #[(.ref o), (.ref b)] 3)
  refine own_Go.of (g' := mkF m 0 #[.val (.ref o), .val (.ref b), .unset] []) (fun t k => castTop (efeqI m o b) k) ?_
  refine og_aloadN (pc' := 1) X0 hx (hb hby d4_0) rfl rfl rfl ?_
  obtain ⟨T1, X1, e1, st1⟩ := instNo X0 hx hZ hown (hw _ (List.mem_of_getElem? (i := 28) rfl)) e0 E_b (own_nsNo (hw _ (List.mem_of_getElem? (i := 53) rfl)) (hw _ (List.mem_of_getElem? (i := 4) rfl)) (NS.step (hw _ (List.mem_of_getElem? (i := 53) rfl)) (NS.step (hw _ (List.mem_of_getElem? (i := 54) rfl)) (own_nsRoot (hw _ (List.mem_of_getElem? (i := 45) rfl)) (hw _ (List.mem_of_getElem? (i := 4) rfl)) (by decide)) (by decide)) (by decide)) (by decide)) (g := (mkF m 1 #[.val (.ref o), .val (.ref b), .unset] [(.ref b)])) rfl rfl (hb hby d4_1)
  refine own_Go.of (g' := (mkF m 4 #[.val (.ref o), .val (.ref b), .unset] [(.int (0 : Int32))])) (fun t k => st1 _ k) ?_
  refine og_ifYes (pc' := 49) X1 hx (hb hby d4_4) ((if0 _ _).trans (teq (by decide)).1) (by decide) (by decide) ?_
  refine og_iconst (pc' := 50) (n := 0) X1 hx (hb hby d4_49) rfl rfl ?_
  obtain ⟨fs, hr, hrun, hended, hW, hsame⟩ := X1.leave (v := some (.int (0 : Int32))) (fun h => by rw [Bd.returns] at h; cases h) (BodyLoose.notSynchronized Bd)
  refine ⟨_, _, retN X1 hx (t := .boolean) Bd.returns (by simp) (hb hby d4_50) hr, hrun, hended, some (.int (0 : Int32)), _, rfl, ?_, ⟨_, rfl⟩, hW, hsame.mono (by decide) (by decide)⟩
  show QeqI Z o b h0 n0 _ T1.heap _
  rw [e1]
  exact ⟨rfl, N0, rfl⟩

theorem pneqC : plainName "com/example/capwright/capwright/cap/CapFile$ExternalMethod" = true := by first | (simp [plainName, overriddenIn]; done) | decide +kernel
theorem efeqC (m : MethodId) (z0 : Addr) : entryFrame m #[(.ref z0), .null] 3 = mkF m 0 #[.val (.ref z0), .val .null, .unset] [] := by first | (simp [entryFrame, mkF, argsToLocals, Value.category]; done) | rfl
def QeqC (Z : State) (o : Addr) (h0 : Heap) (n0 : Nat) (v : Option Value) (h : Heap) (L : List Loc) : Prop := v = some (.int (0 : Int32)) ∧ Fr n0 L ∧ h = h0
set_option maxRecDepth 65536 in
set_option maxHeartbeats 40000000 in
theorem rmeqC (l : Launch) (Z : State) (a0 : Array Value) (hw : ∀ d ∈ tables_1, d.before a0 Z = true) (ws : List Jvm.Cond) (o : Addr) (h0 : Heap) (n0 : Nat) (Z0 : n0 ≤ h0.size) :
    MetFree l (⟨"com/example/capwright/capwright/cap/CapFile$ExternalMethod", "equals", "(Ljava/lang/Object;)Z"⟩ : MethodName) (head1 (Jvm.Cond.code (⟨"com/example/capwright/capwright/cap/CapFile$ExternalMethod", "equals", "(Ljava/lang/Object;)Z"⟩ : MethodName) prog_21_method_2_code 3 (some .boolean) :: ws) ({ frames := 0, cells := 0, slots := 0, locals := 0 } : Room)) (fun a U => a = #[(.ref o), .null] ∧ Z.Warmed39 U.vm ∧ U.heap = h0) (fun _ _ _ _ _ => True) (fun _ U oc U' => ∃ v L, oc = .returned v ∧ QeqC Z o h0 n0 v U'.heap L ∧ FrameEnd U oc U' L ({ frames := 0, cells := 0, slots := 0, locals := 0 } : Room).cells ({ frames := 0, cells := 0, slots := 0, locals := 0 } : Room).slots) := by
  refine MetFree.of_bodySF (plainFor_of_name pneqC) hisR ?_
  intro p e s m args below meth c s₁ Bd hml0 hP hK
  obtain ⟨rfl, hZ, hh⟩ := hP
  have hx := Bd.exec
  have hby := Bd.bytes
  have hml : c.maxLocals = 3 := hml0
  have hown : s.vm.findClass "com/example/capwright/capwright/cap/CapFile$ExternalMethod" = some m.cls := findClass_of_methodNamed Bd.named
  have hnm := (name_of_methodNamed Bd.named Bd.method).1
  have X0 : Stand p l e ({ frames := 0, cells := 0, slots := 0, locals := 0 } : Room) s m #[(.ref o), .null] below meth c s₁ [] 0 0 := Stand.of_body Bd
  have e0 : s₁.heap = h0 := by rw [← hh, Bd.state]; rfl
  have N0 := Fr.nil n0
  show own_Go p e below (fun s₂ oc => ∃ v L, oc = .returned v ∧ QeqC Z o h0 n0 v s₂.heap L ∧ FrameEnd s oc s₂ L ({ frames := 0, cells := 0, slots := 0, locals := 0 } : Room).cells ({ frames := 0, cells := 0, slots := 0, locals := 0 } : Room).slots) s₁ (entryFrame m #[(.ref o), .null] 3)
  refine own_Go.of (g' := mkF m 0 #[.val (.ref o), .val .null, .unset] []) (fun t k => castTop (efeqC m o) k) ?_
  refine og_aloadN (pc' := 1) X0 hx (hb hby d4_0) rfl rfl rfl ?_
  refine own_Go.of (g' := (mkF m 4 #[.val (.ref o), .val .null, .unset] [(.int (0 : Int32))])) (fun t k => X0.instanceofNull hx (g := (mkF m 1 #[.val (.ref o), .val .null, .unset] [.null])) rfl rfl (hb hby d4_1) _ k) ?_
  refine og_ifYes (pc' := 49) X0 hx (hb hby d4_4) ((if0 _ _).trans (teq (by decide)).1) (by decide) (by decide) ?_
  refine og_iconst (pc' := 50) (n := 0) X0 hx (hb hby d4_49) rfl rfl ?_
  obtain ⟨fs, hr, hrun, hended, hW, hsame⟩ := X0.leave (v := some (.int (0 : Int32))) (fun h => by rw [Bd.returns] at h; cases h) (BodyLoose.notSynchronized Bd)
  refine ⟨_, _, retN X0 hx (t := .boolean) Bd.returns (by simp) (hb hby d4_50) hr, hrun, hended, some (.int (0 : Int32)), _, rfl, ?_, ⟨_, rfl⟩, hW, hsame.mono (by decide) (by decide)⟩
  show QeqC Z o h0 n0 _ s₁.heap _
  rw [e0]
  exact ⟨rfl, N0, rfl⟩

theorem d6_0 : decode jdk_33_method_22_code 0 = .ok (.iload_n 0, 1) := by decide +kernel
theorem d6_1 : decode jdk_33_method_22_code 1 = .ok (.bipush (-128), 2) := by decide +kernel
theorem d6_3 : decode jdk_33_method_22_code 3 = .ok (.if_icmp .lt 20, 3) := by decide +kernel
theorem d6_6 : decode jdk_33_method_22_code 6 = .ok (.iload_n 0, 1) := by decide +kernel
theorem d6_7 : decode jdk_33_method_22_code 7 = .ok (.getstatic 191, 3) := by decide +kernel
theorem d6_10 : decode jdk_33_method_22_code 10 = .ok (.if_icmp .gt 13, 3) := by decide +kernel
theorem d6_13 : decode jdk_33_method_22_code 13 = .ok (.getstatic 195, 3) := by decide +kernel
theorem d6_16 : decode jdk_33_method_22_code 16 = .ok (.iload_n 0, 1) := by decide +kernel
theorem d6_17 : decode jdk_33_method_22_code 17 = .ok (.sipush 128, 3) := by decide +kernel
theorem d6_20 : decode jdk_33_method_22_code 20 = .ok (.iadd, 1) := by decide +kernel
theorem d6_21 : decode jdk_33_method_22_code 21 = .ok (.aaload, 1) := by decide +kernel
theorem d6_22 : decode jdk_33_method_22_code 22 = .ok (.areturn, 1) := by decide +kernel
theorem d6_23 : decode jdk_33_method_22_code 23 = .ok (.new 1, 3) := by decide +kernel
theorem d6_26 : decode jdk_33_method_22_code 26 = .ok (.dup, 1) := by decide +kernel
theorem d6_27 : decode jdk_33_method_22_code 27 = .ok (.iload_n 0, 1) := by decide +kernel
theorem d6_28 : decode jdk_33_method_22_code 28 = .ok (.invokespecial 199, 3) := by decide +kernel
theorem d6_31 : decode jdk_33_method_22_code 31 = .ok (.areturn, 1) := by decide +kernel
theorem pnval : plainName "java/lang/Integer" = true := by first | (simp [plainName, overriddenIn]; done) | decide +kernel
theorem pd_1 : parseMethodDescriptor "(I)V" = some ⟨[.int], none⟩ := by decide +kernel
theorem efval (m : MethodId) (z0 : Int32) : entryFrame m #[(.int z0)] 1 = mkF m 0 #[.val (.int z0)] [] := by first | (simp [entryFrame, mkF, argsToLocals, Value.category]; done) | rfl
def Qval (Z : State) (x0 : Int32) (ca : Addr) (h0 : Heap) (n0 : Nat) (v : Option Value) (h : Heap) (L : List Loc) : Prop := ∃ (r : Addr), v = some (.ref r) ∧ Fr n0 L ∧ Keep h0 h [] ∧ Exa Z h r "java/lang/Integer"
set_option maxRecDepth 65536 in
set_option maxHeartbeats 40000000 in
theorem rmval (l : Launch) (Z : State) (a0 : Array Value) (hw : ∀ d ∈ tables_1, d.before a0 Z = true) (ws : List Jvm.Cond) (x0 : Int32) (ca : Addr) (h0 : Heap) (n0 : Nat) (Z0 : n0 ≤ h0.size) (O_h : Old Z n0 h0) (S_h : Sta Z Z.heap "java/lang/Integer$IntegerCache" "high" "I" (.int (127 : Int32))) (S_c : Sta Z Z.heap "java/lang/Integer$IntegerCache" "cache" "[Ljava/lang/Integer;" (.ref ca)) (hC : own_Cache Z ca) :
    MetFree l (⟨"java/lang/Integer", "valueOf", "(I)Ljava/lang/Integer;"⟩ : MethodName) (head1 (Jvm.Cond.code (⟨"java/lang/Integer", "valueOf", "(I)Ljava/lang/Integer;"⟩ : MethodName) jdk_33_method_22_code 1 (some (.object "java/lang/Integer")) :: ws) ({ frames := 3, cells := 1, slots := 1, locals := 38 } : Room)) (fun a U => a = #[(.int x0)] ∧ Z.Warmed39 U.vm ∧ U.heap = h0) (fun _ _ _ _ _ => True) (fun _ U oc U' => ∃ v L, oc = .returned v ∧ Qval Z x0 ca h0 n0 v U'.heap L ∧ FrameEnd U oc U' L ({ frames := 3, cells := 1, slots := 1, locals := 38 } : Room).cells ({ frames := 3, cells := 1, slots := 1, locals := 38 } : Room).slots) := by
  refine MetFree.of_bodySF (plainFor_of_name pnval) hisR ?_
  intro p e s m args below meth c s₁ Bd hml0 hP hK
  obtain ⟨rfl, hZ, hh⟩ := hP
  have hx := Bd.exec
  have hby := Bd.bytes
  have hml : c.maxLocals = 1 := hml0
  have hown : s.vm.findClass "java/lang/Integer" = some m.cls := findClass_of_methodNamed Bd.named
  have hnm := (name_of_methodNamed Bd.named Bd.method).1
  have X0 : Stand p l e ({ frames := 3, cells := 1, slots := 1, locals := 38 } : Room) s m #[(.int x0)] below meth c s₁ [] 0 0 := Stand.of_body Bd
  have e0 : s₁.heap = h0 := by rw [← hh, Bd.state]; rfl
  have N0 := Fr.nil n0
  show own_Go p e below (fun s₂ oc => ∃ v L, oc = .returned v ∧ Qval Z x0 ca h0 n0 v s₂.heap L ∧ FrameEnd s oc s₂ L ({ frames := 3, cells := 1, slots := 1, locals := 38 } : Room).cells ({ frames := 3, cells := 1, slots := 1, locals := 38 } : Room).slots) s₁ (entryFrame m #[(.int x0)] 1)
  refine own_Go.of (g' := mkF m 0 #[.val (.int x0)] []) (fun t k => castTop (efval m x0) k) ?_
  have S7 := S_h.ext O_h.2
  have S13 := S_c.ext O_h.2
  refine og_iloadN (pc' := 1) X0 hx (hb hby d6_0) rfl rfl ?_
  refine og_bipush (pc' := 3) (n := -128) X0 hx (hb hby d6_1) rfl rfl ?_
  by_cases hc3_1 : x0 < (-128 : Int32)
  · refine og_icmpYes (pc' := 23) X0 hx (hb hby d6_3) (tlt hc3_1).1 (by decide) (by decide) ?_
    obtain ⟨T1, h1, X1, e1, E1, A1, D1, -, st1⟩ := newO X0 hx hZ hown (hw _ (List.mem_of_getElem? (i := 65) rfl)) (hw _ (List.mem_of_getElem? (i := 66) rfl)) (hw _ (List.mem_of_getElem? (i := 48) rfl)) e0 (g := (mkF m 23 #[.val (.int x0)] [])) rfl (hb hby d6_23) (by decide) (by decide)
    obtain ⟨b1, g1⟩ : ∃ z, z = h0.size := ⟨_, rfl⟩
    rw [← g1] at A1 D1 st1
    have g_b1 : n0 ≤ b1 := Nat.le_trans Z0 (Nat.le_of_eq g1.symm)
    have sz_b1 : h0.size ≤ b1 := Nat.le_trans (Keep.refl h0 []).1 (Nat.le_of_eq g1.symm)
    have f1_0 := O_h.ext E1
    have f1_4 := S7.ext E1
    have f1_5 := S13.ext E1
    have F1_value : Fld Z h1 b1 "java/lang/Integer" "value" "I" (.int (0 : Int32)) := D1 (Or.inr (hw _ (List.mem_of_getElem? (i := 79) rfl))) (ty := .int) (by decide)
    have K1 : Keep h0 h1 [] := (Keep.refl h0 []).ext E1
    have Z1 : n0 ≤ h1.size := Nat.le_trans Z0 K1.1
    refine own_Go.of (g' := (mkF m 26 #[.val (.int x0)] [(.ref b1)])) (fun t k => st1 _ k) ?_
    refine og_dup (pc' := 27) X1 hx (hb hby d6_26) rfl rfl ?_
    refine og_iloadN (pc' := 28) X1 hx (hb hby d6_27) rfl rfl ?_
    obtain ⟨_, _, ⟨T2, L2, k2, n2⟩, -, X2, ⟨Lc2, hQ2, l2, y2, z2⟩, st2⟩ := X1.specialBack hx (y := (⟨"java/lang/Integer", "<init>", "(I)V"⟩ : MethodName)) rfl hown (mvT hZ (hw _ (List.mem_of_getElem? (i := 67) rfl))) (mvT hZ (hw _ (List.mem_of_getElem? (i := 68) rfl))) (mvT hZ (hw _ (List.mem_of_getElem? (i := 70) rfl))) (by decide) (backOf (W := 1) (rmIN l Z a0 hw [] b1 x0 (.int (0 : Int32)) h1 n0 Z1 A1 F1_value g_b1) hZ (hw _ (List.mem_of_getElem? (i := 70) rfl)) (hw _ (List.mem_of_getElem? (i := 48) rfl)) (by decide) (by decide)) (g := (mkF m 28 #[.val (.int x0)] [(.int x0), (.ref b1), (.ref b1)])) rfl (by rw [hml]; rfl) (Steps.refl _) (a := b1) (argsL := [(.int x0)]) (rest := [(.ref b1)]) (lenOf pd_1 rfl) rfl (by show 2 * 0 + _ ≤ _; exact Nat.le_of_eq rfl) (hb hby d6_28) (fun _ _ => ⟨rfl, e1, (by decide : 1 + 0 ≤ _), (by decide : 1 + 0 ≤ _)⟩)
    dsimp only [Pt.U, Pt.locs, Pt.cells, Pt.slots] at X2 l2 y2 z2 st2 hQ2
    subst l2 y2 z2
    obtain ⟨rfl, N2q, K2q, c2_0, c2_1⟩ := hQ2
    have N2 := Fr.app N0 N2q
    have f2_0 := f1_0.keep K2q (allS g_b1 all0)
    have f2_4 := A1.keep K2q
    have K2 : Keep h0 T2.heap [] := K1.trans K2q (allS (Or.inr sz_b1) all0)
    have Z2 : n0 ≤ T2.heap.size := Nat.le_trans Z0 K2.1
    refine own_Go.of (g' := (mkF m 31 #[.val (.int x0)] [(.ref b1)])) (fun t k => st2.trans k) ?_
    obtain ⟨fs, hr, hrun, hended, hW, hsame⟩ := X2.leave (v := some (.ref b1)) (fun h => by rw [Bd.returns] at h; cases h) (BodyLoose.notSynchronized Bd)
    refine ⟨_, _, (by jvm_step X2.here [X2.here.top, hx, (hb hby d6_31), X2.method', Bd.returns, Value.isRef, FieldType.isReference]; (first | (intro acts; rw [hr _ acts rfl rfl rfl]) | (rw [hr _ _ rfl rfl rfl])); exact Steps.refl _), hrun, hended, some (.ref b1), _, rfl, ?_, ⟨_, rfl⟩, hW, hsame.mono (by decide) (by decide)⟩
    show Qval Z x0 ca h0 n0 _ T2.heap _
    exact ⟨b1, rfl, N2, K2, c2_0⟩
  · refine og_icmpNo (pc' := 6) X0 hx (hb hby d6_3) (flt hc3_1).1 rfl ?_
    refine og_iloadN (pc' := 7) X0 hx (hb hby d6_6) rfl rfl ?_
    obtain ⟨T3, X3, e3, st3⟩ := getS2 X0 hx hZ hown (host := "") (Or.inl (hw _ (List.mem_of_getElem? (i := 50) rfl))) Via.refl e0 S7 (g := (mkF m 7 #[.val (.int x0)] [(.int x0)])) rfl (hb hby d6_7)
    refine own_Go.of (g' := (mkF m 10 #[.val (.int x0)] [(.int (127 : Int32)), (.int x0)])) (fun t k => st3 _ k) ?_
    by_cases hc10_2 : (127 : Int32) < x0
    · refine og_icmpYes (pc' := 23) X3 hx (hb hby d6_10) (tlt hc10_2).2.2.1 (by decide) (by decide) ?_
      obtain ⟨T4, h4, X4, e4, E4, A4, D4, -, st4⟩ := newO X3 hx hZ hown (hw _ (List.mem_of_getElem? (i := 65) rfl)) (hw _ (List.mem_of_getElem? (i := 66) rfl)) (hw _ (List.mem_of_getElem? (i := 48) rfl)) e3 (g := (mkF m 23 #[.val (.int x0)] [])) rfl (hb hby d6_23) (by decide) (by decide)
      obtain ⟨b4, g4⟩ : ∃ z, z = h0.size := ⟨_, rfl⟩
      rw [← g4] at A4 D4 st4
      have g_b4 : n0 ≤ b4 := Nat.le_trans Z0 (Nat.le_of_eq g4.symm)
      have sz_b4 : h0.size ≤ b4 := Nat.le_trans (Keep.refl h0 []).1 (Nat.le_of_eq g4.symm)
      have f4_0 := O_h.ext E4
      have f4_4 := S7.ext E4
      have f4_5 := S13.ext E4
      have F4_value : Fld Z h4 b4 "java/lang/Integer" "value" "I" (.int (0 : Int32)) := D4 (Or.inr (hw _ (List.mem_of_getElem? (i := 79) rfl))) (ty := .int) (by decide)
      have K4 : Keep h0 h4 [] := (Keep.refl h0 []).ext E4
      have Z4 : n0 ≤ h4.size := Nat.le_trans Z0 K4.1
      refine own_Go.of (g' := (mkF m 26 #[.val (.int x0)] [(.ref b4)])) (fun t k => st4 _ k) ?_
      refine og_dup (pc' := 27) X4 hx (hb hby d6_26) rfl rfl ?_
      refine og_iloadN (pc' := 28) X4 hx (hb hby d6_27) rfl rfl ?_
      obtain ⟨_, _, ⟨T5, L5, k5, n5⟩, -, X5, ⟨Lc5, hQ5, l5, y5, z5⟩, st5⟩ := X4.specialBack hx (y := (⟨"java/lang/Integer", "<init>", "(I)V"⟩ : MethodName)) rfl hown (mvT hZ (hw _ (List.mem_of_getElem? (i := 67) rfl))) (mvT hZ (hw _ (List.mem_of_getElem? (i := 68) rfl))) (mvT hZ (hw _ (List.mem_of_getElem? (i := 70) rfl))) (by decide) (backOf (W := 1) (rmIN l Z a0 hw [] b4 x0 (.int (0 : Int32)) h4 n0 Z4 A4 F4_value g_b4) hZ (hw _ (List.mem_of_getElem? (i := 70) rfl)) (hw _ (List.mem_of_getElem? (i := 48) rfl)) (by decide) (by decide)) (g := (mkF m 28 #[.val (.int x0)] [(.int x0), (.ref b4), (.ref b4)])) rfl (by rw [hml]; rfl) (Steps.refl _) (a := b4) (argsL := [(.int x0)]) (rest := [(.ref b4)]) (lenOf pd_1 rfl) rfl (by show 2 * 0 + _ ≤ _; exact Nat.le_of_eq rfl) (hb hby d6_28) (fun _ _ => ⟨rfl, e4, (by decide : 1 + 0 ≤ _), (by decide : 1 + 0 ≤ _)⟩)
      dsimp only [Pt.U, Pt.locs, Pt.cells, Pt.slots] at X5 l5 y5 z5 st5 hQ5
      subst l5 y5 z5
      obtain ⟨rfl, N5q, K5q, c5_0, c5_1⟩ := hQ5
      have N5 := Fr.app N0 N5q
      have f5_0 := f4_0.keep K5q (allS g_b4 all0)
      have f5_4 := A4.keep K5q
      have K5 : Keep h0 T5.heap [] := K4.trans K5q (allS (Or.inr sz_b4) all0)
      have Z5 : n0 ≤ T5.heap.size := Nat.le_trans Z0 K5.1
      refine own_Go.of (g' := (mkF m 31 #[.val (.int x0)] [(.ref b4)])) (fun t k => st5.trans k) ?_
      obtain ⟨fs, hr, hrun, hended, hW, hsame⟩ := X5.leave (v := some (.ref b4)) (fun h => by rw [Bd.returns] at h; cases h) (BodyLoose.notSynchronized Bd)
      refine ⟨_, _, (by jvm_step X5.here [X5.here.top, hx, (hb hby d6_31), X5.method', Bd.returns, Value.isRef, FieldType.isReference]; (first | (intro acts; rw [hr _ acts rfl rfl rfl]) | (rw [hr _ _ rfl rfl rfl])); exact Steps.refl _), hrun, hended, some (.ref b4), _, rfl, ?_, ⟨_, rfl⟩, hW, hsame.mono (by decide) (by decide)⟩
      show Qval Z x0 ca h0 n0 _ T5.heap _
      exact ⟨b4, rfl, N5, K5, c5_0⟩
    · refine og_icmpNo (pc' := 13) X3 hx (hb hby d6_10) (flt hc10_2).2.2.1 rfl ?_
      obtain ⟨T6, X6, e6, st6⟩ := getS2 X3 hx hZ hown (host := "") (Or.inl (hw _ (List.mem_of_getElem? (i := 52) rfl))) Via.refl e3 S13 (g := (mkF m 13 #[.val (.int x0)] [])) rfl (hb hby d6_13)
      refine own_Go.of (g' := (mkF m 16 #[.val (.int x0)] [(.ref ca)])) (fun t k => st6 _ k) ?_
      refine og_iloadN (pc' := 17) X6 hx (hb hby d6_16) rfl rfl ?_
      refine og_sipush (pc' := 20) (n := 128) X6 hx (hb hby d6_17) rfl rfl ?_
      refine og_iadd (pc' := 21) X6 hx (hb hby d6_20) rfl ?_
      obtain ⟨cell, rr, ArZ, hin, hat, ErZ⟩ := own_cache_at hC (x := x0) hc3_1 hc10_2
      have Ar := ArZ.ext O_h.2
      have Er := ErZ.ext O_h.2
      refine own_Go.of (g' := (mkF m 22 #[.val (.int x0)] [(.ref rr)])) (fun t k => X6.aaload hx (j := (x0 + (128 : Int32))) (v := (.ref rr)) (by rw [e6]; exact Ar.1) (State.isArrayOf_alike hZ.alike Ar.2.1) rfl Ar.2.2 hin hat (g := (mkF m 21 #[.val (.int x0)] [(.int (x0 + (128 : Int32))), (.ref ca)])) rfl rfl (hb hby d6_21) _ k) ?_
      obtain ⟨fs, hr, hrun, hended, hW, hsame⟩ := X6.leave (v := some (.ref rr)) (fun h => by rw [Bd.returns] at h; cases h) (BodyLoose.notSynchronized Bd)
      refine ⟨_, _, (by jvm_step X6.here [X6.here.top, hx, (hb hby d6_22), X6.method', Bd.returns, Value.isRef, FieldType.isReference]; (first | (intro acts; rw [hr _ acts rfl rfl rfl]) | (rw [hr _ _ rfl rfl rfl])); exact Steps.refl _), hrun, hended, some (.ref rr), _, rfl, ?_, ⟨_, rfl⟩, hW, hsame.mono (by decide) (by decide)⟩
      show Qval Z x0 ca h0 n0 _ T6.heap _
      rw [e6]
      exact ⟨rr, rfl, N0, (Keep.refl h0 []), Er⟩

theorem pn0 : plainName "com/example/capwright/capwright/cap/ExternalMethodEqualsPinLaw" = true := by first | (simp [plainName, overriddenIn]; done) | decide +kernel
theorem pd_2 : parseMethodDescriptor "(III)V" = some ⟨[.int, .int, .int], none⟩ := by decide +kernel
theorem pd_3 : parseMethodDescriptor "(Ljava/lang/Object;)Z" = some ⟨[(.object "java/lang/Object")], some .boolean⟩ := by decide +kernel
theorem pd_4 : parseMethodDescriptor "(I)Ljava/lang/Integer;" = some ⟨[.int], some (.object "java/lang/Integer")⟩ := by decide +kernel
theorem ef0 (m : MethodId) (z0 : Int32) (z1 : Int32) (z2 : Int32) (z3 : Int32) (z4 : Int32) (z5 : Int64) : entryFrame m #[(.int z0), (.int z1), (.int z2), (.int z3), (.int z4), (.long z5)] maxLocals = mkF m 0 #[.val (.int z0), .val (.int z1), .val (.int z2), .val (.int z3), .val (.int z4), .val (.long z5), .second, .unset, .unset, .unset, .unset, .unset, .unset, .unset, .unset] [] := by first | (simp [entryFrame, mkF, argsToLocals, Value.category, maxLocals]; done) | rfl
def Q0 (Z : State) (x0 : Int32) (x1 : Int32) (x2 : Int32) (x3 : Int32) (x4 : Int32) (x5 : Int64) (ca : Addr) (h0 : Heap) (n0 : Nat) (v : Option Value) (h : Heap) (L : List Loc) : Prop := v = some (.int 1) ∧ Fr n0 L
set_option maxRecDepth 65536 in
set_option maxHeartbeats 40000000 in
theorem rm0 (l : Launch) (Z : State) (a0 : Array Value) (hw : ∀ d ∈ tables_1, d.before a0 Z = true) (ws : List Jvm.Cond) (x0 : Int32) (x1 : Int32) (x2 : Int32) (x3 : Int32) (x4 : Int32) (x5 : Int64) (ca : Addr) (h0 : Heap) (n0 : Nat) (Z0 : n0 ≤ h0.size) (O_h : Old Z n0 h0) (S_h : Sta Z Z.heap "java/lang/Integer$IntegerCache" "high" "I" (.int (127 : Int32))) (S_c : Sta Z Z.heap "java/lang/Integer$IntegerCache" "cache" "[Ljava/lang/Integer;" (.ref ca)) (hC : own_Cache Z ca) :
    MetFree l x (head1 (Jvm.Cond.code x code maxLocals ret :: ws) room_1) (fun a U => a = #[(.int x0), (.int x1), (.int x2), (.int x3), (.int x4), (.long x5)] ∧ Z.Warmed39 U.vm ∧ U.heap = h0) (fun _ _ _ _ _ => True) (fun _ U oc U' => ∃ v L, oc = .returned v ∧ Q0 Z x0 x1 x2 x3 x4 x5 ca h0 n0 v U'.heap L ∧ FrameEnd U oc U' L room_1.cells room_1.slots) := by
  refine MetFree.of_bodySF (plainFor_of_name pn0) hisR ?_
  intro p e s m args below meth c s₁ Bd hml0 hP hK
  obtain ⟨rfl, hZ, hh⟩ := hP
  have hx := Bd.exec
  have hby := Bd.bytes
  have hml : c.maxLocals = 15 := hml0
  have hown : s.vm.findClass "com/example/capwright/capwright/cap/ExternalMethodEqualsPinLaw" = some m.cls := findClass_of_methodNamed Bd.named
  have hnm := (name_of_methodNamed Bd.named Bd.method).1
  have X0 : Stand p l e room_1 s m #[(.int x0), (.int x1), (.int x2), (.int x3), (.int x4), (.long x5)] below meth c s₁ [] 0 0 := Stand.of_body Bd
  have e0 : s₁.heap = h0 := by rw [← hh, Bd.state]; rfl
  have N0 := Fr.nil n0
  show own_Go p e below (fun s₂ oc => ∃ v L, oc = .returned v ∧ Q0 Z x0 x1 x2 x3 x4 x5 ca h0 n0 v s₂.heap L ∧ FrameEnd s oc s₂ L room_1.cells room_1.slots) s₁ (entryFrame m #[(.int x0), (.int x1), (.int x2), (.int x3), (.int x4), (.long x5)] maxLocals)
  refine own_Go.of (g' := mkF m 0 #[.val (.int x0), .val (.int x1), .val (.int x2), .val (.int x3), .val (.int x4), .val (.long x5), .second, .unset, .unset, .unset, .unset, .unset, .unset, .unset, .unset] []) (fun t k => castTop (ef0 m x0 x1 x2 x3 x4 x5) k) ?_
  refine og_lload (pc' := 2) X0 hx (hb hby at_0) rfl rfl ?_
  refine og_bipush (pc' := 4) (n := 32) X0 hx (hb hby at_2) rfl rfl ?_
  refine og_lshr (pc' := 5) X0 hx (hb hby at_4) rfl ?_
  refine og_l2i (pc' := 6) X0 hx (hb hby at_5) rfl ?_
  refine og_istore (pc' := 8) (L' := #[.val (.int x0), .val (.int x1), .val (.int x2), .val (.int x3), .val (.int x4), .val (.long x5), .second, .val (.int ((x5 >>> ((32 : Int32) &&& 0x3f).toInt64).toInt32)), .unset, .unset, .unset, .unset, .unset, .unset, .unset]) X0 hx (hb hby at_6) rfl rfl ?_
  refine og_lload (pc' := 10) X0 hx (hb hby at_8) rfl rfl ?_
  refine og_lconst1 (pc' := 11) X0 hx (hb hby at_10) rfl ?_
  refine og_land (pc' := 12) X0 hx (hb hby at_11) rfl ?_
  refine og_lconst0 (pc' := 13) X0 hx (hb hby at_12) rfl ?_
  refine og_lcmp (pc' := 14) X0 hx (hb hby at_13) rfl ?_
  refine own_via (A := own_Go p e below (fun s₂ oc => ∃ v L, oc = .returned v ∧ Q0 Z x0 x1 x2 x3 x4 x5 ca h0 n0 v s₂.heap L ∧ FrameEnd s oc s₂ L room_1.cells room_1.slots) s₁ (mkF m 22 #[.val (.int x0), .val (.int x1), .val (.int x2), .val (.int x3), .val (.int x4), .val (.long x5), .second, .val (.int ((x5 >>> ((32 : Int32) &&& 0x3f).toInt64).toInt32)), .unset, .unset, .unset, .unset, .unset, .unset, .unset] [(.int (if (x5 &&& (1 : Int64)) = (0 : Int64) then x3 else x0))])) (fun k => ?_) ?_
  · by_cases hc14_1 : (x5 &&& (1 : Int64)) = (0 : Int64)
    · refine og_ifYes (pc' := 21) X0 hx (hb hby at_14) ((if0 _ _).trans (teq ((lw_eq _ _).mpr hc14_1)).1) (by decide) (by decide) ?_
      refine og_iloadN (pc' := 22) X0 hx (hb hby at_21) rfl rfl ?_
      simp only [if_pos hc14_1] at k
      exact k
    · refine og_ifNo (pc' := 17) X0 hx (hb hby at_14) ((if0 _ _).trans (feq (fun q => hc14_1 ((lw_eq _ _).mp q))).1) rfl ?_
      refine og_iloadN (pc' := 18) X0 hx (hb hby at_17) rfl rfl ?_
      refine og_goto (pc' := 22) X0 hx (hb hby at_18) (by decide) (by decide) ?_
      simp only [if_neg hc14_1] at k
      exact k
  refine og_istore (pc' := 24) (L' := #[.val (.int x0), .val (.int x1), .val (.int x2), .val (.int x3), .val (.int x4), .val (.long x5), .second, .val (.int ((x5 >>> ((32 : Int32) &&& 0x3f).toInt64).toInt32)), .val (.int (if (x5 &&& (1 : Int64)) = (0 : Int64) then x3 else x0)), .unset, .unset, .unset, .unset, .unset, .unset]) X0 hx (hb hby at_22) rfl rfl ?_
  refine og_lload (pc' := 26) X0 hx (hb hby at_24) rfl rfl ?_
  refine og_ldc2_w (pc' := 29) X0 hx (hb hby at_26) hown (mvT hZ (hw _ (List.mem_of_getElem? (i := 0) rfl))) rfl ?_
  refine og_land (pc' := 30) X0 hx (hb hby at_29) rfl ?_
  refine og_lconst0 (pc' := 31) X0 hx (hb hby at_30) rfl ?_
  refine og_lcmp (pc' := 32) X0 hx (hb hby at_31) rfl ?_
  refine own_via (A := own_Go p e below (fun s₂ oc => ∃ v L, oc = .returned v ∧ Q0 Z x0 x1 x2 x3 x4 x5 ca h0 n0 v s₂.heap L ∧ FrameEnd s oc s₂ L room_1.cells room_1.slots) s₁ (mkF m 41 #[.val (.int x0), .val (.int x1), .val (.int x2), .val (.int x3), .val (.int x4), .val (.long x5), .second, .val (.int ((x5 >>> ((32 : Int32) &&& 0x3f).toInt64).toInt32)), .val (.int (if (x5 &&& (1 : Int64)) = (0 : Int64) then x3 else x0)), .unset, .unset, .unset, .unset, .unset, .unset] [(.int (if (x5 &&& (2 : Int64)) = (0 : Int64) then x4 else x1))])) (fun k => ?_) ?_
  · by_cases hc32_2 : (x5 &&& (2 : Int64)) = (0 : Int64)
    · refine og_ifYes (pc' := 39) X0 hx (hb hby at_32) ((if0 _ _).trans (teq ((lw_eq _ _).mpr hc32_2)).1) (by decide) (by decide) ?_
      refine og_iload (pc' := 41) X0 hx (hb hby at_39) rfl rfl ?_
      simp only [if_pos hc32_2] at k
      exact k
    · refine og_ifNo (pc' := 35) X0 hx (hb hby at_32) ((if0 _ _).trans (feq (fun q => hc32_2 ((lw_eq _ _).mp q))).1) rfl ?_
      refine og_iloadN (pc' := 36) X0 hx (hb hby at_35) rfl rfl ?_
      refine og_goto (pc' := 41) X0 hx (hb hby at_36) (by decide) (by decide) ?_
      simp only [if_neg hc32_2] at k
      exact k
  refine og_istore (pc' := 43) (L' := #[.val (.int x0), .val (.int x1), .val (.int x2), .val (.int x3), .val (.int x4), .val (.long x5), .second, .val (.int ((x5 >>> ((32 : Int32) &&& 0x3f).toInt64).toInt32)), .val (.int (if (x5 &&& (1 : Int64)) = (0 : Int64) then x3 else x0)), .val (.int (if (x5 &&& (2 : Int64)) = (0 : Int64) then x4 else x1)), .unset, .unset, .unset, .unset, .unset]) X0 hx (hb hby at_41) rfl rfl ?_
  refine og_lload (pc' := 45) X0 hx (hb hby at_43) rfl rfl ?_
  refine og_ldc2_w (pc' := 48) X0 hx (hb hby at_45) hown (mvT hZ (hw _ (List.mem_of_getElem? (i := 1) rfl))) rfl ?_
  refine og_land (pc' := 49) X0 hx (hb hby at_48) rfl ?_
  refine og_lconst0 (pc' := 50) X0 hx (hb hby at_49) rfl ?_
  refine og_lcmp (pc' := 51) X0 hx (hb hby at_50) rfl ?_
  refine own_via (A := own_Go p e below (fun s₂ oc => ∃ v L, oc = .returned v ∧ Q0 Z x0 x1 x2 x3 x4 x5 ca h0 n0 v s₂.heap L ∧ FrameEnd s oc s₂ L room_1.cells room_1.slots) s₁ (mkF m 60 #[.val (.int x0), .val (.int x1), .val (.int x2), .val (.int x3), .val (.int x4), .val (.long x5), .second, .val (.int ((x5 >>> ((32 : Int32) &&& 0x3f).toInt64).toInt32)), .val (.int (if (x5 &&& (1 : Int64)) = (0 : Int64) then x3 else x0)), .val (.int (if (x5 &&& (2 : Int64)) = (0 : Int64) then x4 else x1)), .unset, .unset, .unset, .unset, .unset] [(.int (if (x5 &&& (4 : Int64)) = (0 : Int64) then ((x5 >>> ((32 : Int32) &&& 0x3f).toInt64).toInt32) else x2))])) (fun k => ?_) ?_
  · by_cases hc51_3 : (x5 &&& (4 : Int64)) = (0 : Int64)
    · refine og_ifYes (pc' := 58) X0 hx (hb hby at_51) ((if0 _ _).trans (teq ((lw_eq _ _).mpr hc51_3)).1) (by decide) (by decide) ?_
      refine og_iload (pc' := 60) X0 hx (hb hby at_58) rfl rfl ?_
      simp only [if_pos hc51_3] at k
      exact k
    · refine og_ifNo (pc' := 54) X0 hx (hb hby at_51) ((if0 _ _).trans (feq (fun q => hc51_3 ((lw_eq _ _).mp q))).1) rfl ?_
      refine og_iloadN (pc' := 55) X0 hx (hb hby at_54) rfl rfl ?_
      refine og_goto (pc' := 60) X0 hx (hb hby at_55) (by decide) (by decide) ?_
      simp only [if_neg hc51_3] at k
      exact k
  refine og_istore (pc' := 62) (L' := #[.val (.int x0), .val (.int x1), .val (.int x2), .val (.int x3), .val (.int x4), .val (.long x5), .second, .val (.int ((x5 >>> ((32 : Int32) &&& 0x3f).toInt64).toInt32)), .val (.int (if (x5 &&& (1 : Int64)) = (0 : Int64) then x3 else x0)), .val (.int (if (x5 &&& (2 : Int64)) = (0 : Int64) then x4 else x1)), .val (.int (if (x5 &&& (4 : Int64)) = (0 : Int64) then ((x5 >>> ((32 : Int32) &&& 0x3f).toInt64).toInt32) else x2)), .unset, .unset, .unset, .unset]) X0 hx (hb hby at_60) rfl rfl ?_
  refine og_lload (pc' := 64) X0 hx (hb hby at_62) rfl rfl ?_
  refine og_iconst (pc' := 65) (n := 3) X0 hx (hb hby at_64) rfl rfl ?_
  refine og_lshr (pc' := 66) X0 hx (hb hby at_65) rfl ?_
  refine og_ldc2_w (pc' := 69) X0 hx (hb hby at_66) hown (mvT hZ (hw _ (List.mem_of_getElem? (i := 2) rfl))) rfl ?_
  refine og_land (pc' := 70) X0 hx (hb hby at_69) rfl ?_
  refine og_l2i (pc' := 71) X0 hx (hb hby at_70) rfl ?_
  refine og_istore (pc' := 73) (L' := #[.val (.int x0), .val (.int x1), .val (.int x2), .val (.int x3), .val (.int x4), .val (.long x5), .second, .val (.int ((x5 >>> ((32 : Int32) &&& 0x3f).toInt64).toInt32)), .val (.int (if (x5 &&& (1 : Int64)) = (0 : Int64) then x3 else x0)), .val (.int (if (x5 &&& (2 : Int64)) = (0 : Int64) then x4 else x1)), .val (.int (if (x5 &&& (4 : Int64)) = (0 : Int64) then ((x5 >>> ((32 : Int32) &&& 0x3f).toInt64).toInt32) else x2)), .val (.int (((x5 >>> ((3 : Int32) &&& 0x3f).toInt64) &&& (7 : Int64)).toInt32)), .unset, .unset, .unset]) X0 hx (hb hby at_71) rfl rfl ?_
  obtain ⟨T1, h1, X1, e1, E1, A1, D1, -, st1⟩ := newO X0 hx hZ hown (hw _ (List.mem_of_getElem? (i := 3) rfl)) (hw _ (List.mem_of_getElem? (i := 4) rfl)) (hw _ (List.mem_of_getElem? (i := 5) rfl)) e0 (g := (mkF m 73 #[.val (.int x0), .val (.int x1), .val (.int x2), .val (.int x3), .val (.int x4), .val (.long x5), .second, .val (.int ((x5 >>> ((32 : Int32) &&& 0x3f).toInt64).toInt32)), .val (.int (if (x5 &&& (1 : Int64)) = (0 : Int64) then x3 else x0)), .val (.int (if (x5 &&& (2 : Int64)) = (0 : Int64) then x4 else x1)), .val (.int (if (x5 &&& (4 : Int64)) = (0 : Int64) then ((x5 >>> ((32 : Int32) &&& 0x3f).toInt64).toInt32) else x2)), .val (.int (((x5 >>> ((3 : Int32) &&& 0x3f).toInt64) &&& (7 : Int64)).toInt32)), .unset, .unset, .unset] [])) rfl (hb hby at_73) (by decide) (by decide)
  obtain ⟨b1, g1⟩ : ∃ z, z = h0.size := ⟨_, rfl⟩
  rw [← g1] at A1 D1 st1
  have g_b1 : n0 ≤ b1 := Nat.le_trans Z0 (Nat.le_of_eq g1.symm)
  have sz_b1 : h0.size ≤ b1 := Nat.le_trans (Keep.refl h0 []).1 (Nat.le_of_eq g1.symm)
  have f1_0 := O_h.ext E1
  have F1_packageToken : Fld Z h1 b1 "com/example/capwright/capwright/cap/CapFile$ExternalMethod" "packageToken" "I" (.int (0 : Int32)) := D1 (Or.inr (hw _ (List.mem_of_getElem? (i := 18) rfl))) (ty := .int) (by decide)
  have F1_classToken : Fld Z h1 b1 "com/example/capwright/capwright/cap/CapFile$ExternalMethod" "classToken" "I" (.int (0 : Int32)) := D1 (Or.inr (hw _ (List.mem_of_getElem? (i := 20) rfl))) (ty := .int) (by decide)
  have F1_token : Fld Z h1 b1 "com/example/capwright/capwright/cap/CapFile$ExternalMethod" "token" "I" (.int (0 : Int32)) := D1 (Or.inr (hw _ (List.mem_of_getElem? (i := 22) rfl))) (ty := .int) (by decide)
  have K1 : Keep h0 h1 [] := (Keep.refl h0 []).ext E1
  have Z1 : n0 ≤ h1.size := Nat.le_trans Z0 K1.1
  refine own_Go.of (g' := (mkF m 76 #[.val (.int x0), .val (.int x1), .val (.int x2), .val (.int x3), .val (.int x4), .val (.long x5), .second, .val (.int ((x5 >>> ((32 : Int32) &&& 0x3f).toInt64).toInt32)), .val (.int (if (x5 &&& (1 : Int64)) = (0 : Int64) then x3 else x0)), .val (.int (if (x5 &&& (2 : Int64)) = (0 : Int64) then x4 else x1)), .val (.int (if (x5 &&& (4 : Int64)) = (0 : Int64) then ((x5 >>> ((32 : Int32) &&& 0x3f).toInt64).toInt32) else x2)), .val (.int (((x5 >>> ((3 : Int32) &&& 0x3f).toInt64) &&& (7 : Int64)).toInt32)), .unset, .unset, .unset] [(.ref b1)])) (fun t k => st1 _ k) ?_
  refine og_dup (pc' := 77) X1 hx (hb hby at_76) rfl rfl ?_
  refine og_iloadN (pc' := 78) X1 hx (hb hby at_77) rfl rfl ?_
  refine og_iloadN (pc' := 79) X1 hx (hb hby at_78) rfl rfl ?_
  refine og_iloadN (pc' := 80) X1 hx (hb hby at_79) rfl rfl ?_
  obtain ⟨_, _, ⟨T2, L2, k2, n2⟩, -, X2, ⟨Lc2, hQ2, l2, y2, z2⟩, st2⟩ := X1.specialBack hx (y := (⟨"com/example/capwright/capwright/cap/CapFile$ExternalMethod", "<init>", "(III)V"⟩ : MethodName)) rfl hown (mvT hZ (hw _ (List.mem_of_getElem? (i := 6) rfl))) (mvT hZ (hw _ (List.mem_of_getElem? (i := 7) rfl))) (mvT hZ (hw _ (List.mem_of_getElem? (i := 8) rfl))) (by decide) (backOf (W := 1) (rmEM l Z a0 hw [] b1 x0 x1 x2 (.int (0 : Int32)) (.int (0 : Int32)) (.int (0 : Int32)) h1 n0 Z1 A1 F1_packageToken F1_classToken F1_token g_b1) hZ (hw _ (List.mem_of_getElem? (i := 8) rfl)) (hw _ (List.mem_of_getElem? (i := 5) rfl)) (by decide) (by decide)) (g := (mkF m 80 #[.val (.int x0), .val (.int x1), .val (.int x2), .val (.int x3), .val (.int x4), .val (.long x5), .second, .val (.int ((x5 >>> ((32 : Int32) &&& 0x3f).toInt64).toInt32)), .val (.int (if (x5 &&& (1 : Int64)) = (0 : Int64) then x3 else x0)), .val (.int (if (x5 &&& (2 : Int64)) = (0 : Int64) then x4 else x1)), .val (.int (if (x5 &&& (4 : Int64)) = (0 : Int64) then ((x5 >>> ((32 : Int32) &&& 0x3f).toInt64).toInt32) else x2)), .val (.int (((x5 >>> ((3 : Int32) &&& 0x3f).toInt64) &&& (7 : Int64)).toInt32)), .unset, .unset, .unset] [(.int x2), (.int x1), (.int x0), (.ref b1), (.ref b1)])) rfl (by rw [hml]; rfl) (Steps.refl _) (a := b1) (argsL := [(.int x0), (.int x1), (.int x2)]) (rest := [(.ref b1)]) (lenOf pd_2 rfl) rfl (by show 2 * 0 + _ ≤ _; exact Nat.le_of_eq rfl) (hb hby at_80) (fun _ _ => ⟨rfl, e1, (by decide : 1 + 0 ≤ _), (by decide : 3 + 0 ≤ _)⟩)
  dsimp only [Pt.U, Pt.locs, Pt.cells, Pt.slots] at X2 l2 y2 z2 st2 hQ2
  subst l2 y2 z2
  obtain ⟨rfl, N2q, K2q, c2_0, c2_1, c2_2, c2_3⟩ := hQ2
  have N2 := Fr.app N0 N2q
  have f2_0 := f1_0.keep K2q (allS g_b1 all0)
  have f2_4 := A1.keep K2q
  have K2 : Keep h0 T2.heap [] := K1.trans K2q (allS (Or.inr sz_b1) all0)
  have Z2 : n0 ≤ T2.heap.size := Nat.le_trans Z0 K2.1
  refine own_Go.of (g' := (mkF m 83 #[.val (.int x0), .val (.int x1), .val (.int x2), .val (.int x3), .val (.int x4), .val (.long x5), .second, .val (.int ((x5 >>> ((32 : Int32) &&& 0x3f).toInt64).toInt32)), .val (.int (if (x5 &&& (1 : Int64)) = (0 : Int64) then x3 else x0)), .val (.int (if (x5 &&& (2 : Int64)) = (0 : Int64) then x4 else x1)), .val (.int (if (x5 &&& (4 : Int64)) = (0 : Int64) then ((x5 >>> ((32 : Int32) &&& 0x3f).toInt64).toInt32) else x2)), .val (.int (((x5 >>> ((3 : Int32) &&& 0x3f).toInt64) &&& (7 : Int64)).toInt32)), .unset, .unset, .unset] [(.ref b1)])) (fun t k => st2.trans k) ?_
  refine og_astore (pc' := 85) (L' := #[.val (.int x0), .val (.int x1), .val (.int x2), .val (.int x3), .val (.int x4), .val (.long x5), .second, .val (.int ((x5 >>> ((32 : Int32) &&& 0x3f).toInt64).toInt32)), .val (.int (if (x5 &&& (1 : Int64)) = (0 : Int64) then x3 else x0)), .val (.int (if (x5 &&& (2 : Int64)) = (0 : Int64) then x4 else x1)), .val (.int (if (x5 &&& (4 : Int64)) = (0 : Int64) then ((x5 >>> ((32 : Int32) &&& 0x3f).toInt64).toInt32) else x2)), .val (.int (((x5 >>> ((3 : Int32) &&& 0x3f).toInt64) &&& (7 : Int64)).toInt32)), .val (.ref b1), .unset, .unset]) X2 hx (hb hby at_83) rfl rfl rfl ?_
  refine og_iload (pc' := 87) X2 hx (hb hby at_85) rfl rfl ?_
  refine og_iconst (pc' := 88) (n := 4) X2 hx (hb hby at_87) rfl rfl ?_
  by_cases hc88_4 : (((x5 >>> ((3 : Int32) &&& 0x3f).toInt64) &&& (7 : Int64)).toInt32) < (4 : Int32)
  · refine og_icmpNo (pc' := 91) X2 hx (hb hby at_88) (tlt hc88_4).2.1 rfl ?_
    obtain ⟨T3, h3, X3, e3, E3, A3, D3, -, st3⟩ := newO X2 hx hZ hown (hw _ (List.mem_of_getElem? (i := 3) rfl)) (hw _ (List.mem_of_getElem? (i := 4) rfl)) (hw _ (List.mem_of_getElem? (i := 5) rfl)) rfl (g := (mkF m 91 #[.val (.int x0), .val (.int x1), .val (.int x2), .val (.int x3), .val (.int x4), .val (.long x5), .second, .val (.int ((x5 >>> ((32 : Int32) &&& 0x3f).toInt64).toInt32)), .val (.int (if (x5 &&& (1 : Int64)) = (0 : Int64) then x3 else x0)), .val (.int (if (x5 &&& (2 : Int64)) = (0 : Int64) then x4 else x1)), .val (.int (if (x5 &&& (4 : Int64)) = (0 : Int64) then ((x5 >>> ((32 : Int32) &&& 0x3f).toInt64).toInt32) else x2)), .val (.int (((x5 >>> ((3 : Int32) &&& 0x3f).toInt64) &&& (7 : Int64)).toInt32)), .val (.ref b1), .unset, .unset] [])) rfl (hb hby at_91) (by decide) (by decide)
    obtain ⟨b3, g3⟩ : ∃ z, z = T2.heap.size := ⟨_, rfl⟩
    rw [← g3] at A3 D3 st3
    have ne3_0 : b1 ≠ b3 := Nat.ne_of_lt (Nat.lt_of_lt_of_le c2_0.lt (Nat.le_of_eq g3.symm))
    have g_b3 : n0 ≤ b3 := Nat.le_trans Z2 (Nat.le_of_eq g3.symm)
    have sz_b3 : h0.size ≤ b3 := Nat.le_trans K2.1 (Nat.le_of_eq g3.symm)
    have f3_0 := f2_0.ext E3
    have f3_4 := c2_0.ext E3
    have f3_5 := c2_1.ext E3
    have f3_6 := c2_2.ext E3
    have f3_7 := c2_3.ext E3
    have F3_packageToken : Fld Z h3 b3 "com/example/capwright/capwright/cap/CapFile$ExternalMethod" "packageToken" "I" (.int (0 : Int32)) := D3 (Or.inr (hw _ (List.mem_of_getElem? (i := 18) rfl))) (ty := .int) (by decide)
    have F3_classToken : Fld Z h3 b3 "com/example/capwright/capwright/cap/CapFile$ExternalMethod" "classToken" "I" (.int (0 : Int32)) := D3 (Or.inr (hw _ (List.mem_of_getElem? (i := 20) rfl))) (ty := .int) (by decide)
    have F3_token : Fld Z h3 b3 "com/example/capwright/capwright/cap/CapFile$ExternalMethod" "token" "I" (.int (0 : Int32)) := D3 (Or.inr (hw _ (List.mem_of_getElem? (i := 22) rfl))) (ty := .int) (by decide)
    have K3 : Keep h0 h3 [] := K2.ext E3
    have Z3 : n0 ≤ h3.size := Nat.le_trans Z0 K3.1
    refine own_Go.of (g' := (mkF m 94 #[.val (.int x0), .val (.int x1), .val (.int x2), .val (.int x3), .val (.int x4), .val (.long x5), .second, .val (.int ((x5 >>> ((32 : Int32) &&& 0x3f).toInt64).toInt32)), .val (.int (if (x5 &&& (1 : Int64)) = (0 : Int64) then x3 else x0)), .val (.int (if (x5 &&& (2 : Int64)) = (0 : Int64) then x4 else x1)), .val (.int (if (x5 &&& (4 : Int64)) = (0 : Int64) then ((x5 >>> ((32 : Int32) &&& 0x3f).toInt64).toInt32) else x2)), .val (.int (((x5 >>> ((3 : Int32) &&& 0x3f).toInt64) &&& (7 : Int64)).toInt32)), .val (.ref b1), .unset, .unset] [(.ref b3)])) (fun t k => st3 _ k) ?_
    refine og_dup (pc' := 95) X3 hx (hb hby at_94) rfl rfl ?_
    refine og_iload (pc' := 97) X3 hx (hb hby at_95) rfl rfl ?_
    refine og_iload (pc' := 99) X3 hx (hb hby at_97) rfl rfl ?_
    refine og_iload (pc' := 101) X3 hx (hb hby at_99) rfl rfl ?_
    obtain ⟨_, _, ⟨T4, L4, k4, n4⟩, -, X4, ⟨Lc4, hQ4, l4, y4, z4⟩, st4⟩ := X3.specialBack hx (y := (⟨"com/example/capwright/capwright/cap/CapFile$ExternalMethod", "<init>", "(III)V"⟩ : MethodName)) rfl hown (mvT hZ (hw _ (List.mem_of_getElem? (i := 6) rfl))) (mvT hZ (hw _ (List.mem_of_getElem? (i := 7) rfl))) (mvT hZ (hw _ (List.mem_of_getElem? (i := 8) rfl))) (by decide) (backOf (W := 1) (rmEM l Z a0 hw [] b3 (if (x5 &&& (1 : Int64)) = (0 : Int64) then x3 else x0) (if (x5 &&& (2 : Int64)) = (0 : Int64) then x4 else x1) (if (x5 &&& (4 : Int64)) = (0 : Int64) then ((x5 >>> ((32 : Int32) &&& 0x3f).toInt64).toInt32) else x2) (.int (0 : Int32)) (.int (0 : Int32)) (.int (0 : Int32)) h3 n0 Z3 A3 F3_packageToken F3_classToken F3_token g_b3) hZ (hw _ (List.mem_of_getElem? (i := 8) rfl)) (hw _ (List.mem_of_getElem? (i := 5) rfl)) (by decide) (by decide)) (g := (mkF m 101 #[.val (.int x0), .val (.int x1), .val (.int x2), .val (.int x3), .val (.int x4), .val (.long x5), .second, .val (.int ((x5 >>> ((32 : Int32) &&& 0x3f).toInt64).toInt32)), .val (.int (if (x5 &&& (1 : Int64)) = (0 : Int64) then x3 else x0)), .val (.int (if (x5 &&& (2 : Int64)) = (0 : Int64) then x4 else x1)), .val (.int (if (x5 &&& (4 : Int64)) = (0 : Int64) then ((x5 >>> ((32 : Int32) &&& 0x3f).toInt64).toInt32) else x2)), .val (.int (((x5 >>> ((3 : Int32) &&& 0x3f).toInt64) &&& (7 : Int64)).toInt32)), .val (.ref b1), .unset, .unset] [(.int (if (x5 &&& (4 : Int64)) = (0 : Int64) then ((x5 >>> ((32 : Int32) &&& 0x3f).toInt64).toInt32) else x2)), (.int (if (x5 &&& (2 : Int64)) = (0 : Int64) then x4 else x1)), (.int (if (x5 &&& (1 : Int64)) = (0 : Int64) then x3 else x0)), (.ref b3), (.ref b3)])) rfl (by rw [hml]; rfl) (Steps.refl _) (a := b3) (argsL := [(.int (if (x5 &&& (1 : Int64)) = (0 : Int64) then x3 else x0)), (.int (if (x5 &&& (2 : Int64)) = (0 : Int64) then x4 else x1)), (.int (if (x5 &&& (4 : Int64)) = (0 : Int64) then ((x5 >>> ((32 : Int32) &&& 0x3f).toInt64).toInt32) else x2))]) (rest := [(.ref b3)]) (lenOf pd_2 rfl) rfl (by show 2 * 0 + _ ≤ _; exact Nat.le_of_eq rfl) (hb hby at_101) (fun _ _ => ⟨rfl, e3, (by decide : 2 + 0 ≤ _), (by decide : 6 + 0 ≤ _)⟩)
    dsimp only [Pt.U, Pt.locs, Pt.cells, Pt.slots] at X4 l4 y4 z4 st4 hQ4
    subst l4 y4 z4
    obtain ⟨rfl, N4q, K4q, c4_0, c4_1, c4_2, c4_3⟩ := hQ4
    have N4 := Fr.app N2 N4q
    have f4_0 := f3_0.keep K4q (allS g_b3 all0)
    have f4_4 := f3_4.keep K4q
    have f4_5 := f3_5.keep K4q (ninS ne3_0 nin0)
    have f4_6 := f3_6.keep K4q (ninS ne3_0 nin0)
    have f4_7 := f3_7.keep K4q (ninS ne3_0 nin0)
    have f4_8 := A3.keep K4q
    have K4 : Keep h0 T4.heap [] := K3.trans K4q (allS (Or.inr sz_b3) all0)
    have Z4 : n0 ≤ T4.heap.size := Nat.le_trans Z0 K4.1
    refine own_Go.of (g' := (mkF m 104 #[.val (.int x0), .val (.int x1), .val (.int x2), .val (.int x3), .val (.int x4), .val (.long x5), .second, .val (.int ((x5 >>> ((32 : Int32) &&& 0x3f).toInt64).toInt32)), .val (.int (if (x5 &&& (1 : Int64)) = (0 : Int64) then x3 else x0)), .val (.int (if (x5 &&& (2 : Int64)) = (0 : Int64) then x4 else x1)), .val (.int (if (x5 &&& (4 : Int64)) = (0 : Int64) then ((x5 >>> ((32 : Int32) &&& 0x3f).toInt64).toInt32) else x2)), .val (.int (((x5 >>> ((3 : Int32) &&& 0x3f).toInt64) &&& (7 : Int64)).toInt32)), .val (.ref b1), .unset, .unset] [(.ref b3)])) (fun t k => st4.trans k) ?_
    refine og_astore (pc' := 106) (L' := #[.val (.int x0), .val (.int x1), .val (.int x2), .val (.int x3), .val (.int x4), .val (.long x5), .second, .val (.int ((x5 >>> ((32 : Int32) &&& 0x3f).toInt64).toInt32)), .val (.int (if (x5 &&& (1 : Int64)) = (0 : Int64) then x3 else x0)), .val (.int (if (x5 &&& (2 : Int64)) = (0 : Int64) then x4 else x1)), .val (.int (if (x5 &&& (4 : Int64)) = (0 : Int64) then ((x5 >>> ((32 : Int32) &&& 0x3f).toInt64).toInt32) else x2)), .val (.int (((x5 >>> ((3 : Int32) &&& 0x3f).toInt64) &&& (7 : Int64)).toInt32)), .val (.ref b1), .val (.ref b3), .unset]) X4 hx (hb hby at_104) rfl rfl rfl ?_
    refine og_iload (pc' := 108) X4 hx (hb hby at_106) rfl rfl ?_
    refine og_iloadN (pc' := 109) X4 hx (hb hby at_108) rfl rfl ?_
    refine own_via (A := own_Go p e below (fun s₂ oc => ∃ v L, oc = .returned v ∧ Q0 Z x0 x1 x2 x3 x4 x5 ca h0 n0 v s₂.heap L ∧ FrameEnd s oc s₂ L room_1.cells room_1.slots) T4 (mkF m 129 #[.val (.int x0), .val (.int x1), .val (.int x2), .val (.int x3), .val (.int x4), .val (.long x5), .second, .val (.int ((x5 >>> ((32 : Int32) &&& 0x3f).toInt64).toInt32)), .val (.int (if (x5 &&& (1 : Int64)) = (0 : Int64) then x3 else x0)), .val (.int (if (x5 &&& (2 : Int64)) = (0 : Int64) then x4 else x1)), .val (.int (if (x5 &&& (4 : Int64)) = (0 : Int64) then ((x5 >>> ((32 : Int32) &&& 0x3f).toInt64).toInt32) else x2)), .val (.int (((x5 >>> ((3 : Int32) &&& 0x3f).toInt64) &&& (7 : Int64)).toInt32)), .val (.ref b1), .val (.ref b3), .unset] [(.int (if (if (x5 &&& (1 : Int64)) = (0 : Int64) then x3 else x0) = x0 then (if (if (x5 &&& (2 : Int64)) = (0 : Int64) then x4 else x1) = x1 then (if (if (x5 &&& (4 : Int64)) = (0 : Int64) then ((x5 >>> ((32 : Int32) &&& 0x3f).toInt64).toInt32) else x2) = x2 then (1 : Int32) else (0 : Int32)) else (0 : Int32)) else (0 : Int32)))])) (fun k => ?_) ?_
    · by_cases hc109_5 : (if (x5 &&& (1 : Int64)) = (0 : Int64) then x3 else x0) = x0
      · refine og_icmpNo (pc' := 112) X4 hx (hb hby at_109) (teq hc109_5).2 rfl ?_
        refine og_iload (pc' := 114) X4 hx (hb hby at_112) rfl rfl ?_
        refine og_iloadN (pc' := 115) X4 hx (hb hby at_114) rfl rfl ?_
        by_cases hc115_6 : (if (x5 &&& (2 : Int64)) = (0 : Int64) then x4 else x1) = x1
        · refine og_icmpNo (pc' := 118) X4 hx (hb hby at_115) (teq hc115_6).2 rfl ?_
          refine og_iload (pc' := 120) X4 hx (hb hby at_118) rfl rfl ?_
          refine og_iloadN (pc' := 121) X4 hx (hb hby at_120) rfl rfl ?_
          by_cases hc121_7 : (if (x5 &&& (4 : Int64)) = (0 : Int64) then ((x5 >>> ((32 : Int32) &&& 0x3f).toInt64).toInt32) else x2) = x2
          · refine og_icmpNo (pc' := 124) X4 hx (hb hby at_121) (teq hc121_7).2 rfl ?_
            refine og_iconst (pc' := 125) (n := 1) X4 hx (hb hby at_124) rfl rfl ?_
            refine og_goto (pc' := 129) X4 hx (hb hby at_125) (by decide) (by decide) ?_
            simp only [if_pos hc109_5, if_pos hc115_6, if_pos hc121_7] at k
            exact k
          · refine og_icmpYes (pc' := 128) X4 hx (hb hby at_121) (feq hc121_7).2 (by decide) (by decide) ?_
            refine og_iconst (pc' := 129) (n := 0) X4 hx (hb hby at_128) rfl rfl ?_
            simp only [if_pos hc109_5, if_pos hc115_6, if_neg hc121_7] at k
            exact k
        · refine og_icmpYes (pc' := 128) X4 hx (hb hby at_115) (feq hc115_6).2 (by decide) (by decide) ?_
          refine og_iconst (pc' := 129) (n := 0) X4 hx (hb hby at_128) rfl rfl ?_
          simp only [if_pos hc109_5, if_neg hc115_6] at k
          exact k
      · refine og_icmpYes (pc' := 128) X4 hx (hb hby at_109) (feq hc109_5).2 (by decide) (by decide) ?_
        refine og_iconst (pc' := 129) (n := 0) X4 hx (hb hby at_128) rfl rfl ?_
        simp only [if_neg hc109_5] at k
        exact k
    refine og_istore (pc' := 131) (L' := #[.val (.int x0), .val (.int x1), .val (.int x2), .val (.int x3), .val (.int x4), .val (.long x5), .second, .val (.int ((x5 >>> ((32 : Int32) &&& 0x3f).toInt64).toInt32)), .val (.int (if (x5 &&& (1 : Int64)) = (0 : Int64) then x3 else x0)), .val (.int (if (x5 &&& (2 : Int64)) = (0 : Int64) then x4 else x1)), .val (.int (if (x5 &&& (4 : Int64)) = (0 : Int64) then ((x5 >>> ((32 : Int32) &&& 0x3f).toInt64).toInt32) else x2)), .val (.int (((x5 >>> ((3 : Int32) &&& 0x3f).toInt64) &&& (7 : Int64)).toInt32)), .val (.ref b1), .val (.ref b3), .val (.int (if (if (x5 &&& (1 : Int64)) = (0 : Int64) then x3 else x0) = x0 then (if (if (x5 &&& (2 : Int64)) = (0 : Int64) then x4 else x1) = x1 then (if (if (x5 &&& (4 : Int64)) = (0 : Int64) then ((x5 >>> ((32 : Int32) &&& 0x3f).toInt64).toInt32) else x2) = x2 then (1 : Int32) else (0 : Int32)) else (0 : Int32)) else (0 : Int32)))]) X4 hx (hb hby at_129) rfl rfl ?_
    refine og_goto (pc' := 210) X4 hx (hb hby at_131) (by decide) (by decide) ?_
    refine og_aload (pc' := 212) X4 hx (hb hby at_210) rfl rfl rfl ?_
    refine og_aload (pc' := 214) X4 hx (hb hby at_212) rfl rfl rfl ?_
    obtain ⟨cq5, kq5, q5a, q5b, q5c⟩ := isOf hZ rfl f4_4
    obtain ⟨_, _, ⟨T5, L5, k5, n5⟩, -, X5, ⟨Lc5, hQ5, l5, y5, z5⟩, st5⟩ := X4.virtualBack hx (y := (⟨"com/example/capwright/capwright/cap/CapFile$ExternalMethod", "equals", "(Ljava/lang/Object;)Z"⟩ : MethodName)) (z := (⟨"com/example/capwright/capwright/cap/CapFile$ExternalMethod", "equals", "(Ljava/lang/Object;)Z"⟩ : MethodName)) hown (mvT hZ (hw _ (List.mem_of_getElem? (i := 23) rfl))) (mvT hZ (hw _ (List.mem_of_getElem? (i := 24) rfl))) (notFace_of_selects (args := #[]) (mvT hZ (hw _ (List.mem_of_getElem? (i := 26) rfl)))) (mvT hZ (hw _ (List.mem_of_getElem? (i := 26) rfl))) (mvT hZ (hw _ (List.mem_of_getElem? (i := 25) rfl))) (by decide) (backOf (W := 0) (rmeqA l Z a0 hw [] b1 b3 x0 x1 x2 (if (x5 &&& (1 : Int64)) = (0 : Int64) then x3 else x0) (if (x5 &&& (2 : Int64)) = (0 : Int64) then x4 else x1) (if (x5 &&& (4 : Int64)) = (0 : Int64) then ((x5 >>> ((32 : Int32) &&& 0x3f).toInt64).toInt32) else x2) T4.heap n0 Z4 f4_5 f4_6 f4_7 c4_1 c4_2 c4_3 c4_0) hZ (hw _ (List.mem_of_getElem? (i := 27) rfl)) (hw _ (List.mem_of_getElem? (i := 5) rfl)) (by decide) (by decide)) q5a q5c (g := (mkF m 214 #[.val (.int x0), .val (.int x1), .val (.int x2), .val (.int x3), .val (.int x4), .val (.long x5), .second, .val (.int ((x5 >>> ((32 : Int32) &&& 0x3f).toInt64).toInt32)), .val (.int (if (x5 &&& (1 : Int64)) = (0 : Int64) then x3 else x0)), .val (.int (if (x5 &&& (2 : Int64)) = (0 : Int64) then x4 else x1)), .val (.int (if (x5 &&& (4 : Int64)) = (0 : Int64) then ((x5 >>> ((32 : Int32) &&& 0x3f).toInt64).toInt32) else x2)), .val (.int (((x5 >>> ((3 : Int32) &&& 0x3f).toInt64) &&& (7 : Int64)).toInt32)), .val (.ref b1), .val (.ref b3), .val (.int (if (if (x5 &&& (1 : Int64)) = (0 : Int64) then x3 else x0) = x0 then (if (if (x5 &&& (2 : Int64)) = (0 : Int64) then x4 else x1) = x1 then (if (if (x5 &&& (4 : Int64)) = (0 : Int64) then ((x5 >>> ((32 : Int32) &&& 0x3f).toInt64).toInt32) else x2) = x2 then (1 : Int32) else (0 : Int32)) else (0 : Int32)) else (0 : Int32)))] [(.ref b3), (.ref b1)])) rfl (by rw [hml]; rfl) (Steps.refl _) (argsL := [(.ref b3)]) (rest := []) (lenOf pd_3 rfl) rfl (by show 2 * 0 + _ ≤ _; exact Nat.le_of_eq rfl) (hb hby at_214) (fun _ _ => ⟨rfl, rfl, (by decide : 2 + 0 ≤ _), (by decide : 6 + 0 ≤ _)⟩)
    dsimp only [Pt.U, Pt.locs, Pt.cells, Pt.slots] at X5 l5 y5 z5 st5 hQ5
    subst l5 y5 z5
    obtain ⟨rfl, N5q, e5⟩ := hQ5
    have N5 := Fr.app N4 N5q
    refine own_Go.of (g' := (mkF m 217 #[.val (.int x0), .val (.int x1), .val (.int x2), .val (.int x3), .val (.int x4), .val (.long x5), .second, .val (.int ((x5 >>> ((32 : Int32) &&& 0x3f).toInt64).toInt32)), .val (.int (if (x5 &&& (1 : Int64)) = (0 : Int64) then x3 else x0)), .val (.int (if (x5 &&& (2 : Int64)) = (0 : Int64) then x4 else x1)), .val (.int (if (x5 &&& (4 : Int64)) = (0 : Int64) then ((x5 >>> ((32 : Int32) &&& 0x3f).toInt64).toInt32) else x2)), .val (.int (((x5 >>> ((3 : Int32) &&& 0x3f).toInt64) &&& (7 : Int64)).toInt32)), .val (.ref b1), .val (.ref b3), .val (.int (if (if (x5 &&& (1 : Int64)) = (0 : Int64) then x3 else x0) = x0 then (if (if (x5 &&& (2 : Int64)) = (0 : Int64) then x4 else x1) = x1 then (if (if (x5 &&& (4 : Int64)) = (0 : Int64) then ((x5 >>> ((32 : Int32) &&& 0x3f).toInt64).toInt32) else x2) = x2 then (1 : Int32) else (0 : Int32)) else (0 : Int32)) else (0 : Int32)))] [(.int (own_eq x0 x1 x2 (if (x5 &&& (1 : Int64)) = (0 : Int64) then x3 else x0) (if (x5 &&& (2 : Int64)) = (0 : Int64) then x4 else x1) (if (x5 &&& (4 : Int64)) = (0 : Int64) then ((x5 >>> ((32 : Int32) &&& 0x3f).toInt64).toInt32) else x2)))])) (fun t k => st5.trans k) ?_
    refine og_iload (pc' := 219) X5 hx (hb hby at_217) rfl rfl ?_
    refine og_icmpNo (pc' := 222) X5 hx (hb hby at_219) (teq rfl).2 rfl ?_
    refine og_iconst (pc' := 223) (n := 1) X5 hx (hb hby at_222) rfl rfl ?_
    refine og_goto (pc' := 227) X5 hx (hb hby at_223) (by decide) (by decide) ?_
    obtain ⟨fs, hr, hrun, hended, hW, hsame⟩ := X5.leave (v := some (.int (1 : Int32))) (fun h => by rw [Bd.returns] at h; cases h) (BodyLoose.notSynchronized Bd)
    refine ⟨_, _, retN X5 hx (t := .boolean) Bd.returns (by simp) (hb hby at_227) hr, hrun, hended, some (.int (1 : Int32)), _, rfl, ?_, ⟨_, rfl⟩, hW, hsame.mono (by decide) (by decide)⟩
    show Q0 Z x0 x1 x2 x3 x4 x5 ca h0 n0 _ T5.heap _
    rw [e5]
    exact ⟨rfl, N5⟩
  · refine og_icmpYes (pc' := 134) X2 hx (hb hby at_88) (flt hc88_4).2.1 (by decide) (by decide) ?_
    refine og_iload (pc' := 136) X2 hx (hb hby at_134) rfl rfl ?_
    refine og_iconst (pc' := 137) (n := 4) X2 hx (hb hby at_136) rfl rfl ?_
    by_cases hc137_8 : (((x5 >>> ((3 : Int32) &&& 0x3f).toInt64) &&& (7 : Int64)).toInt32) = (4 : Int32)
    · refine og_icmpNo (pc' := 140) X2 hx (hb hby at_137) (teq hc137_8).2 rfl ?_
      obtain ⟨T6, h6, X6, e6, E6, A6, D6, -, st6⟩ := newO X2 hx hZ hown (hw _ (List.mem_of_getElem? (i := 30) rfl)) (hw _ (List.mem_of_getElem? (i := 31) rfl)) (hw _ (List.mem_of_getElem? (i := 32) rfl)) rfl (g := (mkF m 140 #[.val (.int x0), .val (.int x1), .val (.int x2), .val (.int x3), .val (.int x4), .val (.long x5), .second, .val (.int ((x5 >>> ((32 : Int32) &&& 0x3f).toInt64).toInt32)), .val (.int (if (x5 &&& (1 : Int64)) = (0 : Int64) then x3 else x0)), .val (.int (if (x5 &&& (2 : Int64)) = (0 : Int64) then x4 else x1)), .val (.int (if (x5 &&& (4 : Int64)) = (0 : Int64) then ((x5 >>> ((32 : Int32) &&& 0x3f).toInt64).toInt32) else x2)), .val (.int (((x5 >>> ((3 : Int32) &&& 0x3f).toInt64) &&& (7 : Int64)).toInt32)), .val (.ref b1), .unset, .unset] [])) rfl (hb hby at_140) (by decide) (by decide)
      obtain ⟨b6, g6⟩ : ∃ z, z = T2.heap.size := ⟨_, rfl⟩
      rw [← g6] at A6 D6 st6
      have ne6_0 : b1 ≠ b6 := Nat.ne_of_lt (Nat.lt_of_lt_of_le c2_0.lt (Nat.le_of_eq g6.symm))
      have g_b6 : n0 ≤ b6 := Nat.le_trans Z2 (Nat.le_of_eq g6.symm)
      have sz_b6 : h0.size ≤ b6 := Nat.le_trans K2.1 (Nat.le_of_eq g6.symm)
      have f6_0 := f2_0.ext E6
      have f6_4 := c2_0.ext E6
      have f6_5 := c2_1.ext E6
      have f6_6 := c2_2.ext E6
      have f6_7 := c2_3.ext E6
      have F6_packageToken : Fld Z h6 b6 "com/example/capwright/capwright/cap/CapFile$ExternalField" "packageToken" "I" (.int (0 : Int32)) := D6 (Or.inr (hw _ (List.mem_of_getElem? (i := 38) rfl))) (ty := .int) (by decide)
      have F6_classToken : Fld Z h6 b6 "com/example/capwright/capwright/cap/CapFile$ExternalField" "classToken" "I" (.int (0 : Int32)) := D6 (Or.inr (hw _ (List.mem_of_getElem? (i := 40) rfl))) (ty := .int) (by decide)
      have F6_token : Fld Z h6 b6 "com/example/capwright/capwright/cap/CapFile$ExternalField" "token" "I" (.int (0 : Int32)) := D6 (Or.inr (hw _ (List.mem_of_getElem? (i := 42) rfl))) (ty := .int) (by decide)
      have K6 : Keep h0 h6 [] := K2.ext E6
      have Z6 : n0 ≤ h6.size := Nat.le_trans Z0 K6.1
      refine own_Go.of (g' := (mkF m 143 #[.val (.int x0), .val (.int x1), .val (.int x2), .val (.int x3), .val (.int x4), .val (.long x5), .second, .val (.int ((x5 >>> ((32 : Int32) &&& 0x3f).toInt64).toInt32)), .val (.int (if (x5 &&& (1 : Int64)) = (0 : Int64) then x3 else x0)), .val (.int (if (x5 &&& (2 : Int64)) = (0 : Int64) then x4 else x1)), .val (.int (if (x5 &&& (4 : Int64)) = (0 : Int64) then ((x5 >>> ((32 : Int32) &&& 0x3f).toInt64).toInt32) else x2)), .val (.int (((x5 >>> ((3 : Int32) &&& 0x3f).toInt64) &&& (7 : Int64)).toInt32)), .val (.ref b1), .unset, .unset] [(.ref b6)])) (fun t k => st6 _ k) ?_
      refine og_dup (pc' := 144) X6 hx (hb hby at_143) rfl rfl ?_
      refine og_iload (pc' := 146) X6 hx (hb hby at_144) rfl rfl ?_
      refine og_iload (pc' := 148) X6 hx (hb hby at_146) rfl rfl ?_
      refine og_iload (pc' := 150) X6 hx (hb hby at_148) rfl rfl ?_
      obtain ⟨_, _, ⟨T7, L7, k7, n7⟩, -, X7, ⟨Lc7, hQ7, l7, y7, z7⟩, st7⟩ := X6.specialBack hx (y := (⟨"com/example/capwright/capwright/cap/CapFile$ExternalField", "<init>", "(III)V"⟩ : MethodName)) rfl hown (mvT hZ (hw _ (List.mem_of_getElem? (i := 33) rfl))) (mvT hZ (hw _ (List.mem_of_getElem? (i := 34) rfl))) (mvT hZ (hw _ (List.mem_of_getElem? (i := 35) rfl))) (by decide) (backOf (W := 1) (rmEF l Z a0 hw [] b6 (if (x5 &&& (1 : Int64)) = (0 : Int64) then x3 else x0) (if (x5 &&& (2 : Int64)) = (0 : Int64) then x4 else x1) (if (x5 &&& (4 : Int64)) = (0 : Int64) then ((x5 >>> ((32 : Int32) &&& 0x3f).toInt64).toInt32) else x2) (.int (0 : Int32)) (.int (0 : Int32)) (.int (0 : Int32)) h6 n0 Z6 A6 F6_packageToken F6_classToken F6_token g_b6) hZ (hw _ (List.mem_of_getElem? (i := 35) rfl)) (hw _ (List.mem_of_getElem? (i := 32) rfl)) (by decide) (by decide)) (g := (mkF m 150 #[.val (.int x0), .val (.int x1), .val (.int x2), .val (.int x3), .val (.int x4), .val (.long x5), .second, .val (.int ((x5 >>> ((32 : Int32) &&& 0x3f).toInt64).toInt32)), .val (.int (if (x5 &&& (1 : Int64)) = (0 : Int64) then x3 else x0)), .val (.int (if (x5 &&& (2 : Int64)) = (0 : Int64) then x4 else x1)), .val (.int (if (x5 &&& (4 : Int64)) = (0 : Int64) then ((x5 >>> ((32 : Int32) &&& 0x3f).toInt64).toInt32) else x2)), .val (.int (((x5 >>> ((3 : Int32) &&& 0x3f).toInt64) &&& (7 : Int64)).toInt32)), .val (.ref b1), .unset, .unset] [(.int (if (x5 &&& (4 : Int64)) = (0 : Int64) then ((x5 >>> ((32 : Int32) &&& 0x3f).toInt64).toInt32) else x2)), (.int (if (x5 &&& (2 : Int64)) = (0 : Int64) then x4 else x1)), (.int (if (x5 &&& (1 : Int64)) = (0 : Int64) then x3 else x0)), (.ref b6), (.ref b6)])) rfl (by rw [hml]; rfl) (Steps.refl _) (a := b6) (argsL := [(.int (if (x5 &&& (1 : Int64)) = (0 : Int64) then x3 else x0)), (.int (if (x5 &&& (2 : Int64)) = (0 : Int64) then x4 else x1)), (.int (if (x5 &&& (4 : Int64)) = (0 : Int64) then ((x5 >>> ((32 : Int32) &&& 0x3f).toInt64).toInt32) else x2))]) (rest := [(.ref b6)]) (lenOf pd_2 rfl) rfl (by show 2 * 0 + _ ≤ _; exact Nat.le_of_eq rfl) (hb hby at_150) (fun _ _ => ⟨rfl, e6, (by decide : 2 + 0 ≤ _), (by decide : 6 + 0 ≤ _)⟩)
      dsimp only [Pt.U, Pt.locs, Pt.cells, Pt.slots] at X7 l7 y7 z7 st7 hQ7
      subst l7 y7 z7
      obtain ⟨rfl, N7q, K7q, c7_0, c7_1, c7_2, c7_3⟩ := hQ7
      have N7 := Fr.app N2 N7q
      have f7_0 := f6_0.keep K7q (allS g_b6 all0)
      have f7_4 := f6_4.keep K7q
      have f7_5 := f6_5.keep K7q (ninS ne6_0 nin0)
      have f7_6 := f6_6.keep K7q (ninS ne6_0 nin0)
      have f7_7 := f6_7.keep K7q (ninS ne6_0 nin0)
      have f7_8 := A6.keep K7q
      have K7 : Keep h0 T7.heap [] := K6.trans K7q (allS (Or.inr sz_b6) all0)
      have Z7 : n0 ≤ T7.heap.size := Nat.le_trans Z0 K7.1
      refine own_Go.of (g' := (mkF m 153 #[.val (.int x0), .val (.int x1), .val (.int x2), .val (.int x3), .val (.int x4), .val (.long x5), .second, .val (.int ((x5 >>> ((32 : Int32) &&& 0x3f).toInt64).toInt32)), .val (.int (if (x5 &&& (1 : Int64)) = (0 : Int64) then x3 else x0)), .val (.int (if (x5 &&& (2 : Int64)) = (0 : Int64) then x4 else x1)), .val (.int (if (x5 &&& (4 : Int64)) = (0 : Int64) then ((x5 >>> ((32 : Int32) &&& 0x3f).toInt64).toInt32) else x2)), .val (.int (((x5 >>> ((3 : Int32) &&& 0x3f).toInt64) &&& (7 : Int64)).toInt32)), .val (.ref b1), .unset, .unset] [(.ref b6)])) (fun t k => st7.trans k) ?_
      refine og_astore (pc' := 155) (L' := #[.val (.int x0), .val (.int x1), .val (.int x2), .val (.int x3), .val (.int x4), .val (.long x5), .second, .val (.int ((x5 >>> ((32 : Int32) &&& 0x3f).toInt64).toInt32)), .val (.int (if (x5 &&& (1 : Int64)) = (0 : Int64) then x3 else x0)), .val (.int (if (x5 &&& (2 : Int64)) = (0 : Int64) then x4 else x1)), .val (.int (if (x5 &&& (4 : Int64)) = (0 : Int64) then ((x5 >>> ((32 : Int32) &&& 0x3f).toInt64).toInt32) else x2)), .val (.int (((x5 >>> ((3 : Int32) &&& 0x3f).toInt64) &&& (7 : Int64)).toInt32)), .val (.ref b1), .val (.ref b6), .unset]) X7 hx (hb hby at_153) rfl rfl rfl ?_
      refine og_iconst (pc' := 156) (n := 0) X7 hx (hb hby at_155) rfl rfl ?_
      refine og_istore (pc' := 158) (L' := #[.val (.int x0), .val (.int x1), .val (.int x2), .val (.int x3), .val (.int x4), .val (.long x5), .second, .val (.int ((x5 >>> ((32 : Int32) &&& 0x3f).toInt64).toInt32)), .val (.int (if (x5 &&& (1 : Int64)) = (0 : Int64) then x3 else x0)), .val (.int (if (x5 &&& (2 : Int64)) = (0 : Int64) then x4 else x1)), .val (.int (if (x5 &&& (4 : Int64)) = (0 : Int64) then ((x5 >>> ((32 : Int32) &&& 0x3f).toInt64).toInt32) else x2)), .val (.int (((x5 >>> ((3 : Int32) &&& 0x3f).toInt64) &&& (7 : Int64)).toInt32)), .val (.ref b1), .val (.ref b6), .val (.int (0 : Int32))]) X7 hx (hb hby at_156) rfl rfl ?_
      refine og_goto (pc' := 210) X7 hx (hb hby at_158) (by decide) (by decide) ?_
      refine og_aload (pc' := 212) X7 hx (hb hby at_210) rfl rfl rfl ?_
      refine og_aload (pc' := 214) X7 hx (hb hby at_212) rfl rfl rfl ?_
      obtain ⟨cq8, kq8, q8a, q8b, q8c⟩ := isOf hZ rfl f7_4
      obtain ⟨_, _, ⟨T8, L8, k8, n8⟩, -, X8, ⟨Lc8, hQ8, l8, y8, z8⟩, st8⟩ := X7.virtualBack hx (y := (⟨"com/example/capwright/capwright/cap/CapFile$ExternalMethod", "equals", "(Ljava/lang/Object;)Z"⟩ : MethodName)) (z := (⟨"com/example/capwright/capwright/cap/CapFile$ExternalMethod", "equals", "(Ljava/lang/Object;)Z"⟩ : MethodName)) hown (mvT hZ (hw _ (List.mem_of_getElem? (i := 23) rfl))) (mvT hZ (hw _ (List.mem_of_getElem? (i := 24) rfl))) (notFace_of_selects (args := #[]) (mvT hZ (hw _ (List.mem_of_getElem? (i := 26) rfl)))) (mvT hZ (hw _ (List.mem_of_getElem? (i := 26) rfl))) (mvT hZ (hw _ (List.mem_of_getElem? (i := 25) rfl))) (by decide) (backOf (W := 0) (rmeqF l Z a0 hw [] b1 b6 T7.heap n0 Z7 c7_0) hZ (hw _ (List.mem_of_getElem? (i := 27) rfl)) (hw _ (List.mem_of_getElem? (i := 5) rfl)) (by decide) (by decide)) q8a q8c (g := (mkF m 214 #[.val (.int x0), .val (.int x1), .val (.int x2), .val (.int x3), .val (.int x4), .val (.long x5), .second, .val (.int ((x5 >>> ((32 : Int32) &&& 0x3f).toInt64).toInt32)), .val (.int (if (x5 &&& (1 : Int64)) = (0 : Int64) then x3 else x0)), .val (.int (if (x5 &&& (2 : Int64)) = (0 : Int64) then x4 else x1)), .val (.int (if (x5 &&& (4 : Int64)) = (0 : Int64) then ((x5 >>> ((32 : Int32) &&& 0x3f).toInt64).toInt32) else x2)), .val (.int (((x5 >>> ((3 : Int32) &&& 0x3f).toInt64) &&& (7 : Int64)).toInt32)), .val (.ref b1), .val (.ref b6), .val (.int (0 : Int32))] [(.ref b6), (.ref b1)])) rfl (by rw [hml]; rfl) (Steps.refl _) (argsL := [(.ref b6)]) (rest := []) (lenOf pd_3 rfl) rfl (by show 2 * 0 + _ ≤ _; exact Nat.le_of_eq rfl) (hb hby at_214) (fun _ _ => ⟨rfl, rfl, (by decide : 2 + 0 ≤ _), (by decide : 6 + 0 ≤ _)⟩)
      dsimp only [Pt.U, Pt.locs, Pt.cells, Pt.slots] at X8 l8 y8 z8 st8 hQ8
      subst l8 y8 z8
      obtain ⟨rfl, N8q, e8⟩ := hQ8
      have N8 := Fr.app N7 N8q
      refine own_Go.of (g' := (mkF m 217 #[.val (.int x0), .val (.int x1), .val (.int x2), .val (.int x3), .val (.int x4), .val (.long x5), .second, .val (.int ((x5 >>> ((32 : Int32) &&& 0x3f).toInt64).toInt32)), .val (.int (if (x5 &&& (1 : Int64)) = (0 : Int64) then x3 else x0)), .val (.int (if (x5 &&& (2 : Int64)) = (0 : Int64) then x4 else x1)), .val (.int (if (x5 &&& (4 : Int64)) = (0 : Int64) then ((x5 >>> ((32 : Int32) &&& 0x3f).toInt64).toInt32) else x2)), .val (.int (((x5 >>> ((3 : Int32) &&& 0x3f).toInt64) &&& (7 : Int64)).toInt32)), .val (.ref b1), .val (.ref b6), .val (.int (0 : Int32))] [(.int (0 : Int32))])) (fun t k => st8.trans k) ?_
      refine og_iload (pc' := 219) X8 hx (hb hby at_217) rfl rfl ?_
      refine og_icmpNo (pc' := 222) X8 hx (hb hby at_219) (teq (by decide)).2 rfl ?_
      refine og_iconst (pc' := 223) (n := 1) X8 hx (hb hby at_222) rfl rfl ?_
      refine og_goto (pc' := 227) X8 hx (hb hby at_223) (by decide) (by decide) ?_
      obtain ⟨fs, hr, hrun, hended, hW, hsame⟩ := X8.leave (v := some (.int (1 : Int32))) (fun h => by rw [Bd.returns] at h; cases h) (BodyLoose.notSynchronized Bd)
      refine ⟨_, _, retN X8 hx (t := .boolean) Bd.returns (by simp) (hb hby at_227) hr, hrun, hended, some (.int (1 : Int32)), _, rfl, ?_, ⟨_, rfl⟩, hW, hsame.mono (by decide) (by decide)⟩
      show Q0 Z x0 x1 x2 x3 x4 x5 ca h0 n0 _ T8.heap _
      rw [e8]
      exact ⟨rfl, N8⟩
    · refine og_icmpYes (pc' := 161) X2 hx (hb hby at_137) (feq hc137_8).2 (by decide) (by decide) ?_
      refine og_iload (pc' := 163) X2 hx (hb hby at_161) rfl rfl ?_
      refine og_iconst (pc' := 164) (n := 5) X2 hx (hb hby at_163) rfl rfl ?_
      by_cases hc164_9 : (((x5 >>> ((3 : Int32) &&& 0x3f).toInt64) &&& (7 : Int64)).toInt32) = (5 : Int32)
      · refine og_icmpNo (pc' := 167) X2 hx (hb hby at_164) (teq hc164_9).2 rfl ?_
        obtain ⟨T9, h9, X9, e9, E9, A9, D9, -, st9⟩ := newO X2 hx hZ hown (hw _ (List.mem_of_getElem? (i := 55) rfl)) (hw _ (List.mem_of_getElem? (i := 56) rfl)) (hw _ (List.mem_of_getElem? (i := 57) rfl)) rfl (g := (mkF m 167 #[.val (.int x0), .val (.int x1), .val (.int x2), .val (.int x3), .val (.int x4), .val (.long x5), .second, .val (.int ((x5 >>> ((32 : Int32) &&& 0x3f).toInt64).toInt32)), .val (.int (if (x5 &&& (1 : Int64)) = (0 : Int64) then x3 else x0)), .val (.int (if (x5 &&& (2 : Int64)) = (0 : Int64) then x4 else x1)), .val (.int (if (x5 &&& (4 : Int64)) = (0 : Int64) then ((x5 >>> ((32 : Int32) &&& 0x3f).toInt64).toInt32) else x2)), .val (.int (((x5 >>> ((3 : Int32) &&& 0x3f).toInt64) &&& (7 : Int64)).toInt32)), .val (.ref b1), .unset, .unset] [])) rfl (hb hby at_167) (by decide) (by decide)
        obtain ⟨b9, g9⟩ : ∃ z, z = T2.heap.size := ⟨_, rfl⟩
        rw [← g9] at A9 D9 st9
        have ne9_0 : b1 ≠ b9 := Nat.ne_of_lt (Nat.lt_of_lt_of_le c2_0.lt (Nat.le_of_eq g9.symm))
        have g_b9 : n0 ≤ b9 := Nat.le_trans Z2 (Nat.le_of_eq g9.symm)
        have sz_b9 : h0.size ≤ b9 := Nat.le_trans K2.1 (Nat.le_of_eq g9.symm)
        have f9_0 := f2_0.ext E9
        have f9_4 := c2_0.ext E9
        have f9_5 := c2_1.ext E9
        have f9_6 := c2_2.ext E9
        have f9_7 := c2_3.ext E9
        have F9_methodIndex : Fld Z h9 b9 "com/example/capwright/capwright/cap/CapFile$InternalMethod" "methodIndex" "I" (.int (0 : Int32)) := D9 (Or.inr (hw _ (List.mem_of_getElem? (i := 63) rfl))) (ty := .int) (by decide)
        have K9 : Keep h0 h9 [] := K2.ext E9
        have Z9 : n0 ≤ h9.size := Nat.le_trans Z0 K9.1
        refine own_Go.of (g' := (mkF m 170 #[.val (.int x0), .val (.int x1), .val (.int x2), .val (.int x3), .val (.int x4), .val (.long x5), .second, .val (.int ((x5 >>> ((32 : Int32) &&& 0x3f).toInt64).toInt32)), .val (.int (if (x5 &&& (1 : Int64)) = (0 : Int64) then x3 else x0)), .val (.int (if (x5 &&& (2 : Int64)) = (0 : Int64) then x4 else x1)), .val (.int (if (x5 &&& (4 : Int64)) = (0 : Int64) then ((x5 >>> ((32 : Int32) &&& 0x3f).toInt64).toInt32) else x2)), .val (.int (((x5 >>> ((3 : Int32) &&& 0x3f).toInt64) &&& (7 : Int64)).toInt32)), .val (.ref b1), .unset, .unset] [(.ref b9)])) (fun t k => st9 _ k) ?_
        refine og_dup (pc' := 171) X9 hx (hb hby at_170) rfl rfl ?_
        refine og_iload (pc' := 173) X9 hx (hb hby at_171) rfl rfl ?_
        obtain ⟨_, _, ⟨T10, L10, k10, n10⟩, -, X10, ⟨Lc10, hQ10, l10, y10, z10⟩, st10⟩ := X9.specialBack hx (y := (⟨"com/example/capwright/capwright/cap/CapFile$InternalMethod", "<init>", "(I)V"⟩ : MethodName)) rfl hown (mvT hZ (hw _ (List.mem_of_getElem? (i := 58) rfl))) (mvT hZ (hw _ (List.mem_of_getElem? (i := 59) rfl))) (mvT hZ (hw _ (List.mem_of_getElem? (i := 60) rfl))) (by decide) (backOf (W := 1) (rmIM l Z a0 hw [] b9 (if (x5 &&& (1 : Int64)) = (0 : Int64) then x3 else x0) (.int (0 : Int32)) h9 n0 Z9 A9 F9_methodIndex g_b9) hZ (hw _ (List.mem_of_getElem? (i := 60) rfl)) (hw _ (List.mem_of_getElem? (i := 57) rfl)) (by decide) (by decide)) (g := (mkF m 173 #[.val (.int x0), .val (.int x1), .val (.int x2), .val (.int x3), .val (.int x4), .val (.long x5), .second, .val (.int ((x5 >>> ((32 : Int32) &&& 0x3f).toInt64).toInt32)), .val (.int (if (x5 &&& (1 : Int64)) = (0 : Int64) then x3 else x0)), .val (.int (if (x5 &&& (2 : Int64)) = (0 : Int64) then x4 else x1)), .val (.int (if (x5 &&& (4 : Int64)) = (0 : Int64) then ((x5 >>> ((32 : Int32) &&& 0x3f).toInt64).toInt32) else x2)), .val (.int (((x5 >>> ((3 : Int32) &&& 0x3f).toInt64) &&& (7 : Int64)).toInt32)), .val (.ref b1), .unset, .unset] [(.int (if (x5 &&& (1 : Int64)) = (0 : Int64) then x3 else x0)), (.ref b9), (.ref b9)])) rfl (by rw [hml]; rfl) (Steps.refl _) (a := b9) (argsL := [(.int (if (x5 &&& (1 : Int64)) = (0 : Int64) then x3 else x0))]) (rest := [(.ref b9)]) (lenOf pd_1 rfl) rfl (by show 2 * 0 + _ ≤ _; exact Nat.le_of_eq rfl) (hb hby at_173) (fun _ _ => ⟨rfl, e9, (by decide : 2 + 0 ≤ _), (by decide : 4 + 0 ≤ _)⟩)
        dsimp only [Pt.U, Pt.locs, Pt.cells, Pt.slots] at X10 l10 y10 z10 st10 hQ10
        subst l10 y10 z10
        obtain ⟨rfl, N10q, K10q, c10_0, c10_1⟩ := hQ10
        have N10 := Fr.app N2 N10q
        have f10_0 := f9_0.keep K10q (allS g_b9 all0)
        have f10_4 := f9_4.keep K10q
        have f10_5 := f9_5.keep K10q (ninS ne9_0 nin0)
        have f10_6 := f9_6.keep K10q (ninS ne9_0 nin0)
        have f10_7 := f9_7.keep K10q (ninS ne9_0 nin0)
        have f10_8 := A9.keep K10q
        have K10 : Keep h0 T10.heap [] := K9.trans K10q (allS (Or.inr sz_b9) all0)
        have Z10 : n0 ≤ T10.heap.size := Nat.le_trans Z0 K10.1
        refine own_Go.of (g' := (mkF m 176 #[.val (.int x0), .val (.int x1), .val (.int x2), .val (.int x3), .val (.int x4), .val (.long x5), .second, .val (.int ((x5 >>> ((32 : Int32) &&& 0x3f).toInt64).toInt32)), .val (.int (if (x5 &&& (1 : Int64)) = (0 : Int64) then x3 else x0)), .val (.int (if (x5 &&& (2 : Int64)) = (0 : Int64) then x4 else x1)), .val (.int (if (x5 &&& (4 : Int64)) = (0 : Int64) then ((x5 >>> ((32 : Int32) &&& 0x3f).toInt64).toInt32) else x2)), .val (.int (((x5 >>> ((3 : Int32) &&& 0x3f).toInt64) &&& (7 : Int64)).toInt32)), .val (.ref b1), .unset, .unset] [(.ref b9)])) (fun t k => st10.trans k) ?_
        refine og_astore (pc' := 178) (L' := #[.val (.int x0), .val (.int x1), .val (.int x2), .val (.int x3), .val (.int x4), .val (.long x5), .second, .val (.int ((x5 >>> ((32 : Int32) &&& 0x3f).toInt64).toInt32)), .val (.int (if (x5 &&& (1 : Int64)) = (0 : Int64) then x3 else x0)), .val (.int (if (x5 &&& (2 : Int64)) = (0 : Int64) then x4 else x1)), .val (.int (if (x5 &&& (4 : Int64)) = (0 : Int64) then ((x5 >>> ((32 : Int32) &&& 0x3f).toInt64).toInt32) else x2)), .val (.int (((x5 >>> ((3 : Int32) &&& 0x3f).toInt64) &&& (7 : Int64)).toInt32)), .val (.ref b1), .val (.ref b9), .unset]) X10 hx (hb hby at_176) rfl rfl rfl ?_
        refine og_iconst (pc' := 179) (n := 0) X10 hx (hb hby at_178) rfl rfl ?_
        refine og_istore (pc' := 181) (L' := #[.val (.int x0), .val (.int x1), .val (.int x2), .val (.int x3), .val (.int x4), .val (.long x5), .second, .val (.int ((x5 >>> ((32 : Int32) &&& 0x3f).toInt64).toInt32)), .val (.int (if (x5 &&& (1 : Int64)) = (0 : Int64) then x3 else x0)), .val (.int (if (x5 &&& (2 : Int64)) = (0 : Int64) then x4 else x1)), .val (.int (if (x5 &&& (4 : Int64)) = (0 : Int64) then ((x5 >>> ((32 : Int32) &&& 0x3f).toInt64).toInt32) else x2)), .val (.int (((x5 >>> ((3 : Int32) &&& 0x3f).toInt64) &&& (7 : Int64)).toInt32)), .val (.ref b1), .val (.ref b9), .val (.int (0 : Int32))]) X10 hx (hb hby at_179) rfl rfl ?_
        refine og_goto (pc' := 210) X10 hx (hb hby at_181) (by decide) (by decide) ?_
        refine og_aload (pc' := 212) X10 hx (hb hby at_210) rfl rfl rfl ?_
        refine og_aload (pc' := 214) X10 hx (hb hby at_212) rfl rfl rfl ?_
        obtain ⟨cq11, kq11, q11a, q11b, q11c⟩ := isOf hZ rfl f10_4
        obtain ⟨_, _, ⟨T11, L11, k11, n11⟩, -, X11, ⟨Lc11, hQ11, l11, y11, z11⟩, st11⟩ := X10.virtualBack hx (y := (⟨"com/example/capwright/capwright/cap/CapFile$ExternalMethod", "equals", "(Ljava/lang/Object;)Z"⟩ : MethodName)) (z := (⟨"com/example/capwright/capwright/cap/CapFile$ExternalMethod", "equals", "(Ljava/lang/Object;)Z"⟩ : MethodName)) hown (mvT hZ (hw _ (List.mem_of_getElem? (i := 23) rfl))) (mvT hZ (hw _ (List.mem_of_getElem? (i := 24) rfl))) (notFace_of_selects (args := #[]) (mvT hZ (hw _ (List.mem_of_getElem? (i := 26) rfl)))) (mvT hZ (hw _ (List.mem_of_getElem? (i := 26) rfl))) (mvT hZ (hw _ (List.mem_of_getElem? (i := 25) rfl))) (by decide) (backOf (W := 0) (rmeqM l Z a0 hw [] b1 b9 T10.heap n0 Z10 c10_0) hZ (hw _ (List.mem_of_getElem? (i := 27) rfl)) (hw _ (List.mem_of_getElem? (i := 5) rfl)) (by decide) (by decide)) q11a q11c (g := (mkF m 214 #[.val (.int x0), .val (.int x1), .val (.int x2), .val (.int x3), .val (.int x4), .val (.long x5), .second, .val (.int ((x5 >>> ((32 : Int32) &&& 0x3f).toInt64).toInt32)), .val (.int (if (x5 &&& (1 : Int64)) = (0 : Int64) then x3 else x0)), .val (.int (if (x5 &&& (2 : Int64)) = (0 : Int64) then x4 else x1)), .val (.int (if (x5 &&& (4 : Int64)) = (0 : Int64) then ((x5 >>> ((32 : Int32) &&& 0x3f).toInt64).toInt32) else x2)), .val (.int (((x5 >>> ((3 : Int32) &&& 0x3f).toInt64) &&& (7 : Int64)).toInt32)), .val (.ref b1), .val (.ref b9), .val (.int (0 : Int32))] [(.ref b9), (.ref b1)])) rfl (by rw [hml]; rfl) (Steps.refl _) (argsL := [(.ref b9)]) (rest := []) (lenOf pd_3 rfl) rfl (by show 2 * 0 + _ ≤ _; exact Nat.le_of_eq rfl) (hb hby at_214) (fun _ _ => ⟨rfl, rfl, (by decide : 2 + 0 ≤ _), (by decide : 4 + 0 ≤ _)⟩)
        dsimp only [Pt.U, Pt.locs, Pt.cells, Pt.slots] at X11 l11 y11 z11 st11 hQ11
        subst l11 y11 z11
        obtain ⟨rfl, N11q, e11⟩ := hQ11
        have N11 := Fr.app N10 N11q
        refine own_Go.of (g' := (mkF m 217 #[.val (.int x0), .val (.int x1), .val (.int x2), .val (.int x3), .val (.int x4), .val (.long x5), .second, .val (.int ((x5 >>> ((32 : Int32) &&& 0x3f).toInt64).toInt32)), .val (.int (if (x5 &&& (1 : Int64)) = (0 : Int64) then x3 else x0)), .val (.int (if (x5 &&& (2 : Int64)) = (0 : Int64) then x4 else x1)), .val (.int (if (x5 &&& (4 : Int64)) = (0 : Int64) then ((x5 >>> ((32 : Int32) &&& 0x3f).toInt64).toInt32) else x2)), .val (.int (((x5 >>> ((3 : Int32) &&& 0x3f).toInt64) &&& (7 : Int64)).toInt32)), .val (.ref b1), .val (.ref b9), .val (.int (0 : Int32))] [(.int (0 : Int32))])) (fun t k => st11.trans k) ?_
        refine og_iload (pc' := 219) X11 hx (hb hby at_217) rfl rfl ?_
        refine og_icmpNo (pc' := 222) X11 hx (hb hby at_219) (teq (by decide)).2 rfl ?_
        refine og_iconst (pc' := 223) (n := 1) X11 hx (hb hby at_222) rfl rfl ?_
        refine og_goto (pc' := 227) X11 hx (hb hby at_223) (by decide) (by decide) ?_
        obtain ⟨fs, hr, hrun, hended, hW, hsame⟩ := X11.leave (v := some (.int (1 : Int32))) (fun h => by rw [Bd.returns] at h; cases h) (BodyLoose.notSynchronized Bd)
        refine ⟨_, _, retN X11 hx (t := .boolean) Bd.returns (by simp) (hb hby at_227) hr, hrun, hended, some (.int (1 : Int32)), _, rfl, ?_, ⟨_, rfl⟩, hW, hsame.mono (by decide) (by decide)⟩
        show Q0 Z x0 x1 x2 x3 x4 x5 ca h0 n0 _ T11.heap _
        rw [e11]
        exact ⟨rfl, N11⟩
      · refine og_icmpYes (pc' := 184) X2 hx (hb hby at_164) (feq hc164_9).2 (by decide) (by decide) ?_
        refine og_iload (pc' := 186) X2 hx (hb hby at_184) rfl rfl ?_
        refine og_bipush (pc' := 188) (n := 6) X2 hx (hb hby at_186) rfl rfl ?_
        by_cases hc188_10 : (((x5 >>> ((3 : Int32) &&& 0x3f).toInt64) &&& (7 : Int64)).toInt32) = (6 : Int32)
        · refine og_icmpNo (pc' := 191) X2 hx (hb hby at_188) (teq hc188_10).2 rfl ?_
          refine og_iload (pc' := 193) X2 hx (hb hby at_191) rfl rfl ?_
          obtain ⟨_, _, ⟨T12, L12, k12, n12⟩, -, X12, ⟨Lc12, hQ12, l12, y12, z12⟩, st12⟩ := Jvm.LawKit.callS X2 hx (y := (⟨"java/lang/Integer", "valueOf", "(I)Ljava/lang/Integer;"⟩ : MethodName)) hown (mvT hZ (hw _ (List.mem_of_getElem? (i := 46) rfl))) (mvT hZ (hw _ (List.mem_of_getElem? (i := 47) rfl))) (mvT hZ (hw _ (List.mem_of_getElem? (i := 48) rfl))) (mvT hZ (hw _ (List.mem_of_getElem? (i := 49) rfl))) (by decide) (backOf (W := 0) (rmval l Z a0 hw [] (if (x5 &&& (1 : Int64)) = (0 : Int64) then x3 else x0) ca T2.heap n0 Z2 f2_0 S_h S_c hC) hZ (hw _ (List.mem_of_getElem? (i := 49) rfl)) (hw _ (List.mem_of_getElem? (i := 48) rfl)) (by decide) (by decide)) (g := (mkF m 193 #[.val (.int x0), .val (.int x1), .val (.int x2), .val (.int x3), .val (.int x4), .val (.long x5), .second, .val (.int ((x5 >>> ((32 : Int32) &&& 0x3f).toInt64).toInt32)), .val (.int (if (x5 &&& (1 : Int64)) = (0 : Int64) then x3 else x0)), .val (.int (if (x5 &&& (2 : Int64)) = (0 : Int64) then x4 else x1)), .val (.int (if (x5 &&& (4 : Int64)) = (0 : Int64) then ((x5 >>> ((32 : Int32) &&& 0x3f).toInt64).toInt32) else x2)), .val (.int (((x5 >>> ((3 : Int32) &&& 0x3f).toInt64) &&& (7 : Int64)).toInt32)), .val (.ref b1), .unset, .unset] [(.int (if (x5 &&& (1 : Int64)) = (0 : Int64) then x3 else x0))])) rfl (by rw [hml]; rfl) (argsL := [(.int (if (x5 &&& (1 : Int64)) = (0 : Int64) then x3 else x0))]) (rest := []) (lenOf pd_4 rfl) rfl (by show 2 * 0 + _ ≤ _; exact Nat.le_of_eq rfl) (hb hby at_193) (fun _ _ => ⟨rfl, rfl, (by decide : 1 + 1 ≤ _), (by decide : 3 + 1 ≤ _)⟩)
          dsimp only [Pt.U, Pt.locs, Pt.cells, Pt.slots] at X12 l12 y12 z12 st12 hQ12
          subst l12 y12 z12
          obtain ⟨r_12, rfl, N12q, K12q, c12_0⟩ := hQ12
          have N12 := Fr.app N2 N12q
          have f12_0 := f2_0.keep K12q all0
          have f12_4 := c2_0.keep K12q
          have f12_5 := c2_1.keep K12q nin0
          have f12_6 := c2_2.keep K12q nin0
          have f12_7 := c2_3.keep K12q nin0
          have K12 : Keep h0 T12.heap [] := K2.trans K12q all0
          have Z12 : n0 ≤ T12.heap.size := Nat.le_trans Z0 K12.1
          refine own_Go.of (g' := (mkF m 196 #[.val (.int x0), .val (.int x1), .val (.int x2), .val (.int x3), .val (.int x4), .val (.long x5), .second, .val (.int ((x5 >>> ((32 : Int32) &&& 0x3f).toInt64).toInt32)), .val (.int (if (x5 &&& (1 : Int64)) = (0 : Int64) then x3 else x0)), .val (.int (if (x5 &&& (2 : Int64)) = (0 : Int64) then x4 else x1)), .val (.int (if (x5 &&& (4 : Int64)) = (0 : Int64) then ((x5 >>> ((32 : Int32) &&& 0x3f).toInt64).toInt32) else x2)), .val (.int (((x5 >>> ((3 : Int32) &&& 0x3f).toInt64) &&& (7 : Int64)).toInt32)), .val (.ref b1), .unset, .unset] [(.ref r_12)])) (fun t k => st12 _ k) ?_
          refine og_astore (pc' := 198) (L' := #[.val (.int x0), .val (.int x1), .val (.int x2), .val (.int x3), .val (.int x4), .val (.long x5), .second, .val (.int ((x5 >>> ((32 : Int32) &&& 0x3f).toInt64).toInt32)), .val (.int (if (x5 &&& (1 : Int64)) = (0 : Int64) then x3 else x0)), .val (.int (if (x5 &&& (2 : Int64)) = (0 : Int64) then x4 else x1)), .val (.int (if (x5 &&& (4 : Int64)) = (0 : Int64) then ((x5 >>> ((32 : Int32) &&& 0x3f).toInt64).toInt32) else x2)), .val (.int (((x5 >>> ((3 : Int32) &&& 0x3f).toInt64) &&& (7 : Int64)).toInt32)), .val (.ref b1), .val (.ref r_12), .unset]) X12 hx (hb hby at_196) rfl rfl rfl ?_
          refine og_iconst (pc' := 199) (n := 0) X12 hx (hb hby at_198) rfl rfl ?_
          refine og_istore (pc' := 201) (L' := #[.val (.int x0), .val (.int x1), .val (.int x2), .val (.int x3), .val (.int x4), .val (.long x5), .second, .val (.int ((x5 >>> ((32 : Int32) &&& 0x3f).toInt64).toInt32)), .val (.int (if (x5 &&& (1 : Int64)) = (0 : Int64) then x3 else x0)), .val (.int (if (x5 &&& (2 : Int64)) = (0 : Int64) then x4 else x1)), .val (.int (if (x5 &&& (4 : Int64)) = (0 : Int64) then ((x5 >>> ((32 : Int32) &&& 0x3f).toInt64).toInt32) else x2)), .val (.int (((x5 >>> ((3 : Int32) &&& 0x3f).toInt64) &&& (7 : Int64)).toInt32)), .val (.ref b1), .val (.ref r_12), .val (.int (0 : Int32))]) X12 hx (hb hby at_199) rfl rfl ?_
          refine og_goto (pc' := 210) X12 hx (hb hby at_201) (by decide) (by decide) ?_
          refine og_aload (pc' := 212) X12 hx (hb hby at_210) rfl rfl rfl ?_
          refine og_aload (pc' := 214) X12 hx (hb hby at_212) rfl rfl rfl ?_
          obtain ⟨cq13, kq13, q13a, q13b, q13c⟩ := isOf hZ rfl f12_4
          obtain ⟨_, _, ⟨T13, L13, k13, n13⟩, -, X13, ⟨Lc13, hQ13, l13, y13, z13⟩, st13⟩ := X12.virtualBack hx (y := (⟨"com/example/capwright/capwright/cap/CapFile$ExternalMethod", "equals", "(Ljava/lang/Object;)Z"⟩ : MethodName)) (z := (⟨"com/example/capwright/capwright/cap/CapFile$ExternalMethod", "equals", "(Ljava/lang/Object;)Z"⟩ : MethodName)) hown (mvT hZ (hw _ (List.mem_of_getElem? (i := 23) rfl))) (mvT hZ (hw _ (List.mem_of_getElem? (i := 24) rfl))) (notFace_of_selects (args := #[]) (mvT hZ (hw _ (List.mem_of_getElem? (i := 26) rfl)))) (mvT hZ (hw _ (List.mem_of_getElem? (i := 26) rfl))) (mvT hZ (hw _ (List.mem_of_getElem? (i := 25) rfl))) (by decide) (backOf (W := 0) (rmeqI l Z a0 hw [] b1 r_12 T12.heap n0 Z12 c12_0) hZ (hw _ (List.mem_of_getElem? (i := 27) rfl)) (hw _ (List.mem_of_getElem? (i := 5) rfl)) (by decide) (by decide)) q13a q13c (g := (mkF m 214 #[.val (.int x0), .val (.int x1), .val (.int x2), .val (.int x3), .val (.int x4), .val (.long x5), .second, .val (.int ((x5 >>> ((32 : Int32) &&& 0x3f).toInt64).toInt32)), .val (.int (if (x5 &&& (1 : Int64)) = (0 : Int64) then x3 else x0)), .val (.int (if (x5 &&& (2 : Int64)) = (0 : Int64) then x4 else x1)), .val (.int (if (x5 &&& (4 : Int64)) = (0 : Int64) then ((x5 >>> ((32 : Int32) &&& 0x3f).toInt64).toInt32) else x2)), .val (.int (((x5 >>> ((3 : Int32) &&& 0x3f).toInt64) &&& (7 : Int64)).toInt32)), .val (.ref b1), .val (.ref r_12), .val (.int (0 : Int32))] [(.ref r_12), (.ref b1)])) rfl (by rw [hml]; rfl) (Steps.refl _) (argsL := [(.ref r_12)]) (rest := []) (lenOf pd_3 rfl) rfl (by show 2 * 0 + _ ≤ _; exact Nat.le_of_eq rfl) (hb hby at_214) (fun _ _ => ⟨rfl, rfl, (by decide : 2 + 0 ≤ _), (by decide : 4 + 0 ≤ _)⟩)
          dsimp only [Pt.U, Pt.locs, Pt.cells, Pt.slots] at X13 l13 y13 z13 st13 hQ13
          subst l13 y13 z13
          obtain ⟨rfl, N13q, e13⟩ := hQ13
          have N13 := Fr.app N12 N13q
          refine own_Go.of (g' := (mkF m 217 #[.val (.int x0), .val (.int x1), .val (.int x2), .val (.int x3), .val (.int x4), .val (.long x5), .second, .val (.int ((x5 >>> ((32 : Int32) &&& 0x3f).toInt64).toInt32)), .val (.int (if (x5 &&& (1 : Int64)) = (0 : Int64) then x3 else x0)), .val (.int (if (x5 &&& (2 : Int64)) = (0 : Int64) then x4 else x1)), .val (.int (if (x5 &&& (4 : Int64)) = (0 : Int64) then ((x5 >>> ((32 : Int32) &&& 0x3f).toInt64).toInt32) else x2)), .val (.int (((x5 >>> ((3 : Int32) &&& 0x3f).toInt64) &&& (7 : Int64)).toInt32)), .val (.ref b1), .val (.ref r_12), .val (.int (0 : Int32))] [(.int (0 : Int32))])) (fun t k => st13.trans k) ?_
          refine og_iload (pc' := 219) X13 hx (hb hby at_217) rfl rfl ?_
          refine og_icmpNo (pc' := 222) X13 hx (hb hby at_219) (teq (by decide)).2 rfl ?_
          refine og_iconst (pc' := 223) (n := 1) X13 hx (hb hby at_222) rfl rfl ?_
          refine og_goto (pc' := 227) X13 hx (hb hby at_223) (by decide) (by decide) ?_
          obtain ⟨fs, hr, hrun, hended, hW, hsame⟩ := X13.leave (v := some (.int (1 : Int32))) (fun h => by rw [Bd.returns] at h; cases h) (BodyLoose.notSynchronized Bd)
          refine ⟨_, _, retN X13 hx (t := .boolean) Bd.returns (by simp) (hb hby at_227) hr, hrun, hended, some (.int (1 : Int32)), _, rfl, ?_, ⟨_, rfl⟩, hW, hsame.mono (by decide) (by decide)⟩
          show Q0 Z x0 x1 x2 x3 x4 x5 ca h0 n0 _ T13.heap _
          rw [e13]
          exact ⟨rfl, N13⟩
        · refine og_icmpYes (pc' := 204) X2 hx (hb hby at_188) (feq hc188_10).2 (by decide) (by decide) ?_
          refine og_aconst_null (pc' := 205) X2 hx (hb hby at_204) rfl ?_
          refine og_astore (pc' := 207) (L' := #[.val (.int x0), .val (.int x1), .val (.int x2), .val (.int x3), .val (.int x4), .val (.long x5), .second, .val (.int ((x5 >>> ((32 : Int32) &&& 0x3f).toInt64).toInt32)), .val (.int (if (x5 &&& (1 : Int64)) = (0 : Int64) then x3 else x0)), .val (.int (if (x5 &&& (2 : Int64)) = (0 : Int64) then x4 else x1)), .val (.int (if (x5 &&& (4 : Int64)) = (0 : Int64) then ((x5 >>> ((32 : Int32) &&& 0x3f).toInt64).toInt32) else x2)), .val (.int (((x5 >>> ((3 : Int32) &&& 0x3f).toInt64) &&& (7 : Int64)).toInt32)), .val (.ref b1), .val .null, .unset]) X2 hx (hb hby at_205) rfl rfl rfl ?_
          refine og_iconst (pc' := 208) (n := 0) X2 hx (hb hby at_207) rfl rfl ?_
          refine og_istore (pc' := 210) (L' := #[.val (.int x0), .val (.int x1), .val (.int x2), .val (.int x3), .val (.int x4), .val (.long x5), .second, .val (.int ((x5 >>> ((32 : Int32) &&& 0x3f).toInt64).toInt32)), .val (.int (if (x5 &&& (1 : Int64)) = (0 : Int64) then x3 else x0)), .val (.int (if (x5 &&& (2 : Int64)) = (0 : Int64) then x4 else x1)), .val (.int (if (x5 &&& (4 : Int64)) = (0 : Int64) then ((x5 >>> ((32 : Int32) &&& 0x3f).toInt64).toInt32) else x2)), .val (.int (((x5 >>> ((3 : Int32) &&& 0x3f).toInt64) &&& (7 : Int64)).toInt32)), .val (.ref b1), .val .null, .val (.int (0 : Int32))]) X2 hx (hb hby at_208) rfl rfl ?_
          refine og_aload (pc' := 212) X2 hx (hb hby at_210) rfl rfl rfl ?_
          refine og_aload (pc' := 214) X2 hx (hb hby at_212) rfl rfl rfl ?_
          obtain ⟨cq14, kq14, q14a, q14b, q14c⟩ := isOf hZ rfl c2_0
          obtain ⟨_, _, ⟨T14, L14, k14, n14⟩, -, X14, ⟨Lc14, hQ14, l14, y14, z14⟩, st14⟩ := X2.virtualBack hx (y := (⟨"com/example/capwright/capwright/cap/CapFile$ExternalMethod", "equals", "(Ljava/lang/Object;)Z"⟩ : MethodName)) (z := (⟨"com/example/capwright/capwright/cap/CapFile$ExternalMethod", "equals", "(Ljava/lang/Object;)Z"⟩ : MethodName)) hown (mvT hZ (hw _ (List.mem_of_getElem? (i := 23) rfl))) (mvT hZ (hw _ (List.mem_of_getElem? (i := 24) rfl))) (notFace_of_selects (args := #[]) (mvT hZ (hw _ (List.mem_of_getElem? (i := 26) rfl)))) (mvT hZ (hw _ (List.mem_of_getElem? (i := 26) rfl))) (mvT hZ (hw _ (List.mem_of_getElem? (i := 25) rfl))) (by decide) (backOf (W := 0) (rmeqC l Z a0 hw [] b1 T2.heap n0 Z2 ) hZ (hw _ (List.mem_of_getElem? (i := 27) rfl)) (hw _ (List.mem_of_getElem? (i := 5) rfl)) (by decide) (by decide)) q14a q14c (g := (mkF m 214 #[.val (.int x0), .val (.int x1), .val (.int x2), .val (.int x3), .val (.int x4), .val (.long x5), .second, .val (.int ((x5 >>> ((32 : Int32) &&& 0x3f).toInt64).toInt32)), .val (.int (if (x5 &&& (1 : Int64)) = (0 : Int64) then x3 else x0)), .val (.int (if (x5 &&& (2 : Int64)) = (0 : Int64) then x4 else x1)), .val (.int (if (x5 &&& (4 : Int64)) = (0 : Int64) then ((x5 >>> ((32 : Int32) &&& 0x3f).toInt64).toInt32) else x2)), .val (.int (((x5 >>> ((3 : Int32) &&& 0x3f).toInt64) &&& (7 : Int64)).toInt32)), .val (.ref b1), .val .null, .val (.int (0 : Int32))] [.null, (.ref b1)])) rfl (by rw [hml]; rfl) (Steps.refl _) (argsL := [.null]) (rest := []) (lenOf pd_3 rfl) rfl (by show 2 * 0 + _ ≤ _; exact Nat.le_of_eq rfl) (hb hby at_214) (fun _ _ => ⟨rfl, rfl, (by decide : 1 + 0 ≤ _), (by decide : 3 + 0 ≤ _)⟩)
          dsimp only [Pt.U, Pt.locs, Pt.cells, Pt.slots] at X14 l14 y14 z14 st14 hQ14
          subst l14 y14 z14
          obtain ⟨rfl, N14q, e14⟩ := hQ14
          have N14 := Fr.app N2 N14q
          refine own_Go.of (g' := (mkF m 217 #[.val (.int x0), .val (.int x1), .val (.int x2), .val (.int x3), .val (.int x4), .val (.long x5), .second, .val (.int ((x5 >>> ((32 : Int32) &&& 0x3f).toInt64).toInt32)), .val (.int (if (x5 &&& (1 : Int64)) = (0 : Int64) then x3 else x0)), .val (.int (if (x5 &&& (2 : Int64)) = (0 : Int64) then x4 else x1)), .val (.int (if (x5 &&& (4 : Int64)) = (0 : Int64) then ((x5 >>> ((32 : Int32) &&& 0x3f).toInt64).toInt32) else x2)), .val (.int (((x5 >>> ((3 : Int32) &&& 0x3f).toInt64) &&& (7 : Int64)).toInt32)), .val (.ref b1), .val .null, .val (.int (0 : Int32))] [(.int (0 : Int32))])) (fun t k => st14.trans k) ?_
          refine og_iload (pc' := 219) X14 hx (hb hby at_217) rfl rfl ?_
          refine og_icmpNo (pc' := 222) X14 hx (hb hby at_219) (teq (by decide)).2 rfl ?_
          refine og_iconst (pc' := 223) (n := 1) X14 hx (hb hby at_222) rfl rfl ?_
          refine og_goto (pc' := 227) X14 hx (hb hby at_223) (by decide) (by decide) ?_
          obtain ⟨fs, hr, hrun, hended, hW, hsame⟩ := X14.leave (v := some (.int (1 : Int32))) (fun h => by rw [Bd.returns] at h; cases h) (BodyLoose.notSynchronized Bd)
          refine ⟨_, _, retN X14 hx (t := .boolean) Bd.returns (by simp) (hb hby at_227) hr, hrun, hended, some (.int (1 : Int32)), _, rfl, ?_, ⟨_, rfl⟩, hW, hsame.mono (by decide) (by decide)⟩
          show Q0 Z x0 x1 x2 x3 x4 x5 ca h0 n0 _ T14.heap _
          rw [e14]
          exact ⟨rfl, N14⟩

set_option maxRecDepth 65536 in
set_option maxHeartbeats 40000000 in
theorem comes_1 {Post : Tables → Env → Array Value → State → Outcome → State → Prop} (hpost : ∀ tb e args s v u, (limb_1_1.after args s (.returned v) u = true ∧ limb_1_2.after args s (.returned v) u = true ∧ True) → FrameEnd s (.returned v) u (Jvm.fieldLocs frame_1_writes args s ++ Jvm.arrayLocs frame_1_arrays args s ++ Jvm.staticLocs frame_1_statics s) 16 128 → Post tb e args s (.returned v) u) :
    ArmFor flags0 classFile x code maxLocals ret World_1 tables_1 room_1 Calls_1 rest_1 Pre_1 Post := by
  intro l hfl _ _ p e ha hc hk s m args below hf hA hF happ hP
  obtain ⟨hcalls, hrest, hpre⟩ := hP
  obtain ⟨-, -, -, hnamed, -, -, -, hat⟩ := (Spec.applies_iff hf).mp happ
  obtain ⟨hg, hn⟩ := and_e (Cond.before_iff.mp (show (Jvm.Cond.and given_1 narrow_1).before args s = true from hpre))
  obtain ⟨hcnt, hg0⟩ := and_e hg
  obtain ⟨a0, hg1⟩ := and_e hg0
  obtain ⟨a1, hg2⟩ := and_e hg1
  obtain ⟨a2, hg3⟩ := and_e hg2
  obtain ⟨a3, hg4⟩ := and_e hg3
  obtain ⟨a4, hg5⟩ := and_e hg4
  obtain ⟨w0, w1, w2, w3, w4, w5, rfl⟩ : ∃ w0 w1 w2 w3 w4 w5 : Value, args = #[w0, w1, w2, w3, w4, w5] := by
    have hs : args.size = 6 := by simpa [Cond.value, given_1] using hcnt
    obtain ⟨L⟩ := args
    match L, hs with
    | [w0, w1, w2, w3, w4, w5], _ => exact ⟨w0, w1, w2, w3, w4, w5, rfl⟩
  have hw := fun d (hd : d ∈ tables_1) => atoms_spec (ws := Jvm.Cond.code x code maxLocals ret :: tables_1) hat d (List.mem_cons_of_mem _ hd)
  have hfit : Fit s := fun {y c} hc i hi => by
    obtain ⟨ha, rfl⟩ := Array.getElem?_eq_some_iff.mp hc
    have q := List.all_eq_true.mp ((Array.all_eq_true_iff_forall_mem.mp hF) _ (Array.getElem_mem ha)) i (List.mem_range.mpr hi)
    simpa [Array.getElem?_eq_getElem hi] using q
  obtain ⟨i0, ei0⟩ := is_v a0
  obtain rfl : w0 = (.int i0) := Option.some.inj ei0
  obtain ⟨i1, ei1⟩ := is_v a1
  obtain rfl : w1 = (.int i1) := Option.some.inj ei1
  obtain ⟨i2, ei2⟩ := is_v a2
  obtain rfl : w2 = (.int i2) := Option.some.inj ei2
  obtain ⟨i3, ei3⟩ := is_v a3
  obtain rfl : w3 = (.int i3) := Option.some.inj ei3
  obtain ⟨i4, ei4⟩ := is_v a4
  obtain rfl : w4 = (.int i4) := Option.some.inj ei4
  obtain ⟨i5, ei5⟩ := isL_v hg5
  obtain rfl : w5 = (.long i5) := Option.some.inj ei5
  obtain ⟨hsets, hown0⟩ := atoms_of _ (rest_1_c_eq ▸ (show rest_1_c.before _ s = true from hrest))
  obtain ⟨ca, S_h, S_c, hC⟩ := own_cache_start hfit (hw _ (List.mem_of_getElem? (i := 51) rfl)) (hsets _ (List.mem_of_getElem? (i := 0) rfl)) (hsets _ (List.mem_of_getElem? (i := 1) rfl)) (hsets _ (List.mem_of_getElem? (i := 2) rfl)) (hsets _ (List.mem_of_getElem? (i := 3) rfl)) (hsets _ (List.mem_of_getElem? (i := 4) rfl)) (hsets _ (List.mem_of_getElem? (i := 5) rfl)) (hsets _ (List.mem_of_getElem? (i := 6) rfl)) (hsets _ (List.mem_of_getElem? (i := 7) rfl))
  obtain ⟨n, o, h1, h2, h3, _, L, rfl, ⟨rfl, N⟩, hq⟩ := rm0 l s _ hw tables_1 i0 i1 i2 i3 i4 i5 ca s.heap s.heap.size (Nat.le_refl _) (Old.start s) S_h S_c hC p e ha hc hk s m _ below hf ((Spec.applies_iff_loose hf).mp happ).1 ⟨rfl, State.Warmed39.refl s, rfl⟩ trivial
  refine ⟨n, _, h1, h2, h3, hpost _ _ _ _ _ _ ⟨Cond.after_iff.mpr rfl, Cond.after_iff.mpr (eq_i res_at (Term.int_eval (1)) rfl), trivial⟩ ⟨hq.1, hq.2.1, (hq.2.2.sift fun y hy => Or.inr (N y hy)).mono (by decide) (by decide)⟩⟩
theorem main_1_1 : Claimed_1_1 := comes_1 fun _ _ _ _ _ _ h hF => ⟨h.1, hF⟩
theorem main_1_2 : Claimed_1_2 := comes_1 fun _ _ _ _ _ _ h hF => ⟨h.2.1, hF⟩

end Jvm.Pilot.@@N@@
namespace Jvm.Pilot.@@N@@
open Jvm Jvm.ClassFile Sem Op Lib Jvm.Free Jvm.Stand Jvm.Pilot.@@N@@.Jvm.D
/-! MADE BY PROGRAM (witnessworld.py) out of the Statement's table words and the real class files: 21 classes; the members and pool entries that the words name. The judged class is class 1, her method 1. -/
namespace start1
open Jvm.ClassFile
def u (s : String) : CpInfo := .utf8 (stringToUtf16 s)
/-- a pool by its gaps: so many unusable entries, then the entry; so many at the end -/
def gap : Nat → List CpInfo → List CpInfo
  | 0, r => r
  | n + 1, r => .unusable :: gap n r
def poolList (es : List (Nat × CpInfo)) (last : Nat) : List CpInfo := es.foldr (fun e r => gap e.1 (e.2 :: r)) (gap last [])
def pool (es : List (Nat × CpInfo)) (last : Nat) : Array CpInfo := ⟨poolList es last⟩
def fileOf (pool : Array CpInfo) (this : Nat) (attrs : Array Attribute := #[]) (ms : Array MethodInfo := #[]) (fl : Nat := 33) (sup : Nat := 0) (ifs : Array Nat := #[]) (fds : Array FieldInfo := #[]) : ClassFile where
  minorVersion := 0
  majorVersion := 65
  constantPool := pool
  accessFlags := fl
  thisClass := this
  superClass := sup
  interfaces := ifs
  fields := fds
  methods := ms
  attributes := attrs
def plain (name : String) (sup : Option ClassId) : Class where
  name := name
  kind := .ordinary
  loader := none
  accessFlags := 33
  super := sup
  interfaces := #[]
  cf := none
  fields := #[]
  methods := #[]
  instanceTypes := #[]
  staticTypes := #[]
  resolved := #[]
  callSites := []
  init := .initialized
  statics := none
  mirror := none

def pool0 : Array CpInfo := pool [(5, u "<init>"), (0, u "()V"), (1, .class_ 10), (1, u "java/lang/Object")] 113

def k0c0 : Code := { maxStack := 0, maxLocals := 1, code := object_method_1_code, exceptionTable := #[], attributes := #[] }
def k0m0 : Method := { name := "<init>", desc := "()V", sig := { parameters := [], returnType := none }, accessFlags := 1, code := some k0c0 }
/-- java/lang/Object -/
def k0 : Class := { plain "java/lang/Object" none with
  accessFlags := 33
  interfaces := #[]
  cf := some (fileOf pool0 8 #[] #[{ accessFlags := 1, nameIndex := 5, descriptorIndex := 6, attributes := #[] }] 33 0 #[] #[])
  fields := #[]
  methods := #[k0m0]
  instanceTypes := #[]
  staticTypes := #[]
  resolved := Array.replicate 124 none
  statics := none }

def pool1 : Array CpInfo := pool [(2, .class_ 4), (1, u "java/lang/Object"), (0, u "<init>"), (0, u "()V"), (0, .long 2), (1, .long 4), (1, .long 7), (1, .class_ 14), (0, u "com/example/capwright/capwright/cap/CapFile$ExternalMethod"), (0, .methodref 13 16), (0, .nameAndType 5 17), (0, u "(III)V"), (0, .class_ 19), (0, u "com/example/capwright/capwright/cap/CapFile$ExternalField"), (0, .methodref 18 16), (0, .class_ 22), (0, u "com/example/capwright/capwright/cap/CapFile$InternalMethod"), (0, .methodref 21 24), (0, .nameAndType 5 25), (0, u "(I)V"), (0, .methodref 27 28), (0, .class_ 29), (0, .nameAndType 30 31), (0, u "java/lang/Integer"), (0, u "valueOf"), (0, u "(I)Ljava/lang/Integer;"), (0, .methodref 13 33), (0, .nameAndType 34 35), (0, u "equals"), (0, u "(Ljava/lang/Object;)Z"), (0, .class_ 37), (0, u "com/example/capwright/capwright/cap/ExternalMethodEqualsPinLaw"), (2, u "law"), (0, u "(IIIIIJ)Z")] 9

def k1m0 : Method := { name := "<init>", desc := "()V", sig := { parameters := [], returnType := none }, accessFlags := 1, code := none }
def k1c1 : Code := { maxStack := 5, maxLocals := 15, code := code, exceptionTable := #[], attributes := #[] }
def k1m1 : Method := { name := "law", desc := "(IIIIIJ)Z", sig := { parameters := [.int, .int, .int, .int, .int, .long], returnType := some .boolean }, accessFlags := 9, code := some k1c1 }
/-- com/example/capwright/capwright/cap/ExternalMethodEqualsPinLaw -/
def k1 : Class := { plain "com/example/capwright/capwright/cap/ExternalMethodEqualsPinLaw" (some 0) with
  accessFlags := 49
  interfaces := #[]
  cf := some (fileOf pool1 36 #[] #[{ accessFlags := 1, nameIndex := 5, descriptorIndex := 6, attributes := #[] }, { accessFlags := 9, nameIndex := 40, descriptorIndex := 41, attributes := #[] }] 49 2 #[] #[])
  fields := #[]
  methods := #[k1m0, k1m1]
  instanceTypes := #[]
  staticTypes := #[]
  resolved := Array.replicate 51 none
  statics := none }

def pool2 : Array CpInfo := pool [(1, .methodref 2 3), (0, .class_ 4), (0, .nameAndType 5 6), (0, u "java/lang/Object"), (0, u "<init>"), (0, u "()V"), (0, .class_ 8), (0, u "java/lang/Record")] 13

def k2c0 : Code := { maxStack := 1, maxLocals := 1, code := jdk_30_method_1_code, exceptionTable := #[], attributes := #[] }
def k2m0 : Method := { name := "<init>", desc := "()V", sig := { parameters := [], returnType := none }, accessFlags := 4, code := some k2c0 }
/-- java/lang/Record -/
def k2 : Class := { plain "java/lang/Record" (some 0) with
  accessFlags := 1057
  interfaces := #[]
  cf := some (fileOf pool2 7 #[] #[{ accessFlags := 4, nameIndex := 5, descriptorIndex := 6, attributes := #[] }] 1057 2 #[] #[])
  fields := #[]
  methods := #[k2m0]
  instanceTypes := #[]
  staticTypes := #[]
  resolved := Array.replicate 22 none
  statics := none }

def pool3 : Array CpInfo := pool [(1, .class_ 2), (0, u "com/example/capwright/capwright/cap/CapFile$StaticMethodRef"), (0, .class_ 4), (0, u "java/lang/Object"), (3, .class_ 9), (0, u "com/example/capwright/capwright/cap/CapFile")] 9

/-- com/example/capwright/capwright/cap/CapFile$StaticMethodRef -/
def k3 : Class := { plain "com/example/capwright/capwright/cap/CapFile$StaticMethodRef" (some 0) with
  accessFlags := 1537
  interfaces := #[]
  cf := some (fileOf pool3 1 #[.nestHost 8] #[] 1537 3 #[] #[])
  fields := #[]
  methods := #[]
  instanceTypes := #[]
  staticTypes := #[]
  resolved := Array.replicate 19 none
  statics := none }

def pool4 : Array CpInfo := pool [(1, .methodref 2 3), (0, .class_ 4), (0, .nameAndType 5 6), (0, u "java/lang/Record"), (0, u "<init>"), (0, u "()V"), (0, .fieldref 8 9), (0, .class_ 10), (0, .nameAndType 11 12), (0, u "com/example/capwright/capwright/cap/CapFile$ExternalMethod"), (0, u "packageToken"), (0, u "I"), (0, .fieldref 8 14), (0, .nameAndType 15 12), (0, u "classToken"), (0, .fieldref 8 17), (0, .nameAndType 18 12), (0, u "token"), (4, .class_ 24), (0, u "com/example/capwright/capwright/cap/CapFile$StaticMethodRef"), (0, u "(III)V"), (3, u "equals"), (0, u "(Ljava/lang/Object;)Z"), (7, .class_ 39), (0, u "com/example/capwright/capwright/cap/CapFile")] 22

def k4c0 : Code := { maxStack := 2, maxLocals := 4, code := prog_21_method_1_code, exceptionTable := #[], attributes := #[] }
def k4m0 : Method := { name := "<init>", desc := "(III)V", sig := { parameters := [.int, .int, .int], returnType := none }, accessFlags := 1, code := some k4c0 }
def k4c1 : Code := { maxStack := 2, maxLocals := 3, code := prog_21_method_2_code, exceptionTable := #[], attributes := #[] }
def k4m1 : Method := { name := "equals", desc := "(Ljava/lang/Object;)Z", sig := { parameters := [(.object "java/lang/Object")], returnType := some .boolean }, accessFlags := 1, code := some k4c1 }
/-- com/example/capwright/capwright/cap/CapFile$ExternalMethod -/
def k4 : Class := { plain "com/example/capwright/capwright/cap/CapFile$ExternalMethod" (some 2) with
  accessFlags := 49
  interfaces := #[3]
  cf := some (fileOf pool4 8 #[.nestHost 38] #[{ accessFlags := 1, nameIndex := 5, descriptorIndex := 25, attributes := #[] }, { accessFlags := 1, nameIndex := 29, descriptorIndex := 30, attributes := #[] }] 49 2 #[23] #[{ accessFlags := 18, nameIndex := 11, descriptorIndex := 12, attributes := #[] }, { accessFlags := 18, nameIndex := 15, descriptorIndex := 12, attributes := #[] }, { accessFlags := 18, nameIndex := 18, descriptorIndex := 12, attributes := #[] }])
  fields := #[{ name := "packageToken", type := .int, accessFlags := 18, slot := 0, constantValue := 0 }, { name := "classToken", type := .int, accessFlags := 18, slot := 1, constantValue := 0 }, { name := "token", type := .int, accessFlags := 18, slot := 2, constantValue := 0 }]
  methods := #[k4m0, k4m1]
  instanceTypes := #[.int, .int, .int]
  staticTypes := #[]
  resolved := Array.replicate 62 none
  statics := none }

def pool5 : Array CpInfo := pool [(1, .class_ 2), (0, u "com/example/capwright/capwright/cap/CapFile$StaticFieldRef"), (0, .class_ 4), (0, u "java/lang/Object"), (3, .class_ 9), (0, u "com/example/capwright/capwright/cap/CapFile")] 9

/-- com/example/capwright/capwright/cap/CapFile$StaticFieldRef -/
def k5 : Class := { plain "com/example/capwright/capwright/cap/CapFile$StaticFieldRef" (some 0) with
  accessFlags := 1537
  interfaces := #[]
  cf := some (fileOf pool5 1 #[.nestHost 8] #[] 1537 3 #[] #[])
  fields := #[]
  methods := #[]
  instanceTypes := #[]
  staticTypes := #[]
  resolved := Array.replicate 19 none
  statics := none }

def pool6 : Array CpInfo := pool [(1, .methodref 2 3), (0, .class_ 4), (0, .nameAndType 5 6), (0, u "java/lang/Record"), (0, u "<init>"), (0, u "()V"), (0, .fieldref 8 9), (0, .class_ 10), (0, .nameAndType 11 12), (0, u "com/example/capwright/capwright/cap/CapFile$ExternalField"), (0, u "packageToken"), (0, u "I"), (0, .fieldref 8 14), (0, .nameAndType 15 12), (0, u "classToken"), (0, .fieldref 8 17), (0, .nameAndType 18 12), (0, u "token"), (4, .class_ 24), (0, u "com/example/capwright/capwright/cap/CapFile$StaticFieldRef"), (0, u "(III)V"), (12, .class_ 39), (0, u "com/example/capwright/capwright/cap/CapFile")] 22

def k6c0 : Code := { maxStack := 2, maxLocals := 4, code := prog_20_method_1_code, exceptionTable := #[], attributes := #[] }
def k6m0 : Method := { name := "<init>", desc := "(III)V", sig := { parameters := [.int, .int, .int], returnType := none }, accessFlags := 1, code := some k6c0 }
/-- com/example/capwright/capwright/cap/CapFile$ExternalField -/
def k6 : Class := { plain "com/example/capwright/capwright/cap/CapFile$ExternalField" (some 2) with
  accessFlags := 49
  interfaces := #[5]
  cf := some (fileOf pool6 8 #[.nestHost 38] #[{ accessFlags := 1, nameIndex := 5, descriptorIndex := 25, attributes := #[] }] 49 2 #[23] #[{ accessFlags := 18, nameIndex := 11, descriptorIndex := 12, attributes := #[] }, { accessFlags := 18, nameIndex := 15, descriptorIndex := 12, attributes := #[] }, { accessFlags := 18, nameIndex := 18, descriptorIndex := 12, attributes := #[] }])
  fields := #[{ name := "packageToken", type := .int, accessFlags := 18, slot := 0, constantValue := 0 }, { name := "classToken", type := .int, accessFlags := 18, slot := 1, constantValue := 0 }, { name := "token", type := .int, accessFlags := 18, slot := 2, constantValue := 0 }]
  methods := #[k6m0]
  instanceTypes := #[.int, .int, .int]
  staticTypes := #[]
  resolved := Array.replicate 62 none
  statics := none }

def pool7 : Array CpInfo := pool [(1, .class_ 2), (0, u "java/io/Serializable"), (0, .class_ 4), (0, u "java/lang/Object")] 2

/-- java/io/Serializable -/
def k7 : Class := { plain "java/io/Serializable" (some 0) with
  accessFlags := 1537
  interfaces := #[]
  cf := some (fileOf pool7 1 #[] #[] 1537 3 #[] #[])
  fields := #[]
  methods := #[]
  instanceTypes := #[]
  staticTypes := #[]
  resolved := Array.replicate 7 none
  statics := none }

def pool8 : Array CpInfo := pool [(1, .methodref 2 3), (0, .class_ 4), (0, .nameAndType 5 6), (0, u "java/lang/Object"), (0, u "<init>"), (0, u "()V"), (1, .class_ 10), (1, u "java/lang/Number"), (2, .class_ 14), (0, u "java/io/Serializable"), (0, u "serialVersionUID"), (0, u "J")] 20

def k8c0 : Code := { maxStack := 1, maxLocals := 1, code := jdk_18_method_1_code, exceptionTable := #[], attributes := #[] }
def k8m0 : Method := { name := "<init>", desc := "()V", sig := { parameters := [], returnType := none }, accessFlags := 1, code := some k8c0 }
/-- java/lang/Number -/
def k8 : Class := { plain "java/lang/Number" (some 0) with
  accessFlags := 1057
  interfaces := #[7]
  cf := some (fileOf pool8 8 #[] #[{ accessFlags := 1, nameIndex := 5, descriptorIndex := 6, attributes := #[] }] 1057 2 #[13] #[{ accessFlags := 26, nameIndex := 15, descriptorIndex := 16, attributes := #[] }])
  fields := #[{ name := "serialVersionUID", type := .long, accessFlags := 26, slot := 0, constantValue := 0 }]
  methods := #[k8m0]
  instanceTypes := #[]
  staticTypes := #[.long]
  resolved := Array.replicate 37 none
  statics := none }

def pool9 : Array CpInfo := pool [(1, .class_ 2), (0, u "java/lang/Comparable"), (0, .class_ 4), (0, u "java/lang/Object")] 7

/-- java/lang/Comparable -/
def k9 : Class := { plain "java/lang/Comparable" (some 0) with
  accessFlags := 1537
  interfaces := #[]
  cf := some (fileOf pool9 1 #[] #[] 1537 3 #[] #[])
  fields := #[]
  methods := #[]
  instanceTypes := #[]
  staticTypes := #[]
  resolved := Array.replicate 12 none
  statics := none }

def pool10 : Array CpInfo := pool [(1, .class_ 2), (0, u "java/lang/constant/Constable"), (0, .class_ 4), (0, u "java/lang/Object")] 6

/-- java/lang/constant/Constable -/
def k10 : Class := { plain "java/lang/constant/Constable" (some 0) with
  accessFlags := 1537
  interfaces := #[]
  cf := some (fileOf pool10 1 #[] #[] 1537 3 #[] #[])
  fields := #[]
  methods := #[]
  instanceTypes := #[]
  staticTypes := #[]
  resolved := Array.replicate 11 none
  statics := none }

def pool11 : Array CpInfo := pool [(1, .class_ 2), (0, u "java/lang/constant/ConstantDesc"), (0, .class_ 4), (0, u "java/lang/Object")] 32

/-- java/lang/constant/ConstantDesc -/
def k11 : Class := { plain "java/lang/constant/ConstantDesc" (some 0) with
  accessFlags := 1537
  interfaces := #[]
  cf := some (fileOf pool11 1 #[] #[] 1537 3 #[] #[])
  fields := #[]
  methods := #[]
  instanceTypes := #[]
  staticTypes := #[]
  resolved := Array.replicate 37 none
  statics := none }

def pool12 : Array CpInfo := pool [(1, .class_ 2), (0, u "java/lang/Integer"), (16, u "digits"), (0, u "[C"), (46, u "<init>"), (17, u "DigitOnes"), (0, u "[B"), (2, u "DigitTens"), (10, .nameAndType 67 101), (0, u "()V"), (85, u "valueOf"), (0, u "(I)Ljava/lang/Integer;"), (0, .class_ 190), (0, u "java/lang/Integer$IntegerCache"), (0, .fieldref 189 192), (0, .nameAndType 193 194), (0, u "high"), (0, u "I"), (0, .fieldref 189 196), (0, .nameAndType 197 198), (0, u "cache"), (0, u "[Ljava/lang/Integer;"), (0, .methodref 1 200), (0, .nameAndType 67 201), (0, u "(I)V"), (0, .methodref 203 100), (0, .class_ 204), (0, u "java/lang/Number"), (0, .fieldref 1 206), (0, .nameAndType 207 194), (0, u "value"), (94, u "TYPE"), (0, u "Ljava/lang/Class;"), (0, .class_ 305), (0, u "java/lang/Comparable"), (0, .class_ 307), (0, u "java/lang/constant/Constable"), (0, .class_ 309), (0, u "java/lang/constant/ConstantDesc"), (0, u "MIN_VALUE"), (1, u "MAX_VALUE"), (3, u "SIZE"), (1, u "BYTES"), (1, u "serialVersionUID"), (0, u "J")] 131

def k12c0 : Code := { maxStack := 3, maxLocals := 1, code := jdk_33_method_22_code, exceptionTable := #[], attributes := #[] }
def k12m0 : Method := { name := "valueOf", desc := "(I)Ljava/lang/Integer;", sig := { parameters := [.int], returnType := some (.object "java/lang/Integer") }, accessFlags := 9, code := some k12c0 }
def k12c1 : Code := { maxStack := 2, maxLocals := 2, code := jdk_33_method_23_code, exceptionTable := #[], attributes := #[] }
def k12m1 : Method := { name := "<init>", desc := "(I)V", sig := { parameters := [.int], returnType := none }, accessFlags := 1, code := some k12c1 }
/-- java/lang/Integer -/
def k12 : Class := { plain "java/lang/Integer" (some 8) with
  accessFlags := 49
  interfaces := #[9, 10, 11]
  cf := some (fileOf pool12 1 #[.nestMembers #[189]] #[{ accessFlags := 9, nameIndex := 187, descriptorIndex := 188, attributes := #[] }, { accessFlags := 1, nameIndex := 67, descriptorIndex := 201, attributes := #[] }] 49 203 #[304, 306, 308] #[{ accessFlags := 25, nameIndex := 310, descriptorIndex := 194, attributes := #[] }, { accessFlags := 25, nameIndex := 312, descriptorIndex := 194, attributes := #[] }, { accessFlags := 25, nameIndex := 302, descriptorIndex := 303, attributes := #[] }, { accessFlags := 24, nameIndex := 19, descriptorIndex := 20, attributes := #[] }, { accessFlags := 24, nameIndex := 89, descriptorIndex := 86, attributes := #[] }, { accessFlags := 24, nameIndex := 85, descriptorIndex := 86, attributes := #[] }, { accessFlags := 18, nameIndex := 207, descriptorIndex := 194, attributes := #[] }, { accessFlags := 25, nameIndex := 316, descriptorIndex := 194, attributes := #[] }, { accessFlags := 25, nameIndex := 318, descriptorIndex := 194, attributes := #[] }, { accessFlags := 26, nameIndex := 320, descriptorIndex := 321, attributes := #[] }])
  fields := #[{ name := "MIN_VALUE", type := .int, accessFlags := 25, slot := 0, constantValue := 0 }, { name := "MAX_VALUE", type := .int, accessFlags := 25, slot := 1, constantValue := 0 }, { name := "TYPE", type := (.object "java/lang/Class"), accessFlags := 25, slot := 2, constantValue := 0 }, { name := "digits", type := (.array .char), accessFlags := 24, slot := 3, constantValue := 0 }, { name := "DigitTens", type := (.array .byte), accessFlags := 24, slot := 4, constantValue := 0 }, { name := "DigitOnes", type := (.array .byte), accessFlags := 24, slot := 5, constantValue := 0 }, { name := "value", type := .int, accessFlags := 18, slot := 0, constantValue := 0 }, { name := "SIZE", type := .int, accessFlags := 25, slot := 6, constantValue := 0 }, { name := "BYTES", type := .int, accessFlags := 25, slot := 7, constantValue := 0 }, { name := "serialVersionUID", type := .long, accessFlags := 26, slot := 8, constantValue := 0 }]
  methods := #[k12m0, k12m1]
  instanceTypes := #[.int]
  staticTypes := #[.int, .int, (.object "java/lang/Class"), (.array .char), (.array .byte), (.array .byte), .int, .int, .long]
  resolved := Array.replicate 453 none
  statics := none }

def pool13 : Array CpInfo := pool [(2, .class_ 4), (1, u "java/lang/Object"), (0, u "<init>"), (0, u "()V"), (0, .class_ 8), (0, u "java/lang/Integer"), (7, .class_ 18), (1, u "java/lang/Integer$IntegerCache"), (0, u "$assertionsDisabled"), (0, u "Z"), (26, u "high"), (0, u "I"), (8, u "archivedCache"), (0, u "[Ljava/lang/Integer;"), (12, u "cache"), (0, u "low")] 27

def k13m0 : Method := { name := "<init>", desc := "()V", sig := { parameters := [], returnType := none }, accessFlags := 2, code := none }
/-- java/lang/Integer$IntegerCache -/
def k13 : Class := { plain "java/lang/Integer$IntegerCache" (some 0) with
  accessFlags := 48
  interfaces := #[]
  cf := some (fileOf pool13 16 #[.nestHost 7] #[{ accessFlags := 2, nameIndex := 5, descriptorIndex := 6, attributes := #[] }] 48 2 #[] #[{ accessFlags := 24, nameIndex := 72, descriptorIndex := 48, attributes := #[] }, { accessFlags := 24, nameIndex := 47, descriptorIndex := 48, attributes := #[] }, { accessFlags := 24, nameIndex := 71, descriptorIndex := 58, attributes := #[] }, { accessFlags := 8, nameIndex := 57, descriptorIndex := 58, attributes := #[] }, { accessFlags := 4120, nameIndex := 19, descriptorIndex := 20, attributes := #[] }])
  fields := #[{ name := "low", type := .int, accessFlags := 24, slot := 0, constantValue := 0 }, { name := "high", type := .int, accessFlags := 24, slot := 1, constantValue := 0 }, { name := "cache", type := (.array (.object "java/lang/Integer")), accessFlags := 24, slot := 2, constantValue := 0 }, { name := "archivedCache", type := (.array (.object "java/lang/Integer")), accessFlags := 8, slot := 3, constantValue := 0 }, { name := "$assertionsDisabled", type := .boolean, accessFlags := 4120, slot := 4, constantValue := 0 }]
  methods := #[k13m0]
  instanceTypes := #[]
  staticTypes := #[.int, .int, (.array (.object "java/lang/Integer")), (.array (.object "java/lang/Integer")), .boolean]
  resolved := Array.replicate 100 none
  statics := some 0 }

def pool14 : Array CpInfo := pool [(1, .methodref 2 3), (0, .class_ 4), (0, .nameAndType 5 6), (0, u "java/lang/Record"), (0, u "<init>"), (0, u "()V"), (0, .fieldref 8 9), (0, .class_ 10), (0, .nameAndType 11 12), (0, u "com/example/capwright/capwright/cap/CapFile$InternalMethod"), (0, u "methodIndex"), (0, u "I"), (4, .class_ 18), (0, u "com/example/capwright/capwright/cap/CapFile$StaticMethodRef"), (0, u "(I)V"), (12, .class_ 33), (0, u "com/example/capwright/capwright/cap/CapFile")] 19

def k14c0 : Code := { maxStack := 2, maxLocals := 2, code := prog_27_method_1_code, exceptionTable := #[], attributes := #[] }
def k14m0 : Method := { name := "<init>", desc := "(I)V", sig := { parameters := [.int], returnType := none }, accessFlags := 1, code := some k14c0 }
/-- com/example/capwright/capwright/cap/CapFile$InternalMethod -/
def k14 : Class := { plain "com/example/capwright/capwright/cap/CapFile$InternalMethod" (some 2) with
  accessFlags := 49
  interfaces := #[3]
  cf := some (fileOf pool14 8 #[.nestHost 32] #[{ accessFlags := 1, nameIndex := 5, descriptorIndex := 19, attributes := #[] }] 49 2 #[17] #[{ accessFlags := 18, nameIndex := 11, descriptorIndex := 12, attributes := #[] }])
  fields := #[{ name := "methodIndex", type := .int, accessFlags := 18, slot := 0, constantValue := 0 }]
  methods := #[k14m0]
  instanceTypes := #[.int]
  staticTypes := #[]
  resolved := Array.replicate 53 none
  statics := none }

def pool15 : Array CpInfo := pool [(1, u "java/lang/Cloneable"), (0, .class_ 1), (0, u "java/lang/Object"), (0, .class_ 3)] 3

/-- java/lang/Cloneable -/
def k15 : Class := { plain "java/lang/Cloneable" (some 0) with
  accessFlags := 1537
  interfaces := #[]
  cf := some (fileOf pool15 2 #[] #[] 1537 4 #[] #[])
  fields := #[]
  methods := #[]
  instanceTypes := #[]
  staticTypes := #[]
  resolved := Array.replicate 8 none
  statics := none }

/-- the primitive byte -/
def k16 : Class := { plain "byte" none with kind := .primitive 'B', accessFlags := 0x411 }
/-- [B -/
def k17 : Class := { plain "[B" (some 0) with kind := .array 16 .byte, interfaces := #[15, 7], accessFlags := 1041 }

/-- the primitive int -/
def k18 : Class := { plain "int" none with kind := .primitive 'I', accessFlags := 0x411 }
/-- [I -/
def k19 : Class := { plain "[I" (some 0) with kind := .array 18 .int, interfaces := #[15, 7], accessFlags := 1041 }

/-- [Ljava/lang/Integer; -/
def k20 : Class := { plain "[Ljava/lang/Integer;" (some 0) with kind := .array 12 (.object "java/lang/Integer"), interfaces := #[15, 7], accessFlags := 1041 }

def heap : Heap := #[{ cls := 13, slots := #[.int 0, .int 127, .ref 1, .null, .int 0], vm := .statics 13 },
  { cls := 20, slots := #[.ref 2, .ref 3, .ref 4, .ref 5, .ref 6, .ref 7, .ref 8, .ref 9, .ref 10, .ref 11, .ref 12, .ref 13, .ref 14, .ref 15, .ref 16, .ref 17, .ref 18, .ref 19, .ref 20, .ref 21, .ref 22, .ref 23, .ref 24, .ref 25, .ref 26, .ref 27, .ref 28, .ref 29, .ref 30, .ref 31, .ref 32, .ref 33, .ref 34, .ref 35, .ref 36, .ref 37, .ref 38, .ref 39, .ref 40, .ref 41, .ref 42, .ref 43, .ref 44, .ref 45, .ref 46, .ref 47, .ref 48, .ref 49, .ref 50, .ref 51, .ref 52, .ref 53, .ref 54, .ref 55, .ref 56, .ref 57, .ref 58, .ref 59, .ref 60, .ref 61, .ref 62, .ref 63, .ref 64, .ref 65, .ref 66, .ref 67, .ref 68, .ref 69, .ref 70, .ref 71, .ref 72, .ref 73, .ref 74, .ref 75, .ref 76, .ref 77, .ref 78, .ref 79, .ref 80, .ref 81, .ref 82, .ref 83, .ref 84, .ref 85, .ref 86, .ref 87, .ref 88, .ref 89, .ref 90, .ref 91, .ref 92, .ref 93, .ref 94, .ref 95, .ref 96, .ref 97, .ref 98, .ref 99, .ref 100, .ref 101, .ref 102, .ref 103, .ref 104, .ref 105, .ref 106, .ref 107, .ref 108, .ref 109, .ref 110, .ref 111, .ref 112, .ref 113, .ref 114, .ref 115, .ref 116, .ref 117, .ref 118, .ref 119, .ref 120, .ref 121, .ref 122, .ref 123, .ref 124, .ref 125, .ref 126, .ref 127, .ref 128, .ref 129, .ref 130, .ref 131, .ref 132, .ref 133, .ref 134, .ref 135, .ref 136, .ref 137, .ref 138, .ref 139, .ref 140, .ref 141, .ref 142, .ref 143, .ref 144, .ref 145, .ref 146, .ref 147, .ref 148, .ref 149, .ref 150, .ref 151, .ref 152, .ref 153, .ref 154, .ref 155, .ref 156, .ref 157, .ref 158, .ref 159, .ref 160, .ref 161, .ref 162, .ref 163, .ref 164, .ref 165, .ref 166, .ref 167, .ref 168, .ref 169, .ref 170, .ref 171, .ref 172, .ref 173, .ref 174, .ref 175, .ref 176, .ref 177, .ref 178, .ref 179, .ref 180, .ref 181, .ref 182, .ref 183, .ref 184, .ref 185, .ref 186, .ref 187, .ref 188, .ref 189, .ref 190, .ref 191, .ref 192, .ref 193, .ref 194, .ref 195, .ref 196, .ref 197, .ref 198, .ref 199, .ref 200, .ref 201, .ref 202, .ref 203, .ref 204, .ref 205, .ref 206, .ref 207, .ref 208, .ref 209, .ref 210, .ref 211, .ref 212, .ref 213, .ref 214, .ref 215, .ref 216, .ref 217, .ref 218, .ref 219, .ref 220, .ref 221, .ref 222, .ref 223, .ref 224, .ref 225, .ref 226, .ref 227, .ref 228, .ref 229, .ref 230, .ref 231, .ref 232, .ref 233, .ref 234, .ref 235, .ref 236, .ref 237, .ref 238, .ref 239, .ref 240, .ref 241, .ref 242, .ref 243, .ref 244, .ref 245, .ref 246, .ref 247, .ref 248, .ref 249, .ref 250, .ref 251, .ref 252, .ref 253, .ref 254, .ref 255, .ref 256, .ref 257], vm := .none },
  { cls := 12, slots := #[.int (-128)], vm := .none },
  { cls := 12, slots := #[.int (-127)], vm := .none },
  { cls := 12, slots := #[.int (-126)], vm := .none },
  { cls := 12, slots := #[.int (-125)], vm := .none },
  { cls := 12, slots := #[.int (-124)], vm := .none },
  { cls := 12, slots := #[.int (-123)], vm := .none },
  { cls := 12, slots := #[.int (-122)], vm := .none },
  { cls := 12, slots := #[.int (-121)], vm := .none },
  { cls := 12, slots := #[.int (-120)], vm := .none },
  { cls := 12, slots := #[.int (-119)], vm := .none },
  { cls := 12, slots := #[.int (-118)], vm := .none },
  { cls := 12, slots := #[.int (-117)], vm := .none },
  { cls := 12, slots := #[.int (-116)], vm := .none },
  { cls := 12, slots := #[.int (-115)], vm := .none },
  { cls := 12, slots := #[.int (-114)], vm := .none },
  { cls := 12, slots := #[.int (-113)], vm := .none },
  { cls := 12, slots := #[.int (-112)], vm := .none },
  { cls := 12, slots := #[.int (-111)], vm := .none },
  { cls := 12, slots := #[.int (-110)], vm := .none },
  { cls := 12, slots := #[.int (-109)], vm := .none },
  { cls := 12, slots := #[.int (-108)], vm := .none },
  { cls := 12, slots := #[.int (-107)], vm := .none },
  { cls := 12, slots := #[.int (-106)], vm := .none },
  { cls := 12, slots := #[.int (-105)], vm := .none },
  { cls := 12, slots := #[.int (-104)], vm := .none },
  { cls := 12, slots := #[.int (-103)], vm := .none },
  { cls := 12, slots := #[.int (-102)], vm := .none },
  { cls := 12, slots := #[.int (-101)], vm := .none },
  { cls := 12, slots := #[.int (-100)], vm := .none },
  { cls := 12, slots := #[.int (-99)], vm := .none },
  { cls := 12, slots := #[.int (-98)], vm := .none },
  { cls := 12, slots := #[.int (-97)], vm := .none },
  { cls := 12, slots := #[.int (-96)], vm := .none },
  { cls := 12, slots := #[.int (-95)], vm := .none },
  { cls := 12, slots := #[.int (-94)], vm := .none },
  { cls := 12, slots := #[.int (-93)], vm := .none },
  { cls := 12, slots := #[.int (-92)], vm := .none },
  { cls := 12, slots := #[.int (-91)], vm := .none },
  { cls := 12, slots := #[.int (-90)], vm := .none },
  { cls := 12, slots := #[.int (-89)], vm := .none },
  { cls := 12, slots := #[.int (-88)], vm := .none },
  { cls := 12, slots := #[.int (-87)], vm := .none },
  { cls := 12, slots := #[.int (-86)], vm := .none },
  { cls := 12, slots := #[.int (-85)], vm := .none },
  { cls := 12, slots := #[.int (-84)], vm := .none },
  { cls := 12, slots := #[.int (-83)], vm := .none },
  { cls := 12, slots := #[.int (-82)], vm := .none },
  { cls := 12, slots := #[.int (-81)], vm := .none },
  { cls := 12, slots := #[.int (-80)], vm := .none },
  { cls := 12, slots := #[.int (-79)], vm := .none },
  { cls := 12, slots := #[.int (-78)], vm := .none },
  { cls := 12, slots := #[.int (-77)], vm := .none },
  { cls := 12, slots := #[.int (-76)], vm := .none },
  { cls := 12, slots := #[.int (-75)], vm := .none },
  { cls := 12, slots := #[.int (-74)], vm := .none },
  { cls := 12, slots := #[.int (-73)], vm := .none },
  { cls := 12, slots := #[.int (-72)], vm := .none },
  { cls := 12, slots := #[.int (-71)], vm := .none },
  { cls := 12, slots := #[.int (-70)], vm := .none },
  { cls := 12, slots := #[.int (-69)], vm := .none },
  { cls := 12, slots := #[.int (-68)], vm := .none },
  { cls := 12, slots := #[.int (-67)], vm := .none },
  { cls := 12, slots := #[.int (-66)], vm := .none },
  { cls := 12, slots := #[.int (-65)], vm := .none },
  { cls := 12, slots := #[.int (-64)], vm := .none },
  { cls := 12, slots := #[.int (-63)], vm := .none },
  { cls := 12, slots := #[.int (-62)], vm := .none },
  { cls := 12, slots := #[.int (-61)], vm := .none },
  { cls := 12, slots := #[.int (-60)], vm := .none },
  { cls := 12, slots := #[.int (-59)], vm := .none },
  { cls := 12, slots := #[.int (-58)], vm := .none },
  { cls := 12, slots := #[.int (-57)], vm := .none },
  { cls := 12, slots := #[.int (-56)], vm := .none },
  { cls := 12, slots := #[.int (-55)], vm := .none },
  { cls := 12, slots := #[.int (-54)], vm := .none },
  { cls := 12, slots := #[.int (-53)], vm := .none },
  { cls := 12, slots := #[.int (-52)], vm := .none },
  { cls := 12, slots := #[.int (-51)], vm := .none },
  { cls := 12, slots := #[.int (-50)], vm := .none },
  { cls := 12, slots := #[.int (-49)], vm := .none },
  { cls := 12, slots := #[.int (-48)], vm := .none },
  { cls := 12, slots := #[.int (-47)], vm := .none },
  { cls := 12, slots := #[.int (-46)], vm := .none },
  { cls := 12, slots := #[.int (-45)], vm := .none },
  { cls := 12, slots := #[.int (-44)], vm := .none },
  { cls := 12, slots := #[.int (-43)], vm := .none },
  { cls := 12, slots := #[.int (-42)], vm := .none },
  { cls := 12, slots := #[.int (-41)], vm := .none },
  { cls := 12, slots := #[.int (-40)], vm := .none },
  { cls := 12, slots := #[.int (-39)], vm := .none },
  { cls := 12, slots := #[.int (-38)], vm := .none },
  { cls := 12, slots := #[.int (-37)], vm := .none },
  { cls := 12, slots := #[.int (-36)], vm := .none },
  { cls := 12, slots := #[.int (-35)], vm := .none },
  { cls := 12, slots := #[.int (-34)], vm := .none },
  { cls := 12, slots := #[.int (-33)], vm := .none },
  { cls := 12, slots := #[.int (-32)], vm := .none },
  { cls := 12, slots := #[.int (-31)], vm := .none },
  { cls := 12, slots := #[.int (-30)], vm := .none },
  { cls := 12, slots := #[.int (-29)], vm := .none },
  { cls := 12, slots := #[.int (-28)], vm := .none },
  { cls := 12, slots := #[.int (-27)], vm := .none },
  { cls := 12, slots := #[.int (-26)], vm := .none },
  { cls := 12, slots := #[.int (-25)], vm := .none },
  { cls := 12, slots := #[.int (-24)], vm := .none },
  { cls := 12, slots := #[.int (-23)], vm := .none },
  { cls := 12, slots := #[.int (-22)], vm := .none },
  { cls := 12, slots := #[.int (-21)], vm := .none },
  { cls := 12, slots := #[.int (-20)], vm := .none },
  { cls := 12, slots := #[.int (-19)], vm := .none },
  { cls := 12, slots := #[.int (-18)], vm := .none },
  { cls := 12, slots := #[.int (-17)], vm := .none },
  { cls := 12, slots := #[.int (-16)], vm := .none },
  { cls := 12, slots := #[.int (-15)], vm := .none },
  { cls := 12, slots := #[.int (-14)], vm := .none },
  { cls := 12, slots := #[.int (-13)], vm := .none },
  { cls := 12, slots := #[.int (-12)], vm := .none },
  { cls := 12, slots := #[.int (-11)], vm := .none },
  { cls := 12, slots := #[.int (-10)], vm := .none },
  { cls := 12, slots := #[.int (-9)], vm := .none },
  { cls := 12, slots := #[.int (-8)], vm := .none },
  { cls := 12, slots := #[.int (-7)], vm := .none },
  { cls := 12, slots := #[.int (-6)], vm := .none },
  { cls := 12, slots := #[.int (-5)], vm := .none },
  { cls := 12, slots := #[.int (-4)], vm := .none },
  { cls := 12, slots := #[.int (-3)], vm := .none },
  { cls := 12, slots := #[.int (-2)], vm := .none },
  { cls := 12, slots := #[.int (-1)], vm := .none },
  { cls := 12, slots := #[.int (0)], vm := .none },
  { cls := 12, slots := #[.int (1)], vm := .none },
  { cls := 12, slots := #[.int (2)], vm := .none },
  { cls := 12, slots := #[.int (3)], vm := .none },
  { cls := 12, slots := #[.int (4)], vm := .none },
  { cls := 12, slots := #[.int (5)], vm := .none },
  { cls := 12, slots := #[.int (6)], vm := .none },
  { cls := 12, slots := #[.int (7)], vm := .none },
  { cls := 12, slots := #[.int (8)], vm := .none },
  { cls := 12, slots := #[.int (9)], vm := .none },
  { cls := 12, slots := #[.int (10)], vm := .none },
  { cls := 12, slots := #[.int (11)], vm := .none },
  { cls := 12, slots := #[.int (12)], vm := .none },
  { cls := 12, slots := #[.int (13)], vm := .none },
  { cls := 12, slots := #[.int (14)], vm := .none },
  { cls := 12, slots := #[.int (15)], vm := .none },
  { cls := 12, slots := #[.int (16)], vm := .none },
  { cls := 12, slots := #[.int (17)], vm := .none },
  { cls := 12, slots := #[.int (18)], vm := .none },
  { cls := 12, slots := #[.int (19)], vm := .none },
  { cls := 12, slots := #[.int (20)], vm := .none },
  { cls := 12, slots := #[.int (21)], vm := .none },
  { cls := 12, slots := #[.int (22)], vm := .none },
  { cls := 12, slots := #[.int (23)], vm := .none },
  { cls := 12, slots := #[.int (24)], vm := .none },
  { cls := 12, slots := #[.int (25)], vm := .none },
  { cls := 12, slots := #[.int (26)], vm := .none },
  { cls := 12, slots := #[.int (27)], vm := .none },
  { cls := 12, slots := #[.int (28)], vm := .none },
  { cls := 12, slots := #[.int (29)], vm := .none },
  { cls := 12, slots := #[.int (30)], vm := .none },
  { cls := 12, slots := #[.int (31)], vm := .none },
  { cls := 12, slots := #[.int (32)], vm := .none },
  { cls := 12, slots := #[.int (33)], vm := .none },
  { cls := 12, slots := #[.int (34)], vm := .none },
  { cls := 12, slots := #[.int (35)], vm := .none },
  { cls := 12, slots := #[.int (36)], vm := .none },
  { cls := 12, slots := #[.int (37)], vm := .none },
  { cls := 12, slots := #[.int (38)], vm := .none },
  { cls := 12, slots := #[.int (39)], vm := .none },
  { cls := 12, slots := #[.int (40)], vm := .none },
  { cls := 12, slots := #[.int (41)], vm := .none },
  { cls := 12, slots := #[.int (42)], vm := .none },
  { cls := 12, slots := #[.int (43)], vm := .none },
  { cls := 12, slots := #[.int (44)], vm := .none },
  { cls := 12, slots := #[.int (45)], vm := .none },
  { cls := 12, slots := #[.int (46)], vm := .none },
  { cls := 12, slots := #[.int (47)], vm := .none },
  { cls := 12, slots := #[.int (48)], vm := .none },
  { cls := 12, slots := #[.int (49)], vm := .none },
  { cls := 12, slots := #[.int (50)], vm := .none },
  { cls := 12, slots := #[.int (51)], vm := .none },
  { cls := 12, slots := #[.int (52)], vm := .none },
  { cls := 12, slots := #[.int (53)], vm := .none },
  { cls := 12, slots := #[.int (54)], vm := .none },
  { cls := 12, slots := #[.int (55)], vm := .none },
  { cls := 12, slots := #[.int (56)], vm := .none },
  { cls := 12, slots := #[.int (57)], vm := .none },
  { cls := 12, slots := #[.int (58)], vm := .none },
  { cls := 12, slots := #[.int (59)], vm := .none },
  { cls := 12, slots := #[.int (60)], vm := .none },
  { cls := 12, slots := #[.int (61)], vm := .none },
  { cls := 12, slots := #[.int (62)], vm := .none },
  { cls := 12, slots := #[.int (63)], vm := .none },
  { cls := 12, slots := #[.int (64)], vm := .none },
  { cls := 12, slots := #[.int (65)], vm := .none },
  { cls := 12, slots := #[.int (66)], vm := .none },
  { cls := 12, slots := #[.int (67)], vm := .none },
  { cls := 12, slots := #[.int (68)], vm := .none },
  { cls := 12, slots := #[.int (69)], vm := .none },
  { cls := 12, slots := #[.int (70)], vm := .none },
  { cls := 12, slots := #[.int (71)], vm := .none },
  { cls := 12, slots := #[.int (72)], vm := .none },
  { cls := 12, slots := #[.int (73)], vm := .none },
  { cls := 12, slots := #[.int (74)], vm := .none },
  { cls := 12, slots := #[.int (75)], vm := .none },
  { cls := 12, slots := #[.int (76)], vm := .none },
  { cls := 12, slots := #[.int (77)], vm := .none },
  { cls := 12, slots := #[.int (78)], vm := .none },
  { cls := 12, slots := #[.int (79)], vm := .none },
  { cls := 12, slots := #[.int (80)], vm := .none },
  { cls := 12, slots := #[.int (81)], vm := .none },
  { cls := 12, slots := #[.int (82)], vm := .none },
  { cls := 12, slots := #[.int (83)], vm := .none },
  { cls := 12, slots := #[.int (84)], vm := .none },
  { cls := 12, slots := #[.int (85)], vm := .none },
  { cls := 12, slots := #[.int (86)], vm := .none },
  { cls := 12, slots := #[.int (87)], vm := .none },
  { cls := 12, slots := #[.int (88)], vm := .none },
  { cls := 12, slots := #[.int (89)], vm := .none },
  { cls := 12, slots := #[.int (90)], vm := .none },
  { cls := 12, slots := #[.int (91)], vm := .none },
  { cls := 12, slots := #[.int (92)], vm := .none },
  { cls := 12, slots := #[.int (93)], vm := .none },
  { cls := 12, slots := #[.int (94)], vm := .none },
  { cls := 12, slots := #[.int (95)], vm := .none },
  { cls := 12, slots := #[.int (96)], vm := .none },
  { cls := 12, slots := #[.int (97)], vm := .none },
  { cls := 12, slots := #[.int (98)], vm := .none },
  { cls := 12, slots := #[.int (99)], vm := .none },
  { cls := 12, slots := #[.int (100)], vm := .none },
  { cls := 12, slots := #[.int (101)], vm := .none },
  { cls := 12, slots := #[.int (102)], vm := .none },
  { cls := 12, slots := #[.int (103)], vm := .none },
  { cls := 12, slots := #[.int (104)], vm := .none },
  { cls := 12, slots := #[.int (105)], vm := .none },
  { cls := 12, slots := #[.int (106)], vm := .none },
  { cls := 12, slots := #[.int (107)], vm := .none },
  { cls := 12, slots := #[.int (108)], vm := .none },
  { cls := 12, slots := #[.int (109)], vm := .none },
  { cls := 12, slots := #[.int (110)], vm := .none },
  { cls := 12, slots := #[.int (111)], vm := .none },
  { cls := 12, slots := #[.int (112)], vm := .none },
  { cls := 12, slots := #[.int (113)], vm := .none },
  { cls := 12, slots := #[.int (114)], vm := .none },
  { cls := 12, slots := #[.int (115)], vm := .none },
  { cls := 12, slots := #[.int (116)], vm := .none },
  { cls := 12, slots := #[.int (117)], vm := .none },
  { cls := 12, slots := #[.int (118)], vm := .none },
  { cls := 12, slots := #[.int (119)], vm := .none },
  { cls := 12, slots := #[.int (120)], vm := .none },
  { cls := 12, slots := #[.int (121)], vm := .none },
  { cls := 12, slots := #[.int (122)], vm := .none },
  { cls := 12, slots := #[.int (123)], vm := .none },
  { cls := 12, slots := #[.int (124)], vm := .none },
  { cls := 12, slots := #[.int (125)], vm := .none },
  { cls := 12, slots := #[.int (126)], vm := .none },
  { cls := 12, slots := #[.int (127)], vm := .none }]
def classes : Array Class := #[k0, k1, k2, k3, k4, k5, k6, k7, k8, k9, k10, k11, k12, k13, k14, k15, k16, k17, k18, k19, k20]
def interned : List (Array UInt16 × Addr) := []
def slotsUsed : Nat := 517
def theMethod : MethodId := ⟨1, 1⟩
def args0 : Array Value := #[.int 5, .int 6, .int 7, .int 8, .int 9, .long 3]
def aboutOver (below : List Frame) : State where
  vm := { classes := classes, interned := interned.toArray }
  heap := heap
  slotsUsed := slotsUsed
  threads := #[{ frames := .invoking theMethod args0 :: below }]
def below0 : List Frame := [.native { method := ⟨0, 0⟩, args := #[] }]
def about1 : State := aboutOver below0
def p0 : Program := .bare "" "" ""
def e0 : Env := launch0.env 0 0 0
theorem w_frames : about1.frames = Frame.invoking theMethod args0 :: below0 := rfl
set_option maxRecDepth 65536 in
theorem w_args : argsFit about1.vm theMethod args0 = true := by decide +kernel
set_option maxRecDepth 65536 in
theorem w_heap : heapFits about1 = true := by decide +kernel
set_option maxRecDepth 65536 in
theorem w_runnable : about1.curStatus? = some .runnable := by decide +kernel
set_option maxRecDepth 65536 in
theorem w_alone : about1.alone = true := by decide +kernel
set_option maxRecDepth 65536 in
theorem w_named : about1.methodNamed? x = some theMethod := by decide +kernel
set_option maxRecDepth 65536 in
theorem w_hears : about1.hears theMethod below0 = true := by decide +kernel
set_option maxRecDepth 65536 in
theorem w_ripe : about1.ripe theMethod args0 below0 = true := by decide +kernel
theorem w_running : about1.status = .running := rfl
set_option maxRecDepth 65536 in
theorem w_room : about1.hasRoom e0.platform room_1 = true :=
  launch0.hasRoom_least _ room_1 (by decide +kernel) (by decide +kernel) (by decide +kernel) (by decide +kernel) (by decide +kernel) (by decide +kernel)
theorem allAtoms_all (ts : List Jvm.Cond) (a : Array Jvm.Value) (st : Jvm.State) : (allAtoms ts).before a st = ts.all (fun c => c.before a st) := by
  induction ts with
  | nil => rfl
  | cons c t ih =>
    show (Jvm.Cond.and c (allAtoms t)).before a st = _
    rw [Jvm.Cond.before_and, ih, List.all_cons]
def words1 : List Jvm.Cond := Jvm.Cond.code x code maxLocals ret :: tables_1
/-- a 'code' word, met by the world's own term for the bytes: nothing is compared byte by byte -/
theorem code_word {y : MethodName} {bytes : ByteArray} {mx : Nat} {rt : Option FieldType} {a : Array Value} {s : State} {m : MethodId} {meth : Method} {c : Code} (h1 : s.methodNamed? y = some m) (h2 : s.vm.method? m = some meth) (h3 : meth.code = some c) (h4 : c.code = bytes)
    (h5 : (c.maxLocals == mx && c.exceptionTable.isEmpty && decide (c.maxStack ≤ mostOperands) && decide (meth.sig.returnType = rt) && !meth.locks && decide (parseMethodDescriptor y.desc = some meth.sig)) = true) : (Jvm.Cond.code y bytes mx rt).before a s = true := by
  simp only [Bool.and_eq_true, beq_iff_eq, Bool.not_eq_true', decide_eq_true_eq] at h5
  obtain ⟨⟨⟨⟨⟨g1, g2⟩, g3⟩, g4⟩, g5⟩, g6⟩ := h5
  simp [Cond.before, Cond.holds, Cond.value, h1, h2, h3, h4, g1, g2, g3, g4, g5, g6]
def isCode : Jvm.Cond → Bool
  | .code _ _ _ _ => true
  | _ => false
theorem all_split {L : List Jvm.Cond} {P : Jvm.Cond → Bool} (h1 : L.all (fun c => isCode c || P c) = true) (h2 : ∀ c ∈ L.filter isCode, P c = true) : L.all P = true := by
  refine List.all_eq_true.mpr fun c hc => ?_
  have h := List.all_eq_true.mp h1 c hc
  rcases Bool.eq_false_or_eq_true (isCode c) with hi | hi
  · exact h2 c (List.mem_filter.mpr ⟨hc, hi⟩)
  · simpa [hi] using h
set_option maxRecDepth 65536 in
theorem w_c0 : (Jvm.Cond.code x code maxLocals ret).before args0 about1 = true := code_word (m := ⟨1, 1⟩) (meth := k1m1) (c := k1c1) (by decide +kernel) rfl rfl rfl (by decide +kernel)
set_option maxRecDepth 65536 in
theorem w_c1 : (Jvm.Cond.code ({ cls := "com/example/capwright/capwright/cap/CapFile$ExternalMethod", name := "<init>", desc := "(III)V" } : Jvm.MethodName) prog_21_method_1_code (4 : Nat) (Option.none : Option Jvm.ClassFile.FieldType)).before args0 about1 = true := code_word (m := ⟨4, 0⟩) (meth := k4m0) (c := k4c0) (by decide +kernel) rfl rfl rfl (by decide +kernel)
set_option maxRecDepth 65536 in
theorem w_c2 : (Jvm.Cond.code ({ cls := "java/lang/Record", name := "<init>", desc := "()V" } : Jvm.MethodName) jdk_30_method_1_code (1 : Nat) (Option.none : Option Jvm.ClassFile.FieldType)).before args0 about1 = true := code_word (m := ⟨2, 0⟩) (meth := k2m0) (c := k2c0) (by decide +kernel) rfl rfl rfl (by decide +kernel)
set_option maxRecDepth 65536 in
theorem w_c3 : (Jvm.Cond.code ({ cls := "java/lang/Object", name := "<init>", desc := "()V" } : Jvm.MethodName) object_method_1_code (1 : Nat) (Option.none : Option Jvm.ClassFile.FieldType)).before args0 about1 = true := code_word (m := ⟨0, 0⟩) (meth := k0m0) (c := k0c0) (by decide +kernel) rfl rfl rfl (by decide +kernel)
set_option maxRecDepth 65536 in
theorem w_c4 : (Jvm.Cond.code ({ cls := "com/example/capwright/capwright/cap/CapFile$ExternalMethod", name := "equals", desc := "(Ljava/lang/Object;)Z" } : Jvm.MethodName) prog_21_method_2_code (3 : Nat) (Option.some Jvm.ClassFile.FieldType.boolean)).before args0 about1 = true := code_word (m := ⟨4, 1⟩) (meth := k4m1) (c := k4c1) (by decide +kernel) rfl rfl rfl (by decide +kernel)
set_option maxRecDepth 65536 in
theorem w_c5 : (Jvm.Cond.code ({ cls := "com/example/capwright/capwright/cap/CapFile$ExternalField", name := "<init>", desc := "(III)V" } : Jvm.MethodName) prog_20_method_1_code (4 : Nat) (Option.none : Option Jvm.ClassFile.FieldType)).before args0 about1 = true := code_word (m := ⟨6, 0⟩) (meth := k6m0) (c := k6c0) (by decide +kernel) rfl rfl rfl (by decide +kernel)
set_option maxRecDepth 65536 in
theorem w_c6 : (Jvm.Cond.code ({ cls := "java/lang/Integer", name := "valueOf", desc := "(I)Ljava/lang/Integer;" } : Jvm.MethodName) jdk_33_method_22_code (1 : Nat) (Option.some (Jvm.ClassFile.FieldType.object "java/lang/Integer"))).before args0 about1 = true := code_word (m := ⟨12, 0⟩) (meth := k12m0) (c := k12c0) (by decide +kernel) rfl rfl rfl (by decide +kernel)
set_option maxRecDepth 65536 in
theorem w_c7 : (Jvm.Cond.code ({ cls := "com/example/capwright/capwright/cap/CapFile$InternalMethod", name := "<init>", desc := "(I)V" } : Jvm.MethodName) prog_27_method_1_code (2 : Nat) (Option.none : Option Jvm.ClassFile.FieldType)).before args0 about1 = true := code_word (m := ⟨14, 0⟩) (meth := k14m0) (c := k14c0) (by decide +kernel) rfl rfl rfl (by decide +kernel)
set_option maxRecDepth 65536 in
theorem w_c8 : (Jvm.Cond.code ({ cls := "java/lang/Integer", name := "<init>", desc := "(I)V" } : Jvm.MethodName) jdk_33_method_23_code (2 : Nat) (Option.none : Option Jvm.ClassFile.FieldType)).before args0 about1 = true := code_word (m := ⟨12, 1⟩) (meth := k12m1) (c := k12c1) (by decide +kernel) rfl rfl rfl (by decide +kernel)
set_option maxRecDepth 65536 in
theorem w_c9 : (Jvm.Cond.code ({ cls := "java/lang/Number", name := "<init>", desc := "()V" } : Jvm.MethodName) jdk_18_method_1_code (1 : Nat) (Option.none : Option Jvm.ClassFile.FieldType)).before args0 about1 = true := code_word (m := ⟨8, 0⟩) (meth := k8m0) (c := k8c0) (by decide +kernel) rfl rfl rfl (by decide +kernel)
def codes1 : List Jvm.Cond := [Jvm.Cond.code x code maxLocals ret, Jvm.Cond.code ({ cls := "com/example/capwright/capwright/cap/CapFile$ExternalMethod", name := "<init>", desc := "(III)V" } : Jvm.MethodName) prog_21_method_1_code (4 : Nat) (Option.none : Option Jvm.ClassFile.FieldType), Jvm.Cond.code ({ cls := "java/lang/Record", name := "<init>", desc := "()V" } : Jvm.MethodName) jdk_30_method_1_code (1 : Nat) (Option.none : Option Jvm.ClassFile.FieldType), Jvm.Cond.code ({ cls := "java/lang/Object", name := "<init>", desc := "()V" } : Jvm.MethodName) object_method_1_code (1 : Nat) (Option.none : Option Jvm.ClassFile.FieldType), Jvm.Cond.code ({ cls := "com/example/capwright/capwright/cap/CapFile$ExternalMethod", name := "equals", desc := "(Ljava/lang/Object;)Z" } : Jvm.MethodName) prog_21_method_2_code (3 : Nat) (Option.some Jvm.ClassFile.FieldType.boolean), Jvm.Cond.code ({ cls := "com/example/capwright/capwright/cap/CapFile$ExternalField", name := "<init>", desc := "(III)V" } : Jvm.MethodName) prog_20_method_1_code (4 : Nat) (Option.none : Option Jvm.ClassFile.FieldType), Jvm.Cond.code ({ cls := "java/lang/Integer", name := "valueOf", desc := "(I)Ljava/lang/Integer;" } : Jvm.MethodName) jdk_33_method_22_code (1 : Nat) (Option.some (Jvm.ClassFile.FieldType.object "java/lang/Integer")), Jvm.Cond.code ({ cls := "com/example/capwright/capwright/cap/CapFile$InternalMethod", name := "<init>", desc := "(I)V" } : Jvm.MethodName) prog_27_method_1_code (2 : Nat) (Option.none : Option Jvm.ClassFile.FieldType), Jvm.Cond.code ({ cls := "java/lang/Integer", name := "<init>", desc := "(I)V" } : Jvm.MethodName) jdk_33_method_23_code (2 : Nat) (Option.none : Option Jvm.ClassFile.FieldType), Jvm.Cond.code ({ cls := "java/lang/Number", name := "<init>", desc := "()V" } : Jvm.MethodName) jdk_18_method_1_code (1 : Nat) (Option.none : Option Jvm.ClassFile.FieldType)]
set_option maxRecDepth 65536 in
theorem codes_eq : words1.filter isCode = codes1 := rfl
theorem w_codes : ∀ c ∈ words1.filter isCode, c.before args0 about1 = true := by
  rw [codes_eq]
  intro c hc
  simp only [codes1, List.mem_cons, List.not_mem_nil, or_false] at hc
  rcases hc with rfl | rfl | rfl | rfl | rfl | rfl | rfl | rfl | rfl | rfl
  · exact w_c0
  · exact w_c1
  · exact w_c2
  · exact w_c3
  · exact w_c4
  · exact w_c5
  · exact w_c6
  · exact w_c7
  · exact w_c8
  · exact w_c9
set_option maxRecDepth 65536 in
theorem w_t1 : (words1.take 24).all (fun c => isCode c || c.before args0 about1) = true := by decide +kernel
set_option maxRecDepth 65536 in
theorem w_t2 : ((words1.drop 24).take 24).all (fun c => isCode c || c.before args0 about1) = true := by decide +kernel
set_option maxRecDepth 65536 in
theorem w_t3 : (((words1.drop 24).drop 24).take 24).all (fun c => isCode c || c.before args0 about1) = true := by decide +kernel
set_option maxRecDepth 65536 in
theorem w_t4 : (((words1.drop 24).drop 24).drop 24).all (fun c => isCode c || c.before args0 about1) = true := by decide +kernel
theorem w_tables : (allAtoms (Jvm.Cond.code x code maxLocals ret :: tables_1)).before args0 about1 = true := by
  rw [allAtoms_all]
  show words1.all (fun c => c.before args0 about1) = true
  refine all_split ?_ w_codes
  rw [← List.take_append_drop 24 words1, List.all_append, w_t1, ← List.take_append_drop 24 (words1.drop 24), List.all_append, w_t2, ← List.take_append_drop 24 ((words1.drop 24).drop 24), List.all_append, w_t3, w_t4]
  rfl
set_option maxRecDepth 65536 in
theorem w_rest : rest_1_c.before args0 about1 = true := by decide +kernel
set_option maxRecDepth 65536 in
theorem w_case : (Jvm.Cond.and given_1 narrow_1).before args0 about1 = true := by decide +kernel
theorem w_applies : (headSpec (Jvm.Cond.code x code maxLocals ret :: tables_1) room_1).applies x e0.platform about1 = true :=
  (Spec.applies_iff w_frames).mpr ⟨w_running, w_runnable, w_alone, w_named, w_hears, w_ripe, w_room, w_tables⟩
theorem atStart : AtStart classFile x code maxLocals ret World_1 tables_1 room_1 Calls_1 rest_1 Pre_1 launch0 p0 e0 about1 theMethod args0 below0 :=
  ⟨lists_1, trivial, launch0.admits_env _ _ _, launch0.least_env, fairChoices_fair.cas, fairChoices_fair.clock, w_frames, w_args, w_heap, w_applies, trivial, w_rest, w_case⟩
end start1
theorem witness_1 : WitnessClaimed_1 := ⟨start1.p0, start1.e0, start1.about1, start1.theMethod, start1.args0, start1.below0, start1.atStart⟩
end Jvm.Pilot.@@N@@
