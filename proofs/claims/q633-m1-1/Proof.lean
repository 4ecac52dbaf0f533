import JvmDerived
import JvmDerived.Pilot.@@N@@Statement
import JvmDerived.Pilot.@@N@@Code
set_option linter.unusedVariables false
set_option linter.unusedSimpArgs false

namespace Jvm.RoadKit
open Sem ClassFile Op Lib Jvm.Stand Jvm.Free Jvm.LawKit
section New
variable {p : Program} {l : Launch} {e : Env} {R : Room} {s : State} {m : MethodId} {args : Array Value} {below : List Frame} {meth : Method} {c : Code} {T : State} {locs : List Loc} {cells slots : Nat}
theorem retI (X : Stand p l e R s m args below meth c T locs cells slots) (hx : p.tables.exec = Jvm.exec) {pc : Nat} {Ls : Array Slot} {z : Int32} {rest : List Value} (hret : meth.sig.returnType = some .int) (hd : decode c.code pc = .ok (.ireturn, 1)) {fs : List Frame}
    (hl : ∀ (f : JFrame) (acts : List Action), f.method = m → f.locked = none → f.entered = [] → (doReturn e (T.setTop f) acts (some (.int z))).1 = T.setFrames fs) : Steps p.tables e below (T.setTop (mkF m pc Ls (.int z :: rest))) (T.setFrames fs) := by
  have hm' : T.vm.method? m = some meth := X.method'
  have hn : narrow .int (.int z) = .int z := rfl
  show Steps p.tables e below (T.setTop { method := m, pc := pc, locals := Ls, stack := _ :: rest, locked := none }) _
  jvm_step X.here [X.here.top, hx, hd, hm', hret, hn]
  first | (intro acts; rw [hl _ acts rfl rfl rfl]) | rw [hl _ _ rfl rfl rfl]
  exact Steps.refl _
theorem retL (X : Stand p l e R s m args below meth c T locs cells slots) (hx : p.tables.exec = Jvm.exec) {pc : Nat} {Ls : Array Slot} {z : Int64} {rest : List Value} (hret : meth.sig.returnType = some .long) (hd : decode c.code pc = .ok (.lreturn, 1)) {fs : List Frame}
    (hl : ∀ (f : JFrame) (acts : List Action), f.method = m → f.locked = none → f.entered = [] → (doReturn e (T.setTop f) acts (some (.long z))).1 = T.setFrames fs) : Steps p.tables e below (T.setTop (mkF m pc Ls (.long z :: rest))) (T.setFrames fs) := by
  have hm' : T.vm.method? m = some meth := X.method'
  have hn : narrow .long (.long z) = .long z := rfl
  show Steps p.tables e below (T.setTop { method := m, pc := pc, locals := Ls, stack := _ :: rest, locked := none }) _
  jvm_step X.here [X.here.top, hx, hd, hm', hret, hn]
  first | (intro acts; rw [hl _ acts rfl rfl rfl]) | rw [hl _ _ rfl rfl rfl]
  exact Steps.refl _
end New
end Jvm.RoadKit
namespace Jvm.Pilot.@@N@@
open Jvm Jvm.ClassFile Sem Op Lib Jvm.Free Jvm.Stand Jvm.LawKit Jvm.RoadKit Bundle Jvm.Pilot.@@N@@.Jvm.D
/-- from here the run comes to an end of which W holds -/
def own_Go (p : Program) (e : Env) (below : List Frame) (W : State → Outcome → Prop) (T : State) (g : JFrame) : Prop :=
  ∃ s₂ o, Steps p.tables e below (T.setTop g) s₂ ∧ s₂.status = .running ∧ Ended s₂ below o ∧ W s₂ o
theorem own_Go.of {p : Program} {e : Env} {below : List Frame} {W : State → Outcome → Prop} {T T' : State} {g g' : JFrame} (f : ∀ t, Steps p.tables e below (T'.setTop g') t → Steps p.tables e below (T.setTop g) t) (k : own_Go p e below W T' g') : own_Go p e below W T g := by
  obtain ⟨s₂, o, h1, h2⟩ := k
  exact ⟨s₂, o, f _ h1, h2⟩
theorem own_hide {p : Program} {l : Launch} {e : Env} {R : Room} {s : State} {m : MethodId} {args : Array Value} {below : List Frame} {meth : Method} {c : Code} {T : State} {locs : List Loc} {cells slots : Nat} (X : Stand p l e R s m args below meth c T locs cells slots) {k : Nat} (N : Fr k locs) : ∃ L, Stand p l e R s m args below meth c T L cells slots ∧ Fr k L := ⟨_, X, N⟩
theorem own_via {G A : Prop} (h1 : A → G) (h2 : A) : G := h1 h2
section OwnSteps
variable {p : Program} {l : Launch} {e : Env} {R : Room} {s : State} {m : MethodId} {args : Array Value} {below : List Frame} {meth : Method} {c : Code} {T : State} {locs : List Loc} {cells slots : Nat} {W : State → Outcome → Prop} {pc pc' : Nat} {L : Array Slot} {S : List Value}
theorem og_iloadN (X : Stand p l e R s m args below meth c T locs cells slots) (hx : p.tables.exec = Jvm.exec) {k : Fin 4} {v : Int32} (hd : decode c.code pc = .ok (.iload_n k, 1)) (hl : L[k.val]? = some (.val (.int v))) (hp : pc + 1 = pc') (h : own_Go p e below W T (mkF m pc' L ((.int v) :: S))) : own_Go p e below W T (mkF m pc L S) := by
  subst hp; exact own_Go.of (fun t q => XS.iloadN X.here hx rfl hd hl q) h
theorem og_iload (X : Stand p l e R s m args below meth c T locs cells slots) (hx : p.tables.exec = Jvm.exec) {k : Nat} {v : Int32} (hd : decode c.code pc = .ok (.iload k, 2)) (hl : L[k]? = some (.val (.int v))) (hp : pc + 2 = pc') (h : own_Go p e below W T (mkF m pc' L ((.int v) :: S))) : own_Go p e below W T (mkF m pc L S) := by
  subst hp; exact own_Go.of (fun t q => XS.iload X.here hx rfl hd hl q) h
theorem og_istoreN (X : Stand p l e R s m args below meth c T locs cells slots) (hx : p.tables.exec = Jvm.exec) {k : Fin 4} {v : Int32} {L' : Array Slot} (hd : decode c.code pc = .ok (.istore_n k, 1)) (hl : storeLocals L k.val (.int v) = some L') (hp : pc + 1 = pc') (h : own_Go p e below W T (mkF m pc' L' S)) : own_Go p e below W T (mkF m pc L ((.int v) :: S)) := by
  subst hp; exact own_Go.of (fun t q => XS.istoreN X.here hx rfl hd rfl hl q) h
theorem og_istore (X : Stand p l e R s m args below meth c T locs cells slots) (hx : p.tables.exec = Jvm.exec) {k : Nat} {v : Int32} {L' : Array Slot} (hd : decode c.code pc = .ok (.istore k, 2)) (hl : storeLocals L k (.int v) = some L') (hp : pc + 2 = pc') (h : own_Go p e below W T (mkF m pc' L' S)) : own_Go p e below W T (mkF m pc L ((.int v) :: S)) := by
  subst hp; exact own_Go.of (fun t q => XS.istore X.here hx rfl hd rfl hl q) h
theorem og_lloadN (X : Stand p l e R s m args below meth c T locs cells slots) (hx : p.tables.exec = Jvm.exec) {k : Fin 4} {v : Int64} (hd : decode c.code pc = .ok (.lload_n k, 1)) (hl : L[k.val]? = some (.val (.long v))) (hp : pc + 1 = pc') (h : own_Go p e below W T (mkF m pc' L ((.long v) :: S))) : own_Go p e below W T (mkF m pc L S) := by
  subst hp; exact own_Go.of (fun t q => XS.lloadN X.here hx rfl hd hl q) h
theorem og_lload (X : Stand p l e R s m args below meth c T locs cells slots) (hx : p.tables.exec = Jvm.exec) {k : Nat} {v : Int64} (hd : decode c.code pc = .ok (.lload k, 2)) (hl : L[k]? = some (.val (.long v))) (hp : pc + 2 = pc') (h : own_Go p e below W T (mkF m pc' L ((.long v) :: S))) : own_Go p e below W T (mkF m pc L S) := by
  subst hp; exact own_Go.of (fun t q => XS.lload X.here hx rfl hd hl q) h
theorem og_lstoreN (X : Stand p l e R s m args below meth c T locs cells slots) (hx : p.tables.exec = Jvm.exec) {k : Fin 4} {v : Int64} {L' : Array Slot} (hd : decode c.code pc = .ok (.lstore_n k, 1)) (hl : storeLocals L k.val (.long v) = some L') (hp : pc + 1 = pc') (h : own_Go p e below W T (mkF m pc' L' S)) : own_Go p e below W T (mkF m pc L ((.long v) :: S)) := by
  subst hp; exact own_Go.of (fun t q => XS.lstoreN X.here hx rfl hd rfl hl q) h
theorem og_lstore (X : Stand p l e R s m args below meth c T locs cells slots) (hx : p.tables.exec = Jvm.exec) {k : Nat} {v : Int64} {L' : Array Slot} (hd : decode c.code pc = .ok (.lstore k, 2)) (hl : storeLocals L k (.long v) = some L') (hp : pc + 2 = pc') (h : own_Go p e below W T (mkF m pc' L' S)) : own_Go p e below W T (mkF m pc L ((.long v) :: S)) := by
  subst hp; exact own_Go.of (fun t q => XS.lstore X.here hx rfl hd rfl hl q) h
theorem og_aloadN (X : Stand p l e R s m args below meth c T locs cells slots) (hx : p.tables.exec = Jvm.exec) {k : Fin 4} {v : Value} (hd : decode c.code pc = .ok (.aload_n k, 1)) (hl : L[k.val]? = some (.val v)) (hv : v.isRef = true) (hp : pc + 1 = pc') (h : own_Go p e below W T (mkF m pc' L (v :: S))) : own_Go p e below W T (mkF m pc L S) := by
  subst hp; exact own_Go.of (fun t q => XS.aloadN X.here hx rfl hd hl hv q) h
theorem og_aload (X : Stand p l e R s m args below meth c T locs cells slots) (hx : p.tables.exec = Jvm.exec) {k : Nat} {v : Value} (hd : decode c.code pc = .ok (.aload k, 2)) (hl : L[k]? = some (.val v)) (hv : v.isRef = true) (hp : pc + 2 = pc') (h : own_Go p e below W T (mkF m pc' L (v :: S))) : own_Go p e below W T (mkF m pc L S) := by
  subst hp; exact own_Go.of (fun t q => XS.aload X.here hx rfl hd hl hv q) h
theorem og_astoreN (X : Stand p l e R s m args below meth c T locs cells slots) (hx : p.tables.exec = Jvm.exec) {k : Fin 4} {v : Value} {L' : Array Slot} (hd : decode c.code pc = .ok (.astore_n k, 1)) (hv : v.isRef = true) (hl : storeLocals L k.val v = some L') (hp : pc + 1 = pc') (h : own_Go p e below W T (mkF m pc' L' S)) : own_Go p e below W T (mkF m pc L (v :: S)) := by
  subst hp; exact own_Go.of (fun t q => XS.astoreN X.here hx rfl hd rfl hv hl q) h
theorem og_astore (X : Stand p l e R s m args below meth c T locs cells slots) (hx : p.tables.exec = Jvm.exec) {k : Nat} {v : Value} {L' : Array Slot} (hd : decode c.code pc = .ok (.astore k, 2)) (hv : v.isRef = true) (hl : storeLocals L k v = some L') (hp : pc + 2 = pc') (h : own_Go p e below W T (mkF m pc' L' S)) : own_Go p e below W T (mkF m pc L (v :: S)) := by
  subst hp; exact own_Go.of (fun t q => XS.astore X.here hx rfl hd rfl hv hl q) h
theorem og_iconst (X : Stand p l e R s m args below meth c T locs cells slots) (hx : p.tables.exec = Jvm.exec) {i : Int} {n : Int32} (hd : decode c.code pc = .ok (.iconst i, 1)) (hn : Int32.ofInt i = n) (hp : pc + 1 = pc') (h : own_Go p e below W T (mkF m pc' L (.int n :: S))) : own_Go p e below W T (mkF m pc L S) := by
  subst hp hn; exact own_Go.of (fun t q => XS.iconst X.here hx rfl hd q) h
theorem og_bipush (X : Stand p l e R s m args below meth c T locs cells slots) (hx : p.tables.exec = Jvm.exec) {i : Int} {n : Int32} (hd : decode c.code pc = .ok (.bipush i, 2)) (hn : (Int8.ofInt i).toInt32 = n) (hp : pc + 2 = pc') (h : own_Go p e below W T (mkF m pc' L (.int n :: S))) : own_Go p e below W T (mkF m pc L S) := by
  subst hp hn; exact own_Go.of (fun t q => XS.bipush X.here hx rfl hd q) h
theorem og_sipush (X : Stand p l e R s m args below meth c T locs cells slots) (hx : p.tables.exec = Jvm.exec) {i : Int} {n : Int32} (hd : decode c.code pc = .ok (.sipush i, 3)) (hn : (Int16.ofInt i).toInt32 = n) (hp : pc + 3 = pc') (h : own_Go p e below W T (mkF m pc' L (.int n :: S))) : own_Go p e below W T (mkF m pc L S) := by
  subst hp hn; exact own_Go.of (fun t q => XS.sipush X.here hx rfl hd q) h
theorem og_lconst0 (X : Stand p l e R s m args below meth c T locs cells slots) (hx : p.tables.exec = Jvm.exec) (hd : decode c.code pc = .ok (.lconst 0, 1)) (hp : pc + 1 = pc') (h : own_Go p e below W T (mkF m pc' L (.long (0 : Int64) :: S))) : own_Go p e below W T (mkF m pc L S) := by
  subst hp; exact own_Go.of (fun t q => XS.lconst X.here hx rfl hd q) h
theorem og_lconst1 (X : Stand p l e R s m args below meth c T locs cells slots) (hx : p.tables.exec = Jvm.exec) (hd : decode c.code pc = .ok (.lconst 1, 1)) (hp : pc + 1 = pc') (h : own_Go p e below W T (mkF m pc' L (.long (1 : Int64) :: S))) : own_Go p e below W T (mkF m pc L S) := by
  subst hp; exact own_Go.of (fun t q => XS.lconst X.here hx rfl hd q) h
theorem og_aconst_null (X : Stand p l e R s m args below meth c T locs cells slots) (hx : p.tables.exec = Jvm.exec)  (hd : decode c.code pc = .ok (.aconst_null, 1)) (hp : pc + 1 = pc') (h : own_Go p e below W T (mkF m pc' L (.null :: S))) : own_Go p e below W T (mkF m pc L S) := by
  subst hp; exact own_Go.of (fun t q => XS.aconstNull X.here hx rfl hd q) h
theorem og_iadd (X : Stand p l e R s m args below meth c T locs cells slots) (hx : p.tables.exec = Jvm.exec) {x y : Int32} (hd : decode c.code pc = .ok (.iadd, 1)) (hp : pc + 1 = pc') (h : own_Go p e below W T (mkF m pc' L (.int (x + y) :: S))) : own_Go p e below W T (mkF m pc L (.int y :: .int x :: S)) := by
  subst hp; exact own_Go.of (fun t q => XS.iadd X.here hx rfl hd rfl q) h
theorem og_ladd (X : Stand p l e R s m args below meth c T locs cells slots) (hx : p.tables.exec = Jvm.exec) {x y : Int64} (hd : decode c.code pc = .ok (.ladd, 1)) (hp : pc + 1 = pc') (h : own_Go p e below W T (mkF m pc' L (.long (x + y) :: S))) : own_Go p e below W T (mkF m pc L (.long y :: .long x :: S)) := by
  subst hp; exact own_Go.of (fun t q => XS.ladd X.here hx rfl hd rfl q) h
theorem og_isub (X : Stand p l e R s m args below meth c T locs cells slots) (hx : p.tables.exec = Jvm.exec) {x y : Int32} (hd : decode c.code pc = .ok (.isub, 1)) (hp : pc + 1 = pc') (h : own_Go p e below W T (mkF m pc' L (.int (x - y) :: S))) : own_Go p e below W T (mkF m pc L (.int y :: .int x :: S)) := by
  subst hp; exact own_Go.of (fun t q => XS.isub X.here hx rfl hd rfl q) h
theorem og_lsub (X : Stand p l e R s m args below meth c T locs cells slots) (hx : p.tables.exec = Jvm.exec) {x y : Int64} (hd : decode c.code pc = .ok (.lsub, 1)) (hp : pc + 1 = pc') (h : own_Go p e below W T (mkF m pc' L (.long (x - y) :: S))) : own_Go p e below W T (mkF m pc L (.long y :: .long x :: S)) := by
  subst hp; exact own_Go.of (fun t q => XS.lsub X.here hx rfl hd rfl q) h
theorem og_imul (X : Stand p l e R s m args below meth c T locs cells slots) (hx : p.tables.exec = Jvm.exec) {x y : Int32} (hd : decode c.code pc = .ok (.imul, 1)) (hp : pc + 1 = pc') (h : own_Go p e below W T (mkF m pc' L (.int (x * y) :: S))) : own_Go p e below W T (mkF m pc L (.int y :: .int x :: S)) := by
  subst hp; exact own_Go.of (fun t q => XS.imul X.here hx rfl hd rfl q) h
theorem og_lmul (X : Stand p l e R s m args below meth c T locs cells slots) (hx : p.tables.exec = Jvm.exec) {x y : Int64} (hd : decode c.code pc = .ok (.lmul, 1)) (hp : pc + 1 = pc') (h : own_Go p e below W T (mkF m pc' L (.long (x * y) :: S))) : own_Go p e below W T (mkF m pc L (.long y :: .long x :: S)) := by
  subst hp; exact own_Go.of (fun t q => XS.lmul X.here hx rfl hd rfl q) h
theorem og_iand (X : Stand p l e R s m args below meth c T locs cells slots) (hx : p.tables.exec = Jvm.exec) {x y : Int32} (hd : decode c.code pc = .ok (.iand, 1)) (hp : pc + 1 = pc') (h : own_Go p e below W T (mkF m pc' L (.int (x &&& y) :: S))) : own_Go p e below W T (mkF m pc L (.int y :: .int x :: S)) := by
  subst hp; exact own_Go.of (fun t q => XS.iand X.here hx rfl hd rfl q) h
theorem og_land (X : Stand p l e R s m args below meth c T locs cells slots) (hx : p.tables.exec = Jvm.exec) {x y : Int64} (hd : decode c.code pc = .ok (.land, 1)) (hp : pc + 1 = pc') (h : own_Go p e below W T (mkF m pc' L (.long (x &&& y) :: S))) : own_Go p e below W T (mkF m pc L (.long y :: .long x :: S)) := by
  subst hp; exact own_Go.of (fun t q => XS.land X.here hx rfl hd rfl q) h
theorem og_ior (X : Stand p l e R s m args below meth c T locs cells slots) (hx : p.tables.exec = Jvm.exec) {x y : Int32} (hd : decode c.code pc = .ok (.ior, 1)) (hp : pc + 1 = pc') (h : own_Go p e below W T (mkF m pc' L (.int (x ||| y) :: S))) : own_Go p e below W T (mkF m pc L (.int y :: .int x :: S)) := by
  subst hp; exact own_Go.of (fun t q => XS.ior X.here hx rfl hd rfl q) h
theorem og_lor (X : Stand p l e R s m args below meth c T locs cells slots) (hx : p.tables.exec = Jvm.exec) {x y : Int64} (hd : decode c.code pc = .ok (.lor, 1)) (hp : pc + 1 = pc') (h : own_Go p e below W T (mkF m pc' L (.long (x ||| y) :: S))) : own_Go p e below W T (mkF m pc L (.long y :: .long x :: S)) := by
  subst hp; exact own_Go.of (fun t q => XS.lor X.here hx rfl hd rfl q) h
theorem og_ixor (X : Stand p l e R s m args below meth c T locs cells slots) (hx : p.tables.exec = Jvm.exec) {x y : Int32} (hd : decode c.code pc = .ok (.ixor, 1)) (hp : pc + 1 = pc') (h : own_Go p e below W T (mkF m pc' L (.int (x ^^^ y) :: S))) : own_Go p e below W T (mkF m pc L (.int y :: .int x :: S)) := by
  subst hp; exact own_Go.of (fun t q => XS.ixor X.here hx rfl hd rfl q) h
theorem og_lxor (X : Stand p l e R s m args below meth c T locs cells slots) (hx : p.tables.exec = Jvm.exec) {x y : Int64} (hd : decode c.code pc = .ok (.lxor, 1)) (hp : pc + 1 = pc') (h : own_Go p e below W T (mkF m pc' L (.long (x ^^^ y) :: S))) : own_Go p e below W T (mkF m pc L (.long y :: .long x :: S)) := by
  subst hp; exact own_Go.of (fun t q => XS.lxor X.here hx rfl hd rfl q) h
theorem og_ineg (X : Stand p l e R s m args below meth c T locs cells slots) (hx : p.tables.exec = Jvm.exec) {x : Int32} (hd : decode c.code pc = .ok (.ineg, 1)) (hp : pc + 1 = pc') (h : own_Go p e below W T (mkF m pc' L (.int (-x) :: S))) : own_Go p e below W T (mkF m pc L (.int x :: S)) := by
  subst hp; exact own_Go.of (fun t q => XS.ineg X.here hx rfl hd rfl q) h
theorem og_lneg (X : Stand p l e R s m args below meth c T locs cells slots) (hx : p.tables.exec = Jvm.exec) {x : Int64} (hd : decode c.code pc = .ok (.lneg, 1)) (hp : pc + 1 = pc') (h : own_Go p e below W T (mkF m pc' L (.long (-x) :: S))) : own_Go p e below W T (mkF m pc L (.long x :: S)) := by
  subst hp; exact own_Go.of (fun t q => XS.lneg X.here hx rfl hd rfl q) h
theorem og_i2l (X : Stand p l e R s m args below meth c T locs cells slots) (hx : p.tables.exec = Jvm.exec) {x : Int32} (hd : decode c.code pc = .ok (.i2l, 1)) (hp : pc + 1 = pc') (h : own_Go p e below W T (mkF m pc' L (.long (x.toInt64) :: S))) : own_Go p e below W T (mkF m pc L (.int x :: S)) := by
  subst hp; exact own_Go.of (fun t q => XS.i2l X.here hx rfl hd rfl q) h
theorem og_l2i (X : Stand p l e R s m args below meth c T locs cells slots) (hx : p.tables.exec = Jvm.exec) {x : Int64} (hd : decode c.code pc = .ok (.l2i, 1)) (hp : pc + 1 = pc') (h : own_Go p e below W T (mkF m pc' L (.int (x.toInt32) :: S))) : own_Go p e below W T (mkF m pc L (.long x :: S)) := by
  subst hp; exact own_Go.of (fun t q => XS.l2i X.here hx rfl hd rfl q) h
theorem og_i2b (X : Stand p l e R s m args below meth c T locs cells slots) (hx : p.tables.exec = Jvm.exec) {x : Int32} (hd : decode c.code pc = .ok (.i2b, 1)) (hp : pc + 1 = pc') (h : own_Go p e below W T (mkF m pc' L (.int (x.toInt8.toInt32) :: S))) : own_Go p e below W T (mkF m pc L (.int x :: S)) := by
  subst hp; exact own_Go.of (fun t q => XS.i2b X.here hx rfl hd rfl q) h
theorem og_i2s (X : Stand p l e R s m args below meth c T locs cells slots) (hx : p.tables.exec = Jvm.exec) {x : Int32} (hd : decode c.code pc = .ok (.i2s, 1)) (hp : pc + 1 = pc') (h : own_Go p e below W T (mkF m pc' L (.int (x.toInt16.toInt32) :: S))) : own_Go p e below W T (mkF m pc L (.int x :: S)) := by
  subst hp; exact own_Go.of (fun t q => XS.i2s X.here hx rfl hd rfl q) h
theorem og_i2c (X : Stand p l e R s m args below meth c T locs cells slots) (hx : p.tables.exec = Jvm.exec) {x : Int32} (hd : decode c.code pc = .ok (.i2c, 1)) (hp : pc + 1 = pc') (h : own_Go p e below W T (mkF m pc' L (.int (x.toUInt32.toUInt16.toUInt32.toInt32) :: S))) : own_Go p e below W T (mkF m pc L (.int x :: S)) := by
  subst hp; exact own_Go.of (fun t q => XS.i2c X.here hx rfl hd rfl q) h
theorem og_ishl (X : Stand p l e R s m args below meth c T locs cells slots) (hx : p.tables.exec = Jvm.exec) {x : Int32} {y : Int32} (hd : decode c.code pc = .ok (.ishl, 1)) (hp : pc + 1 = pc') (h : own_Go p e below W T (mkF m pc' L (.int (x <<< (y &&& 31)) :: S))) : own_Go p e below W T (mkF m pc L (.int y :: .int x :: S)) := by
  subst hp; exact own_Go.of (fun t q => XS.ishl X.here hx rfl hd rfl q) h
theorem og_ishr (X : Stand p l e R s m args below meth c T locs cells slots) (hx : p.tables.exec = Jvm.exec) {x : Int32} {y : Int32} (hd : decode c.code pc = .ok (.ishr, 1)) (hp : pc + 1 = pc') (h : own_Go p e below W T (mkF m pc' L (.int (x >>> (y &&& 31)) :: S))) : own_Go p e below W T (mkF m pc L (.int y :: .int x :: S)) := by
  subst hp; exact own_Go.of (fun t q => XS.ishr X.here hx rfl hd rfl q) h
theorem og_iushr (X : Stand p l e R s m args below meth c T locs cells slots) (hx : p.tables.exec = Jvm.exec) {x : Int32} {y : Int32} (hd : decode c.code pc = .ok (.iushr, 1)) (hp : pc + 1 = pc') (h : own_Go p e below W T (mkF m pc' L (.int ((x.toUInt32 >>> (y &&& 31).toUInt32).toInt32) :: S))) : own_Go p e below W T (mkF m pc L (.int y :: .int x :: S)) := by
  subst hp; exact own_Go.of (fun t q => XS.iushr X.here hx rfl hd rfl q) h
theorem og_lshl (X : Stand p l e R s m args below meth c T locs cells slots) (hx : p.tables.exec = Jvm.exec) {x : Int64} {y : Int32} (hd : decode c.code pc = .ok (.lshl, 1)) (hp : pc + 1 = pc') (h : own_Go p e below W T (mkF m pc' L (.long (x <<< (y &&& 0x3f).toInt64) :: S))) : own_Go p e below W T (mkF m pc L (.int y :: .long x :: S)) := by
  subst hp; exact own_Go.of (fun t q => XS.lshl X.here hx rfl hd rfl q) h
theorem og_lshr (X : Stand p l e R s m args below meth c T locs cells slots) (hx : p.tables.exec = Jvm.exec) {x : Int64} {y : Int32} (hd : decode c.code pc = .ok (.lshr, 1)) (hp : pc + 1 = pc') (h : own_Go p e below W T (mkF m pc' L (.long (x >>> (y &&& 0x3f).toInt64) :: S))) : own_Go p e below W T (mkF m pc L (.int y :: .long x :: S)) := by
  subst hp; exact own_Go.of (fun t q => XS.lshr X.here hx rfl hd rfl q) h
theorem og_lushr (X : Stand p l e R s m args below meth c T locs cells slots) (hx : p.tables.exec = Jvm.exec) {x : Int64} {y : Int32} (hd : decode c.code pc = .ok (.lushr, 1)) (hp : pc + 1 = pc') (h : own_Go p e below W T (mkF m pc' L (.long ((x.toUInt64 >>> (y &&& 0x3f).toInt64.toUInt64).toInt64) :: S))) : own_Go p e below W T (mkF m pc L (.int y :: .long x :: S)) := by
  subst hp; exact own_Go.of (fun t q => XS.lushr X.here hx rfl hd rfl q) h
theorem og_lcmp (X : Stand p l e R s m args below meth c T locs cells slots) (hx : p.tables.exec = Jvm.exec) {x y : Int64} (hd : decode c.code pc = .ok (.lcmp, 1)) (hp : pc + 1 = pc') (h : own_Go p e below W T (mkF m pc' L (.int (lcmpW x y) :: S))) : own_Go p e below W T (mkF m pc L (.long y :: .long x :: S)) := by
  subst hp; exact own_Go.of (fun t q => XS.lcmp X.here hx rfl hd rfl q) h
theorem og_idiv (X : Stand p l e R s m args below meth c T locs cells slots) (hx : p.tables.exec = Jvm.exec) {x y : Int32} (hd : decode c.code pc = .ok (.idiv, 1)) (hy : y ≠ 0) (hp : pc + 1 = pc') (h : own_Go p e below W T (mkF m pc' L (.int (x / y) :: S))) : own_Go p e below W T (mkF m pc L (.int y :: .int x :: S)) := by
  subst hp; exact own_Go.of (fun t q => XS.idiv X.here hx rfl hd rfl hy q) h
theorem og_ldiv (X : Stand p l e R s m args below meth c T locs cells slots) (hx : p.tables.exec = Jvm.exec) {x y : Int64} (hd : decode c.code pc = .ok (.ldiv, 1)) (hy : y ≠ 0) (hp : pc + 1 = pc') (h : own_Go p e below W T (mkF m pc' L (.long (x / y) :: S))) : own_Go p e below W T (mkF m pc L (.long y :: .long x :: S)) := by
  subst hp; exact own_Go.of (fun t q => XS.ldiv X.here hx rfl hd rfl hy q) h
theorem og_irem (X : Stand p l e R s m args below meth c T locs cells slots) (hx : p.tables.exec = Jvm.exec) {x y : Int32} (hd : decode c.code pc = .ok (.irem, 1)) (hy : y ≠ 0) (hp : pc + 1 = pc') (h : own_Go p e below W T (mkF m pc' L (.int (x % y) :: S))) : own_Go p e below W T (mkF m pc L (.int y :: .int x :: S)) := by
  subst hp; exact own_Go.of (fun t q => iremM X hx rfl hd rfl hy q) h
theorem og_lrem (X : Stand p l e R s m args below meth c T locs cells slots) (hx : p.tables.exec = Jvm.exec) {x y : Int64} (hd : decode c.code pc = .ok (.lrem, 1)) (hy : y ≠ 0) (hp : pc + 1 = pc') (h : own_Go p e below W T (mkF m pc' L (.long (x - (x / y) * y) :: S))) : own_Go p e below W T (mkF m pc L (.long y :: .long x :: S)) := by
  subst hp; exact own_Go.of (fun t q => XS.lrem X.here hx rfl hd rfl hy q) h
theorem og_iinc (X : Stand p l e R s m args below meth c T locs cells slots) (hx : p.tables.exec = Jvm.exec) {k : Nat} {z : Int} {v : Int32} {L' : Array Slot} (hd : decode c.code pc = .ok (.iinc k z, 3)) (hl : L[k]? = some (.val (.int v))) (hs : storeLocals L k (.int (v + Int32.ofInt z)) = some L') (hp : pc + 3 = pc') (h : own_Go p e below W T (mkF m pc' L' S)) : own_Go p e below W T (mkF m pc L S) := by
  subst hp; exact own_Go.of (fun t q => XS.iinc X.here hx rfl hd hl hs q) h
theorem og_dup (X : Stand p l e R s m args below meth c T locs cells slots) (hx : p.tables.exec = Jvm.exec) {v : Value} (hd : decode c.code pc = .ok (.dup, 1)) (hc : v.category = 1) (hp : pc + 1 = pc') (h : own_Go p e below W T (mkF m pc' L (v :: v :: S))) : own_Go p e below W T (mkF m pc L (v :: S)) := by
  subst hp; exact own_Go.of (fun t q => XS.dup X.here hx rfl hd rfl hc q) h
theorem og_pop (X : Stand p l e R s m args below meth c T locs cells slots) (hx : p.tables.exec = Jvm.exec) {v : Value} (hd : decode c.code pc = .ok (.pop, 1)) (hc : v.category = 1) (hp : pc + 1 = pc') (h : own_Go p e below W T (mkF m pc' L S)) : own_Go p e below W T (mkF m pc L (v :: S)) := by
  subst hp; exact own_Go.of (fun t q => XS.pop X.here hx rfl hd rfl hc q) h
theorem og_dup_x1 (X : Stand p l e R s m args below meth c T locs cells slots) (hx : p.tables.exec = Jvm.exec) {v w : Value} (hd : decode c.code pc = .ok (.dup_x1, 1)) (hc : v.category = 1) (hc' : w.category = 1) (hp : pc + 1 = pc') (h : own_Go p e below W T (mkF m pc' L (v :: w :: v :: S))) : own_Go p e below W T (mkF m pc L (v :: w :: S)) := by
  subst hp; exact own_Go.of (fun t q => XS.dupX1 X.here hx rfl hd rfl hc hc' q) h
theorem og_goto (X : Stand p l e R s m args below meth c T locs cells slots) (hx : p.tables.exec = Jvm.exec) {o : Int} (hd : decode c.code pc = .ok (.goto o, 3)) (ho : 0 ≤ (pc : Int) + o) (hp : ((pc : Int) + o).toNat = pc') (h : own_Go p e below W T (mkF m pc' L S)) : own_Go p e below W T (mkF m pc L S) := by
  exact own_Go.of (fun t q => XS.goto X.here hx rfl rfl hd ho hp q) h
theorem og_ifYes (X : Stand p l e R s m args below meth c T locs cells slots) (hx : p.tables.exec = Jvm.exec) {cd : ClassFile.Cond} {x : Int32} {o : Int} (hd : decode c.code pc = .ok (.ifCond cd o, 3)) (hc : ifCond.holds cd x = true) (ho : 0 ≤ (pc : Int) + o) (hp : ((pc : Int) + o).toNat = pc') (h : own_Go p e below W T (mkF m pc' L S)) : own_Go p e below W T (mkF m pc L (.int x :: S)) := by
  exact own_Go.of (fun t q => XS.ifYes X.here hx rfl rfl hd rfl hc ho hp q) h
theorem og_ifNo (X : Stand p l e R s m args below meth c T locs cells slots) (hx : p.tables.exec = Jvm.exec) {cd : ClassFile.Cond} {x : Int32} {o : Int} (hd : decode c.code pc = .ok (.ifCond cd o, 3)) (hc : ifCond.holds cd x = false) (hp : pc + 3 = pc') (h : own_Go p e below W T (mkF m pc' L S)) : own_Go p e below W T (mkF m pc L (.int x :: S)) := by
  subst hp; exact own_Go.of (fun t q => XS.ifNo X.here hx rfl hd rfl hc q) h
theorem og_icmpYes (X : Stand p l e R s m args below meth c T locs cells slots) (hx : p.tables.exec = Jvm.exec) {cd : ClassFile.Cond} {x y : Int32} {o : Int} (hd : decode c.code pc = .ok (.if_icmp cd o, 3)) (hc : if_icmp.holds cd x y = true) (ho : 0 ≤ (pc : Int) + o) (hp : ((pc : Int) + o).toNat = pc') (h : own_Go p e below W T (mkF m pc' L S)) : own_Go p e below W T (mkF m pc L (.int y :: .int x :: S)) := by
  exact own_Go.of (fun t q => XS.icmpYes X.here hx rfl rfl hd rfl hc ho hp q) h
theorem og_icmpNo (X : Stand p l e R s m args below meth c T locs cells slots) (hx : p.tables.exec = Jvm.exec) {cd : ClassFile.Cond} {x y : Int32} {o : Int} (hd : decode c.code pc = .ok (.if_icmp cd o, 3)) (hc : if_icmp.holds cd x y = false) (hp : pc + 3 = pc') (h : own_Go p e below W T (mkF m pc' L S)) : own_Go p e below W T (mkF m pc L (.int y :: .int x :: S)) := by
  subst hp; exact own_Go.of (fun t q => XS.icmpNo X.here hx rfl hd rfl hc q) h
theorem og_ifnullYes (X : Stand p l e R s m args below meth c T locs cells slots) (hx : p.tables.exec = Jvm.exec) {o : Int} (hd : decode c.code pc = .ok (.ifnull o, 3)) (ho : 0 ≤ (pc : Int) + o) (hp : ((pc : Int) + o).toNat = pc') (h : own_Go p e below W T (mkF m pc' L S)) : own_Go p e below W T (mkF m pc L (.null :: S)) := by
  exact own_Go.of (fun t q => XS.ifnullYes X.here hx rfl rfl hd rfl ho hp q) h
theorem og_ifnullNo (X : Stand p l e R s m args below meth c T locs cells slots) (hx : p.tables.exec = Jvm.exec) {b : Addr} {o : Int} (hd : decode c.code pc = .ok (.ifnull o, 3)) (hp : pc + 3 = pc') (h : own_Go p e below W T (mkF m pc' L S)) : own_Go p e below W T (mkF m pc L (.ref b :: S)) := by
  subst hp; exact own_Go.of (fun t q => XS.ifnullNo X.here hx rfl hd rfl q) h
theorem og_ifnonnullYes (X : Stand p l e R s m args below meth c T locs cells slots) (hx : p.tables.exec = Jvm.exec) {b : Addr} {o : Int} (hd : decode c.code pc = .ok (.ifnonnull o, 3)) (ho : 0 ≤ (pc : Int) + o) (hp : ((pc : Int) + o).toNat = pc') (h : own_Go p e below W T (mkF m pc' L S)) : own_Go p e below W T (mkF m pc L (.ref b :: S)) := by
  exact own_Go.of (fun t q => XS.ifnonnullYes X.here hx rfl rfl hd rfl ho hp q) h
theorem og_ifnonnullNo (X : Stand p l e R s m args below meth c T locs cells slots) (hx : p.tables.exec = Jvm.exec) {o : Int} (hd : decode c.code pc = .ok (.ifnonnull o, 3)) (hp : pc + 3 = pc') (h : own_Go p e below W T (mkF m pc' L S)) : own_Go p e below W T (mkF m pc L (.null :: S)) := by
  subst hp; exact own_Go.of (fun t q => XS.ifnonnullNo X.here hx rfl hd rfl q) h
theorem og_ldc (X : Stand p l e R s m args below meth c T locs cells slots) (hx : p.tables.exec = Jvm.exec) {own : String} {index : Nat} {v : Int32} (hd : decode c.code pc = .ok (.ldc index, 2)) (hown : s.vm.findClass own = some m.cls) (w : (Jvm.Cond.constant own index v).before args s = true) (hp : pc + 2 = pc') (h : own_Go p e below W T (mkF m pc' L (.int v :: S))) : own_Go p e below W T (mkF m pc L S) := by
  subst hp; exact own_Go.of (fun t q => X.ldcInt hx hown w (g := mkF m pc L S) rfl hd _ q) h
theorem og_ldc2_w (X : Stand p l e R s m args below meth c T locs cells slots) (hx : p.tables.exec = Jvm.exec) {own : String} {index : Nat} {v : Int64} (hd : decode c.code pc = .ok (.ldc2_w index, 3)) (hown : s.vm.findClass own = some m.cls) (w : (Jvm.Cond.constantLong own index v).before args s = true) (hp : pc + 3 = pc') (h : own_Go p e below W T (mkF m pc' L (.long v :: S))) : own_Go p e below W T (mkF m pc L S) := by
  subst hp; exact own_Go.of (fun t q => X.ldc2Long hx hown w (g := mkF m pc L S) rfl hd _ q) h
end OwnSteps
theorem own_toNat64 {k : Int32} {n : Nat} (h : k.toInt = (n : Int)) (hn : n < 64) : k.toBitVec.toNat % 64 = n := by
  have e : k.toInt = k.toBitVec.toInt := rfl
  rw [e, BitVec.toInt_eq_toNat_cond] at h
  have := k.toBitVec.isLt
  split at h <;> omega

theorem own_shr {x : Int64} {k : Int32} {n : Nat} (h : k.toInt = (n : Int)) (hn : n < 64) : ((x.toUInt64 >>> (k &&& 0x3f).toInt64.toUInt64).toInt64).toBitVec = x.toBitVec >>> n := by
  obtain ⟨h1, h2⟩ := sm64 k n (own_toNat64 h hn)
  have e : ((x.toUInt64 >>> (k &&& 0x3f).toInt64.toUInt64).toInt64).toBitVec = x.toBitVec >>> ((k &&& 0x3f).toInt64.toBitVec % 64) := rfl
  rw [e, h1]
  have e2 : (BitVec.ofNat 64 n % 64) = BitVec.ofNat 64 n := by
    apply BitVec.eq_of_toNat_eq
    simp [BitVec.toNat_umod]
    omega
  rw [e2]
  show x.toBitVec >>> (BitVec.ofNat 64 n).toNat = _
  congr 1
  simp
  omega

theorem own_shl {x : Int64} {k : Int32} {n : Nat} (h : k.toInt = (n : Int)) (hn : n < 64) : (x <<< (k &&& 0x3f).toInt64).toBitVec = x.toBitVec <<< n := by
  obtain ⟨h1, h2⟩ := sm64 k n (own_toNat64 h hn)
  have e : (x <<< (k &&& 0x3f).toInt64).toBitVec = x.toBitVec <<< ((k &&& 0x3f).toInt64.toBitVec.smod 64) := rfl
  rw [e, h1]
  show x.toBitVec <<< ((BitVec.ofNat 64 n).smod 64).toNat = _
  rw [smod64 n hn]

theorem own_mbit {k : Int32} {n : Nat} (h : k.toInt = (n : Int)) (hn : n < 64) (i : Nat) (hi : i < 64) : (((1 : Int64) <<< (k &&& 0x3f).toInt64) - (1 : Int64)).toBitVec.getLsbD i = decide (i < n) := by
  rw [Int64.toBitVec_sub, own_shl h hn]
  have e : ((1 : Int64).toBitVec <<< n - (1 : Int64).toBitVec) = BitVec.ofNat 64 (2 ^ n - 1) := by
    apply BitVec.eq_of_toNat_eq
    have h1 : (1 : Int64).toBitVec = 1#64 := rfl
    rw [h1]
    have p : 2 ^ n < 2 ^ 64 := Nat.pow_lt_pow_right (by decide) hn
    have p1 : 1 ≤ 2 ^ n := Nat.one_le_two_pow
    simp only [BitVec.toNat_sub, BitVec.toNat_shiftLeft, BitVec.toNat_ofNat, Nat.shiftLeft_eq]
    have e2 : 1 % 2 ^ 64 = 1 := by decide
    rw [e2, Nat.one_mul, Nat.mod_eq_of_lt p, Nat.mod_eq_of_lt (show 2 ^ n - 1 < 2 ^ 64 by omega)]
    omega
  rw [e, BitVec.getLsbD_ofNat]
  simp [hi, Nat.testBit_two_pow_sub_one]

theorem own_ext {x y : Int64} (h : ∀ i, i < 64 → x.toBitVec.getLsbD i = y.toBitVec.getLsbD i) : x = y :=
  Int64.toBitVec_inj.mp (BitVec.eq_of_getLsbD_eq h)

def own_g (x2 : Int64) (x3 x4 : Int32) : Int32 := (((if x3 < (x4 - (1 : Int32)) then (((((x2.toUInt64 >>> (((7 : Int32) * x3) &&& 0x3f).toInt64.toUInt64).toInt64) &&& (127 : Int64)).toInt32) ||| (128 : Int32)) else ((((x2.toUInt64 >>> (((7 : Int32) * x3) &&& 0x3f).toInt64.toUInt64).toInt64) &&& (127 : Int64)).toInt32)).toInt8.toInt32).toInt8.toInt32)
def own_put (x1 : Int32) (x2 : Int64) (x3 x4 : Int32) (zs : List Int32) : List Int32 := if x3 < x4 then zs.set (x1 + x3).toNatClampNeg (own_g x2 x3 x4) else zs
def own_fill : Nat → Int32 → Int64 → Int32 → List Int32
  | 0, _, _, _ => [((-1 : Int32).toInt8.toInt32), (0 : Int32), (0 : Int32), (0 : Int32), (0 : Int32), (0 : Int32), (0 : Int32), (0 : Int32), (0 : Int32), (0 : Int32), (0 : Int32), (0 : Int32)]
  | n + 1, sr, v, ln => own_put sr v (Int32.ofNat n) ln (own_fill n sr v ln)
def own_arr (sr : Int32) (v : Int64) (ln mb : Int32) : List Int32 := (own_fill 10 sr v ln).set (sr + ln).toNatClampNeg ((mb.toInt8.toInt32).toInt8.toInt32)
def own_rd : Nat → Int64 → Int32 → Int32 → Int32 → List Int32 → Int64 × Int32
  | 0, _, _, ap, _, _ => ((-1 : Int64), ap)
  | n + 1, acc, sh, ap, en, zs => if ap < en then (if zs.getD ap.toNatClampNeg 0 < (0 : Int32) then own_rd n (acc ||| (((zs.getD ap.toNatClampNeg 0 &&& (127 : Int32)).toInt64) <<< (sh &&& 0x3f).toInt64)) (sh + (7 : Int32)) (ap + (1 : Int32)) en zs else ((acc ||| (((zs.getD ap.toNatClampNeg 0 &&& (127 : Int32)).toInt64) <<< (sh &&& 0x3f).toInt64)), ap + (1 : Int32))) else ((-1 : Int64), ap)
theorem own_rd_stop {n : Nat} {acc : Int64} {sh ap en : Int32} {zs : List Int32} (h1 : ¬ ap < en) : own_rd (n + 1) acc sh ap en zs = ((-1 : Int64), ap) := by
  unfold own_rd
  rw [if_neg h1]
theorem own_rd_more {n : Nat} {acc acc' : Int64} {sh sh' ap ap' en b : Int32} {zs : List Int32} (h1 : ap < en) (hb : zs.getD ap.toNatClampNeg 0 = b) (h2 : b < (0 : Int32)) (hac : (acc ||| (((b &&& (127 : Int32)).toInt64) <<< (sh &&& 0x3f).toInt64)) = acc') (hs : sh + (7 : Int32) = sh') (ha : ap' = (ap + (1 : Int32))) : own_rd (n + 1) acc sh ap en zs = own_rd n acc' sh' ap' en zs := by
  subst hb hac hs ha
  show (if ap < en then _ else _) = _
  rw [if_pos h1, if_pos h2]
theorem own_rd_end {n : Nat} {acc acc' : Int64} {sh ap ap' en b : Int32} {zs : List Int32} (h1 : ap < en) (hb : zs.getD ap.toNatClampNeg 0 = b) (h2 : ¬ b < (0 : Int32)) (hac : (acc ||| (((b &&& (127 : Int32)).toInt64) <<< (sh &&& 0x3f).toInt64)) = acc') (ha : (ap + (1 : Int32)) = ap') : own_rd (n + 1) acc sh ap en zs = (acc', ap') := by
  subst hb hac ha
  show (if ap < en then _ else _) = _
  rw [if_pos h1, if_neg h2]
theorem own_rd_last {acc : Int64} {sh ap ap' en b : Int32} {zs : List Int32} (h1 : ap < en) (hb : zs.getD ap.toNatClampNeg 0 = b) (h2 : b < (0 : Int32)) (ha : (ap + (1 : Int32)) = ap') : own_rd 1 acc sh ap en zs = ((-1 : Int64), ap') := own_rd_more (n := 0) h1 hb h2 rfl rfl ha.symm
theorem own_leafv {r : Int64 × Int32} {v : Int64} {a : Int32} (h : r = (v, a)) : some (Value.long v) = some (Value.long r.1) := by rw [h]
theorem own_i0 : (0 : Int32).toInt = 0 := by decide
theorem own_i1 : (1 : Int32).toInt = 1 := by decide
theorem own_i12 : (12 : Int32).toInt = 12 := by decide
theorem own_getD_map (zs : List Int32) (j : Nat) : (zs.map Value.int).getD j (.int (0 : Int32)) = .int (zs.getD j 0) := by
  induction zs generalizing j with
  | nil => rfl
  | cons a t ih => cases j with
    | zero => rfl
    | succ k => exact ih k
theorem own_map_set : ∀ (l : List Int32) (i : Nat) (a : Int32), (l.set i a).map Value.int = (l.map Value.int).set i (Value.int a)
  | [], _, _ => rfl
  | _ :: _, 0, _ => rfl
  | x :: t, i + 1, a => congrArg (Value.int x :: ·) (own_map_set t i a)
theorem own_inl {j : Int32} {l : List Int32} (h : ¬ j < 0 ∧ j < (12 : Int32)) (hl : l.length = 12) : j.toNatClampNeg < (l.map Value.int).length := by
  have q := nat_of h.1
  have r := h.2
  rw [Int32.lt_iff_toInt_lt, own_i12] at r
  rw [List.length_map, hl]
  omega
theorem own_fill_len (n : Nat) (sr : Int32) (v : Int64) (ln : Int32) : (own_fill n sr v ln).length = 12 := by
  induction n with
  | zero => rfl
  | succ n ih =>
    show (own_put sr v (Int32.ofNat n) ln (own_fill n sr v ln)).length = 12
    unfold own_put
    by_cases h : Int32.ofNat n < ln
    · rw [if_pos h, List.length_set, ih]
    · rw [if_neg h, ih]
theorem own_apnn {ap en ap' : Int32} (h1 : ap < en) (h : en.toInt ≤ 12) (hp : 0 ≤ ap.toInt) (ha : ap' = (ap + (1 : Int32))) : 0 ≤ ap'.toInt := by
  rw [Int32.lt_iff_toInt_lt] at h1
  have q := c_iadd ap (1 : Int32)
  have r := rng32 (ap + (1 : Int32))
  rw [own_i1] at q
  rw [ha]
  omega
theorem own_inb {ap en : Int32} (hp : 0 ≤ ap.toInt) (h1 : ap < en) (h : en.toInt ≤ 12) : ¬ ap < 0 ∧ ap < (12 : Int32) := by
  rw [Int32.lt_iff_toInt_lt] at h1
  rw [Int32.lt_iff_toInt_lt, Int32.lt_iff_toInt_lt, own_i0, own_i12]
  omega
theorem own_lnr {x n : Int32} (h : (((x &&& (2147483647 : Int32)) % (10 : Int32)) + (1 : Int32)) = n) : 1 ≤ n.toInt ∧ n.toInt ≤ 10 := by
  have q := c_mask x (2147483647 : Int32) 31 (by decide) (by decide)
  have e : ((2 ^ 31 : Nat) : Int) = 2147483648 := by decide
  rw [e] at q
  have q1 := (c_irem (x &&& (2147483647 : Int32)) (10 : Int32) 10 (by decide)).1 (by omega)
  have q2 := c_iadd ((x &&& (2147483647 : Int32)) % (10 : Int32)) (1 : Int32)
  have r := rng32 (((x &&& (2147483647 : Int32)) % (10 : Int32)) + (1 : Int32))
  rw [own_i1] at q2
  rw [← h]
  omega
theorem own_ctr {x n : Int32} (h : ((x &&& (2147483647 : Int32)) % (12 : Int32)) = n) : 0 ≤ n.toInt ∧ n.toInt ≤ 11 := by
  have q := c_mask x (2147483647 : Int32) 31 (by decide) (by decide)
  have e : ((2 ^ 31 : Nat) : Int) = 2147483648 := by decide
  rw [e] at q
  have q1 := (c_irem (x &&& (2147483647 : Int32)) (12 : Int32) 12 (by decide)).1 (by omega)
  rw [← h]
  omega
theorem own_srr {x n : Int32} (h : (x &&& (1 : Int32)) = n) : 0 ≤ n.toInt ∧ n.toInt ≤ 1 := by
  have q := c_mask x (1 : Int32) 1 (by decide) (by decide)
  have e : ((2 ^ 1 : Nat) : Int) = 2 := by decide
  rw [e, h] at q
  omega
theorem own_mbr {x n : Int32} (h : (x &&& (127 : Int32)) = n) : 0 ≤ n.toInt ∧ n.toInt ≤ 127 := by
  have q := c_mask x (127 : Int32) 7 (by decide) (by decide)
  have e : ((2 ^ 7 : Nat) : Int) = 128 := by decide
  rw [e, h] at q
  omega
theorem own_hj {sr ln : Int32} (hsr : 0 ≤ sr.toInt ∧ sr.toInt ≤ 1) (hln : 1 ≤ ln.toInt ∧ ln.toInt ≤ 10) (i : Int32) (hi : 0 ≤ i.toInt) : i < ln → ¬ (sr + i) < 0 ∧ (sr + i) < (12 : Int32) := by
  intro h
  rw [Int32.lt_iff_toInt_lt] at h
  have q := c_iadd sr i
  have r := rng32 (sr + i)
  rw [Int32.lt_iff_toInt_lt, Int32.lt_iff_toInt_lt, own_i0, own_i12]
  omega
theorem own_hj2 {sr ln : Int32} (hsr : 0 ≤ sr.toInt ∧ sr.toInt ≤ 1) (hln : 1 ≤ ln.toInt ∧ ln.toInt ≤ 10) : ¬ (sr + ln) < 0 ∧ (sr + ln) < (12 : Int32) := by
  have q := c_iadd sr ln
  have r := rng32 (sr + ln)
  rw [Int32.lt_iff_toInt_lt, Int32.lt_iff_toInt_lt, own_i0, own_i12]
  omega
theorem own_hr1 {sr ct en : Int32} (hsr : 0 ≤ sr.toInt ∧ sr.toInt ≤ 1) (hct : 0 ≤ ct.toInt ∧ ct.toInt ≤ 11) (hen : (sr + ct) = en) : 0 ≤ sr.toInt ∧ en.toInt ≤ 12 := by
  have q := c_iadd sr ct
  have r := rng32 (sr + ct)
  rw [hen] at q r
  omega
theorem own_rd_nn (n : Nat) (acc : Int64) (sh ap en : Int32) (zs : List Int32) (h : en.toInt ≤ 12) (hp : 0 ≤ ap.toInt) : 0 ≤ (own_rd n acc sh ap en zs).2.toInt := by
  induction n generalizing acc sh ap with
  | zero => exact hp
  | succ n ih =>
    by_cases h1 : ap < en
    · have hp' := own_apnn h1 h hp rfl
      by_cases h2 : zs.getD ap.toNatClampNeg 0 < (0 : Int32)
      · rw [own_rd_more h1 rfl h2 rfl rfl rfl]; exact ih _ _ _ hp'
      · rw [own_rd_end h1 rfl h2 rfl rfl]; exact hp'
    · rw [own_rd_stop h1]; exact hp
theorem own_hr2 {sr ct en ap1 : Int32} {zs : List Int32} (hsr : 0 ≤ sr.toInt ∧ sr.toInt ≤ 1) (hct : 0 ≤ ct.toInt ∧ ct.toInt ≤ 11) (hen : (sr + ct) = en) (hap : ap1 = (own_rd 9 (0 : Int64) (0 : Int32) sr en zs).2) : 0 ≤ ap1.toInt ∧ en.toInt ≤ 12 := by
  have q := own_hr1 hsr hct hen
  exact ⟨by rw [hap]; exact own_rd_nn _ _ _ _ _ _ q.2 q.1, q.2⟩
theorem own_set_get : ∀ (l : List Int32) (i j : Nat) (a : Int32), i < l.length → (l.set i a).getD j 0 = if i = j then a else l.getD j 0
  | [], _, _, _, h => absurd h (Nat.not_lt_zero _)
  | _ :: _, 0, 0, _, _ => by rw [if_pos rfl]; rfl
  | _ :: _, 0, j + 1, _, _ => by rw [if_neg (by omega)]; rfl
  | _ :: _, i + 1, 0, _, _ => by rw [if_neg (by omega)]; rfl
  | x :: t, i + 1, j + 1, a, h => by
    have q := own_set_get t i j a (Nat.lt_of_succ_lt_succ h)
    show (t.set i a).getD j 0 = if i + 1 = j + 1 then a else t.getD j 0
    rw [q]
    by_cases e : i = j
    · rw [if_pos e, if_pos (by omega)]
    · rw [if_neg e, if_neg (by omega)]
theorem own_ofn : ∀ n, n < 14 → (Int32.ofNat n).toInt = (n : Int) := by decide +kernel
theorem own_tn : ∀ n, n < 14 → (Int32.ofNat n).toNatClampNeg = n := by decide +kernel
theorem own_addn : ∀ a, a < 14 → ∀ b, b < 14 → a + b < 14 → Int32.ofNat a + Int32.ofNat b = Int32.ofNat (a + b) := by decide +kernel
theorem own_add1 : ∀ a, a < 13 → Int32.ofNat (a + 1) = Int32.ofNat a + (1 : Int32) := by decide +kernel
theorem own_olt : ∀ i, i < 14 → ∀ L, L < 14 → (Int32.ofNat i < Int32.ofNat L ↔ i < L) := by decide +kernel
theorem own_olt1 : ∀ i, i < 14 → ∀ L, L < 14 → 1 ≤ L → (Int32.ofNat i < Int32.ofNat L - (1 : Int32) ↔ i + 1 < L) := by decide +kernel
theorem own_mul7 : ∀ i, i < 14 → ((7 : Int32) * Int32.ofNat i).toInt = ((7 * i : Nat) : Int) := by decide +kernel
theorem own_sh7 : ∀ k, k < 9 → Int32.ofNat (7 * k) + (7 : Int32) = Int32.ofNat (7 * (k + 1)) := by decide +kernel
theorem own_sh : ∀ k, k < 10 → (Int32.ofNat (7 * k)).toInt = ((7 * k : Nat) : Int) := by decide +kernel
theorem own_nat {x : Int32} (B : Nat) (h0 : 0 ≤ x.toInt) (h1 : x.toInt ≤ (B : Int)) (hB : B < 14) : ∃ n, n ≤ B ∧ x = Int32.ofNat n ∧ x.toInt = (n : Int) := by
  refine ⟨x.toInt.toNat, by omega, ?_, by omega⟩
  rw [← Int32.toInt_inj, own_ofn _ (by omega)]
  omega
theorem own_fill_get {S L : Nat} (hS : S ≤ 1) (hL : L ≤ 10) (v : Int64) (n : Nat) (hn : n ≤ 10) (i : Nat) (hi : i < n) (hiL : i < L) : (own_fill n (Int32.ofNat S) v (Int32.ofNat L)).getD (S + i) 0 = own_g v (Int32.ofNat i) (Int32.ofNat L) := by
  induction n with
  | zero => omega
  | succ n ih =>
    show (own_put (Int32.ofNat S) v (Int32.ofNat n) (Int32.ofNat L) (own_fill n (Int32.ofNat S) v (Int32.ofNat L))).getD (S + i) 0 = _
    unfold own_put
    by_cases h : n < L
    · rw [if_pos ((own_olt n (by omega) L (by omega)).mpr h), own_addn S (by omega) n (by omega) (by omega), own_tn _ (by omega), own_set_get _ _ _ _ (by rw [own_fill_len]; omega)]
      by_cases e : i = n
      · rw [if_pos (by omega), e]
      · rw [if_neg (by omega)]; exact ih (by omega) (by omega)
    · rw [if_neg (fun q => h ((own_olt n (by omega) L (by omega)).mp q))]; exact ih (by omega) (by omega)
theorem own_arr_get {S L : Nat} (hS : S ≤ 1) (hL : L ≤ 10) (v : Int64) (mb : Int32) (i : Nat) (hi : i ≤ L) : (own_arr (Int32.ofNat S) v (Int32.ofNat L) mb).getD (S + i) 0 = if i < L then own_g v (Int32.ofNat i) (Int32.ofNat L) else ((mb.toInt8.toInt32).toInt8.toInt32) := by
  unfold own_arr
  rw [own_addn S (by omega) L (by omega) (by omega), own_tn _ (by omega), own_set_get _ _ _ _ (by rw [own_fill_len]; omega)]
  by_cases h : i < L
  · rw [if_pos h, if_neg (by omega)]; exact own_fill_get hS hL v 10 (by omega) i (by omega) h
  · rw [if_neg h, if_pos (by omega)]
theorem own_t8 (b : Int8) : b.toInt32.toInt8 = b := by simp
theorem own_l2ib (w : Int64) (i : Nat) (hi : i < 8) : w.toInt32.toBitVec.getLsbD i = w.toBitVec.getLsbD i := by
  have e : w.toInt32.toBitVec = w.toBitVec.signExtend 32 := rfl
  rw [e]
  rw [BitVec.getLsbD_signExtend, if_pos (show i < 64 by omega), decide_eq_true (show i < 32 by omega), Bool.true_and]
theorem own_b127 : ∀ i, i < 8 → (127 : Int64).toBitVec.getLsbD i = decide (i < 7) := by decide +kernel
theorem own_b128I : ∀ i, i < 8 → (128 : Int32).toBitVec.getLsbD i = decide (i = 7) := by decide +kernel
theorem own_c127 : ∀ t, t < 32 → (127 : Int32).toBitVec.getLsbD t = decide (t < 7) := by decide +kernel
theorem own_neg_iff (b : Int32) : b < (0 : Int32) ↔ b.toBitVec.getLsbD 31 = true := by
  rw [Int32.lt_iff_toInt_lt, own_i0]
  have e : b.toInt = b.toBitVec.toInt := rfl
  rw [e, BitVec.toInt_eq_msb_cond, BitVec.msb_eq_getLsbD_last]
  have l := b.toBitVec.isLt
  by_cases h : b.toBitVec.getLsbD 31 = true
  · rw [if_pos h]; exact ⟨fun _ => h, fun _ => by omega⟩
  · rw [if_neg h]; exact ⟨fun q => absurd q (by omega), fun q => absurd q h⟩
theorem own_byte1 (x : Int32) : (x.toInt8.toInt32) < (0 : Int32) ↔ x.toBitVec.getLsbD 7 = true := by
  rw [own_neg_iff]
  have e8 : (x.toInt8.toInt32).toBitVec = (x.toBitVec.signExtend 8).signExtend 32 := rfl
  rw [e8, BitVec.getLsbD_signExtend, if_neg (by decide), BitVec.msb_eq_getLsbD_last, BitVec.getLsbD_signExtend, if_pos (by decide)]
  simp
theorem own_byte2 (x : Int32) (t : Nat) (ht : t < 64) : (((x.toInt8.toInt32) &&& (127 : Int32)).toInt64).toBitVec.getLsbD t = (decide (t < 7) && x.toBitVec.getLsbD t) := by
  have e : ∀ y : Int32, (y.toInt64).toBitVec = y.toBitVec.signExtend 64 := fun _ => rfl
  have e8 : (x.toInt8.toInt32).toBitVec = (x.toBitVec.signExtend 8).signExtend 32 := rfl
  have m0 : ((x.toInt8.toInt32) &&& (127 : Int32)).toBitVec.msb = false := by
    rw [BitVec.msb_eq_getLsbD_last, Int32.toBitVec_and, BitVec.getLsbD_and, own_c127 _ (by decide)]
    simp
  rw [e, BitVec.getLsbD_signExtend, m0, Int32.toBitVec_and, BitVec.getLsbD_and, e8]
  by_cases h7 : t < 7
  · rw [own_c127 t (by omega)]
    rw [if_pos (show t < 32 by omega), decide_eq_true ht, decide_eq_true h7, Bool.and_true, Bool.true_and, Bool.true_and, BitVec.getLsbD_signExtend, if_pos (show t < 8 by omega), BitVec.getLsbD_signExtend, if_pos (show t < 32 by omega), decide_eq_true (show t < 32 by omega), decide_eq_true (show t < 8 by omega), Bool.true_and, Bool.true_and]
  · by_cases h32 : t < 32
    · rw [own_c127 t h32]; simp [h7, h32]
    · simp [h7, h32]
def own_By (b : Int32) (v : Int64) (i : Nat) (hi : Prop) : Prop := (b < (0 : Int32) ↔ hi) ∧ ∀ t, t < 64 → ((b &&& (127 : Int32)).toInt64).toBitVec.getLsbD t = (decide (t < 7) && v.toBitVec.getLsbD (7 * i + t))
theorem own_lowb (v : Int64) (i : Nat) (hi : i < 10) (t : Nat) (ht : t < 8) : ((((v.toUInt64 >>> (((7 : Int32) * Int32.ofNat i) &&& 0x3f).toInt64.toUInt64).toInt64) &&& (127 : Int64)).toInt32).toBitVec.getLsbD t = (decide (t < 7) && v.toBitVec.getLsbD (7 * i + t)) := by
  rw [own_l2ib _ t ht, Int64.toBitVec_and, BitVec.getLsbD_and, own_shr (own_mul7 i (by omega)) (by omega), BitVec.getLsbD_ushiftRight, own_b127 t ht, Bool.and_comm]
theorem own_g_by (v : Int64) (i L : Nat) (hi : i < 10) (hL : L ≤ 10) (h1 : 1 ≤ L) : own_By (own_g v (Int32.ofNat i) (Int32.ofNat L)) v i (i + 1 < L) := by
  unfold own_g
  rw [own_t8]
  by_cases hl : i + 1 < L
  · rw [if_pos ((own_olt1 i (by omega) L (by omega) h1).mpr hl)]
    refine ⟨?_, fun t ht => ?_⟩
    · rw [own_byte1, Int32.toBitVec_or, BitVec.getLsbD_or, own_b128I 7 (by decide)]
      simp [hl]
    · rw [own_byte2 _ t ht]
      by_cases h7 : t < 7
      · rw [Int32.toBitVec_or, BitVec.getLsbD_or, own_lowb v i hi t (by omega), own_b128I t (by omega)]
        simp [h7, show ¬ t = 7 by omega]
      · simp [h7]
  · rw [if_neg (fun q => hl ((own_olt1 i (by omega) L (by omega) h1).mp q))]
    refine ⟨?_, fun t ht => ?_⟩
    · rw [own_byte1, own_lowb v i hi 7 (by decide)]
      simp [hl]
    · rw [own_byte2 _ t ht]
      by_cases h7 : t < 7
      · rw [own_lowb v i hi t (by omega)]
        simp [h7]
      · simp [h7]
def own_Low (k : Nat) (v acc : Int64) : Prop := ∀ i, i < 64 → acc.toBitVec.getLsbD i = (decide (i < 7 * k) && v.toBitVec.getLsbD i)
theorem own_Low_step {k : Nat} {v acc c : Int64} (hk : k < 10) (h : own_Low k v acc) (hc : ∀ t, t < 64 → c.toBitVec.getLsbD t = (decide (t < 7) && v.toBitVec.getLsbD (7 * k + t))) : own_Low (k + 1) v (acc ||| (c <<< ((Int32.ofNat (7 * k)) &&& 0x3f).toInt64)) := by
  intro i hi
  rw [Int64.toBitVec_or, BitVec.getLsbD_or, h i hi, own_shl (own_sh k hk) (by omega), BitVec.getLsbD_shiftLeft]
  by_cases a : i < 7 * k
  · have b : i < 7 * (k + 1) := by omega
    simp [a, b]
  · rw [hc (i - 7 * k) (by omega), show 7 * k + (i - 7 * k) = i by omega]
    by_cases b : i < 7 * (k + 1)
    · have b2 : i - 7 * k < 7 := by omega
      simp [a, b, b2, hi]
    · have b2 : ¬ i - 7 * k < 7 := by omega
      simp [a, b, b2]
theorem own_Low0 (v : Int64) : own_Low 0 v (0 : Int64) := by
  intro i hi
  have e : (0 : Int64).toBitVec = 0#64 := rfl
  rw [e]; simp
theorem own_run {S L C : Nat} (hS : S ≤ 1) (hL : L ≤ 10) (hC : C ≤ 11) (v : Int64) (zs : List Int32) (hz : ∀ i, i < L → own_By (zs.getD (S + i) 0) v i (i + 1 < L)) (k : Nat) (h1 : k + 1 ≤ L) (h2 : k ≤ C) :
    ∃ acc, own_Low k v acc ∧ own_rd 9 (0 : Int64) (0 : Int32) (Int32.ofNat S) (Int32.ofNat (S + C)) zs = own_rd (9 - k) acc (Int32.ofNat (7 * k)) (Int32.ofNat (S + k)) (Int32.ofNat (S + C)) zs := by
  induction k with
  | zero => exact ⟨0, own_Low0 v, rfl⟩
  | succ k ih =>
    obtain ⟨acc, hl, e⟩ := ih (by omega) (by omega)
    obtain ⟨hn, hb⟩ := hz k (by omega)
    refine ⟨_, own_Low_step (by omega) hl hb, e.trans ?_⟩
    obtain ⟨n, hn'⟩ : ∃ n, 9 - k = n + 1 := ⟨8 - k, by omega⟩
    rw [hn', show 9 - (k + 1) = n by omega]
    exact own_rd_more ((own_olt _ (by omega) _ (by omega)).mpr (by omega)) (by rw [own_tn _ (by omega)]) (hn.mpr (by omega)) rfl (own_sh7 k (by omega)) (own_add1 (S + k) (by omega))
theorem own_low_eq {L : Nat} {v a : Int64} (hL : L ≤ 9) (h : own_Low L v a) : a = (v &&& (((1 : Int64) <<< (((7 : Int32) * Int32.ofNat L) &&& 0x3f).toInt64) - (1 : Int64))) := by
  apply own_ext
  intro i hi
  rw [h i hi, Int64.toBitVec_and, BitVec.getLsbD_and, own_mbit (own_mul7 L (by omega)) (by omega) i hi, Bool.and_comm]
theorem own_or0 (c : Int64) : ((0 : Int64) ||| (c <<< ((0 : Int32) &&& 0x3f).toInt64)) = c := by
  have e : (((0 : Int32) &&& 0x3f).toInt64) = (0 : Int64) := by decide
  rw [e]; simp
theorem own_mb8 {x : Int32} (h : 0 ≤ x.toInt ∧ x.toInt ≤ 127) : (x.toInt8.toInt32) = x := by
  have q := c_i2b x
  rw [← Int32.toInt_inj]
  omega
theorem own_mbm {x : Int32} (h : 0 ≤ x.toInt ∧ x.toInt ≤ 127) : (x &&& (127 : Int32)) = x := by
  have q := c_mask x (127 : Int32) 7 (by decide) (by decide)
  have e : ((2 ^ 7 : Nat) : Int) = 128 := by decide
  rw [e] at q
  rw [← Int32.toInt_inj]
  omega
theorem own_63 {c v : Int64} (hc : ∀ t, t < 64 → c.toBitVec.getLsbD t = (decide (t < 7) && v.toBitVec.getLsbD (7 * 9 + t))) : c = ((v.toUInt64 >>> ((63 : Int32) &&& 0x3f).toInt64.toUInt64).toInt64) := by
  apply own_ext
  intro i hi
  rw [hc i hi, own_shr (k := (63 : Int32)) (n := 63) (by decide) (by decide), BitVec.getLsbD_ushiftRight]
  by_cases h : i < 7
  · simp [h]
  · rw [BitVec.getLsbD_of_ge v.toBitVec (63 + i) (by omega)]; simp [h]
theorem own_stop0 {S C : Nat} {zs : List Int32} (h : S + C < 14) : own_rd 9 (0 : Int64) (0 : Int32) (Int32.ofNat (S + C)) (Int32.ofNat (S + C)) zs = ((-1 : Int64), Int32.ofNat (S + C)) :=
  own_rd_stop (n := 8) (fun q => Nat.lt_irrefl _ ((own_olt _ h _ h).mp q))
theorem own_one0 {S C j : Nat} {b : Int32} {zs : List Int32} (h : S + C < 14) (hj : S + j < S + C) (hb : zs.getD (S + j) 0 = b) (h2 : ¬ b < (0 : Int32)) : (own_rd 9 (0 : Int64) (0 : Int32) (Int32.ofNat (S + j)) (Int32.ofNat (S + C)) zs).1 = ((b &&& (127 : Int32)).toInt64) := by
  rw [own_rd_end (n := 8) ((own_olt _ (by omega) _ h).mpr hj) (by rw [own_tn _ (by omega), hb]) h2 rfl rfl]
  exact own_or0 _
theorem own_res {sr ln ct mb en ap1 : Int32} {v f1 f2 : Int64} (hsr : 0 ≤ sr.toInt ∧ sr.toInt ≤ 1) (hln : 1 ≤ ln.toInt ∧ ln.toInt ≤ 10) (hct : 0 ≤ ct.toInt ∧ ct.toInt ≤ 11) (hmb : 0 ≤ mb.toInt ∧ mb.toInt ≤ 127) (hen : (sr + ct) = en)
    (hf1 : (own_rd 9 (0 : Int64) (0 : Int32) sr en (own_arr sr v ln mb)).1 = f1) (hap1 : ap1 = (own_rd 9 (0 : Int64) (0 : Int32) sr en (own_arr sr v ln mb)).2) (hf2 : (own_rd 9 (0 : Int64) (0 : Int32) ap1 en (own_arr sr v ln mb)).1 = f2) :
    (¬ (9 : Int32) < ln → ¬ ct < ln → f1 = (v &&& (((1 : Int64) <<< (((7 : Int32) * ln) &&& 0x3f).toInt64) - (1 : Int64))) ∧ (ln < ct → f2 = (mb.toInt64)) ∧ (¬ ln < ct → f2 = (-1 : Int64))) ∧
    (¬ (9 : Int32) < ln → ct < ln → f1 = (-1 : Int64) ∧ f2 = (-1 : Int64)) ∧
    ((9 : Int32) < ln → f1 = (-1 : Int64) ∧ ((9 : Int32) < ct → f2 = ((v.toUInt64 >>> ((63 : Int32) &&& 0x3f).toInt64.toUInt64).toInt64)) ∧ (¬ (9 : Int32) < ct → f2 = (-1 : Int64))) := by
  obtain ⟨S, hS, rfl, -⟩ := own_nat 1 hsr.1 hsr.2 (by decide)
  obtain ⟨L, hL, rfl, eL⟩ := own_nat 10 (by omega) hln.2 (by decide)
  obtain ⟨C, hC, rfl, -⟩ := own_nat 11 hct.1 hct.2 (by decide)
  have hL1 : 1 ≤ L := by omega
  rw [own_addn S (by omega) C (by omega) (by omega)] at hen
  subst hen
  have n9 : (9 : Int32) = Int32.ofNat 9 := rfl
  rw [n9, own_olt 9 (by decide) L (by omega), own_olt C (by omega) L (by omega), own_olt L (by omega) C (by omega), own_olt 9 (by decide) C (by omega)]
  have hz : ∀ i, i < L → own_By ((own_arr (Int32.ofNat S) v (Int32.ofNat L) mb).getD (S + i) 0) v i (i + 1 < L) := by
    intro i hi
    rw [own_arr_get hS hL v mb i (by omega), if_pos hi]
    exact own_g_by v i L (by omega) hL hL1
  have hm : (own_arr (Int32.ofNat S) v (Int32.ofNat L) mb).getD (S + L) 0 = mb := by
    rw [own_arr_get hS hL v mb L (by omega), if_neg (by omega), own_mb8 hmb, own_mb8 hmb]
  have hm0 : ¬ mb < (0 : Int32) := by rw [Int32.lt_iff_toInt_lt, own_i0]; omega
  generalize own_arr (Int32.ofNat S) v (Int32.ofNat L) mb = zs at hf1 hap1 hf2 hz hm
  have cut : C + 1 ≤ L → C ≤ 8 → own_rd 9 (0 : Int64) (0 : Int32) (Int32.ofNat S) (Int32.ofNat (S + C)) zs = ((-1 : Int64), Int32.ofNat (S + C)) := by
    intro q1 q2
    obtain ⟨acc, -, e⟩ := own_run hS hL hC v zs hz C q1 (Nat.le_refl _)
    obtain ⟨n, hn⟩ : ∃ n, 9 - C = n + 1 := ⟨8 - C, by omega⟩
    rw [e, hn, own_rd_stop (fun q => Nat.lt_irrefl _ ((own_olt _ (by omega) _ (by omega)).mp q))]
  refine ⟨fun h9 hcl => ?_, fun h9 hcl => ?_, fun h9 => ?_⟩
  · obtain ⟨K, rfl⟩ : ∃ K, L = K + 1 := ⟨L - 1, by omega⟩
    obtain ⟨acc, hl, e⟩ := own_run hS hL hC v zs hz K (by omega) (by omega)
    obtain ⟨hn, hb⟩ := hz K (by omega)
    obtain ⟨n, hn'⟩ : ∃ n, 9 - K = n + 1 := ⟨8 - K, by omega⟩
    rw [hn', own_rd_end ((own_olt _ (by omega) _ (by omega)).mpr (by omega)) (by rw [own_tn _ (by omega)]) (fun q => absurd (hn.mp q) (by omega)) rfl (own_add1 (S + K) (by omega)).symm] at e
    have hl2 := own_Low_step (by omega) hl hb
    rw [e] at hf1 hap1
    refine ⟨?_, fun q => ?_, fun q => ?_⟩
    · rw [← hf1]; exact own_low_eq (by omega) hl2
    · rw [← hf2, hap1]
      have w := own_one0 (S := S) (C := C) (j := K + 1) (zs := zs) (by omega) (by omega) hm hm0
      rw [own_mbm hmb] at w
      exact w
    · have eC : K + 1 = C := by omega
      rw [← hf2, hap1]
      show (own_rd 9 (0 : Int64) (0 : Int32) (Int32.ofNat (S + (K + 1))) (Int32.ofNat (S + C)) zs).1 = _
      rw [eC, own_stop0 (by omega)]
  · have e := cut (by omega) (by omega)
    rw [e] at hf1 hap1
    refine ⟨hf1.symm, ?_⟩
    rw [← hf2, hap1]
    show (own_rd 9 (0 : Int64) (0 : Int32) (Int32.ofNat (S + C)) (Int32.ofNat (S + C)) zs).1 = _
    rw [own_stop0 (by omega)]
  · have eL10 : L = 10 := by omega
    subst eL10
    by_cases c8 : C ≤ 8
    · have e := cut (by omega) c8
      rw [e] at hf1 hap1
      refine ⟨hf1.symm, fun q => absurd q (by omega), fun _ => ?_⟩
      rw [← hf2, hap1]
      show (own_rd 9 (0 : Int64) (0 : Int32) (Int32.ofNat (S + C)) (Int32.ofNat (S + C)) zs).1 = _
      rw [own_stop0 (by omega)]
    · obtain ⟨acc, -, e⟩ := own_run hS hL hC v zs hz 9 (by omega) (by omega)
      have e2 : own_rd (9 - 9) acc (Int32.ofNat (7 * 9)) (Int32.ofNat (S + 9)) (Int32.ofNat (S + C)) zs = ((-1 : Int64), Int32.ofNat (S + 9)) := rfl
      rw [e, e2] at hf1 hap1
      refine ⟨hf1.symm, fun q => ?_, fun q => ?_⟩
      · obtain ⟨hn, hb⟩ := hz 9 (by omega)
        rw [← hf2, hap1]
        exact (own_one0 (S := S) (C := C) (j := 9) (zs := zs) (by omega) (by omega) rfl (fun q => absurd (hn.mp q) (by omega))).trans (own_63 hb)
      · have eC : 9 = C := by omega
        rw [← hf2, hap1]
        show (own_rd 9 (0 : Int64) (0 : Int32) (Int32.ofNat (S + 9)) (Int32.ofNat (S + C)) zs).1 = _
        rw [← eC, own_stop0 (by omega)]

theorem d1_0 : decode method_3_code 0 = .ok (.iload 4, 2) := by decide +kernel
theorem d1_2 : decode method_3_code 2 = .ok (.iload 5, 2) := by decide +kernel
theorem d1_4 : decode method_3_code 4 = .ok (.if_icmp .ge 43, 3) := by decide +kernel
theorem d1_7 : decode method_3_code 7 = .ok (.lload_n 2, 1) := by decide +kernel
theorem d1_8 : decode method_3_code 8 = .ok (.bipush 7, 2) := by decide +kernel
theorem d1_10 : decode method_3_code 10 = .ok (.iload 4, 2) := by decide +kernel
theorem d1_12 : decode method_3_code 12 = .ok (.imul, 1) := by decide +kernel
theorem d1_13 : decode method_3_code 13 = .ok (.lushr, 1) := by decide +kernel
theorem d1_14 : decode method_3_code 14 = .ok (.ldc2_w 25, 3) := by decide +kernel
theorem d1_17 : decode method_3_code 17 = .ok (.land, 1) := by decide +kernel
theorem d1_18 : decode method_3_code 18 = .ok (.l2i, 1) := by decide +kernel
theorem d1_19 : decode method_3_code 19 = .ok (.istore 6, 2) := by decide +kernel
theorem d1_21 : decode method_3_code 21 = .ok (.iload 4, 2) := by decide +kernel
theorem d1_23 : decode method_3_code 23 = .ok (.iload 5, 2) := by decide +kernel
theorem d1_25 : decode method_3_code 25 = .ok (.iconst 1, 1) := by decide +kernel
theorem d1_26 : decode method_3_code 26 = .ok (.isub, 1) := by decide +kernel
theorem d1_27 : decode method_3_code 27 = .ok (.if_icmp .ge 11, 3) := by decide +kernel
theorem d1_30 : decode method_3_code 30 = .ok (.iload 6, 2) := by decide +kernel
theorem d1_32 : decode method_3_code 32 = .ok (.sipush 128, 3) := by decide +kernel
theorem d1_35 : decode method_3_code 35 = .ok (.ior, 1) := by decide +kernel
theorem d1_36 : decode method_3_code 36 = .ok (.istore 6, 2) := by decide +kernel
theorem d1_38 : decode method_3_code 38 = .ok (.aload_n 0, 1) := by decide +kernel
theorem d1_39 : decode method_3_code 39 = .ok (.iload_n 1, 1) := by decide +kernel
theorem d1_40 : decode method_3_code 40 = .ok (.iload 4, 2) := by decide +kernel
theorem d1_42 : decode method_3_code 42 = .ok (.iadd, 1) := by decide +kernel
theorem d1_43 : decode method_3_code 43 = .ok (.iload 6, 2) := by decide +kernel
theorem d1_45 : decode method_3_code 45 = .ok (.i2b, 1) := by decide +kernel
theorem d1_46 : decode method_3_code 46 = .ok (.bastore, 1) := by decide +kernel
theorem d1_47 : decode method_3_code 47 = .ok (.return_, 1) := by decide +kernel
theorem pnput : plainName "com/example/skorr/skorr/index/VarintReaderReadPinLaw" = true := by first | (simp [plainName, overriddenIn]; done) | decide +kernel
theorem efput (m : MethodId) (z0 : Addr) (z1 : Int32) (z2 : Int64) (z3 : Int32) (z4 : Int32) : entryFrame m #[(.ref z0), (.int z1), (.long z2), (.int z3), (.int z4)] 7 = mkF m 0 #[.val (.ref z0), .val (.int z1), .val (.long z2), .second, .val (.int z3), .val (.int z4), .unset] [] := by first | (simp [entryFrame, mkF, argsToLocals, Value.category]; done) | rfl
def Qput (Z : State) (a : Addr) (x1 : Int32) (x2 : Int64) (x3 : Int32) (x4 : Int32) (kk : ClassId) (zs : List Int32) (h0 : Heap) (n0 : Nat) (v : Option Value) (h : Heap) (L : List Loc) : Prop := v = none ∧ Fr n0 L ∧ Keep h0 h [a] ∧ Arv Z h a kk .byte (12 : Int32) ((own_put x1 x2 x3 x4 zs).map Value.int) (.int (0 : Int32))
set_option maxRecDepth 65536 in
set_option maxHeartbeats 40000000 in
theorem rmput (l : Launch) (Z : State) (a0 : Array Value) (hw : ∀ d ∈ tables_1, d.before a0 Z = true) (ws : List Jvm.Cond) (a : Addr) (x1 : Int32) (x2 : Int64) (x3 : Int32) (x4 : Int32) (kk : ClassId) (zs : List Int32) (h0 : Heap) (n0 : Nat) (Z0 : n0 ≤ h0.size) (V_a : Arv Z h0 a kk .byte (12 : Int32) (zs.map Value.int) (.int (0 : Int32))) (g_a : n0 ≤ a) (hl : zs.length = 12) (hj : x3 < x4 → ¬ (x1 + x3) < 0 ∧ (x1 + x3) < (12 : Int32)) :
    MetFree l (⟨"com/example/skorr/skorr/index/VarintReaderReadPinLaw", "put", "([BIJII)V"⟩ : MethodName) (head1 (Jvm.Cond.code (⟨"com/example/skorr/skorr/index/VarintReaderReadPinLaw", "put", "([BIJII)V"⟩ : MethodName) method_3_code 7 none :: ws) ({ frames := 0, cells := 0, slots := 0, locals := 0 } : Room)) (fun ag U => ag = #[(.ref a), (.int x1), (.long x2), (.int x3), (.int x4)] ∧ Z.Warmed39 U.vm ∧ U.heap = h0) (fun _ _ _ _ _ => True) (fun _ U oc U' => ∃ v L, oc = .returned v ∧ Qput Z a x1 x2 x3 x4 kk zs h0 n0 v U'.heap L ∧ FrameEnd U oc U' L ({ frames := 0, cells := 0, slots := 0, locals := 0 } : Room).cells ({ frames := 0, cells := 0, slots := 0, locals := 0 } : Room).slots) := by
  refine MetFree.of_bodySF (plainFor_of_name pnput) hisR ?_
  intro p e s m args below meth c s₁ Bd hml0 hP hK
  obtain ⟨rfl, hZ, hh⟩ := hP
  have hx := Bd.exec
  have hby := Bd.bytes
  have hml : c.maxLocals = 7 := hml0
  have hown : s.vm.findClass "com/example/skorr/skorr/index/VarintReaderReadPinLaw" = some m.cls := findClass_of_methodNamed Bd.named
  have hnm := (name_of_methodNamed Bd.named Bd.method).1
  have X0 : Stand p l e ({ frames := 0, cells := 0, slots := 0, locals := 0 } : Room) s m #[(.ref a), (.int x1), (.long x2), (.int x3), (.int x4)] below meth c s₁ [] 0 0 := Stand.of_body Bd
  have e0 : s₁.heap = h0 := by rw [← hh, Bd.state]; rfl
  have N0 := Fr.nil n0
  show own_Go p e below (fun s₂ oc => ∃ v L, oc = .returned v ∧ Qput Z a x1 x2 x3 x4 kk zs h0 n0 v s₂.heap L ∧ FrameEnd s oc s₂ L ({ frames := 0, cells := 0, slots := 0, locals := 0 } : Room).cells ({ frames := 0, cells := 0, slots := 0, locals := 0 } : Room).slots) s₁ (entryFrame m #[(.ref a), (.int x1), (.long x2), (.int x3), (.int x4)] 7)
  refine own_Go.of (g' := mkF m 0 #[.val (.ref a), .val (.int x1), .val (.long x2), .second, .val (.int x3), .val (.int x4), .unset] []) (fun t k => castTop (efput m a x1 x2 x3 x4) k) ?_
  refine og_iload (pc' := 2) X0 hx (hb hby d1_0) rfl rfl ?_
  refine og_iload (pc' := 4) X0 hx (hb hby d1_2) rfl rfl ?_
  by_cases hc4_1 : x3 < x4
  · refine og_icmpNo (pc' := 7) X0 hx (hb hby d1_4) (tlt hc4_1).2.1 rfl ?_
    refine og_lloadN (pc' := 8) X0 hx (hb hby d1_7) rfl rfl ?_
    refine og_bipush (pc' := 10) (n := 7) X0 hx (hb hby d1_8) rfl rfl ?_
    refine og_iload (pc' := 12) X0 hx (hb hby d1_10) rfl rfl ?_
    refine og_imul (pc' := 13) X0 hx (hb hby d1_12) rfl ?_
    refine og_lushr (pc' := 14) X0 hx (hb hby d1_13) rfl ?_
    refine og_ldc2_w (pc' := 17) X0 hx (hb hby d1_14) hown (mvT hZ (hw _ (List.mem_of_getElem? (i := 6) rfl))) rfl ?_
    refine og_land (pc' := 18) X0 hx (hb hby d1_17) rfl ?_
    refine og_l2i (pc' := 19) X0 hx (hb hby d1_18) rfl ?_
    refine og_istore (pc' := 21) (L' := #[.val (.ref a), .val (.int x1), .val (.long x2), .second, .val (.int x3), .val (.int x4), .val (.int ((((x2.toUInt64 >>> (((7 : Int32) * x3) &&& 0x3f).toInt64.toUInt64).toInt64) &&& (127 : Int64)).toInt32))]) X0 hx (hb hby d1_19) rfl rfl ?_
    refine og_iload (pc' := 23) X0 hx (hb hby d1_21) rfl rfl ?_
    refine og_iload (pc' := 25) X0 hx (hb hby d1_23) rfl rfl ?_
    refine og_iconst (pc' := 26) (n := 1) X0 hx (hb hby d1_25) rfl rfl ?_
    refine og_isub (pc' := 27) X0 hx (hb hby d1_26) rfl ?_
    by_cases hc27_2 : x3 < (x4 - (1 : Int32))
    · refine og_icmpNo (pc' := 30) X0 hx (hb hby d1_27) (tlt hc27_2).2.1 rfl ?_
      refine og_iload (pc' := 32) X0 hx (hb hby d1_30) rfl rfl ?_
      refine og_sipush (pc' := 35) (n := 128) X0 hx (hb hby d1_32) rfl rfl ?_
      refine og_ior (pc' := 36) X0 hx (hb hby d1_35) rfl ?_
      refine og_istore (pc' := 38) (L' := #[.val (.ref a), .val (.int x1), .val (.long x2), .second, .val (.int x3), .val (.int x4), .val (.int (((((x2.toUInt64 >>> (((7 : Int32) * x3) &&& 0x3f).toInt64.toUInt64).toInt64) &&& (127 : Int64)).toInt32) ||| (128 : Int32)))]) X0 hx (hb hby d1_36) rfl rfl ?_
      refine og_aloadN (pc' := 39) X0 hx (hb hby d1_38) rfl rfl rfl ?_
      refine og_iloadN (pc' := 40) X0 hx (hb hby d1_39) rfl rfl ?_
      refine og_iload (pc' := 42) X0 hx (hb hby d1_40) rfl rfl ?_
      refine og_iadd (pc' := 43) X0 hx (hb hby d1_42) rfl ?_
      refine og_iload (pc' := 45) X0 hx (hb hby d1_43) rfl rfl ?_
      refine og_i2b (pc' := 46) X0 hx (hb hby d1_45) rfl ?_
      obtain ⟨cl1, Ar1, q1, S1, M1, H1, G1⟩ := id V_a
      have hin1 : ¬ ((x1 + x3) < 0 ∨ cl1.slots.size ≤ ((x1 + x3)).toNatClampNeg) := inb_of S1 (hj hc4_1)
      obtain ⟨T1, h1, X1, e1, W1, st1⟩ := stB X0 hx hZ e0 Ar1 (j := (x1 + x3)) hin1 (g := (mkF m 46 #[.val (.ref a), .val (.int x1), .val (.long x2), .second, .val (.int x3), .val (.int x4), .val (.int (((((x2.toUInt64 >>> (((7 : Int32) * x3) &&& 0x3f).toInt64.toUInt64).toInt64) &&& (127 : Int64)).toInt32) ||| (128 : Int32)))] [(.int ((((((x2.toUInt64 >>> (((7 : Int32) * x3) &&& 0x3f).toInt64.toUInt64).toInt64) &&& (127 : Int64)).toInt32) ||| (128 : Int32)).toInt8.toInt32)), (.int (x1 + x3)), (.ref a)])) rfl rfl (hb hby d1_46)
      have V1 : Arv Z h1 a kk .byte (12 : Int32) ((zs.set (x1 + x3).toNatClampNeg (((((((x2.toUInt64 >>> (((7 : Int32) * x3) &&& 0x3f).toInt64.toUInt64).toInt64) &&& (127 : Int64)).toInt32) ||| (128 : Int32)).toInt8.toInt32).toInt8.toInt32)).map Value.int) (.int (0 : Int32)) := (by rw [own_map_set]; exact Arv.set Ar1 q1 S1 M1 H1 G1 (fits_nar_byte _) W1 _ rfl (own_inl (hj hc4_1) hl))
      have K1 : Keep h0 h1 [a] := (Keep.refl h0 [a]).wr W1 (Or.inl (List.mem_of_getElem? (i := 0) rfl))
      have Z1 : n0 ≤ h1.size := Nat.le_trans Z0 K1.1
      have N1 := Fr.snoc X1 N0 g_a
      obtain ⟨J1, X1, N1⟩ := own_hide X1 N1
      refine own_Go.of (g' := (mkF m 47 #[.val (.ref a), .val (.int x1), .val (.long x2), .second, .val (.int x3), .val (.int x4), .val (.int (((((x2.toUInt64 >>> (((7 : Int32) * x3) &&& 0x3f).toInt64.toUInt64).toInt64) &&& (127 : Int64)).toInt32) ||| (128 : Int32)))] [])) (fun t k => st1 _ k) ?_
      obtain ⟨fs, hr, hrun, hended, hW, hsame⟩ := X1.leave (v := none) (fun _ => rfl) (BodyLoose.notSynchronized Bd)
      refine ⟨_, _, X1.returnOut hx Bd.returns (hb hby d1_47) hr, hrun, hended, none, _, rfl, ?_, ⟨_, rfl⟩, hW, hsame.mono (by decide) (by decide)⟩
      show Qput Z a x1 x2 x3 x4 kk zs h0 n0 _ T1.heap _
      rw [e1]
      exact ⟨rfl, N1, K1, (by unfold own_put own_g; rw [if_pos hc4_1, if_pos hc27_2]; exact V1)⟩
    · refine og_icmpYes (pc' := 38) X0 hx (hb hby d1_27) (flt hc27_2).2.1 (by decide) (by decide) ?_
      refine og_aloadN (pc' := 39) X0 hx (hb hby d1_38) rfl rfl rfl ?_
      refine og_iloadN (pc' := 40) X0 hx (hb hby d1_39) rfl rfl ?_
      refine og_iload (pc' := 42) X0 hx (hb hby d1_40) rfl rfl ?_
      refine og_iadd (pc' := 43) X0 hx (hb hby d1_42) rfl ?_
      refine og_iload (pc' := 45) X0 hx (hb hby d1_43) rfl rfl ?_
      refine og_i2b (pc' := 46) X0 hx (hb hby d1_45) rfl ?_
      obtain ⟨cl2, Ar2, q2, S2, M2, H2, G2⟩ := id V_a
      have hin2 : ¬ ((x1 + x3) < 0 ∨ cl2.slots.size ≤ ((x1 + x3)).toNatClampNeg) := inb_of S2 (hj hc4_1)
      obtain ⟨T2, h2, X2, e2, W2, st2⟩ := stB X0 hx hZ e0 Ar2 (j := (x1 + x3)) hin2 (g := (mkF m 46 #[.val (.ref a), .val (.int x1), .val (.long x2), .second, .val (.int x3), .val (.int x4), .val (.int ((((x2.toUInt64 >>> (((7 : Int32) * x3) &&& 0x3f).toInt64.toUInt64).toInt64) &&& (127 : Int64)).toInt32))] [(.int (((((x2.toUInt64 >>> (((7 : Int32) * x3) &&& 0x3f).toInt64.toUInt64).toInt64) &&& (127 : Int64)).toInt32).toInt8.toInt32)), (.int (x1 + x3)), (.ref a)])) rfl rfl (hb hby d1_46)
      have V2 : Arv Z h2 a kk .byte (12 : Int32) ((zs.set (x1 + x3).toNatClampNeg ((((((x2.toUInt64 >>> (((7 : Int32) * x3) &&& 0x3f).toInt64.toUInt64).toInt64) &&& (127 : Int64)).toInt32).toInt8.toInt32).toInt8.toInt32)).map Value.int) (.int (0 : Int32)) := (by rw [own_map_set]; exact Arv.set Ar2 q2 S2 M2 H2 G2 (fits_nar_byte _) W2 _ rfl (own_inl (hj hc4_1) hl))
      have K2 : Keep h0 h2 [a] := (Keep.refl h0 [a]).wr W2 (Or.inl (List.mem_of_getElem? (i := 0) rfl))
      have Z2 : n0 ≤ h2.size := Nat.le_trans Z0 K2.1
      have N2 := Fr.snoc X2 N0 g_a
      obtain ⟨J2, X2, N2⟩ := own_hide X2 N2
      refine own_Go.of (g' := (mkF m 47 #[.val (.ref a), .val (.int x1), .val (.long x2), .second, .val (.int x3), .val (.int x4), .val (.int ((((x2.toUInt64 >>> (((7 : Int32) * x3) &&& 0x3f).toInt64.toUInt64).toInt64) &&& (127 : Int64)).toInt32))] [])) (fun t k => st2 _ k) ?_
      obtain ⟨fs, hr, hrun, hended, hW, hsame⟩ := X2.leave (v := none) (fun _ => rfl) (BodyLoose.notSynchronized Bd)
      refine ⟨_, _, X2.returnOut hx Bd.returns (hb hby d1_47) hr, hrun, hended, none, _, rfl, ?_, ⟨_, rfl⟩, hW, hsame.mono (by decide) (by decide)⟩
      show Qput Z a x1 x2 x3 x4 kk zs h0 n0 _ T2.heap _
      rw [e2]
      exact ⟨rfl, N2, K2, (by unfold own_put own_g; rw [if_pos hc4_1, if_neg hc27_2]; exact V2)⟩
  · refine og_icmpYes (pc' := 47) X0 hx (hb hby d1_4) (flt hc4_1).2.1 (by decide) (by decide) ?_
    obtain ⟨fs, hr, hrun, hended, hW, hsame⟩ := X0.leave (v := none) (fun _ => rfl) (BodyLoose.notSynchronized Bd)
    refine ⟨_, _, X0.returnOut hx Bd.returns (hb hby d1_47) hr, hrun, hended, none, _, rfl, ?_, ⟨_, rfl⟩, hW, hsame.mono (by decide) (by decide)⟩
    show Qput Z a x1 x2 x3 x4 kk zs h0 n0 _ s₁.heap _
    rw [e0]
    exact ⟨rfl, N0, (Keep.refl h0 [a]), (by unfold own_put; rw [if_neg hc4_1]; exact V_a)⟩

theorem d4_0 : decode prog_30_method_2_code 0 = .ok (.aload_n 0, 1) := by decide +kernel
theorem d4_1 : decode prog_30_method_2_code 1 = .ok (.aload_n 1, 1) := by decide +kernel
theorem d4_2 : decode prog_30_method_2_code 2 = .ok (.putfield 13, 3) := by decide +kernel
theorem d4_5 : decode prog_30_method_2_code 5 = .ok (.aload_n 0, 1) := by decide +kernel
theorem d4_6 : decode prog_30_method_2_code 6 = .ok (.iload_n 2, 1) := by decide +kernel
theorem d4_7 : decode prog_30_method_2_code 7 = .ok (.putfield 17, 3) := by decide +kernel
theorem d4_10 : decode prog_30_method_2_code 10 = .ok (.aload_n 0, 1) := by decide +kernel
theorem d4_11 : decode prog_30_method_2_code 11 = .ok (.iload_n 3, 1) := by decide +kernel
theorem d4_12 : decode prog_30_method_2_code 12 = .ok (.putfield 21, 3) := by decide +kernel
theorem d4_15 : decode prog_30_method_2_code 15 = .ok (.return_, 1) := by decide +kernel
theorem pnrs : plainName "com/example/skorr/skorr/index/VarintReader" = true := by first | (simp [plainName, overriddenIn]; done) | decide +kernel
theorem efrs (m : MethodId) (z0 : Addr) (z1 : Addr) (z2 : Int32) (z3 : Int32) : entryFrame m #[(.ref z0), (.ref z1), (.int z2), (.int z3)] 4 = mkF m 0 #[.val (.ref z0), .val (.ref z1), .val (.int z2), .val (.int z3)] [] := by first | (simp [entryFrame, mkF, argsToLocals, Value.category]; done) | rfl
def Qrs (Z : State) (o : Addr) (b : Addr) (p1 : Int32) (p2 : Int32) (u0 : Value) (u1 : Value) (u2 : Value) (h0 : Heap) (n0 : Nat) (v : Option Value) (h : Heap) (L : List Loc) : Prop := v = none ∧ Fr n0 L ∧ Keep h0 h [o] ∧ Exa Z h o "com/example/skorr/skorr/index/VarintReader" ∧ Fld Z h o "com/example/skorr/skorr/index/VarintReader" "bytes" "[B" (.ref b) ∧ Fld Z h o "com/example/skorr/skorr/index/VarintReader" "at" "I" (.int p1) ∧ Fld Z h o "com/example/skorr/skorr/index/VarintReader" "end" "I" (.int p2)
set_option maxRecDepth 65536 in
set_option maxHeartbeats 40000000 in
theorem rmrs (l : Launch) (Z : State) (a0 : Array Value) (hw : ∀ d ∈ tables_1, d.before a0 Z = true) (ws : List Jvm.Cond) (o : Addr) (b : Addr) (p1 : Int32) (p2 : Int32) (u0 : Value) (u1 : Value) (u2 : Value) (h0 : Heap) (n0 : Nat) (Z0 : n0 ≤ h0.size) (E_o : Exa Z h0 o "com/example/skorr/skorr/index/VarintReader") (F0_o : Fld Z h0 o "com/example/skorr/skorr/index/VarintReader" "bytes" "[B" u0) (F1_o : Fld Z h0 o "com/example/skorr/skorr/index/VarintReader" "at" "I" u1) (F2_o : Fld Z h0 o "com/example/skorr/skorr/index/VarintReader" "end" "I" u2) (g_o : n0 ≤ o) :
    MetFree l (⟨"com/example/skorr/skorr/index/VarintReader", "reset", "([BII)V"⟩ : MethodName) (head1 (Jvm.Cond.code (⟨"com/example/skorr/skorr/index/VarintReader", "reset", "([BII)V"⟩ : MethodName) prog_30_method_2_code 4 none :: ws) ({ frames := 0, cells := 0, slots := 0, locals := 0 } : Room)) (fun ag U => ag = #[(.ref o), (.ref b), (.int p1), (.int p2)] ∧ Z.Warmed39 U.vm ∧ U.heap = h0) (fun _ _ _ _ _ => True) (fun _ U oc U' => ∃ v L, oc = .returned v ∧ Qrs Z o b p1 p2 u0 u1 u2 h0 n0 v U'.heap L ∧ FrameEnd U oc U' L ({ frames := 0, cells := 0, slots := 0, locals := 0 } : Room).cells ({ frames := 0, cells := 0, slots := 0, locals := 0 } : Room).slots) := by
  refine MetFree.of_bodySF (plainFor_of_name pnrs) hisR ?_
  intro p e s m args below meth c s₁ Bd hml0 hP hK
  obtain ⟨rfl, hZ, hh⟩ := hP
  have hx := Bd.exec
  have hby := Bd.bytes
  have hml : c.maxLocals = 4 := hml0
  have hown : s.vm.findClass "com/example/skorr/skorr/index/VarintReader" = some m.cls := findClass_of_methodNamed Bd.named
  have hnm := (name_of_methodNamed Bd.named Bd.method).1
  have X0 : Stand p l e ({ frames := 0, cells := 0, slots := 0, locals := 0 } : Room) s m #[(.ref o), (.ref b), (.int p1), (.int p2)] below meth c s₁ [] 0 0 := Stand.of_body Bd
  have e0 : s₁.heap = h0 := by rw [← hh, Bd.state]; rfl
  have N0 := Fr.nil n0
  show own_Go p e below (fun s₂ oc => ∃ v L, oc = .returned v ∧ Qrs Z o b p1 p2 u0 u1 u2 h0 n0 v s₂.heap L ∧ FrameEnd s oc s₂ L ({ frames := 0, cells := 0, slots := 0, locals := 0 } : Room).cells ({ frames := 0, cells := 0, slots := 0, locals := 0 } : Room).slots) s₁ (entryFrame m #[(.ref o), (.ref b), (.int p1), (.int p2)] 4)
  refine own_Go.of (g' := mkF m 0 #[.val (.ref o), .val (.ref b), .val (.int p1), .val (.int p2)] []) (fun t k => castTop (efrs m o b p1 p2) k) ?_
  refine og_aloadN (pc' := 1) X0 hx (hb hby d4_0) rfl rfl rfl ?_
  refine og_aloadN (pc' := 2) X0 hx (hb hby d4_1) rfl rfl rfl ?_
  obtain ⟨T1, h1, X1, e1, W1, st1⟩ := putF X0 hx hZ hown (host := "") (Or.inl (hw _ (List.mem_of_getElem? (i := 21) rfl))) Via.refl e0 F0_o E_o (Or.inl (hw _ (List.mem_of_getElem? (i := 22) rfl))) (hw _ (List.mem_of_getElem? (i := 8) rfl)) (ty := (.array .byte)) (by decide) rfl rfl (g := (mkF m 2 #[.val (.ref o), .val (.ref b), .val (.int p1), .val (.int p2)] [(.ref b), (.ref o)])) rfl rfl (hb hby d4_2)
  have w1 : Fld Z h1 o "com/example/skorr/skorr/index/VarintReader" "bytes" "[B" (.ref b) := F0_o.same W1
  have f1_0 := E_o.wr W1
  have f1_1 := F1_o.other W1 (Or.inr (slot_ne (a0 := a0) (C := "com/example/skorr/skorr/index/VarintReader") (Or.inl (hw _ (List.mem_of_getElem? (i := 24) rfl))) (Or.inl (hw _ (List.mem_of_getElem? (i := 22) rfl))) (by decide) (t := .int) (t' := (.array .byte)) (by decide) (by decide)))
  have f1_2 := F2_o.other W1 (Or.inr (slot_ne (a0 := a0) (C := "com/example/skorr/skorr/index/VarintReader") (Or.inl (hw _ (List.mem_of_getElem? (i := 26) rfl))) (Or.inl (hw _ (List.mem_of_getElem? (i := 22) rfl))) (by decide) (t := .int) (t' := (.array .byte)) (by decide) (by decide)))
  have K1 : Keep h0 h1 [o] := (Keep.refl h0 [o]).wr W1 (Or.inl (List.mem_of_getElem? (i := 0) rfl))
  have Z1 : n0 ≤ h1.size := Nat.le_trans Z0 K1.1
  have N1 := Fr.snoc X1 N0 g_o
  obtain ⟨J1, X1, N1⟩ := own_hide X1 N1
  refine own_Go.of (g' := (mkF m 5 #[.val (.ref o), .val (.ref b), .val (.int p1), .val (.int p2)] [])) (fun t k => st1 _ k) ?_
  refine og_aloadN (pc' := 6) X1 hx (hb hby d4_5) rfl rfl rfl ?_
  refine og_iloadN (pc' := 7) X1 hx (hb hby d4_6) rfl rfl ?_
  obtain ⟨T2, h2, X2, e2, W2, st2⟩ := putF X1 hx hZ hown (host := "") (Or.inl (hw _ (List.mem_of_getElem? (i := 23) rfl))) Via.refl e1 f1_1 f1_0 (Or.inl (hw _ (List.mem_of_getElem? (i := 24) rfl))) (hw _ (List.mem_of_getElem? (i := 8) rfl)) (ty := .int) (by decide) rfl rfl (g := (mkF m 7 #[.val (.ref o), .val (.ref b), .val (.int p1), .val (.int p2)] [(.int p1), (.ref o)])) rfl rfl (hb hby d4_7)
  have w2 : Fld Z h2 o "com/example/skorr/skorr/index/VarintReader" "at" "I" (.int p1) := f1_1.same W2
  have f2_0 := f1_0.wr W2
  have f2_1 := f1_2.other W2 (Or.inr (slot_ne (a0 := a0) (C := "com/example/skorr/skorr/index/VarintReader") (Or.inl (hw _ (List.mem_of_getElem? (i := 26) rfl))) (Or.inl (hw _ (List.mem_of_getElem? (i := 24) rfl))) (by decide) (t := .int) (t' := .int) (by decide) (by decide)))
  have f2_3 := w1.other W2 (Or.inr (slot_ne (a0 := a0) (C := "com/example/skorr/skorr/index/VarintReader") (Or.inl (hw _ (List.mem_of_getElem? (i := 22) rfl))) (Or.inl (hw _ (List.mem_of_getElem? (i := 24) rfl))) (by decide) (t := (.array .byte)) (t' := .int) (by decide) (by decide)))
  have K2 : Keep h0 h2 [o] := K1.wr W2 (Or.inl (List.mem_of_getElem? (i := 0) rfl))
  have Z2 : n0 ≤ h2.size := Nat.le_trans Z0 K2.1
  have N2 := Fr.snoc X2 N1 g_o
  obtain ⟨J2, X2, N2⟩ := own_hide X2 N2
  refine own_Go.of (g' := (mkF m 10 #[.val (.ref o), .val (.ref b), .val (.int p1), .val (.int p2)] [])) (fun t k => st2 _ k) ?_
  refine og_aloadN (pc' := 11) X2 hx (hb hby d4_10) rfl rfl rfl ?_
  refine og_iloadN (pc' := 12) X2 hx (hb hby d4_11) rfl rfl ?_
  obtain ⟨T3, h3, X3, e3, W3, st3⟩ := putF X2 hx hZ hown (host := "") (Or.inl (hw _ (List.mem_of_getElem? (i := 25) rfl))) Via.refl e2 f2_1 f2_0 (Or.inl (hw _ (List.mem_of_getElem? (i := 26) rfl))) (hw _ (List.mem_of_getElem? (i := 8) rfl)) (ty := .int) (by decide) rfl rfl (g := (mkF m 12 #[.val (.ref o), .val (.ref b), .val (.int p1), .val (.int p2)] [(.int p2), (.ref o)])) rfl rfl (hb hby d4_12)
  have w3 : Fld Z h3 o "com/example/skorr/skorr/index/VarintReader" "end" "I" (.int p2) := f2_1.same W3
  have f3_0 := f2_0.wr W3
  have f3_2 := f2_3.other W3 (Or.inr (slot_ne (a0 := a0) (C := "com/example/skorr/skorr/index/VarintReader") (Or.inl (hw _ (List.mem_of_getElem? (i := 22) rfl))) (Or.inl (hw _ (List.mem_of_getElem? (i := 26) rfl))) (by decide) (t := (.array .byte)) (t' := .int) (by decide) (by decide)))
  have f3_3 := w2.other W3 (Or.inr (slot_ne (a0 := a0) (C := "com/example/skorr/skorr/index/VarintReader") (Or.inl (hw _ (List.mem_of_getElem? (i := 24) rfl))) (Or.inl (hw _ (List.mem_of_getElem? (i := 26) rfl))) (by decide) (t := .int) (t' := .int) (by decide) (by decide)))
  have K3 : Keep h0 h3 [o] := K2.wr W3 (Or.inl (List.mem_of_getElem? (i := 0) rfl))
  have Z3 : n0 ≤ h3.size := Nat.le_trans Z0 K3.1
  have N3 := Fr.snoc X3 N2 g_o
  obtain ⟨J3, X3, N3⟩ := own_hide X3 N3
  refine own_Go.of (g' := (mkF m 15 #[.val (.ref o), .val (.ref b), .val (.int p1), .val (.int p2)] [])) (fun t k => st3 _ k) ?_
  obtain ⟨fs, hr, hrun, hended, hW, hsame⟩ := X3.leave (v := none) (fun _ => rfl) (BodyLoose.notSynchronized Bd)
  refine ⟨_, _, X3.returnOut hx Bd.returns (hb hby d4_15) hr, hrun, hended, none, _, rfl, ?_, ⟨_, rfl⟩, hW, hsame.mono (by decide) (by decide)⟩
  show Qrs Z o b p1 p2 u0 u1 u2 h0 n0 _ T3.heap _
  rw [e3]
  exact ⟨rfl, N3, K3, f3_0, f3_2, f3_3, w3⟩

theorem d2_0 : decode prog_30_method_1_code 0 = .ok (.aload_n 0, 1) := by decide +kernel
theorem d2_1 : decode prog_30_method_1_code 1 = .ok (.invokespecial 1, 3) := by decide +kernel
theorem d2_4 : decode prog_30_method_1_code 4 = .ok (.aload_n 0, 1) := by decide +kernel
theorem d2_5 : decode prog_30_method_1_code 5 = .ok (.aload_n 1, 1) := by decide +kernel
theorem d2_6 : decode prog_30_method_1_code 6 = .ok (.iload_n 2, 1) := by decide +kernel
theorem d2_7 : decode prog_30_method_1_code 7 = .ok (.iload_n 3, 1) := by decide +kernel
theorem d2_8 : decode prog_30_method_1_code 8 = .ok (.invokevirtual 7, 3) := by decide +kernel
theorem d2_11 : decode prog_30_method_1_code 11 = .ok (.return_, 1) := by decide +kernel
theorem pnini : plainName "com/example/skorr/skorr/index/VarintReader" = true := by first | (simp [plainName, overriddenIn]; done) | decide +kernel
theorem pd_0 : parseMethodDescriptor "([BII)V" = some ⟨[(.array .byte), .int, .int], none⟩ := by decide +kernel
theorem efini (m : MethodId) (z0 : Addr) (z1 : Addr) (z2 : Int32) (z3 : Int32) : entryFrame m #[(.ref z0), (.ref z1), (.int z2), (.int z3)] 4 = mkF m 0 #[.val (.ref z0), .val (.ref z1), .val (.int z2), .val (.int z3)] [] := by first | (simp [entryFrame, mkF, argsToLocals, Value.category]; done) | rfl
def Qini (Z : State) (o : Addr) (b : Addr) (p1 : Int32) (p2 : Int32) (u0 : Value) (u1 : Value) (u2 : Value) (h0 : Heap) (n0 : Nat) (v : Option Value) (h : Heap) (L : List Loc) : Prop := v = none ∧ Fr n0 L ∧ Keep h0 h [o] ∧ Exa Z h o "com/example/skorr/skorr/index/VarintReader" ∧ Fld Z h o "com/example/skorr/skorr/index/VarintReader" "bytes" "[B" (.ref b) ∧ Fld Z h o "com/example/skorr/skorr/index/VarintReader" "at" "I" (.int p1) ∧ Fld Z h o "com/example/skorr/skorr/index/VarintReader" "end" "I" (.int p2)
set_option maxRecDepth 65536 in
set_option maxHeartbeats 40000000 in
theorem rmini (l : Launch) (Z : State) (a0 : Array Value) (hw : ∀ d ∈ tables_1, d.before a0 Z = true) (ws : List Jvm.Cond) (o : Addr) (b : Addr) (p1 : Int32) (p2 : Int32) (u0 : Value) (u1 : Value) (u2 : Value) (h0 : Heap) (n0 : Nat) (Z0 : n0 ≤ h0.size) (E_o : Exa Z h0 o "com/example/skorr/skorr/index/VarintReader") (F0_o : Fld Z h0 o "com/example/skorr/skorr/index/VarintReader" "bytes" "[B" u0) (F1_o : Fld Z h0 o "com/example/skorr/skorr/index/VarintReader" "at" "I" u1) (F2_o : Fld Z h0 o "com/example/skorr/skorr/index/VarintReader" "end" "I" u2) (g_o : n0 ≤ o) :
    MetFree l (⟨"com/example/skorr/skorr/index/VarintReader", "<init>", "([BII)V"⟩ : MethodName) (head1 (Jvm.Cond.code (⟨"com/example/skorr/skorr/index/VarintReader", "<init>", "([BII)V"⟩ : MethodName) prog_30_method_1_code 4 none :: ws) ({ frames := 1, cells := 0, slots := 0, locals := 15 } : Room)) (fun ag U => ag = #[(.ref o), (.ref b), (.int p1), (.int p2)] ∧ Z.Warmed39 U.vm ∧ U.heap = h0) (fun _ _ _ _ _ => True) (fun _ U oc U' => ∃ v L, oc = .returned v ∧ Qini Z o b p1 p2 u0 u1 u2 h0 n0 v U'.heap L ∧ FrameEnd U oc U' L ({ frames := 1, cells := 0, slots := 0, locals := 15 } : Room).cells ({ frames := 1, cells := 0, slots := 0, locals := 15 } : Room).slots) := by
  refine MetFree.of_bodySF (plainFor_of_name pnini) hisR ?_
  intro p e s m args below meth c s₁ Bd hml0 hP hK
  obtain ⟨rfl, hZ, hh⟩ := hP
  have hx := Bd.exec
  have hby := Bd.bytes
  have hml : c.maxLocals = 4 := hml0
  have hown : s.vm.findClass "com/example/skorr/skorr/index/VarintReader" = some m.cls := findClass_of_methodNamed Bd.named
  have hnm := (name_of_methodNamed Bd.named Bd.method).1
  have X0 : Stand p l e ({ frames := 1, cells := 0, slots := 0, locals := 15 } : Room) s m #[(.ref o), (.ref b), (.int p1), (.int p2)] below meth c s₁ [] 0 0 := Stand.of_body Bd
  have e0 : s₁.heap = h0 := by rw [← hh, Bd.state]; rfl
  have N0 := Fr.nil n0
  show own_Go p e below (fun s₂ oc => ∃ v L, oc = .returned v ∧ Qini Z o b p1 p2 u0 u1 u2 h0 n0 v s₂.heap L ∧ FrameEnd s oc s₂ L ({ frames := 1, cells := 0, slots := 0, locals := 15 } : Room).cells ({ frames := 1, cells := 0, slots := 0, locals := 15 } : Room).slots) s₁ (entryFrame m #[(.ref o), (.ref b), (.int p1), (.int p2)] 4)
  refine own_Go.of (g' := mkF m 0 #[.val (.ref o), .val (.ref b), .val (.int p1), .val (.int p2)] []) (fun t k => castTop (efini m o b p1 p2) k) ?_
  refine og_aloadN (pc' := 1) X0 hx (hb hby d2_0) rfl rfl rfl ?_
  obtain ⟨T1, X1, e1, st1⟩ := initO X0 hx hZ hown (hw _ (List.mem_of_getElem? (i := 13) rfl)) (hw _ (List.mem_of_getElem? (i := 14) rfl)) (hw _ (List.mem_of_getElem? (i := 15) rfl)) e0 (g := (mkF m 1 #[.val (.ref o), .val (.ref b), .val (.int p1), .val (.int p2)] [(.ref o)])) rfl (by rw [hml]; rfl) rfl (hb hby d2_1) (by decide) (W := 0) (by show 2 * 0 + _ ≤ _; exact Nat.le_of_eq rfl) (by decide)
  refine own_Go.of (g' := (mkF m 4 #[.val (.ref o), .val (.ref b), .val (.int p1), .val (.int p2)] [])) (fun t k => st1 _ k) ?_
  refine og_aloadN (pc' := 5) X1 hx (hb hby d2_4) rfl rfl rfl ?_
  refine og_aloadN (pc' := 6) X1 hx (hb hby d2_5) rfl rfl rfl ?_
  refine og_iloadN (pc' := 7) X1 hx (hb hby d2_6) rfl rfl ?_
  refine og_iloadN (pc' := 8) X1 hx (hb hby d2_7) rfl rfl ?_
  obtain ⟨cq2, kq2, q2a, q2b, q2c⟩ := isOf hZ e1 E_o
  obtain ⟨_, _, ⟨T2, L2, k2, n2⟩, -, X2, ⟨Lc2, hQ2, l2, y2, z2⟩, st2⟩ := X1.virtualBack hx (y := (⟨"com/example/skorr/skorr/index/VarintReader", "reset", "([BII)V"⟩ : MethodName)) (z := (⟨"com/example/skorr/skorr/index/VarintReader", "reset", "([BII)V"⟩ : MethodName)) hown (mvT hZ (hw _ (List.mem_of_getElem? (i := 16) rfl))) (mvT hZ (hw _ (List.mem_of_getElem? (i := 17) rfl))) (notFace_of_selects (args := #[]) (mvT hZ (hw _ (List.mem_of_getElem? (i := 19) rfl)))) (mvT hZ (hw _ (List.mem_of_getElem? (i := 19) rfl))) (mvT hZ (hw _ (List.mem_of_getElem? (i := 18) rfl))) (by decide) (backOf (W := 0) (rmrs l Z a0 hw [] o b p1 p2 u0 u1 u2 h0 n0 Z0 E_o F0_o F1_o F2_o g_o) hZ (hw _ (List.mem_of_getElem? (i := 20) rfl)) (hw _ (List.mem_of_getElem? (i := 9) rfl)) (by decide) (by decide)) q2a q2c (g := (mkF m 8 #[.val (.ref o), .val (.ref b), .val (.int p1), .val (.int p2)] [(.int p2), (.int p1), (.ref b), (.ref o)])) rfl (by rw [hml]; rfl) (Steps.refl _) (argsL := [(.ref b), (.int p1), (.int p2)]) (rest := []) (lenOf pd_0 rfl) rfl (by show 2 * 0 + _ ≤ _; exact Nat.le_of_eq rfl) (hb hby d2_8) (fun _ _ => ⟨rfl, e1, (by decide : 0 + 0 ≤ _), (by decide : 0 + 0 ≤ _)⟩)
  dsimp only [Pt.U, Pt.locs, Pt.cells, Pt.slots] at X2 l2 y2 z2 st2 hQ2
  subst l2 y2 z2
  obtain ⟨rfl, N2q, K2q, c2_0, c2_1, c2_2, c2_3⟩ := hQ2
  have N2 := Fr.app N0 N2q
  obtain ⟨J2, X2, N2⟩ := own_hide X2 N2
  have f2_0 := E_o.keep K2q
  have K2 : Keep h0 T2.heap [o] := (Keep.refl h0 [o]).trans K2q (allS (Or.inl (List.mem_of_getElem? (i := 0) rfl)) all0)
  have Z2 : n0 ≤ T2.heap.size := Nat.le_trans Z0 K2.1
  refine own_Go.of (g' := (mkF m 11 #[.val (.ref o), .val (.ref b), .val (.int p1), .val (.int p2)] [])) (fun t k => st2.trans k) ?_
  obtain ⟨fs, hr, hrun, hended, hW, hsame⟩ := X2.leave (v := none) (fun _ => rfl) (BodyLoose.notSynchronized Bd)
  refine ⟨_, _, X2.returnOut hx Bd.returns (hb hby d2_11) hr, hrun, hended, none, _, rfl, ?_, ⟨_, rfl⟩, hW, hsame.mono (by decide) (by decide)⟩
  show Qini Z o b p1 p2 u0 u1 u2 h0 n0 _ T2.heap _
  exact ⟨rfl, N2, K2, c2_0, c2_1, c2_2, c2_3⟩

theorem d5_0 : decode prog_30_method_4_code 0 = .ok (.lconst 0, 1) := by decide +kernel
theorem d5_1 : decode prog_30_method_4_code 1 = .ok (.lstore_n 1, 1) := by decide +kernel
theorem d5_2 : decode prog_30_method_4_code 2 = .ok (.iconst 0, 1) := by decide +kernel
theorem d5_3 : decode prog_30_method_4_code 3 = .ok (.istore_n 3, 1) := by decide +kernel
theorem d5_4 : decode prog_30_method_4_code 4 = .ok (.aload_n 0, 1) := by decide +kernel
theorem d5_5 : decode prog_30_method_4_code 5 = .ok (.getfield 17, 3) := by decide +kernel
theorem d5_8 : decode prog_30_method_4_code 8 = .ok (.aload_n 0, 1) := by decide +kernel
theorem d5_9 : decode prog_30_method_4_code 9 = .ok (.getfield 21, 3) := by decide +kernel
theorem d5_12 : decode prog_30_method_4_code 12 = .ok (.if_icmp .ge 55, 3) := by decide +kernel
theorem d5_15 : decode prog_30_method_4_code 15 = .ok (.aload_n 0, 1) := by decide +kernel
theorem d5_16 : decode prog_30_method_4_code 16 = .ok (.getfield 13, 3) := by decide +kernel
theorem d5_19 : decode prog_30_method_4_code 19 = .ok (.aload_n 0, 1) := by decide +kernel
theorem d5_20 : decode prog_30_method_4_code 20 = .ok (.dup, 1) := by decide +kernel
theorem d5_21 : decode prog_30_method_4_code 21 = .ok (.getfield 17, 3) := by decide +kernel
theorem d5_24 : decode prog_30_method_4_code 24 = .ok (.dup_x1, 1) := by decide +kernel
theorem d5_25 : decode prog_30_method_4_code 25 = .ok (.iconst 1, 1) := by decide +kernel
theorem d5_26 : decode prog_30_method_4_code 26 = .ok (.iadd, 1) := by decide +kernel
theorem d5_27 : decode prog_30_method_4_code 27 = .ok (.putfield 17, 3) := by decide +kernel
theorem d5_30 : decode prog_30_method_4_code 30 = .ok (.baload, 1) := by decide +kernel
theorem d5_31 : decode prog_30_method_4_code 31 = .ok (.istore 4, 2) := by decide +kernel
theorem d5_33 : decode prog_30_method_4_code 33 = .ok (.lload_n 1, 1) := by decide +kernel
theorem d5_34 : decode prog_30_method_4_code 34 = .ok (.iload 4, 2) := by decide +kernel
theorem d5_36 : decode prog_30_method_4_code 36 = .ok (.bipush 127, 2) := by decide +kernel
theorem d5_38 : decode prog_30_method_4_code 38 = .ok (.iand, 1) := by decide +kernel
theorem d5_39 : decode prog_30_method_4_code 39 = .ok (.i2l, 1) := by decide +kernel
theorem d5_40 : decode prog_30_method_4_code 40 = .ok (.iload_n 3, 1) := by decide +kernel
theorem d5_41 : decode prog_30_method_4_code 41 = .ok (.lshl, 1) := by decide +kernel
theorem d5_42 : decode prog_30_method_4_code 42 = .ok (.lor, 1) := by decide +kernel
theorem d5_43 : decode prog_30_method_4_code 43 = .ok (.lstore_n 1, 1) := by decide +kernel
theorem d5_44 : decode prog_30_method_4_code 44 = .ok (.iload 4, 2) := by decide +kernel
theorem d5_46 : decode prog_30_method_4_code 46 = .ok (.ifCond .lt 5, 3) := by decide +kernel
theorem d5_49 : decode prog_30_method_4_code 49 = .ok (.lload_n 1, 1) := by decide +kernel
theorem d5_50 : decode prog_30_method_4_code 50 = .ok (.lreturn, 1) := by decide +kernel
theorem d5_51 : decode prog_30_method_4_code 51 = .ok (.iinc 3 7, 3) := by decide +kernel
theorem d5_54 : decode prog_30_method_4_code 54 = .ok (.iload_n 3, 1) := by decide +kernel
theorem d5_55 : decode prog_30_method_4_code 55 = .ok (.bipush 56, 2) := by decide +kernel
theorem d5_57 : decode prog_30_method_4_code 57 = .ok (.if_icmp .le 7, 3) := by decide +kernel
theorem d5_60 : decode prog_30_method_4_code 60 = .ok (.ldc2_w 24, 3) := by decide +kernel
theorem d5_63 : decode prog_30_method_4_code 63 = .ok (.lreturn, 1) := by decide +kernel
theorem d5_64 : decode prog_30_method_4_code 64 = .ok (.goto (-60), 3) := by decide +kernel
theorem d5_67 : decode prog_30_method_4_code 67 = .ok (.ldc2_w 24, 3) := by decide +kernel
theorem d5_70 : decode prog_30_method_4_code 70 = .ok (.lreturn, 1) := by decide +kernel
theorem pnrd : plainName "com/example/skorr/skorr/index/VarintReader" = true := by first | (simp [plainName, overriddenIn]; done) | decide +kernel
theorem efrd (m : MethodId) (z0 : Addr) : entryFrame m #[(.ref z0)] 5 = mkF m 0 #[.val (.ref z0), .unset, .unset, .unset, .unset] [] := by first | (simp [entryFrame, mkF, argsToLocals, Value.category]; done) | rfl
def Qrd (Z : State) (o : Addr) (b : Addr) (kk : ClassId) (zs : List Int32) (ap : Int32) (en : Int32) (h0 : Heap) (n0 : Nat) (v : Option Value) (h : Heap) (L : List Loc) : Prop := v = some (.long (own_rd 9 (0 : Int64) (0 : Int32) ap en zs).1) ∧ Fr n0 L ∧ Keep h0 h [o] ∧ Exa Z h o "com/example/skorr/skorr/index/VarintReader" ∧ Fld Z h o "com/example/skorr/skorr/index/VarintReader" "bytes" "[B" (.ref b) ∧ Fld Z h o "com/example/skorr/skorr/index/VarintReader" "at" "I" (.int (own_rd 9 (0 : Int64) (0 : Int32) ap en zs).2) ∧ Fld Z h o "com/example/skorr/skorr/index/VarintReader" "end" "I" (.int en)
set_option maxRecDepth 65536 in
set_option maxHeartbeats 40000000 in
theorem rmrd (l : Launch) (Z : State) (a0 : Array Value) (hw : ∀ d ∈ tables_1, d.before a0 Z = true) (ws : List Jvm.Cond) (o : Addr) (b : Addr) (kk : ClassId) (zs : List Int32) (ap : Int32) (en : Int32) (h0 : Heap) (n0 : Nat) (Z0 : n0 ≤ h0.size) (E_o : Exa Z h0 o "com/example/skorr/skorr/index/VarintReader") (F0_o : Fld Z h0 o "com/example/skorr/skorr/index/VarintReader" "bytes" "[B" (.ref b)) (F1_o : Fld Z h0 o "com/example/skorr/skorr/index/VarintReader" "at" "I" (.int ap)) (F2_o : Fld Z h0 o "com/example/skorr/skorr/index/VarintReader" "end" "I" (.int en)) (V_b : Arv Z h0 b kk .byte (12 : Int32) (zs.map Value.int) (.int (0 : Int32))) (g_o : n0 ≤ o) (ne_ob : o ≠ b) (hr : 0 ≤ ap.toInt ∧ en.toInt ≤ 12) :
    MetFree l (⟨"com/example/skorr/skorr/index/VarintReader", "read", "()J"⟩ : MethodName) (head1 (Jvm.Cond.code (⟨"com/example/skorr/skorr/index/VarintReader", "read", "()J"⟩ : MethodName) prog_30_method_4_code 5 (some .long) :: ws) ({ frames := 0, cells := 0, slots := 0, locals := 0 } : Room)) (fun ag U => ag = #[(.ref o)] ∧ Z.Warmed39 U.vm ∧ U.heap = h0) (fun _ _ _ _ _ => True) (fun _ U oc U' => ∃ v L, oc = .returned v ∧ Qrd Z o b kk zs ap en h0 n0 v U'.heap L ∧ FrameEnd U oc U' L ({ frames := 0, cells := 0, slots := 0, locals := 0 } : Room).cells ({ frames := 0, cells := 0, slots := 0, locals := 0 } : Room).slots) := by
  refine MetFree.of_bodySF (plainFor_of_name pnrd) hisR ?_
  intro p e s m args below meth c s₁ Bd hml0 hP hK
  obtain ⟨rfl, hZ, hh⟩ := hP
  have hx := Bd.exec
  have hby := Bd.bytes
  have hml : c.maxLocals = 5 := hml0
  have hown : s.vm.findClass "com/example/skorr/skorr/index/VarintReader" = some m.cls := findClass_of_methodNamed Bd.named
  have hnm := (name_of_methodNamed Bd.named Bd.method).1
  have X0 : Stand p l e ({ frames := 0, cells := 0, slots := 0, locals := 0 } : Room) s m #[(.ref o)] below meth c s₁ [] 0 0 := Stand.of_body Bd
  have e0 : s₁.heap = h0 := by rw [← hh, Bd.state]; rfl
  have N0 := Fr.nil n0
  show own_Go p e below (fun s₂ oc => ∃ v L, oc = .returned v ∧ Qrd Z o b kk zs ap en h0 n0 v s₂.heap L ∧ FrameEnd s oc s₂ L ({ frames := 0, cells := 0, slots := 0, locals := 0 } : Room).cells ({ frames := 0, cells := 0, slots := 0, locals := 0 } : Room).slots) s₁ (entryFrame m #[(.ref o)] 5)
  refine own_Go.of (g' := mkF m 0 #[.val (.ref o), .unset, .unset, .unset, .unset] []) (fun t k => castTop (efrd m o) k) ?_
  refine og_lconst0 (pc' := 1) X0 hx (hb hby d5_0) rfl ?_
  refine og_lstoreN (pc' := 2) (L' := #[.val (.ref o), .val (.long (0 : Int64)), .second, .unset, .unset]) X0 hx (hb hby d5_1) rfl rfl ?_
  refine og_iconst (pc' := 3) (n := 0) X0 hx (hb hby d5_2) rfl rfl ?_
  refine og_istoreN (pc' := 4) (L' := #[.val (.ref o), .val (.long (0 : Int64)), .second, .val (.int (0 : Int32)), .unset]) X0 hx (hb hby d5_3) rfl rfl ?_
  have hR0 : (own_rd 9 (0 : Int64) (0 : Int32) ap en zs) = (own_rd 9 (0 : Int64) (0 : Int32) ap en zs) := rfl
  have hp0 := hr.1
  refine og_aloadN (pc' := 5) X0 hx (hb hby d5_4) rfl rfl rfl ?_
  obtain ⟨T1, X1, e1, st1⟩ := getF X0 hx hZ hown (host := "") (Or.inl (hw _ (List.mem_of_getElem? (i := 23) rfl))) Via.refl e0 F1_o (g := (mkF m 5 #[.val (.ref o), .val (.long (0 : Int64)), .second, .val (.int (0 : Int32)), .unset] [(.ref o)])) rfl rfl (hb hby d5_5)
  refine own_Go.of (g' := (mkF m 8 #[.val (.ref o), .val (.long (0 : Int64)), .second, .val (.int (0 : Int32)), .unset] [(.int ap)])) (fun t k => st1 _ k) ?_
  refine og_aloadN (pc' := 9) X1 hx (hb hby d5_8) rfl rfl rfl ?_
  obtain ⟨T2, X2, e2, st2⟩ := getF X1 hx hZ hown (host := "") (Or.inl (hw _ (List.mem_of_getElem? (i := 25) rfl))) Via.refl e1 F2_o (g := (mkF m 9 #[.val (.ref o), .val (.long (0 : Int64)), .second, .val (.int (0 : Int32)), .unset] [(.ref o), (.int ap)])) rfl rfl (hb hby d5_9)
  refine own_Go.of (g' := (mkF m 12 #[.val (.ref o), .val (.long (0 : Int64)), .second, .val (.int (0 : Int32)), .unset] [(.int en), (.int ap)])) (fun t k => st2 _ k) ?_
  by_cases hc12_1 : ap < en
  · refine og_icmpNo (pc' := 15) X2 hx (hb hby d5_12) (tlt hc12_1).2.1 rfl ?_
    refine og_aloadN (pc' := 16) X2 hx (hb hby d5_15) rfl rfl rfl ?_
    obtain ⟨T3, X3, e3, st3⟩ := getF X2 hx hZ hown (host := "") (Or.inl (hw _ (List.mem_of_getElem? (i := 21) rfl))) Via.refl e2 F0_o (g := (mkF m 16 #[.val (.ref o), .val (.long (0 : Int64)), .second, .val (.int (0 : Int32)), .unset] [(.ref o)])) rfl rfl (hb hby d5_16)
    refine own_Go.of (g' := (mkF m 19 #[.val (.ref o), .val (.long (0 : Int64)), .second, .val (.int (0 : Int32)), .unset] [(.ref b)])) (fun t k => st3 _ k) ?_
    refine og_aloadN (pc' := 20) X3 hx (hb hby d5_19) rfl rfl rfl ?_
    refine og_dup (pc' := 21) X3 hx (hb hby d5_20) rfl rfl ?_
    obtain ⟨T4, X4, e4, st4⟩ := getF X3 hx hZ hown (host := "") (Or.inl (hw _ (List.mem_of_getElem? (i := 23) rfl))) Via.refl e3 F1_o (g := (mkF m 21 #[.val (.ref o), .val (.long (0 : Int64)), .second, .val (.int (0 : Int32)), .unset] [(.ref o), (.ref o), (.ref b)])) rfl rfl (hb hby d5_21)
    refine own_Go.of (g' := (mkF m 24 #[.val (.ref o), .val (.long (0 : Int64)), .second, .val (.int (0 : Int32)), .unset] [(.int ap), (.ref o), (.ref b)])) (fun t k => st4 _ k) ?_
    refine og_dup_x1 (pc' := 25) X4 hx (hb hby d5_24) rfl rfl rfl ?_
    refine og_iconst (pc' := 26) (n := 1) X4 hx (hb hby d5_25) rfl rfl ?_
    refine og_iadd (pc' := 27) X4 hx (hb hby d5_26) rfl ?_
    obtain ⟨T5, h5, X5, e5, W5, st5⟩ := putF X4 hx hZ hown (host := "") (Or.inl (hw _ (List.mem_of_getElem? (i := 23) rfl))) Via.refl e4 F1_o E_o (Or.inl (hw _ (List.mem_of_getElem? (i := 24) rfl))) (hw _ (List.mem_of_getElem? (i := 8) rfl)) (ty := .int) (by decide) rfl rfl (g := (mkF m 27 #[.val (.ref o), .val (.long (0 : Int64)), .second, .val (.int (0 : Int32)), .unset] [(.int (ap + (1 : Int32))), (.ref o), (.int ap), (.ref b)])) rfl rfl (hb hby d5_27)
    have w5 : Fld Z h5 o "com/example/skorr/skorr/index/VarintReader" "at" "I" (.int (ap + (1 : Int32))) := F1_o.same W5
    have f5_0 := E_o.wr W5
    have f5_1 := F0_o.other W5 (Or.inr (slot_ne (a0 := a0) (C := "com/example/skorr/skorr/index/VarintReader") (Or.inl (hw _ (List.mem_of_getElem? (i := 22) rfl))) (Or.inl (hw _ (List.mem_of_getElem? (i := 24) rfl))) (by decide) (t := (.array .byte)) (t' := .int) (by decide) (by decide)))
    have f5_2 := F2_o.other W5 (Or.inr (slot_ne (a0 := a0) (C := "com/example/skorr/skorr/index/VarintReader") (Or.inl (hw _ (List.mem_of_getElem? (i := 26) rfl))) (Or.inl (hw _ (List.mem_of_getElem? (i := 24) rfl))) (by decide) (t := .int) (t' := .int) (by decide) (by decide)))
    have f5_3 := V_b.other W5 (Ne.symm ne_ob)
    have K5 : Keep h0 h5 [o] := (Keep.refl h0 [o]).wr W5 (Or.inl (List.mem_of_getElem? (i := 0) rfl))
    have Z5 : n0 ≤ h5.size := Nat.le_trans Z0 K5.1
    have N5 := Fr.snoc X5 N0 g_o
    obtain ⟨J5, X5, N5⟩ := own_hide X5 N5
    refine own_Go.of (g' := (mkF m 30 #[.val (.ref o), .val (.long (0 : Int64)), .second, .val (.int (0 : Int32)), .unset] [(.int ap), (.ref b)])) (fun t k => st5 _ k) ?_
    obtain ⟨cl6, Ar6, q6, S6, M6, H6, G6⟩ := id f5_3
    have hin6 : ¬ (ap < 0 ∨ cl6.slots.size ≤ (ap).toNatClampNeg) := inb_of S6 (own_inb hp0 hc12_1 hr.2)
    have hat6 : cl6.slots[(ap).toNatClampNeg]? = some (.int (zs.getD (ap).toNatClampNeg 0)) := Has.at H6 hin6 (own_getD_map zs _)
    refine own_Go.of (g' := (mkF m 31 #[.val (.ref o), .val (.long (0 : Int64)), .second, .val (.int (0 : Int32)), .unset] [(.int (zs.getD (ap).toNatClampNeg 0))])) (fun t k => X5.baloadBytes hx (j := ap) (v := (.int (zs.getD (ap).toNatClampNeg 0))) (by rw [e5]; exact Ar6.1) (State.isArrayOf_alike hZ.alike Ar6.2.1) Ar6.2.2 hin6 hat6 (g := (mkF m 30 #[.val (.ref o), .val (.long (0 : Int64)), .second, .val (.int (0 : Int32)), .unset] [(.int ap), (.ref b)])) rfl rfl (hb hby d5_30) _ k) ?_
    generalize hbt0 : (zs.getD (ap).toNatClampNeg 0) = bt0
    refine og_istore (pc' := 33) (L' := #[.val (.ref o), .val (.long (0 : Int64)), .second, .val (.int (0 : Int32)), .val (.int bt0)]) X5 hx (hb hby d5_31) rfl rfl ?_
    refine og_lloadN (pc' := 34) X5 hx (hb hby d5_33) rfl rfl ?_
    refine og_iload (pc' := 36) X5 hx (hb hby d5_34) rfl rfl ?_
    refine og_bipush (pc' := 38) (n := 127) X5 hx (hb hby d5_36) rfl rfl ?_
    refine og_iand (pc' := 39) X5 hx (hb hby d5_38) rfl ?_
    refine og_i2l (pc' := 40) X5 hx (hb hby d5_39) rfl ?_
    refine og_iloadN (pc' := 41) X5 hx (hb hby d5_40) rfl rfl ?_
    refine og_lshl (pc' := 42) X5 hx (hb hby d5_41) rfl ?_
    refine og_lor (pc' := 43) X5 hx (hb hby d5_42) rfl ?_
    refine og_lstoreN (pc' := 44) (L' := #[.val (.ref o), .val (.long ((0 : Int64) ||| (((bt0 &&& (127 : Int32)).toInt64) <<< ((0 : Int32) &&& 0x3f).toInt64))), .second, .val (.int (0 : Int32)), .val (.int bt0)]) X5 hx (hb hby d5_43) rfl rfl ?_
    refine og_iload (pc' := 46) X5 hx (hb hby d5_44) rfl rfl ?_
    by_cases hc46_2 : bt0 < (0 : Int32)
    · refine og_ifYes (pc' := 51) X5 hx (hb hby d5_46) ((if0 _ _).trans (tlt hc46_2).1) (by decide) (by decide) ?_
      refine og_iinc (pc' := 54) (L' := #[.val (.ref o), .val (.long ((0 : Int64) ||| (((bt0 &&& (127 : Int32)).toInt64) <<< ((0 : Int32) &&& 0x3f).toInt64))), .second, .val (.int ((0 : Int32) + (7 : Int32))), .val (.int bt0)]) X5 hx (hb hby d5_51) rfl rfl rfl ?_
      rw [show ((0 : Int32) + (7 : Int32)) = (7 : Int32) from by decide]
      refine og_iloadN (pc' := 55) X5 hx (hb hby d5_54) rfl rfl ?_
      refine og_bipush (pc' := 57) (n := 56) X5 hx (hb hby d5_55) rfl rfl ?_
      refine og_icmpYes (pc' := 64) X5 hx (hb hby d5_57) (flt (by decide)).2.2.2 (by decide) (by decide) ?_
      refine og_goto (pc' := 4) X5 hx (hb hby d5_64) (by decide) (by decide) ?_
      generalize hac1 : ((0 : Int64) ||| (((bt0 &&& (127 : Int32)).toInt64) <<< ((0 : Int32) &&& 0x3f).toInt64)) = ac1
      obtain ⟨ap1, hap1⟩ : ∃ q, q = (ap + (1 : Int32)) := ⟨_, rfl⟩
      have FA1 : Fld Z h5 o "com/example/skorr/skorr/index/VarintReader" "at" "I" (.int ap1) := by rw [hap1]; exact w5
      have hR1 := hR0.trans (own_rd_more (n := 8) (sh' := (7 : Int32)) hc12_1 hbt0 hc46_2 hac1 (by decide) hap1)
      have hp1 := own_apnn hc12_1 hr.2 hp0 hap1
      refine og_aloadN (pc' := 5) X5 hx (hb hby d5_4) rfl rfl rfl ?_
      obtain ⟨T7, X7, e7, st7⟩ := getF X5 hx hZ hown (host := "") (Or.inl (hw _ (List.mem_of_getElem? (i := 23) rfl))) Via.refl e5 FA1 (g := (mkF m 5 #[.val (.ref o), .val (.long ac1), .second, .val (.int (7 : Int32)), .val (.int bt0)] [(.ref o)])) rfl rfl (hb hby d5_5)
      refine own_Go.of (g' := (mkF m 8 #[.val (.ref o), .val (.long ac1), .second, .val (.int (7 : Int32)), .val (.int bt0)] [(.int ap1)])) (fun t k => st7 _ k) ?_
      refine og_aloadN (pc' := 9) X7 hx (hb hby d5_8) rfl rfl rfl ?_
      obtain ⟨T8, X8, e8, st8⟩ := getF X7 hx hZ hown (host := "") (Or.inl (hw _ (List.mem_of_getElem? (i := 25) rfl))) Via.refl e7 f5_2 (g := (mkF m 9 #[.val (.ref o), .val (.long ac1), .second, .val (.int (7 : Int32)), .val (.int bt0)] [(.ref o), (.int ap1)])) rfl rfl (hb hby d5_9)
      refine own_Go.of (g' := (mkF m 12 #[.val (.ref o), .val (.long ac1), .second, .val (.int (7 : Int32)), .val (.int bt0)] [(.int en), (.int ap1)])) (fun t k => st8 _ k) ?_
      by_cases hc12_3 : ap1 < en
      · refine og_icmpNo (pc' := 15) X8 hx (hb hby d5_12) (tlt hc12_3).2.1 rfl ?_
        refine og_aloadN (pc' := 16) X8 hx (hb hby d5_15) rfl rfl rfl ?_
        obtain ⟨T9, X9, e9, st9⟩ := getF X8 hx hZ hown (host := "") (Or.inl (hw _ (List.mem_of_getElem? (i := 21) rfl))) Via.refl e8 f5_1 (g := (mkF m 16 #[.val (.ref o), .val (.long ac1), .second, .val (.int (7 : Int32)), .val (.int bt0)] [(.ref o)])) rfl rfl (hb hby d5_16)
        refine own_Go.of (g' := (mkF m 19 #[.val (.ref o), .val (.long ac1), .second, .val (.int (7 : Int32)), .val (.int bt0)] [(.ref b)])) (fun t k => st9 _ k) ?_
        refine og_aloadN (pc' := 20) X9 hx (hb hby d5_19) rfl rfl rfl ?_
        refine og_dup (pc' := 21) X9 hx (hb hby d5_20) rfl rfl ?_
        obtain ⟨T10, X10, e10, st10⟩ := getF X9 hx hZ hown (host := "") (Or.inl (hw _ (List.mem_of_getElem? (i := 23) rfl))) Via.refl e9 FA1 (g := (mkF m 21 #[.val (.ref o), .val (.long ac1), .second, .val (.int (7 : Int32)), .val (.int bt0)] [(.ref o), (.ref o), (.ref b)])) rfl rfl (hb hby d5_21)
        refine own_Go.of (g' := (mkF m 24 #[.val (.ref o), .val (.long ac1), .second, .val (.int (7 : Int32)), .val (.int bt0)] [(.int ap1), (.ref o), (.ref b)])) (fun t k => st10 _ k) ?_
        refine og_dup_x1 (pc' := 25) X10 hx (hb hby d5_24) rfl rfl rfl ?_
        refine og_iconst (pc' := 26) (n := 1) X10 hx (hb hby d5_25) rfl rfl ?_
        refine og_iadd (pc' := 27) X10 hx (hb hby d5_26) rfl ?_
        obtain ⟨T11, h11, X11, e11, W11, st11⟩ := putF X10 hx hZ hown (host := "") (Or.inl (hw _ (List.mem_of_getElem? (i := 23) rfl))) Via.refl e10 FA1 f5_0 (Or.inl (hw _ (List.mem_of_getElem? (i := 24) rfl))) (hw _ (List.mem_of_getElem? (i := 8) rfl)) (ty := .int) (by decide) rfl rfl (g := (mkF m 27 #[.val (.ref o), .val (.long ac1), .second, .val (.int (7 : Int32)), .val (.int bt0)] [(.int (ap1 + (1 : Int32))), (.ref o), (.int ap1), (.ref b)])) rfl rfl (hb hby d5_27)
        have w11 : Fld Z h11 o "com/example/skorr/skorr/index/VarintReader" "at" "I" (.int (ap1 + (1 : Int32))) := FA1.same W11
        have f11_0 := f5_0.wr W11
        have f11_1 := f5_1.other W11 (Or.inr (slot_ne (a0 := a0) (C := "com/example/skorr/skorr/index/VarintReader") (Or.inl (hw _ (List.mem_of_getElem? (i := 22) rfl))) (Or.inl (hw _ (List.mem_of_getElem? (i := 24) rfl))) (by decide) (t := (.array .byte)) (t' := .int) (by decide) (by decide)))
        have f11_2 := f5_2.other W11 (Or.inr (slot_ne (a0 := a0) (C := "com/example/skorr/skorr/index/VarintReader") (Or.inl (hw _ (List.mem_of_getElem? (i := 26) rfl))) (Or.inl (hw _ (List.mem_of_getElem? (i := 24) rfl))) (by decide) (t := .int) (t' := .int) (by decide) (by decide)))
        have f11_3 := f5_3.other W11 (Ne.symm ne_ob)
        have K11 : Keep h0 h11 [o] := K5.wr W11 (Or.inl (List.mem_of_getElem? (i := 0) rfl))
        have Z11 : n0 ≤ h11.size := Nat.le_trans Z0 K11.1
        have N11 := Fr.snoc X11 N5 g_o
        obtain ⟨J11, X11, N11⟩ := own_hide X11 N11
        refine own_Go.of (g' := (mkF m 30 #[.val (.ref o), .val (.long ac1), .second, .val (.int (7 : Int32)), .val (.int bt0)] [(.int ap1), (.ref b)])) (fun t k => st11 _ k) ?_
        obtain ⟨cl12, Ar12, q12, S12, M12, H12, G12⟩ := id f11_3
        have hin12 : ¬ (ap1 < 0 ∨ cl12.slots.size ≤ (ap1).toNatClampNeg) := inb_of S12 (own_inb hp1 hc12_3 hr.2)
        have hat12 : cl12.slots[(ap1).toNatClampNeg]? = some (.int (zs.getD (ap1).toNatClampNeg 0)) := Has.at H12 hin12 (own_getD_map zs _)
        refine own_Go.of (g' := (mkF m 31 #[.val (.ref o), .val (.long ac1), .second, .val (.int (7 : Int32)), .val (.int bt0)] [(.int (zs.getD (ap1).toNatClampNeg 0))])) (fun t k => X11.baloadBytes hx (j := ap1) (v := (.int (zs.getD (ap1).toNatClampNeg 0))) (by rw [e11]; exact Ar12.1) (State.isArrayOf_alike hZ.alike Ar12.2.1) Ar12.2.2 hin12 hat12 (g := (mkF m 30 #[.val (.ref o), .val (.long ac1), .second, .val (.int (7 : Int32)), .val (.int bt0)] [(.int ap1), (.ref b)])) rfl rfl (hb hby d5_30) _ k) ?_
        generalize hbt1 : (zs.getD (ap1).toNatClampNeg 0) = bt1
        refine og_istore (pc' := 33) (L' := #[.val (.ref o), .val (.long ac1), .second, .val (.int (7 : Int32)), .val (.int bt1)]) X11 hx (hb hby d5_31) rfl rfl ?_
        refine og_lloadN (pc' := 34) X11 hx (hb hby d5_33) rfl rfl ?_
        refine og_iload (pc' := 36) X11 hx (hb hby d5_34) rfl rfl ?_
        refine og_bipush (pc' := 38) (n := 127) X11 hx (hb hby d5_36) rfl rfl ?_
        refine og_iand (pc' := 39) X11 hx (hb hby d5_38) rfl ?_
        refine og_i2l (pc' := 40) X11 hx (hb hby d5_39) rfl ?_
        refine og_iloadN (pc' := 41) X11 hx (hb hby d5_40) rfl rfl ?_
        refine og_lshl (pc' := 42) X11 hx (hb hby d5_41) rfl ?_
        refine og_lor (pc' := 43) X11 hx (hb hby d5_42) rfl ?_
        refine og_lstoreN (pc' := 44) (L' := #[.val (.ref o), .val (.long (ac1 ||| (((bt1 &&& (127 : Int32)).toInt64) <<< ((7 : Int32) &&& 0x3f).toInt64))), .second, .val (.int (7 : Int32)), .val (.int bt1)]) X11 hx (hb hby d5_43) rfl rfl ?_
        refine og_iload (pc' := 46) X11 hx (hb hby d5_44) rfl rfl ?_
        by_cases hc46_4 : bt1 < (0 : Int32)
        · refine og_ifYes (pc' := 51) X11 hx (hb hby d5_46) ((if0 _ _).trans (tlt hc46_4).1) (by decide) (by decide) ?_
          refine og_iinc (pc' := 54) (L' := #[.val (.ref o), .val (.long (ac1 ||| (((bt1 &&& (127 : Int32)).toInt64) <<< ((7 : Int32) &&& 0x3f).toInt64))), .second, .val (.int ((7 : Int32) + (7 : Int32))), .val (.int bt1)]) X11 hx (hb hby d5_51) rfl rfl rfl ?_
          rw [show ((7 : Int32) + (7 : Int32)) = (14 : Int32) from by decide]
          refine og_iloadN (pc' := 55) X11 hx (hb hby d5_54) rfl rfl ?_
          refine og_bipush (pc' := 57) (n := 56) X11 hx (hb hby d5_55) rfl rfl ?_
          refine og_icmpYes (pc' := 64) X11 hx (hb hby d5_57) (flt (by decide)).2.2.2 (by decide) (by decide) ?_
          refine og_goto (pc' := 4) X11 hx (hb hby d5_64) (by decide) (by decide) ?_
          generalize hac2 : (ac1 ||| (((bt1 &&& (127 : Int32)).toInt64) <<< ((7 : Int32) &&& 0x3f).toInt64)) = ac2
          obtain ⟨ap2, hap2⟩ : ∃ q, q = (ap1 + (1 : Int32)) := ⟨_, rfl⟩
          have FA2 : Fld Z h11 o "com/example/skorr/skorr/index/VarintReader" "at" "I" (.int ap2) := by rw [hap2]; exact w11
          have hR2 := hR1.trans (own_rd_more (n := 7) (sh' := (14 : Int32)) hc12_3 hbt1 hc46_4 hac2 (by decide) hap2)
          have hp2 := own_apnn hc12_3 hr.2 hp1 hap2
          refine og_aloadN (pc' := 5) X11 hx (hb hby d5_4) rfl rfl rfl ?_
          obtain ⟨T13, X13, e13, st13⟩ := getF X11 hx hZ hown (host := "") (Or.inl (hw _ (List.mem_of_getElem? (i := 23) rfl))) Via.refl e11 FA2 (g := (mkF m 5 #[.val (.ref o), .val (.long ac2), .second, .val (.int (14 : Int32)), .val (.int bt1)] [(.ref o)])) rfl rfl (hb hby d5_5)
          refine own_Go.of (g' := (mkF m 8 #[.val (.ref o), .val (.long ac2), .second, .val (.int (14 : Int32)), .val (.int bt1)] [(.int ap2)])) (fun t k => st13 _ k) ?_
          refine og_aloadN (pc' := 9) X13 hx (hb hby d5_8) rfl rfl rfl ?_
          obtain ⟨T14, X14, e14, st14⟩ := getF X13 hx hZ hown (host := "") (Or.inl (hw _ (List.mem_of_getElem? (i := 25) rfl))) Via.refl e13 f11_2 (g := (mkF m 9 #[.val (.ref o), .val (.long ac2), .second, .val (.int (14 : Int32)), .val (.int bt1)] [(.ref o), (.int ap2)])) rfl rfl (hb hby d5_9)
          refine own_Go.of (g' := (mkF m 12 #[.val (.ref o), .val (.long ac2), .second, .val (.int (14 : Int32)), .val (.int bt1)] [(.int en), (.int ap2)])) (fun t k => st14 _ k) ?_
          by_cases hc12_5 : ap2 < en
          · refine og_icmpNo (pc' := 15) X14 hx (hb hby d5_12) (tlt hc12_5).2.1 rfl ?_
            refine og_aloadN (pc' := 16) X14 hx (hb hby d5_15) rfl rfl rfl ?_
            obtain ⟨T15, X15, e15, st15⟩ := getF X14 hx hZ hown (host := "") (Or.inl (hw _ (List.mem_of_getElem? (i := 21) rfl))) Via.refl e14 f11_1 (g := (mkF m 16 #[.val (.ref o), .val (.long ac2), .second, .val (.int (14 : Int32)), .val (.int bt1)] [(.ref o)])) rfl rfl (hb hby d5_16)
            refine own_Go.of (g' := (mkF m 19 #[.val (.ref o), .val (.long ac2), .second, .val (.int (14 : Int32)), .val (.int bt1)] [(.ref b)])) (fun t k => st15 _ k) ?_
            refine og_aloadN (pc' := 20) X15 hx (hb hby d5_19) rfl rfl rfl ?_
            refine og_dup (pc' := 21) X15 hx (hb hby d5_20) rfl rfl ?_
            obtain ⟨T16, X16, e16, st16⟩ := getF X15 hx hZ hown (host := "") (Or.inl (hw _ (List.mem_of_getElem? (i := 23) rfl))) Via.refl e15 FA2 (g := (mkF m 21 #[.val (.ref o), .val (.long ac2), .second, .val (.int (14 : Int32)), .val (.int bt1)] [(.ref o), (.ref o), (.ref b)])) rfl rfl (hb hby d5_21)
            refine own_Go.of (g' := (mkF m 24 #[.val (.ref o), .val (.long ac2), .second, .val (.int (14 : Int32)), .val (.int bt1)] [(.int ap2), (.ref o), (.ref b)])) (fun t k => st16 _ k) ?_
            refine og_dup_x1 (pc' := 25) X16 hx (hb hby d5_24) rfl rfl rfl ?_
            refine og_iconst (pc' := 26) (n := 1) X16 hx (hb hby d5_25) rfl rfl ?_
            refine og_iadd (pc' := 27) X16 hx (hb hby d5_26) rfl ?_
            obtain ⟨T17, h17, X17, e17, W17, st17⟩ := putF X16 hx hZ hown (host := "") (Or.inl (hw _ (List.mem_of_getElem? (i := 23) rfl))) Via.refl e16 FA2 f11_0 (Or.inl (hw _ (List.mem_of_getElem? (i := 24) rfl))) (hw _ (List.mem_of_getElem? (i := 8) rfl)) (ty := .int) (by decide) rfl rfl (g := (mkF m 27 #[.val (.ref o), .val (.long ac2), .second, .val (.int (14 : Int32)), .val (.int bt1)] [(.int (ap2 + (1 : Int32))), (.ref o), (.int ap2), (.ref b)])) rfl rfl (hb hby d5_27)
            have w17 : Fld Z h17 o "com/example/skorr/skorr/index/VarintReader" "at" "I" (.int (ap2 + (1 : Int32))) := FA2.same W17
            have f17_0 := f11_0.wr W17
            have f17_1 := f11_1.other W17 (Or.inr (slot_ne (a0 := a0) (C := "com/example/skorr/skorr/index/VarintReader") (Or.inl (hw _ (List.mem_of_getElem? (i := 22) rfl))) (Or.inl (hw _ (List.mem_of_getElem? (i := 24) rfl))) (by decide) (t := (.array .byte)) (t' := .int) (by decide) (by decide)))
            have f17_2 := f11_2.other W17 (Or.inr (slot_ne (a0 := a0) (C := "com/example/skorr/skorr/index/VarintReader") (Or.inl (hw _ (List.mem_of_getElem? (i := 26) rfl))) (Or.inl (hw _ (List.mem_of_getElem? (i := 24) rfl))) (by decide) (t := .int) (t' := .int) (by decide) (by decide)))
            have f17_3 := f11_3.other W17 (Ne.symm ne_ob)
            have K17 : Keep h0 h17 [o] := K11.wr W17 (Or.inl (List.mem_of_getElem? (i := 0) rfl))
            have Z17 : n0 ≤ h17.size := Nat.le_trans Z0 K17.1
            have N17 := Fr.snoc X17 N11 g_o
            obtain ⟨J17, X17, N17⟩ := own_hide X17 N17
            refine own_Go.of (g' := (mkF m 30 #[.val (.ref o), .val (.long ac2), .second, .val (.int (14 : Int32)), .val (.int bt1)] [(.int ap2), (.ref b)])) (fun t k => st17 _ k) ?_
            obtain ⟨cl18, Ar18, q18, S18, M18, H18, G18⟩ := id f17_3
            have hin18 : ¬ (ap2 < 0 ∨ cl18.slots.size ≤ (ap2).toNatClampNeg) := inb_of S18 (own_inb hp2 hc12_5 hr.2)
            have hat18 : cl18.slots[(ap2).toNatClampNeg]? = some (.int (zs.getD (ap2).toNatClampNeg 0)) := Has.at H18 hin18 (own_getD_map zs _)
            refine own_Go.of (g' := (mkF m 31 #[.val (.ref o), .val (.long ac2), .second, .val (.int (14 : Int32)), .val (.int bt1)] [(.int (zs.getD (ap2).toNatClampNeg 0))])) (fun t k => X17.baloadBytes hx (j := ap2) (v := (.int (zs.getD (ap2).toNatClampNeg 0))) (by rw [e17]; exact Ar18.1) (State.isArrayOf_alike hZ.alike Ar18.2.1) Ar18.2.2 hin18 hat18 (g := (mkF m 30 #[.val (.ref o), .val (.long ac2), .second, .val (.int (14 : Int32)), .val (.int bt1)] [(.int ap2), (.ref b)])) rfl rfl (hb hby d5_30) _ k) ?_
            generalize hbt2 : (zs.getD (ap2).toNatClampNeg 0) = bt2
            refine og_istore (pc' := 33) (L' := #[.val (.ref o), .val (.long ac2), .second, .val (.int (14 : Int32)), .val (.int bt2)]) X17 hx (hb hby d5_31) rfl rfl ?_
            refine og_lloadN (pc' := 34) X17 hx (hb hby d5_33) rfl rfl ?_
            refine og_iload (pc' := 36) X17 hx (hb hby d5_34) rfl rfl ?_
            refine og_bipush (pc' := 38) (n := 127) X17 hx (hb hby d5_36) rfl rfl ?_
            refine og_iand (pc' := 39) X17 hx (hb hby d5_38) rfl ?_
            refine og_i2l (pc' := 40) X17 hx (hb hby d5_39) rfl ?_
            refine og_iloadN (pc' := 41) X17 hx (hb hby d5_40) rfl rfl ?_
            refine og_lshl (pc' := 42) X17 hx (hb hby d5_41) rfl ?_
            refine og_lor (pc' := 43) X17 hx (hb hby d5_42) rfl ?_
            refine og_lstoreN (pc' := 44) (L' := #[.val (.ref o), .val (.long (ac2 ||| (((bt2 &&& (127 : Int32)).toInt64) <<< ((14 : Int32) &&& 0x3f).toInt64))), .second, .val (.int (14 : Int32)), .val (.int bt2)]) X17 hx (hb hby d5_43) rfl rfl ?_
            refine og_iload (pc' := 46) X17 hx (hb hby d5_44) rfl rfl ?_
            by_cases hc46_6 : bt2 < (0 : Int32)
            · refine og_ifYes (pc' := 51) X17 hx (hb hby d5_46) ((if0 _ _).trans (tlt hc46_6).1) (by decide) (by decide) ?_
              refine og_iinc (pc' := 54) (L' := #[.val (.ref o), .val (.long (ac2 ||| (((bt2 &&& (127 : Int32)).toInt64) <<< ((14 : Int32) &&& 0x3f).toInt64))), .second, .val (.int ((14 : Int32) + (7 : Int32))), .val (.int bt2)]) X17 hx (hb hby d5_51) rfl rfl rfl ?_
              rw [show ((14 : Int32) + (7 : Int32)) = (21 : Int32) from by decide]
              refine og_iloadN (pc' := 55) X17 hx (hb hby d5_54) rfl rfl ?_
              refine og_bipush (pc' := 57) (n := 56) X17 hx (hb hby d5_55) rfl rfl ?_
              refine og_icmpYes (pc' := 64) X17 hx (hb hby d5_57) (flt (by decide)).2.2.2 (by decide) (by decide) ?_
              refine og_goto (pc' := 4) X17 hx (hb hby d5_64) (by decide) (by decide) ?_
              generalize hac3 : (ac2 ||| (((bt2 &&& (127 : Int32)).toInt64) <<< ((14 : Int32) &&& 0x3f).toInt64)) = ac3
              obtain ⟨ap3, hap3⟩ : ∃ q, q = (ap2 + (1 : Int32)) := ⟨_, rfl⟩
              have FA3 : Fld Z h17 o "com/example/skorr/skorr/index/VarintReader" "at" "I" (.int ap3) := by rw [hap3]; exact w17
              have hR3 := hR2.trans (own_rd_more (n := 6) (sh' := (21 : Int32)) hc12_5 hbt2 hc46_6 hac3 (by decide) hap3)
              have hp3 := own_apnn hc12_5 hr.2 hp2 hap3
              refine og_aloadN (pc' := 5) X17 hx (hb hby d5_4) rfl rfl rfl ?_
              obtain ⟨T19, X19, e19, st19⟩ := getF X17 hx hZ hown (host := "") (Or.inl (hw _ (List.mem_of_getElem? (i := 23) rfl))) Via.refl e17 FA3 (g := (mkF m 5 #[.val (.ref o), .val (.long ac3), .second, .val (.int (21 : Int32)), .val (.int bt2)] [(.ref o)])) rfl rfl (hb hby d5_5)
              refine own_Go.of (g' := (mkF m 8 #[.val (.ref o), .val (.long ac3), .second, .val (.int (21 : Int32)), .val (.int bt2)] [(.int ap3)])) (fun t k => st19 _ k) ?_
              refine og_aloadN (pc' := 9) X19 hx (hb hby d5_8) rfl rfl rfl ?_
              obtain ⟨T20, X20, e20, st20⟩ := getF X19 hx hZ hown (host := "") (Or.inl (hw _ (List.mem_of_getElem? (i := 25) rfl))) Via.refl e19 f17_2 (g := (mkF m 9 #[.val (.ref o), .val (.long ac3), .second, .val (.int (21 : Int32)), .val (.int bt2)] [(.ref o), (.int ap3)])) rfl rfl (hb hby d5_9)
              refine own_Go.of (g' := (mkF m 12 #[.val (.ref o), .val (.long ac3), .second, .val (.int (21 : Int32)), .val (.int bt2)] [(.int en), (.int ap3)])) (fun t k => st20 _ k) ?_
              by_cases hc12_7 : ap3 < en
              · refine og_icmpNo (pc' := 15) X20 hx (hb hby d5_12) (tlt hc12_7).2.1 rfl ?_
                refine og_aloadN (pc' := 16) X20 hx (hb hby d5_15) rfl rfl rfl ?_
                obtain ⟨T21, X21, e21, st21⟩ := getF X20 hx hZ hown (host := "") (Or.inl (hw _ (List.mem_of_getElem? (i := 21) rfl))) Via.refl e20 f17_1 (g := (mkF m 16 #[.val (.ref o), .val (.long ac3), .second, .val (.int (21 : Int32)), .val (.int bt2)] [(.ref o)])) rfl rfl (hb hby d5_16)
                refine own_Go.of (g' := (mkF m 19 #[.val (.ref o), .val (.long ac3), .second, .val (.int (21 : Int32)), .val (.int bt2)] [(.ref b)])) (fun t k => st21 _ k) ?_
                refine og_aloadN (pc' := 20) X21 hx (hb hby d5_19) rfl rfl rfl ?_
                refine og_dup (pc' := 21) X21 hx (hb hby d5_20) rfl rfl ?_
                obtain ⟨T22, X22, e22, st22⟩ := getF X21 hx hZ hown (host := "") (Or.inl (hw _ (List.mem_of_getElem? (i := 23) rfl))) Via.refl e21 FA3 (g := (mkF m 21 #[.val (.ref o), .val (.long ac3), .second, .val (.int (21 : Int32)), .val (.int bt2)] [(.ref o), (.ref o), (.ref b)])) rfl rfl (hb hby d5_21)
                refine own_Go.of (g' := (mkF m 24 #[.val (.ref o), .val (.long ac3), .second, .val (.int (21 : Int32)), .val (.int bt2)] [(.int ap3), (.ref o), (.ref b)])) (fun t k => st22 _ k) ?_
                refine og_dup_x1 (pc' := 25) X22 hx (hb hby d5_24) rfl rfl rfl ?_
                refine og_iconst (pc' := 26) (n := 1) X22 hx (hb hby d5_25) rfl rfl ?_
                refine og_iadd (pc' := 27) X22 hx (hb hby d5_26) rfl ?_
                obtain ⟨T23, h23, X23, e23, W23, st23⟩ := putF X22 hx hZ hown (host := "") (Or.inl (hw _ (List.mem_of_getElem? (i := 23) rfl))) Via.refl e22 FA3 f17_0 (Or.inl (hw _ (List.mem_of_getElem? (i := 24) rfl))) (hw _ (List.mem_of_getElem? (i := 8) rfl)) (ty := .int) (by decide) rfl rfl (g := (mkF m 27 #[.val (.ref o), .val (.long ac3), .second, .val (.int (21 : Int32)), .val (.int bt2)] [(.int (ap3 + (1 : Int32))), (.ref o), (.int ap3), (.ref b)])) rfl rfl (hb hby d5_27)
                have w23 : Fld Z h23 o "com/example/skorr/skorr/index/VarintReader" "at" "I" (.int (ap3 + (1 : Int32))) := FA3.same W23
                have f23_0 := f17_0.wr W23
                have f23_1 := f17_1.other W23 (Or.inr (slot_ne (a0 := a0) (C := "com/example/skorr/skorr/index/VarintReader") (Or.inl (hw _ (List.mem_of_getElem? (i := 22) rfl))) (Or.inl (hw _ (List.mem_of_getElem? (i := 24) rfl))) (by decide) (t := (.array .byte)) (t' := .int) (by decide) (by decide)))
                have f23_2 := f17_2.other W23 (Or.inr (slot_ne (a0 := a0) (C := "com/example/skorr/skorr/index/VarintReader") (Or.inl (hw _ (List.mem_of_getElem? (i := 26) rfl))) (Or.inl (hw _ (List.mem_of_getElem? (i := 24) rfl))) (by decide) (t := .int) (t' := .int) (by decide) (by decide)))
                have f23_3 := f17_3.other W23 (Ne.symm ne_ob)
                have K23 : Keep h0 h23 [o] := K17.wr W23 (Or.inl (List.mem_of_getElem? (i := 0) rfl))
                have Z23 : n0 ≤ h23.size := Nat.le_trans Z0 K23.1
                have N23 := Fr.snoc X23 N17 g_o
                obtain ⟨J23, X23, N23⟩ := own_hide X23 N23
                refine own_Go.of (g' := (mkF m 30 #[.val (.ref o), .val (.long ac3), .second, .val (.int (21 : Int32)), .val (.int bt2)] [(.int ap3), (.ref b)])) (fun t k => st23 _ k) ?_
                obtain ⟨cl24, Ar24, q24, S24, M24, H24, G24⟩ := id f23_3
                have hin24 : ¬ (ap3 < 0 ∨ cl24.slots.size ≤ (ap3).toNatClampNeg) := inb_of S24 (own_inb hp3 hc12_7 hr.2)
                have hat24 : cl24.slots[(ap3).toNatClampNeg]? = some (.int (zs.getD (ap3).toNatClampNeg 0)) := Has.at H24 hin24 (own_getD_map zs _)
                refine own_Go.of (g' := (mkF m 31 #[.val (.ref o), .val (.long ac3), .second, .val (.int (21 : Int32)), .val (.int bt2)] [(.int (zs.getD (ap3).toNatClampNeg 0))])) (fun t k => X23.baloadBytes hx (j := ap3) (v := (.int (zs.getD (ap3).toNatClampNeg 0))) (by rw [e23]; exact Ar24.1) (State.isArrayOf_alike hZ.alike Ar24.2.1) Ar24.2.2 hin24 hat24 (g := (mkF m 30 #[.val (.ref o), .val (.long ac3), .second, .val (.int (21 : Int32)), .val (.int bt2)] [(.int ap3), (.ref b)])) rfl rfl (hb hby d5_30) _ k) ?_
                generalize hbt3 : (zs.getD (ap3).toNatClampNeg 0) = bt3
                refine og_istore (pc' := 33) (L' := #[.val (.ref o), .val (.long ac3), .second, .val (.int (21 : Int32)), .val (.int bt3)]) X23 hx (hb hby d5_31) rfl rfl ?_
                refine og_lloadN (pc' := 34) X23 hx (hb hby d5_33) rfl rfl ?_
                refine og_iload (pc' := 36) X23 hx (hb hby d5_34) rfl rfl ?_
                refine og_bipush (pc' := 38) (n := 127) X23 hx (hb hby d5_36) rfl rfl ?_
                refine og_iand (pc' := 39) X23 hx (hb hby d5_38) rfl ?_
                refine og_i2l (pc' := 40) X23 hx (hb hby d5_39) rfl ?_
                refine og_iloadN (pc' := 41) X23 hx (hb hby d5_40) rfl rfl ?_
                refine og_lshl (pc' := 42) X23 hx (hb hby d5_41) rfl ?_
                refine og_lor (pc' := 43) X23 hx (hb hby d5_42) rfl ?_
                refine og_lstoreN (pc' := 44) (L' := #[.val (.ref o), .val (.long (ac3 ||| (((bt3 &&& (127 : Int32)).toInt64) <<< ((21 : Int32) &&& 0x3f).toInt64))), .second, .val (.int (21 : Int32)), .val (.int bt3)]) X23 hx (hb hby d5_43) rfl rfl ?_
                refine og_iload (pc' := 46) X23 hx (hb hby d5_44) rfl rfl ?_
                by_cases hc46_8 : bt3 < (0 : Int32)
                · refine og_ifYes (pc' := 51) X23 hx (hb hby d5_46) ((if0 _ _).trans (tlt hc46_8).1) (by decide) (by decide) ?_
                  refine og_iinc (pc' := 54) (L' := #[.val (.ref o), .val (.long (ac3 ||| (((bt3 &&& (127 : Int32)).toInt64) <<< ((21 : Int32) &&& 0x3f).toInt64))), .second, .val (.int ((21 : Int32) + (7 : Int32))), .val (.int bt3)]) X23 hx (hb hby d5_51) rfl rfl rfl ?_
                  rw [show ((21 : Int32) + (7 : Int32)) = (28 : Int32) from by decide]
                  refine og_iloadN (pc' := 55) X23 hx (hb hby d5_54) rfl rfl ?_
                  refine og_bipush (pc' := 57) (n := 56) X23 hx (hb hby d5_55) rfl rfl ?_
                  refine og_icmpYes (pc' := 64) X23 hx (hb hby d5_57) (flt (by decide)).2.2.2 (by decide) (by decide) ?_
                  refine og_goto (pc' := 4) X23 hx (hb hby d5_64) (by decide) (by decide) ?_
                  generalize hac4 : (ac3 ||| (((bt3 &&& (127 : Int32)).toInt64) <<< ((21 : Int32) &&& 0x3f).toInt64)) = ac4
                  obtain ⟨ap4, hap4⟩ : ∃ q, q = (ap3 + (1 : Int32)) := ⟨_, rfl⟩
                  have FA4 : Fld Z h23 o "com/example/skorr/skorr/index/VarintReader" "at" "I" (.int ap4) := by rw [hap4]; exact w23
                  have hR4 := hR3.trans (own_rd_more (n := 5) (sh' := (28 : Int32)) hc12_7 hbt3 hc46_8 hac4 (by decide) hap4)
                  have hp4 := own_apnn hc12_7 hr.2 hp3 hap4
                  refine og_aloadN (pc' := 5) X23 hx (hb hby d5_4) rfl rfl rfl ?_
                  obtain ⟨T25, X25, e25, st25⟩ := getF X23 hx hZ hown (host := "") (Or.inl (hw _ (List.mem_of_getElem? (i := 23) rfl))) Via.refl e23 FA4 (g := (mkF m 5 #[.val (.ref o), .val (.long ac4), .second, .val (.int (28 : Int32)), .val (.int bt3)] [(.ref o)])) rfl rfl (hb hby d5_5)
                  refine own_Go.of (g' := (mkF m 8 #[.val (.ref o), .val (.long ac4), .second, .val (.int (28 : Int32)), .val (.int bt3)] [(.int ap4)])) (fun t k => st25 _ k) ?_
                  refine og_aloadN (pc' := 9) X25 hx (hb hby d5_8) rfl rfl rfl ?_
                  obtain ⟨T26, X26, e26, st26⟩ := getF X25 hx hZ hown (host := "") (Or.inl (hw _ (List.mem_of_getElem? (i := 25) rfl))) Via.refl e25 f23_2 (g := (mkF m 9 #[.val (.ref o), .val (.long ac4), .second, .val (.int (28 : Int32)), .val (.int bt3)] [(.ref o), (.int ap4)])) rfl rfl (hb hby d5_9)
                  refine own_Go.of (g' := (mkF m 12 #[.val (.ref o), .val (.long ac4), .second, .val (.int (28 : Int32)), .val (.int bt3)] [(.int en), (.int ap4)])) (fun t k => st26 _ k) ?_
                  by_cases hc12_9 : ap4 < en
                  · refine og_icmpNo (pc' := 15) X26 hx (hb hby d5_12) (tlt hc12_9).2.1 rfl ?_
                    refine og_aloadN (pc' := 16) X26 hx (hb hby d5_15) rfl rfl rfl ?_
                    obtain ⟨T27, X27, e27, st27⟩ := getF X26 hx hZ hown (host := "") (Or.inl (hw _ (List.mem_of_getElem? (i := 21) rfl))) Via.refl e26 f23_1 (g := (mkF m 16 #[.val (.ref o), .val (.long ac4), .second, .val (.int (28 : Int32)), .val (.int bt3)] [(.ref o)])) rfl rfl (hb hby d5_16)
                    refine own_Go.of (g' := (mkF m 19 #[.val (.ref o), .val (.long ac4), .second, .val (.int (28 : Int32)), .val (.int bt3)] [(.ref b)])) (fun t k => st27 _ k) ?_
                    refine og_aloadN (pc' := 20) X27 hx (hb hby d5_19) rfl rfl rfl ?_
                    refine og_dup (pc' := 21) X27 hx (hb hby d5_20) rfl rfl ?_
                    obtain ⟨T28, X28, e28, st28⟩ := getF X27 hx hZ hown (host := "") (Or.inl (hw _ (List.mem_of_getElem? (i := 23) rfl))) Via.refl e27 FA4 (g := (mkF m 21 #[.val (.ref o), .val (.long ac4), .second, .val (.int (28 : Int32)), .val (.int bt3)] [(.ref o), (.ref o), (.ref b)])) rfl rfl (hb hby d5_21)
                    refine own_Go.of (g' := (mkF m 24 #[.val (.ref o), .val (.long ac4), .second, .val (.int (28 : Int32)), .val (.int bt3)] [(.int ap4), (.ref o), (.ref b)])) (fun t k => st28 _ k) ?_
                    refine og_dup_x1 (pc' := 25) X28 hx (hb hby d5_24) rfl rfl rfl ?_
                    refine og_iconst (pc' := 26) (n := 1) X28 hx (hb hby d5_25) rfl rfl ?_
                    refine og_iadd (pc' := 27) X28 hx (hb hby d5_26) rfl ?_
                    obtain ⟨T29, h29, X29, e29, W29, st29⟩ := putF X28 hx hZ hown (host := "") (Or.inl (hw _ (List.mem_of_getElem? (i := 23) rfl))) Via.refl e28 FA4 f23_0 (Or.inl (hw _ (List.mem_of_getElem? (i := 24) rfl))) (hw _ (List.mem_of_getElem? (i := 8) rfl)) (ty := .int) (by decide) rfl rfl (g := (mkF m 27 #[.val (.ref o), .val (.long ac4), .second, .val (.int (28 : Int32)), .val (.int bt3)] [(.int (ap4 + (1 : Int32))), (.ref o), (.int ap4), (.ref b)])) rfl rfl (hb hby d5_27)
                    have w29 : Fld Z h29 o "com/example/skorr/skorr/index/VarintReader" "at" "I" (.int (ap4 + (1 : Int32))) := FA4.same W29
                    have f29_0 := f23_0.wr W29
                    have f29_1 := f23_1.other W29 (Or.inr (slot_ne (a0 := a0) (C := "com/example/skorr/skorr/index/VarintReader") (Or.inl (hw _ (List.mem_of_getElem? (i := 22) rfl))) (Or.inl (hw _ (List.mem_of_getElem? (i := 24) rfl))) (by decide) (t := (.array .byte)) (t' := .int) (by decide) (by decide)))
                    have f29_2 := f23_2.other W29 (Or.inr (slot_ne (a0 := a0) (C := "com/example/skorr/skorr/index/VarintReader") (Or.inl (hw _ (List.mem_of_getElem? (i := 26) rfl))) (Or.inl (hw _ (List.mem_of_getElem? (i := 24) rfl))) (by decide) (t := .int) (t' := .int) (by decide) (by decide)))
                    have f29_3 := f23_3.other W29 (Ne.symm ne_ob)
                    have K29 : Keep h0 h29 [o] := K23.wr W29 (Or.inl (List.mem_of_getElem? (i := 0) rfl))
                    have Z29 : n0 ≤ h29.size := Nat.le_trans Z0 K29.1
                    have N29 := Fr.snoc X29 N23 g_o
                    obtain ⟨J29, X29, N29⟩ := own_hide X29 N29
                    refine own_Go.of (g' := (mkF m 30 #[.val (.ref o), .val (.long ac4), .second, .val (.int (28 : Int32)), .val (.int bt3)] [(.int ap4), (.ref b)])) (fun t k => st29 _ k) ?_
                    obtain ⟨cl30, Ar30, q30, S30, M30, H30, G30⟩ := id f29_3
                    have hin30 : ¬ (ap4 < 0 ∨ cl30.slots.size ≤ (ap4).toNatClampNeg) := inb_of S30 (own_inb hp4 hc12_9 hr.2)
                    have hat30 : cl30.slots[(ap4).toNatClampNeg]? = some (.int (zs.getD (ap4).toNatClampNeg 0)) := Has.at H30 hin30 (own_getD_map zs _)
                    refine own_Go.of (g' := (mkF m 31 #[.val (.ref o), .val (.long ac4), .second, .val (.int (28 : Int32)), .val (.int bt3)] [(.int (zs.getD (ap4).toNatClampNeg 0))])) (fun t k => X29.baloadBytes hx (j := ap4) (v := (.int (zs.getD (ap4).toNatClampNeg 0))) (by rw [e29]; exact Ar30.1) (State.isArrayOf_alike hZ.alike Ar30.2.1) Ar30.2.2 hin30 hat30 (g := (mkF m 30 #[.val (.ref o), .val (.long ac4), .second, .val (.int (28 : Int32)), .val (.int bt3)] [(.int ap4), (.ref b)])) rfl rfl (hb hby d5_30) _ k) ?_
                    generalize hbt4 : (zs.getD (ap4).toNatClampNeg 0) = bt4
                    refine og_istore (pc' := 33) (L' := #[.val (.ref o), .val (.long ac4), .second, .val (.int (28 : Int32)), .val (.int bt4)]) X29 hx (hb hby d5_31) rfl rfl ?_
                    refine og_lloadN (pc' := 34) X29 hx (hb hby d5_33) rfl rfl ?_
                    refine og_iload (pc' := 36) X29 hx (hb hby d5_34) rfl rfl ?_
                    refine og_bipush (pc' := 38) (n := 127) X29 hx (hb hby d5_36) rfl rfl ?_
                    refine og_iand (pc' := 39) X29 hx (hb hby d5_38) rfl ?_
                    refine og_i2l (pc' := 40) X29 hx (hb hby d5_39) rfl ?_
                    refine og_iloadN (pc' := 41) X29 hx (hb hby d5_40) rfl rfl ?_
                    refine og_lshl (pc' := 42) X29 hx (hb hby d5_41) rfl ?_
                    refine og_lor (pc' := 43) X29 hx (hb hby d5_42) rfl ?_
                    refine og_lstoreN (pc' := 44) (L' := #[.val (.ref o), .val (.long (ac4 ||| (((bt4 &&& (127 : Int32)).toInt64) <<< ((28 : Int32) &&& 0x3f).toInt64))), .second, .val (.int (28 : Int32)), .val (.int bt4)]) X29 hx (hb hby d5_43) rfl rfl ?_
                    refine og_iload (pc' := 46) X29 hx (hb hby d5_44) rfl rfl ?_
                    by_cases hc46_10 : bt4 < (0 : Int32)
                    · refine og_ifYes (pc' := 51) X29 hx (hb hby d5_46) ((if0 _ _).trans (tlt hc46_10).1) (by decide) (by decide) ?_
                      refine og_iinc (pc' := 54) (L' := #[.val (.ref o), .val (.long (ac4 ||| (((bt4 &&& (127 : Int32)).toInt64) <<< ((28 : Int32) &&& 0x3f).toInt64))), .second, .val (.int ((28 : Int32) + (7 : Int32))), .val (.int bt4)]) X29 hx (hb hby d5_51) rfl rfl rfl ?_
                      rw [show ((28 : Int32) + (7 : Int32)) = (35 : Int32) from by decide]
                      refine og_iloadN (pc' := 55) X29 hx (hb hby d5_54) rfl rfl ?_
                      refine og_bipush (pc' := 57) (n := 56) X29 hx (hb hby d5_55) rfl rfl ?_
                      refine og_icmpYes (pc' := 64) X29 hx (hb hby d5_57) (flt (by decide)).2.2.2 (by decide) (by decide) ?_
                      refine og_goto (pc' := 4) X29 hx (hb hby d5_64) (by decide) (by decide) ?_
                      generalize hac5 : (ac4 ||| (((bt4 &&& (127 : Int32)).toInt64) <<< ((28 : Int32) &&& 0x3f).toInt64)) = ac5
                      obtain ⟨ap5, hap5⟩ : ∃ q, q = (ap4 + (1 : Int32)) := ⟨_, rfl⟩
                      have FA5 : Fld Z h29 o "com/example/skorr/skorr/index/VarintReader" "at" "I" (.int ap5) := by rw [hap5]; exact w29
                      have hR5 := hR4.trans (own_rd_more (n := 4) (sh' := (35 : Int32)) hc12_9 hbt4 hc46_10 hac5 (by decide) hap5)
                      have hp5 := own_apnn hc12_9 hr.2 hp4 hap5
                      refine og_aloadN (pc' := 5) X29 hx (hb hby d5_4) rfl rfl rfl ?_
                      obtain ⟨T31, X31, e31, st31⟩ := getF X29 hx hZ hown (host := "") (Or.inl (hw _ (List.mem_of_getElem? (i := 23) rfl))) Via.refl e29 FA5 (g := (mkF m 5 #[.val (.ref o), .val (.long ac5), .second, .val (.int (35 : Int32)), .val (.int bt4)] [(.ref o)])) rfl rfl (hb hby d5_5)
                      refine own_Go.of (g' := (mkF m 8 #[.val (.ref o), .val (.long ac5), .second, .val (.int (35 : Int32)), .val (.int bt4)] [(.int ap5)])) (fun t k => st31 _ k) ?_
                      refine og_aloadN (pc' := 9) X31 hx (hb hby d5_8) rfl rfl rfl ?_
                      obtain ⟨T32, X32, e32, st32⟩ := getF X31 hx hZ hown (host := "") (Or.inl (hw _ (List.mem_of_getElem? (i := 25) rfl))) Via.refl e31 f29_2 (g := (mkF m 9 #[.val (.ref o), .val (.long ac5), .second, .val (.int (35 : Int32)), .val (.int bt4)] [(.ref o), (.int ap5)])) rfl rfl (hb hby d5_9)
                      refine own_Go.of (g' := (mkF m 12 #[.val (.ref o), .val (.long ac5), .second, .val (.int (35 : Int32)), .val (.int bt4)] [(.int en), (.int ap5)])) (fun t k => st32 _ k) ?_
                      by_cases hc12_11 : ap5 < en
                      · refine og_icmpNo (pc' := 15) X32 hx (hb hby d5_12) (tlt hc12_11).2.1 rfl ?_
                        refine og_aloadN (pc' := 16) X32 hx (hb hby d5_15) rfl rfl rfl ?_
                        obtain ⟨T33, X33, e33, st33⟩ := getF X32 hx hZ hown (host := "") (Or.inl (hw _ (List.mem_of_getElem? (i := 21) rfl))) Via.refl e32 f29_1 (g := (mkF m 16 #[.val (.ref o), .val (.long ac5), .second, .val (.int (35 : Int32)), .val (.int bt4)] [(.ref o)])) rfl rfl (hb hby d5_16)
                        refine own_Go.of (g' := (mkF m 19 #[.val (.ref o), .val (.long ac5), .second, .val (.int (35 : Int32)), .val (.int bt4)] [(.ref b)])) (fun t k => st33 _ k) ?_
                        refine og_aloadN (pc' := 20) X33 hx (hb hby d5_19) rfl rfl rfl ?_
                        refine og_dup (pc' := 21) X33 hx (hb hby d5_20) rfl rfl ?_
                        obtain ⟨T34, X34, e34, st34⟩ := getF X33 hx hZ hown (host := "") (Or.inl (hw _ (List.mem_of_getElem? (i := 23) rfl))) Via.refl e33 FA5 (g := (mkF m 21 #[.val (.ref o), .val (.long ac5), .second, .val (.int (35 : Int32)), .val (.int bt4)] [(.ref o), (.ref o), (.ref b)])) rfl rfl (hb hby d5_21)
                        refine own_Go.of (g' := (mkF m 24 #[.val (.ref o), .val (.long ac5), .second, .val (.int (35 : Int32)), .val (.int bt4)] [(.int ap5), (.ref o), (.ref b)])) (fun t k => st34 _ k) ?_
                        refine og_dup_x1 (pc' := 25) X34 hx (hb hby d5_24) rfl rfl rfl ?_
                        refine og_iconst (pc' := 26) (n := 1) X34 hx (hb hby d5_25) rfl rfl ?_
                        refine og_iadd (pc' := 27) X34 hx (hb hby d5_26) rfl ?_
                        obtain ⟨T35, h35, X35, e35, W35, st35⟩ := putF X34 hx hZ hown (host := "") (Or.inl (hw _ (List.mem_of_getElem? (i := 23) rfl))) Via.refl e34 FA5 f29_0 (Or.inl (hw _ (List.mem_of_getElem? (i := 24) rfl))) (hw _ (List.mem_of_getElem? (i := 8) rfl)) (ty := .int) (by decide) rfl rfl (g := (mkF m 27 #[.val (.ref o), .val (.long ac5), .second, .val (.int (35 : Int32)), .val (.int bt4)] [(.int (ap5 + (1 : Int32))), (.ref o), (.int ap5), (.ref b)])) rfl rfl (hb hby d5_27)
                        have w35 : Fld Z h35 o "com/example/skorr/skorr/index/VarintReader" "at" "I" (.int (ap5 + (1 : Int32))) := FA5.same W35
                        have f35_0 := f29_0.wr W35
                        have f35_1 := f29_1.other W35 (Or.inr (slot_ne (a0 := a0) (C := "com/example/skorr/skorr/index/VarintReader") (Or.inl (hw _ (List.mem_of_getElem? (i := 22) rfl))) (Or.inl (hw _ (List.mem_of_getElem? (i := 24) rfl))) (by decide) (t := (.array .byte)) (t' := .int) (by decide) (by decide)))
                        have f35_2 := f29_2.other W35 (Or.inr (slot_ne (a0 := a0) (C := "com/example/skorr/skorr/index/VarintReader") (Or.inl (hw _ (List.mem_of_getElem? (i := 26) rfl))) (Or.inl (hw _ (List.mem_of_getElem? (i := 24) rfl))) (by decide) (t := .int) (t' := .int) (by decide) (by decide)))
                        have f35_3 := f29_3.other W35 (Ne.symm ne_ob)
                        have K35 : Keep h0 h35 [o] := K29.wr W35 (Or.inl (List.mem_of_getElem? (i := 0) rfl))
                        have Z35 : n0 ≤ h35.size := Nat.le_trans Z0 K35.1
                        have N35 := Fr.snoc X35 N29 g_o
                        obtain ⟨J35, X35, N35⟩ := own_hide X35 N35
                        refine own_Go.of (g' := (mkF m 30 #[.val (.ref o), .val (.long ac5), .second, .val (.int (35 : Int32)), .val (.int bt4)] [(.int ap5), (.ref b)])) (fun t k => st35 _ k) ?_
                        obtain ⟨cl36, Ar36, q36, S36, M36, H36, G36⟩ := id f35_3
                        have hin36 : ¬ (ap5 < 0 ∨ cl36.slots.size ≤ (ap5).toNatClampNeg) := inb_of S36 (own_inb hp5 hc12_11 hr.2)
                        have hat36 : cl36.slots[(ap5).toNatClampNeg]? = some (.int (zs.getD (ap5).toNatClampNeg 0)) := Has.at H36 hin36 (own_getD_map zs _)
                        refine own_Go.of (g' := (mkF m 31 #[.val (.ref o), .val (.long ac5), .second, .val (.int (35 : Int32)), .val (.int bt4)] [(.int (zs.getD (ap5).toNatClampNeg 0))])) (fun t k => X35.baloadBytes hx (j := ap5) (v := (.int (zs.getD (ap5).toNatClampNeg 0))) (by rw [e35]; exact Ar36.1) (State.isArrayOf_alike hZ.alike Ar36.2.1) Ar36.2.2 hin36 hat36 (g := (mkF m 30 #[.val (.ref o), .val (.long ac5), .second, .val (.int (35 : Int32)), .val (.int bt4)] [(.int ap5), (.ref b)])) rfl rfl (hb hby d5_30) _ k) ?_
                        generalize hbt5 : (zs.getD (ap5).toNatClampNeg 0) = bt5
                        refine og_istore (pc' := 33) (L' := #[.val (.ref o), .val (.long ac5), .second, .val (.int (35 : Int32)), .val (.int bt5)]) X35 hx (hb hby d5_31) rfl rfl ?_
                        refine og_lloadN (pc' := 34) X35 hx (hb hby d5_33) rfl rfl ?_
                        refine og_iload (pc' := 36) X35 hx (hb hby d5_34) rfl rfl ?_
                        refine og_bipush (pc' := 38) (n := 127) X35 hx (hb hby d5_36) rfl rfl ?_
                        refine og_iand (pc' := 39) X35 hx (hb hby d5_38) rfl ?_
                        refine og_i2l (pc' := 40) X35 hx (hb hby d5_39) rfl ?_
                        refine og_iloadN (pc' := 41) X35 hx (hb hby d5_40) rfl rfl ?_
                        refine og_lshl (pc' := 42) X35 hx (hb hby d5_41) rfl ?_
                        refine og_lor (pc' := 43) X35 hx (hb hby d5_42) rfl ?_
                        refine og_lstoreN (pc' := 44) (L' := #[.val (.ref o), .val (.long (ac5 ||| (((bt5 &&& (127 : Int32)).toInt64) <<< ((35 : Int32) &&& 0x3f).toInt64))), .second, .val (.int (35 : Int32)), .val (.int bt5)]) X35 hx (hb hby d5_43) rfl rfl ?_
                        refine og_iload (pc' := 46) X35 hx (hb hby d5_44) rfl rfl ?_
                        by_cases hc46_12 : bt5 < (0 : Int32)
                        · refine og_ifYes (pc' := 51) X35 hx (hb hby d5_46) ((if0 _ _).trans (tlt hc46_12).1) (by decide) (by decide) ?_
                          refine og_iinc (pc' := 54) (L' := #[.val (.ref o), .val (.long (ac5 ||| (((bt5 &&& (127 : Int32)).toInt64) <<< ((35 : Int32) &&& 0x3f).toInt64))), .second, .val (.int ((35 : Int32) + (7 : Int32))), .val (.int bt5)]) X35 hx (hb hby d5_51) rfl rfl rfl ?_
                          rw [show ((35 : Int32) + (7 : Int32)) = (42 : Int32) from by decide]
                          refine og_iloadN (pc' := 55) X35 hx (hb hby d5_54) rfl rfl ?_
                          refine og_bipush (pc' := 57) (n := 56) X35 hx (hb hby d5_55) rfl rfl ?_
                          refine og_icmpYes (pc' := 64) X35 hx (hb hby d5_57) (flt (by decide)).2.2.2 (by decide) (by decide) ?_
                          refine og_goto (pc' := 4) X35 hx (hb hby d5_64) (by decide) (by decide) ?_
                          generalize hac6 : (ac5 ||| (((bt5 &&& (127 : Int32)).toInt64) <<< ((35 : Int32) &&& 0x3f).toInt64)) = ac6
                          obtain ⟨ap6, hap6⟩ : ∃ q, q = (ap5 + (1 : Int32)) := ⟨_, rfl⟩
                          have FA6 : Fld Z h35 o "com/example/skorr/skorr/index/VarintReader" "at" "I" (.int ap6) := by rw [hap6]; exact w35
                          have hR6 := hR5.trans (own_rd_more (n := 3) (sh' := (42 : Int32)) hc12_11 hbt5 hc46_12 hac6 (by decide) hap6)
                          have hp6 := own_apnn hc12_11 hr.2 hp5 hap6
                          refine og_aloadN (pc' := 5) X35 hx (hb hby d5_4) rfl rfl rfl ?_
                          obtain ⟨T37, X37, e37, st37⟩ := getF X35 hx hZ hown (host := "") (Or.inl (hw _ (List.mem_of_getElem? (i := 23) rfl))) Via.refl e35 FA6 (g := (mkF m 5 #[.val (.ref o), .val (.long ac6), .second, .val (.int (42 : Int32)), .val (.int bt5)] [(.ref o)])) rfl rfl (hb hby d5_5)
                          refine own_Go.of (g' := (mkF m 8 #[.val (.ref o), .val (.long ac6), .second, .val (.int (42 : Int32)), .val (.int bt5)] [(.int ap6)])) (fun t k => st37 _ k) ?_
                          refine og_aloadN (pc' := 9) X37 hx (hb hby d5_8) rfl rfl rfl ?_
                          obtain ⟨T38, X38, e38, st38⟩ := getF X37 hx hZ hown (host := "") (Or.inl (hw _ (List.mem_of_getElem? (i := 25) rfl))) Via.refl e37 f35_2 (g := (mkF m 9 #[.val (.ref o), .val (.long ac6), .second, .val (.int (42 : Int32)), .val (.int bt5)] [(.ref o), (.int ap6)])) rfl rfl (hb hby d5_9)
                          refine own_Go.of (g' := (mkF m 12 #[.val (.ref o), .val (.long ac6), .second, .val (.int (42 : Int32)), .val (.int bt5)] [(.int en), (.int ap6)])) (fun t k => st38 _ k) ?_
                          by_cases hc12_13 : ap6 < en
                          · refine og_icmpNo (pc' := 15) X38 hx (hb hby d5_12) (tlt hc12_13).2.1 rfl ?_
                            refine og_aloadN (pc' := 16) X38 hx (hb hby d5_15) rfl rfl rfl ?_
                            obtain ⟨T39, X39, e39, st39⟩ := getF X38 hx hZ hown (host := "") (Or.inl (hw _ (List.mem_of_getElem? (i := 21) rfl))) Via.refl e38 f35_1 (g := (mkF m 16 #[.val (.ref o), .val (.long ac6), .second, .val (.int (42 : Int32)), .val (.int bt5)] [(.ref o)])) rfl rfl (hb hby d5_16)
                            refine own_Go.of (g' := (mkF m 19 #[.val (.ref o), .val (.long ac6), .second, .val (.int (42 : Int32)), .val (.int bt5)] [(.ref b)])) (fun t k => st39 _ k) ?_
                            refine og_aloadN (pc' := 20) X39 hx (hb hby d5_19) rfl rfl rfl ?_
                            refine og_dup (pc' := 21) X39 hx (hb hby d5_20) rfl rfl ?_
                            obtain ⟨T40, X40, e40, st40⟩ := getF X39 hx hZ hown (host := "") (Or.inl (hw _ (List.mem_of_getElem? (i := 23) rfl))) Via.refl e39 FA6 (g := (mkF m 21 #[.val (.ref o), .val (.long ac6), .second, .val (.int (42 : Int32)), .val (.int bt5)] [(.ref o), (.ref o), (.ref b)])) rfl rfl (hb hby d5_21)
                            refine own_Go.of (g' := (mkF m 24 #[.val (.ref o), .val (.long ac6), .second, .val (.int (42 : Int32)), .val (.int bt5)] [(.int ap6), (.ref o), (.ref b)])) (fun t k => st40 _ k) ?_
                            refine og_dup_x1 (pc' := 25) X40 hx (hb hby d5_24) rfl rfl rfl ?_
                            refine og_iconst (pc' := 26) (n := 1) X40 hx (hb hby d5_25) rfl rfl ?_
                            refine og_iadd (pc' := 27) X40 hx (hb hby d5_26) rfl ?_
                            obtain ⟨T41, h41, X41, e41, W41, st41⟩ := putF X40 hx hZ hown (host := "") (Or.inl (hw _ (List.mem_of_getElem? (i := 23) rfl))) Via.refl e40 FA6 f35_0 (Or.inl (hw _ (List.mem_of_getElem? (i := 24) rfl))) (hw _ (List.mem_of_getElem? (i := 8) rfl)) (ty := .int) (by decide) rfl rfl (g := (mkF m 27 #[.val (.ref o), .val (.long ac6), .second, .val (.int (42 : Int32)), .val (.int bt5)] [(.int (ap6 + (1 : Int32))), (.ref o), (.int ap6), (.ref b)])) rfl rfl (hb hby d5_27)
                            have w41 : Fld Z h41 o "com/example/skorr/skorr/index/VarintReader" "at" "I" (.int (ap6 + (1 : Int32))) := FA6.same W41
                            have f41_0 := f35_0.wr W41
                            have f41_1 := f35_1.other W41 (Or.inr (slot_ne (a0 := a0) (C := "com/example/skorr/skorr/index/VarintReader") (Or.inl (hw _ (List.mem_of_getElem? (i := 22) rfl))) (Or.inl (hw _ (List.mem_of_getElem? (i := 24) rfl))) (by decide) (t := (.array .byte)) (t' := .int) (by decide) (by decide)))
                            have f41_2 := f35_2.other W41 (Or.inr (slot_ne (a0 := a0) (C := "com/example/skorr/skorr/index/VarintReader") (Or.inl (hw _ (List.mem_of_getElem? (i := 26) rfl))) (Or.inl (hw _ (List.mem_of_getElem? (i := 24) rfl))) (by decide) (t := .int) (t' := .int) (by decide) (by decide)))
                            have f41_3 := f35_3.other W41 (Ne.symm ne_ob)
                            have K41 : Keep h0 h41 [o] := K35.wr W41 (Or.inl (List.mem_of_getElem? (i := 0) rfl))
                            have Z41 : n0 ≤ h41.size := Nat.le_trans Z0 K41.1
                            have N41 := Fr.snoc X41 N35 g_o
                            obtain ⟨J41, X41, N41⟩ := own_hide X41 N41
                            refine own_Go.of (g' := (mkF m 30 #[.val (.ref o), .val (.long ac6), .second, .val (.int (42 : Int32)), .val (.int bt5)] [(.int ap6), (.ref b)])) (fun t k => st41 _ k) ?_
                            obtain ⟨cl42, Ar42, q42, S42, M42, H42, G42⟩ := id f41_3
                            have hin42 : ¬ (ap6 < 0 ∨ cl42.slots.size ≤ (ap6).toNatClampNeg) := inb_of S42 (own_inb hp6 hc12_13 hr.2)
                            have hat42 : cl42.slots[(ap6).toNatClampNeg]? = some (.int (zs.getD (ap6).toNatClampNeg 0)) := Has.at H42 hin42 (own_getD_map zs _)
                            refine own_Go.of (g' := (mkF m 31 #[.val (.ref o), .val (.long ac6), .second, .val (.int (42 : Int32)), .val (.int bt5)] [(.int (zs.getD (ap6).toNatClampNeg 0))])) (fun t k => X41.baloadBytes hx (j := ap6) (v := (.int (zs.getD (ap6).toNatClampNeg 0))) (by rw [e41]; exact Ar42.1) (State.isArrayOf_alike hZ.alike Ar42.2.1) Ar42.2.2 hin42 hat42 (g := (mkF m 30 #[.val (.ref o), .val (.long ac6), .second, .val (.int (42 : Int32)), .val (.int bt5)] [(.int ap6), (.ref b)])) rfl rfl (hb hby d5_30) _ k) ?_
                            generalize hbt6 : (zs.getD (ap6).toNatClampNeg 0) = bt6
                            refine og_istore (pc' := 33) (L' := #[.val (.ref o), .val (.long ac6), .second, .val (.int (42 : Int32)), .val (.int bt6)]) X41 hx (hb hby d5_31) rfl rfl ?_
                            refine og_lloadN (pc' := 34) X41 hx (hb hby d5_33) rfl rfl ?_
                            refine og_iload (pc' := 36) X41 hx (hb hby d5_34) rfl rfl ?_
                            refine og_bipush (pc' := 38) (n := 127) X41 hx (hb hby d5_36) rfl rfl ?_
                            refine og_iand (pc' := 39) X41 hx (hb hby d5_38) rfl ?_
                            refine og_i2l (pc' := 40) X41 hx (hb hby d5_39) rfl ?_
                            refine og_iloadN (pc' := 41) X41 hx (hb hby d5_40) rfl rfl ?_
                            refine og_lshl (pc' := 42) X41 hx (hb hby d5_41) rfl ?_
                            refine og_lor (pc' := 43) X41 hx (hb hby d5_42) rfl ?_
                            refine og_lstoreN (pc' := 44) (L' := #[.val (.ref o), .val (.long (ac6 ||| (((bt6 &&& (127 : Int32)).toInt64) <<< ((42 : Int32) &&& 0x3f).toInt64))), .second, .val (.int (42 : Int32)), .val (.int bt6)]) X41 hx (hb hby d5_43) rfl rfl ?_
                            refine og_iload (pc' := 46) X41 hx (hb hby d5_44) rfl rfl ?_
                            by_cases hc46_14 : bt6 < (0 : Int32)
                            · refine og_ifYes (pc' := 51) X41 hx (hb hby d5_46) ((if0 _ _).trans (tlt hc46_14).1) (by decide) (by decide) ?_
                              refine og_iinc (pc' := 54) (L' := #[.val (.ref o), .val (.long (ac6 ||| (((bt6 &&& (127 : Int32)).toInt64) <<< ((42 : Int32) &&& 0x3f).toInt64))), .second, .val (.int ((42 : Int32) + (7 : Int32))), .val (.int bt6)]) X41 hx (hb hby d5_51) rfl rfl rfl ?_
                              rw [show ((42 : Int32) + (7 : Int32)) = (49 : Int32) from by decide]
                              refine og_iloadN (pc' := 55) X41 hx (hb hby d5_54) rfl rfl ?_
                              refine og_bipush (pc' := 57) (n := 56) X41 hx (hb hby d5_55) rfl rfl ?_
                              refine og_icmpYes (pc' := 64) X41 hx (hb hby d5_57) (flt (by decide)).2.2.2 (by decide) (by decide) ?_
                              refine og_goto (pc' := 4) X41 hx (hb hby d5_64) (by decide) (by decide) ?_
                              generalize hac7 : (ac6 ||| (((bt6 &&& (127 : Int32)).toInt64) <<< ((42 : Int32) &&& 0x3f).toInt64)) = ac7
                              obtain ⟨ap7, hap7⟩ : ∃ q, q = (ap6 + (1 : Int32)) := ⟨_, rfl⟩
                              have FA7 : Fld Z h41 o "com/example/skorr/skorr/index/VarintReader" "at" "I" (.int ap7) := by rw [hap7]; exact w41
                              have hR7 := hR6.trans (own_rd_more (n := 2) (sh' := (49 : Int32)) hc12_13 hbt6 hc46_14 hac7 (by decide) hap7)
                              have hp7 := own_apnn hc12_13 hr.2 hp6 hap7
                              refine og_aloadN (pc' := 5) X41 hx (hb hby d5_4) rfl rfl rfl ?_
                              obtain ⟨T43, X43, e43, st43⟩ := getF X41 hx hZ hown (host := "") (Or.inl (hw _ (List.mem_of_getElem? (i := 23) rfl))) Via.refl e41 FA7 (g := (mkF m 5 #[.val (.ref o), .val (.long ac7), .second, .val (.int (49 : Int32)), .val (.int bt6)] [(.ref o)])) rfl rfl (hb hby d5_5)
                              refine own_Go.of (g' := (mkF m 8 #[.val (.ref o), .val (.long ac7), .second, .val (.int (49 : Int32)), .val (.int bt6)] [(.int ap7)])) (fun t k => st43 _ k) ?_
                              refine og_aloadN (pc' := 9) X43 hx (hb hby d5_8) rfl rfl rfl ?_
                              obtain ⟨T44, X44, e44, st44⟩ := getF X43 hx hZ hown (host := "") (Or.inl (hw _ (List.mem_of_getElem? (i := 25) rfl))) Via.refl e43 f41_2 (g := (mkF m 9 #[.val (.ref o), .val (.long ac7), .second, .val (.int (49 : Int32)), .val (.int bt6)] [(.ref o), (.int ap7)])) rfl rfl (hb hby d5_9)
                              refine own_Go.of (g' := (mkF m 12 #[.val (.ref o), .val (.long ac7), .second, .val (.int (49 : Int32)), .val (.int bt6)] [(.int en), (.int ap7)])) (fun t k => st44 _ k) ?_
                              by_cases hc12_15 : ap7 < en
                              · refine og_icmpNo (pc' := 15) X44 hx (hb hby d5_12) (tlt hc12_15).2.1 rfl ?_
                                refine og_aloadN (pc' := 16) X44 hx (hb hby d5_15) rfl rfl rfl ?_
                                obtain ⟨T45, X45, e45, st45⟩ := getF X44 hx hZ hown (host := "") (Or.inl (hw _ (List.mem_of_getElem? (i := 21) rfl))) Via.refl e44 f41_1 (g := (mkF m 16 #[.val (.ref o), .val (.long ac7), .second, .val (.int (49 : Int32)), .val (.int bt6)] [(.ref o)])) rfl rfl (hb hby d5_16)
                                refine own_Go.of (g' := (mkF m 19 #[.val (.ref o), .val (.long ac7), .second, .val (.int (49 : Int32)), .val (.int bt6)] [(.ref b)])) (fun t k => st45 _ k) ?_
                                refine og_aloadN (pc' := 20) X45 hx (hb hby d5_19) rfl rfl rfl ?_
                                refine og_dup (pc' := 21) X45 hx (hb hby d5_20) rfl rfl ?_
                                obtain ⟨T46, X46, e46, st46⟩ := getF X45 hx hZ hown (host := "") (Or.inl (hw _ (List.mem_of_getElem? (i := 23) rfl))) Via.refl e45 FA7 (g := (mkF m 21 #[.val (.ref o), .val (.long ac7), .second, .val (.int (49 : Int32)), .val (.int bt6)] [(.ref o), (.ref o), (.ref b)])) rfl rfl (hb hby d5_21)
                                refine own_Go.of (g' := (mkF m 24 #[.val (.ref o), .val (.long ac7), .second, .val (.int (49 : Int32)), .val (.int bt6)] [(.int ap7), (.ref o), (.ref b)])) (fun t k => st46 _ k) ?_
                                refine og_dup_x1 (pc' := 25) X46 hx (hb hby d5_24) rfl rfl rfl ?_
                                refine og_iconst (pc' := 26) (n := 1) X46 hx (hb hby d5_25) rfl rfl ?_
                                refine og_iadd (pc' := 27) X46 hx (hb hby d5_26) rfl ?_
                                obtain ⟨T47, h47, X47, e47, W47, st47⟩ := putF X46 hx hZ hown (host := "") (Or.inl (hw _ (List.mem_of_getElem? (i := 23) rfl))) Via.refl e46 FA7 f41_0 (Or.inl (hw _ (List.mem_of_getElem? (i := 24) rfl))) (hw _ (List.mem_of_getElem? (i := 8) rfl)) (ty := .int) (by decide) rfl rfl (g := (mkF m 27 #[.val (.ref o), .val (.long ac7), .second, .val (.int (49 : Int32)), .val (.int bt6)] [(.int (ap7 + (1 : Int32))), (.ref o), (.int ap7), (.ref b)])) rfl rfl (hb hby d5_27)
                                have w47 : Fld Z h47 o "com/example/skorr/skorr/index/VarintReader" "at" "I" (.int (ap7 + (1 : Int32))) := FA7.same W47
                                have f47_0 := f41_0.wr W47
                                have f47_1 := f41_1.other W47 (Or.inr (slot_ne (a0 := a0) (C := "com/example/skorr/skorr/index/VarintReader") (Or.inl (hw _ (List.mem_of_getElem? (i := 22) rfl))) (Or.inl (hw _ (List.mem_of_getElem? (i := 24) rfl))) (by decide) (t := (.array .byte)) (t' := .int) (by decide) (by decide)))
                                have f47_2 := f41_2.other W47 (Or.inr (slot_ne (a0 := a0) (C := "com/example/skorr/skorr/index/VarintReader") (Or.inl (hw _ (List.mem_of_getElem? (i := 26) rfl))) (Or.inl (hw _ (List.mem_of_getElem? (i := 24) rfl))) (by decide) (t := .int) (t' := .int) (by decide) (by decide)))
                                have f47_3 := f41_3.other W47 (Ne.symm ne_ob)
                                have K47 : Keep h0 h47 [o] := K41.wr W47 (Or.inl (List.mem_of_getElem? (i := 0) rfl))
                                have Z47 : n0 ≤ h47.size := Nat.le_trans Z0 K47.1
                                have N47 := Fr.snoc X47 N41 g_o
                                obtain ⟨J47, X47, N47⟩ := own_hide X47 N47
                                refine own_Go.of (g' := (mkF m 30 #[.val (.ref o), .val (.long ac7), .second, .val (.int (49 : Int32)), .val (.int bt6)] [(.int ap7), (.ref b)])) (fun t k => st47 _ k) ?_
                                obtain ⟨cl48, Ar48, q48, S48, M48, H48, G48⟩ := id f47_3
                                have hin48 : ¬ (ap7 < 0 ∨ cl48.slots.size ≤ (ap7).toNatClampNeg) := inb_of S48 (own_inb hp7 hc12_15 hr.2)
                                have hat48 : cl48.slots[(ap7).toNatClampNeg]? = some (.int (zs.getD (ap7).toNatClampNeg 0)) := Has.at H48 hin48 (own_getD_map zs _)
                                refine own_Go.of (g' := (mkF m 31 #[.val (.ref o), .val (.long ac7), .second, .val (.int (49 : Int32)), .val (.int bt6)] [(.int (zs.getD (ap7).toNatClampNeg 0))])) (fun t k => X47.baloadBytes hx (j := ap7) (v := (.int (zs.getD (ap7).toNatClampNeg 0))) (by rw [e47]; exact Ar48.1) (State.isArrayOf_alike hZ.alike Ar48.2.1) Ar48.2.2 hin48 hat48 (g := (mkF m 30 #[.val (.ref o), .val (.long ac7), .second, .val (.int (49 : Int32)), .val (.int bt6)] [(.int ap7), (.ref b)])) rfl rfl (hb hby d5_30) _ k) ?_
                                generalize hbt7 : (zs.getD (ap7).toNatClampNeg 0) = bt7
                                refine og_istore (pc' := 33) (L' := #[.val (.ref o), .val (.long ac7), .second, .val (.int (49 : Int32)), .val (.int bt7)]) X47 hx (hb hby d5_31) rfl rfl ?_
                                refine og_lloadN (pc' := 34) X47 hx (hb hby d5_33) rfl rfl ?_
                                refine og_iload (pc' := 36) X47 hx (hb hby d5_34) rfl rfl ?_
                                refine og_bipush (pc' := 38) (n := 127) X47 hx (hb hby d5_36) rfl rfl ?_
                                refine og_iand (pc' := 39) X47 hx (hb hby d5_38) rfl ?_
                                refine og_i2l (pc' := 40) X47 hx (hb hby d5_39) rfl ?_
                                refine og_iloadN (pc' := 41) X47 hx (hb hby d5_40) rfl rfl ?_
                                refine og_lshl (pc' := 42) X47 hx (hb hby d5_41) rfl ?_
                                refine og_lor (pc' := 43) X47 hx (hb hby d5_42) rfl ?_
                                refine og_lstoreN (pc' := 44) (L' := #[.val (.ref o), .val (.long (ac7 ||| (((bt7 &&& (127 : Int32)).toInt64) <<< ((49 : Int32) &&& 0x3f).toInt64))), .second, .val (.int (49 : Int32)), .val (.int bt7)]) X47 hx (hb hby d5_43) rfl rfl ?_
                                refine og_iload (pc' := 46) X47 hx (hb hby d5_44) rfl rfl ?_
                                by_cases hc46_16 : bt7 < (0 : Int32)
                                · refine og_ifYes (pc' := 51) X47 hx (hb hby d5_46) ((if0 _ _).trans (tlt hc46_16).1) (by decide) (by decide) ?_
                                  refine og_iinc (pc' := 54) (L' := #[.val (.ref o), .val (.long (ac7 ||| (((bt7 &&& (127 : Int32)).toInt64) <<< ((49 : Int32) &&& 0x3f).toInt64))), .second, .val (.int ((49 : Int32) + (7 : Int32))), .val (.int bt7)]) X47 hx (hb hby d5_51) rfl rfl rfl ?_
                                  rw [show ((49 : Int32) + (7 : Int32)) = (56 : Int32) from by decide]
                                  refine og_iloadN (pc' := 55) X47 hx (hb hby d5_54) rfl rfl ?_
                                  refine og_bipush (pc' := 57) (n := 56) X47 hx (hb hby d5_55) rfl rfl ?_
                                  refine og_icmpYes (pc' := 64) X47 hx (hb hby d5_57) (flt (by decide)).2.2.2 (by decide) (by decide) ?_
                                  refine og_goto (pc' := 4) X47 hx (hb hby d5_64) (by decide) (by decide) ?_
                                  generalize hac8 : (ac7 ||| (((bt7 &&& (127 : Int32)).toInt64) <<< ((49 : Int32) &&& 0x3f).toInt64)) = ac8
                                  obtain ⟨ap8, hap8⟩ : ∃ q, q = (ap7 + (1 : Int32)) := ⟨_, rfl⟩
                                  have FA8 : Fld Z h47 o "com/example/skorr/skorr/index/VarintReader" "at" "I" (.int ap8) := by rw [hap8]; exact w47
                                  have hR8 := hR7.trans (own_rd_more (n := 1) (sh' := (56 : Int32)) hc12_15 hbt7 hc46_16 hac8 (by decide) hap8)
                                  have hp8 := own_apnn hc12_15 hr.2 hp7 hap8
                                  refine og_aloadN (pc' := 5) X47 hx (hb hby d5_4) rfl rfl rfl ?_
                                  obtain ⟨T49, X49, e49, st49⟩ := getF X47 hx hZ hown (host := "") (Or.inl (hw _ (List.mem_of_getElem? (i := 23) rfl))) Via.refl e47 FA8 (g := (mkF m 5 #[.val (.ref o), .val (.long ac8), .second, .val (.int (56 : Int32)), .val (.int bt7)] [(.ref o)])) rfl rfl (hb hby d5_5)
                                  refine own_Go.of (g' := (mkF m 8 #[.val (.ref o), .val (.long ac8), .second, .val (.int (56 : Int32)), .val (.int bt7)] [(.int ap8)])) (fun t k => st49 _ k) ?_
                                  refine og_aloadN (pc' := 9) X49 hx (hb hby d5_8) rfl rfl rfl ?_
                                  obtain ⟨T50, X50, e50, st50⟩ := getF X49 hx hZ hown (host := "") (Or.inl (hw _ (List.mem_of_getElem? (i := 25) rfl))) Via.refl e49 f47_2 (g := (mkF m 9 #[.val (.ref o), .val (.long ac8), .second, .val (.int (56 : Int32)), .val (.int bt7)] [(.ref o), (.int ap8)])) rfl rfl (hb hby d5_9)
                                  refine own_Go.of (g' := (mkF m 12 #[.val (.ref o), .val (.long ac8), .second, .val (.int (56 : Int32)), .val (.int bt7)] [(.int en), (.int ap8)])) (fun t k => st50 _ k) ?_
                                  by_cases hc12_17 : ap8 < en
                                  · refine og_icmpNo (pc' := 15) X50 hx (hb hby d5_12) (tlt hc12_17).2.1 rfl ?_
                                    refine og_aloadN (pc' := 16) X50 hx (hb hby d5_15) rfl rfl rfl ?_
                                    obtain ⟨T51, X51, e51, st51⟩ := getF X50 hx hZ hown (host := "") (Or.inl (hw _ (List.mem_of_getElem? (i := 21) rfl))) Via.refl e50 f47_1 (g := (mkF m 16 #[.val (.ref o), .val (.long ac8), .second, .val (.int (56 : Int32)), .val (.int bt7)] [(.ref o)])) rfl rfl (hb hby d5_16)
                                    refine own_Go.of (g' := (mkF m 19 #[.val (.ref o), .val (.long ac8), .second, .val (.int (56 : Int32)), .val (.int bt7)] [(.ref b)])) (fun t k => st51 _ k) ?_
                                    refine og_aloadN (pc' := 20) X51 hx (hb hby d5_19) rfl rfl rfl ?_
                                    refine og_dup (pc' := 21) X51 hx (hb hby d5_20) rfl rfl ?_
                                    obtain ⟨T52, X52, e52, st52⟩ := getF X51 hx hZ hown (host := "") (Or.inl (hw _ (List.mem_of_getElem? (i := 23) rfl))) Via.refl e51 FA8 (g := (mkF m 21 #[.val (.ref o), .val (.long ac8), .second, .val (.int (56 : Int32)), .val (.int bt7)] [(.ref o), (.ref o), (.ref b)])) rfl rfl (hb hby d5_21)
                                    refine own_Go.of (g' := (mkF m 24 #[.val (.ref o), .val (.long ac8), .second, .val (.int (56 : Int32)), .val (.int bt7)] [(.int ap8), (.ref o), (.ref b)])) (fun t k => st52 _ k) ?_
                                    refine og_dup_x1 (pc' := 25) X52 hx (hb hby d5_24) rfl rfl rfl ?_
                                    refine og_iconst (pc' := 26) (n := 1) X52 hx (hb hby d5_25) rfl rfl ?_
                                    refine og_iadd (pc' := 27) X52 hx (hb hby d5_26) rfl ?_
                                    obtain ⟨T53, h53, X53, e53, W53, st53⟩ := putF X52 hx hZ hown (host := "") (Or.inl (hw _ (List.mem_of_getElem? (i := 23) rfl))) Via.refl e52 FA8 f47_0 (Or.inl (hw _ (List.mem_of_getElem? (i := 24) rfl))) (hw _ (List.mem_of_getElem? (i := 8) rfl)) (ty := .int) (by decide) rfl rfl (g := (mkF m 27 #[.val (.ref o), .val (.long ac8), .second, .val (.int (56 : Int32)), .val (.int bt7)] [(.int (ap8 + (1 : Int32))), (.ref o), (.int ap8), (.ref b)])) rfl rfl (hb hby d5_27)
                                    have w53 : Fld Z h53 o "com/example/skorr/skorr/index/VarintReader" "at" "I" (.int (ap8 + (1 : Int32))) := FA8.same W53
                                    have f53_0 := f47_0.wr W53
                                    have f53_1 := f47_1.other W53 (Or.inr (slot_ne (a0 := a0) (C := "com/example/skorr/skorr/index/VarintReader") (Or.inl (hw _ (List.mem_of_getElem? (i := 22) rfl))) (Or.inl (hw _ (List.mem_of_getElem? (i := 24) rfl))) (by decide) (t := (.array .byte)) (t' := .int) (by decide) (by decide)))
                                    have f53_2 := f47_2.other W53 (Or.inr (slot_ne (a0 := a0) (C := "com/example/skorr/skorr/index/VarintReader") (Or.inl (hw _ (List.mem_of_getElem? (i := 26) rfl))) (Or.inl (hw _ (List.mem_of_getElem? (i := 24) rfl))) (by decide) (t := .int) (t' := .int) (by decide) (by decide)))
                                    have f53_3 := f47_3.other W53 (Ne.symm ne_ob)
                                    have K53 : Keep h0 h53 [o] := K47.wr W53 (Or.inl (List.mem_of_getElem? (i := 0) rfl))
                                    have Z53 : n0 ≤ h53.size := Nat.le_trans Z0 K53.1
                                    have N53 := Fr.snoc X53 N47 g_o
                                    obtain ⟨J53, X53, N53⟩ := own_hide X53 N53
                                    refine own_Go.of (g' := (mkF m 30 #[.val (.ref o), .val (.long ac8), .second, .val (.int (56 : Int32)), .val (.int bt7)] [(.int ap8), (.ref b)])) (fun t k => st53 _ k) ?_
                                    obtain ⟨cl54, Ar54, q54, S54, M54, H54, G54⟩ := id f53_3
                                    have hin54 : ¬ (ap8 < 0 ∨ cl54.slots.size ≤ (ap8).toNatClampNeg) := inb_of S54 (own_inb hp8 hc12_17 hr.2)
                                    have hat54 : cl54.slots[(ap8).toNatClampNeg]? = some (.int (zs.getD (ap8).toNatClampNeg 0)) := Has.at H54 hin54 (own_getD_map zs _)
                                    refine own_Go.of (g' := (mkF m 31 #[.val (.ref o), .val (.long ac8), .second, .val (.int (56 : Int32)), .val (.int bt7)] [(.int (zs.getD (ap8).toNatClampNeg 0))])) (fun t k => X53.baloadBytes hx (j := ap8) (v := (.int (zs.getD (ap8).toNatClampNeg 0))) (by rw [e53]; exact Ar54.1) (State.isArrayOf_alike hZ.alike Ar54.2.1) Ar54.2.2 hin54 hat54 (g := (mkF m 30 #[.val (.ref o), .val (.long ac8), .second, .val (.int (56 : Int32)), .val (.int bt7)] [(.int ap8), (.ref b)])) rfl rfl (hb hby d5_30) _ k) ?_
                                    generalize hbt8 : (zs.getD (ap8).toNatClampNeg 0) = bt8
                                    refine og_istore (pc' := 33) (L' := #[.val (.ref o), .val (.long ac8), .second, .val (.int (56 : Int32)), .val (.int bt8)]) X53 hx (hb hby d5_31) rfl rfl ?_
                                    refine og_lloadN (pc' := 34) X53 hx (hb hby d5_33) rfl rfl ?_
                                    refine og_iload (pc' := 36) X53 hx (hb hby d5_34) rfl rfl ?_
                                    refine og_bipush (pc' := 38) (n := 127) X53 hx (hb hby d5_36) rfl rfl ?_
                                    refine og_iand (pc' := 39) X53 hx (hb hby d5_38) rfl ?_
                                    refine og_i2l (pc' := 40) X53 hx (hb hby d5_39) rfl ?_
                                    refine og_iloadN (pc' := 41) X53 hx (hb hby d5_40) rfl rfl ?_
                                    refine og_lshl (pc' := 42) X53 hx (hb hby d5_41) rfl ?_
                                    refine og_lor (pc' := 43) X53 hx (hb hby d5_42) rfl ?_
                                    refine og_lstoreN (pc' := 44) (L' := #[.val (.ref o), .val (.long (ac8 ||| (((bt8 &&& (127 : Int32)).toInt64) <<< ((56 : Int32) &&& 0x3f).toInt64))), .second, .val (.int (56 : Int32)), .val (.int bt8)]) X53 hx (hb hby d5_43) rfl rfl ?_
                                    refine og_iload (pc' := 46) X53 hx (hb hby d5_44) rfl rfl ?_
                                    by_cases hc46_18 : bt8 < (0 : Int32)
                                    · refine og_ifYes (pc' := 51) X53 hx (hb hby d5_46) ((if0 _ _).trans (tlt hc46_18).1) (by decide) (by decide) ?_
                                      refine og_iinc (pc' := 54) (L' := #[.val (.ref o), .val (.long (ac8 ||| (((bt8 &&& (127 : Int32)).toInt64) <<< ((56 : Int32) &&& 0x3f).toInt64))), .second, .val (.int ((56 : Int32) + (7 : Int32))), .val (.int bt8)]) X53 hx (hb hby d5_51) rfl rfl rfl ?_
                                      rw [show ((56 : Int32) + (7 : Int32)) = (63 : Int32) from by decide]
                                      refine og_iloadN (pc' := 55) X53 hx (hb hby d5_54) rfl rfl ?_
                                      refine og_bipush (pc' := 57) (n := 56) X53 hx (hb hby d5_55) rfl rfl ?_
                                      refine og_icmpNo (pc' := 60) X53 hx (hb hby d5_57) (tlt (by decide)).2.2.2 rfl ?_
                                      refine og_ldc2_w (pc' := 63) X53 hx (hb hby d5_60) hown (mvT hZ (hw _ (List.mem_of_getElem? (i := 32) rfl))) rfl ?_
                                      obtain ⟨fs, hr, hrun, hended, hW, hsame⟩ := X53.leave (v := some (.long (-1 : Int64))) (fun h => by rw [Bd.returns] at h; cases h) (BodyLoose.notSynchronized Bd)
                                      refine ⟨_, _, retL X53 hx Bd.returns (hb hby d5_63) hr, hrun, hended, some (.long (-1 : Int64)), _, rfl, ?_, ⟨_, rfl⟩, hW, hsame.mono (by decide) (by decide)⟩
                                      show Qrd Z o b kk zs ap en h0 n0 _ T53.heap _
                                      rw [e53]
                                      exact ⟨(own_leafv (hR8.trans (own_rd_last hc12_17 hbt8 hc46_18 rfl))), N53, K53, f53_0, f53_1, (by rw [(hR8.trans (own_rd_last hc12_17 hbt8 hc46_18 rfl))]; exact w53), f53_2⟩
                                    · refine og_ifNo (pc' := 49) X53 hx (hb hby d5_46) ((if0 _ _).trans (flt hc46_18).1) rfl ?_
                                      refine og_lloadN (pc' := 50) X53 hx (hb hby d5_49) rfl rfl ?_
                                      obtain ⟨fs, hr, hrun, hended, hW, hsame⟩ := X53.leave (v := some (.long (ac8 ||| (((bt8 &&& (127 : Int32)).toInt64) <<< ((56 : Int32) &&& 0x3f).toInt64)))) (fun h => by rw [Bd.returns] at h; cases h) (BodyLoose.notSynchronized Bd)
                                      refine ⟨_, _, retL X53 hx Bd.returns (hb hby d5_50) hr, hrun, hended, some (.long (ac8 ||| (((bt8 &&& (127 : Int32)).toInt64) <<< ((56 : Int32) &&& 0x3f).toInt64))), _, rfl, ?_, ⟨_, rfl⟩, hW, hsame.mono (by decide) (by decide)⟩
                                      show Qrd Z o b kk zs ap en h0 n0 _ T53.heap _
                                      rw [e53]
                                      exact ⟨(own_leafv (hR8.trans (own_rd_end (n := 0) hc12_17 hbt8 hc46_18 rfl rfl))), N53, K53, f53_0, f53_1, (by rw [(hR8.trans (own_rd_end (n := 0) hc12_17 hbt8 hc46_18 rfl rfl))]; exact w53), f53_2⟩
                                  · refine og_icmpYes (pc' := 67) X50 hx (hb hby d5_12) (flt hc12_17).2.1 (by decide) (by decide) ?_
                                    refine og_ldc2_w (pc' := 70) X50 hx (hb hby d5_67) hown (mvT hZ (hw _ (List.mem_of_getElem? (i := 32) rfl))) rfl ?_
                                    obtain ⟨fs, hr, hrun, hended, hW, hsame⟩ := X50.leave (v := some (.long (-1 : Int64))) (fun h => by rw [Bd.returns] at h; cases h) (BodyLoose.notSynchronized Bd)
                                    refine ⟨_, _, retL X50 hx Bd.returns (hb hby d5_70) hr, hrun, hended, some (.long (-1 : Int64)), _, rfl, ?_, ⟨_, rfl⟩, hW, hsame.mono (by decide) (by decide)⟩
                                    show Qrd Z o b kk zs ap en h0 n0 _ T50.heap _
                                    rw [e50]
                                    exact ⟨(own_leafv (hR8.trans (own_rd_stop (n := 0) hc12_17))), N47, K47, f47_0, f47_1, (by rw [(hR8.trans (own_rd_stop (n := 0) hc12_17))]; exact FA8), f47_2⟩
                                · refine og_ifNo (pc' := 49) X47 hx (hb hby d5_46) ((if0 _ _).trans (flt hc46_16).1) rfl ?_
                                  refine og_lloadN (pc' := 50) X47 hx (hb hby d5_49) rfl rfl ?_
                                  obtain ⟨fs, hr, hrun, hended, hW, hsame⟩ := X47.leave (v := some (.long (ac7 ||| (((bt7 &&& (127 : Int32)).toInt64) <<< ((49 : Int32) &&& 0x3f).toInt64)))) (fun h => by rw [Bd.returns] at h; cases h) (BodyLoose.notSynchronized Bd)
                                  refine ⟨_, _, retL X47 hx Bd.returns (hb hby d5_50) hr, hrun, hended, some (.long (ac7 ||| (((bt7 &&& (127 : Int32)).toInt64) <<< ((49 : Int32) &&& 0x3f).toInt64))), _, rfl, ?_, ⟨_, rfl⟩, hW, hsame.mono (by decide) (by decide)⟩
                                  show Qrd Z o b kk zs ap en h0 n0 _ T47.heap _
                                  rw [e47]
                                  exact ⟨(own_leafv (hR7.trans (own_rd_end (n := 1) hc12_15 hbt7 hc46_16 rfl rfl))), N47, K47, f47_0, f47_1, (by rw [(hR7.trans (own_rd_end (n := 1) hc12_15 hbt7 hc46_16 rfl rfl))]; exact w47), f47_2⟩
                              · refine og_icmpYes (pc' := 67) X44 hx (hb hby d5_12) (flt hc12_15).2.1 (by decide) (by decide) ?_
                                refine og_ldc2_w (pc' := 70) X44 hx (hb hby d5_67) hown (mvT hZ (hw _ (List.mem_of_getElem? (i := 32) rfl))) rfl ?_
                                obtain ⟨fs, hr, hrun, hended, hW, hsame⟩ := X44.leave (v := some (.long (-1 : Int64))) (fun h => by rw [Bd.returns] at h; cases h) (BodyLoose.notSynchronized Bd)
                                refine ⟨_, _, retL X44 hx Bd.returns (hb hby d5_70) hr, hrun, hended, some (.long (-1 : Int64)), _, rfl, ?_, ⟨_, rfl⟩, hW, hsame.mono (by decide) (by decide)⟩
                                show Qrd Z o b kk zs ap en h0 n0 _ T44.heap _
                                rw [e44]
                                exact ⟨(own_leafv (hR7.trans (own_rd_stop (n := 1) hc12_15))), N41, K41, f41_0, f41_1, (by rw [(hR7.trans (own_rd_stop (n := 1) hc12_15))]; exact FA7), f41_2⟩
                            · refine og_ifNo (pc' := 49) X41 hx (hb hby d5_46) ((if0 _ _).trans (flt hc46_14).1) rfl ?_
                              refine og_lloadN (pc' := 50) X41 hx (hb hby d5_49) rfl rfl ?_
                              obtain ⟨fs, hr, hrun, hended, hW, hsame⟩ := X41.leave (v := some (.long (ac6 ||| (((bt6 &&& (127 : Int32)).toInt64) <<< ((42 : Int32) &&& 0x3f).toInt64)))) (fun h => by rw [Bd.returns] at h; cases h) (BodyLoose.notSynchronized Bd)
                              refine ⟨_, _, retL X41 hx Bd.returns (hb hby d5_50) hr, hrun, hended, some (.long (ac6 ||| (((bt6 &&& (127 : Int32)).toInt64) <<< ((42 : Int32) &&& 0x3f).toInt64))), _, rfl, ?_, ⟨_, rfl⟩, hW, hsame.mono (by decide) (by decide)⟩
                              show Qrd Z o b kk zs ap en h0 n0 _ T41.heap _
                              rw [e41]
                              exact ⟨(own_leafv (hR6.trans (own_rd_end (n := 2) hc12_13 hbt6 hc46_14 rfl rfl))), N41, K41, f41_0, f41_1, (by rw [(hR6.trans (own_rd_end (n := 2) hc12_13 hbt6 hc46_14 rfl rfl))]; exact w41), f41_2⟩
                          · refine og_icmpYes (pc' := 67) X38 hx (hb hby d5_12) (flt hc12_13).2.1 (by decide) (by decide) ?_
                            refine og_ldc2_w (pc' := 70) X38 hx (hb hby d5_67) hown (mvT hZ (hw _ (List.mem_of_getElem? (i := 32) rfl))) rfl ?_
                            obtain ⟨fs, hr, hrun, hended, hW, hsame⟩ := X38.leave (v := some (.long (-1 : Int64))) (fun h => by rw [Bd.returns] at h; cases h) (BodyLoose.notSynchronized Bd)
                            refine ⟨_, _, retL X38 hx Bd.returns (hb hby d5_70) hr, hrun, hended, some (.long (-1 : Int64)), _, rfl, ?_, ⟨_, rfl⟩, hW, hsame.mono (by decide) (by decide)⟩
                            show Qrd Z o b kk zs ap en h0 n0 _ T38.heap _
                            rw [e38]
                            exact ⟨(own_leafv (hR6.trans (own_rd_stop (n := 2) hc12_13))), N35, K35, f35_0, f35_1, (by rw [(hR6.trans (own_rd_stop (n := 2) hc12_13))]; exact FA6), f35_2⟩
                        · refine og_ifNo (pc' := 49) X35 hx (hb hby d5_46) ((if0 _ _).trans (flt hc46_12).1) rfl ?_
                          refine og_lloadN (pc' := 50) X35 hx (hb hby d5_49) rfl rfl ?_
                          obtain ⟨fs, hr, hrun, hended, hW, hsame⟩ := X35.leave (v := some (.long (ac5 ||| (((bt5 &&& (127 : Int32)).toInt64) <<< ((35 : Int32) &&& 0x3f).toInt64)))) (fun h => by rw [Bd.returns] at h; cases h) (BodyLoose.notSynchronized Bd)
                          refine ⟨_, _, retL X35 hx Bd.returns (hb hby d5_50) hr, hrun, hended, some (.long (ac5 ||| (((bt5 &&& (127 : Int32)).toInt64) <<< ((35 : Int32) &&& 0x3f).toInt64))), _, rfl, ?_, ⟨_, rfl⟩, hW, hsame.mono (by decide) (by decide)⟩
                          show Qrd Z o b kk zs ap en h0 n0 _ T35.heap _
                          rw [e35]
                          exact ⟨(own_leafv (hR5.trans (own_rd_end (n := 3) hc12_11 hbt5 hc46_12 rfl rfl))), N35, K35, f35_0, f35_1, (by rw [(hR5.trans (own_rd_end (n := 3) hc12_11 hbt5 hc46_12 rfl rfl))]; exact w35), f35_2⟩
                      · refine og_icmpYes (pc' := 67) X32 hx (hb hby d5_12) (flt hc12_11).2.1 (by decide) (by decide) ?_
                        refine og_ldc2_w (pc' := 70) X32 hx (hb hby d5_67) hown (mvT hZ (hw _ (List.mem_of_getElem? (i := 32) rfl))) rfl ?_
                        obtain ⟨fs, hr, hrun, hended, hW, hsame⟩ := X32.leave (v := some (.long (-1 : Int64))) (fun h => by rw [Bd.returns] at h; cases h) (BodyLoose.notSynchronized Bd)
                        refine ⟨_, _, retL X32 hx Bd.returns (hb hby d5_70) hr, hrun, hended, some (.long (-1 : Int64)), _, rfl, ?_, ⟨_, rfl⟩, hW, hsame.mono (by decide) (by decide)⟩
                        show Qrd Z o b kk zs ap en h0 n0 _ T32.heap _
                        rw [e32]
                        exact ⟨(own_leafv (hR5.trans (own_rd_stop (n := 3) hc12_11))), N29, K29, f29_0, f29_1, (by rw [(hR5.trans (own_rd_stop (n := 3) hc12_11))]; exact FA5), f29_2⟩
                    · refine og_ifNo (pc' := 49) X29 hx (hb hby d5_46) ((if0 _ _).trans (flt hc46_10).1) rfl ?_
                      refine og_lloadN (pc' := 50) X29 hx (hb hby d5_49) rfl rfl ?_
                      obtain ⟨fs, hr, hrun, hended, hW, hsame⟩ := X29.leave (v := some (.long (ac4 ||| (((bt4 &&& (127 : Int32)).toInt64) <<< ((28 : Int32) &&& 0x3f).toInt64)))) (fun h => by rw [Bd.returns] at h; cases h) (BodyLoose.notSynchronized Bd)
                      refine ⟨_, _, retL X29 hx Bd.returns (hb hby d5_50) hr, hrun, hended, some (.long (ac4 ||| (((bt4 &&& (127 : Int32)).toInt64) <<< ((28 : Int32) &&& 0x3f).toInt64))), _, rfl, ?_, ⟨_, rfl⟩, hW, hsame.mono (by decide) (by decide)⟩
                      show Qrd Z o b kk zs ap en h0 n0 _ T29.heap _
                      rw [e29]
                      exact ⟨(own_leafv (hR4.trans (own_rd_end (n := 4) hc12_9 hbt4 hc46_10 rfl rfl))), N29, K29, f29_0, f29_1, (by rw [(hR4.trans (own_rd_end (n := 4) hc12_9 hbt4 hc46_10 rfl rfl))]; exact w29), f29_2⟩
                  · refine og_icmpYes (pc' := 67) X26 hx (hb hby d5_12) (flt hc12_9).2.1 (by decide) (by decide) ?_
                    refine og_ldc2_w (pc' := 70) X26 hx (hb hby d5_67) hown (mvT hZ (hw _ (List.mem_of_getElem? (i := 32) rfl))) rfl ?_
                    obtain ⟨fs, hr, hrun, hended, hW, hsame⟩ := X26.leave (v := some (.long (-1 : Int64))) (fun h => by rw [Bd.returns] at h; cases h) (BodyLoose.notSynchronized Bd)
                    refine ⟨_, _, retL X26 hx Bd.returns (hb hby d5_70) hr, hrun, hended, some (.long (-1 : Int64)), _, rfl, ?_, ⟨_, rfl⟩, hW, hsame.mono (by decide) (by decide)⟩
                    show Qrd Z o b kk zs ap en h0 n0 _ T26.heap _
                    rw [e26]
                    exact ⟨(own_leafv (hR4.trans (own_rd_stop (n := 4) hc12_9))), N23, K23, f23_0, f23_1, (by rw [(hR4.trans (own_rd_stop (n := 4) hc12_9))]; exact FA4), f23_2⟩
                · refine og_ifNo (pc' := 49) X23 hx (hb hby d5_46) ((if0 _ _).trans (flt hc46_8).1) rfl ?_
                  refine og_lloadN (pc' := 50) X23 hx (hb hby d5_49) rfl rfl ?_
                  obtain ⟨fs, hr, hrun, hended, hW, hsame⟩ := X23.leave (v := some (.long (ac3 ||| (((bt3 &&& (127 : Int32)).toInt64) <<< ((21 : Int32) &&& 0x3f).toInt64)))) (fun h => by rw [Bd.returns] at h; cases h) (BodyLoose.notSynchronized Bd)
                  refine ⟨_, _, retL X23 hx Bd.returns (hb hby d5_50) hr, hrun, hended, some (.long (ac3 ||| (((bt3 &&& (127 : Int32)).toInt64) <<< ((21 : Int32) &&& 0x3f).toInt64))), _, rfl, ?_, ⟨_, rfl⟩, hW, hsame.mono (by decide) (by decide)⟩
                  show Qrd Z o b kk zs ap en h0 n0 _ T23.heap _
                  rw [e23]
                  exact ⟨(own_leafv (hR3.trans (own_rd_end (n := 5) hc12_7 hbt3 hc46_8 rfl rfl))), N23, K23, f23_0, f23_1, (by rw [(hR3.trans (own_rd_end (n := 5) hc12_7 hbt3 hc46_8 rfl rfl))]; exact w23), f23_2⟩
              · refine og_icmpYes (pc' := 67) X20 hx (hb hby d5_12) (flt hc12_7).2.1 (by decide) (by decide) ?_
                refine og_ldc2_w (pc' := 70) X20 hx (hb hby d5_67) hown (mvT hZ (hw _ (List.mem_of_getElem? (i := 32) rfl))) rfl ?_
                obtain ⟨fs, hr, hrun, hended, hW, hsame⟩ := X20.leave (v := some (.long (-1 : Int64))) (fun h => by rw [Bd.returns] at h; cases h) (BodyLoose.notSynchronized Bd)
                refine ⟨_, _, retL X20 hx Bd.returns (hb hby d5_70) hr, hrun, hended, some (.long (-1 : Int64)), _, rfl, ?_, ⟨_, rfl⟩, hW, hsame.mono (by decide) (by decide)⟩
                show Qrd Z o b kk zs ap en h0 n0 _ T20.heap _
                rw [e20]
                exact ⟨(own_leafv (hR3.trans (own_rd_stop (n := 5) hc12_7))), N17, K17, f17_0, f17_1, (by rw [(hR3.trans (own_rd_stop (n := 5) hc12_7))]; exact FA3), f17_2⟩
            · refine og_ifNo (pc' := 49) X17 hx (hb hby d5_46) ((if0 _ _).trans (flt hc46_6).1) rfl ?_
              refine og_lloadN (pc' := 50) X17 hx (hb hby d5_49) rfl rfl ?_
              obtain ⟨fs, hr, hrun, hended, hW, hsame⟩ := X17.leave (v := some (.long (ac2 ||| (((bt2 &&& (127 : Int32)).toInt64) <<< ((14 : Int32) &&& 0x3f).toInt64)))) (fun h => by rw [Bd.returns] at h; cases h) (BodyLoose.notSynchronized Bd)
              refine ⟨_, _, retL X17 hx Bd.returns (hb hby d5_50) hr, hrun, hended, some (.long (ac2 ||| (((bt2 &&& (127 : Int32)).toInt64) <<< ((14 : Int32) &&& 0x3f).toInt64))), _, rfl, ?_, ⟨_, rfl⟩, hW, hsame.mono (by decide) (by decide)⟩
              show Qrd Z o b kk zs ap en h0 n0 _ T17.heap _
              rw [e17]
              exact ⟨(own_leafv (hR2.trans (own_rd_end (n := 6) hc12_5 hbt2 hc46_6 rfl rfl))), N17, K17, f17_0, f17_1, (by rw [(hR2.trans (own_rd_end (n := 6) hc12_5 hbt2 hc46_6 rfl rfl))]; exact w17), f17_2⟩
          · refine og_icmpYes (pc' := 67) X14 hx (hb hby d5_12) (flt hc12_5).2.1 (by decide) (by decide) ?_
            refine og_ldc2_w (pc' := 70) X14 hx (hb hby d5_67) hown (mvT hZ (hw _ (List.mem_of_getElem? (i := 32) rfl))) rfl ?_
            obtain ⟨fs, hr, hrun, hended, hW, hsame⟩ := X14.leave (v := some (.long (-1 : Int64))) (fun h => by rw [Bd.returns] at h; cases h) (BodyLoose.notSynchronized Bd)
            refine ⟨_, _, retL X14 hx Bd.returns (hb hby d5_70) hr, hrun, hended, some (.long (-1 : Int64)), _, rfl, ?_, ⟨_, rfl⟩, hW, hsame.mono (by decide) (by decide)⟩
            show Qrd Z o b kk zs ap en h0 n0 _ T14.heap _
            rw [e14]
            exact ⟨(own_leafv (hR2.trans (own_rd_stop (n := 6) hc12_5))), N11, K11, f11_0, f11_1, (by rw [(hR2.trans (own_rd_stop (n := 6) hc12_5))]; exact FA2), f11_2⟩
        · refine og_ifNo (pc' := 49) X11 hx (hb hby d5_46) ((if0 _ _).trans (flt hc46_4).1) rfl ?_
          refine og_lloadN (pc' := 50) X11 hx (hb hby d5_49) rfl rfl ?_
          obtain ⟨fs, hr, hrun, hended, hW, hsame⟩ := X11.leave (v := some (.long (ac1 ||| (((bt1 &&& (127 : Int32)).toInt64) <<< ((7 : Int32) &&& 0x3f).toInt64)))) (fun h => by rw [Bd.returns] at h; cases h) (BodyLoose.notSynchronized Bd)
          refine ⟨_, _, retL X11 hx Bd.returns (hb hby d5_50) hr, hrun, hended, some (.long (ac1 ||| (((bt1 &&& (127 : Int32)).toInt64) <<< ((7 : Int32) &&& 0x3f).toInt64))), _, rfl, ?_, ⟨_, rfl⟩, hW, hsame.mono (by decide) (by decide)⟩
          show Qrd Z o b kk zs ap en h0 n0 _ T11.heap _
          rw [e11]
          exact ⟨(own_leafv (hR1.trans (own_rd_end (n := 7) hc12_3 hbt1 hc46_4 rfl rfl))), N11, K11, f11_0, f11_1, (by rw [(hR1.trans (own_rd_end (n := 7) hc12_3 hbt1 hc46_4 rfl rfl))]; exact w11), f11_2⟩
      · refine og_icmpYes (pc' := 67) X8 hx (hb hby d5_12) (flt hc12_3).2.1 (by decide) (by decide) ?_
        refine og_ldc2_w (pc' := 70) X8 hx (hb hby d5_67) hown (mvT hZ (hw _ (List.mem_of_getElem? (i := 32) rfl))) rfl ?_
        obtain ⟨fs, hr, hrun, hended, hW, hsame⟩ := X8.leave (v := some (.long (-1 : Int64))) (fun h => by rw [Bd.returns] at h; cases h) (BodyLoose.notSynchronized Bd)
        refine ⟨_, _, retL X8 hx Bd.returns (hb hby d5_70) hr, hrun, hended, some (.long (-1 : Int64)), _, rfl, ?_, ⟨_, rfl⟩, hW, hsame.mono (by decide) (by decide)⟩
        show Qrd Z o b kk zs ap en h0 n0 _ T8.heap _
        rw [e8]
        exact ⟨(own_leafv (hR1.trans (own_rd_stop (n := 7) hc12_3))), N5, K5, f5_0, f5_1, (by rw [(hR1.trans (own_rd_stop (n := 7) hc12_3))]; exact FA1), f5_2⟩
    · refine og_ifNo (pc' := 49) X5 hx (hb hby d5_46) ((if0 _ _).trans (flt hc46_2).1) rfl ?_
      refine og_lloadN (pc' := 50) X5 hx (hb hby d5_49) rfl rfl ?_
      obtain ⟨fs, hr, hrun, hended, hW, hsame⟩ := X5.leave (v := some (.long ((0 : Int64) ||| (((bt0 &&& (127 : Int32)).toInt64) <<< ((0 : Int32) &&& 0x3f).toInt64)))) (fun h => by rw [Bd.returns] at h; cases h) (BodyLoose.notSynchronized Bd)
      refine ⟨_, _, retL X5 hx Bd.returns (hb hby d5_50) hr, hrun, hended, some (.long ((0 : Int64) ||| (((bt0 &&& (127 : Int32)).toInt64) <<< ((0 : Int32) &&& 0x3f).toInt64))), _, rfl, ?_, ⟨_, rfl⟩, hW, hsame.mono (by decide) (by decide)⟩
      show Qrd Z o b kk zs ap en h0 n0 _ T5.heap _
      rw [e5]
      exact ⟨(own_leafv (hR0.trans (own_rd_end (n := 8) hc12_1 hbt0 hc46_2 rfl rfl))), N5, K5, f5_0, f5_1, (by rw [(hR0.trans (own_rd_end (n := 8) hc12_1 hbt0 hc46_2 rfl rfl))]; exact w5), f5_2⟩
  · refine og_icmpYes (pc' := 67) X2 hx (hb hby d5_12) (flt hc12_1).2.1 (by decide) (by decide) ?_
    refine og_ldc2_w (pc' := 70) X2 hx (hb hby d5_67) hown (mvT hZ (hw _ (List.mem_of_getElem? (i := 32) rfl))) rfl ?_
    obtain ⟨fs, hr, hrun, hended, hW, hsame⟩ := X2.leave (v := some (.long (-1 : Int64))) (fun h => by rw [Bd.returns] at h; cases h) (BodyLoose.notSynchronized Bd)
    refine ⟨_, _, retL X2 hx Bd.returns (hb hby d5_70) hr, hrun, hended, some (.long (-1 : Int64)), _, rfl, ?_, ⟨_, rfl⟩, hW, hsame.mono (by decide) (by decide)⟩
    show Qrd Z o b kk zs ap en h0 n0 _ T2.heap _
    rw [e2]
    exact ⟨(own_leafv (hR0.trans (own_rd_stop (n := 8) hc12_1))), N0, (Keep.refl h0 [o]), E_o, F0_o, (by rw [(hR0.trans (own_rd_stop (n := 8) hc12_1))]; exact F1_o), F2_o⟩

theorem pn0 : plainName "com/example/skorr/skorr/index/VarintReaderReadPinLaw" = true := by first | (simp [plainName, overriddenIn]; done) | decide +kernel
theorem pd_1 : parseMethodDescriptor "([BIJII)V" = some ⟨[(.array .byte), .int, .long, .int, .int], none⟩ := by decide +kernel
theorem pd_2 : parseMethodDescriptor "()J" = some ⟨[], some .long⟩ := by decide +kernel
theorem ef0 (m : MethodId) (z0 : Int64) (z1 : Int32) (z2 : Int32) (z3 : Int32) (z4 : Int32) : entryFrame m #[(.long z0), (.int z1), (.int z2), (.int z3), (.int z4)] maxLocals = mkF m 0 #[.val (.long z0), .second, .val (.int z1), .val (.int z2), .val (.int z3), .val (.int z4), .unset, .unset, .unset, .unset, .unset, .unset, .unset, .unset, .unset, .unset, .unset, .unset, .unset, .unset] [] := by first | (simp [entryFrame, mkF, argsToLocals, Value.category, maxLocals]; done) | rfl
def Q0 (Z : State) (x0 : Int64) (x1 : Int32) (x2 : Int32) (x3 : Int32) (x4 : Int32) (h0 : Heap) (n0 : Nat) (v : Option Value) (h : Heap) (L : List Loc) : Prop := v = some (.int 1) ∧ Fr n0 L
set_option maxRecDepth 65536 in
set_option maxHeartbeats 40000000 in
theorem rm0 (l : Launch) (Z : State) (a0 : Array Value) (hw : ∀ d ∈ tables_1, d.before a0 Z = true) (ws : List Jvm.Cond) (x0 : Int64) (x1 : Int32) (x2 : Int32) (x3 : Int32) (x4 : Int32) (h0 : Heap) (n0 : Nat) (Z0 : n0 ≤ h0.size) :
    MetFree l x (head1 (Jvm.Cond.code x code maxLocals ret :: ws) room_1) (fun ag U => ag = #[(.long x0), (.int x1), (.int x2), (.int x3), (.int x4)] ∧ Z.Warmed39 U.vm ∧ U.heap = h0) (fun _ _ _ _ _ => True) (fun _ U oc U' => ∃ v L, oc = .returned v ∧ Q0 Z x0 x1 x2 x3 x4 h0 n0 v U'.heap L ∧ FrameEnd U oc U' L room_1.cells room_1.slots) := by
  refine MetFree.of_bodySF (plainFor_of_name pn0) hisR ?_
  intro p e s m args below meth c s₁ Bd hml0 hP hK
  obtain ⟨rfl, hZ, hh⟩ := hP
  have hx := Bd.exec
  have hby := Bd.bytes
  have hml : c.maxLocals = 20 := hml0
  have hown : s.vm.findClass "com/example/skorr/skorr/index/VarintReaderReadPinLaw" = some m.cls := findClass_of_methodNamed Bd.named
  have hnm := (name_of_methodNamed Bd.named Bd.method).1
  have X0 : Stand p l e room_1 s m #[(.long x0), (.int x1), (.int x2), (.int x3), (.int x4)] below meth c s₁ [] 0 0 := Stand.of_body Bd
  have e0 : s₁.heap = h0 := by rw [← hh, Bd.state]; rfl
  have N0 := Fr.nil n0
  show own_Go p e below (fun s₂ oc => ∃ v L, oc = .returned v ∧ Q0 Z x0 x1 x2 x3 x4 h0 n0 v s₂.heap L ∧ FrameEnd s oc s₂ L room_1.cells room_1.slots) s₁ (entryFrame m #[(.long x0), (.int x1), (.int x2), (.int x3), (.int x4)] maxLocals)
  refine own_Go.of (g' := mkF m 0 #[.val (.long x0), .second, .val (.int x1), .val (.int x2), .val (.int x3), .val (.int x4), .unset, .unset, .unset, .unset, .unset, .unset, .unset, .unset, .unset, .unset, .unset, .unset, .unset, .unset] []) (fun t k => castTop (ef0 m x0 x1 x2 x3 x4) k) ?_
  refine og_iloadN (pc' := 1) X0 hx (hb hby at_0) rfl rfl ?_
  refine og_ldc (pc' := 3) X0 hx (hb hby at_1) hown (mvT hZ (hw _ (List.mem_of_getElem? (i := 0) rfl))) rfl ?_
  refine og_iand (pc' := 4) X0 hx (hb hby at_3) rfl ?_
  refine og_bipush (pc' := 6) (n := 10) X0 hx (hb hby at_4) rfl rfl ?_
  refine og_irem (pc' := 7) X0 hx (hb hby at_6) (by decide) rfl ?_
  refine og_iconst (pc' := 8) (n := 1) X0 hx (hb hby at_7) rfl rfl ?_
  refine og_iadd (pc' := 9) X0 hx (hb hby at_8) rfl ?_
  generalize hln : (((x1 &&& (2147483647 : Int32)) % (10 : Int32)) + (1 : Int32)) = ln
  have hln := own_lnr hln
  refine og_istore (pc' := 11) (L' := #[.val (.long x0), .second, .val (.int x1), .val (.int x2), .val (.int x3), .val (.int x4), .val (.int ln), .unset, .unset, .unset, .unset, .unset, .unset, .unset, .unset, .unset, .unset, .unset, .unset, .unset]) X0 hx (hb hby at_9) rfl rfl ?_
  refine og_iloadN (pc' := 12) X0 hx (hb hby at_11) rfl rfl ?_
  refine og_ldc (pc' := 14) X0 hx (hb hby at_12) hown (mvT hZ (hw _ (List.mem_of_getElem? (i := 0) rfl))) rfl ?_
  refine og_iand (pc' := 15) X0 hx (hb hby at_14) rfl ?_
  refine og_bipush (pc' := 17) (n := 12) X0 hx (hb hby at_15) rfl rfl ?_
  refine og_irem (pc' := 18) X0 hx (hb hby at_17) (by decide) rfl ?_
  generalize hct : ((x2 &&& (2147483647 : Int32)) % (12 : Int32)) = ct
  have hct := own_ctr hct
  refine og_istore (pc' := 20) (L' := #[.val (.long x0), .second, .val (.int x1), .val (.int x2), .val (.int x3), .val (.int x4), .val (.int ln), .val (.int ct), .unset, .unset, .unset, .unset, .unset, .unset, .unset, .unset, .unset, .unset, .unset, .unset]) X0 hx (hb hby at_18) rfl rfl ?_
  refine og_iload (pc' := 22) X0 hx (hb hby at_20) rfl rfl ?_
  refine og_iconst (pc' := 23) (n := 1) X0 hx (hb hby at_22) rfl rfl ?_
  refine og_iand (pc' := 24) X0 hx (hb hby at_23) rfl ?_
  generalize hsr : (x4 &&& (1 : Int32)) = sr
  have hsr := own_srr hsr
  refine og_istore (pc' := 26) (L' := #[.val (.long x0), .second, .val (.int x1), .val (.int x2), .val (.int x3), .val (.int x4), .val (.int ln), .val (.int ct), .val (.int sr), .unset, .unset, .unset, .unset, .unset, .unset, .unset, .unset, .unset, .unset, .unset]) X0 hx (hb hby at_24) rfl rfl ?_
  refine og_iload (pc' := 28) X0 hx (hb hby at_26) rfl rfl ?_
  refine og_bipush (pc' := 30) (n := 127) X0 hx (hb hby at_28) rfl rfl ?_
  refine og_iand (pc' := 31) X0 hx (hb hby at_30) rfl ?_
  generalize hmb : (x3 &&& (127 : Int32)) = mb
  have hmb := own_mbr hmb
  refine og_istore (pc' := 33) (L' := #[.val (.long x0), .second, .val (.int x1), .val (.int x2), .val (.int x3), .val (.int x4), .val (.int ln), .val (.int ct), .val (.int sr), .val (.int mb), .unset, .unset, .unset, .unset, .unset, .unset, .unset, .unset, .unset, .unset]) X0 hx (hb hby at_31) rfl rfl ?_
  refine og_bipush (pc' := 35) (n := 12) X0 hx (hb hby at_33) rfl rfl ?_
  obtain ⟨T1, h1, k1, X1, e1, E1, A1, st1⟩ := newP X0 hx hZ (hw _ (List.mem_of_getElem? (i := 1) rfl)) e0 (g := (mkF m 35 #[.val (.long x0), .second, .val (.int x1), .val (.int x2), .val (.int x3), .val (.int x4), .val (.int ln), .val (.int ct), .val (.int sr), .val (.int mb), .unset, .unset, .unset, .unset, .unset, .unset, .unset, .unset, .unset, .unset] [(.int (12 : Int32))])) rfl (hb hby at_35) rfl (by decide) (cap := 12) (by decide) (by decide) (by decide) (by decide)
  obtain ⟨b1, g1⟩ : ∃ z, z = h0.size := ⟨_, rfl⟩
  rw [← g1] at A1 st1
  have g_b1 : n0 ≤ b1 := Nat.le_trans Z0 (Nat.le_of_eq g1.symm)
  have sz_b1 : h0.size ≤ b1 := Nat.le_trans (Keep.refl h0 []).1 (Nat.le_of_eq g1.symm)
  have V1 : Arv Z h1 b1 k1 .byte (12 : Int32) [(.int (0 : Int32)), (.int (0 : Int32)), (.int (0 : Int32)), (.int (0 : Int32)), (.int (0 : Int32)), (.int (0 : Int32)), (.int (0 : Int32)), (.int (0 : Int32)), (.int (0 : Int32)), (.int (0 : Int32)), (.int (0 : Int32)), (.int (0 : Int32))] (.int (0 : Int32)) := (Arv.new A1 (by decide)).pad (pad_rep [] (.int (0 : Int32)) 12)
  have K1 : Keep h0 h1 [] := (Keep.refl h0 []).ext E1
  have Z1 : n0 ≤ h1.size := Nat.le_trans Z0 K1.1
  refine own_Go.of (g' := (mkF m 37 #[.val (.long x0), .second, .val (.int x1), .val (.int x2), .val (.int x3), .val (.int x4), .val (.int ln), .val (.int ct), .val (.int sr), .val (.int mb), .unset, .unset, .unset, .unset, .unset, .unset, .unset, .unset, .unset, .unset] [(.ref b1)])) (fun t k => st1 _ k) ?_
  refine og_astore (pc' := 39) (L' := #[.val (.long x0), .second, .val (.int x1), .val (.int x2), .val (.int x3), .val (.int x4), .val (.int ln), .val (.int ct), .val (.int sr), .val (.int mb), .val (.ref b1), .unset, .unset, .unset, .unset, .unset, .unset, .unset, .unset, .unset]) X1 hx (hb hby at_37) rfl rfl rfl ?_
  refine og_aload (pc' := 41) X1 hx (hb hby at_39) rfl rfl rfl ?_
  refine og_iconst (pc' := 42) (n := 0) X1 hx (hb hby at_41) rfl rfl ?_
  refine og_iconst (pc' := 43) (n := -1) X1 hx (hb hby at_42) rfl rfl ?_
  obtain ⟨cl2, Ar2, q2, S2, M2, H2, G2⟩ := id V1
  have hin2 : ¬ ((0 : Int32) < 0 ∨ cl2.slots.size ≤ ((0 : Int32)).toNatClampNeg) := inb_of S2 ⟨by decide, by decide⟩
  obtain ⟨T2, h2, X2, e2, W2, st2⟩ := stB X1 hx hZ e1 Ar2 (j := (0 : Int32)) hin2 (g := (mkF m 43 #[.val (.long x0), .second, .val (.int x1), .val (.int x2), .val (.int x3), .val (.int x4), .val (.int ln), .val (.int ct), .val (.int sr), .val (.int mb), .val (.ref b1), .unset, .unset, .unset, .unset, .unset, .unset, .unset, .unset, .unset] [(.int (-1 : Int32)), (.int (0 : Int32)), (.ref b1)])) rfl rfl (hb hby at_43)
  have V2 : Arv Z h2 b1 k1 .byte (12 : Int32) [(.int ((-1 : Int32).toInt8.toInt32)), (.int (0 : Int32)), (.int (0 : Int32)), (.int (0 : Int32)), (.int (0 : Int32)), (.int (0 : Int32)), (.int (0 : Int32)), (.int (0 : Int32)), (.int (0 : Int32)), (.int (0 : Int32)), (.int (0 : Int32)), (.int (0 : Int32))] (.int (0 : Int32)) := Arv.set Ar2 q2 S2 M2 H2 G2 (fits_nar_byte _) W2 0 rfl (Nat.le_of_ble_eq_true rfl)
  have K2 : Keep h0 h2 [] := K1.wr W2 (Or.inr sz_b1)
  have Z2 : n0 ≤ h2.size := Nat.le_trans Z0 K2.1
  have N2 := Fr.snoc X2 N0 g_b1
  obtain ⟨J2, X2, N2⟩ := own_hide X2 N2
  refine own_Go.of (g' := (mkF m 44 #[.val (.long x0), .second, .val (.int x1), .val (.int x2), .val (.int x3), .val (.int x4), .val (.int ln), .val (.int ct), .val (.int sr), .val (.int mb), .val (.ref b1), .unset, .unset, .unset, .unset, .unset, .unset, .unset, .unset, .unset] [])) (fun t k => st2 _ k) ?_
  have VF0 : Arv Z h2 b1 k1 .byte (12 : Int32) ((own_fill 0 sr x0 ln).map Value.int) (.int (0 : Int32)) := V2
  refine og_aload (pc' := 46) X2 hx (hb hby at_44) rfl rfl rfl ?_
  refine og_iload (pc' := 48) X2 hx (hb hby at_46) rfl rfl ?_
  refine og_lloadN (pc' := 49) X2 hx (hb hby at_48) rfl rfl ?_
  refine og_iconst (pc' := 50) (n := 0) X2 hx (hb hby at_49) rfl rfl ?_
  refine og_iload (pc' := 52) X2 hx (hb hby at_50) rfl rfl ?_
  obtain ⟨_, _, ⟨T3, L3, k3, n3⟩, -, X3, ⟨Lc3, hQ3, l3, y3, z3⟩, st3⟩ := Jvm.LawKit.callS X2 hx (y := (⟨"com/example/skorr/skorr/index/VarintReaderReadPinLaw", "put", "([BIJII)V"⟩ : MethodName)) hown (mvT hZ (hw _ (List.mem_of_getElem? (i := 2) rfl))) (mvT hZ (hw _ (List.mem_of_getElem? (i := 3) rfl))) (mvT hZ (hw _ (List.mem_of_getElem? (i := 4) rfl))) (mvT hZ (hw _ (List.mem_of_getElem? (i := 5) rfl))) (by decide) (backOf (W := 0) (rmput l Z a0 hw [] b1 sr x0 (0 : Int32) ln k1 (own_fill 0 sr x0 ln) h2 n0 Z2 VF0 g_b1 (own_fill_len 0 _ _ _) (own_hj hsr hln (0 : Int32) (by decide))) hZ (hw _ (List.mem_of_getElem? (i := 5) rfl)) (hw _ (List.mem_of_getElem? (i := 4) rfl)) (by decide) (by decide)) (g := (mkF m 52 #[.val (.long x0), .second, .val (.int x1), .val (.int x2), .val (.int x3), .val (.int x4), .val (.int ln), .val (.int ct), .val (.int sr), .val (.int mb), .val (.ref b1), .unset, .unset, .unset, .unset, .unset, .unset, .unset, .unset, .unset] [(.int ln), (.int (0 : Int32)), (.long x0), (.int sr), (.ref b1)])) rfl (by rw [hml]; rfl) (argsL := [(.ref b1), (.int sr), (.long x0), (.int (0 : Int32)), (.int ln)]) (rest := []) (lenOf pd_1 rfl) rfl (by show 2 * 0 + _ ≤ _; exact Nat.le_of_eq rfl) (hb hby at_52) (fun _ _ => ⟨rfl, e2, (by decide : 1 + 0 ≤ _), (by decide : 12 + 0 ≤ _)⟩)
  dsimp only [Pt.U, Pt.locs, Pt.cells, Pt.slots] at X3 l3 y3 z3 st3 hQ3
  subst l3 y3 z3
  obtain ⟨rfl, N3q, K3q, c3_0⟩ := hQ3
  have N3 := Fr.app N2 N3q
  obtain ⟨J3, X3, N3⟩ := own_hide X3 N3
  have K3 : Keep h0 T3.heap [] := K2.trans K3q (allS (Or.inr sz_b1) all0)
  have Z3 : n0 ≤ T3.heap.size := Nat.le_trans Z0 K3.1
  refine own_Go.of (g' := (mkF m 55 #[.val (.long x0), .second, .val (.int x1), .val (.int x2), .val (.int x3), .val (.int x4), .val (.int ln), .val (.int ct), .val (.int sr), .val (.int mb), .val (.ref b1), .unset, .unset, .unset, .unset, .unset, .unset, .unset, .unset, .unset] [])) (fun t k => st3 _ k) ?_
  have VF1 : Arv Z T3.heap b1 k1 .byte (12 : Int32) ((own_fill 1 sr x0 ln).map Value.int) (.int (0 : Int32)) := c3_0
  refine og_aload (pc' := 57) X3 hx (hb hby at_55) rfl rfl rfl ?_
  refine og_iload (pc' := 59) X3 hx (hb hby at_57) rfl rfl ?_
  refine og_lloadN (pc' := 60) X3 hx (hb hby at_59) rfl rfl ?_
  refine og_iconst (pc' := 61) (n := 1) X3 hx (hb hby at_60) rfl rfl ?_
  refine og_iload (pc' := 63) X3 hx (hb hby at_61) rfl rfl ?_
  obtain ⟨_, _, ⟨T4, L4, k4, n4⟩, -, X4, ⟨Lc4, hQ4, l4, y4, z4⟩, st4⟩ := Jvm.LawKit.callS X3 hx (y := (⟨"com/example/skorr/skorr/index/VarintReaderReadPinLaw", "put", "([BIJII)V"⟩ : MethodName)) hown (mvT hZ (hw _ (List.mem_of_getElem? (i := 2) rfl))) (mvT hZ (hw _ (List.mem_of_getElem? (i := 3) rfl))) (mvT hZ (hw _ (List.mem_of_getElem? (i := 4) rfl))) (mvT hZ (hw _ (List.mem_of_getElem? (i := 5) rfl))) (by decide) (backOf (W := 0) (rmput l Z a0 hw [] b1 sr x0 (1 : Int32) ln k1 (own_fill 1 sr x0 ln) T3.heap n0 Z3 VF1 g_b1 (own_fill_len 1 _ _ _) (own_hj hsr hln (1 : Int32) (by decide))) hZ (hw _ (List.mem_of_getElem? (i := 5) rfl)) (hw _ (List.mem_of_getElem? (i := 4) rfl)) (by decide) (by decide)) (g := (mkF m 63 #[.val (.long x0), .second, .val (.int x1), .val (.int x2), .val (.int x3), .val (.int x4), .val (.int ln), .val (.int ct), .val (.int sr), .val (.int mb), .val (.ref b1), .unset, .unset, .unset, .unset, .unset, .unset, .unset, .unset, .unset] [(.int ln), (.int (1 : Int32)), (.long x0), (.int sr), (.ref b1)])) rfl (by rw [hml]; rfl) (argsL := [(.ref b1), (.int sr), (.long x0), (.int (1 : Int32)), (.int ln)]) (rest := []) (lenOf pd_1 rfl) rfl (by show 2 * 0 + _ ≤ _; exact Nat.le_of_eq rfl) (hb hby at_63) (fun _ _ => ⟨rfl, rfl, (by decide : 1 + 0 ≤ _), (by decide : 12 + 0 ≤ _)⟩)
  dsimp only [Pt.U, Pt.locs, Pt.cells, Pt.slots] at X4 l4 y4 z4 st4 hQ4
  subst l4 y4 z4
  obtain ⟨rfl, N4q, K4q, c4_0⟩ := hQ4
  have N4 := Fr.app N3 N4q
  obtain ⟨J4, X4, N4⟩ := own_hide X4 N4
  have K4 : Keep h0 T4.heap [] := K3.trans K4q (allS (Or.inr sz_b1) all0)
  have Z4 : n0 ≤ T4.heap.size := Nat.le_trans Z0 K4.1
  refine own_Go.of (g' := (mkF m 66 #[.val (.long x0), .second, .val (.int x1), .val (.int x2), .val (.int x3), .val (.int x4), .val (.int ln), .val (.int ct), .val (.int sr), .val (.int mb), .val (.ref b1), .unset, .unset, .unset, .unset, .unset, .unset, .unset, .unset, .unset] [])) (fun t k => st4 _ k) ?_
  have VF2 : Arv Z T4.heap b1 k1 .byte (12 : Int32) ((own_fill 2 sr x0 ln).map Value.int) (.int (0 : Int32)) := c4_0
  refine og_aload (pc' := 68) X4 hx (hb hby at_66) rfl rfl rfl ?_
  refine og_iload (pc' := 70) X4 hx (hb hby at_68) rfl rfl ?_
  refine og_lloadN (pc' := 71) X4 hx (hb hby at_70) rfl rfl ?_
  refine og_iconst (pc' := 72) (n := 2) X4 hx (hb hby at_71) rfl rfl ?_
  refine og_iload (pc' := 74) X4 hx (hb hby at_72) rfl rfl ?_
  obtain ⟨_, _, ⟨T5, L5, k5, n5⟩, -, X5, ⟨Lc5, hQ5, l5, y5, z5⟩, st5⟩ := Jvm.LawKit.callS X4 hx (y := (⟨"com/example/skorr/skorr/index/VarintReaderReadPinLaw", "put", "([BIJII)V"⟩ : MethodName)) hown (mvT hZ (hw _ (List.mem_of_getElem? (i := 2) rfl))) (mvT hZ (hw _ (List.mem_of_getElem? (i := 3) rfl))) (mvT hZ (hw _ (List.mem_of_getElem? (i := 4) rfl))) (mvT hZ (hw _ (List.mem_of_getElem? (i := 5) rfl))) (by decide) (backOf (W := 0) (rmput l Z a0 hw [] b1 sr x0 (2 : Int32) ln k1 (own_fill 2 sr x0 ln) T4.heap n0 Z4 VF2 g_b1 (own_fill_len 2 _ _ _) (own_hj hsr hln (2 : Int32) (by decide))) hZ (hw _ (List.mem_of_getElem? (i := 5) rfl)) (hw _ (List.mem_of_getElem? (i := 4) rfl)) (by decide) (by decide)) (g := (mkF m 74 #[.val (.long x0), .second, .val (.int x1), .val (.int x2), .val (.int x3), .val (.int x4), .val (.int ln), .val (.int ct), .val (.int sr), .val (.int mb), .val (.ref b1), .unset, .unset, .unset, .unset, .unset, .unset, .unset, .unset, .unset] [(.int ln), (.int (2 : Int32)), (.long x0), (.int sr), (.ref b1)])) rfl (by rw [hml]; rfl) (argsL := [(.ref b1), (.int sr), (.long x0), (.int (2 : Int32)), (.int ln)]) (rest := []) (lenOf pd_1 rfl) rfl (by show 2 * 0 + _ ≤ _; exact Nat.le_of_eq rfl) (hb hby at_74) (fun _ _ => ⟨rfl, rfl, (by decide : 1 + 0 ≤ _), (by decide : 12 + 0 ≤ _)⟩)
  dsimp only [Pt.U, Pt.locs, Pt.cells, Pt.slots] at X5 l5 y5 z5 st5 hQ5
  subst l5 y5 z5
  obtain ⟨rfl, N5q, K5q, c5_0⟩ := hQ5
  have N5 := Fr.app N4 N5q
  obtain ⟨J5, X5, N5⟩ := own_hide X5 N5
  have K5 : Keep h0 T5.heap [] := K4.trans K5q (allS (Or.inr sz_b1) all0)
  have Z5 : n0 ≤ T5.heap.size := Nat.le_trans Z0 K5.1
  refine own_Go.of (g' := (mkF m 77 #[.val (.long x0), .second, .val (.int x1), .val (.int x2), .val (.int x3), .val (.int x4), .val (.int ln), .val (.int ct), .val (.int sr), .val (.int mb), .val (.ref b1), .unset, .unset, .unset, .unset, .unset, .unset, .unset, .unset, .unset] [])) (fun t k => st5 _ k) ?_
  have VF3 : Arv Z T5.heap b1 k1 .byte (12 : Int32) ((own_fill 3 sr x0 ln).map Value.int) (.int (0 : Int32)) := c5_0
  refine og_aload (pc' := 79) X5 hx (hb hby at_77) rfl rfl rfl ?_
  refine og_iload (pc' := 81) X5 hx (hb hby at_79) rfl rfl ?_
  refine og_lloadN (pc' := 82) X5 hx (hb hby at_81) rfl rfl ?_
  refine og_iconst (pc' := 83) (n := 3) X5 hx (hb hby at_82) rfl rfl ?_
  refine og_iload (pc' := 85) X5 hx (hb hby at_83) rfl rfl ?_
  obtain ⟨_, _, ⟨T6, L6, k6, n6⟩, -, X6, ⟨Lc6, hQ6, l6, y6, z6⟩, st6⟩ := Jvm.LawKit.callS X5 hx (y := (⟨"com/example/skorr/skorr/index/VarintReaderReadPinLaw", "put", "([BIJII)V"⟩ : MethodName)) hown (mvT hZ (hw _ (List.mem_of_getElem? (i := 2) rfl))) (mvT hZ (hw _ (List.mem_of_getElem? (i := 3) rfl))) (mvT hZ (hw _ (List.mem_of_getElem? (i := 4) rfl))) (mvT hZ (hw _ (List.mem_of_getElem? (i := 5) rfl))) (by decide) (backOf (W := 0) (rmput l Z a0 hw [] b1 sr x0 (3 : Int32) ln k1 (own_fill 3 sr x0 ln) T5.heap n0 Z5 VF3 g_b1 (own_fill_len 3 _ _ _) (own_hj hsr hln (3 : Int32) (by decide))) hZ (hw _ (List.mem_of_getElem? (i := 5) rfl)) (hw _ (List.mem_of_getElem? (i := 4) rfl)) (by decide) (by decide)) (g := (mkF m 85 #[.val (.long x0), .second, .val (.int x1), .val (.int x2), .val (.int x3), .val (.int x4), .val (.int ln), .val (.int ct), .val (.int sr), .val (.int mb), .val (.ref b1), .unset, .unset, .unset, .unset, .unset, .unset, .unset, .unset, .unset] [(.int ln), (.int (3 : Int32)), (.long x0), (.int sr), (.ref b1)])) rfl (by rw [hml]; rfl) (argsL := [(.ref b1), (.int sr), (.long x0), (.int (3 : Int32)), (.int ln)]) (rest := []) (lenOf pd_1 rfl) rfl (by show 2 * 0 + _ ≤ _; exact Nat.le_of_eq rfl) (hb hby at_85) (fun _ _ => ⟨rfl, rfl, (by decide : 1 + 0 ≤ _), (by decide : 12 + 0 ≤ _)⟩)
  dsimp only [Pt.U, Pt.locs, Pt.cells, Pt.slots] at X6 l6 y6 z6 st6 hQ6
  subst l6 y6 z6
  obtain ⟨rfl, N6q, K6q, c6_0⟩ := hQ6
  have N6 := Fr.app N5 N6q
  obtain ⟨J6, X6, N6⟩ := own_hide X6 N6
  have K6 : Keep h0 T6.heap [] := K5.trans K6q (allS (Or.inr sz_b1) all0)
  have Z6 : n0 ≤ T6.heap.size := Nat.le_trans Z0 K6.1
  refine own_Go.of (g' := (mkF m 88 #[.val (.long x0), .second, .val (.int x1), .val (.int x2), .val (.int x3), .val (.int x4), .val (.int ln), .val (.int ct), .val (.int sr), .val (.int mb), .val (.ref b1), .unset, .unset, .unset, .unset, .unset, .unset, .unset, .unset, .unset] [])) (fun t k => st6 _ k) ?_
  have VF4 : Arv Z T6.heap b1 k1 .byte (12 : Int32) ((own_fill 4 sr x0 ln).map Value.int) (.int (0 : Int32)) := c6_0
  refine og_aload (pc' := 90) X6 hx (hb hby at_88) rfl rfl rfl ?_
  refine og_iload (pc' := 92) X6 hx (hb hby at_90) rfl rfl ?_
  refine og_lloadN (pc' := 93) X6 hx (hb hby at_92) rfl rfl ?_
  refine og_iconst (pc' := 94) (n := 4) X6 hx (hb hby at_93) rfl rfl ?_
  refine og_iload (pc' := 96) X6 hx (hb hby at_94) rfl rfl ?_
  obtain ⟨_, _, ⟨T7, L7, k7, n7⟩, -, X7, ⟨Lc7, hQ7, l7, y7, z7⟩, st7⟩ := Jvm.LawKit.callS X6 hx (y := (⟨"com/example/skorr/skorr/index/VarintReaderReadPinLaw", "put", "([BIJII)V"⟩ : MethodName)) hown (mvT hZ (hw _ (List.mem_of_getElem? (i := 2) rfl))) (mvT hZ (hw _ (List.mem_of_getElem? (i := 3) rfl))) (mvT hZ (hw _ (List.mem_of_getElem? (i := 4) rfl))) (mvT hZ (hw _ (List.mem_of_getElem? (i := 5) rfl))) (by decide) (backOf (W := 0) (rmput l Z a0 hw [] b1 sr x0 (4 : Int32) ln k1 (own_fill 4 sr x0 ln) T6.heap n0 Z6 VF4 g_b1 (own_fill_len 4 _ _ _) (own_hj hsr hln (4 : Int32) (by decide))) hZ (hw _ (List.mem_of_getElem? (i := 5) rfl)) (hw _ (List.mem_of_getElem? (i := 4) rfl)) (by decide) (by decide)) (g := (mkF m 96 #[.val (.long x0), .second, .val (.int x1), .val (.int x2), .val (.int x3), .val (.int x4), .val (.int ln), .val (.int ct), .val (.int sr), .val (.int mb), .val (.ref b1), .unset, .unset, .unset, .unset, .unset, .unset, .unset, .unset, .unset] [(.int ln), (.int (4 : Int32)), (.long x0), (.int sr), (.ref b1)])) rfl (by rw [hml]; rfl) (argsL := [(.ref b1), (.int sr), (.long x0), (.int (4 : Int32)), (.int ln)]) (rest := []) (lenOf pd_1 rfl) rfl (by show 2 * 0 + _ ≤ _; exact Nat.le_of_eq rfl) (hb hby at_96) (fun _ _ => ⟨rfl, rfl, (by decide : 1 + 0 ≤ _), (by decide : 12 + 0 ≤ _)⟩)
  dsimp only [Pt.U, Pt.locs, Pt.cells, Pt.slots] at X7 l7 y7 z7 st7 hQ7
  subst l7 y7 z7
  obtain ⟨rfl, N7q, K7q, c7_0⟩ := hQ7
  have N7 := Fr.app N6 N7q
  obtain ⟨J7, X7, N7⟩ := own_hide X7 N7
  have K7 : Keep h0 T7.heap [] := K6.trans K7q (allS (Or.inr sz_b1) all0)
  have Z7 : n0 ≤ T7.heap.size := Nat.le_trans Z0 K7.1
  refine own_Go.of (g' := (mkF m 99 #[.val (.long x0), .second, .val (.int x1), .val (.int x2), .val (.int x3), .val (.int x4), .val (.int ln), .val (.int ct), .val (.int sr), .val (.int mb), .val (.ref b1), .unset, .unset, .unset, .unset, .unset, .unset, .unset, .unset, .unset] [])) (fun t k => st7 _ k) ?_
  have VF5 : Arv Z T7.heap b1 k1 .byte (12 : Int32) ((own_fill 5 sr x0 ln).map Value.int) (.int (0 : Int32)) := c7_0
  refine og_aload (pc' := 101) X7 hx (hb hby at_99) rfl rfl rfl ?_
  refine og_iload (pc' := 103) X7 hx (hb hby at_101) rfl rfl ?_
  refine og_lloadN (pc' := 104) X7 hx (hb hby at_103) rfl rfl ?_
  refine og_iconst (pc' := 105) (n := 5) X7 hx (hb hby at_104) rfl rfl ?_
  refine og_iload (pc' := 107) X7 hx (hb hby at_105) rfl rfl ?_
  obtain ⟨_, _, ⟨T8, L8, k8, n8⟩, -, X8, ⟨Lc8, hQ8, l8, y8, z8⟩, st8⟩ := Jvm.LawKit.callS X7 hx (y := (⟨"com/example/skorr/skorr/index/VarintReaderReadPinLaw", "put", "([BIJII)V"⟩ : MethodName)) hown (mvT hZ (hw _ (List.mem_of_getElem? (i := 2) rfl))) (mvT hZ (hw _ (List.mem_of_getElem? (i := 3) rfl))) (mvT hZ (hw _ (List.mem_of_getElem? (i := 4) rfl))) (mvT hZ (hw _ (List.mem_of_getElem? (i := 5) rfl))) (by decide) (backOf (W := 0) (rmput l Z a0 hw [] b1 sr x0 (5 : Int32) ln k1 (own_fill 5 sr x0 ln) T7.heap n0 Z7 VF5 g_b1 (own_fill_len 5 _ _ _) (own_hj hsr hln (5 : Int32) (by decide))) hZ (hw _ (List.mem_of_getElem? (i := 5) rfl)) (hw _ (List.mem_of_getElem? (i := 4) rfl)) (by decide) (by decide)) (g := (mkF m 107 #[.val (.long x0), .second, .val (.int x1), .val (.int x2), .val (.int x3), .val (.int x4), .val (.int ln), .val (.int ct), .val (.int sr), .val (.int mb), .val (.ref b1), .unset, .unset, .unset, .unset, .unset, .unset, .unset, .unset, .unset] [(.int ln), (.int (5 : Int32)), (.long x0), (.int sr), (.ref b1)])) rfl (by rw [hml]; rfl) (argsL := [(.ref b1), (.int sr), (.long x0), (.int (5 : Int32)), (.int ln)]) (rest := []) (lenOf pd_1 rfl) rfl (by show 2 * 0 + _ ≤ _; exact Nat.le_of_eq rfl) (hb hby at_107) (fun _ _ => ⟨rfl, rfl, (by decide : 1 + 0 ≤ _), (by decide : 12 + 0 ≤ _)⟩)
  dsimp only [Pt.U, Pt.locs, Pt.cells, Pt.slots] at X8 l8 y8 z8 st8 hQ8
  subst l8 y8 z8
  obtain ⟨rfl, N8q, K8q, c8_0⟩ := hQ8
  have N8 := Fr.app N7 N8q
  obtain ⟨J8, X8, N8⟩ := own_hide X8 N8
  have K8 : Keep h0 T8.heap [] := K7.trans K8q (allS (Or.inr sz_b1) all0)
  have Z8 : n0 ≤ T8.heap.size := Nat.le_trans Z0 K8.1
  refine own_Go.of (g' := (mkF m 110 #[.val (.long x0), .second, .val (.int x1), .val (.int x2), .val (.int x3), .val (.int x4), .val (.int ln), .val (.int ct), .val (.int sr), .val (.int mb), .val (.ref b1), .unset, .unset, .unset, .unset, .unset, .unset, .unset, .unset, .unset] [])) (fun t k => st8 _ k) ?_
  have VF6 : Arv Z T8.heap b1 k1 .byte (12 : Int32) ((own_fill 6 sr x0 ln).map Value.int) (.int (0 : Int32)) := c8_0
  refine og_aload (pc' := 112) X8 hx (hb hby at_110) rfl rfl rfl ?_
  refine og_iload (pc' := 114) X8 hx (hb hby at_112) rfl rfl ?_
  refine og_lloadN (pc' := 115) X8 hx (hb hby at_114) rfl rfl ?_
  refine og_bipush (pc' := 117) (n := 6) X8 hx (hb hby at_115) rfl rfl ?_
  refine og_iload (pc' := 119) X8 hx (hb hby at_117) rfl rfl ?_
  obtain ⟨_, _, ⟨T9, L9, k9, n9⟩, -, X9, ⟨Lc9, hQ9, l9, y9, z9⟩, st9⟩ := Jvm.LawKit.callS X8 hx (y := (⟨"com/example/skorr/skorr/index/VarintReaderReadPinLaw", "put", "([BIJII)V"⟩ : MethodName)) hown (mvT hZ (hw _ (List.mem_of_getElem? (i := 2) rfl))) (mvT hZ (hw _ (List.mem_of_getElem? (i := 3) rfl))) (mvT hZ (hw _ (List.mem_of_getElem? (i := 4) rfl))) (mvT hZ (hw _ (List.mem_of_getElem? (i := 5) rfl))) (by decide) (backOf (W := 0) (rmput l Z a0 hw [] b1 sr x0 (6 : Int32) ln k1 (own_fill 6 sr x0 ln) T8.heap n0 Z8 VF6 g_b1 (own_fill_len 6 _ _ _) (own_hj hsr hln (6 : Int32) (by decide))) hZ (hw _ (List.mem_of_getElem? (i := 5) rfl)) (hw _ (List.mem_of_getElem? (i := 4) rfl)) (by decide) (by decide)) (g := (mkF m 119 #[.val (.long x0), .second, .val (.int x1), .val (.int x2), .val (.int x3), .val (.int x4), .val (.int ln), .val (.int ct), .val (.int sr), .val (.int mb), .val (.ref b1), .unset, .unset, .unset, .unset, .unset, .unset, .unset, .unset, .unset] [(.int ln), (.int (6 : Int32)), (.long x0), (.int sr), (.ref b1)])) rfl (by rw [hml]; rfl) (argsL := [(.ref b1), (.int sr), (.long x0), (.int (6 : Int32)), (.int ln)]) (rest := []) (lenOf pd_1 rfl) rfl (by show 2 * 0 + _ ≤ _; exact Nat.le_of_eq rfl) (hb hby at_119) (fun _ _ => ⟨rfl, rfl, (by decide : 1 + 0 ≤ _), (by decide : 12 + 0 ≤ _)⟩)
  dsimp only [Pt.U, Pt.locs, Pt.cells, Pt.slots] at X9 l9 y9 z9 st9 hQ9
  subst l9 y9 z9
  obtain ⟨rfl, N9q, K9q, c9_0⟩ := hQ9
  have N9 := Fr.app N8 N9q
  obtain ⟨J9, X9, N9⟩ := own_hide X9 N9
  have K9 : Keep h0 T9.heap [] := K8.trans K9q (allS (Or.inr sz_b1) all0)
  have Z9 : n0 ≤ T9.heap.size := Nat.le_trans Z0 K9.1
  refine own_Go.of (g' := (mkF m 122 #[.val (.long x0), .second, .val (.int x1), .val (.int x2), .val (.int x3), .val (.int x4), .val (.int ln), .val (.int ct), .val (.int sr), .val (.int mb), .val (.ref b1), .unset, .unset, .unset, .unset, .unset, .unset, .unset, .unset, .unset] [])) (fun t k => st9 _ k) ?_
  have VF7 : Arv Z T9.heap b1 k1 .byte (12 : Int32) ((own_fill 7 sr x0 ln).map Value.int) (.int (0 : Int32)) := c9_0
  refine og_aload (pc' := 124) X9 hx (hb hby at_122) rfl rfl rfl ?_
  refine og_iload (pc' := 126) X9 hx (hb hby at_124) rfl rfl ?_
  refine og_lloadN (pc' := 127) X9 hx (hb hby at_126) rfl rfl ?_
  refine og_bipush (pc' := 129) (n := 7) X9 hx (hb hby at_127) rfl rfl ?_
  refine og_iload (pc' := 131) X9 hx (hb hby at_129) rfl rfl ?_
  obtain ⟨_, _, ⟨T10, L10, k10, n10⟩, -, X10, ⟨Lc10, hQ10, l10, y10, z10⟩, st10⟩ := Jvm.LawKit.callS X9 hx (y := (⟨"com/example/skorr/skorr/index/VarintReaderReadPinLaw", "put", "([BIJII)V"⟩ : MethodName)) hown (mvT hZ (hw _ (List.mem_of_getElem? (i := 2) rfl))) (mvT hZ (hw _ (List.mem_of_getElem? (i := 3) rfl))) (mvT hZ (hw _ (List.mem_of_getElem? (i := 4) rfl))) (mvT hZ (hw _ (List.mem_of_getElem? (i := 5) rfl))) (by decide) (backOf (W := 0) (rmput l Z a0 hw [] b1 sr x0 (7 : Int32) ln k1 (own_fill 7 sr x0 ln) T9.heap n0 Z9 VF7 g_b1 (own_fill_len 7 _ _ _) (own_hj hsr hln (7 : Int32) (by decide))) hZ (hw _ (List.mem_of_getElem? (i := 5) rfl)) (hw _ (List.mem_of_getElem? (i := 4) rfl)) (by decide) (by decide)) (g := (mkF m 131 #[.val (.long x0), .second, .val (.int x1), .val (.int x2), .val (.int x3), .val (.int x4), .val (.int ln), .val (.int ct), .val (.int sr), .val (.int mb), .val (.ref b1), .unset, .unset, .unset, .unset, .unset, .unset, .unset, .unset, .unset] [(.int ln), (.int (7 : Int32)), (.long x0), (.int sr), (.ref b1)])) rfl (by rw [hml]; rfl) (argsL := [(.ref b1), (.int sr), (.long x0), (.int (7 : Int32)), (.int ln)]) (rest := []) (lenOf pd_1 rfl) rfl (by show 2 * 0 + _ ≤ _; exact Nat.le_of_eq rfl) (hb hby at_131) (fun _ _ => ⟨rfl, rfl, (by decide : 1 + 0 ≤ _), (by decide : 12 + 0 ≤ _)⟩)
  dsimp only [Pt.U, Pt.locs, Pt.cells, Pt.slots] at X10 l10 y10 z10 st10 hQ10
  subst l10 y10 z10
  obtain ⟨rfl, N10q, K10q, c10_0⟩ := hQ10
  have N10 := Fr.app N9 N10q
  obtain ⟨J10, X10, N10⟩ := own_hide X10 N10
  have K10 : Keep h0 T10.heap [] := K9.trans K10q (allS (Or.inr sz_b1) all0)
  have Z10 : n0 ≤ T10.heap.size := Nat.le_trans Z0 K10.1
  refine own_Go.of (g' := (mkF m 134 #[.val (.long x0), .second, .val (.int x1), .val (.int x2), .val (.int x3), .val (.int x4), .val (.int ln), .val (.int ct), .val (.int sr), .val (.int mb), .val (.ref b1), .unset, .unset, .unset, .unset, .unset, .unset, .unset, .unset, .unset] [])) (fun t k => st10 _ k) ?_
  have VF8 : Arv Z T10.heap b1 k1 .byte (12 : Int32) ((own_fill 8 sr x0 ln).map Value.int) (.int (0 : Int32)) := c10_0
  refine og_aload (pc' := 136) X10 hx (hb hby at_134) rfl rfl rfl ?_
  refine og_iload (pc' := 138) X10 hx (hb hby at_136) rfl rfl ?_
  refine og_lloadN (pc' := 139) X10 hx (hb hby at_138) rfl rfl ?_
  refine og_bipush (pc' := 141) (n := 8) X10 hx (hb hby at_139) rfl rfl ?_
  refine og_iload (pc' := 143) X10 hx (hb hby at_141) rfl rfl ?_
  obtain ⟨_, _, ⟨T11, L11, k11, n11⟩, -, X11, ⟨Lc11, hQ11, l11, y11, z11⟩, st11⟩ := Jvm.LawKit.callS X10 hx (y := (⟨"com/example/skorr/skorr/index/VarintReaderReadPinLaw", "put", "([BIJII)V"⟩ : MethodName)) hown (mvT hZ (hw _ (List.mem_of_getElem? (i := 2) rfl))) (mvT hZ (hw _ (List.mem_of_getElem? (i := 3) rfl))) (mvT hZ (hw _ (List.mem_of_getElem? (i := 4) rfl))) (mvT hZ (hw _ (List.mem_of_getElem? (i := 5) rfl))) (by decide) (backOf (W := 0) (rmput l Z a0 hw [] b1 sr x0 (8 : Int32) ln k1 (own_fill 8 sr x0 ln) T10.heap n0 Z10 VF8 g_b1 (own_fill_len 8 _ _ _) (own_hj hsr hln (8 : Int32) (by decide))) hZ (hw _ (List.mem_of_getElem? (i := 5) rfl)) (hw _ (List.mem_of_getElem? (i := 4) rfl)) (by decide) (by decide)) (g := (mkF m 143 #[.val (.long x0), .second, .val (.int x1), .val (.int x2), .val (.int x3), .val (.int x4), .val (.int ln), .val (.int ct), .val (.int sr), .val (.int mb), .val (.ref b1), .unset, .unset, .unset, .unset, .unset, .unset, .unset, .unset, .unset] [(.int ln), (.int (8 : Int32)), (.long x0), (.int sr), (.ref b1)])) rfl (by rw [hml]; rfl) (argsL := [(.ref b1), (.int sr), (.long x0), (.int (8 : Int32)), (.int ln)]) (rest := []) (lenOf pd_1 rfl) rfl (by show 2 * 0 + _ ≤ _; exact Nat.le_of_eq rfl) (hb hby at_143) (fun _ _ => ⟨rfl, rfl, (by decide : 1 + 0 ≤ _), (by decide : 12 + 0 ≤ _)⟩)
  dsimp only [Pt.U, Pt.locs, Pt.cells, Pt.slots] at X11 l11 y11 z11 st11 hQ11
  subst l11 y11 z11
  obtain ⟨rfl, N11q, K11q, c11_0⟩ := hQ11
  have N11 := Fr.app N10 N11q
  obtain ⟨J11, X11, N11⟩ := own_hide X11 N11
  have K11 : Keep h0 T11.heap [] := K10.trans K11q (allS (Or.inr sz_b1) all0)
  have Z11 : n0 ≤ T11.heap.size := Nat.le_trans Z0 K11.1
  refine own_Go.of (g' := (mkF m 146 #[.val (.long x0), .second, .val (.int x1), .val (.int x2), .val (.int x3), .val (.int x4), .val (.int ln), .val (.int ct), .val (.int sr), .val (.int mb), .val (.ref b1), .unset, .unset, .unset, .unset, .unset, .unset, .unset, .unset, .unset] [])) (fun t k => st11 _ k) ?_
  have VF9 : Arv Z T11.heap b1 k1 .byte (12 : Int32) ((own_fill 9 sr x0 ln).map Value.int) (.int (0 : Int32)) := c11_0
  refine og_aload (pc' := 148) X11 hx (hb hby at_146) rfl rfl rfl ?_
  refine og_iload (pc' := 150) X11 hx (hb hby at_148) rfl rfl ?_
  refine og_lloadN (pc' := 151) X11 hx (hb hby at_150) rfl rfl ?_
  refine og_bipush (pc' := 153) (n := 9) X11 hx (hb hby at_151) rfl rfl ?_
  refine og_iload (pc' := 155) X11 hx (hb hby at_153) rfl rfl ?_
  obtain ⟨_, _, ⟨T12, L12, k12, n12⟩, -, X12, ⟨Lc12, hQ12, l12, y12, z12⟩, st12⟩ := Jvm.LawKit.callS X11 hx (y := (⟨"com/example/skorr/skorr/index/VarintReaderReadPinLaw", "put", "([BIJII)V"⟩ : MethodName)) hown (mvT hZ (hw _ (List.mem_of_getElem? (i := 2) rfl))) (mvT hZ (hw _ (List.mem_of_getElem? (i := 3) rfl))) (mvT hZ (hw _ (List.mem_of_getElem? (i := 4) rfl))) (mvT hZ (hw _ (List.mem_of_getElem? (i := 5) rfl))) (by decide) (backOf (W := 0) (rmput l Z a0 hw [] b1 sr x0 (9 : Int32) ln k1 (own_fill 9 sr x0 ln) T11.heap n0 Z11 VF9 g_b1 (own_fill_len 9 _ _ _) (own_hj hsr hln (9 : Int32) (by decide))) hZ (hw _ (List.mem_of_getElem? (i := 5) rfl)) (hw _ (List.mem_of_getElem? (i := 4) rfl)) (by decide) (by decide)) (g := (mkF m 155 #[.val (.long x0), .second, .val (.int x1), .val (.int x2), .val (.int x3), .val (.int x4), .val (.int ln), .val (.int ct), .val (.int sr), .val (.int mb), .val (.ref b1), .unset, .unset, .unset, .unset, .unset, .unset, .unset, .unset, .unset] [(.int ln), (.int (9 : Int32)), (.long x0), (.int sr), (.ref b1)])) rfl (by rw [hml]; rfl) (argsL := [(.ref b1), (.int sr), (.long x0), (.int (9 : Int32)), (.int ln)]) (rest := []) (lenOf pd_1 rfl) rfl (by show 2 * 0 + _ ≤ _; exact Nat.le_of_eq rfl) (hb hby at_155) (fun _ _ => ⟨rfl, rfl, (by decide : 1 + 0 ≤ _), (by decide : 12 + 0 ≤ _)⟩)
  dsimp only [Pt.U, Pt.locs, Pt.cells, Pt.slots] at X12 l12 y12 z12 st12 hQ12
  subst l12 y12 z12
  obtain ⟨rfl, N12q, K12q, c12_0⟩ := hQ12
  have N12 := Fr.app N11 N12q
  obtain ⟨J12, X12, N12⟩ := own_hide X12 N12
  have K12 : Keep h0 T12.heap [] := K11.trans K12q (allS (Or.inr sz_b1) all0)
  have Z12 : n0 ≤ T12.heap.size := Nat.le_trans Z0 K12.1
  refine own_Go.of (g' := (mkF m 158 #[.val (.long x0), .second, .val (.int x1), .val (.int x2), .val (.int x3), .val (.int x4), .val (.int ln), .val (.int ct), .val (.int sr), .val (.int mb), .val (.ref b1), .unset, .unset, .unset, .unset, .unset, .unset, .unset, .unset, .unset] [])) (fun t k => st12 _ k) ?_
  have VF10 : Arv Z T12.heap b1 k1 .byte (12 : Int32) ((own_fill 10 sr x0 ln).map Value.int) (.int (0 : Int32)) := c12_0
  refine og_aload (pc' := 160) X12 hx (hb hby at_158) rfl rfl rfl ?_
  refine og_iload (pc' := 162) X12 hx (hb hby at_160) rfl rfl ?_
  refine og_iload (pc' := 164) X12 hx (hb hby at_162) rfl rfl ?_
  refine og_iadd (pc' := 165) X12 hx (hb hby at_164) rfl ?_
  refine og_iload (pc' := 167) X12 hx (hb hby at_165) rfl rfl ?_
  refine og_i2b (pc' := 168) X12 hx (hb hby at_167) rfl ?_
  obtain ⟨cl13, Ar13, q13, S13, M13, H13, G13⟩ := id VF10
  have hin13 : ¬ ((sr + ln) < 0 ∨ cl13.slots.size ≤ ((sr + ln)).toNatClampNeg) := inb_of S13 (own_hj2 hsr hln)
  obtain ⟨T13, h13, X13, e13, W13, st13⟩ := stB X12 hx hZ rfl Ar13 (j := (sr + ln)) hin13 (g := (mkF m 168 #[.val (.long x0), .second, .val (.int x1), .val (.int x2), .val (.int x3), .val (.int x4), .val (.int ln), .val (.int ct), .val (.int sr), .val (.int mb), .val (.ref b1), .unset, .unset, .unset, .unset, .unset, .unset, .unset, .unset, .unset] [(.int (mb.toInt8.toInt32)), (.int (sr + ln)), (.ref b1)])) rfl rfl (hb hby at_168)
  have V13 : Arv Z h13 b1 k1 .byte (12 : Int32) ((own_arr sr x0 ln mb).map Value.int) (.int (0 : Int32)) := (by unfold own_arr; rw [own_map_set]; exact Arv.set Ar13 q13 S13 M13 H13 G13 (fits_nar_byte _) W13 _ rfl (own_inl (own_hj2 hsr hln) (own_fill_len 10 _ _ _)))
  have K13 : Keep h0 h13 [] := K12.wr W13 (Or.inr sz_b1)
  have Z13 : n0 ≤ h13.size := Nat.le_trans Z0 K13.1
  have N13 := Fr.snoc X13 N12 g_b1
  obtain ⟨J13, X13, N13⟩ := own_hide X13 N13
  refine own_Go.of (g' := (mkF m 169 #[.val (.long x0), .second, .val (.int x1), .val (.int x2), .val (.int x3), .val (.int x4), .val (.int ln), .val (.int ct), .val (.int sr), .val (.int mb), .val (.ref b1), .unset, .unset, .unset, .unset, .unset, .unset, .unset, .unset, .unset] [])) (fun t k => st13 _ k) ?_
  obtain ⟨T14, h14, X14, e14, E14, A14, D14, -, st14⟩ := newO X13 hx hZ hown (hw _ (List.mem_of_getElem? (i := 7) rfl)) (hw _ (List.mem_of_getElem? (i := 8) rfl)) (hw _ (List.mem_of_getElem? (i := 9) rfl)) e13 (g := (mkF m 169 #[.val (.long x0), .second, .val (.int x1), .val (.int x2), .val (.int x3), .val (.int x4), .val (.int ln), .val (.int ct), .val (.int sr), .val (.int mb), .val (.ref b1), .unset, .unset, .unset, .unset, .unset, .unset, .unset, .unset, .unset] [])) rfl (hb hby at_169) (by decide) (by decide)
  obtain ⟨b14, g14⟩ : ∃ z, z = h13.size := ⟨_, rfl⟩
  rw [← g14] at A14 D14 st14
  have ne14_0 : b1 ≠ b14 := Nat.ne_of_lt (Nat.lt_of_lt_of_le V13.lt (Nat.le_of_eq g14.symm))
  have g_b14 : n0 ≤ b14 := Nat.le_trans Z13 (Nat.le_of_eq g14.symm)
  have sz_b14 : h0.size ≤ b14 := Nat.le_trans K13.1 (Nat.le_of_eq g14.symm)
  have f14_0 := V13.ext E14
  have F14_bytes : Fld Z h14 b14 "com/example/skorr/skorr/index/VarintReader" "bytes" "[B" .null := D14 (Or.inl (hw _ (List.mem_of_getElem? (i := 22) rfl))) (ty := (.array .byte)) (by decide)
  have F14_at : Fld Z h14 b14 "com/example/skorr/skorr/index/VarintReader" "at" "I" (.int (0 : Int32)) := D14 (Or.inl (hw _ (List.mem_of_getElem? (i := 24) rfl))) (ty := .int) (by decide)
  have F14_end : Fld Z h14 b14 "com/example/skorr/skorr/index/VarintReader" "end" "I" (.int (0 : Int32)) := D14 (Or.inl (hw _ (List.mem_of_getElem? (i := 26) rfl))) (ty := .int) (by decide)
  have K14 : Keep h0 h14 [] := K13.ext E14
  have Z14 : n0 ≤ h14.size := Nat.le_trans Z0 K14.1
  refine own_Go.of (g' := (mkF m 172 #[.val (.long x0), .second, .val (.int x1), .val (.int x2), .val (.int x3), .val (.int x4), .val (.int ln), .val (.int ct), .val (.int sr), .val (.int mb), .val (.ref b1), .unset, .unset, .unset, .unset, .unset, .unset, .unset, .unset, .unset] [(.ref b14)])) (fun t k => st14 _ k) ?_
  refine og_dup (pc' := 173) X14 hx (hb hby at_172) rfl rfl ?_
  refine og_aload (pc' := 175) X14 hx (hb hby at_173) rfl rfl rfl ?_
  refine og_iload (pc' := 177) X14 hx (hb hby at_175) rfl rfl ?_
  refine og_iload (pc' := 179) X14 hx (hb hby at_177) rfl rfl ?_
  refine og_iload (pc' := 181) X14 hx (hb hby at_179) rfl rfl ?_
  refine og_iadd (pc' := 182) X14 hx (hb hby at_181) rfl ?_
  generalize hen : (sr + ct) = en
  obtain ⟨_, _, ⟨T15, L15, k15, n15⟩, -, X15, ⟨Lc15, hQ15, l15, y15, z15⟩, st15⟩ := X14.specialBack hx (y := (⟨"com/example/skorr/skorr/index/VarintReader", "<init>", "([BII)V"⟩ : MethodName)) rfl hown (mvT hZ (hw _ (List.mem_of_getElem? (i := 10) rfl))) (mvT hZ (hw _ (List.mem_of_getElem? (i := 11) rfl))) (mvT hZ (hw _ (List.mem_of_getElem? (i := 12) rfl))) (by decide) (backOf (W := 1) (rmini l Z a0 hw [] b14 b1 sr en .null (.int (0 : Int32)) (.int (0 : Int32)) h14 n0 Z14 A14 F14_bytes F14_at F14_end g_b14) hZ (hw _ (List.mem_of_getElem? (i := 12) rfl)) (hw _ (List.mem_of_getElem? (i := 9) rfl)) (by decide) (by decide)) (g := (mkF m 182 #[.val (.long x0), .second, .val (.int x1), .val (.int x2), .val (.int x3), .val (.int x4), .val (.int ln), .val (.int ct), .val (.int sr), .val (.int mb), .val (.ref b1), .unset, .unset, .unset, .unset, .unset, .unset, .unset, .unset, .unset] [(.int en), (.int sr), (.ref b1), (.ref b14), (.ref b14)])) rfl (by rw [hml]; rfl) (Steps.refl _) (a := b14) (argsL := [(.ref b1), (.int sr), (.int en)]) (rest := [(.ref b14)]) (lenOf pd_0 rfl) rfl (by show 2 * 0 + _ ≤ _; exact Nat.le_of_eq rfl) (hb hby at_182) (fun _ _ => ⟨rfl, e14, (by decide : 2 + 0 ≤ _), (by decide : 15 + 0 ≤ _)⟩)
  dsimp only [Pt.U, Pt.locs, Pt.cells, Pt.slots] at X15 l15 y15 z15 st15 hQ15
  subst l15 y15 z15
  obtain ⟨rfl, N15q, K15q, c15_0, c15_1, c15_2, c15_3⟩ := hQ15
  have N15 := Fr.app N13 N15q
  obtain ⟨J15, X15, N15⟩ := own_hide X15 N15
  have f15_0 := f14_0.keep K15q (ninS ne14_0 nin0)
  have f15_1 := A14.keep K15q
  have K15 : Keep h0 T15.heap [] := K14.trans K15q (allS (Or.inr sz_b14) all0)
  have Z15 : n0 ≤ T15.heap.size := Nat.le_trans Z0 K15.1
  refine own_Go.of (g' := (mkF m 185 #[.val (.long x0), .second, .val (.int x1), .val (.int x2), .val (.int x3), .val (.int x4), .val (.int ln), .val (.int ct), .val (.int sr), .val (.int mb), .val (.ref b1), .unset, .unset, .unset, .unset, .unset, .unset, .unset, .unset, .unset] [(.ref b14)])) (fun t k => st15.trans k) ?_
  refine og_astore (pc' := 187) (L' := #[.val (.long x0), .second, .val (.int x1), .val (.int x2), .val (.int x3), .val (.int x4), .val (.int ln), .val (.int ct), .val (.int sr), .val (.int mb), .val (.ref b1), .val (.ref b14), .unset, .unset, .unset, .unset, .unset, .unset, .unset, .unset]) X15 hx (hb hby at_185) rfl rfl rfl ?_
  refine og_aload (pc' := 189) X15 hx (hb hby at_187) rfl rfl rfl ?_
  obtain ⟨cq16, kq16, q16a, q16b, q16c⟩ := isOf hZ rfl c15_0
  obtain ⟨_, _, ⟨T16, L16, k16, n16⟩, -, X16, ⟨Lc16, hQ16, l16, y16, z16⟩, st16⟩ := X15.virtualBack hx (y := (⟨"com/example/skorr/skorr/index/VarintReader", "read", "()J"⟩ : MethodName)) (z := (⟨"com/example/skorr/skorr/index/VarintReader", "read", "()J"⟩ : MethodName)) hown (mvT hZ (hw _ (List.mem_of_getElem? (i := 27) rfl))) (mvT hZ (hw _ (List.mem_of_getElem? (i := 28) rfl))) (notFace_of_selects (args := #[]) (mvT hZ (hw _ (List.mem_of_getElem? (i := 30) rfl)))) (mvT hZ (hw _ (List.mem_of_getElem? (i := 30) rfl))) (mvT hZ (hw _ (List.mem_of_getElem? (i := 29) rfl))) (by decide) (backOf (W := 0) (rmrd l Z a0 hw [] b14 b1 k1 (own_arr sr x0 ln mb) sr en T15.heap n0 Z15 c15_0 c15_1 c15_2 c15_3 f15_0 g_b14 (Ne.symm ne14_0) (own_hr1 hsr hct hen)) hZ (hw _ (List.mem_of_getElem? (i := 31) rfl)) (hw _ (List.mem_of_getElem? (i := 9) rfl)) (by decide) (by decide)) q16a q16c (g := (mkF m 189 #[.val (.long x0), .second, .val (.int x1), .val (.int x2), .val (.int x3), .val (.int x4), .val (.int ln), .val (.int ct), .val (.int sr), .val (.int mb), .val (.ref b1), .val (.ref b14), .unset, .unset, .unset, .unset, .unset, .unset, .unset, .unset] [(.ref b14)])) rfl (by rw [hml]; rfl) (Steps.refl _) (argsL := []) (rest := []) (lenOf pd_2 rfl) rfl (by show 2 * 0 + _ ≤ _; exact Nat.le_of_eq rfl) (hb hby at_189) (fun _ _ => ⟨rfl, rfl, (by decide : 2 + 0 ≤ _), (by decide : 15 + 0 ≤ _)⟩)
  dsimp only [Pt.U, Pt.locs, Pt.cells, Pt.slots] at X16 l16 y16 z16 st16 hQ16
  subst l16 y16 z16
  obtain ⟨rfl, N16q, K16q, c16_0, c16_1, c16_2, c16_3⟩ := hQ16
  have N16 := Fr.app N15 N16q
  obtain ⟨J16, X16, N16⟩ := own_hide X16 N16
  have f16_0 := f15_0.keep K16q (ninS ne14_0 nin0)
  have f16_1 := c15_0.keep K16q
  have K16 : Keep h0 T16.heap [] := K15.trans K16q (allS (Or.inr sz_b14) all0)
  have Z16 : n0 ≤ T16.heap.size := Nat.le_trans Z0 K16.1
  refine own_Go.of (g' := (mkF m 192 #[.val (.long x0), .second, .val (.int x1), .val (.int x2), .val (.int x3), .val (.int x4), .val (.int ln), .val (.int ct), .val (.int sr), .val (.int mb), .val (.ref b1), .val (.ref b14), .unset, .unset, .unset, .unset, .unset, .unset, .unset, .unset] [(.long (own_rd 9 (0 : Int64) (0 : Int32) sr en (own_arr sr x0 ln mb)).1)])) (fun t k => st16.trans k) ?_
  generalize hf1 : (own_rd 9 (0 : Int64) (0 : Int32) sr en (own_arr sr x0 ln mb)).1 = f1
  obtain ⟨ap1, hap1⟩ : ∃ q, q = (own_rd 9 (0 : Int64) (0 : Int32) sr en (own_arr sr x0 ln mb)).2 := ⟨_, rfl⟩
  have FP : Fld Z T16.heap b14 "com/example/skorr/skorr/index/VarintReader" "at" "I" (.int ap1) := by rw [hap1]; exact c16_2
  refine og_lstore (pc' := 194) (L' := #[.val (.long x0), .second, .val (.int x1), .val (.int x2), .val (.int x3), .val (.int x4), .val (.int ln), .val (.int ct), .val (.int sr), .val (.int mb), .val (.ref b1), .val (.ref b14), .val (.long f1), .second, .unset, .unset, .unset, .unset, .unset, .unset]) X16 hx (hb hby at_192) rfl rfl ?_
  refine og_aload (pc' := 196) X16 hx (hb hby at_194) rfl rfl rfl ?_
  obtain ⟨cq17, kq17, q17a, q17b, q17c⟩ := isOf hZ rfl c16_0
  obtain ⟨_, _, ⟨T17, L17, k17, n17⟩, -, X17, ⟨Lc17, hQ17, l17, y17, z17⟩, st17⟩ := X16.virtualBack hx (y := (⟨"com/example/skorr/skorr/index/VarintReader", "read", "()J"⟩ : MethodName)) (z := (⟨"com/example/skorr/skorr/index/VarintReader", "read", "()J"⟩ : MethodName)) hown (mvT hZ (hw _ (List.mem_of_getElem? (i := 27) rfl))) (mvT hZ (hw _ (List.mem_of_getElem? (i := 28) rfl))) (notFace_of_selects (args := #[]) (mvT hZ (hw _ (List.mem_of_getElem? (i := 30) rfl)))) (mvT hZ (hw _ (List.mem_of_getElem? (i := 30) rfl))) (mvT hZ (hw _ (List.mem_of_getElem? (i := 29) rfl))) (by decide) (backOf (W := 0) (rmrd l Z a0 hw [] b14 b1 k1 (own_arr sr x0 ln mb) ap1 en T16.heap n0 Z16 c16_0 c16_1 FP c16_3 f16_0 g_b14 (Ne.symm ne14_0) (own_hr2 hsr hct hen hap1)) hZ (hw _ (List.mem_of_getElem? (i := 31) rfl)) (hw _ (List.mem_of_getElem? (i := 9) rfl)) (by decide) (by decide)) q17a q17c (g := (mkF m 196 #[.val (.long x0), .second, .val (.int x1), .val (.int x2), .val (.int x3), .val (.int x4), .val (.int ln), .val (.int ct), .val (.int sr), .val (.int mb), .val (.ref b1), .val (.ref b14), .val (.long f1), .second, .unset, .unset, .unset, .unset, .unset, .unset] [(.ref b14)])) rfl (by rw [hml]; rfl) (Steps.refl _) (argsL := []) (rest := []) (lenOf pd_2 rfl) rfl (by show 2 * 0 + _ ≤ _; exact Nat.le_of_eq rfl) (hb hby at_196) (fun _ _ => ⟨rfl, rfl, (by decide : 2 + 0 ≤ _), (by decide : 15 + 0 ≤ _)⟩)
  dsimp only [Pt.U, Pt.locs, Pt.cells, Pt.slots] at X17 l17 y17 z17 st17 hQ17
  subst l17 y17 z17
  obtain ⟨rfl, N17q, K17q, c17_0, c17_1, c17_2, c17_3⟩ := hQ17
  have N17 := Fr.app N16 N17q
  obtain ⟨J17, X17, N17⟩ := own_hide X17 N17
  have f17_0 := f16_0.keep K17q (ninS ne14_0 nin0)
  have f17_1 := c16_0.keep K17q
  have K17 : Keep h0 T17.heap [] := K16.trans K17q (allS (Or.inr sz_b14) all0)
  have Z17 : n0 ≤ T17.heap.size := Nat.le_trans Z0 K17.1
  refine own_Go.of (g' := (mkF m 199 #[.val (.long x0), .second, .val (.int x1), .val (.int x2), .val (.int x3), .val (.int x4), .val (.int ln), .val (.int ct), .val (.int sr), .val (.int mb), .val (.ref b1), .val (.ref b14), .val (.long f1), .second, .unset, .unset, .unset, .unset, .unset, .unset] [(.long (own_rd 9 (0 : Int64) (0 : Int32) ap1 en (own_arr sr x0 ln mb)).1)])) (fun t k => st17.trans k) ?_
  generalize hf2 : (own_rd 9 (0 : Int64) (0 : Int32) ap1 en (own_arr sr x0 ln mb)).1 = f2
  have R := own_res hsr hln hct hmb hen hf1 hap1 hf2
  refine og_lstore (pc' := 201) (L' := #[.val (.long x0), .second, .val (.int x1), .val (.int x2), .val (.int x3), .val (.int x4), .val (.int ln), .val (.int ct), .val (.int sr), .val (.int mb), .val (.ref b1), .val (.ref b14), .val (.long f1), .second, .val (.long f2), .second, .unset, .unset, .unset, .unset]) X17 hx (hb hby at_199) rfl rfl ?_
  refine og_iload (pc' := 203) X17 hx (hb hby at_201) rfl rfl ?_
  refine og_bipush (pc' := 205) (n := 9) X17 hx (hb hby at_203) rfl rfl ?_
  by_cases hc205_1 : (9 : Int32) < ln
  · refine og_icmpYes (pc' := 262) X17 hx (hb hby at_205) (tlt hc205_1).2.2.1 (by decide) (by decide) ?_
    refine og_ldc2_w (pc' := 265) X17 hx (hb hby at_262) hown (mvT hZ (hw _ (List.mem_of_getElem? (i := 33) rfl))) rfl ?_
    refine og_lstore (pc' := 267) (L' := #[.val (.long x0), .second, .val (.int x1), .val (.int x2), .val (.int x3), .val (.int x4), .val (.int ln), .val (.int ct), .val (.int sr), .val (.int mb), .val (.ref b1), .val (.ref b14), .val (.long f1), .second, .val (.long f2), .second, .val (.long (-1 : Int64)), .second, .unset, .unset]) X17 hx (hb hby at_265) rfl rfl ?_
    refine og_iload (pc' := 269) X17 hx (hb hby at_267) rfl rfl ?_
    refine og_bipush (pc' := 271) (n := 9) X17 hx (hb hby at_269) rfl rfl ?_
    by_cases hc271_2 : (9 : Int32) < ct
    · refine og_icmpNo (pc' := 274) X17 hx (hb hby at_271) (tlt hc271_2).2.2.2 rfl ?_
      refine og_lloadN (pc' := 275) X17 hx (hb hby at_274) rfl rfl ?_
      refine og_bipush (pc' := 277) (n := 63) X17 hx (hb hby at_275) rfl rfl ?_
      refine og_lushr (pc' := 278) X17 hx (hb hby at_277) rfl ?_
      refine og_goto (pc' := 284) X17 hx (hb hby at_278) (by decide) (by decide) ?_
      refine og_lstore (pc' := 286) (L' := #[.val (.long x0), .second, .val (.int x1), .val (.int x2), .val (.int x3), .val (.int x4), .val (.int ln), .val (.int ct), .val (.int sr), .val (.int mb), .val (.ref b1), .val (.ref b14), .val (.long f1), .second, .val (.long f2), .second, .val (.long (-1 : Int64)), .second, .val (.long ((x0.toUInt64 >>> ((63 : Int32) &&& 0x3f).toInt64.toUInt64).toInt64)), .second]) X17 hx (hb hby at_284) rfl rfl ?_
      refine og_lload (pc' := 288) X17 hx (hb hby at_286) rfl rfl ?_
      refine og_lload (pc' := 290) X17 hx (hb hby at_288) rfl rfl ?_
      refine og_lcmp (pc' := 291) X17 hx (hb hby at_290) rfl ?_
      refine og_ifNo (pc' := 294) X17 hx (hb hby at_291) ((if0 _ _).trans (teq ((lw_eq _ _).mpr (R.2.2 hc205_1).1)).2) rfl ?_
      refine og_lload (pc' := 296) X17 hx (hb hby at_294) rfl rfl ?_
      refine og_lload (pc' := 298) X17 hx (hb hby at_296) rfl rfl ?_
      refine og_lcmp (pc' := 299) X17 hx (hb hby at_298) rfl ?_
      refine og_ifNo (pc' := 302) X17 hx (hb hby at_299) ((if0 _ _).trans (teq ((lw_eq _ _).mpr ((R.2.2 hc205_1).2.1 hc271_2))).2) rfl ?_
      refine og_iconst (pc' := 303) (n := 1) X17 hx (hb hby at_302) rfl rfl ?_
      refine og_goto (pc' := 307) X17 hx (hb hby at_303) (by decide) (by decide) ?_
      obtain ⟨fs, hr, hrun, hended, hW, hsame⟩ := X17.leave (v := some (.int (1 : Int32))) (fun h => by rw [Bd.returns] at h; cases h) (BodyLoose.notSynchronized Bd)
      refine ⟨_, _, retN X17 hx (t := .boolean) Bd.returns (by simp) (hb hby at_307) hr, hrun, hended, some (.int (1 : Int32)), _, rfl, ?_, ⟨_, rfl⟩, hW, hsame.mono (by decide) (by decide)⟩
      show Q0 Z x0 x1 x2 x3 x4 h0 n0 _ T17.heap _
      exact ⟨rfl, N17⟩
    · refine og_icmpYes (pc' := 281) X17 hx (hb hby at_271) (flt hc271_2).2.2.2 (by decide) (by decide) ?_
      refine og_ldc2_w (pc' := 284) X17 hx (hb hby at_281) hown (mvT hZ (hw _ (List.mem_of_getElem? (i := 33) rfl))) rfl ?_
      refine og_lstore (pc' := 286) (L' := #[.val (.long x0), .second, .val (.int x1), .val (.int x2), .val (.int x3), .val (.int x4), .val (.int ln), .val (.int ct), .val (.int sr), .val (.int mb), .val (.ref b1), .val (.ref b14), .val (.long f1), .second, .val (.long f2), .second, .val (.long (-1 : Int64)), .second, .val (.long (-1 : Int64)), .second]) X17 hx (hb hby at_284) rfl rfl ?_
      refine og_lload (pc' := 288) X17 hx (hb hby at_286) rfl rfl ?_
      refine og_lload (pc' := 290) X17 hx (hb hby at_288) rfl rfl ?_
      refine og_lcmp (pc' := 291) X17 hx (hb hby at_290) rfl ?_
      refine og_ifNo (pc' := 294) X17 hx (hb hby at_291) ((if0 _ _).trans (teq ((lw_eq _ _).mpr (R.2.2 hc205_1).1)).2) rfl ?_
      refine og_lload (pc' := 296) X17 hx (hb hby at_294) rfl rfl ?_
      refine og_lload (pc' := 298) X17 hx (hb hby at_296) rfl rfl ?_
      refine og_lcmp (pc' := 299) X17 hx (hb hby at_298) rfl ?_
      refine og_ifNo (pc' := 302) X17 hx (hb hby at_299) ((if0 _ _).trans (teq ((lw_eq _ _).mpr ((R.2.2 hc205_1).2.2 hc271_2))).2) rfl ?_
      refine og_iconst (pc' := 303) (n := 1) X17 hx (hb hby at_302) rfl rfl ?_
      refine og_goto (pc' := 307) X17 hx (hb hby at_303) (by decide) (by decide) ?_
      obtain ⟨fs, hr, hrun, hended, hW, hsame⟩ := X17.leave (v := some (.int (1 : Int32))) (fun h => by rw [Bd.returns] at h; cases h) (BodyLoose.notSynchronized Bd)
      refine ⟨_, _, retN X17 hx (t := .boolean) Bd.returns (by simp) (hb hby at_307) hr, hrun, hended, some (.int (1 : Int32)), _, rfl, ?_, ⟨_, rfl⟩, hW, hsame.mono (by decide) (by decide)⟩
      show Q0 Z x0 x1 x2 x3 x4 h0 n0 _ T17.heap _
      exact ⟨rfl, N17⟩
  · refine og_icmpNo (pc' := 208) X17 hx (hb hby at_205) (flt hc205_1).2.2.1 rfl ?_
    refine og_iload (pc' := 210) X17 hx (hb hby at_208) rfl rfl ?_
    refine og_iload (pc' := 212) X17 hx (hb hby at_210) rfl rfl ?_
    by_cases hc212_3 : ct < ln
    · refine og_icmpYes (pc' := 249) X17 hx (hb hby at_212) (tlt hc212_3).1 (by decide) (by decide) ?_
      refine og_ldc2_w (pc' := 252) X17 hx (hb hby at_249) hown (mvT hZ (hw _ (List.mem_of_getElem? (i := 33) rfl))) rfl ?_
      refine og_lstore (pc' := 254) (L' := #[.val (.long x0), .second, .val (.int x1), .val (.int x2), .val (.int x3), .val (.int x4), .val (.int ln), .val (.int ct), .val (.int sr), .val (.int mb), .val (.ref b1), .val (.ref b14), .val (.long f1), .second, .val (.long f2), .second, .val (.long (-1 : Int64)), .second, .unset, .unset]) X17 hx (hb hby at_252) rfl rfl ?_
      refine og_ldc2_w (pc' := 257) X17 hx (hb hby at_254) hown (mvT hZ (hw _ (List.mem_of_getElem? (i := 33) rfl))) rfl ?_
      refine og_lstore (pc' := 259) (L' := #[.val (.long x0), .second, .val (.int x1), .val (.int x2), .val (.int x3), .val (.int x4), .val (.int ln), .val (.int ct), .val (.int sr), .val (.int mb), .val (.ref b1), .val (.ref b14), .val (.long f1), .second, .val (.long f2), .second, .val (.long (-1 : Int64)), .second, .val (.long (-1 : Int64)), .second]) X17 hx (hb hby at_257) rfl rfl ?_
      refine og_goto (pc' := 286) X17 hx (hb hby at_259) (by decide) (by decide) ?_
      refine og_lload (pc' := 288) X17 hx (hb hby at_286) rfl rfl ?_
      refine og_lload (pc' := 290) X17 hx (hb hby at_288) rfl rfl ?_
      refine og_lcmp (pc' := 291) X17 hx (hb hby at_290) rfl ?_
      refine og_ifNo (pc' := 294) X17 hx (hb hby at_291) ((if0 _ _).trans (teq ((lw_eq _ _).mpr (R.2.1 hc205_1 hc212_3).1)).2) rfl ?_
      refine og_lload (pc' := 296) X17 hx (hb hby at_294) rfl rfl ?_
      refine og_lload (pc' := 298) X17 hx (hb hby at_296) rfl rfl ?_
      refine og_lcmp (pc' := 299) X17 hx (hb hby at_298) rfl ?_
      refine og_ifNo (pc' := 302) X17 hx (hb hby at_299) ((if0 _ _).trans (teq ((lw_eq _ _).mpr (R.2.1 hc205_1 hc212_3).2)).2) rfl ?_
      refine og_iconst (pc' := 303) (n := 1) X17 hx (hb hby at_302) rfl rfl ?_
      refine og_goto (pc' := 307) X17 hx (hb hby at_303) (by decide) (by decide) ?_
      obtain ⟨fs, hr, hrun, hended, hW, hsame⟩ := X17.leave (v := some (.int (1 : Int32))) (fun h => by rw [Bd.returns] at h; cases h) (BodyLoose.notSynchronized Bd)
      refine ⟨_, _, retN X17 hx (t := .boolean) Bd.returns (by simp) (hb hby at_307) hr, hrun, hended, some (.int (1 : Int32)), _, rfl, ?_, ⟨_, rfl⟩, hW, hsame.mono (by decide) (by decide)⟩
      show Q0 Z x0 x1 x2 x3 x4 h0 n0 _ T17.heap _
      exact ⟨rfl, N17⟩
    · refine og_icmpNo (pc' := 215) X17 hx (hb hby at_212) (flt hc212_3).1 rfl ?_
      refine og_lloadN (pc' := 216) X17 hx (hb hby at_215) rfl rfl ?_
      refine og_lconst1 (pc' := 217) X17 hx (hb hby at_216) rfl ?_
      refine og_bipush (pc' := 219) (n := 7) X17 hx (hb hby at_217) rfl rfl ?_
      refine og_iload (pc' := 221) X17 hx (hb hby at_219) rfl rfl ?_
      refine og_imul (pc' := 222) X17 hx (hb hby at_221) rfl ?_
      refine og_lshl (pc' := 223) X17 hx (hb hby at_222) rfl ?_
      refine og_lconst1 (pc' := 224) X17 hx (hb hby at_223) rfl ?_
      refine og_lsub (pc' := 225) X17 hx (hb hby at_224) rfl ?_
      refine og_land (pc' := 226) X17 hx (hb hby at_225) rfl ?_
      refine og_lstore (pc' := 228) (L' := #[.val (.long x0), .second, .val (.int x1), .val (.int x2), .val (.int x3), .val (.int x4), .val (.int ln), .val (.int ct), .val (.int sr), .val (.int mb), .val (.ref b1), .val (.ref b14), .val (.long f1), .second, .val (.long f2), .second, .val (.long (x0 &&& (((1 : Int64) <<< (((7 : Int32) * ln) &&& 0x3f).toInt64) - (1 : Int64)))), .second, .unset, .unset]) X17 hx (hb hby at_226) rfl rfl ?_
      refine og_iload (pc' := 230) X17 hx (hb hby at_228) rfl rfl ?_
      refine og_iload (pc' := 232) X17 hx (hb hby at_230) rfl rfl ?_
      by_cases hc232_4 : ln < ct
      · refine og_icmpNo (pc' := 235) X17 hx (hb hby at_232) (tlt hc232_4).2.2.2 rfl ?_
        refine og_iload (pc' := 237) X17 hx (hb hby at_235) rfl rfl ?_
        refine og_i2l (pc' := 238) X17 hx (hb hby at_237) rfl ?_
        refine og_goto (pc' := 244) X17 hx (hb hby at_238) (by decide) (by decide) ?_
        refine og_lstore (pc' := 246) (L' := #[.val (.long x0), .second, .val (.int x1), .val (.int x2), .val (.int x3), .val (.int x4), .val (.int ln), .val (.int ct), .val (.int sr), .val (.int mb), .val (.ref b1), .val (.ref b14), .val (.long f1), .second, .val (.long f2), .second, .val (.long (x0 &&& (((1 : Int64) <<< (((7 : Int32) * ln) &&& 0x3f).toInt64) - (1 : Int64)))), .second, .val (.long (mb.toInt64)), .second]) X17 hx (hb hby at_244) rfl rfl ?_
        refine og_goto (pc' := 286) X17 hx (hb hby at_246) (by decide) (by decide) ?_
        refine og_lload (pc' := 288) X17 hx (hb hby at_286) rfl rfl ?_
        refine og_lload (pc' := 290) X17 hx (hb hby at_288) rfl rfl ?_
        refine og_lcmp (pc' := 291) X17 hx (hb hby at_290) rfl ?_
        refine og_ifNo (pc' := 294) X17 hx (hb hby at_291) ((if0 _ _).trans (teq ((lw_eq _ _).mpr (R.1 hc205_1 hc212_3).1)).2) rfl ?_
        refine og_lload (pc' := 296) X17 hx (hb hby at_294) rfl rfl ?_
        refine og_lload (pc' := 298) X17 hx (hb hby at_296) rfl rfl ?_
        refine og_lcmp (pc' := 299) X17 hx (hb hby at_298) rfl ?_
        refine og_ifNo (pc' := 302) X17 hx (hb hby at_299) ((if0 _ _).trans (teq ((lw_eq _ _).mpr ((R.1 hc205_1 hc212_3).2.1 hc232_4))).2) rfl ?_
        refine og_iconst (pc' := 303) (n := 1) X17 hx (hb hby at_302) rfl rfl ?_
        refine og_goto (pc' := 307) X17 hx (hb hby at_303) (by decide) (by decide) ?_
        obtain ⟨fs, hr, hrun, hended, hW, hsame⟩ := X17.leave (v := some (.int (1 : Int32))) (fun h => by rw [Bd.returns] at h; cases h) (BodyLoose.notSynchronized Bd)
        refine ⟨_, _, retN X17 hx (t := .boolean) Bd.returns (by simp) (hb hby at_307) hr, hrun, hended, some (.int (1 : Int32)), _, rfl, ?_, ⟨_, rfl⟩, hW, hsame.mono (by decide) (by decide)⟩
        show Q0 Z x0 x1 x2 x3 x4 h0 n0 _ T17.heap _
        exact ⟨rfl, N17⟩
      · refine og_icmpYes (pc' := 241) X17 hx (hb hby at_232) (flt hc232_4).2.2.2 (by decide) (by decide) ?_
        refine og_ldc2_w (pc' := 244) X17 hx (hb hby at_241) hown (mvT hZ (hw _ (List.mem_of_getElem? (i := 33) rfl))) rfl ?_
        refine og_lstore (pc' := 246) (L' := #[.val (.long x0), .second, .val (.int x1), .val (.int x2), .val (.int x3), .val (.int x4), .val (.int ln), .val (.int ct), .val (.int sr), .val (.int mb), .val (.ref b1), .val (.ref b14), .val (.long f1), .second, .val (.long f2), .second, .val (.long (x0 &&& (((1 : Int64) <<< (((7 : Int32) * ln) &&& 0x3f).toInt64) - (1 : Int64)))), .second, .val (.long (-1 : Int64)), .second]) X17 hx (hb hby at_244) rfl rfl ?_
        refine og_goto (pc' := 286) X17 hx (hb hby at_246) (by decide) (by decide) ?_
        refine og_lload (pc' := 288) X17 hx (hb hby at_286) rfl rfl ?_
        refine og_lload (pc' := 290) X17 hx (hb hby at_288) rfl rfl ?_
        refine og_lcmp (pc' := 291) X17 hx (hb hby at_290) rfl ?_
        refine og_ifNo (pc' := 294) X17 hx (hb hby at_291) ((if0 _ _).trans (teq ((lw_eq _ _).mpr (R.1 hc205_1 hc212_3).1)).2) rfl ?_
        refine og_lload (pc' := 296) X17 hx (hb hby at_294) rfl rfl ?_
        refine og_lload (pc' := 298) X17 hx (hb hby at_296) rfl rfl ?_
        refine og_lcmp (pc' := 299) X17 hx (hb hby at_298) rfl ?_
        refine og_ifNo (pc' := 302) X17 hx (hb hby at_299) ((if0 _ _).trans (teq ((lw_eq _ _).mpr ((R.1 hc205_1 hc212_3).2.2 hc232_4))).2) rfl ?_
        refine og_iconst (pc' := 303) (n := 1) X17 hx (hb hby at_302) rfl rfl ?_
        refine og_goto (pc' := 307) X17 hx (hb hby at_303) (by decide) (by decide) ?_
        obtain ⟨fs, hr, hrun, hended, hW, hsame⟩ := X17.leave (v := some (.int (1 : Int32))) (fun h => by rw [Bd.returns] at h; cases h) (BodyLoose.notSynchronized Bd)
        refine ⟨_, _, retN X17 hx (t := .boolean) Bd.returns (by simp) (hb hby at_307) hr, hrun, hended, some (.int (1 : Int32)), _, rfl, ?_, ⟨_, rfl⟩, hW, hsame.mono (by decide) (by decide)⟩
        show Q0 Z x0 x1 x2 x3 x4 h0 n0 _ T17.heap _
        exact ⟨rfl, N17⟩

set_option maxRecDepth 65536 in
set_option maxHeartbeats 40000000 in
theorem comes_1 {Post : Tables → Env → Array Value → State → Outcome → State → Prop} (hpost : ∀ tb e args s v u, (limb_1_1.after args s (.returned v) u = true ∧ limb_1_2.after args s (.returned v) u = true ∧ True) → FrameEnd s (.returned v) u (Jvm.fieldLocs frame_1_writes args s ++ Jvm.arrayLocs frame_1_arrays args s ++ Jvm.staticLocs frame_1_statics s) 16 128 → Post tb e args s (.returned v) u) :
    ArmFor flags0 classFile x code maxLocals ret World_1 tables_1 room_1 Calls_1 rest_1 Pre_1 Post := by
  intro l hfl _ _ p e ha hc hk s m args below hf hA hF happ hP
  obtain ⟨hcalls, hrest, hpre⟩ := hP
  obtain ⟨-, -, -, hnamed, -, -, -, hat⟩ := (Spec.applies_iff hf).mp happ
  obtain ⟨hg, hn⟩ := and_e (Cond.before_iff.mp (show (Jvm.Cond.and given_1 narrow_1).before args s = true from hpre))
  obtain ⟨hcnt, hg0⟩ := and_e hg
  obtain ⟨a0, hg1⟩ := and_e hg0
  obtain ⟨a1, hg2⟩ := and_e hg1
  obtain ⟨a2, hg3⟩ := and_e hg2
  obtain ⟨a3, hg4⟩ := and_e hg3
  obtain ⟨w0, w1, w2, w3, w4, rfl⟩ : ∃ w0 w1 w2 w3 w4 : Value, args = #[w0, w1, w2, w3, w4] := by
    have hs : args.size = 5 := by simpa [Cond.value, given_1] using hcnt
    obtain ⟨L⟩ := args
    match L, hs with
    | [w0, w1, w2, w3, w4], _ => exact ⟨w0, w1, w2, w3, w4, rfl⟩
  have hw := fun d (hd : d ∈ tables_1) => atoms_spec (ws := Jvm.Cond.code x code maxLocals ret :: tables_1) hat d (List.mem_cons_of_mem _ hd)
  have hfit : Fit s := fun {y c} hc i hi => by
    obtain ⟨ha, rfl⟩ := Array.getElem?_eq_some_iff.mp hc
    have q := List.all_eq_true.mp ((Array.all_eq_true_iff_forall_mem.mp hF) _ (Array.getElem_mem ha)) i (List.mem_range.mpr hi)
    simpa [Array.getElem?_eq_getElem hi] using q
  obtain ⟨i0, ei0⟩ := isL_v a0
  obtain rfl : w0 = (.long i0) := Option.some.inj ei0
  obtain ⟨i1, ei1⟩ := is_v a1
  obtain rfl : w1 = (.int i1) := Option.some.inj ei1
  obtain ⟨i2, ei2⟩ := is_v a2
  obtain rfl : w2 = (.int i2) := Option.some.inj ei2
  obtain ⟨i3, ei3⟩ := is_v a3
  obtain rfl : w3 = (.int i3) := Option.some.inj ei3
  obtain ⟨i4, ei4⟩ := is_v hg4
  obtain rfl : w4 = (.int i4) := Option.some.inj ei4
  obtain ⟨n, o, h1, h2, h3, _, L, rfl, ⟨rfl, N⟩, hq⟩ := rm0 l s _ hw tables_1 i0 i1 i2 i3 i4  s.heap s.heap.size (Nat.le_refl _)  p e ha hc hk s m _ below hf ((Spec.applies_iff_loose hf).mp happ).1 ⟨rfl, State.Warmed39.refl s, rfl⟩ trivial
  refine ⟨n, _, h1, h2, h3, hpost _ _ _ _ _ _ ⟨Cond.after_iff.mpr rfl, Cond.after_iff.mpr (eq_i res_at (Term.int_eval (1)) rfl), trivial⟩ ⟨hq.1, hq.2.1, (hq.2.2.sift fun y hy => Or.inr (N y hy)).mono (by decide) (by decide)⟩⟩
theorem main_1_1 : Claimed_1_1 := comes_1 fun _ _ _ _ _ _ h hF => ⟨h.1, hF⟩
theorem main_1_2 : Claimed_1_2 := comes_1 fun _ _ _ _ _ _ h hF => ⟨h.2.1, hF⟩

end Jvm.Pilot.@@N@@
namespace Jvm.Pilot.@@N@@
open Jvm Jvm.ClassFile Sem Op Lib Jvm.Free Jvm.Stand Jvm.Pilot.@@N@@.Jvm.D
/-! MADE BY PROGRAM (witnessworld.py) out of the Statement's table words and the real class files: 9 classes; the members and pool entries that the words name. The judged class is class 1, her method 1. -/
namespace start1
open Jvm.ClassFile
def u (s : String) : CpInfo := .utf8 (stringToUtf16 s)
/-- a pool by its gaps: so many unusable entries, then the entry; so many at the end -/
def gap : Nat → List CpInfo → List CpInfo
  | 0, r => r
  | n + 1, r => .unusable :: gap n r
def poolList (es : List (Nat × CpInfo)) (last : Nat) : List CpInfo := es.foldr (fun e r => gap e.1 (e.2 :: r)) (gap last [])
def pool (es : List (Nat × CpInfo)) (last : Nat) : Array CpInfo := ⟨poolList es last⟩
def fileOf (pool : Array CpInfo) (this : Nat) (attrs : Array Attribute := #[]) (ms : Array MethodInfo := #[]) (fl : Nat := 33) (sup : Nat := 0) (ifs : Array Nat := #[]) (fds : Array FieldInfo := #[]) : ClassFile where
  minorVersion := 0
  majorVersion := 65
  constantPool := pool
  accessFlags := fl
  thisClass := this
  superClass := sup
  interfaces := ifs
  fields := fds
  methods := ms
  attributes := attrs
def plain (name : String) (sup : Option ClassId) : Class where
  name := name
  kind := .ordinary
  loader := none
  accessFlags := 33
  super := sup
  interfaces := #[]
  cf := none
  fields := #[]
  methods := #[]
  instanceTypes := #[]
  staticTypes := #[]
  resolved := #[]
  callSites := []
  init := .initialized
  statics := none
  mirror := none

def pool0 : Array CpInfo := pool [(5, u "<init>"), (0, u "()V"), (1, .class_ 10), (1, u "java/lang/Object")] 113

def k0c0 : Code := { maxStack := 0, maxLocals := 1, code := object_method_1_code, exceptionTable := #[], attributes := #[] }
def k0m0 : Method := { name := "<init>", desc := "()V", sig := { parameters := [], returnType := none }, accessFlags := 1, code := some k0c0 }
/-- java/lang/Object -/
def k0 : Class := { plain "java/lang/Object" none with
  accessFlags := 33
  interfaces := #[]
  cf := some (fileOf pool0 8 #[] #[{ accessFlags := 1, nameIndex := 5, descriptorIndex := 6, attributes := #[] }] 33 0 #[] #[])
  fields := #[]
  methods := #[k0m0]
  instanceTypes := #[]
  staticTypes := #[]
  resolved := Array.replicate 124 none
  statics := none }

def pool1 : Array CpInfo := pool [(2, .class_ 4), (1, u "java/lang/Object"), (0, u "<init>"), (0, u "()V"), (0, .integer 2147483647), (0, .methodref 9 10), (0, .class_ 11), (0, .nameAndType 12 13), (0, u "com/example/skorr/skorr/index/VarintReaderReadPinLaw"), (0, u "put"), (0, u "([BIJII)V"), (0, .class_ 15), (0, u "com/example/skorr/skorr/index/VarintReader"), (0, .methodref 14 17), (0, .nameAndType 5 18), (0, u "([BII)V"), (0, .methodref 14 20), (0, .nameAndType 21 22), (0, u "read"), (0, u "()J"), (0, .long 18446744073709551615), (1, .long 127), (3, u "law"), (0, u "(JIIII)Z")] 5

def k1m0 : Method := { name := "<init>", desc := "()V", sig := { parameters := [], returnType := none }, accessFlags := 1, code := none }
def k1c1 : Code := { maxStack := 6, maxLocals := 20, code := code, exceptionTable := #[], attributes := #[] }
def k1m1 : Method := { name := "law", desc := "(JIIII)Z", sig := { parameters := [.long, .int, .int, .int, .int], returnType := some .boolean }, accessFlags := 9, code := some k1c1 }
def k1c2 : Code := { maxStack := 4, maxLocals := 7, code := method_3_code, exceptionTable := #[], attributes := #[] }
def k1m2 : Method := { name := "put", desc := "([BIJII)V", sig := { parameters := [(.array .byte), .int, .long, .int, .int], returnType := none }, accessFlags := 10, code := some k1c2 }
/-- com/example/skorr/skorr/index/VarintReaderReadPinLaw -/
def k1 : Class := { plain "com/example/skorr/skorr/index/VarintReaderReadPinLaw" (some 0) with
  accessFlags := 49
  interfaces := #[]
  cf := some (fileOf pool1 9 #[] #[{ accessFlags := 1, nameIndex := 5, descriptorIndex := 6, attributes := #[] }, { accessFlags := 9, nameIndex := 29, descriptorIndex := 30, attributes := #[] }, { accessFlags := 10, nameIndex := 12, descriptorIndex := 13, attributes := #[] }] 49 2 #[] #[])
  fields := #[]
  methods := #[k1m0, k1m1, k1m2]
  instanceTypes := #[]
  staticTypes := #[]
  resolved := Array.replicate 36 none
  statics := none }

def pool2 : Array CpInfo := pool [(1, .methodref 2 3), (0, .class_ 4), (0, .nameAndType 5 6), (0, u "java/lang/Object"), (0, u "<init>"), (0, u "()V"), (0, .methodref 8 9), (0, .class_ 10), (0, .nameAndType 11 12), (0, u "com/example/skorr/skorr/index/VarintReader"), (0, u "reset"), (0, u "([BII)V"), (0, .fieldref 8 14), (0, .nameAndType 15 16), (0, u "bytes"), (0, u "[B"), (0, .fieldref 8 18), (0, .nameAndType 19 20), (0, u "at"), (0, u "I"), (0, .fieldref 8 22), (0, .nameAndType 23 20), (0, u "end"), (0, .long 18446744073709551615), (6, u "read"), (0, u "()J")] 2

def k2c0 : Code := { maxStack := 4, maxLocals := 4, code := prog_30_method_1_code, exceptionTable := #[], attributes := #[] }
def k2m0 : Method := { name := "<init>", desc := "([BII)V", sig := { parameters := [(.array .byte), .int, .int], returnType := none }, accessFlags := 0, code := some k2c0 }
def k2c1 : Code := { maxStack := 2, maxLocals := 4, code := prog_30_method_2_code, exceptionTable := #[], attributes := #[] }
def k2m1 : Method := { name := "reset", desc := "([BII)V", sig := { parameters := [(.array .byte), .int, .int], returnType := none }, accessFlags := 0, code := some k2c1 }
def k2c2 : Code := { maxStack := 5, maxLocals := 5, code := prog_30_method_4_code, exceptionTable := #[], attributes := #[] }
def k2m2 : Method := { name := "read", desc := "()J", sig := { parameters := [], returnType := some .long }, accessFlags := 0, code := some k2c2 }
/-- com/example/skorr/skorr/index/VarintReader -/
def k2 : Class := { plain "com/example/skorr/skorr/index/VarintReader" (some 0) with
  accessFlags := 32
  interfaces := #[]
  cf := some (fileOf pool2 8 #[] #[{ accessFlags := 0, nameIndex := 5, descriptorIndex := 12, attributes := #[] }, { accessFlags := 0, nameIndex := 11, descriptorIndex := 12, attributes := #[] }, { accessFlags := 0, nameIndex := 31, descriptorIndex := 32, attributes := #[] }] 32 2 #[] #[{ accessFlags := 2, nameIndex := 15, descriptorIndex := 16, attributes := #[] }, { accessFlags := 2, nameIndex := 19, descriptorIndex := 20, attributes := #[] }, { accessFlags := 2, nameIndex := 23, descriptorIndex := 20, attributes := #[] }])
  fields := #[{ name := "bytes", type := (.array .byte), accessFlags := 2, slot := 0, constantValue := 0 }, { name := "at", type := .int, accessFlags := 2, slot := 1, constantValue := 0 }, { name := "end", type := .int, accessFlags := 2, slot := 2, constantValue := 0 }]
  methods := #[k2m0, k2m1, k2m2]
  instanceTypes := #[(.array .byte), .int, .int]
  staticTypes := #[]
  resolved := Array.replicate 35 none
  statics := none }

def pool3 : Array CpInfo := pool [(1, u "java/lang/Cloneable"), (0, .class_ 1), (0, u "java/lang/Object"), (0, .class_ 3)] 3

/-- java/lang/Cloneable -/
def k3 : Class := { plain "java/lang/Cloneable" (some 0) with
  accessFlags := 1537
  interfaces := #[]
  cf := some (fileOf pool3 2 #[] #[] 1537 4 #[] #[])
  fields := #[]
  methods := #[]
  instanceTypes := #[]
  staticTypes := #[]
  resolved := Array.replicate 8 none
  statics := none }

def pool4 : Array CpInfo := pool [(1, u "java/io/Serializable"), (0, .class_ 1), (0, u "java/lang/Object"), (0, .class_ 3)] 3

/-- java/io/Serializable -/
def k4 : Class := { plain "java/io/Serializable" (some 0) with
  accessFlags := 1537
  interfaces := #[]
  cf := some (fileOf pool4 2 #[] #[] 1537 4 #[] #[])
  fields := #[]
  methods := #[]
  instanceTypes := #[]
  staticTypes := #[]
  resolved := Array.replicate 8 none
  statics := none }

/-- the primitive byte -/
def k5 : Class := { plain "byte" none with kind := .primitive 'B', accessFlags := 0x411 }
/-- [B -/
def k6 : Class := { plain "[B" (some 0) with kind := .array 5 .byte, interfaces := #[3, 4], accessFlags := 1041 }

/-- the primitive int -/
def k7 : Class := { plain "int" none with kind := .primitive 'I', accessFlags := 0x411 }
/-- [I -/
def k8 : Class := { plain "[I" (some 0) with kind := .array 7 .int, interfaces := #[3, 4], accessFlags := 1041 }

def heap : Heap := #[]
def classes : Array Class := #[k0, k1, k2, k3, k4, k5, k6, k7, k8]
def interned : List (Array UInt16 × Addr) := []
def slotsUsed : Nat := 0
def theMethod : MethodId := ⟨1, 1⟩
def args0 : Array Value := #[.long 5, .int 6, .int 7, .int 8, .int 9]
def aboutOver (below : List Frame) : State where
  vm := { classes := classes, interned := interned.toArray }
  heap := heap
  slotsUsed := slotsUsed
  threads := #[{ frames := .invoking theMethod args0 :: below }]
def below0 : List Frame := [.native { method := ⟨0, 0⟩, args := #[] }]
def about1 : State := aboutOver below0
def p0 : Program := .bare "" "" ""
def e0 : Env := launch0.env 0 0 0
theorem w_frames : about1.frames = Frame.invoking theMethod args0 :: below0 := rfl
set_option maxRecDepth 65536 in
theorem w_args : argsFit about1.vm theMethod args0 = true := by decide +kernel
set_option maxRecDepth 65536 in
theorem w_heap : heapFits about1 = true := by decide +kernel
set_option maxRecDepth 65536 in
theorem w_runnable : about1.curStatus? = some .runnable := by decide +kernel
set_option maxRecDepth 65536 in
theorem w_alone : about1.alone = true := by decide +kernel
set_option maxRecDepth 65536 in
theorem w_named : about1.methodNamed? x = some theMethod := by decide +kernel
set_option maxRecDepth 65536 in
theorem w_hears : about1.hears theMethod below0 = true := by decide +kernel
set_option maxRecDepth 65536 in
theorem w_ripe : about1.ripe theMethod args0 below0 = true := by decide +kernel
theorem w_running : about1.status = .running := rfl
set_option maxRecDepth 65536 in
theorem w_room : about1.hasRoom e0.platform room_1 = true :=
  launch0.hasRoom_least _ room_1 (by decide +kernel) (by decide +kernel) (by decide +kernel) (by decide +kernel) (by decide +kernel) (by decide +kernel)
theorem allAtoms_all (ts : List Jvm.Cond) (a : Array Jvm.Value) (st : Jvm.State) : (allAtoms ts).before a st = ts.all (fun c => c.before a st) := by
  induction ts with
  | nil => rfl
  | cons c t ih =>
    show (Jvm.Cond.and c (allAtoms t)).before a st = _
    rw [Jvm.Cond.before_and, ih, List.all_cons]
def words1 : List Jvm.Cond := Jvm.Cond.code x code maxLocals ret :: tables_1
/-- a 'code' word, met by the world's own term for the bytes: nothing is compared byte by byte -/
theorem code_word {y : MethodName} {bytes : ByteArray} {mx : Nat} {rt : Option FieldType} {a : Array Value} {s : State} {m : MethodId} {meth : Method} {c : Code} (h1 : s.methodNamed? y = some m) (h2 : s.vm.method? m = some meth) (h3 : meth.code = some c) (h4 : c.code = bytes)
    (h5 : (c.maxLocals == mx && c.exceptionTable.isEmpty && decide (c.maxStack ≤ mostOperands) && decide (meth.sig.returnType = rt) && !meth.locks && decide (parseMethodDescriptor y.desc = some meth.sig)) = true) : (Jvm.Cond.code y bytes mx rt).before a s = true := by
  simp only [Bool.and_eq_true, beq_iff_eq, Bool.not_eq_true', decide_eq_true_eq] at h5
  obtain ⟨⟨⟨⟨⟨g1, g2⟩, g3⟩, g4⟩, g5⟩, g6⟩ := h5
  simp [Cond.before, Cond.holds, Cond.value, h1, h2, h3, h4, g1, g2, g3, g4, g5, g6]
def isCode : Jvm.Cond → Bool
  | .code _ _ _ _ => true
  | _ => false
theorem all_split {L : List Jvm.Cond} {P : Jvm.Cond → Bool} (h1 : L.all (fun c => isCode c || P c) = true) (h2 : ∀ c ∈ L.filter isCode, P c = true) : L.all P = true := by
  refine List.all_eq_true.mpr fun c hc => ?_
  have h := List.all_eq_true.mp h1 c hc
  rcases Bool.eq_false_or_eq_true (isCode c) with hi | hi
  · exact h2 c (List.mem_filter.mpr ⟨hc, hi⟩)
  · simpa [hi] using h
set_option maxRecDepth 65536 in
theorem w_c0 : (Jvm.Cond.code x code maxLocals ret).before args0 about1 = true := code_word (m := ⟨1, 1⟩) (meth := k1m1) (c := k1c1) (by decide +kernel) rfl rfl rfl (by decide +kernel)
set_option maxRecDepth 65536 in
theorem w_c1 : (Jvm.Cond.code ({ cls := "com/example/skorr/skorr/index/VarintReaderReadPinLaw", name := "put", desc := "([BIJII)V" } : Jvm.MethodName) method_3_code (7 : Nat) (Option.none : Option Jvm.ClassFile.FieldType)).before args0 about1 = true := code_word (m := ⟨1, 2⟩) (meth := k1m2) (c := k1c2) (by decide +kernel) rfl rfl rfl (by decide +kernel)
set_option maxRecDepth 65536 in
theorem w_c2 : (Jvm.Cond.code ({ cls := "com/example/skorr/skorr/index/VarintReader", name := "<init>", desc := "([BII)V" } : Jvm.MethodName) prog_30_method_1_code (4 : Nat) (Option.none : Option Jvm.ClassFile.FieldType)).before args0 about1 = true := code_word (m := ⟨2, 0⟩) (meth := k2m0) (c := k2c0) (by decide +kernel) rfl rfl rfl (by decide +kernel)
set_option maxRecDepth 65536 in
theorem w_c3 : (Jvm.Cond.code ({ cls := "java/lang/Object", name := "<init>", desc := "()V" } : Jvm.MethodName) object_method_1_code (1 : Nat) (Option.none : Option Jvm.ClassFile.FieldType)).before args0 about1 = true := code_word (m := ⟨0, 0⟩) (meth := k0m0) (c := k0c0) (by decide +kernel) rfl rfl rfl (by decide +kernel)
set_option maxRecDepth 65536 in
theorem w_c4 : (Jvm.Cond.code ({ cls := "com/example/skorr/skorr/index/VarintReader", name := "reset", desc := "([BII)V" } : Jvm.MethodName) prog_30_method_2_code (4 : Nat) (Option.none : Option Jvm.ClassFile.FieldType)).before args0 about1 = true := code_word (m := ⟨2, 1⟩) (meth := k2m1) (c := k2c1) (by decide +kernel) rfl rfl rfl (by decide +kernel)
set_option maxRecDepth 65536 in
theorem w_c5 : (Jvm.Cond.code ({ cls := "com/example/skorr/skorr/index/VarintReader", name := "read", desc := "()J" } : Jvm.MethodName) prog_30_method_4_code (5 : Nat) (Option.some Jvm.ClassFile.FieldType.long)).before args0 about1 = true := code_word (m := ⟨2, 2⟩) (meth := k2m2) (c := k2c2) (by decide +kernel) rfl rfl rfl (by decide +kernel)
def codes1 : List Jvm.Cond := [Jvm.Cond.code x code maxLocals ret, Jvm.Cond.code ({ cls := "com/example/skorr/skorr/index/VarintReaderReadPinLaw", name := "put", desc := "([BIJII)V" } : Jvm.MethodName) method_3_code (7 : Nat) (Option.none : Option Jvm.ClassFile.FieldType), Jvm.Cond.code ({ cls := "com/example/skorr/skorr/index/VarintReader", name := "<init>", desc := "([BII)V" } : Jvm.MethodName) prog_30_method_1_code (4 : Nat) (Option.none : Option Jvm.ClassFile.FieldType), Jvm.Cond.code ({ cls := "java/lang/Object", name := "<init>", desc := "()V" } : Jvm.MethodName) object_method_1_code (1 : Nat) (Option.none : Option Jvm.ClassFile.FieldType), Jvm.Cond.code ({ cls := "com/example/skorr/skorr/index/VarintReader", name := "reset", desc := "([BII)V" } : Jvm.MethodName) prog_30_method_2_code (4 : Nat) (Option.none : Option Jvm.ClassFile.FieldType), Jvm.Cond.code ({ cls := "com/example/skorr/skorr/index/VarintReader", name := "read", desc := "()J" } : Jvm.MethodName) prog_30_method_4_code (5 : Nat) (Option.some Jvm.ClassFile.FieldType.long)]
set_option maxRecDepth 65536 in
theorem codes_eq : words1.filter isCode = codes1 := rfl
theorem w_codes : ∀ c ∈ words1.filter isCode, c.before args0 about1 = true := by
  rw [codes_eq]
  intro c hc
  simp only [codes1, List.mem_cons, List.not_mem_nil, or_false] at hc
  rcases hc with rfl | rfl | rfl | rfl | rfl | rfl
  · exact w_c0
  · exact w_c1
  · exact w_c2
  · exact w_c3
  · exact w_c4
  · exact w_c5
set_option maxRecDepth 65536 in
theorem w_t1 : (words1.take 24).all (fun c => isCode c || c.before args0 about1) = true := by decide +kernel
set_option maxRecDepth 65536 in
theorem w_t2 : (words1.drop 24).all (fun c => isCode c || c.before args0 about1) = true := by decide +kernel
theorem w_tables : (allAtoms (Jvm.Cond.code x code maxLocals ret :: tables_1)).before args0 about1 = true := by
  rw [allAtoms_all]
  show words1.all (fun c => c.before args0 about1) = true
  refine all_split ?_ w_codes
  rw [← List.take_append_drop 24 words1, List.all_append, w_t1, w_t2]
  rfl
set_option maxRecDepth 65536 in
theorem w_case : (Jvm.Cond.and given_1 narrow_1).before args0 about1 = true := by decide +kernel
theorem w_applies : (headSpec (Jvm.Cond.code x code maxLocals ret :: tables_1) room_1).applies x e0.platform about1 = true :=
  (Spec.applies_iff w_frames).mpr ⟨w_running, w_runnable, w_alone, w_named, w_hears, w_ripe, w_room, w_tables⟩
theorem atStart : AtStart classFile x code maxLocals ret World_1 tables_1 room_1 Calls_1 rest_1 Pre_1 launch0 p0 e0 about1 theMethod args0 below0 :=
  ⟨lists_1, trivial, launch0.admits_env _ _ _, launch0.least_env, fairChoices_fair.cas, fairChoices_fair.clock, w_frames, w_args, w_heap, w_applies, trivial, trivial, w_case⟩
end start1
theorem witness_1 : WitnessClaimed_1 := ⟨start1.p0, start1.e0, start1.about1, start1.theMethod, start1.args0, start1.below0, start1.atStart⟩
end Jvm.Pilot.@@N@@
