import JvmDerived
import JvmDerived.Pilot.@@N@@Statement
import JvmDerived.Pilot.@@N@@Code
set_option linter.unusedVariables false
set_option linter.unusedSimpArgs false

namespace Jvm.RoadKit
open Sem ClassFile Op Lib Jvm.Stand Jvm.Free Jvm.LawKit
section New
variable {p : Program} {l : Launch} {e : Env} {R : Room} {s : State} {m : MethodId} {args : Array Value} {below : List Frame} {meth : Method} {c : Code} {T : State} {locs : List Loc} {cells slots : Nat}
theorem retI (X : Stand p l e R s m args below meth c T locs cells slots) (hx : p.tables.exec = Jvm.exec) {pc : Nat} {Ls : Array Slot} {z : Int32} {rest : List Value} (hret : meth.sig.returnType = some .int) (hd : decode c.code pc = .ok (.ireturn, 1)) {fs : List Frame}
    (hl : ∀ (f : JFrame) (acts : List Action), f.method = m → f.locked = none → f.entered = [] → (doReturn e (T.setTop f) acts (some (.int z))).1 = T.setFrames fs) : Steps p.tables e below (T.setTop (mkF m pc Ls (.int z :: rest))) (T.setFrames fs) := by
  have hm' : T.vm.method? m = some meth := X.method'
  have hn : narrow .int (.int z) = .int z := rfl
  show Steps p.tables e below (T.setTop { method := m, pc := pc, locals := Ls, stack := _ :: rest, locked := none }) _
  jvm_step X.here [X.here.top, hx, hd, hm', hret, hn]
  first | (intro acts; rw [hl _ acts rfl rfl rfl]) | rw [hl _ _ rfl rfl rfl]
  exact Steps.refl _
theorem retL (X : Stand p l e R s m args below meth c T locs cells slots) (hx : p.tables.exec = Jvm.exec) {pc : Nat} {Ls : Array Slot} {z : Int64} {rest : List Value} (hret : meth.sig.returnType = some .long) (hd : decode c.code pc = .ok (.lreturn, 1)) {fs : List Frame}
    (hl : ∀ (f : JFrame) (acts : List Action), f.method = m → f.locked = none → f.entered = [] → (doReturn e (T.setTop f) acts (some (.long z))).1 = T.setFrames fs) : Steps p.tables e below (T.setTop (mkF m pc Ls (.long z :: rest))) (T.setFrames fs) := by
  have hm' : T.vm.method? m = some meth := X.method'
  have hn : narrow .long (.long z) = .long z := rfl
  show Steps p.tables e below (T.setTop { method := m, pc := pc, locals := Ls, stack := _ :: rest, locked := none }) _
  jvm_step X.here [X.here.top, hx, hd, hm', hret, hn]
  first | (intro acts; rw [hl _ acts rfl rfl rfl]) | rw [hl _ _ rfl rfl rfl]
  exact Steps.refl _
end New
end Jvm.RoadKit
namespace Jvm.Pilot.@@N@@
open Jvm Jvm.ClassFile Sem Op Lib Jvm.Free Jvm.Stand Jvm.LawKit Jvm.RoadKit Bundle Jvm.Pilot.@@N@@.Jvm.D
/-- from here the run comes to an end of which W holds -/
def own_Go (p : Program) (e : Env) (below : List Frame) (W : State → Outcome → Prop) (T : State) (g : JFrame) : Prop :=
  ∃ s₂ o, Steps p.tables e below (T.setTop g) s₂ ∧ s₂.status = .running ∧ Ended s₂ below o ∧ W s₂ o
theorem own_Go.of {p : Program} {e : Env} {below : List Frame} {W : State → Outcome → Prop} {T T' : State} {g g' : JFrame} (f : ∀ t, Steps p.tables e below (T'.setTop g') t → Steps p.tables e below (T.setTop g) t) (k : own_Go p e below W T' g') : own_Go p e below W T g := by
  obtain ⟨s₂, o, h1, h2⟩ := k
  exact ⟨s₂, o, f _ h1, h2⟩
theorem own_hide {p : Program} {l : Launch} {e : Env} {R : Room} {s : State} {m : MethodId} {args : Array Value} {below : List Frame} {meth : Method} {c : Code} {T : State} {locs : List Loc} {cells slots : Nat} (X : Stand p l e R s m args below meth c T locs cells slots) {k : Nat} (N : Fr k locs) : ∃ L, Stand p l e R s m args below meth c T L cells slots ∧ Fr k L := ⟨_, X, N⟩
theorem own_via {G A : Prop} (h1 : A → G) (h2 : A) : G := h1 h2
section OwnSteps
variable {p : Program} {l : Launch} {e : Env} {R : Room} {s : State} {m : MethodId} {args : Array Value} {below : List Frame} {meth : Method} {c : Code} {T : State} {locs : List Loc} {cells slots : Nat} {W : State → Outcome → Prop} {pc pc' : Nat} {L : Array Slot} {S : List Value}
theorem og_iloadN (X : Stand p l e R s m args below meth c T locs cells slots) (hx : p.tables.exec = Jvm.exec) {k : Fin 4} {v : Int32} (hd : decode c.code pc = .ok (.iload_n k, 1)) (hl : L[k.val]? = some (.val (.int v))) (hp : pc + 1 = pc') (h : own_Go p e below W T (mkF m pc' L ((.int v) :: S))) : own_Go p e below W T (mkF m pc L S) := by
  subst hp; exact own_Go.of (fun t q => XS.iloadN X.here hx rfl hd hl q) h
theorem og_iload (X : Stand p l e R s m args below meth c T locs cells slots) (hx : p.tables.exec = Jvm.exec) {k : Nat} {v : Int32} (hd : decode c.code pc = .ok (.iload k, 2)) (hl : L[k]? = some (.val (.int v))) (hp : pc + 2 = pc') (h : own_Go p e below W T (mkF m pc' L ((.int v) :: S))) : own_Go p e below W T (mkF m pc L S) := by
  subst hp; exact own_Go.of (fun t q => XS.iload X.here hx rfl hd hl q) h
theorem og_istoreN (X : Stand p l e R s m args below meth c T locs cells slots) (hx : p.tables.exec = Jvm.exec) {k : Fin 4} {v : Int32} {L' : Array Slot} (hd : decode c.code pc = .ok (.istore_n k, 1)) (hl : storeLocals L k.val (.int v) = some L') (hp : pc + 1 = pc') (h : own_Go p e below W T (mkF m pc' L' S)) : own_Go p e below W T (mkF m pc L ((.int v) :: S)) := by
  subst hp; exact own_Go.of (fun t q => XS.istoreN X.here hx rfl hd rfl hl q) h
theorem og_istore (X : Stand p l e R s m args below meth c T locs cells slots) (hx : p.tables.exec = Jvm.exec) {k : Nat} {v : Int32} {L' : Array Slot} (hd : decode c.code pc = .ok (.istore k, 2)) (hl : storeLocals L k (.int v) = some L') (hp : pc + 2 = pc') (h : own_Go p e below W T (mkF m pc' L' S)) : own_Go p e below W T (mkF m pc L ((.int v) :: S)) := by
  subst hp; exact own_Go.of (fun t q => XS.istore X.here hx rfl hd rfl hl q) h
theorem og_lloadN (X : Stand p l e R s m args below meth c T locs cells slots) (hx : p.tables.exec = Jvm.exec) {k : Fin 4} {v : Int64} (hd : decode c.code pc = .ok (.lload_n k, 1)) (hl : L[k.val]? = some (.val (.long v))) (hp : pc + 1 = pc') (h : own_Go p e below W T (mkF m pc' L ((.long v) :: S))) : own_Go p e below W T (mkF m pc L S) := by
  subst hp; exact own_Go.of (fun t q => XS.lloadN X.here hx rfl hd hl q) h
theorem og_lload (X : Stand p l e R s m args below meth c T locs cells slots) (hx : p.tables.exec = Jvm.exec) {k : Nat} {v : Int64} (hd : decode c.code pc = .ok (.lload k, 2)) (hl : L[k]? = some (.val (.long v))) (hp : pc + 2 = pc') (h : own_Go p e below W T (mkF m pc' L ((.long v) :: S))) : own_Go p e below W T (mkF m pc L S) := by
  subst hp; exact own_Go.of (fun t q => XS.lload X.here hx rfl hd hl q) h
theorem og_lstoreN (X : Stand p l e R s m args below meth c T locs cells slots) (hx : p.tables.exec = Jvm.exec) {k : Fin 4} {v : Int64} {L' : Array Slot} (hd : decode c.code pc = .ok (.lstore_n k, 1)) (hl : storeLocals L k.val (.long v) = some L') (hp : pc + 1 = pc') (h : own_Go p e below W T (mkF m pc' L' S)) : own_Go p e below W T (mkF m pc L ((.long v) :: S)) := by
  subst hp; exact own_Go.of (fun t q => XS.lstoreN X.here hx rfl hd rfl hl q) h
theorem og_lstore (X : Stand p l e R s m args below meth c T locs cells slots) (hx : p.tables.exec = Jvm.exec) {k : Nat} {v : Int64} {L' : Array Slot} (hd : decode c.code pc = .ok (.lstore k, 2)) (hl : storeLocals L k (.long v) = some L') (hp : pc + 2 = pc') (h : own_Go p e below W T (mkF m pc' L' S)) : own_Go p e below W T (mkF m pc L ((.long v) :: S)) := by
  subst hp; exact own_Go.of (fun t q => XS.lstore X.here hx rfl hd rfl hl q) h
theorem og_aloadN (X : Stand p l e R s m args below meth c T locs cells slots) (hx : p.tables.exec = Jvm.exec) {k : Fin 4} {v : Value} (hd : decode c.code pc = .ok (.aload_n k, 1)) (hl : L[k.val]? = some (.val v)) (hv : v.isRef = true) (hp : pc + 1 = pc') (h : own_Go p e below W T (mkF m pc' L (v :: S))) : own_Go p e below W T (mkF m pc L S) := by
  subst hp; exact own_Go.of (fun t q => XS.aloadN X.here hx rfl hd hl hv q) h
theorem og_aload (X : Stand p l e R s m args below meth c T locs cells slots) (hx : p.tables.exec = Jvm.exec) {k : Nat} {v : Value} (hd : decode c.code pc = .ok (.aload k, 2)) (hl : L[k]? = some (.val v)) (hv : v.isRef = true) (hp : pc + 2 = pc') (h : own_Go p e below W T (mkF m pc' L (v :: S))) : own_Go p e below W T (mkF m pc L S) := by
  subst hp; exact own_Go.of (fun t q => XS.aload X.here hx rfl hd hl hv q) h
theorem og_astoreN (X : Stand p l e R s m args below meth c T locs cells slots) (hx : p.tables.exec = Jvm.exec) {k : Fin 4} {v : Value} {L' : Array Slot} (hd : decode c.code pc = .ok (.astore_n k, 1)) (hv : v.isRef = true) (hl : storeLocals L k.val v = some L') (hp : pc + 1 = pc') (h : own_Go p e below W T (mkF m pc' L' S)) : own_Go p e below W T (mkF m pc L (v :: S)) := by
  subst hp; exact own_Go.of (fun t q => XS.astoreN X.here hx rfl hd rfl hv hl q) h
theorem og_astore (X : Stand p l e R s m args below meth c T locs cells slots) (hx : p.tables.exec = Jvm.exec) {k : Nat} {v : Value} {L' : Array Slot} (hd : decode c.code pc = .ok (.astore k, 2)) (hv : v.isRef = true) (hl : storeLocals L k v = some L') (hp : pc + 2 = pc') (h : own_Go p e below W T (mkF m pc' L' S)) : own_Go p e below W T (mkF m pc L (v :: S)) := by
  subst hp; exact own_Go.of (fun t q => XS.astore X.here hx rfl hd rfl hv hl q) h
theorem og_iconst (X : Stand p l e R s m args below meth c T locs cells slots) (hx : p.tables.exec = Jvm.exec) {i : Int} {n : Int32} (hd : decode c.code pc = .ok (.iconst i, 1)) (hn : Int32.ofInt i = n) (hp : pc + 1 = pc') (h : own_Go p e below W T (mkF m pc' L (.int n :: S))) : own_Go p e below W T (mkF m pc L S) := by
  subst hp hn; exact own_Go.of (fun t q => XS.iconst X.here hx rfl hd q) h
theorem og_bipush (X : Stand p l e R s m args below meth c T locs cells slots) (hx : p.tables.exec = Jvm.exec) {i : Int} {n : Int32} (hd : decode c.code pc = .ok (.bipush i, 2)) (hn : (Int8.ofInt i).toInt32 = n) (hp : pc + 2 = pc') (h : own_Go p e below W T (mkF m pc' L (.int n :: S))) : own_Go p e below W T (mkF m pc L S) := by
  subst hp hn; exact own_Go.of (fun t q => XS.bipush X.here hx rfl hd q) h
theorem og_sipush (X : Stand p l e R s m args below meth c T locs cells slots) (hx : p.tables.exec = Jvm.exec) {i : Int} {n : Int32} (hd : decode c.code pc = .ok (.sipush i, 3)) (hn : (Int16.ofInt i).toInt32 = n) (hp : pc + 3 = pc') (h : own_Go p e below W T (mkF m pc' L (.int n :: S))) : own_Go p e below W T (mkF m pc L S) := by
  subst hp hn; exact own_Go.of (fun t q => XS.sipush X.here hx rfl hd q) h
theorem og_lconst0 (X : Stand p l e R s m args below meth c T locs cells slots) (hx : p.tables.exec = Jvm.exec) (hd : decode c.code pc = .ok (.lconst 0, 1)) (hp : pc + 1 = pc') (h : own_Go p e below W T (mkF m pc' L (.long (0 : Int64) :: S))) : own_Go p e below W T (mkF m pc L S) := by
  subst hp; exact own_Go.of (fun t q => XS.lconst X.here hx rfl hd q) h
theorem og_lconst1 (X : Stand p l e R s m args below meth c T locs cells slots) (hx : p.tables.exec = Jvm.exec) (hd : decode c.code pc = .ok (.lconst 1, 1)) (hp : pc + 1 = pc') (h : own_Go p e below W T (mkF m pc' L (.long (1 : Int64) :: S))) : own_Go p e below W T (mkF m pc L S) := by
  subst hp; exact own_Go.of (fun t q => XS.lconst X.here hx rfl hd q) h
theorem og_aconst_null (X : Stand p l e R s m args below meth c T locs cells slots) (hx : p.tables.exec = Jvm.exec)  (hd : decode c.code pc = .ok (.aconst_null, 1)) (hp : pc + 1 = pc') (h : own_Go p e below W T (mkF m pc' L (.null :: S))) : own_Go p e below W T (mkF m pc L S) := by
  subst hp; exact own_Go.of (fun t q => XS.aconstNull X.here hx rfl hd q) h
theorem og_iadd (X : Stand p l e R s m args below meth c T locs cells slots) (hx : p.tables.exec = Jvm.exec) {x y : Int32} (hd : decode c.code pc = .ok (.iadd, 1)) (hp : pc + 1 = pc') (h : own_Go p e below W T (mkF m pc' L (.int (x + y) :: S))) : own_Go p e below W T (mkF m pc L (.int y :: .int x :: S)) := by
  subst hp; exact own_Go.of (fun t q => XS.iadd X.here hx rfl hd rfl q) h
theorem og_ladd (X : Stand p l e R s m args below meth c T locs cells slots) (hx : p.tables.exec = Jvm.exec) {x y : Int64} (hd : decode c.code pc = .ok (.ladd, 1)) (hp : pc + 1 = pc') (h : own_Go p e below W T (mkF m pc' L (.long (x + y) :: S))) : own_Go p e below W T (mkF m pc L (.long y :: .long x :: S)) := by
  subst hp; exact own_Go.of (fun t q => XS.ladd X.here hx rfl hd rfl q) h
theorem og_isub (X : Stand p l e R s m args below meth c T locs cells slots) (hx : p.tables.exec = Jvm.exec) {x y : Int32} (hd : decode c.code pc = .ok (.isub, 1)) (hp : pc + 1 = pc') (h : own_Go p e below W T (mkF m pc' L (.int (x - y) :: S))) : own_Go p e below W T (mkF m pc L (.int y :: .int x :: S)) := by
  subst hp; exact own_Go.of (fun t q => XS.isub X.here hx rfl hd rfl q) h
theorem og_lsub (X : Stand p l e R s m args below meth c T locs cells slots) (hx : p.tables.exec = Jvm.exec) {x y : Int64} (hd : decode c.code pc = .ok (.lsub, 1)) (hp : pc + 1 = pc') (h : own_Go p e below W T (mkF m pc' L (.long (x - y) :: S))) : own_Go p e below W T (mkF m pc L (.long y :: .long x :: S)) := by
  subst hp; exact own_Go.of (fun t q => XS.lsub X.here hx rfl hd rfl q) h
theorem og_imul (X : Stand p l e R s m args below meth c T locs cells slots) (hx : p.tables.exec = Jvm.exec) {x y : Int32} (hd : decode c.code pc = .ok (.imul, 1)) (hp : pc + 1 = pc') (h : own_Go p e below W T (mkF m pc' L (.int (x * y) :: S))) : own_Go p e below W T (mkF m pc L (.int y :: .int x :: S)) := by
  subst hp; exact own_Go.of (fun t q => XS.imul X.here hx rfl hd rfl q) h
theorem og_lmul (X : Stand p l e R s m args below meth c T locs cells slots) (hx : p.tables.exec = Jvm.exec) {x y : Int64} (hd : decode c.code pc = .ok (.lmul, 1)) (hp : pc + 1 = pc') (h : own_Go p e below W T (mkF m pc' L (.long (x * y) :: S))) : own_Go p e below W T (mkF m pc L (.long y :: .long x :: S)) := by
  subst hp; exact own_Go.of (fun t q => XS.lmul X.here hx rfl hd rfl q) h
theorem og_iand (X : Stand p l e R s m args below meth c T locs cells slots) (hx : p.tables.exec = Jvm.exec) {x y : Int32} (hd : decode c.code pc = .ok (.iand, 1)) (hp : pc + 1 = pc') (h : own_Go p e below W T (mkF m pc' L (.int (x &&& y) :: S))) : own_Go p e below W T (mkF m pc L (.int y :: .int x :: S)) := by
  subst hp; exact own_Go.of (fun t q => XS.iand X.here hx rfl hd rfl q) h
theorem og_land (X : Stand p l e R s m args below meth c T locs cells slots) (hx : p.tables.exec = Jvm.exec) {x y : Int64} (hd : decode c.code pc = .ok (.land, 1)) (hp : pc + 1 = pc') (h : own_Go p e below W T (mkF m pc' L (.long (x &&& y) :: S))) : own_Go p e below W T (mkF m pc L (.long y :: .long x :: S)) := by
  subst hp; exact own_Go.of (fun t q => XS.land X.here hx rfl hd rfl q) h
theorem og_ior (X : Stand p l e R s m args below meth c T locs cells slots) (hx : p.tables.exec = Jvm.exec) {x y : Int32} (hd : decode c.code pc = .ok (.ior, 1)) (hp : pc + 1 = pc') (h : own_Go p e below W T (mkF m pc' L (.int (x ||| y) :: S))) : own_Go p e below W T (mkF m pc L (.int y :: .int x :: S)) := by
  subst hp; exact own_Go.of (fun t q => XS.ior X.here hx rfl hd rfl q) h
theorem og_lor (X : Stand p l e R s m args below meth c T locs cells slots) (hx : p.tables.exec = Jvm.exec) {x y : Int64} (hd : decode c.code pc = .ok (.lor, 1)) (hp : pc + 1 = pc') (h : own_Go p e below W T (mkF m pc' L (.long (x ||| y) :: S))) : own_Go p e below W T (mkF m pc L (.long y :: .long x :: S)) := by
  subst hp; exact own_Go.of (fun t q => XS.lor X.here hx rfl hd rfl q) h
theorem og_ixor (X : Stand p l e R s m args below meth c T locs cells slots) (hx : p.tables.exec = Jvm.exec) {x y : Int32} (hd : decode c.code pc = .ok (.ixor, 1)) (hp : pc + 1 = pc') (h : own_Go p e below W T (mkF m pc' L (.int (x ^^^ y) :: S))) : own_Go p e below W T (mkF m pc L (.int y :: .int x :: S)) := by
  subst hp; exact own_Go.of (fun t q => XS.ixor X.here hx rfl hd rfl q) h
theorem og_lxor (X : Stand p l e R s m args below meth c T locs cells slots) (hx : p.tables.exec = Jvm.exec) {x y : Int64} (hd : decode c.code pc = .ok (.lxor, 1)) (hp : pc + 1 = pc') (h : own_Go p e below W T (mkF m pc' L (.long (x ^^^ y) :: S))) : own_Go p e below W T (mkF m pc L (.long y :: .long x :: S)) := by
  subst hp; exact own_Go.of (fun t q => XS.lxor X.here hx rfl hd rfl q) h
theorem og_ineg (X : Stand p l e R s m args below meth c T locs cells slots) (hx : p.tables.exec = Jvm.exec) {x : Int32} (hd : decode c.code pc = .ok (.ineg, 1)) (hp : pc + 1 = pc') (h : own_Go p e below W T (mkF m pc' L (.int (-x) :: S))) : own_Go p e below W T (mkF m pc L (.int x :: S)) := by
  subst hp; exact own_Go.of (fun t q => XS.ineg X.here hx rfl hd rfl q) h
theorem og_lneg (X : Stand p l e R s m args below meth c T locs cells slots) (hx : p.tables.exec = Jvm.exec) {x : Int64} (hd : decode c.code pc = .ok (.lneg, 1)) (hp : pc + 1 = pc') (h : own_Go p e below W T (mkF m pc' L (.long (-x) :: S))) : own_Go p e below W T (mkF m pc L (.long x :: S)) := by
  subst hp; exact own_Go.of (fun t q => XS.lneg X.here hx rfl hd rfl q) h
theorem og_i2l (X : Stand p l e R s m args below meth c T locs cells slots) (hx : p.tables.exec = Jvm.exec) {x : Int32} (hd : decode c.code pc = .ok (.i2l, 1)) (hp : pc + 1 = pc') (h : own_Go p e below W T (mkF m pc' L (.long (x.toInt64) :: S))) : own_Go p e below W T (mkF m pc L (.int x :: S)) := by
  subst hp; exact own_Go.of (fun t q => XS.i2l X.here hx rfl hd rfl q) h
theorem og_l2i (X : Stand p l e R s m args below meth c T locs cells slots) (hx : p.tables.exec = Jvm.exec) {x : Int64} (hd : decode c.code pc = .ok (.l2i, 1)) (hp : pc + 1 = pc') (h : own_Go p e below W T (mkF m pc' L (.int (x.toInt32) :: S))) : own_Go p e below W T (mkF m pc L (.long x :: S)) := by
  subst hp; exact own_Go.of (fun t q => XS.l2i X.here hx rfl hd rfl q) h
theorem og_i2b (X : Stand p l e R s m args below meth c T locs cells slots) (hx : p.tables.exec = Jvm.exec) {x : Int32} (hd : decode c.code pc = .ok (.i2b, 1)) (hp : pc + 1 = pc') (h : own_Go p e below W T (mkF m pc' L (.int (x.toInt8.toInt32) :: S))) : own_Go p e below W T (mkF m pc L (.int x :: S)) := by
  subst hp; exact own_Go.of (fun t q => XS.i2b X.here hx rfl hd rfl q) h
theorem og_i2s (X : Stand p l e R s m args below meth c T locs cells slots) (hx : p.tables.exec = Jvm.exec) {x : Int32} (hd : decode c.code pc = .ok (.i2s, 1)) (hp : pc + 1 = pc') (h : own_Go p e below W T (mkF m pc' L (.int (x.toInt16.toInt32) :: S))) : own_Go p e below W T (mkF m pc L (.int x :: S)) := by
  subst hp; exact own_Go.of (fun t q => XS.i2s X.here hx rfl hd rfl q) h
theorem og_i2c (X : Stand p l e R s m args below meth c T locs cells slots) (hx : p.tables.exec = Jvm.exec) {x : Int32} (hd : decode c.code pc = .ok (.i2c, 1)) (hp : pc + 1 = pc') (h : own_Go p e below W T (mkF m pc' L (.int (x.toUInt32.toUInt16.toUInt32.toInt32) :: S))) : own_Go p e below W T (mkF m pc L (.int x :: S)) := by
  subst hp; exact own_Go.of (fun t q => XS.i2c X.here hx rfl hd rfl q) h
theorem og_ishl (X : Stand p l e R s m args below meth c T locs cells slots) (hx : p.tables.exec = Jvm.exec) {x : Int32} {y : Int32} (hd : decode c.code pc = .ok (.ishl, 1)) (hp : pc + 1 = pc') (h : own_Go p e below W T (mkF m pc' L (.int (x <<< (y &&& 31)) :: S))) : own_Go p e below W T (mkF m pc L (.int y :: .int x :: S)) := by
  subst hp; exact own_Go.of (fun t q => XS.ishl X.here hx rfl hd rfl q) h
theorem og_ishr (X : Stand p l e R s m args below meth c T locs cells slots) (hx : p.tables.exec = Jvm.exec) {x : Int32} {y : Int32} (hd : decode c.code pc = .ok (.ishr, 1)) (hp : pc + 1 = pc') (h : own_Go p e below W T (mkF m pc' L (.int (x >>> (y &&& 31)) :: S))) : own_Go p e below W T (mkF m pc L (.int y :: .int x :: S)) := by
  subst hp; exact own_Go.of (fun t q => XS.ishr X.here hx rfl hd rfl q) h
theorem og_iushr (X : Stand p l e R s m args below meth c T locs cells slots) (hx : p.tables.exec = Jvm.exec) {x : Int32} {y : Int32} (hd : decode c.code pc = .ok (.iushr, 1)) (hp : pc + 1 = pc') (h : own_Go p e below W T (mkF m pc' L (.int ((x.toUInt32 >>> (y &&& 31).toUInt32).toInt32) :: S))) : own_Go p e below W T (mkF m pc L (.int y :: .int x :: S)) := by
  subst hp; exact own_Go.of (fun t q => XS.iushr X.here hx rfl hd rfl q) h
theorem og_lshl (X : Stand p l e R s m args below meth c T locs cells slots) (hx : p.tables.exec = Jvm.exec) {x : Int64} {y : Int32} (hd : decode c.code pc = .ok (.lshl, 1)) (hp : pc + 1 = pc') (h : own_Go p e below W T (mkF m pc' L (.long (x <<< (y &&& 0x3f).toInt64) :: S))) : own_Go p e below W T (mkF m pc L (.int y :: .long x :: S)) := by
  subst hp; exact own_Go.of (fun t q => XS.lshl X.here hx rfl hd rfl q) h
theorem og_lshr (X : Stand p l e R s m args below meth c T locs cells slots) (hx : p.tables.exec = Jvm.exec) {x : Int64} {y : Int32} (hd : decode c.code pc = .ok (.lshr, 1)) (hp : pc + 1 = pc') (h : own_Go p e below W T (mkF m pc' L (.long (x >>> (y &&& 0x3f).toInt64) :: S))) : own_Go p e below W T (mkF m pc L (.int y :: .long x :: S)) := by
  subst hp; exact own_Go.of (fun t q => XS.lshr X.here hx rfl hd rfl q) h
theorem og_lushr (X : Stand p l e R s m args below meth c T locs cells slots) (hx : p.tables.exec = Jvm.exec) {x : Int64} {y : Int32} (hd : decode c.code pc = .ok (.lushr, 1)) (hp : pc + 1 = pc') (h : own_Go p e below W T (mkF m pc' L (.long ((x.toUInt64 >>> (y &&& 0x3f).toInt64.toUInt64).toInt64) :: S))) : own_Go p e below W T (mkF m pc L (.int y :: .long x :: S)) := by
  subst hp; exact own_Go.of (fun t q => XS.lushr X.here hx rfl hd rfl q) h
theorem og_lcmp (X : Stand p l e R s m args below meth c T locs cells slots) (hx : p.tables.exec = Jvm.exec) {x y : Int64} (hd : decode c.code pc = .ok (.lcmp, 1)) (hp : pc + 1 = pc') (h : own_Go p e below W T (mkF m pc' L (.int (lcmpW x y) :: S))) : own_Go p e below W T (mkF m pc L (.long y :: .long x :: S)) := by
  subst hp; exact own_Go.of (fun t q => XS.lcmp X.here hx rfl hd rfl q) h
theorem og_idiv (X : Stand p l e R s m args below meth c T locs cells slots) (hx : p.tables.exec = Jvm.exec) {x y : Int32} (hd : decode c.code pc = .ok (.idiv, 1)) (hy : y ≠ 0) (hp : pc + 1 = pc') (h : own_Go p e below W T (mkF m pc' L (.int (x / y) :: S))) : own_Go p e below W T (mkF m pc L (.int y :: .int x :: S)) := by
  subst hp; exact own_Go.of (fun t q => XS.idiv X.here hx rfl hd rfl hy q) h
theorem og_ldiv (X : Stand p l e R s m args below meth c T locs cells slots) (hx : p.tables.exec = Jvm.exec) {x y : Int64} (hd : decode c.code pc = .ok (.ldiv, 1)) (hy : y ≠ 0) (hp : pc + 1 = pc') (h : own_Go p e below W T (mkF m pc' L (.long (x / y) :: S))) : own_Go p e below W T (mkF m pc L (.long y :: .long x :: S)) := by
  subst hp; exact own_Go.of (fun t q => XS.ldiv X.here hx rfl hd rfl hy q) h
theorem og_irem (X : Stand p l e R s m args below meth c T locs cells slots) (hx : p.tables.exec = Jvm.exec) {x y : Int32} (hd : decode c.code pc = .ok (.irem, 1)) (hy : y ≠ 0) (hp : pc + 1 = pc') (h : own_Go p e below W T (mkF m pc' L (.int (x % y) :: S))) : own_Go p e below W T (mkF m pc L (.int y :: .int x :: S)) := by
  subst hp; exact own_Go.of (fun t q => iremM X hx rfl hd rfl hy q) h
theorem og_lrem (X : Stand p l e R s m args below meth c T locs cells slots) (hx : p.tables.exec = Jvm.exec) {x y : Int64} (hd : decode c.code pc = .ok (.lrem, 1)) (hy : y ≠ 0) (hp : pc + 1 = pc') (h : own_Go p e below W T (mkF m pc' L (.long (x - (x / y) * y) :: S))) : own_Go p e below W T (mkF m pc L (.long y :: .long x :: S)) := by
  subst hp; exact own_Go.of (fun t q => XS.lrem X.here hx rfl hd rfl hy q) h
theorem og_iinc (X : Stand p l e R s m args below meth c T locs cells slots) (hx : p.tables.exec = Jvm.exec) {k : Nat} {z : Int} {v : Int32} {L' : Array Slot} (hd : decode c.code pc = .ok (.iinc k z, 3)) (hl : L[k]? = some (.val (.int v))) (hs : storeLocals L k (.int (v + Int32.ofInt z)) = some L') (hp : pc + 3 = pc') (h : own_Go p e below W T (mkF m pc' L' S)) : own_Go p e below W T (mkF m pc L S) := by
  subst hp; exact own_Go.of (fun t q => XS.iinc X.here hx rfl hd hl hs q) h
theorem og_dup (X : Stand p l e R s m args below meth c T locs cells slots) (hx : p.tables.exec = Jvm.exec) {v : Value} (hd : decode c.code pc = .ok (.dup, 1)) (hc : v.category = 1) (hp : pc + 1 = pc') (h : own_Go p e below W T (mkF m pc' L (v :: v :: S))) : own_Go p e below W T (mkF m pc L (v :: S)) := by
  subst hp; exact own_Go.of (fun t q => XS.dup X.here hx rfl hd rfl hc q) h
theorem og_pop (X : Stand p l e R s m args below meth c T locs cells slots) (hx : p.tables.exec = Jvm.exec) {v : Value} (hd : decode c.code pc = .ok (.pop, 1)) (hc : v.category = 1) (hp : pc + 1 = pc') (h : own_Go p e below W T (mkF m pc' L S)) : own_Go p e below W T (mkF m pc L (v :: S)) := by
  subst hp; exact own_Go.of (fun t q => XS.pop X.here hx rfl hd rfl hc q) h
theorem og_dup_x1 (X : Stand p l e R s m args below meth c T locs cells slots) (hx : p.tables.exec = Jvm.exec) {v w : Value} (hd : decode c.code pc = .ok (.dup_x1, 1)) (hc : v.category = 1) (hc' : w.category = 1) (hp : pc + 1 = pc') (h : own_Go p e below W T (mkF m pc' L (v :: w :: v :: S))) : own_Go p e below W T (mkF m pc L (v :: w :: S)) := by
  subst hp; exact own_Go.of (fun t q => XS.dupX1 X.here hx rfl hd rfl hc hc' q) h
theorem og_goto (X : Stand p l e R s m args below meth c T locs cells slots) (hx : p.tables.exec = Jvm.exec) {o : Int} (hd : decode c.code pc = .ok (.goto o, 3)) (ho : 0 ≤ (pc : Int) + o) (hp : ((pc : Int) + o).toNat = pc') (h : own_Go p e below W T (mkF m pc' L S)) : own_Go p e below W T (mkF m pc L S) := by
  exact own_Go.of (fun t q => XS.goto X.here hx rfl rfl hd ho hp q) h
theorem og_ifYes (X : Stand p l e R s m args below meth c T locs cells slots) (hx : p.tables.exec = Jvm.exec) {cd : ClassFile.Cond} {x : Int32} {o : Int} (hd : decode c.code pc = .ok (.ifCond cd o, 3)) (hc : ifCond.holds cd x = true) (ho : 0 ≤ (pc : Int) + o) (hp : ((pc : Int) + o).toNat = pc') (h : own_Go p e below W T (mkF m pc' L S)) : own_Go p e below W T (mkF m pc L (.int x :: S)) := by
  exact own_Go.of (fun t q => XS.ifYes X.here hx rfl rfl hd rfl hc ho hp q) h
theorem og_ifNo (X : Stand p l e R s m args below meth c T locs cells slots) (hx : p.tables.exec = Jvm.exec) {cd : ClassFile.Cond} {x : Int32} {o : Int} (hd : decode c.code pc = .ok (.ifCond cd o, 3)) (hc : ifCond.holds cd x = false) (hp : pc + 3 = pc') (h : own_Go p e below W T (mkF m pc' L S)) : own_Go p e below W T (mkF m pc L (.int x :: S)) := by
  subst hp; exact own_Go.of (fun t q => XS.ifNo X.here hx rfl hd rfl hc q) h
theorem og_icmpYes (X : Stand p l e R s m args below meth c T locs cells slots) (hx : p.tables.exec = Jvm.exec) {cd : ClassFile.Cond} {x y : Int32} {o : Int} (hd : decode c.code pc = .ok (.if_icmp cd o, 3)) (hc : if_icmp.holds cd x y = true) (ho : 0 ≤ (pc : Int) + o) (hp : ((pc : Int) + o).toNat = pc') (h : own_Go p e below W T (mkF m pc' L S)) : own_Go p e below W T (mkF m pc L (.int y :: .int x :: S)) := by
  exact own_Go.of (fun t q => XS.icmpYes X.here hx rfl rfl hd rfl hc ho hp q) h
theorem og_icmpNo (X : Stand p l e R s m args below meth c T locs cells slots) (hx : p.tables.exec = Jvm.exec) {cd : ClassFile.Cond} {x y : Int32} {o : Int} (hd : decode c.code pc = .ok (.if_icmp cd o, 3)) (hc : if_icmp.holds cd x y = false) (hp : pc + 3 = pc') (h : own_Go p e below W T (mkF m pc' L S)) : own_Go p e below W T (mkF m pc L (.int y :: .int x :: S)) := by
  subst hp; exact own_Go.of (fun t q => XS.icmpNo X.here hx rfl hd rfl hc q) h
theorem og_ifnullYes (X : Stand p l e R s m args below meth c T locs cells slots) (hx : p.tables.exec = Jvm.exec) {o : Int} (hd : decode c.code pc = .ok (.ifnull o, 3)) (ho : 0 ≤ (pc : Int) + o) (hp : ((pc : Int) + o).toNat = pc') (h : own_Go p e below W T (mkF m pc' L S)) : own_Go p e below W T (mkF m pc L (.null :: S)) := by
  exact own_Go.of (fun t q => XS.ifnullYes X.here hx rfl rfl hd rfl ho hp q) h
theorem og_ifnullNo (X : Stand p l e R s m args below meth c T locs cells slots) (hx : p.tables.exec = Jvm.exec) {b : Addr} {o : Int} (hd : decode c.code pc = .ok (.ifnull o, 3)) (hp : pc + 3 = pc') (h : own_Go p e below W T (mkF m pc' L S)) : own_Go p e below W T (mkF m pc L (.ref b :: S)) := by
  subst hp; exact own_Go.of (fun t q => XS.ifnullNo X.here hx rfl hd rfl q) h
theorem og_ifnonnullYes (X : Stand p l e R s m args below meth c T locs cells slots) (hx : p.tables.exec = Jvm.exec) {b : Addr} {o : Int} (hd : decode c.code pc = .ok (.ifnonnull o, 3)) (ho : 0 ≤ (pc : Int) + o) (hp : ((pc : Int) + o).toNat = pc') (h : own_Go p e below W T (mkF m pc' L S)) : own_Go p e below W T (mkF m pc L (.ref b :: S)) := by
  exact own_Go.of (fun t q => XS.ifnonnullYes X.here hx rfl rfl hd rfl ho hp q) h
theorem og_ifnonnullNo (X : Stand p l e R s m args below meth c T locs cells slots) (hx : p.tables.exec = Jvm.exec) {o : Int} (hd : decode c.code pc = .ok (.ifnonnull o, 3)) (hp : pc + 3 = pc') (h : own_Go p e below W T (mkF m pc' L S)) : own_Go p e below W T (mkF m pc L (.null :: S)) := by
  subst hp; exact own_Go.of (fun t q => XS.ifnonnullNo X.here hx rfl hd rfl q) h
theorem og_ldc (X : Stand p l e R s m args below meth c T locs cells slots) (hx : p.tables.exec = Jvm.exec) {own : String} {index : Nat} {v : Int32} (hd : decode c.code pc = .ok (.ldc index, 2)) (hown : s.vm.findClass own = some m.cls) (w : (Jvm.Cond.constant own index v).before args s = true) (hp : pc + 2 = pc') (h : own_Go p e below W T (mkF m pc' L (.int v :: S))) : own_Go p e below W T (mkF m pc L S) := by
  subst hp; exact own_Go.of (fun t q => X.ldcInt hx hown w (g := mkF m pc L S) rfl hd _ q) h
theorem og_ldc2_w (X : Stand p l e R s m args below meth c T locs cells slots) (hx : p.tables.exec = Jvm.exec) {own : String} {index : Nat} {v : Int64} (hd : decode c.code pc = .ok (.ldc2_w index, 3)) (hown : s.vm.findClass own = some m.cls) (w : (Jvm.Cond.constantLong own index v).before args s = true) (hp : pc + 3 = pc') (h : own_Go p e below W T (mkF m pc' L (.long v :: S))) : own_Go p e below W T (mkF m pc L S) := by
  subst hp; exact own_Go.of (fun t q => X.ldc2Long hx hown w (g := mkF m pc L S) rfl hd _ q) h
end OwnSteps
def own_ix (bt : Int64) : Int32 := (((bt.toUInt64 >>> ((6 : Int32) &&& 0x3f).toInt64.toUInt64).toInt64).toInt32)
def own_of (bt : Int64) : Int32 := ((bt &&& (63 : Int64)).toInt32)
def own_sel (j : Int32) (w0 w1 w2 : Int64) : Int64 := if j = (0 : Int32) then w0 else if j = (1 : Int32) then w1 else w2
def own_up (j i : Int32) (w x : Int64) : Int64 := if j = i then x else w
def own_ok (bt : Int64) (ln : Int32) : Prop := 0 ≤ bt.toInt ∧ 0 ≤ ln.toInt ∧ ln.toInt ≤ 64 ∧ bt.toInt + ln.toInt ≤ 192
def own_mk (ln : Int32) : Int64 := if ln = (64 : Int32) then (-1 : Int64) else (((1 : Int64) <<< (ln &&& 0x3f).toInt64) - (1 : Int64))
def own_X1 (bt : Int64) (ln : Int32) (x w : Int64) : Int64 := ((w &&& (((own_mk ln) <<< ((own_of bt) &&& 0x3f).toInt64) ^^^ (-1 : Int64))) ||| (x <<< ((own_of bt) &&& 0x3f).toInt64))
def own_X2 (bt : Int64) (ln : Int32) (x w : Int64) : Int64 := ((w &&& ((((1 : Int64) <<< ((((own_of bt) + ln) - (64 : Int32)) &&& 0x3f).toInt64) - (1 : Int64)) ^^^ (-1 : Int64))) ||| ((x.toUInt64 >>> (((64 : Int32) - (own_of bt)) &&& 0x3f).toInt64.toUInt64).toInt64))
def own_A (i : Int32) (bt : Int64) (ln : Int32) (x w0 w1 w2 w : Int64) : Int64 := (own_up (own_ix bt) i w (own_X1 bt ln x (own_sel (own_ix bt) w0 w1 w2)))
def own_B (i : Int32) (bt : Int64) (ln : Int32) (x w0 w1 w2 w : Int64) : Int64 := (own_up ((own_ix bt) + (1 : Int32)) i (own_A i bt ln x w0 w1 w2 w) (own_X2 bt ln x (own_sel ((own_ix bt) + (1 : Int32)) (own_A (0 : Int32) bt ln x w0 w1 w2 w0) (own_A (1 : Int32) bt ln x w0 w1 w2 w1) (own_A (2 : Int32) bt ln x w0 w1 w2 w2))))
def own_pw0 (bt : Int64) (ln : Int32) (x w0 w1 w2 : Int64) : Int64 := if ln = (0 : Int32) then w0 else if (64 : Int32) < ((own_of bt) + ln) then own_B (0 : Int32) bt ln x w0 w1 w2 w0 else own_A (0 : Int32) bt ln x w0 w1 w2 w0
def own_pw1 (bt : Int64) (ln : Int32) (x w0 w1 w2 : Int64) : Int64 := if ln = (0 : Int32) then w1 else if (64 : Int32) < ((own_of bt) + ln) then own_B (1 : Int32) bt ln x w0 w1 w2 w1 else own_A (1 : Int32) bt ln x w0 w1 w2 w1
def own_pw2 (bt : Int64) (ln : Int32) (x w0 w1 w2 : Int64) : Int64 := if ln = (0 : Int32) then w2 else if (64 : Int32) < ((own_of bt) + ln) then own_B (2 : Int32) bt ln x w0 w1 w2 w2 else own_A (2 : Int32) bt ln x w0 w1 w2 w2
theorem own_full (w x : Int64) : ((w &&& (0 : Int64)) ||| (x <<< ((0 : Int32) &&& 0x3f).toInt64)) = x := by
  have e : (((0 : Int32) &&& 0x3f).toInt64) = (0 : Int64) := by decide
  rw [e]; simp
theorem own_ix_val {bt : Int64} (h0 : 0 ≤ bt.toInt) (h1 : bt.toInt ≤ 192) : (own_ix bt).toInt = bt.toInt / 64 := by
  have q := c_lushr bt (6 : Int32) 6 (by decide) (by decide)
  unfold own_ix
  have q2 := c_l2i ((bt.toUInt64 >>> ((6 : Int32) &&& 0x3f).toInt64.toUInt64).toInt64)
  have q3 := rng32 (((bt.toUInt64 >>> ((6 : Int32) &&& 0x3f).toInt64.toUInt64).toInt64).toInt32)
  have e : ((2 ^ 6 : Nat) : Int) = 64 := by decide
  rw [e] at q
  omega
theorem own_of_val (bt : Int64) : (own_of bt).toInt = bt.toInt % 64 := by
  have q := c_maskL bt (63 : Int64) 6 (by decide) (by decide)
  unfold own_of
  have q2 := c_l2i (bt &&& (63 : Int64))
  have q3 := rng32 ((bt &&& (63 : Int64)).toInt32)
  have e : ((2 ^ 6 : Nat) : Int) = 64 := by decide
  rw [e] at q
  omega
theorem own_i0 : (0 : Int32).toInt = 0 := by decide
theorem own_i1 : (1 : Int32).toInt = 1 := by decide
theorem own_i3 : (3 : Int32).toInt = 3 := by decide
theorem own_i64 : (64 : Int32).toInt = 64 := by decide
theorem own_in0 {bt : Int64} {ln : Int32} (h : own_ok bt ln) (hz : ¬ ln = (0 : Int32)) : ¬ (own_ix bt) < 0 ∧ (own_ix bt) < (3 : Int32) := by
  obtain ⟨h0, h1, h2, h3⟩ := h
  rw [← Int32.toInt_inj, own_i0] at hz
  have q := own_ix_val h0 (by omega)
  rw [Int32.lt_iff_toInt_lt, Int32.lt_iff_toInt_lt, own_i0, own_i3]
  omega
theorem own_in1 {bt : Int64} {ln : Int32} (h : own_ok bt ln) (hc : (64 : Int32) < ((own_of bt) + ln)) : ¬ ((own_ix bt) + (1 : Int32)) < 0 ∧ ((own_ix bt) + (1 : Int32)) < (3 : Int32) := by
  obtain ⟨h0, h1, h2, h3⟩ := h
  have q := own_ix_val h0 (by omega)
  have q1 := own_of_val bt
  have q2 := c_iadd (own_of bt) ln
  have q3 := c_iadd (own_ix bt) (1 : Int32)
  have r2 := rng32 ((own_of bt) + ln)
  have r3 := rng32 ((own_ix bt) + (1 : Int32))
  rw [own_i1] at q3
  rw [Int32.lt_iff_toInt_lt, own_i64] at hc
  rw [Int32.lt_iff_toInt_lt, Int32.lt_iff_toInt_lt, own_i0, own_i3]
  omega
theorem own_j3 {j : Int32} (h : ¬ j < 0 ∧ j < (3 : Int32)) : j = (0 : Int32) ∨ j = (1 : Int32) ∨ j = (2 : Int32) := by
  rw [Int32.lt_iff_toInt_lt, Int32.lt_iff_toInt_lt, own_i0, own_i3] at h
  simp only [← Int32.toInt_inj]
  have e2 : (2 : Int32).toInt = 2 := by decide
  rw [own_i0, own_i1, e2]
  omega
theorem own_getD3 {j : Int32} {w0 w1 w2 : Int64} (h : ¬ j < 0 ∧ j < (3 : Int32)) : ([(.long w0), (.long w1), (.long w2)] : List Value).getD j.toNatClampNeg (.long (0 : Int64)) = .long (own_sel j w0 w1 w2) := by
  rcases own_j3 h with rfl | rfl | rfl <;> rfl
theorem own_set3 {j : Int32} {w0 w1 w2 x : Int64} (h : ¬ j < 0 ∧ j < (3 : Int32)) : ([(.long w0), (.long w1), (.long w2)] : List Value).set j.toNatClampNeg (.long x) = [(.long (own_up j (0 : Int32) w0 x)), (.long (own_up j (1 : Int32) w1 x)), (.long (own_up j (2 : Int32) w2 x))] := by
  rcases own_j3 h with rfl | rfl | rfl <;> rfl
theorem own_lt3 {j : Int32} (h : ¬ j < 0 ∧ j < (3 : Int32)) : j.toNatClampNeg < 3 := by
  rcases own_j3 h with rfl | rfl | rfl <;> decide

def own_wf (x0 : Int64) : Int32 := ((((x0 + (64 : Int64)) - (1 : Int64)) / (64 : Int64)).toInt32)
theorem d2_0 : decode prog_1_method_5_code 0 = .ok (.lload_n 0, 1) := by decide +kernel
theorem d2_1 : decode prog_1_method_5_code 1 = .ok (.ldc2_w 40, 3) := by decide +kernel
theorem d2_4 : decode prog_1_method_5_code 4 = .ok (.ladd, 1) := by decide +kernel
theorem d2_5 : decode prog_1_method_5_code 5 = .ok (.lconst 1, 1) := by decide +kernel
theorem d2_6 : decode prog_1_method_5_code 6 = .ok (.lsub, 1) := by decide +kernel
theorem d2_7 : decode prog_1_method_5_code 7 = .ok (.ldc2_w 40, 3) := by decide +kernel
theorem d2_10 : decode prog_1_method_5_code 10 = .ok (.ldiv, 1) := by decide +kernel
theorem d2_11 : decode prog_1_method_5_code 11 = .ok (.l2i, 1) := by decide +kernel
theorem d2_12 : decode prog_1_method_5_code 12 = .ok (.ireturn, 1) := by decide +kernel
theorem pnwf : plainName "com/example/paranhos/paranhos/BitArray" = true := by first | (simp [plainName, overriddenIn]; done) | decide +kernel
theorem efwf (m : MethodId) (z0 : Int64) : entryFrame m #[(.long z0)] 2 = mkF m 0 #[.val (.long z0), .second] [] := by first | (simp [entryFrame, mkF, argsToLocals, Value.category]; done) | rfl
def Qwf (Z : State) (x0 : Int64) (h0 : Heap) (n0 : Nat) (v : Option Value) (h : Heap) (L : List Loc) : Prop := v = some (.int (own_wf x0)) ∧ Fr n0 L ∧ h = h0
set_option maxRecDepth 65536 in
set_option maxHeartbeats 40000000 in
theorem rmwf (l : Launch) (Z : State) (a0 : Array Value) (hw : ∀ d ∈ tables_1, d.before a0 Z = true) (ws : List Jvm.Cond) (x0 : Int64) (h0 : Heap) (n0 : Nat) (Z0 : n0 ≤ h0.size) :
    MetFree l (⟨"com/example/paranhos/paranhos/BitArray", "wordsFor", "(J)I"⟩ : MethodName) (head1 (Jvm.Cond.code (⟨"com/example/paranhos/paranhos/BitArray", "wordsFor", "(J)I"⟩ : MethodName) prog_1_method_5_code 2 (some .int) :: ws) ({ frames := 0, cells := 0, slots := 0, locals := 0 } : Room)) (fun a U => a = #[(.long x0)] ∧ Z.Warmed39 U.vm ∧ U.heap = h0) (fun _ _ _ _ _ => True) (fun _ U oc U' => ∃ v L, oc = .returned v ∧ Qwf Z x0 h0 n0 v U'.heap L ∧ FrameEnd U oc U' L ({ frames := 0, cells := 0, slots := 0, locals := 0 } : Room).cells ({ frames := 0, cells := 0, slots := 0, locals := 0 } : Room).slots) := by
  refine MetFree.of_bodySF (plainFor_of_name pnwf) hisR ?_
  intro p e s m args below meth c s₁ Bd hml0 hP hK
  obtain ⟨rfl, hZ, hh⟩ := hP
  have hx := Bd.exec
  have hby := Bd.bytes
  have hml : c.maxLocals = 2 := hml0
  have hown : s.vm.findClass "com/example/paranhos/paranhos/BitArray" = some m.cls := findClass_of_methodNamed Bd.named
  have hnm := (name_of_methodNamed Bd.named Bd.method).1
  have X0 : Stand p l e ({ frames := 0, cells := 0, slots := 0, locals := 0 } : Room) s m #[(.long x0)] below meth c s₁ [] 0 0 := Stand.of_body Bd
  have e0 : s₁.heap = h0 := by rw [← hh, Bd.state]; rfl
  have N0 := Fr.nil n0
  show own_Go p e below (fun s₂ oc => ∃ v L, oc = .returned v ∧ Qwf Z x0 h0 n0 v s₂.heap L ∧ FrameEnd s oc s₂ L ({ frames := 0, cells := 0, slots := 0, locals := 0 } : Room).cells ({ frames := 0, cells := 0, slots := 0, locals := 0 } : Room).slots) s₁ (entryFrame m #[(.long x0)] 2)
  refine own_Go.of (g' := mkF m 0 #[.val (.long x0), .second] []) (fun t k => castTop (efwf m x0) k) ?_
  have hv : own_wf x0 = own_wf x0 := rfl
  refine og_lloadN (pc' := 1) X0 hx (hb hby d2_0) rfl rfl ?_
  refine og_ldc2_w (pc' := 4) X0 hx (hb hby d2_1) hown (mvT hZ (hw _ (List.mem_of_getElem? (i := 10) rfl))) rfl ?_
  refine og_ladd (pc' := 5) X0 hx (hb hby d2_4) rfl ?_
  refine og_lconst1 (pc' := 6) X0 hx (hb hby d2_5) rfl ?_
  refine og_lsub (pc' := 7) X0 hx (hb hby d2_6) rfl ?_
  refine og_ldc2_w (pc' := 10) X0 hx (hb hby d2_7) hown (mvT hZ (hw _ (List.mem_of_getElem? (i := 10) rfl))) rfl ?_
  refine og_ldiv (pc' := 11) X0 hx (hb hby d2_10) (by decide) rfl ?_
  refine og_l2i (pc' := 12) X0 hx (hb hby d2_11) rfl ?_
  obtain ⟨fs, hr, hrun, hended, hW, hsame⟩ := X0.leave (v := some (.int ((((x0 + (64 : Int64)) - (1 : Int64)) / (64 : Int64)).toInt32))) (fun h => by rw [Bd.returns] at h; cases h) (BodyLoose.notSynchronized Bd)
  refine ⟨_, _, retI X0 hx Bd.returns (hb hby d2_12) hr, hrun, hended, some (.int ((((x0 + (64 : Int64)) - (1 : Int64)) / (64 : Int64)).toInt32)), _, rfl, ?_, ⟨_, rfl⟩, hW, hsame.mono (by decide) (by decide)⟩
  show Qwf Z x0 h0 n0 _ s₁.heap _
  rw [e0]
  exact ⟨(congrArg (fun z => some (Value.int z)) hv.symm), N0, rfl⟩

theorem d3_0 : decode prog_1_method_2_code 0 = .ok (.aload_n 0, 1) := by decide +kernel
theorem d3_1 : decode prog_1_method_2_code 1 = .ok (.invokespecial 15, 3) := by decide +kernel
theorem d3_4 : decode prog_1_method_2_code 4 = .ok (.aload_n 0, 1) := by decide +kernel
theorem d3_5 : decode prog_1_method_2_code 5 = .ok (.aload_n 1, 1) := by decide +kernel
theorem d3_6 : decode prog_1_method_2_code 6 = .ok (.putfield 20, 3) := by decide +kernel
theorem d3_9 : decode prog_1_method_2_code 9 = .ok (.aload_n 0, 1) := by decide +kernel
theorem d3_10 : decode prog_1_method_2_code 10 = .ok (.lload_n 2, 1) := by decide +kernel
theorem d3_11 : decode prog_1_method_2_code 11 = .ok (.putfield 24, 3) := by decide +kernel
theorem d3_14 : decode prog_1_method_2_code 14 = .ok (.return_, 1) := by decide +kernel
theorem pni2 : plainName "com/example/paranhos/paranhos/BitArray" = true := by first | (simp [plainName, overriddenIn]; done) | decide +kernel
theorem efi2 (m : MethodId) (z0 : Addr) (z1 : Addr) (z2 : Int64) : entryFrame m #[(.ref z0), (.ref z1), (.long z2)] 4 = mkF m 0 #[.val (.ref z0), .val (.ref z1), .val (.long z2), .second] [] := by first | (simp [entryFrame, mkF, argsToLocals, Value.category]; done) | rfl
def Qi2 (Z : State) (o : Addr) (b : Addr) (q : Int64) (u0 : Value) (u1 : Value) (h0 : Heap) (n0 : Nat) (v : Option Value) (h : Heap) (L : List Loc) : Prop := v = none ∧ Fr n0 L ∧ Keep h0 h [o] ∧ Exa Z h o "com/example/paranhos/paranhos/BitArray" ∧ Fld Z h o "com/example/paranhos/paranhos/BitArray" "words" "[J" (.ref b)
set_option maxRecDepth 65536 in
set_option maxHeartbeats 40000000 in
theorem rmi2 (l : Launch) (Z : State) (a0 : Array Value) (hw : ∀ d ∈ tables_1, d.before a0 Z = true) (ws : List Jvm.Cond) (o : Addr) (b : Addr) (q : Int64) (u0 : Value) (u1 : Value) (h0 : Heap) (n0 : Nat) (Z0 : n0 ≤ h0.size) (E_o : Exa Z h0 o "com/example/paranhos/paranhos/BitArray") (F0_o : Fld Z h0 o "com/example/paranhos/paranhos/BitArray" "words" "[J" u0) (F1_o : Fld Z h0 o "com/example/paranhos/paranhos/BitArray" "length" "J" u1) (g_o : n0 ≤ o) :
    MetFree l (⟨"com/example/paranhos/paranhos/BitArray", "<init>", "([JJ)V"⟩ : MethodName) (head1 (Jvm.Cond.code (⟨"com/example/paranhos/paranhos/BitArray", "<init>", "([JJ)V"⟩ : MethodName) prog_1_method_2_code 4 none :: ws) ({ frames := 1, cells := 0, slots := 0, locals := 12 } : Room)) (fun a U => a = #[(.ref o), (.ref b), (.long q)] ∧ Z.Warmed39 U.vm ∧ U.heap = h0) (fun _ _ _ _ _ => True) (fun _ U oc U' => ∃ v L, oc = .returned v ∧ Qi2 Z o b q u0 u1 h0 n0 v U'.heap L ∧ FrameEnd U oc U' L ({ frames := 1, cells := 0, slots := 0, locals := 12 } : Room).cells ({ frames := 1, cells := 0, slots := 0, locals := 12 } : Room).slots) := by
  refine MetFree.of_bodySF (plainFor_of_name pni2) hisR ?_
  intro p e s m args below meth c s₁ Bd hml0 hP hK
  obtain ⟨rfl, hZ, hh⟩ := hP
  have hx := Bd.exec
  have hby := Bd.bytes
  have hml : c.maxLocals = 4 := hml0
  have hown : s.vm.findClass "com/example/paranhos/paranhos/BitArray" = some m.cls := findClass_of_methodNamed Bd.named
  have hnm := (name_of_methodNamed Bd.named Bd.method).1
  have X0 : Stand p l e ({ frames := 1, cells := 0, slots := 0, locals := 12 } : Room) s m #[(.ref o), (.ref b), (.long q)] below meth c s₁ [] 0 0 := Stand.of_body Bd
  have e0 : s₁.heap = h0 := by rw [← hh, Bd.state]; rfl
  have N0 := Fr.nil n0
  show own_Go p e below (fun s₂ oc => ∃ v L, oc = .returned v ∧ Qi2 Z o b q u0 u1 h0 n0 v s₂.heap L ∧ FrameEnd s oc s₂ L ({ frames := 1, cells := 0, slots := 0, locals := 12 } : Room).cells ({ frames := 1, cells := 0, slots := 0, locals := 12 } : Room).slots) s₁ (entryFrame m #[(.ref o), (.ref b), (.long q)] 4)
  refine own_Go.of (g' := mkF m 0 #[.val (.ref o), .val (.ref b), .val (.long q), .second] []) (fun t k => castTop (efi2 m o b q) k) ?_
  refine og_aloadN (pc' := 1) X0 hx (hb hby d3_0) rfl rfl rfl ?_
  obtain ⟨T1, X1, e1, st1⟩ := initO X0 hx hZ hown (hw _ (List.mem_of_getElem? (i := 15) rfl)) (hw _ (List.mem_of_getElem? (i := 16) rfl)) (hw _ (List.mem_of_getElem? (i := 17) rfl)) e0 (g := (mkF m 1 #[.val (.ref o), .val (.ref b), .val (.long q), .second] [(.ref o)])) rfl (by rw [hml]; rfl) rfl (hb hby d3_1) (by decide) (W := 0) (by show 2 * 0 + _ ≤ _; exact Nat.le_of_eq rfl) (by decide)
  refine own_Go.of (g' := (mkF m 4 #[.val (.ref o), .val (.ref b), .val (.long q), .second] [])) (fun t k => st1 _ k) ?_
  refine og_aloadN (pc' := 5) X1 hx (hb hby d3_4) rfl rfl rfl ?_
  refine og_aloadN (pc' := 6) X1 hx (hb hby d3_5) rfl rfl rfl ?_
  obtain ⟨T2, h2, X2, e2, W2, st2⟩ := putF X1 hx hZ hown (host := "") (Or.inl (hw _ (List.mem_of_getElem? (i := 18) rfl))) Via.refl e1 F0_o E_o (Or.inr ⟨(hw _ (List.mem_of_getElem? (i := 19) rfl)), rfl, hnm⟩) (hw _ (List.mem_of_getElem? (i := 1) rfl)) (ty := (.array .long)) (by decide) rfl rfl (g := (mkF m 6 #[.val (.ref o), .val (.ref b), .val (.long q), .second] [(.ref b), (.ref o)])) rfl rfl (hb hby d3_6)
  have w2 : Fld Z h2 o "com/example/paranhos/paranhos/BitArray" "words" "[J" (.ref b) := F0_o.same W2
  have f2_0 := E_o.wr W2
  have f2_1 := F1_o.other W2 (Or.inr (slot_ne (a0 := a0) (C := "com/example/paranhos/paranhos/BitArray") (Or.inr (hw _ (List.mem_of_getElem? (i := 21) rfl))) (Or.inr (hw _ (List.mem_of_getElem? (i := 19) rfl))) (by decide) (t := .long) (t' := (.array .long)) (by decide) (by decide)))
  have K2 : Keep h0 h2 [o] := (Keep.refl h0 [o]).wr W2 (Or.inl (List.mem_of_getElem? (i := 0) rfl))
  have Z2 : n0 ≤ h2.size := Nat.le_trans Z0 K2.1
  have N2 := Fr.snoc X2 N0 g_o
  obtain ⟨J2, X2, N2⟩ := own_hide X2 N2
  refine own_Go.of (g' := (mkF m 9 #[.val (.ref o), .val (.ref b), .val (.long q), .second] [])) (fun t k => st2 _ k) ?_
  refine og_aloadN (pc' := 10) X2 hx (hb hby d3_9) rfl rfl rfl ?_
  refine og_lloadN (pc' := 11) X2 hx (hb hby d3_10) rfl rfl ?_
  obtain ⟨T3, h3, X3, e3, W3, st3⟩ := putF X2 hx hZ hown (host := "") (Or.inl (hw _ (List.mem_of_getElem? (i := 20) rfl))) Via.refl e2 f2_1 f2_0 (Or.inr ⟨(hw _ (List.mem_of_getElem? (i := 21) rfl)), rfl, hnm⟩) (hw _ (List.mem_of_getElem? (i := 1) rfl)) (ty := .long) (by decide) rfl rfl (g := (mkF m 11 #[.val (.ref o), .val (.ref b), .val (.long q), .second] [(.long q), (.ref o)])) rfl rfl (hb hby d3_11)
  have w3 : Fld Z h3 o "com/example/paranhos/paranhos/BitArray" "length" "J" (.long q) := f2_1.same W3
  have f3_0 := f2_0.wr W3
  have f3_2 := w2.other W3 (Or.inr (slot_ne (a0 := a0) (C := "com/example/paranhos/paranhos/BitArray") (Or.inr (hw _ (List.mem_of_getElem? (i := 19) rfl))) (Or.inr (hw _ (List.mem_of_getElem? (i := 21) rfl))) (by decide) (t := (.array .long)) (t' := .long) (by decide) (by decide)))
  have K3 : Keep h0 h3 [o] := K2.wr W3 (Or.inl (List.mem_of_getElem? (i := 0) rfl))
  have Z3 : n0 ≤ h3.size := Nat.le_trans Z0 K3.1
  have N3 := Fr.snoc X3 N2 g_o
  obtain ⟨J3, X3, N3⟩ := own_hide X3 N3
  refine own_Go.of (g' := (mkF m 14 #[.val (.ref o), .val (.ref b), .val (.long q), .second] [])) (fun t k => st3 _ k) ?_
  obtain ⟨fs, hr, hrun, hended, hW, hsame⟩ := X3.leave (v := none) (fun _ => rfl) (BodyLoose.notSynchronized Bd)
  refine ⟨_, _, X3.returnOut hx Bd.returns (hb hby d3_14) hr, hrun, hended, none, _, rfl, ?_, ⟨_, rfl⟩, hW, hsame.mono (by decide) (by decide)⟩
  show Qi2 Z o b q u0 u1 h0 n0 _ T3.heap _
  rw [e3]
  exact ⟨rfl, N3, K3, f3_0, f3_2⟩

theorem d1_0 : decode prog_1_method_1_code 0 = .ok (.aload_n 0, 1) := by decide +kernel
theorem d1_1 : decode prog_1_method_1_code 1 = .ok (.lload_n 1, 1) := by decide +kernel
theorem d1_2 : decode prog_1_method_1_code 2 = .ok (.invokestatic 5, 3) := by decide +kernel
theorem d1_5 : decode prog_1_method_1_code 5 = .ok (.newarray .long, 2) := by decide +kernel
theorem d1_7 : decode prog_1_method_1_code 7 = .ok (.lload_n 1, 1) := by decide +kernel
theorem d1_8 : decode prog_1_method_1_code 8 = .ok (.invokespecial 11, 3) := by decide +kernel
theorem d1_11 : decode prog_1_method_1_code 11 = .ok (.return_, 1) := by decide +kernel
theorem pni1 : plainName "com/example/paranhos/paranhos/BitArray" = true := by first | (simp [plainName, overriddenIn]; done) | decide +kernel
theorem pd_0 : parseMethodDescriptor "(J)I" = some ⟨[.long], some .int⟩ := by decide +kernel
theorem pd_1 : parseMethodDescriptor "([JJ)V" = some ⟨[(.array .long), .long], none⟩ := by decide +kernel
theorem efi1 (m : MethodId) (z0 : Addr) : entryFrame m #[(.ref z0), (.long (192 : Int64))] 3 = mkF m 0 #[.val (.ref z0), .val (.long (192 : Int64)), .second] [] := by first | (simp [entryFrame, mkF, argsToLocals, Value.category]; done) | rfl
def Qi1 (Z : State) (o : Addr) (u0 : Value) (u1 : Value) (h0 : Heap) (n0 : Nat) (v : Option Value) (h : Heap) (L : List Loc) : Prop := ∃ (b : Addr) (k : ClassId), v = none ∧ Fr n0 L ∧ Keep h0 h [o] ∧ h0.size ≤ b ∧ Exa Z h o "com/example/paranhos/paranhos/BitArray" ∧ Fld Z h o "com/example/paranhos/paranhos/BitArray" "words" "[J" (.ref b) ∧ Arv Z h b k .long (3 : Int32) [(.long (0 : Int64)), (.long (0 : Int64)), (.long (0 : Int64))] (.long (0 : Int64))
set_option maxRecDepth 65536 in
set_option maxHeartbeats 40000000 in
theorem rmi1 (l : Launch) (Z : State) (a0 : Array Value) (hw : ∀ d ∈ tables_1, d.before a0 Z = true) (ws : List Jvm.Cond) (o : Addr) (u0 : Value) (u1 : Value) (h0 : Heap) (n0 : Nat) (Z0 : n0 ≤ h0.size) (E_o : Exa Z h0 o "com/example/paranhos/paranhos/BitArray") (F0_o : Fld Z h0 o "com/example/paranhos/paranhos/BitArray" "words" "[J" u0) (F1_o : Fld Z h0 o "com/example/paranhos/paranhos/BitArray" "length" "J" u1) (g_o : n0 ≤ o) :
    MetFree l (⟨"com/example/paranhos/paranhos/BitArray", "<init>", "(J)V"⟩ : MethodName) (head1 (Jvm.Cond.code (⟨"com/example/paranhos/paranhos/BitArray", "<init>", "(J)V"⟩ : MethodName) prog_1_method_1_code 3 none :: ws) ({ frames := 2, cells := 1, slots := 3, locals := 27 } : Room)) (fun a U => a = #[(.ref o), (.long (192 : Int64))] ∧ Z.Warmed39 U.vm ∧ U.heap = h0) (fun _ _ _ _ _ => True) (fun _ U oc U' => ∃ v L, oc = .returned v ∧ Qi1 Z o u0 u1 h0 n0 v U'.heap L ∧ FrameEnd U oc U' L ({ frames := 2, cells := 1, slots := 3, locals := 27 } : Room).cells ({ frames := 2, cells := 1, slots := 3, locals := 27 } : Room).slots) := by
  refine MetFree.of_bodySF (plainFor_of_name pni1) hisR ?_
  intro p e s m args below meth c s₁ Bd hml0 hP hK
  obtain ⟨rfl, hZ, hh⟩ := hP
  have hx := Bd.exec
  have hby := Bd.bytes
  have hml : c.maxLocals = 3 := hml0
  have hown : s.vm.findClass "com/example/paranhos/paranhos/BitArray" = some m.cls := findClass_of_methodNamed Bd.named
  have hnm := (name_of_methodNamed Bd.named Bd.method).1
  have X0 : Stand p l e ({ frames := 2, cells := 1, slots := 3, locals := 27 } : Room) s m #[(.ref o), (.long (192 : Int64))] below meth c s₁ [] 0 0 := Stand.of_body Bd
  have e0 : s₁.heap = h0 := by rw [← hh, Bd.state]; rfl
  have N0 := Fr.nil n0
  show own_Go p e below (fun s₂ oc => ∃ v L, oc = .returned v ∧ Qi1 Z o u0 u1 h0 n0 v s₂.heap L ∧ FrameEnd s oc s₂ L ({ frames := 2, cells := 1, slots := 3, locals := 27 } : Room).cells ({ frames := 2, cells := 1, slots := 3, locals := 27 } : Room).slots) s₁ (entryFrame m #[(.ref o), (.long (192 : Int64))] 3)
  refine own_Go.of (g' := mkF m 0 #[.val (.ref o), .val (.long (192 : Int64)), .second] []) (fun t k => castTop (efi1 m o) k) ?_
  refine og_aloadN (pc' := 1) X0 hx (hb hby d1_0) rfl rfl rfl ?_
  refine og_lloadN (pc' := 2) X0 hx (hb hby d1_1) rfl rfl ?_
  obtain ⟨_, _, ⟨T1, L1, k1, n1⟩, -, X1, ⟨Lc1, hQ1, l1, y1, z1⟩, st1⟩ := Jvm.LawKit.callS X0 hx (y := (⟨"com/example/paranhos/paranhos/BitArray", "wordsFor", "(J)I"⟩ : MethodName)) hown (mvT hZ (hw _ (List.mem_of_getElem? (i := 7) rfl))) (mvT hZ (hw _ (List.mem_of_getElem? (i := 8) rfl))) (mvT hZ (hw _ (List.mem_of_getElem? (i := 2) rfl))) (mvT hZ (hw _ (List.mem_of_getElem? (i := 9) rfl))) (by decide) (backOf (W := 1) (rmwf l Z a0 hw [] (192 : Int64) h0 n0 Z0 ) hZ (hw _ (List.mem_of_getElem? (i := 9) rfl)) (hw _ (List.mem_of_getElem? (i := 2) rfl)) (by decide) (by decide)) (g := (mkF m 2 #[.val (.ref o), .val (.long (192 : Int64)), .second] [(.long (192 : Int64)), (.ref o)])) rfl (by rw [hml]; rfl) (argsL := [(.long (192 : Int64))]) (rest := [(.ref o)]) (lenOf pd_0 rfl) rfl (by show 2 * 0 + _ ≤ _; exact Nat.le_of_eq rfl) (hb hby d1_2) (fun _ _ => ⟨rfl, e0, (by decide : 0 + 0 ≤ _), (by decide : 0 + 0 ≤ _)⟩)
  dsimp only [Pt.U, Pt.locs, Pt.cells, Pt.slots] at X1 l1 y1 z1 st1 hQ1
  subst l1 y1 z1
  obtain ⟨rfl, N1q, e1⟩ := hQ1
  have N1 := Fr.app N0 N1q
  obtain ⟨J1, X1, N1⟩ := own_hide X1 N1
  refine own_Go.of (g' := (mkF m 5 #[.val (.ref o), .val (.long (192 : Int64)), .second] [(.int (own_wf (192 : Int64))), (.ref o)])) (fun t k => st1 _ k) ?_
  rw [show (own_wf (192 : Int64)) = (3 : Int32) from by decide]
  obtain ⟨T2, h2, k2, X2, e2, E2, A2, st2⟩ := newP X1 hx hZ (hw _ (List.mem_of_getElem? (i := 11) rfl)) e1 (g := (mkF m 5 #[.val (.ref o), .val (.long (192 : Int64)), .second] [(.int (3 : Int32)), (.ref o)])) rfl (hb hby d1_5) rfl (by decide) (cap := 3) (by decide) (by decide) (by decide) (by decide)
  obtain ⟨b2, g2⟩ : ∃ z, z = h0.size := ⟨_, rfl⟩
  rw [← g2] at A2 st2
  have ne2_0 : o ≠ b2 := Nat.ne_of_lt (Nat.lt_of_lt_of_le E_o.lt (Nat.le_of_eq g2.symm))
  have g_b2 : n0 ≤ b2 := Nat.le_trans Z0 (Nat.le_of_eq g2.symm)
  have sz_b2 : h0.size ≤ b2 := Nat.le_trans (Keep.refl h0 [o]).1 (Nat.le_of_eq g2.symm)
  have f2_0 := E_o.ext E2
  have f2_1 := F0_o.ext E2
  have f2_2 := F1_o.ext E2
  have V2 : Arv Z h2 b2 k2 .long (3 : Int32) [(.long (0 : Int64)), (.long (0 : Int64)), (.long (0 : Int64))] (.long (0 : Int64)) := (Arv.new A2 (by decide)).pad (pad_rep [] (.long (0 : Int64)) 3)
  have K2 : Keep h0 h2 [o] := (Keep.refl h0 [o]).ext E2
  have Z2 : n0 ≤ h2.size := Nat.le_trans Z0 K2.1
  refine own_Go.of (g' := (mkF m 7 #[.val (.ref o), .val (.long (192 : Int64)), .second] [(.ref b2), (.ref o)])) (fun t k => st2 _ k) ?_
  refine og_lloadN (pc' := 8) X2 hx (hb hby d1_7) rfl rfl ?_
  obtain ⟨_, _, ⟨T3, L3, k3, n3⟩, -, X3, ⟨Lc3, hQ3, l3, y3, z3⟩, st3⟩ := X2.specialBack hx (y := (⟨"com/example/paranhos/paranhos/BitArray", "<init>", "([JJ)V"⟩ : MethodName)) rfl hown (mvT hZ (hw _ (List.mem_of_getElem? (i := 12) rfl))) (mvT hZ (hw _ (List.mem_of_getElem? (i := 13) rfl))) (mvT hZ (hw _ (List.mem_of_getElem? (i := 14) rfl))) (by decide) (backOf (W := 0) (rmi2 l Z a0 hw [] o b2 (192 : Int64) u0 u1 h2 n0 Z2 f2_0 f2_1 f2_2 g_o) hZ (hw _ (List.mem_of_getElem? (i := 14) rfl)) (hw _ (List.mem_of_getElem? (i := 2) rfl)) (by decide) (by decide)) (g := (mkF m 8 #[.val (.ref o), .val (.long (192 : Int64)), .second] [(.long (192 : Int64)), (.ref b2), (.ref o)])) rfl (by rw [hml]; rfl) (Steps.refl _) (a := o) (argsL := [(.ref b2), (.long (192 : Int64))]) (rest := []) (lenOf pd_1 rfl) rfl (by show 2 * 0 + _ ≤ _; exact Nat.le_of_eq rfl) (hb hby d1_8) (fun _ _ => ⟨rfl, e2, (by decide : 1 + 0 ≤ _), (by decide : 3 + 0 ≤ _)⟩)
  dsimp only [Pt.U, Pt.locs, Pt.cells, Pt.slots] at X3 l3 y3 z3 st3 hQ3
  subst l3 y3 z3
  obtain ⟨rfl, N3q, K3q, c3_0, c3_1⟩ := hQ3
  have N3 := Fr.app N1 N3q
  obtain ⟨J3, X3, N3⟩ := own_hide X3 N3
  have f3_0 := f2_0.keep K3q
  have f3_2 := V2.keep K3q (ninS (Ne.symm ne2_0) nin0)
  have K3 : Keep h0 T3.heap [o] := K2.trans K3q (allS (Or.inl (List.mem_of_getElem? (i := 0) rfl)) all0)
  have Z3 : n0 ≤ T3.heap.size := Nat.le_trans Z0 K3.1
  refine own_Go.of (g' := (mkF m 11 #[.val (.ref o), .val (.long (192 : Int64)), .second] [])) (fun t k => st3.trans k) ?_
  obtain ⟨fs, hr, hrun, hended, hW, hsame⟩ := X3.leave (v := none) (fun _ => rfl) (BodyLoose.notSynchronized Bd)
  refine ⟨_, _, X3.returnOut hx Bd.returns (hb hby d1_11) hr, hrun, hended, none, _, rfl, ?_, ⟨_, rfl⟩, hW, hsame.mono (by decide) (by decide)⟩
  show Qi1 Z o u0 u1 h0 n0 _ T3.heap _
  exact ⟨b2, k2, rfl, N3, K3, sz_b2, c3_0, c3_1, f3_2⟩

theorem d5_0 : decode prog_1_method_9_code 0 = .ok (.iload_n 3, 1) := by decide +kernel
theorem d5_1 : decode prog_1_method_9_code 1 = .ok (.ifCond .ne 4, 3) := by decide +kernel
theorem d5_5 : decode prog_1_method_9_code 5 = .ok (.lload_n 1, 1) := by decide +kernel
theorem d5_6 : decode prog_1_method_9_code 6 = .ok (.bipush 6, 2) := by decide +kernel
theorem d5_8 : decode prog_1_method_9_code 8 = .ok (.lushr, 1) := by decide +kernel
theorem d5_9 : decode prog_1_method_9_code 9 = .ok (.l2i, 1) := by decide +kernel
theorem d5_10 : decode prog_1_method_9_code 10 = .ok (.istore 6, 2) := by decide +kernel
theorem d5_12 : decode prog_1_method_9_code 12 = .ok (.lload_n 1, 1) := by decide +kernel
theorem d5_13 : decode prog_1_method_9_code 13 = .ok (.ldc2_w 46, 3) := by decide +kernel
theorem d5_16 : decode prog_1_method_9_code 16 = .ok (.land, 1) := by decide +kernel
theorem d5_17 : decode prog_1_method_9_code 17 = .ok (.l2i, 1) := by decide +kernel
theorem d5_18 : decode prog_1_method_9_code 18 = .ok (.istore 7, 2) := by decide +kernel
theorem d5_20 : decode prog_1_method_9_code 20 = .ok (.iload_n 3, 1) := by decide +kernel
theorem d5_21 : decode prog_1_method_9_code 21 = .ok (.bipush 64, 2) := by decide +kernel
theorem d5_23 : decode prog_1_method_9_code 23 = .ok (.if_icmp .ne 9, 3) := by decide +kernel
theorem d5_26 : decode prog_1_method_9_code 26 = .ok (.ldc2_w 48, 3) := by decide +kernel
theorem d5_29 : decode prog_1_method_9_code 29 = .ok (.goto 8, 3) := by decide +kernel
theorem d5_37 : decode prog_1_method_9_code 37 = .ok (.lstore 8, 2) := by decide +kernel
theorem d5_39 : decode prog_1_method_9_code 39 = .ok (.aload_n 0, 1) := by decide +kernel
theorem d5_40 : decode prog_1_method_9_code 40 = .ok (.getfield 20, 3) := by decide +kernel
theorem d5_43 : decode prog_1_method_9_code 43 = .ok (.iload 6, 2) := by decide +kernel
theorem d5_45 : decode prog_1_method_9_code 45 = .ok (.aload_n 0, 1) := by decide +kernel
theorem d5_46 : decode prog_1_method_9_code 46 = .ok (.getfield 20, 3) := by decide +kernel
theorem d5_49 : decode prog_1_method_9_code 49 = .ok (.iload 6, 2) := by decide +kernel
theorem d5_51 : decode prog_1_method_9_code 51 = .ok (.laload, 1) := by decide +kernel
theorem d5_52 : decode prog_1_method_9_code 52 = .ok (.lload 8, 2) := by decide +kernel
theorem d5_54 : decode prog_1_method_9_code 54 = .ok (.iload 7, 2) := by decide +kernel
theorem d5_56 : decode prog_1_method_9_code 56 = .ok (.lshl, 1) := by decide +kernel
theorem d5_57 : decode prog_1_method_9_code 57 = .ok (.ldc2_w 48, 3) := by decide +kernel
theorem d5_60 : decode prog_1_method_9_code 60 = .ok (.lxor, 1) := by decide +kernel
theorem d5_61 : decode prog_1_method_9_code 61 = .ok (.land, 1) := by decide +kernel
theorem d5_62 : decode prog_1_method_9_code 62 = .ok (.lload 4, 2) := by decide +kernel
theorem d5_64 : decode prog_1_method_9_code 64 = .ok (.iload 7, 2) := by decide +kernel
theorem d5_66 : decode prog_1_method_9_code 66 = .ok (.lshl, 1) := by decide +kernel
theorem d5_67 : decode prog_1_method_9_code 67 = .ok (.lor, 1) := by decide +kernel
theorem d5_68 : decode prog_1_method_9_code 68 = .ok (.lastore, 1) := by decide +kernel
theorem d5_69 : decode prog_1_method_9_code 69 = .ok (.iload 7, 2) := by decide +kernel
theorem d5_71 : decode prog_1_method_9_code 71 = .ok (.iload_n 3, 1) := by decide +kernel
theorem d5_72 : decode prog_1_method_9_code 72 = .ok (.iadd, 1) := by decide +kernel
theorem d5_73 : decode prog_1_method_9_code 73 = .ok (.bipush 64, 2) := by decide +kernel
theorem d5_75 : decode prog_1_method_9_code 75 = .ok (.if_icmp .le 50, 3) := by decide +kernel
theorem d5_125 : decode prog_1_method_9_code 125 = .ok (.return_, 1) := by decide +kernel
theorem pnput0 : plainName "com/example/paranhos/paranhos/BitArray" = true := by first | (simp [plainName, overriddenIn]; done) | decide +kernel
theorem efput0 (m : MethodId) (z0 : Addr) (z3 : Int64) : entryFrame m #[(.ref z0), (.long (0 : Int64)), (.int (64 : Int32)), (.long z3)] 11 = mkF m 0 #[.val (.ref z0), .val (.long (0 : Int64)), .second, .val (.int (64 : Int32)), .val (.long z3), .second, .unset, .unset, .unset, .unset, .unset] [] := by first | (simp [entryFrame, mkF, argsToLocals, Value.category]; done) | rfl
def Qput0 (Z : State) (o : Addr) (x : Int64) (b : Addr) (k : ClassId) (w0 : Int64) (w1 : Int64) (w2 : Int64) (h0 : Heap) (n0 : Nat) (v : Option Value) (h : Heap) (L : List Loc) : Prop := v = none ∧ Fr n0 L ∧ Keep h0 h [b] ∧ Exa Z h o "com/example/paranhos/paranhos/BitArray" ∧ Fld Z h o "com/example/paranhos/paranhos/BitArray" "words" "[J" (.ref b) ∧ Arv Z h b k .long (3 : Int32) [(.long x), (.long w1), (.long w2)] (.long (0 : Int64))
set_option maxRecDepth 65536 in
set_option maxHeartbeats 40000000 in
theorem rmput0 (l : Launch) (Z : State) (a0 : Array Value) (hw : ∀ d ∈ tables_1, d.before a0 Z = true) (ws : List Jvm.Cond) (o : Addr) (x : Int64) (b : Addr) (k : ClassId) (w0 : Int64) (w1 : Int64) (w2 : Int64) (h0 : Heap) (n0 : Nat) (Z0 : n0 ≤ h0.size) (E_o : Exa Z h0 o "com/example/paranhos/paranhos/BitArray") (F_o : Fld Z h0 o "com/example/paranhos/paranhos/BitArray" "words" "[J" (.ref b)) (V_b : Arv Z h0 b k .long (3 : Int32) [(.long w0), (.long w1), (.long w2)] (.long (0 : Int64))) (g_b : n0 ≤ b) (ne_ob : o ≠ b) :
    MetFree l (⟨"com/example/paranhos/paranhos/BitArray", "put", "(JIJ)V"⟩ : MethodName) (head1 (Jvm.Cond.code (⟨"com/example/paranhos/paranhos/BitArray", "put", "(JIJ)V"⟩ : MethodName) prog_1_method_9_code 11 none :: ws) ({ frames := 0, cells := 0, slots := 0, locals := 0 } : Room)) (fun a U => a = #[(.ref o), (.long (0 : Int64)), (.int (64 : Int32)), (.long x)] ∧ Z.Warmed39 U.vm ∧ U.heap = h0) (fun _ _ _ _ _ => True) (fun _ U oc U' => ∃ v L, oc = .returned v ∧ Qput0 Z o x b k w0 w1 w2 h0 n0 v U'.heap L ∧ FrameEnd U oc U' L ({ frames := 0, cells := 0, slots := 0, locals := 0 } : Room).cells ({ frames := 0, cells := 0, slots := 0, locals := 0 } : Room).slots) := by
  refine MetFree.of_bodySF (plainFor_of_name pnput0) hisR ?_
  intro p e s m args below meth c s₁ Bd hml0 hP hK
  obtain ⟨rfl, hZ, hh⟩ := hP
  have hx := Bd.exec
  have hby := Bd.bytes
  have hml : c.maxLocals = 11 := hml0
  have hown : s.vm.findClass "com/example/paranhos/paranhos/BitArray" = some m.cls := findClass_of_methodNamed Bd.named
  have hnm := (name_of_methodNamed Bd.named Bd.method).1
  have X0 : Stand p l e ({ frames := 0, cells := 0, slots := 0, locals := 0 } : Room) s m #[(.ref o), (.long (0 : Int64)), (.int (64 : Int32)), (.long x)] below meth c s₁ [] 0 0 := Stand.of_body Bd
  have e0 : s₁.heap = h0 := by rw [← hh, Bd.state]; rfl
  have N0 := Fr.nil n0
  show own_Go p e below (fun s₂ oc => ∃ v L, oc = .returned v ∧ Qput0 Z o x b k w0 w1 w2 h0 n0 v s₂.heap L ∧ FrameEnd s oc s₂ L ({ frames := 0, cells := 0, slots := 0, locals := 0 } : Room).cells ({ frames := 0, cells := 0, slots := 0, locals := 0 } : Room).slots) s₁ (entryFrame m #[(.ref o), (.long (0 : Int64)), (.int (64 : Int32)), (.long x)] 11)
  refine own_Go.of (g' := mkF m 0 #[.val (.ref o), .val (.long (0 : Int64)), .second, .val (.int (64 : Int32)), .val (.long x), .second, .unset, .unset, .unset, .unset, .unset] []) (fun t k => castTop (efput0 m o x) k) ?_
  refine og_iloadN (pc' := 1) X0 hx (hb hby d5_0) rfl rfl ?_
  refine og_ifYes (pc' := 5) X0 hx (hb hby d5_1) ((if0 _ _).trans (feq (by decide)).2) (by decide) (by decide) ?_
  refine og_lloadN (pc' := 6) X0 hx (hb hby d5_5) rfl rfl ?_
  refine og_bipush (pc' := 8) (n := 6) X0 hx (hb hby d5_6) rfl rfl ?_
  refine og_lushr (pc' := 9) X0 hx (hb hby d5_8) rfl ?_
  rw [show (((0 : Int64).toUInt64 >>> ((6 : Int32) &&& 0x3f).toInt64.toUInt64).toInt64) = (0 : Int64) from by decide]
  refine og_l2i (pc' := 10) X0 hx (hb hby d5_9) rfl ?_
  rw [show ((0 : Int64).toInt32) = (0 : Int32) from by decide]
  refine og_istore (pc' := 12) (L' := #[.val (.ref o), .val (.long (0 : Int64)), .second, .val (.int (64 : Int32)), .val (.long x), .second, .val (.int (0 : Int32)), .unset, .unset, .unset, .unset]) X0 hx (hb hby d5_10) rfl rfl ?_
  refine og_lloadN (pc' := 13) X0 hx (hb hby d5_12) rfl rfl ?_
  refine og_ldc2_w (pc' := 16) X0 hx (hb hby d5_13) hown (mvT hZ (hw _ (List.mem_of_getElem? (i := 27) rfl))) rfl ?_
  refine og_land (pc' := 17) X0 hx (hb hby d5_16) rfl ?_
  rw [show ((0 : Int64) &&& (63 : Int64)) = (0 : Int64) from by decide]
  refine og_l2i (pc' := 18) X0 hx (hb hby d5_17) rfl ?_
  rw [show ((0 : Int64).toInt32) = (0 : Int32) from by decide]
  refine og_istore (pc' := 20) (L' := #[.val (.ref o), .val (.long (0 : Int64)), .second, .val (.int (64 : Int32)), .val (.long x), .second, .val (.int (0 : Int32)), .val (.int (0 : Int32)), .unset, .unset, .unset]) X0 hx (hb hby d5_18) rfl rfl ?_
  refine og_iloadN (pc' := 21) X0 hx (hb hby d5_20) rfl rfl ?_
  refine og_bipush (pc' := 23) (n := 64) X0 hx (hb hby d5_21) rfl rfl ?_
  refine og_icmpNo (pc' := 26) X0 hx (hb hby d5_23) (teq (by decide)).2 rfl ?_
  refine og_ldc2_w (pc' := 29) X0 hx (hb hby d5_26) hown (mvT hZ (hw _ (List.mem_of_getElem? (i := 28) rfl))) rfl ?_
  refine og_goto (pc' := 37) X0 hx (hb hby d5_29) (by decide) (by decide) ?_
  refine og_lstore (pc' := 39) (L' := #[.val (.ref o), .val (.long (0 : Int64)), .second, .val (.int (64 : Int32)), .val (.long x), .second, .val (.int (0 : Int32)), .val (.int (0 : Int32)), .val (.long (-1 : Int64)), .second, .unset]) X0 hx (hb hby d5_37) rfl rfl ?_
  refine og_aloadN (pc' := 40) X0 hx (hb hby d5_39) rfl rfl rfl ?_
  obtain ⟨T1, X1, e1, st1⟩ := getF X0 hx hZ hown (host := "") (Or.inl (hw _ (List.mem_of_getElem? (i := 18) rfl))) Via.refl e0 F_o (g := (mkF m 40 #[.val (.ref o), .val (.long (0 : Int64)), .second, .val (.int (64 : Int32)), .val (.long x), .second, .val (.int (0 : Int32)), .val (.int (0 : Int32)), .val (.long (-1 : Int64)), .second, .unset] [(.ref o)])) rfl rfl (hb hby d5_40)
  refine own_Go.of (g' := (mkF m 43 #[.val (.ref o), .val (.long (0 : Int64)), .second, .val (.int (64 : Int32)), .val (.long x), .second, .val (.int (0 : Int32)), .val (.int (0 : Int32)), .val (.long (-1 : Int64)), .second, .unset] [(.ref b)])) (fun t k => st1 _ k) ?_
  refine og_iload (pc' := 45) X1 hx (hb hby d5_43) rfl rfl ?_
  refine og_aloadN (pc' := 46) X1 hx (hb hby d5_45) rfl rfl rfl ?_
  obtain ⟨T2, X2, e2, st2⟩ := getF X1 hx hZ hown (host := "") (Or.inl (hw _ (List.mem_of_getElem? (i := 18) rfl))) Via.refl e1 F_o (g := (mkF m 46 #[.val (.ref o), .val (.long (0 : Int64)), .second, .val (.int (64 : Int32)), .val (.long x), .second, .val (.int (0 : Int32)), .val (.int (0 : Int32)), .val (.long (-1 : Int64)), .second, .unset] [(.ref o), (.int (0 : Int32)), (.ref b)])) rfl rfl (hb hby d5_46)
  refine own_Go.of (g' := (mkF m 49 #[.val (.ref o), .val (.long (0 : Int64)), .second, .val (.int (64 : Int32)), .val (.long x), .second, .val (.int (0 : Int32)), .val (.int (0 : Int32)), .val (.long (-1 : Int64)), .second, .unset] [(.ref b), (.int (0 : Int32)), (.ref b)])) (fun t k => st2 _ k) ?_
  refine og_iload (pc' := 51) X2 hx (hb hby d5_49) rfl rfl ?_
  obtain ⟨cl3, Ar3, q3, S3, M3, H3, G3⟩ := id V_b
  have hin3 : ¬ ((0 : Int32) < 0 ∨ cl3.slots.size ≤ ((0 : Int32)).toNatClampNeg) := inb_of S3 ⟨by decide, by decide⟩
  have hat3 : cl3.slots[((0 : Int32)).toNatClampNeg]? = some (.long w0) := Has.at H3 hin3 rfl
  refine own_Go.of (g' := (mkF m 52 #[.val (.ref o), .val (.long (0 : Int64)), .second, .val (.int (64 : Int32)), .val (.long x), .second, .val (.int (0 : Int32)), .val (.int (0 : Int32)), .val (.long (-1 : Int64)), .second, .unset] [(.long w0), (.int (0 : Int32)), (.ref b)])) (fun t k => X2.laload hx (j := (0 : Int32)) (v := (.long w0)) (by rw [e2]; exact Ar3.1) (State.isArrayOf_alike hZ.alike Ar3.2.1) Ar3.2.2 hin3 hat3 (g := (mkF m 51 #[.val (.ref o), .val (.long (0 : Int64)), .second, .val (.int (64 : Int32)), .val (.long x), .second, .val (.int (0 : Int32)), .val (.int (0 : Int32)), .val (.long (-1 : Int64)), .second, .unset] [(.int (0 : Int32)), (.ref b), (.int (0 : Int32)), (.ref b)])) rfl rfl (hb hby d5_51) _ k) ?_
  refine og_lload (pc' := 54) X2 hx (hb hby d5_52) rfl rfl ?_
  refine og_iload (pc' := 56) X2 hx (hb hby d5_54) rfl rfl ?_
  refine og_lshl (pc' := 57) X2 hx (hb hby d5_56) rfl ?_
  rw [show ((-1 : Int64) <<< ((0 : Int32) &&& 0x3f).toInt64) = (-1 : Int64) from by decide]
  refine og_ldc2_w (pc' := 60) X2 hx (hb hby d5_57) hown (mvT hZ (hw _ (List.mem_of_getElem? (i := 28) rfl))) rfl ?_
  refine og_lxor (pc' := 61) X2 hx (hb hby d5_60) rfl ?_
  rw [show ((-1 : Int64) ^^^ (-1 : Int64)) = (0 : Int64) from by decide]
  refine og_land (pc' := 62) X2 hx (hb hby d5_61) rfl ?_
  refine og_lload (pc' := 64) X2 hx (hb hby d5_62) rfl rfl ?_
  refine og_iload (pc' := 66) X2 hx (hb hby d5_64) rfl rfl ?_
  refine og_lshl (pc' := 67) X2 hx (hb hby d5_66) rfl ?_
  refine og_lor (pc' := 68) X2 hx (hb hby d5_67) rfl ?_
  rw [own_full w0 x]
  obtain ⟨cl4, Ar4, q4, S4, M4, H4, G4⟩ := id V_b
  have hin4 : ¬ ((0 : Int32) < 0 ∨ cl4.slots.size ≤ ((0 : Int32)).toNatClampNeg) := inb_of S4 ⟨by decide, by decide⟩
  obtain ⟨T4, h4, X4, e4, W4, st4⟩ := stJ X2 hx hZ e2 Ar4 (j := (0 : Int32)) hin4 (g := (mkF m 68 #[.val (.ref o), .val (.long (0 : Int64)), .second, .val (.int (64 : Int32)), .val (.long x), .second, .val (.int (0 : Int32)), .val (.int (0 : Int32)), .val (.long (-1 : Int64)), .second, .unset] [(.long x), (.int (0 : Int32)), (.ref b)])) rfl rfl (hb hby d5_68)
  have V4 : Arv Z h4 b k .long (3 : Int32) [(.long x), (.long w1), (.long w2)] (.long (0 : Int64)) := Arv.set Ar4 q4 S4 M4 H4 G4 rfl W4 0 rfl (Nat.le_of_ble_eq_true rfl)
  have f4_0 := E_o.wr W4
  have f4_1 := F_o.other W4 (Or.inl ne_ob)
  have K4 : Keep h0 h4 [b] := (Keep.refl h0 [b]).wr W4 (Or.inl (List.mem_of_getElem? (i := 0) rfl))
  have Z4 : n0 ≤ h4.size := Nat.le_trans Z0 K4.1
  have N4 := Fr.snoc X4 N0 g_b
  obtain ⟨J4, X4, N4⟩ := own_hide X4 N4
  refine own_Go.of (g' := (mkF m 69 #[.val (.ref o), .val (.long (0 : Int64)), .second, .val (.int (64 : Int32)), .val (.long x), .second, .val (.int (0 : Int32)), .val (.int (0 : Int32)), .val (.long (-1 : Int64)), .second, .unset] [])) (fun t k => st4 _ k) ?_
  refine og_iload (pc' := 71) X4 hx (hb hby d5_69) rfl rfl ?_
  refine og_iloadN (pc' := 72) X4 hx (hb hby d5_71) rfl rfl ?_
  refine og_iadd (pc' := 73) X4 hx (hb hby d5_72) rfl ?_
  rw [show ((0 : Int32) + (64 : Int32)) = (64 : Int32) from by decide]
  refine og_bipush (pc' := 75) (n := 64) X4 hx (hb hby d5_73) rfl rfl ?_
  refine og_icmpYes (pc' := 125) X4 hx (hb hby d5_75) (flt (by decide)).2.2.2 (by decide) (by decide) ?_
  obtain ⟨fs, hr, hrun, hended, hW, hsame⟩ := X4.leave (v := none) (fun _ => rfl) (BodyLoose.notSynchronized Bd)
  refine ⟨_, _, X4.returnOut hx Bd.returns (hb hby d5_125) hr, hrun, hended, none, _, rfl, ?_, ⟨_, rfl⟩, hW, hsame.mono (by decide) (by decide)⟩
  show Qput0 Z o x b k w0 w1 w2 h0 n0 _ T4.heap _
  rw [e4]
  exact ⟨rfl, N4, K4, f4_0, f4_1, V4⟩

theorem pnput1 : plainName "com/example/paranhos/paranhos/BitArray" = true := by first | (simp [plainName, overriddenIn]; done) | decide +kernel
theorem efput1 (m : MethodId) (z0 : Addr) (z3 : Int64) : entryFrame m #[(.ref z0), (.long (64 : Int64)), (.int (64 : Int32)), (.long z3)] 11 = mkF m 0 #[.val (.ref z0), .val (.long (64 : Int64)), .second, .val (.int (64 : Int32)), .val (.long z3), .second, .unset, .unset, .unset, .unset, .unset] [] := by first | (simp [entryFrame, mkF, argsToLocals, Value.category]; done) | rfl
def Qput1 (Z : State) (o : Addr) (x : Int64) (b : Addr) (k : ClassId) (w0 : Int64) (w1 : Int64) (w2 : Int64) (h0 : Heap) (n0 : Nat) (v : Option Value) (h : Heap) (L : List Loc) : Prop := v = none ∧ Fr n0 L ∧ Keep h0 h [b] ∧ Exa Z h o "com/example/paranhos/paranhos/BitArray" ∧ Fld Z h o "com/example/paranhos/paranhos/BitArray" "words" "[J" (.ref b) ∧ Arv Z h b k .long (3 : Int32) [(.long w0), (.long x), (.long w2)] (.long (0 : Int64))
set_option maxRecDepth 65536 in
set_option maxHeartbeats 40000000 in
theorem rmput1 (l : Launch) (Z : State) (a0 : Array Value) (hw : ∀ d ∈ tables_1, d.before a0 Z = true) (ws : List Jvm.Cond) (o : Addr) (x : Int64) (b : Addr) (k : ClassId) (w0 : Int64) (w1 : Int64) (w2 : Int64) (h0 : Heap) (n0 : Nat) (Z0 : n0 ≤ h0.size) (E_o : Exa Z h0 o "com/example/paranhos/paranhos/BitArray") (F_o : Fld Z h0 o "com/example/paranhos/paranhos/BitArray" "words" "[J" (.ref b)) (V_b : Arv Z h0 b k .long (3 : Int32) [(.long w0), (.long w1), (.long w2)] (.long (0 : Int64))) (g_b : n0 ≤ b) (ne_ob : o ≠ b) :
    MetFree l (⟨"com/example/paranhos/paranhos/BitArray", "put", "(JIJ)V"⟩ : MethodName) (head1 (Jvm.Cond.code (⟨"com/example/paranhos/paranhos/BitArray", "put", "(JIJ)V"⟩ : MethodName) prog_1_method_9_code 11 none :: ws) ({ frames := 0, cells := 0, slots := 0, locals := 0 } : Room)) (fun a U => a = #[(.ref o), (.long (64 : Int64)), (.int (64 : Int32)), (.long x)] ∧ Z.Warmed39 U.vm ∧ U.heap = h0) (fun _ _ _ _ _ => True) (fun _ U oc U' => ∃ v L, oc = .returned v ∧ Qput1 Z o x b k w0 w1 w2 h0 n0 v U'.heap L ∧ FrameEnd U oc U' L ({ frames := 0, cells := 0, slots := 0, locals := 0 } : Room).cells ({ frames := 0, cells := 0, slots := 0, locals := 0 } : Room).slots) := by
  refine MetFree.of_bodySF (plainFor_of_name pnput1) hisR ?_
  intro p e s m args below meth c s₁ Bd hml0 hP hK
  obtain ⟨rfl, hZ, hh⟩ := hP
  have hx := Bd.exec
  have hby := Bd.bytes
  have hml : c.maxLocals = 11 := hml0
  have hown : s.vm.findClass "com/example/paranhos/paranhos/BitArray" = some m.cls := findClass_of_methodNamed Bd.named
  have hnm := (name_of_methodNamed Bd.named Bd.method).1
  have X0 : Stand p l e ({ frames := 0, cells := 0, slots := 0, locals := 0 } : Room) s m #[(.ref o), (.long (64 : Int64)), (.int (64 : Int32)), (.long x)] below meth c s₁ [] 0 0 := Stand.of_body Bd
  have e0 : s₁.heap = h0 := by rw [← hh, Bd.state]; rfl
  have N0 := Fr.nil n0
  show own_Go p e below (fun s₂ oc => ∃ v L, oc = .returned v ∧ Qput1 Z o x b k w0 w1 w2 h0 n0 v s₂.heap L ∧ FrameEnd s oc s₂ L ({ frames := 0, cells := 0, slots := 0, locals := 0 } : Room).cells ({ frames := 0, cells := 0, slots := 0, locals := 0 } : Room).slots) s₁ (entryFrame m #[(.ref o), (.long (64 : Int64)), (.int (64 : Int32)), (.long x)] 11)
  refine own_Go.of (g' := mkF m 0 #[.val (.ref o), .val (.long (64 : Int64)), .second, .val (.int (64 : Int32)), .val (.long x), .second, .unset, .unset, .unset, .unset, .unset] []) (fun t k => castTop (efput1 m o x) k) ?_
  refine og_iloadN (pc' := 1) X0 hx (hb hby d5_0) rfl rfl ?_
  refine og_ifYes (pc' := 5) X0 hx (hb hby d5_1) ((if0 _ _).trans (feq (by decide)).2) (by decide) (by decide) ?_
  refine og_lloadN (pc' := 6) X0 hx (hb hby d5_5) rfl rfl ?_
  refine og_bipush (pc' := 8) (n := 6) X0 hx (hb hby d5_6) rfl rfl ?_
  refine og_lushr (pc' := 9) X0 hx (hb hby d5_8) rfl ?_
  rw [show (((64 : Int64).toUInt64 >>> ((6 : Int32) &&& 0x3f).toInt64.toUInt64).toInt64) = (1 : Int64) from by decide]
  refine og_l2i (pc' := 10) X0 hx (hb hby d5_9) rfl ?_
  rw [show ((1 : Int64).toInt32) = (1 : Int32) from by decide]
  refine og_istore (pc' := 12) (L' := #[.val (.ref o), .val (.long (64 : Int64)), .second, .val (.int (64 : Int32)), .val (.long x), .second, .val (.int (1 : Int32)), .unset, .unset, .unset, .unset]) X0 hx (hb hby d5_10) rfl rfl ?_
  refine og_lloadN (pc' := 13) X0 hx (hb hby d5_12) rfl rfl ?_
  refine og_ldc2_w (pc' := 16) X0 hx (hb hby d5_13) hown (mvT hZ (hw _ (List.mem_of_getElem? (i := 27) rfl))) rfl ?_
  refine og_land (pc' := 17) X0 hx (hb hby d5_16) rfl ?_
  rw [show ((64 : Int64) &&& (63 : Int64)) = (0 : Int64) from by decide]
  refine og_l2i (pc' := 18) X0 hx (hb hby d5_17) rfl ?_
  rw [show ((0 : Int64).toInt32) = (0 : Int32) from by decide]
  refine og_istore (pc' := 20) (L' := #[.val (.ref o), .val (.long (64 : Int64)), .second, .val (.int (64 : Int32)), .val (.long x), .second, .val (.int (1 : Int32)), .val (.int (0 : Int32)), .unset, .unset, .unset]) X0 hx (hb hby d5_18) rfl rfl ?_
  refine og_iloadN (pc' := 21) X0 hx (hb hby d5_20) rfl rfl ?_
  refine og_bipush (pc' := 23) (n := 64) X0 hx (hb hby d5_21) rfl rfl ?_
  refine og_icmpNo (pc' := 26) X0 hx (hb hby d5_23) (teq (by decide)).2 rfl ?_
  refine og_ldc2_w (pc' := 29) X0 hx (hb hby d5_26) hown (mvT hZ (hw _ (List.mem_of_getElem? (i := 28) rfl))) rfl ?_
  refine og_goto (pc' := 37) X0 hx (hb hby d5_29) (by decide) (by decide) ?_
  refine og_lstore (pc' := 39) (L' := #[.val (.ref o), .val (.long (64 : Int64)), .second, .val (.int (64 : Int32)), .val (.long x), .second, .val (.int (1 : Int32)), .val (.int (0 : Int32)), .val (.long (-1 : Int64)), .second, .unset]) X0 hx (hb hby d5_37) rfl rfl ?_
  refine og_aloadN (pc' := 40) X0 hx (hb hby d5_39) rfl rfl rfl ?_
  obtain ⟨T1, X1, e1, st1⟩ := getF X0 hx hZ hown (host := "") (Or.inl (hw _ (List.mem_of_getElem? (i := 18) rfl))) Via.refl e0 F_o (g := (mkF m 40 #[.val (.ref o), .val (.long (64 : Int64)), .second, .val (.int (64 : Int32)), .val (.long x), .second, .val (.int (1 : Int32)), .val (.int (0 : Int32)), .val (.long (-1 : Int64)), .second, .unset] [(.ref o)])) rfl rfl (hb hby d5_40)
  refine own_Go.of (g' := (mkF m 43 #[.val (.ref o), .val (.long (64 : Int64)), .second, .val (.int (64 : Int32)), .val (.long x), .second, .val (.int (1 : Int32)), .val (.int (0 : Int32)), .val (.long (-1 : Int64)), .second, .unset] [(.ref b)])) (fun t k => st1 _ k) ?_
  refine og_iload (pc' := 45) X1 hx (hb hby d5_43) rfl rfl ?_
  refine og_aloadN (pc' := 46) X1 hx (hb hby d5_45) rfl rfl rfl ?_
  obtain ⟨T2, X2, e2, st2⟩ := getF X1 hx hZ hown (host := "") (Or.inl (hw _ (List.mem_of_getElem? (i := 18) rfl))) Via.refl e1 F_o (g := (mkF m 46 #[.val (.ref o), .val (.long (64 : Int64)), .second, .val (.int (64 : Int32)), .val (.long x), .second, .val (.int (1 : Int32)), .val (.int (0 : Int32)), .val (.long (-1 : Int64)), .second, .unset] [(.ref o), (.int (1 : Int32)), (.ref b)])) rfl rfl (hb hby d5_46)
  refine own_Go.of (g' := (mkF m 49 #[.val (.ref o), .val (.long (64 : Int64)), .second, .val (.int (64 : Int32)), .val (.long x), .second, .val (.int (1 : Int32)), .val (.int (0 : Int32)), .val (.long (-1 : Int64)), .second, .unset] [(.ref b), (.int (1 : Int32)), (.ref b)])) (fun t k => st2 _ k) ?_
  refine og_iload (pc' := 51) X2 hx (hb hby d5_49) rfl rfl ?_
  obtain ⟨cl3, Ar3, q3, S3, M3, H3, G3⟩ := id V_b
  have hin3 : ¬ ((1 : Int32) < 0 ∨ cl3.slots.size ≤ ((1 : Int32)).toNatClampNeg) := inb_of S3 ⟨by decide, by decide⟩
  have hat3 : cl3.slots[((1 : Int32)).toNatClampNeg]? = some (.long w1) := Has.at H3 hin3 rfl
  refine own_Go.of (g' := (mkF m 52 #[.val (.ref o), .val (.long (64 : Int64)), .second, .val (.int (64 : Int32)), .val (.long x), .second, .val (.int (1 : Int32)), .val (.int (0 : Int32)), .val (.long (-1 : Int64)), .second, .unset] [(.long w1), (.int (1 : Int32)), (.ref b)])) (fun t k => X2.laload hx (j := (1 : Int32)) (v := (.long w1)) (by rw [e2]; exact Ar3.1) (State.isArrayOf_alike hZ.alike Ar3.2.1) Ar3.2.2 hin3 hat3 (g := (mkF m 51 #[.val (.ref o), .val (.long (64 : Int64)), .second, .val (.int (64 : Int32)), .val (.long x), .second, .val (.int (1 : Int32)), .val (.int (0 : Int32)), .val (.long (-1 : Int64)), .second, .unset] [(.int (1 : Int32)), (.ref b), (.int (1 : Int32)), (.ref b)])) rfl rfl (hb hby d5_51) _ k) ?_
  refine og_lload (pc' := 54) X2 hx (hb hby d5_52) rfl rfl ?_
  refine og_iload (pc' := 56) X2 hx (hb hby d5_54) rfl rfl ?_
  refine og_lshl (pc' := 57) X2 hx (hb hby d5_56) rfl ?_
  rw [show ((-1 : Int64) <<< ((0 : Int32) &&& 0x3f).toInt64) = (-1 : Int64) from by decide]
  refine og_ldc2_w (pc' := 60) X2 hx (hb hby d5_57) hown (mvT hZ (hw _ (List.mem_of_getElem? (i := 28) rfl))) rfl ?_
  refine og_lxor (pc' := 61) X2 hx (hb hby d5_60) rfl ?_
  rw [show ((-1 : Int64) ^^^ (-1 : Int64)) = (0 : Int64) from by decide]
  refine og_land (pc' := 62) X2 hx (hb hby d5_61) rfl ?_
  refine og_lload (pc' := 64) X2 hx (hb hby d5_62) rfl rfl ?_
  refine og_iload (pc' := 66) X2 hx (hb hby d5_64) rfl rfl ?_
  refine og_lshl (pc' := 67) X2 hx (hb hby d5_66) rfl ?_
  refine og_lor (pc' := 68) X2 hx (hb hby d5_67) rfl ?_
  rw [own_full w1 x]
  obtain ⟨cl4, Ar4, q4, S4, M4, H4, G4⟩ := id V_b
  have hin4 : ¬ ((1 : Int32) < 0 ∨ cl4.slots.size ≤ ((1 : Int32)).toNatClampNeg) := inb_of S4 ⟨by decide, by decide⟩
  obtain ⟨T4, h4, X4, e4, W4, st4⟩ := stJ X2 hx hZ e2 Ar4 (j := (1 : Int32)) hin4 (g := (mkF m 68 #[.val (.ref o), .val (.long (64 : Int64)), .second, .val (.int (64 : Int32)), .val (.long x), .second, .val (.int (1 : Int32)), .val (.int (0 : Int32)), .val (.long (-1 : Int64)), .second, .unset] [(.long x), (.int (1 : Int32)), (.ref b)])) rfl rfl (hb hby d5_68)
  have V4 : Arv Z h4 b k .long (3 : Int32) [(.long w0), (.long x), (.long w2)] (.long (0 : Int64)) := Arv.set Ar4 q4 S4 M4 H4 G4 rfl W4 1 rfl (Nat.le_of_ble_eq_true rfl)
  have f4_0 := E_o.wr W4
  have f4_1 := F_o.other W4 (Or.inl ne_ob)
  have K4 : Keep h0 h4 [b] := (Keep.refl h0 [b]).wr W4 (Or.inl (List.mem_of_getElem? (i := 0) rfl))
  have Z4 : n0 ≤ h4.size := Nat.le_trans Z0 K4.1
  have N4 := Fr.snoc X4 N0 g_b
  obtain ⟨J4, X4, N4⟩ := own_hide X4 N4
  refine own_Go.of (g' := (mkF m 69 #[.val (.ref o), .val (.long (64 : Int64)), .second, .val (.int (64 : Int32)), .val (.long x), .second, .val (.int (1 : Int32)), .val (.int (0 : Int32)), .val (.long (-1 : Int64)), .second, .unset] [])) (fun t k => st4 _ k) ?_
  refine og_iload (pc' := 71) X4 hx (hb hby d5_69) rfl rfl ?_
  refine og_iloadN (pc' := 72) X4 hx (hb hby d5_71) rfl rfl ?_
  refine og_iadd (pc' := 73) X4 hx (hb hby d5_72) rfl ?_
  rw [show ((0 : Int32) + (64 : Int32)) = (64 : Int32) from by decide]
  refine og_bipush (pc' := 75) (n := 64) X4 hx (hb hby d5_73) rfl rfl ?_
  refine og_icmpYes (pc' := 125) X4 hx (hb hby d5_75) (flt (by decide)).2.2.2 (by decide) (by decide) ?_
  obtain ⟨fs, hr, hrun, hended, hW, hsame⟩ := X4.leave (v := none) (fun _ => rfl) (BodyLoose.notSynchronized Bd)
  refine ⟨_, _, X4.returnOut hx Bd.returns (hb hby d5_125) hr, hrun, hended, none, _, rfl, ?_, ⟨_, rfl⟩, hW, hsame.mono (by decide) (by decide)⟩
  show Qput1 Z o x b k w0 w1 w2 h0 n0 _ T4.heap _
  rw [e4]
  exact ⟨rfl, N4, K4, f4_0, f4_1, V4⟩

theorem pnput2 : plainName "com/example/paranhos/paranhos/BitArray" = true := by first | (simp [plainName, overriddenIn]; done) | decide +kernel
theorem efput2 (m : MethodId) (z0 : Addr) (z3 : Int64) : entryFrame m #[(.ref z0), (.long (128 : Int64)), (.int (64 : Int32)), (.long z3)] 11 = mkF m 0 #[.val (.ref z0), .val (.long (128 : Int64)), .second, .val (.int (64 : Int32)), .val (.long z3), .second, .unset, .unset, .unset, .unset, .unset] [] := by first | (simp [entryFrame, mkF, argsToLocals, Value.category]; done) | rfl
def Qput2 (Z : State) (o : Addr) (x : Int64) (b : Addr) (k : ClassId) (w0 : Int64) (w1 : Int64) (w2 : Int64) (h0 : Heap) (n0 : Nat) (v : Option Value) (h : Heap) (L : List Loc) : Prop := v = none ∧ Fr n0 L ∧ Keep h0 h [b] ∧ Exa Z h o "com/example/paranhos/paranhos/BitArray" ∧ Fld Z h o "com/example/paranhos/paranhos/BitArray" "words" "[J" (.ref b) ∧ Arv Z h b k .long (3 : Int32) [(.long w0), (.long w1), (.long x)] (.long (0 : Int64))
set_option maxRecDepth 65536 in
set_option maxHeartbeats 40000000 in
theorem rmput2 (l : Launch) (Z : State) (a0 : Array Value) (hw : ∀ d ∈ tables_1, d.before a0 Z = true) (ws : List Jvm.Cond) (o : Addr) (x : Int64) (b : Addr) (k : ClassId) (w0 : Int64) (w1 : Int64) (w2 : Int64) (h0 : Heap) (n0 : Nat) (Z0 : n0 ≤ h0.size) (E_o : Exa Z h0 o "com/example/paranhos/paranhos/BitArray") (F_o : Fld Z h0 o "com/example/paranhos/paranhos/BitArray" "words" "[J" (.ref b)) (V_b : Arv Z h0 b k .long (3 : Int32) [(.long w0), (.long w1), (.long w2)] (.long (0 : Int64))) (g_b : n0 ≤ b) (ne_ob : o ≠ b) :
    MetFree l (⟨"com/example/paranhos/paranhos/BitArray", "put", "(JIJ)V"⟩ : MethodName) (head1 (Jvm.Cond.code (⟨"com/example/paranhos/paranhos/BitArray", "put", "(JIJ)V"⟩ : MethodName) prog_1_method_9_code 11 none :: ws) ({ frames := 0, cells := 0, slots := 0, locals := 0 } : Room)) (fun a U => a = #[(.ref o), (.long (128 : Int64)), (.int (64 : Int32)), (.long x)] ∧ Z.Warmed39 U.vm ∧ U.heap = h0) (fun _ _ _ _ _ => True) (fun _ U oc U' => ∃ v L, oc = .returned v ∧ Qput2 Z o x b k w0 w1 w2 h0 n0 v U'.heap L ∧ FrameEnd U oc U' L ({ frames := 0, cells := 0, slots := 0, locals := 0 } : Room).cells ({ frames := 0, cells := 0, slots := 0, locals := 0 } : Room).slots) := by
  refine MetFree.of_bodySF (plainFor_of_name pnput2) hisR ?_
  intro p e s m args below meth c s₁ Bd hml0 hP hK
  obtain ⟨rfl, hZ, hh⟩ := hP
  have hx := Bd.exec
  have hby := Bd.bytes
  have hml : c.maxLocals = 11 := hml0
  have hown : s.vm.findClass "com/example/paranhos/paranhos/BitArray" = some m.cls := findClass_of_methodNamed Bd.named
  have hnm := (name_of_methodNamed Bd.named Bd.method).1
  have X0 : Stand p l e ({ frames := 0, cells := 0, slots := 0, locals := 0 } : Room) s m #[(.ref o), (.long (128 : Int64)), (.int (64 : Int32)), (.long x)] below meth c s₁ [] 0 0 := Stand.of_body Bd
  have e0 : s₁.heap = h0 := by rw [← hh, Bd.state]; rfl
  have N0 := Fr.nil n0
  show own_Go p e below (fun s₂ oc => ∃ v L, oc = .returned v ∧ Qput2 Z o x b k w0 w1 w2 h0 n0 v s₂.heap L ∧ FrameEnd s oc s₂ L ({ frames := 0, cells := 0, slots := 0, locals := 0 } : Room).cells ({ frames := 0, cells := 0, slots := 0, locals := 0 } : Room).slots) s₁ (entryFrame m #[(.ref o), (.long (128 : Int64)), (.int (64 : Int32)), (.long x)] 11)
  refine own_Go.of (g' := mkF m 0 #[.val (.ref o), .val (.long (128 : Int64)), .second, .val (.int (64 : Int32)), .val (.long x), .second, .unset, .unset, .unset, .unset, .unset] []) (fun t k => castTop (efput2 m o x) k) ?_
  refine og_iloadN (pc' := 1) X0 hx (hb hby d5_0) rfl rfl ?_
  refine og_ifYes (pc' := 5) X0 hx (hb hby d5_1) ((if0 _ _).trans (feq (by decide)).2) (by decide) (by decide) ?_
  refine og_lloadN (pc' := 6) X0 hx (hb hby d5_5) rfl rfl ?_
  refine og_bipush (pc' := 8) (n := 6) X0 hx (hb hby d5_6) rfl rfl ?_
  refine og_lushr (pc' := 9) X0 hx (hb hby d5_8) rfl ?_
  rw [show (((128 : Int64).toUInt64 >>> ((6 : Int32) &&& 0x3f).toInt64.toUInt64).toInt64) = (2 : Int64) from by decide]
  refine og_l2i (pc' := 10) X0 hx (hb hby d5_9) rfl ?_
  rw [show ((2 : Int64).toInt32) = (2 : Int32) from by decide]
  refine og_istore (pc' := 12) (L' := #[.val (.ref o), .val (.long (128 : Int64)), .second, .val (.int (64 : Int32)), .val (.long x), .second, .val (.int (2 : Int32)), .unset, .unset, .unset, .unset]) X0 hx (hb hby d5_10) rfl rfl ?_
  refine og_lloadN (pc' := 13) X0 hx (hb hby d5_12) rfl rfl ?_
  refine og_ldc2_w (pc' := 16) X0 hx (hb hby d5_13) hown (mvT hZ (hw _ (List.mem_of_getElem? (i := 27) rfl))) rfl ?_
  refine og_land (pc' := 17) X0 hx (hb hby d5_16) rfl ?_
  rw [show ((128 : Int64) &&& (63 : Int64)) = (0 : Int64) from by decide]
  refine og_l2i (pc' := 18) X0 hx (hb hby d5_17) rfl ?_
  rw [show ((0 : Int64).toInt32) = (0 : Int32) from by decide]
  refine og_istore (pc' := 20) (L' := #[.val (.ref o), .val (.long (128 : Int64)), .second, .val (.int (64 : Int32)), .val (.long x), .second, .val (.int (2 : Int32)), .val (.int (0 : Int32)), .unset, .unset, .unset]) X0 hx (hb hby d5_18) rfl rfl ?_
  refine og_iloadN (pc' := 21) X0 hx (hb hby d5_20) rfl rfl ?_
  refine og_bipush (pc' := 23) (n := 64) X0 hx (hb hby d5_21) rfl rfl ?_
  refine og_icmpNo (pc' := 26) X0 hx (hb hby d5_23) (teq (by decide)).2 rfl ?_
  refine og_ldc2_w (pc' := 29) X0 hx (hb hby d5_26) hown (mvT hZ (hw _ (List.mem_of_getElem? (i := 28) rfl))) rfl ?_
  refine og_goto (pc' := 37) X0 hx (hb hby d5_29) (by decide) (by decide) ?_
  refine og_lstore (pc' := 39) (L' := #[.val (.ref o), .val (.long (128 : Int64)), .second, .val (.int (64 : Int32)), .val (.long x), .second, .val (.int (2 : Int32)), .val (.int (0 : Int32)), .val (.long (-1 : Int64)), .second, .unset]) X0 hx (hb hby d5_37) rfl rfl ?_
  refine og_aloadN (pc' := 40) X0 hx (hb hby d5_39) rfl rfl rfl ?_
  obtain ⟨T1, X1, e1, st1⟩ := getF X0 hx hZ hown (host := "") (Or.inl (hw _ (List.mem_of_getElem? (i := 18) rfl))) Via.refl e0 F_o (g := (mkF m 40 #[.val (.ref o), .val (.long (128 : Int64)), .second, .val (.int (64 : Int32)), .val (.long x), .second, .val (.int (2 : Int32)), .val (.int (0 : Int32)), .val (.long (-1 : Int64)), .second, .unset] [(.ref o)])) rfl rfl (hb hby d5_40)
  refine own_Go.of (g' := (mkF m 43 #[.val (.ref o), .val (.long (128 : Int64)), .second, .val (.int (64 : Int32)), .val (.long x), .second, .val (.int (2 : Int32)), .val (.int (0 : Int32)), .val (.long (-1 : Int64)), .second, .unset] [(.ref b)])) (fun t k => st1 _ k) ?_
  refine og_iload (pc' := 45) X1 hx (hb hby d5_43) rfl rfl ?_
  refine og_aloadN (pc' := 46) X1 hx (hb hby d5_45) rfl rfl rfl ?_
  obtain ⟨T2, X2, e2, st2⟩ := getF X1 hx hZ hown (host := "") (Or.inl (hw _ (List.mem_of_getElem? (i := 18) rfl))) Via.refl e1 F_o (g := (mkF m 46 #[.val (.ref o), .val (.long (128 : Int64)), .second, .val (.int (64 : Int32)), .val (.long x), .second, .val (.int (2 : Int32)), .val (.int (0 : Int32)), .val (.long (-1 : Int64)), .second, .unset] [(.ref o), (.int (2 : Int32)), (.ref b)])) rfl rfl (hb hby d5_46)
  refine own_Go.of (g' := (mkF m 49 #[.val (.ref o), .val (.long (128 : Int64)), .second, .val (.int (64 : Int32)), .val (.long x), .second, .val (.int (2 : Int32)), .val (.int (0 : Int32)), .val (.long (-1 : Int64)), .second, .unset] [(.ref b), (.int (2 : Int32)), (.ref b)])) (fun t k => st2 _ k) ?_
  refine og_iload (pc' := 51) X2 hx (hb hby d5_49) rfl rfl ?_
  obtain ⟨cl3, Ar3, q3, S3, M3, H3, G3⟩ := id V_b
  have hin3 : ¬ ((2 : Int32) < 0 ∨ cl3.slots.size ≤ ((2 : Int32)).toNatClampNeg) := inb_of S3 ⟨by decide, by decide⟩
  have hat3 : cl3.slots[((2 : Int32)).toNatClampNeg]? = some (.long w2) := Has.at H3 hin3 rfl
  refine own_Go.of (g' := (mkF m 52 #[.val (.ref o), .val (.long (128 : Int64)), .second, .val (.int (64 : Int32)), .val (.long x), .second, .val (.int (2 : Int32)), .val (.int (0 : Int32)), .val (.long (-1 : Int64)), .second, .unset] [(.long w2), (.int (2 : Int32)), (.ref b)])) (fun t k => X2.laload hx (j := (2 : Int32)) (v := (.long w2)) (by rw [e2]; exact Ar3.1) (State.isArrayOf_alike hZ.alike Ar3.2.1) Ar3.2.2 hin3 hat3 (g := (mkF m 51 #[.val (.ref o), .val (.long (128 : Int64)), .second, .val (.int (64 : Int32)), .val (.long x), .second, .val (.int (2 : Int32)), .val (.int (0 : Int32)), .val (.long (-1 : Int64)), .second, .unset] [(.int (2 : Int32)), (.ref b), (.int (2 : Int32)), (.ref b)])) rfl rfl (hb hby d5_51) _ k) ?_
  refine og_lload (pc' := 54) X2 hx (hb hby d5_52) rfl rfl ?_
  refine og_iload (pc' := 56) X2 hx (hb hby d5_54) rfl rfl ?_
  refine og_lshl (pc' := 57) X2 hx (hb hby d5_56) rfl ?_
  rw [show ((-1 : Int64) <<< ((0 : Int32) &&& 0x3f).toInt64) = (-1 : Int64) from by decide]
  refine og_ldc2_w (pc' := 60) X2 hx (hb hby d5_57) hown (mvT hZ (hw _ (List.mem_of_getElem? (i := 28) rfl))) rfl ?_
  refine og_lxor (pc' := 61) X2 hx (hb hby d5_60) rfl ?_
  rw [show ((-1 : Int64) ^^^ (-1 : Int64)) = (0 : Int64) from by decide]
  refine og_land (pc' := 62) X2 hx (hb hby d5_61) rfl ?_
  refine og_lload (pc' := 64) X2 hx (hb hby d5_62) rfl rfl ?_
  refine og_iload (pc' := 66) X2 hx (hb hby d5_64) rfl rfl ?_
  refine og_lshl (pc' := 67) X2 hx (hb hby d5_66) rfl ?_
  refine og_lor (pc' := 68) X2 hx (hb hby d5_67) rfl ?_
  rw [own_full w2 x]
  obtain ⟨cl4, Ar4, q4, S4, M4, H4, G4⟩ := id V_b
  have hin4 : ¬ ((2 : Int32) < 0 ∨ cl4.slots.size ≤ ((2 : Int32)).toNatClampNeg) := inb_of S4 ⟨by decide, by decide⟩
  obtain ⟨T4, h4, X4, e4, W4, st4⟩ := stJ X2 hx hZ e2 Ar4 (j := (2 : Int32)) hin4 (g := (mkF m 68 #[.val (.ref o), .val (.long (128 : Int64)), .second, .val (.int (64 : Int32)), .val (.long x), .second, .val (.int (2 : Int32)), .val (.int (0 : Int32)), .val (.long (-1 : Int64)), .second, .unset] [(.long x), (.int (2 : Int32)), (.ref b)])) rfl rfl (hb hby d5_68)
  have V4 : Arv Z h4 b k .long (3 : Int32) [(.long w0), (.long w1), (.long x)] (.long (0 : Int64)) := Arv.set Ar4 q4 S4 M4 H4 G4 rfl W4 2 rfl (Nat.le_of_ble_eq_true rfl)
  have f4_0 := E_o.wr W4
  have f4_1 := F_o.other W4 (Or.inl ne_ob)
  have K4 : Keep h0 h4 [b] := (Keep.refl h0 [b]).wr W4 (Or.inl (List.mem_of_getElem? (i := 0) rfl))
  have Z4 : n0 ≤ h4.size := Nat.le_trans Z0 K4.1
  have N4 := Fr.snoc X4 N0 g_b
  obtain ⟨J4, X4, N4⟩ := own_hide X4 N4
  refine own_Go.of (g' := (mkF m 69 #[.val (.ref o), .val (.long (128 : Int64)), .second, .val (.int (64 : Int32)), .val (.long x), .second, .val (.int (2 : Int32)), .val (.int (0 : Int32)), .val (.long (-1 : Int64)), .second, .unset] [])) (fun t k => st4 _ k) ?_
  refine og_iload (pc' := 71) X4 hx (hb hby d5_69) rfl rfl ?_
  refine og_iloadN (pc' := 72) X4 hx (hb hby d5_71) rfl rfl ?_
  refine og_iadd (pc' := 73) X4 hx (hb hby d5_72) rfl ?_
  rw [show ((0 : Int32) + (64 : Int32)) = (64 : Int32) from by decide]
  refine og_bipush (pc' := 75) (n := 64) X4 hx (hb hby d5_73) rfl rfl ?_
  refine og_icmpYes (pc' := 125) X4 hx (hb hby d5_75) (flt (by decide)).2.2.2 (by decide) (by decide) ?_
  obtain ⟨fs, hr, hrun, hended, hW, hsame⟩ := X4.leave (v := none) (fun _ => rfl) (BodyLoose.notSynchronized Bd)
  refine ⟨_, _, X4.returnOut hx Bd.returns (hb hby d5_125) hr, hrun, hended, none, _, rfl, ?_, ⟨_, rfl⟩, hW, hsame.mono (by decide) (by decide)⟩
  show Qput2 Z o x b k w0 w1 w2 h0 n0 _ T4.heap _
  rw [e4]
  exact ⟨rfl, N4, K4, f4_0, f4_1, V4⟩

def own_get_62 (bt : Int64) (ln : Int32) (w0 : Int64) (w1 : Int64) (w2 : Int64) (i4 : Int32) (i5 : Int32) (j6 : Int64) : Int64 := (if ln = (64 : Int32) then j6 else (j6 &&& (((1 : Int64) <<< (ln &&& 0x3f).toInt64) - (1 : Int64))))
def own_get (bt : Int64) (ln : Int32) (w0 : Int64) (w1 : Int64) (w2 : Int64) : Int64 := (if ln = (0 : Int32) then (0 : Int64) else (if (64 : Int32) < ((own_of bt) + ln) then (own_get_62 bt ln w0 w1 w2 (own_ix bt) (own_of bt) ((((own_sel (own_ix bt) w0 w1 w2).toUInt64 >>> ((own_of bt) &&& 0x3f).toInt64.toUInt64).toInt64) ||| ((own_sel ((own_ix bt) + (1 : Int32)) w0 w1 w2) <<< (((64 : Int32) - (own_of bt)) &&& 0x3f).toInt64))) else (own_get_62 bt ln w0 w1 w2 (own_ix bt) (own_of bt) (((own_sel (own_ix bt) w0 w1 w2).toUInt64 >>> ((own_of bt) &&& 0x3f).toInt64.toUInt64).toInt64))))
theorem d6_0 : decode prog_1_method_8_code 0 = .ok (.iload_n 3, 1) := by decide +kernel
theorem d6_1 : decode prog_1_method_8_code 1 = .ok (.ifCond .ne 5, 3) := by decide +kernel
theorem d6_4 : decode prog_1_method_8_code 4 = .ok (.lconst 0, 1) := by decide +kernel
theorem d6_5 : decode prog_1_method_8_code 5 = .ok (.lreturn, 1) := by decide +kernel
theorem d6_6 : decode prog_1_method_8_code 6 = .ok (.lload_n 1, 1) := by decide +kernel
theorem d6_7 : decode prog_1_method_8_code 7 = .ok (.bipush 6, 2) := by decide +kernel
theorem d6_9 : decode prog_1_method_8_code 9 = .ok (.lushr, 1) := by decide +kernel
theorem d6_10 : decode prog_1_method_8_code 10 = .ok (.l2i, 1) := by decide +kernel
theorem d6_11 : decode prog_1_method_8_code 11 = .ok (.istore 4, 2) := by decide +kernel
theorem d6_13 : decode prog_1_method_8_code 13 = .ok (.lload_n 1, 1) := by decide +kernel
theorem d6_14 : decode prog_1_method_8_code 14 = .ok (.ldc2_w 46, 3) := by decide +kernel
theorem d6_17 : decode prog_1_method_8_code 17 = .ok (.land, 1) := by decide +kernel
theorem d6_18 : decode prog_1_method_8_code 18 = .ok (.l2i, 1) := by decide +kernel
theorem d6_19 : decode prog_1_method_8_code 19 = .ok (.istore 5, 2) := by decide +kernel
theorem d6_21 : decode prog_1_method_8_code 21 = .ok (.aload_n 0, 1) := by decide +kernel
theorem d6_22 : decode prog_1_method_8_code 22 = .ok (.getfield 20, 3) := by decide +kernel
theorem d6_25 : decode prog_1_method_8_code 25 = .ok (.iload 4, 2) := by decide +kernel
theorem d6_27 : decode prog_1_method_8_code 27 = .ok (.laload, 1) := by decide +kernel
theorem d6_28 : decode prog_1_method_8_code 28 = .ok (.iload 5, 2) := by decide +kernel
theorem d6_30 : decode prog_1_method_8_code 30 = .ok (.lushr, 1) := by decide +kernel
theorem d6_31 : decode prog_1_method_8_code 31 = .ok (.lstore 6, 2) := by decide +kernel
theorem d6_33 : decode prog_1_method_8_code 33 = .ok (.iload 5, 2) := by decide +kernel
theorem d6_35 : decode prog_1_method_8_code 35 = .ok (.iload_n 3, 1) := by decide +kernel
theorem d6_36 : decode prog_1_method_8_code 36 = .ok (.iadd, 1) := by decide +kernel
theorem d6_37 : decode prog_1_method_8_code 37 = .ok (.bipush 64, 2) := by decide +kernel
theorem d6_39 : decode prog_1_method_8_code 39 = .ok (.if_icmp .le 23, 3) := by decide +kernel
theorem d6_42 : decode prog_1_method_8_code 42 = .ok (.lload 6, 2) := by decide +kernel
theorem d6_44 : decode prog_1_method_8_code 44 = .ok (.aload_n 0, 1) := by decide +kernel
theorem d6_45 : decode prog_1_method_8_code 45 = .ok (.getfield 20, 3) := by decide +kernel
theorem d6_48 : decode prog_1_method_8_code 48 = .ok (.iload 4, 2) := by decide +kernel
theorem d6_50 : decode prog_1_method_8_code 50 = .ok (.iconst 1, 1) := by decide +kernel
theorem d6_51 : decode prog_1_method_8_code 51 = .ok (.iadd, 1) := by decide +kernel
theorem d6_52 : decode prog_1_method_8_code 52 = .ok (.laload, 1) := by decide +kernel
theorem d6_53 : decode prog_1_method_8_code 53 = .ok (.bipush 64, 2) := by decide +kernel
theorem d6_55 : decode prog_1_method_8_code 55 = .ok (.iload 5, 2) := by decide +kernel
theorem d6_57 : decode prog_1_method_8_code 57 = .ok (.isub, 1) := by decide +kernel
theorem d6_58 : decode prog_1_method_8_code 58 = .ok (.lshl, 1) := by decide +kernel
theorem d6_59 : decode prog_1_method_8_code 59 = .ok (.lor, 1) := by decide +kernel
theorem d6_60 : decode prog_1_method_8_code 60 = .ok (.lstore 6, 2) := by decide +kernel
theorem d6_62 : decode prog_1_method_8_code 62 = .ok (.iload_n 3, 1) := by decide +kernel
theorem d6_63 : decode prog_1_method_8_code 63 = .ok (.bipush 64, 2) := by decide +kernel
theorem d6_65 : decode prog_1_method_8_code 65 = .ok (.if_icmp .ne 8, 3) := by decide +kernel
theorem d6_68 : decode prog_1_method_8_code 68 = .ok (.lload 6, 2) := by decide +kernel
theorem d6_70 : decode prog_1_method_8_code 70 = .ok (.goto 11, 3) := by decide +kernel
theorem d6_73 : decode prog_1_method_8_code 73 = .ok (.lload 6, 2) := by decide +kernel
theorem d6_75 : decode prog_1_method_8_code 75 = .ok (.lconst 1, 1) := by decide +kernel
theorem d6_76 : decode prog_1_method_8_code 76 = .ok (.iload_n 3, 1) := by decide +kernel
theorem d6_77 : decode prog_1_method_8_code 77 = .ok (.lshl, 1) := by decide +kernel
theorem d6_78 : decode prog_1_method_8_code 78 = .ok (.lconst 1, 1) := by decide +kernel
theorem d6_79 : decode prog_1_method_8_code 79 = .ok (.lsub, 1) := by decide +kernel
theorem d6_80 : decode prog_1_method_8_code 80 = .ok (.land, 1) := by decide +kernel
theorem d6_81 : decode prog_1_method_8_code 81 = .ok (.lreturn, 1) := by decide +kernel
theorem pnget : plainName "com/example/paranhos/paranhos/BitArray" = true := by first | (simp [plainName, overriddenIn]; done) | decide +kernel
theorem efget (m : MethodId) (z0 : Addr) (z1 : Int64) (z2 : Int32) : entryFrame m #[(.ref z0), (.long z1), (.int z2)] 8 = mkF m 0 #[.val (.ref z0), .val (.long z1), .second, .val (.int z2), .unset, .unset, .unset, .unset] [] := by first | (simp [entryFrame, mkF, argsToLocals, Value.category]; done) | rfl
def Qget (Z : State) (o : Addr) (bt : Int64) (ln : Int32) (b : Addr) (k : ClassId) (w0 : Int64) (w1 : Int64) (w2 : Int64) (h0 : Heap) (n0 : Nat) (v : Option Value) (h : Heap) (L : List Loc) : Prop := v = some (.long (own_get bt ln w0 w1 w2)) ∧ Fr n0 L ∧ h = h0
set_option maxRecDepth 65536 in
set_option maxHeartbeats 40000000 in
theorem rmget (l : Launch) (Z : State) (a0 : Array Value) (hw : ∀ d ∈ tables_1, d.before a0 Z = true) (ws : List Jvm.Cond) (o : Addr) (bt : Int64) (ln : Int32) (b : Addr) (k : ClassId) (w0 : Int64) (w1 : Int64) (w2 : Int64) (h0 : Heap) (n0 : Nat) (Z0 : n0 ≤ h0.size) (F_o : Fld Z h0 o "com/example/paranhos/paranhos/BitArray" "words" "[J" (.ref b)) (V_b : Arv Z h0 b k .long (3 : Int32) [(.long w0), (.long w1), (.long w2)] (.long (0 : Int64))) (hok : own_ok bt ln) :
    MetFree l (⟨"com/example/paranhos/paranhos/BitArray", "get", "(JI)J"⟩ : MethodName) (head1 (Jvm.Cond.code (⟨"com/example/paranhos/paranhos/BitArray", "get", "(JI)J"⟩ : MethodName) prog_1_method_8_code 8 (some .long) :: ws) ({ frames := 0, cells := 0, slots := 0, locals := 0 } : Room)) (fun a U => a = #[(.ref o), (.long bt), (.int ln)] ∧ Z.Warmed39 U.vm ∧ U.heap = h0) (fun _ _ _ _ _ => True) (fun _ U oc U' => ∃ v L, oc = .returned v ∧ Qget Z o bt ln b k w0 w1 w2 h0 n0 v U'.heap L ∧ FrameEnd U oc U' L ({ frames := 0, cells := 0, slots := 0, locals := 0 } : Room).cells ({ frames := 0, cells := 0, slots := 0, locals := 0 } : Room).slots) := by
  refine MetFree.of_bodySF (plainFor_of_name pnget) hisR ?_
  intro p e s m args below meth c s₁ Bd hml0 hP hK
  obtain ⟨rfl, hZ, hh⟩ := hP
  have hx := Bd.exec
  have hby := Bd.bytes
  have hml : c.maxLocals = 8 := hml0
  have hown : s.vm.findClass "com/example/paranhos/paranhos/BitArray" = some m.cls := findClass_of_methodNamed Bd.named
  have hnm := (name_of_methodNamed Bd.named Bd.method).1
  have X0 : Stand p l e ({ frames := 0, cells := 0, slots := 0, locals := 0 } : Room) s m #[(.ref o), (.long bt), (.int ln)] below meth c s₁ [] 0 0 := Stand.of_body Bd
  have e0 : s₁.heap = h0 := by rw [← hh, Bd.state]; rfl
  have N0 := Fr.nil n0
  show own_Go p e below (fun s₂ oc => ∃ v L, oc = .returned v ∧ Qget Z o bt ln b k w0 w1 w2 h0 n0 v s₂.heap L ∧ FrameEnd s oc s₂ L ({ frames := 0, cells := 0, slots := 0, locals := 0 } : Room).cells ({ frames := 0, cells := 0, slots := 0, locals := 0 } : Room).slots) s₁ (entryFrame m #[(.ref o), (.long bt), (.int ln)] 8)
  have B62 : ∀ (TB : State) (Lc : List Loc) (XB : Stand p l e ({ frames := 0, cells := 0, slots := 0, locals := 0 } : Room) s m #[(.ref o), (.long bt), (.int ln)] below meth c TB Lc 0 0) (eB : TB.heap = h0) (NB : Fr n0 Lc) (i4 : Int32) (i5 : Int32) (j6 : Int64), own_get bt ln w0 w1 w2 = own_get_62 bt ln w0 w1 w2 i4 i5 j6 → own_Go p e below (fun s₂ oc => ∃ v L, oc = .returned v ∧ Qget Z o bt ln b k w0 w1 w2 h0 n0 v s₂.heap L ∧ FrameEnd s oc s₂ L ({ frames := 0, cells := 0, slots := 0, locals := 0 } : Room).cells ({ frames := 0, cells := 0, slots := 0, locals := 0 } : Room).slots) TB (mkF m 62 #[.val (.ref o), .val (.long bt), .second, .val (.int ln), .val (.int i4), .val (.int i5), .val (.long j6), .second] []) := by
    intro TB Lc XB eB NB i4 i5 j6 hv
    refine og_iloadN (pc' := 63) XB hx (hb hby d6_62) rfl rfl ?_
    refine og_bipush (pc' := 65) (n := 64) XB hx (hb hby d6_63) rfl rfl ?_
    by_cases hc65_1 : ln = (64 : Int32)
    · have hv := hv.trans (if_pos hc65_1)
      refine og_icmpNo (pc' := 68) XB hx (hb hby d6_65) (teq hc65_1).2 rfl ?_
      refine og_lload (pc' := 70) XB hx (hb hby d6_68) rfl rfl ?_
      refine og_goto (pc' := 81) XB hx (hb hby d6_70) (by decide) (by decide) ?_
      obtain ⟨fs, hr, hrun, hended, hW, hsame⟩ := XB.leave (v := some (.long j6)) (fun h => by rw [Bd.returns] at h; cases h) (BodyLoose.notSynchronized Bd)
      refine ⟨_, _, retL XB hx Bd.returns (hb hby d6_81) hr, hrun, hended, some (.long j6), _, rfl, ?_, ⟨_, rfl⟩, hW, hsame.mono (by decide) (by decide)⟩
      show Qget Z o bt ln b k w0 w1 w2 h0 n0 _ TB.heap _
      rw [eB]
      exact ⟨(congrArg (fun z => some (Value.long z)) hv.symm), NB, rfl⟩
    · have hv := hv.trans (if_neg hc65_1)
      refine og_icmpYes (pc' := 73) XB hx (hb hby d6_65) (feq hc65_1).2 (by decide) (by decide) ?_
      refine og_lload (pc' := 75) XB hx (hb hby d6_73) rfl rfl ?_
      refine og_lconst1 (pc' := 76) XB hx (hb hby d6_75) rfl ?_
      refine og_iloadN (pc' := 77) XB hx (hb hby d6_76) rfl rfl ?_
      refine og_lshl (pc' := 78) XB hx (hb hby d6_77) rfl ?_
      refine og_lconst1 (pc' := 79) XB hx (hb hby d6_78) rfl ?_
      refine og_lsub (pc' := 80) XB hx (hb hby d6_79) rfl ?_
      refine og_land (pc' := 81) XB hx (hb hby d6_80) rfl ?_
      obtain ⟨fs, hr, hrun, hended, hW, hsame⟩ := XB.leave (v := some (.long (j6 &&& (((1 : Int64) <<< (ln &&& 0x3f).toInt64) - (1 : Int64))))) (fun h => by rw [Bd.returns] at h; cases h) (BodyLoose.notSynchronized Bd)
      refine ⟨_, _, retL XB hx Bd.returns (hb hby d6_81) hr, hrun, hended, some (.long (j6 &&& (((1 : Int64) <<< (ln &&& 0x3f).toInt64) - (1 : Int64)))), _, rfl, ?_, ⟨_, rfl⟩, hW, hsame.mono (by decide) (by decide)⟩
      show Qget Z o bt ln b k w0 w1 w2 h0 n0 _ TB.heap _
      rw [eB]
      exact ⟨(congrArg (fun z => some (Value.long z)) hv.symm), NB, rfl⟩
  refine own_Go.of (g' := mkF m 0 #[.val (.ref o), .val (.long bt), .second, .val (.int ln), .unset, .unset, .unset, .unset] []) (fun t k => castTop (efget m o bt ln) k) ?_
  have hv : own_get bt ln w0 w1 w2 = own_get bt ln w0 w1 w2 := rfl
  refine og_iloadN (pc' := 1) X0 hx (hb hby d6_0) rfl rfl ?_
  by_cases hc1_2 : ln = (0 : Int32)
  · have hv := hv.trans (if_pos hc1_2)
    refine og_ifNo (pc' := 4) X0 hx (hb hby d6_1) ((if0 _ _).trans (teq hc1_2).2) rfl ?_
    refine og_lconst0 (pc' := 5) X0 hx (hb hby d6_4) rfl ?_
    obtain ⟨fs, hr, hrun, hended, hW, hsame⟩ := X0.leave (v := some (.long (0 : Int64))) (fun h => by rw [Bd.returns] at h; cases h) (BodyLoose.notSynchronized Bd)
    refine ⟨_, _, retL X0 hx Bd.returns (hb hby d6_5) hr, hrun, hended, some (.long (0 : Int64)), _, rfl, ?_, ⟨_, rfl⟩, hW, hsame.mono (by decide) (by decide)⟩
    show Qget Z o bt ln b k w0 w1 w2 h0 n0 _ s₁.heap _
    rw [e0]
    exact ⟨(congrArg (fun z => some (Value.long z)) hv.symm), N0, rfl⟩
  · have hv := hv.trans (if_neg hc1_2)
    refine og_ifYes (pc' := 6) X0 hx (hb hby d6_1) ((if0 _ _).trans (feq hc1_2).2) (by decide) (by decide) ?_
    refine og_lloadN (pc' := 7) X0 hx (hb hby d6_6) rfl rfl ?_
    refine og_bipush (pc' := 9) (n := 6) X0 hx (hb hby d6_7) rfl rfl ?_
    refine og_lushr (pc' := 10) X0 hx (hb hby d6_9) rfl ?_
    refine own_Go.of (g' := (mkF m 11 #[.val (.ref o), .val (.long bt), .second, .val (.int ln), .unset, .unset, .unset, .unset] [(.int (own_ix bt))])) (fun t k => XS.l2i X0.here hx rfl (hb hby d6_10) rfl k) ?_
    refine og_istore (pc' := 13) (L' := #[.val (.ref o), .val (.long bt), .second, .val (.int ln), .val (.int (own_ix bt)), .unset, .unset, .unset]) X0 hx (hb hby d6_11) rfl rfl ?_
    refine og_lloadN (pc' := 14) X0 hx (hb hby d6_13) rfl rfl ?_
    refine og_ldc2_w (pc' := 17) X0 hx (hb hby d6_14) hown (mvT hZ (hw _ (List.mem_of_getElem? (i := 27) rfl))) rfl ?_
    refine og_land (pc' := 18) X0 hx (hb hby d6_17) rfl ?_
    refine own_Go.of (g' := (mkF m 19 #[.val (.ref o), .val (.long bt), .second, .val (.int ln), .val (.int (own_ix bt)), .unset, .unset, .unset] [(.int (own_of bt))])) (fun t k => XS.l2i X0.here hx rfl (hb hby d6_18) rfl k) ?_
    refine og_istore (pc' := 21) (L' := #[.val (.ref o), .val (.long bt), .second, .val (.int ln), .val (.int (own_ix bt)), .val (.int (own_of bt)), .unset, .unset]) X0 hx (hb hby d6_19) rfl rfl ?_
    refine og_aloadN (pc' := 22) X0 hx (hb hby d6_21) rfl rfl rfl ?_
    obtain ⟨T1, X1, e1, st1⟩ := getF X0 hx hZ hown (host := "") (Or.inl (hw _ (List.mem_of_getElem? (i := 18) rfl))) Via.refl e0 F_o (g := (mkF m 22 #[.val (.ref o), .val (.long bt), .second, .val (.int ln), .val (.int (own_ix bt)), .val (.int (own_of bt)), .unset, .unset] [(.ref o)])) rfl rfl (hb hby d6_22)
    refine own_Go.of (g' := (mkF m 25 #[.val (.ref o), .val (.long bt), .second, .val (.int ln), .val (.int (own_ix bt)), .val (.int (own_of bt)), .unset, .unset] [(.ref b)])) (fun t k => st1 _ k) ?_
    refine og_iload (pc' := 27) X1 hx (hb hby d6_25) rfl rfl ?_
    obtain ⟨cl2, Ar2, q2, S2, M2, H2, G2⟩ := id V_b
    have hin2 : ¬ ((own_ix bt) < 0 ∨ cl2.slots.size ≤ ((own_ix bt)).toNatClampNeg) := inb_of S2 (own_in0 hok hc1_2)
    have hat2 : cl2.slots[((own_ix bt)).toNatClampNeg]? = some (.long (own_sel (own_ix bt) w0 w1 w2)) := Has.at H2 hin2 (own_getD3 (own_in0 hok hc1_2))
    refine own_Go.of (g' := (mkF m 28 #[.val (.ref o), .val (.long bt), .second, .val (.int ln), .val (.int (own_ix bt)), .val (.int (own_of bt)), .unset, .unset] [(.long (own_sel (own_ix bt) w0 w1 w2))])) (fun t k => X1.laload hx (j := (own_ix bt)) (v := (.long (own_sel (own_ix bt) w0 w1 w2))) (by rw [e1]; exact Ar2.1) (State.isArrayOf_alike hZ.alike Ar2.2.1) Ar2.2.2 hin2 hat2 (g := (mkF m 27 #[.val (.ref o), .val (.long bt), .second, .val (.int ln), .val (.int (own_ix bt)), .val (.int (own_of bt)), .unset, .unset] [(.int (own_ix bt)), (.ref b)])) rfl rfl (hb hby d6_27) _ k) ?_
    refine og_iload (pc' := 30) X1 hx (hb hby d6_28) rfl rfl ?_
    refine og_lushr (pc' := 31) X1 hx (hb hby d6_30) rfl ?_
    refine og_lstore (pc' := 33) (L' := #[.val (.ref o), .val (.long bt), .second, .val (.int ln), .val (.int (own_ix bt)), .val (.int (own_of bt)), .val (.long (((own_sel (own_ix bt) w0 w1 w2).toUInt64 >>> ((own_of bt) &&& 0x3f).toInt64.toUInt64).toInt64)), .second]) X1 hx (hb hby d6_31) rfl rfl ?_
    refine og_iload (pc' := 35) X1 hx (hb hby d6_33) rfl rfl ?_
    refine og_iloadN (pc' := 36) X1 hx (hb hby d6_35) rfl rfl ?_
    refine og_iadd (pc' := 37) X1 hx (hb hby d6_36) rfl ?_
    refine og_bipush (pc' := 39) (n := 64) X1 hx (hb hby d6_37) rfl rfl ?_
    by_cases hc39_3 : (64 : Int32) < ((own_of bt) + ln)
    · have hv := hv.trans (if_pos hc39_3)
      refine og_icmpNo (pc' := 42) X1 hx (hb hby d6_39) (tlt hc39_3).2.2.2 rfl ?_
      refine og_lload (pc' := 44) X1 hx (hb hby d6_42) rfl rfl ?_
      refine og_aloadN (pc' := 45) X1 hx (hb hby d6_44) rfl rfl rfl ?_
      obtain ⟨T3, X3, e3, st3⟩ := getF X1 hx hZ hown (host := "") (Or.inl (hw _ (List.mem_of_getElem? (i := 18) rfl))) Via.refl e1 F_o (g := (mkF m 45 #[.val (.ref o), .val (.long bt), .second, .val (.int ln), .val (.int (own_ix bt)), .val (.int (own_of bt)), .val (.long (((own_sel (own_ix bt) w0 w1 w2).toUInt64 >>> ((own_of bt) &&& 0x3f).toInt64.toUInt64).toInt64)), .second] [(.ref o), (.long (((own_sel (own_ix bt) w0 w1 w2).toUInt64 >>> ((own_of bt) &&& 0x3f).toInt64.toUInt64).toInt64))])) rfl rfl (hb hby d6_45)
      refine own_Go.of (g' := (mkF m 48 #[.val (.ref o), .val (.long bt), .second, .val (.int ln), .val (.int (own_ix bt)), .val (.int (own_of bt)), .val (.long (((own_sel (own_ix bt) w0 w1 w2).toUInt64 >>> ((own_of bt) &&& 0x3f).toInt64.toUInt64).toInt64)), .second] [(.ref b), (.long (((own_sel (own_ix bt) w0 w1 w2).toUInt64 >>> ((own_of bt) &&& 0x3f).toInt64.toUInt64).toInt64))])) (fun t k => st3 _ k) ?_
      refine og_iload (pc' := 50) X3 hx (hb hby d6_48) rfl rfl ?_
      refine og_iconst (pc' := 51) (n := 1) X3 hx (hb hby d6_50) rfl rfl ?_
      refine og_iadd (pc' := 52) X3 hx (hb hby d6_51) rfl ?_
      obtain ⟨cl4, Ar4, q4, S4, M4, H4, G4⟩ := id V_b
      have hin4 : ¬ (((own_ix bt) + (1 : Int32)) < 0 ∨ cl4.slots.size ≤ (((own_ix bt) + (1 : Int32))).toNatClampNeg) := inb_of S4 (own_in1 hok hc39_3)
      have hat4 : cl4.slots[(((own_ix bt) + (1 : Int32))).toNatClampNeg]? = some (.long (own_sel ((own_ix bt) + (1 : Int32)) w0 w1 w2)) := Has.at H4 hin4 (own_getD3 (own_in1 hok hc39_3))
      refine own_Go.of (g' := (mkF m 53 #[.val (.ref o), .val (.long bt), .second, .val (.int ln), .val (.int (own_ix bt)), .val (.int (own_of bt)), .val (.long (((own_sel (own_ix bt) w0 w1 w2).toUInt64 >>> ((own_of bt) &&& 0x3f).toInt64.toUInt64).toInt64)), .second] [(.long (own_sel ((own_ix bt) + (1 : Int32)) w0 w1 w2)), (.long (((own_sel (own_ix bt) w0 w1 w2).toUInt64 >>> ((own_of bt) &&& 0x3f).toInt64.toUInt64).toInt64))])) (fun t k => X3.laload hx (j := ((own_ix bt) + (1 : Int32))) (v := (.long (own_sel ((own_ix bt) + (1 : Int32)) w0 w1 w2))) (by rw [e3]; exact Ar4.1) (State.isArrayOf_alike hZ.alike Ar4.2.1) Ar4.2.2 hin4 hat4 (g := (mkF m 52 #[.val (.ref o), .val (.long bt), .second, .val (.int ln), .val (.int (own_ix bt)), .val (.int (own_of bt)), .val (.long (((own_sel (own_ix bt) w0 w1 w2).toUInt64 >>> ((own_of bt) &&& 0x3f).toInt64.toUInt64).toInt64)), .second] [(.int ((own_ix bt) + (1 : Int32))), (.ref b), (.long (((own_sel (own_ix bt) w0 w1 w2).toUInt64 >>> ((own_of bt) &&& 0x3f).toInt64.toUInt64).toInt64))])) rfl rfl (hb hby d6_52) _ k) ?_
      refine og_bipush (pc' := 55) (n := 64) X3 hx (hb hby d6_53) rfl rfl ?_
      refine og_iload (pc' := 57) X3 hx (hb hby d6_55) rfl rfl ?_
      refine og_isub (pc' := 58) X3 hx (hb hby d6_57) rfl ?_
      refine og_lshl (pc' := 59) X3 hx (hb hby d6_58) rfl ?_
      refine og_lor (pc' := 60) X3 hx (hb hby d6_59) rfl ?_
      refine og_lstore (pc' := 62) (L' := #[.val (.ref o), .val (.long bt), .second, .val (.int ln), .val (.int (own_ix bt)), .val (.int (own_of bt)), .val (.long ((((own_sel (own_ix bt) w0 w1 w2).toUInt64 >>> ((own_of bt) &&& 0x3f).toInt64.toUInt64).toInt64) ||| ((own_sel ((own_ix bt) + (1 : Int32)) w0 w1 w2) <<< (((64 : Int32) - (own_of bt)) &&& 0x3f).toInt64))), .second]) X3 hx (hb hby d6_60) rfl rfl ?_
      exact B62 T3 _ X3 e3 N0 (own_ix bt) (own_of bt) ((((own_sel (own_ix bt) w0 w1 w2).toUInt64 >>> ((own_of bt) &&& 0x3f).toInt64.toUInt64).toInt64) ||| ((own_sel ((own_ix bt) + (1 : Int32)) w0 w1 w2) <<< (((64 : Int32) - (own_of bt)) &&& 0x3f).toInt64)) hv
    · have hv := hv.trans (if_neg hc39_3)
      refine og_icmpYes (pc' := 62) X1 hx (hb hby d6_39) (flt hc39_3).2.2.2 (by decide) (by decide) ?_
      exact B62 T1 _ X1 e1 N0 (own_ix bt) (own_of bt) (((own_sel (own_ix bt) w0 w1 w2).toUInt64 >>> ((own_of bt) &&& 0x3f).toInt64.toUInt64).toInt64) hv

theorem own_toNat64 {k : Int32} {n : Nat} (h : k.toInt = (n : Int)) (hn : n < 64) : k.toBitVec.toNat % 64 = n := by
  have e : k.toInt = k.toBitVec.toInt := rfl
  rw [e, BitVec.toInt_eq_toNat_cond] at h
  have := k.toBitVec.isLt
  split at h <;> omega
theorem own_shr {x : Int64} {k : Int32} {n : Nat} (h : k.toInt = (n : Int)) (hn : n < 64) : ((x.toUInt64 >>> (k &&& 0x3f).toInt64.toUInt64).toInt64).toBitVec = x.toBitVec >>> n := by
  obtain ⟨h1, h2⟩ := sm64 k n (own_toNat64 h hn)
  have e : ((x.toUInt64 >>> (k &&& 0x3f).toInt64.toUInt64).toInt64).toBitVec = x.toBitVec >>> ((k &&& 0x3f).toInt64.toBitVec % 64) := rfl
  rw [e, h1]
  have e2 : (BitVec.ofNat 64 n % 64) = BitVec.ofNat 64 n := by
    apply BitVec.eq_of_toNat_eq
    simp [BitVec.toNat_umod]
    omega
  rw [e2]
  show x.toBitVec >>> (BitVec.ofNat 64 n).toNat = _
  congr 1
  simp
  omega
theorem own_shl {x : Int64} {k : Int32} {n : Nat} (h : k.toInt = (n : Int)) (hn : n < 64) : (x <<< (k &&& 0x3f).toInt64).toBitVec = x.toBitVec <<< n := by
  obtain ⟨h1, h2⟩ := sm64 k n (own_toNat64 h hn)
  have e : (x <<< (k &&& 0x3f).toInt64).toBitVec = x.toBitVec <<< ((k &&& 0x3f).toInt64.toBitVec.smod 64) := rfl
  rw [e, h1]
  show x.toBitVec <<< ((BitVec.ofNat 64 n).smod 64).toNat = _
  rw [smod64 n hn]
theorem own_mbit {k : Int32} {n : Nat} (h : k.toInt = (n : Int)) (hn : n < 64) (i : Nat) (hi : i < 64) : (((1 : Int64) <<< (k &&& 0x3f).toInt64) - (1 : Int64)).toBitVec.getLsbD i = decide (i < n) := by
  rw [Int64.toBitVec_sub, own_shl h hn]
  have e : ((1 : Int64).toBitVec <<< n - (1 : Int64).toBitVec) = BitVec.ofNat 64 (2 ^ n - 1) := by
    apply BitVec.eq_of_toNat_eq
    have h1 : (1 : Int64).toBitVec = 1#64 := rfl
    rw [h1]
    have p : 2 ^ n < 2 ^ 64 := Nat.pow_lt_pow_right (by decide) hn
    have p1 : 1 ≤ 2 ^ n := Nat.one_le_two_pow
    simp only [BitVec.toNat_sub, BitVec.toNat_shiftLeft, BitVec.toNat_ofNat, Nat.shiftLeft_eq]
    have e2 : 1 % 2 ^ 64 = 1 := by decide
    rw [e2, Nat.one_mul, Nat.mod_eq_of_lt p, Nat.mod_eq_of_lt (show 2 ^ n - 1 < 2 ^ 64 by omega)]
    omega
  rw [e, BitVec.getLsbD_ofNat]
  simp [hi, Nat.testBit_two_pow_sub_one]
theorem own_m1bit (i : Nat) (hi : i < 64) : (-1 : Int64).toBitVec.getLsbD i = true := by
  have e : (-1 : Int64).toBitVec = BitVec.allOnes 64 := rfl
  rw [e, BitVec.getLsbD_allOnes]; simp [hi]
theorem own_ext {x y : Int64} (h : ∀ i, i < 64 → x.toBitVec.getLsbD i = y.toBitVec.getLsbD i) : x = y :=
  Int64.toBitVec_inj.mp (BitVec.eq_of_getLsbD_eq h)
def own_w (k : Nat) (w0 w1 w2 : Int64) : Int64 := if k = 0 then w0 else if k = 1 then w1 else w2
theorem own_sel_w {j : Int32} {k : Nat} (h : j.toInt = (k : Int)) (w0 w1 w2 : Int64) : own_sel j w0 w1 w2 = own_w k w0 w1 w2 := by
  unfold own_sel own_w
  have e0 : (j = (0 : Int32)) ↔ k = 0 := by rw [← Int32.toInt_inj, own_i0, h]; omega
  have e1 : (j = (1 : Int32)) ↔ k = 1 := by rw [← Int32.toInt_inj, own_i1, h]; omega
  simp only [e0, e1]

theorem own_get62_bit (bt : Int64) (ln : Int32) (w0 w1 w2 : Int64) (i4 i5 : Int32) (r : Int64) {N : Nat} (hN : ln.toInt = (N : Int)) (h64 : N ≤ 64) (i : Nat) (hi : i < 64) :
    (own_get_62 bt ln w0 w1 w2 i4 i5 r).toBitVec.getLsbD i = (decide (i < N) && r.toBitVec.getLsbD i) := by
  unfold own_get_62
  by_cases h : ln = (64 : Int32)
  · rw [if_pos h]
    have e : N = 64 := by rw [← Int32.toInt_inj, own_i64, hN] at h; omega
    subst e; simp [hi]
  · rw [if_neg h]
    have e : N < 64 := by rw [← Int32.toInt_inj, own_i64, hN] at h; omega
    rw [Int64.toBitVec_and, BitVec.getLsbD_and, own_mbit hN e i hi, Bool.and_comm]
theorem own_get_bit {bt : Int64} {ln : Int32} (w0 w1 w2 : Int64) {B N : Nat} (hB : bt.toInt = (B : Int)) (hN : ln.toInt = (N : Int)) (h64 : N ≤ 64) (hle : B + N ≤ 192) (i : Nat) (hi : i < 64) :
    (own_get bt ln w0 w1 w2).toBitVec.getLsbD i = (decide (i < N) && (own_w ((B + i) / 64) w0 w1 w2).toBitVec.getLsbD ((B + i) % 64)) := by
  unfold own_get
  by_cases hz : ln = (0 : Int32)
  · rw [if_pos hz]
    have e : N = 0 := by rw [← Int32.toInt_inj, own_i0, hN] at hz; omega
    subst e
    have e0 : (0 : Int64).toBitVec = 0#64 := rfl
    rw [e0]; simp
  · rw [if_neg hz]
    have hN0 : N ≠ 0 := by intro q; apply hz; rw [← Int32.toInt_inj, own_i0, hN, q]; rfl
    have qo : (own_of bt).toInt = ((B % 64 : Nat) : Int) := by rw [own_of_val, hB]; omega
    have qi : (own_ix bt).toInt = ((B / 64 : Nat) : Int) := by rw [own_ix_val (by omega) (by omega), hB]; omega
    have qs := c_iadd (own_of bt) ln
    have rs := rng32 ((own_of bt) + ln)
    have e1 := own_shr (x := own_sel (own_ix bt) w0 w1 w2) qo (by omega)
    by_cases hc : (64 : Int32) < ((own_of bt) + ln)
    · rw [if_pos hc, own_get62_bit _ _ _ _ _ _ _ _ hN h64 i hi]
      rw [Int32.lt_iff_toInt_lt, own_i64] at hc
      have hcr : 64 < B % 64 + N := by omega
      have q1 := c_iadd (own_ix bt) (1 : Int32)
      rw [own_i1] at q1
      have r1 := rng32 ((own_ix bt) + (1 : Int32))
      have qi1 : ((own_ix bt) + (1 : Int32)).toInt = ((B / 64 + 1 : Nat) : Int) := by omega
      have q2 := c_isub (64 : Int32) (own_of bt)
      rw [own_i64] at q2
      have r2 := rng32 ((64 : Int32) - (own_of bt))
      have qd : ((64 : Int32) - (own_of bt)).toInt = ((64 - B % 64 : Nat) : Int) := by omega
      have e2 := own_shl (x := own_sel ((own_ix bt) + (1 : Int32)) w0 w1 w2) qd (by omega)
      rw [Int64.toBitVec_or, BitVec.getLsbD_or, e1, e2, BitVec.getLsbD_ushiftRight, BitVec.getLsbD_shiftLeft, own_sel_w qi, own_sel_w qi1]
      by_cases hiN : i < N
      · by_cases hs : B % 64 + i < 64
        · have a1 : (B + i) / 64 = B / 64 := by omega
          have a2 : (B + i) % 64 = B % 64 + i := by omega
          have a3 : i < 64 - B % 64 := by omega
          rw [a1, a2]; simp [hiN, a3]
        · have a1 : (B + i) / 64 = B / 64 + 1 := by omega
          have a2 : (B + i) % 64 = i - (64 - B % 64) := by omega
          have a3 : ¬ i < 64 - B % 64 := by omega
          rw [a1, a2, BitVec.getLsbD_of_ge (own_w (B / 64) w0 w1 w2).toBitVec (B % 64 + i) (by omega)]; simp [hiN, a3, hi]
      · simp [hiN]
    · rw [if_neg hc, own_get62_bit _ _ _ _ _ _ _ _ hN h64 i hi]
      rw [Int32.lt_iff_toInt_lt, own_i64] at hc
      have hcr : B % 64 + N ≤ 64 := by omega
      rw [e1, BitVec.getLsbD_ushiftRight, own_sel_w qi]
      by_cases hiN : i < N
      · have a1 : (B + i) / 64 = B / 64 := by omega
        have a2 : (B + i) % 64 = B % 64 + i := by omega
        rw [a1, a2]
      · simp [hiN]

theorem own_n {x n : Int32} (h : ((x &&& (2147483647 : Int32)) % (65 : Int32)) = n) : 0 ≤ n.toInt ∧ n.toInt ≤ 64 := by
  have q := c_mask x (2147483647 : Int32) 31 (by decide) (by decide)
  have e : ((2 ^ 31 : Nat) : Int) = 2147483648 := by decide
  rw [e] at q
  have q1 := (c_irem (x &&& (2147483647 : Int32)) (65 : Int32) 65 (by decide)).1 (by omega)
  rw [h] at q1
  omega
theorem own_193v {n : Int32} (r : 0 ≤ n.toInt ∧ n.toInt ≤ 64) : ((193 : Int32) - n).toInt = 193 - n.toInt := by
  have q := c_isub (193 : Int32) n
  have e : (193 : Int32).toInt = 193 := by decide
  rw [e] at q
  have := rng32 ((193 : Int32) - n)
  omega
theorem own_193 {n : Int32} (r : 0 ≤ n.toInt ∧ n.toInt ≤ 64) : ((193 : Int32) - n) ≠ 0 := by
  intro h
  have q := own_193v r
  rw [h, own_i0] at q
  omega
theorem own_okb {x n : Int32} {bt : Int64} (r : 0 ≤ n.toInt ∧ n.toInt ≤ 64) (h : (((x &&& (2147483647 : Int32)) % ((193 : Int32) - n)).toInt64) = bt) : own_ok bt n := by
  have q := c_mask x (2147483647 : Int32) 31 (by decide) (by decide)
  have e : ((2 ^ 31 : Nat) : Int) = 2147483648 := by decide
  rw [e] at q
  have q1 := (c_irem (x &&& (2147483647 : Int32)) ((193 : Int32) - n) _ (own_193v r)).1 (by omega)
  have q2 := c_i2l ((x &&& (2147483647 : Int32)) % ((193 : Int32) - n))
  rw [h] at q2
  have q3 := Int.emod_lt_of_pos (x &&& (2147483647 : Int32)).toInt (show 0 < 193 - n.toInt by omega)
  have q4 := Int.emod_nonneg (x &&& (2147483647 : Int32)).toInt (show 193 - n.toInt ≠ 0 by omega)
  unfold own_ok
  omega
theorem own_j {x n jj : Int32} (r : 0 ≤ n.toInt ∧ n.toInt ≤ 64) (h : ((x &&& (2147483647 : Int32)) % n) = jj) (hz : ¬ n = (0 : Int32)) : 0 ≤ jj.toInt ∧ jj.toInt < n.toInt := by
  rw [← Int32.toInt_inj, own_i0] at hz
  have q := c_mask x (2147483647 : Int32) 31 (by decide) (by decide)
  have e : ((2 ^ 31 : Nat) : Int) = 2147483648 := by decide
  rw [e] at q
  have q1 := (c_irem (x &&& (2147483647 : Int32)) n n.toInt rfl).1 (by omega)
  rw [h] at q1
  have q3 := Int.emod_lt_of_pos (x &&& (2147483647 : Int32)).toInt (show 0 < n.toInt by omega)
  have q4 := Int.emod_nonneg (x &&& (2147483647 : Int32)).toInt (show n.toInt ≠ 0 by omega)
  omega
theorem own_small {bt got w0 w1 w2 : Int64} {n : Int32} (ok : own_ok bt n) (r : 0 ≤ n.toInt ∧ n.toInt ≤ 64) (hg : own_get bt n w0 w1 w2 = got) (hc : n < (64 : Int32)) : ((got.toUInt64 >>> (n &&& 0x3f).toInt64.toUInt64).toInt64) = (0 : Int64) := by
  obtain ⟨h0, h1, h2, h3⟩ := ok
  obtain ⟨B, hB⟩ := Int.eq_ofNat_of_zero_le h0
  obtain ⟨N, hN⟩ := Int.eq_ofNat_of_zero_le h1
  rw [Int32.lt_iff_toInt_lt, own_i64] at hc
  apply own_ext
  intro i hi
  rw [own_shr hN (by omega), BitVec.getLsbD_ushiftRight]
  have e0 : (0 : Int64).toBitVec = 0#64 := rfl
  rw [e0, BitVec.getLsbD_zero]
  by_cases hi2 : N + i < 64
  · rw [← hg, own_get_bit w0 w1 w2 hB hN (by omega) (by omega) (N + i) hi2]
    have nn : ¬ N + i < N := by omega
    simp [nn]
  · exact BitVec.getLsbD_of_ge _ _ (by omega)
theorem own_and1 (x y : Int64) (h : x.toBitVec.getLsbD 0 = y.toBitVec.getLsbD 0) : (x &&& (1 : Int64)) = (y &&& (1 : Int64)) := by
  apply own_ext
  intro i hi
  rw [Int64.toBitVec_and, Int64.toBitVec_and, BitVec.getLsbD_and, BitVec.getLsbD_and]
  have e : (1 : Int64).toBitVec = 1#64 := rfl
  rw [e]
  by_cases hz : i = 0
  · subst hz; rw [h]
  · simp [BitVec.getLsbD_one, hz]
theorem own_final {bt got w0 w1 w2 ps : Int64} {n jj : Int32} (ok : own_ok bt n) (r : 0 ≤ n.toInt ∧ n.toInt ≤ 64) (rj : 0 ≤ jj.toInt ∧ jj.toInt < n.toInt) (hg : own_get bt n w0 w1 w2 = got) (hp : (bt + (jj.toInt64)) = ps) :
    (((got.toUInt64 >>> (jj &&& 0x3f).toInt64.toUInt64).toInt64) &&& (1 : Int64)) = ((((if ps < (64 : Int64) then w0 else (if ps < (128 : Int64) then w1 else w2)).toUInt64 >>> (((ps - (ps / (64 : Int64)) * (64 : Int64)).toInt32) &&& 0x3f).toInt64.toUInt64).toInt64) &&& (1 : Int64)) := by
  obtain ⟨h0, h1, h2, h3⟩ := ok
  obtain ⟨B, hB⟩ := Int.eq_ofNat_of_zero_le h0
  obtain ⟨N, hN⟩ := Int.eq_ofNat_of_zero_le h1
  obtain ⟨j, hj⟩ := Int.eq_ofNat_of_zero_le rj.1
  have q := c_ladd bt (jj.toInt64)
  rw [hp, c_i2l] at q
  have rp := rng64 ps
  have qp : ps.toInt = ((B + j : Nat) : Int) := by omega
  have e64 : (64 : Int64).toInt = 64 := by decide
  have e128 : (128 : Int64).toInt = 128 := by decide
  have ql := (c_lrem ps (64 : Int64) 64 e64).1 (by omega)
  have q2 := c_l2i (ps - (ps / (64 : Int64)) * (64 : Int64))
  have r2 := rng32 ((ps - (ps / (64 : Int64)) * (64 : Int64)).toInt32)
  have qr : ((ps - (ps / (64 : Int64)) * (64 : Int64)).toInt32).toInt = (((B + j) % 64 : Nat) : Int) := by omega
  apply own_and1
  rw [own_shr hj (by omega), own_shr qr (by omega), BitVec.getLsbD_ushiftRight, BitVec.getLsbD_ushiftRight, Nat.add_zero, Nat.add_zero, ← hg, own_get_bit w0 w1 w2 hB hN (by omega) (by omega) j (by omega)]
  have hjN : j < N := by omega
  have ew : (if ps < (64 : Int64) then w0 else (if ps < (128 : Int64) then w1 else w2)) = own_w ((B + j) / 64) w0 w1 w2 := by
    unfold own_w
    have a : (ps < (64 : Int64)) ↔ (B + j) / 64 = 0 := by rw [Int64.lt_iff_toInt_lt, e64, qp]; omega
    have b : (ps < (128 : Int64)) ↔ (B + j) / 64 < 2 := by rw [Int64.lt_iff_toInt_lt, e128, qp]; omega
    by_cases c0 : (B + j) / 64 = 0
    · rw [if_pos (a.mpr c0), if_pos c0]
    · rw [if_neg (mt a.mp c0), if_neg c0]
      by_cases c1 : (B + j) / 64 = 1
      · rw [if_pos (b.mpr (by omega)), if_pos c1]
      · rw [if_neg (fun z => by have := b.mp z; omega), if_neg c1]
  rw [ew]
  simp [hjN]

theorem pn0 : plainName "com/example/paranhos/paranhos/BitArrayGetPinLaw" = true := by first | (simp [plainName, overriddenIn]; done) | decide +kernel
theorem pd_2 : parseMethodDescriptor "(J)V" = some ⟨[.long], none⟩ := by decide +kernel
theorem pd_3 : parseMethodDescriptor "(JIJ)V" = some ⟨[.long, .int, .long], none⟩ := by decide +kernel
theorem pd_4 : parseMethodDescriptor "(JI)J" = some ⟨[.long, .int], some .long⟩ := by decide +kernel
theorem ef0 (m : MethodId) (z0 : Int64) (z1 : Int64) (z2 : Int64) (z3 : Int32) (z4 : Int32) (z5 : Int32) : entryFrame m #[(.long z0), (.long z1), (.long z2), (.int z3), (.int z4), (.int z5)] maxLocals = mkF m 0 #[.val (.long z0), .second, .val (.long z1), .second, .val (.long z2), .second, .val (.int z3), .val (.int z4), .val (.int z5), .unset, .unset, .unset, .unset, .unset, .unset, .unset, .unset, .unset, .unset, .unset, .unset, .unset] [] := by first | (simp [entryFrame, mkF, argsToLocals, Value.category, maxLocals]; done) | rfl
def Q0 (Z : State) (x0 : Int64) (x1 : Int64) (x2 : Int64) (x3 : Int32) (x4 : Int32) (x5 : Int32) (h0 : Heap) (n0 : Nat) (v : Option Value) (h : Heap) (L : List Loc) : Prop := v = some (.int 1) ∧ Fr n0 L
set_option maxRecDepth 65536 in
set_option maxHeartbeats 40000000 in
theorem rm0 (l : Launch) (Z : State) (a0 : Array Value) (hw : ∀ d ∈ tables_1, d.before a0 Z = true) (ws : List Jvm.Cond) (x0 : Int64) (x1 : Int64) (x2 : Int64) (x3 : Int32) (x4 : Int32) (x5 : Int32) (h0 : Heap) (n0 : Nat) (Z0 : n0 ≤ h0.size) :
    MetFree l x (head1 (Jvm.Cond.code x code maxLocals ret :: ws) room_1) (fun a U => a = #[(.long x0), (.long x1), (.long x2), (.int x3), (.int x4), (.int x5)] ∧ Z.Warmed39 U.vm ∧ U.heap = h0) (fun _ _ _ _ _ => True) (fun _ U oc U' => ∃ v L, oc = .returned v ∧ Q0 Z x0 x1 x2 x3 x4 x5 h0 n0 v U'.heap L ∧ FrameEnd U oc U' L room_1.cells room_1.slots) := by
  refine MetFree.of_bodySF (plainFor_of_name pn0) hisR ?_
  intro p e s m args below meth c s₁ Bd hml0 hP hK
  obtain ⟨rfl, hZ, hh⟩ := hP
  have hx := Bd.exec
  have hby := Bd.bytes
  have hml : c.maxLocals = 22 := hml0
  have hown : s.vm.findClass "com/example/paranhos/paranhos/BitArrayGetPinLaw" = some m.cls := findClass_of_methodNamed Bd.named
  have hnm := (name_of_methodNamed Bd.named Bd.method).1
  have X0 : Stand p l e room_1 s m #[(.long x0), (.long x1), (.long x2), (.int x3), (.int x4), (.int x5)] below meth c s₁ [] 0 0 := Stand.of_body Bd
  have e0 : s₁.heap = h0 := by rw [← hh, Bd.state]; rfl
  have N0 := Fr.nil n0
  show own_Go p e below (fun s₂ oc => ∃ v L, oc = .returned v ∧ Q0 Z x0 x1 x2 x3 x4 x5 h0 n0 v s₂.heap L ∧ FrameEnd s oc s₂ L room_1.cells room_1.slots) s₁ (entryFrame m #[(.long x0), (.long x1), (.long x2), (.int x3), (.int x4), (.int x5)] maxLocals)
  refine own_Go.of (g' := mkF m 0 #[.val (.long x0), .second, .val (.long x1), .second, .val (.long x2), .second, .val (.int x3), .val (.int x4), .val (.int x5), .unset, .unset, .unset, .unset, .unset, .unset, .unset, .unset, .unset, .unset, .unset, .unset, .unset] []) (fun t k => castTop (ef0 m x0 x1 x2 x3 x4 x5) k) ?_
  obtain ⟨T1, h1, X1, e1, E1, A1, D1, -, st1⟩ := newO X0 hx hZ hown (hw _ (List.mem_of_getElem? (i := 0) rfl)) (hw _ (List.mem_of_getElem? (i := 1) rfl)) (hw _ (List.mem_of_getElem? (i := 2) rfl)) e0 (g := (mkF m 0 #[.val (.long x0), .second, .val (.long x1), .second, .val (.long x2), .second, .val (.int x3), .val (.int x4), .val (.int x5), .unset, .unset, .unset, .unset, .unset, .unset, .unset, .unset, .unset, .unset, .unset, .unset, .unset] [])) rfl (hb hby at_0) (by decide) (by decide)
  obtain ⟨b1, g1⟩ : ∃ z, z = h0.size := ⟨_, rfl⟩
  rw [← g1] at A1 D1 st1
  have g_b1 : n0 ≤ b1 := Nat.le_trans Z0 (Nat.le_of_eq g1.symm)
  have sz_b1 : h0.size ≤ b1 := Nat.le_trans (Keep.refl h0 []).1 (Nat.le_of_eq g1.symm)
  have F1_words : Fld Z h1 b1 "com/example/paranhos/paranhos/BitArray" "words" "[J" .null := D1 (Or.inr (hw _ (List.mem_of_getElem? (i := 19) rfl))) (ty := (.array .long)) (by decide)
  have F1_length : Fld Z h1 b1 "com/example/paranhos/paranhos/BitArray" "length" "J" (.long (0 : Int64)) := D1 (Or.inr (hw _ (List.mem_of_getElem? (i := 21) rfl))) (ty := .long) (by decide)
  have K1 : Keep h0 h1 [] := (Keep.refl h0 []).ext E1
  have Z1 : n0 ≤ h1.size := Nat.le_trans Z0 K1.1
  refine own_Go.of (g' := (mkF m 3 #[.val (.long x0), .second, .val (.long x1), .second, .val (.long x2), .second, .val (.int x3), .val (.int x4), .val (.int x5), .unset, .unset, .unset, .unset, .unset, .unset, .unset, .unset, .unset, .unset, .unset, .unset, .unset] [(.ref b1)])) (fun t k => st1 _ k) ?_
  refine og_dup (pc' := 4) X1 hx (hb hby at_3) rfl rfl ?_
  refine og_ldc2_w (pc' := 7) X1 hx (hb hby at_4) hown (mvT hZ (hw _ (List.mem_of_getElem? (i := 3) rfl))) rfl ?_
  obtain ⟨_, _, ⟨T2, L2, k2, n2⟩, -, X2, ⟨Lc2, hQ2, l2, y2, z2⟩, st2⟩ := X1.specialBack hx (y := (⟨"com/example/paranhos/paranhos/BitArray", "<init>", "(J)V"⟩ : MethodName)) rfl hown (mvT hZ (hw _ (List.mem_of_getElem? (i := 4) rfl))) (mvT hZ (hw _ (List.mem_of_getElem? (i := 5) rfl))) (mvT hZ (hw _ (List.mem_of_getElem? (i := 6) rfl))) (by decide) (backOf (W := 1) (rmi1 l Z a0 hw [] b1 .null (.long (0 : Int64)) h1 n0 Z1 A1 F1_words F1_length g_b1) hZ (hw _ (List.mem_of_getElem? (i := 6) rfl)) (hw _ (List.mem_of_getElem? (i := 2) rfl)) (by decide) (by decide)) (g := (mkF m 7 #[.val (.long x0), .second, .val (.long x1), .second, .val (.long x2), .second, .val (.int x3), .val (.int x4), .val (.int x5), .unset, .unset, .unset, .unset, .unset, .unset, .unset, .unset, .unset, .unset, .unset, .unset, .unset] [(.long (192 : Int64)), (.ref b1), (.ref b1)])) rfl (by rw [hml]; rfl) (Steps.refl _) (a := b1) (argsL := [(.long (192 : Int64))]) (rest := [(.ref b1)]) (lenOf pd_2 rfl) rfl (by show 2 * 0 + _ ≤ _; exact Nat.le_of_eq rfl) (hb hby at_7) (fun _ _ => ⟨rfl, e1, (by decide : 1 + 1 ≤ _), (by decide : 2 + 3 ≤ _)⟩)
  dsimp only [Pt.U, Pt.locs, Pt.cells, Pt.slots] at X2 l2 y2 z2 st2 hQ2
  subst l2 y2 z2
  obtain ⟨b_2, k_2, rfl, N2q, K2q, zz2_b, c2_0, c2_1, c2_2⟩ := hQ2
  have N2 := Fr.app N0 N2q
  obtain ⟨J2, X2, N2⟩ := own_hide X2 N2
  have g_b_2 : n0 ≤ b_2 := Nat.le_trans Z1 zz2_b
  have sz_b_2 : h0.size ≤ b_2 := Nat.le_trans K1.1 zz2_b
  have ne2_0 : b1 ≠ b_2 := Nat.ne_of_lt (Nat.lt_of_lt_of_le A1.lt zz2_b)
  have f2_0 := A1.keep K2q
  have K2 : Keep h0 T2.heap [] := K1.trans K2q (allS (Or.inr sz_b1) all0)
  have Z2 : n0 ≤ T2.heap.size := Nat.le_trans Z0 K2.1
  refine own_Go.of (g' := (mkF m 10 #[.val (.long x0), .second, .val (.long x1), .second, .val (.long x2), .second, .val (.int x3), .val (.int x4), .val (.int x5), .unset, .unset, .unset, .unset, .unset, .unset, .unset, .unset, .unset, .unset, .unset, .unset, .unset] [(.ref b1)])) (fun t k => st2.trans k) ?_
  refine og_astore (pc' := 12) (L' := #[.val (.long x0), .second, .val (.long x1), .second, .val (.long x2), .second, .val (.int x3), .val (.int x4), .val (.int x5), .val (.ref b1), .unset, .unset, .unset, .unset, .unset, .unset, .unset, .unset, .unset, .unset, .unset, .unset]) X2 hx (hb hby at_10) rfl rfl rfl ?_
  refine og_aload (pc' := 14) X2 hx (hb hby at_12) rfl rfl rfl ?_
  refine og_lconst0 (pc' := 15) X2 hx (hb hby at_14) rfl ?_
  refine og_bipush (pc' := 17) (n := 64) X2 hx (hb hby at_15) rfl rfl ?_
  refine og_lloadN (pc' := 18) X2 hx (hb hby at_17) rfl rfl ?_
  obtain ⟨cq3, kq3, q3a, q3b, q3c⟩ := isOf hZ rfl c2_0
  obtain ⟨_, _, ⟨T3, L3, k3, n3⟩, -, X3, ⟨Lc3, hQ3, l3, y3, z3⟩, st3⟩ := X2.virtualBack hx (y := (⟨"com/example/paranhos/paranhos/BitArray", "put", "(JIJ)V"⟩ : MethodName)) (z := (⟨"com/example/paranhos/paranhos/BitArray", "put", "(JIJ)V"⟩ : MethodName)) hown (mvT hZ (hw _ (List.mem_of_getElem? (i := 22) rfl))) (mvT hZ (hw _ (List.mem_of_getElem? (i := 23) rfl))) (notFace_of_selects (args := #[]) (mvT hZ (hw _ (List.mem_of_getElem? (i := 25) rfl)))) (mvT hZ (hw _ (List.mem_of_getElem? (i := 25) rfl))) (mvT hZ (hw _ (List.mem_of_getElem? (i := 24) rfl))) (by decide) (backOf (W := 0) (rmput0 l Z a0 hw [] b1 x0 b_2 k_2 (0 : Int64) (0 : Int64) (0 : Int64) T2.heap n0 Z2 c2_0 c2_1 c2_2 g_b_2 ne2_0) hZ (hw _ (List.mem_of_getElem? (i := 26) rfl)) (hw _ (List.mem_of_getElem? (i := 2) rfl)) (by decide) (by decide)) q3a q3c (g := (mkF m 18 #[.val (.long x0), .second, .val (.long x1), .second, .val (.long x2), .second, .val (.int x3), .val (.int x4), .val (.int x5), .val (.ref b1), .unset, .unset, .unset, .unset, .unset, .unset, .unset, .unset, .unset, .unset, .unset, .unset] [(.long x0), (.int (64 : Int32)), (.long (0 : Int64)), (.ref b1)])) rfl (by rw [hml]; rfl) (Steps.refl _) (argsL := [(.long (0 : Int64)), (.int (64 : Int32)), (.long x0)]) (rest := []) (lenOf pd_3 rfl) rfl (by show 2 * 0 + _ ≤ _; exact Nat.le_of_eq rfl) (hb hby at_18) (fun _ _ => ⟨rfl, rfl, (by decide : 2 + 0 ≤ _), (by decide : 5 + 0 ≤ _)⟩)
  dsimp only [Pt.U, Pt.locs, Pt.cells, Pt.slots] at X3 l3 y3 z3 st3 hQ3
  subst l3 y3 z3
  obtain ⟨rfl, N3q, K3q, c3_0, c3_1, c3_2⟩ := hQ3
  have N3 := Fr.app N2 N3q
  obtain ⟨J3, X3, N3⟩ := own_hide X3 N3
  have f3_0 := c2_0.keep K3q
  have f3_1 := c2_1.keep K3q (ninS ne2_0 nin0)
  have K3 : Keep h0 T3.heap [] := K2.trans K3q (allS (Or.inr sz_b_2) all0)
  have Z3 : n0 ≤ T3.heap.size := Nat.le_trans Z0 K3.1
  refine own_Go.of (g' := (mkF m 21 #[.val (.long x0), .second, .val (.long x1), .second, .val (.long x2), .second, .val (.int x3), .val (.int x4), .val (.int x5), .val (.ref b1), .unset, .unset, .unset, .unset, .unset, .unset, .unset, .unset, .unset, .unset, .unset, .unset] [])) (fun t k => st3.trans k) ?_
  refine og_aload (pc' := 23) X3 hx (hb hby at_21) rfl rfl rfl ?_
  refine og_ldc2_w (pc' := 26) X3 hx (hb hby at_23) hown (mvT hZ (hw _ (List.mem_of_getElem? (i := 29) rfl))) rfl ?_
  refine og_bipush (pc' := 28) (n := 64) X3 hx (hb hby at_26) rfl rfl ?_
  refine og_lloadN (pc' := 29) X3 hx (hb hby at_28) rfl rfl ?_
  obtain ⟨cq4, kq4, q4a, q4b, q4c⟩ := isOf hZ rfl c3_0
  obtain ⟨_, _, ⟨T4, L4, k4, n4⟩, -, X4, ⟨Lc4, hQ4, l4, y4, z4⟩, st4⟩ := X3.virtualBack hx (y := (⟨"com/example/paranhos/paranhos/BitArray", "put", "(JIJ)V"⟩ : MethodName)) (z := (⟨"com/example/paranhos/paranhos/BitArray", "put", "(JIJ)V"⟩ : MethodName)) hown (mvT hZ (hw _ (List.mem_of_getElem? (i := 22) rfl))) (mvT hZ (hw _ (List.mem_of_getElem? (i := 23) rfl))) (notFace_of_selects (args := #[]) (mvT hZ (hw _ (List.mem_of_getElem? (i := 25) rfl)))) (mvT hZ (hw _ (List.mem_of_getElem? (i := 25) rfl))) (mvT hZ (hw _ (List.mem_of_getElem? (i := 24) rfl))) (by decide) (backOf (W := 0) (rmput1 l Z a0 hw [] b1 x1 b_2 k_2 x0 (0 : Int64) (0 : Int64) T3.heap n0 Z3 c3_0 c3_1 c3_2 g_b_2 ne2_0) hZ (hw _ (List.mem_of_getElem? (i := 26) rfl)) (hw _ (List.mem_of_getElem? (i := 2) rfl)) (by decide) (by decide)) q4a q4c (g := (mkF m 29 #[.val (.long x0), .second, .val (.long x1), .second, .val (.long x2), .second, .val (.int x3), .val (.int x4), .val (.int x5), .val (.ref b1), .unset, .unset, .unset, .unset, .unset, .unset, .unset, .unset, .unset, .unset, .unset, .unset] [(.long x1), (.int (64 : Int32)), (.long (64 : Int64)), (.ref b1)])) rfl (by rw [hml]; rfl) (Steps.refl _) (argsL := [(.long (64 : Int64)), (.int (64 : Int32)), (.long x1)]) (rest := []) (lenOf pd_3 rfl) rfl (by show 2 * 0 + _ ≤ _; exact Nat.le_of_eq rfl) (hb hby at_29) (fun _ _ => ⟨rfl, rfl, (by decide : 2 + 0 ≤ _), (by decide : 5 + 0 ≤ _)⟩)
  dsimp only [Pt.U, Pt.locs, Pt.cells, Pt.slots] at X4 l4 y4 z4 st4 hQ4
  subst l4 y4 z4
  obtain ⟨rfl, N4q, K4q, c4_0, c4_1, c4_2⟩ := hQ4
  have N4 := Fr.app N3 N4q
  obtain ⟨J4, X4, N4⟩ := own_hide X4 N4
  have f4_0 := c3_0.keep K4q
  have f4_1 := c3_1.keep K4q (ninS ne2_0 nin0)
  have K4 : Keep h0 T4.heap [] := K3.trans K4q (allS (Or.inr sz_b_2) all0)
  have Z4 : n0 ≤ T4.heap.size := Nat.le_trans Z0 K4.1
  refine own_Go.of (g' := (mkF m 32 #[.val (.long x0), .second, .val (.long x1), .second, .val (.long x2), .second, .val (.int x3), .val (.int x4), .val (.int x5), .val (.ref b1), .unset, .unset, .unset, .unset, .unset, .unset, .unset, .unset, .unset, .unset, .unset, .unset] [])) (fun t k => st4.trans k) ?_
  refine og_aload (pc' := 34) X4 hx (hb hby at_32) rfl rfl rfl ?_
  refine og_ldc2_w (pc' := 37) X4 hx (hb hby at_34) hown (mvT hZ (hw _ (List.mem_of_getElem? (i := 30) rfl))) rfl ?_
  refine og_bipush (pc' := 39) (n := 64) X4 hx (hb hby at_37) rfl rfl ?_
  refine og_lload (pc' := 41) X4 hx (hb hby at_39) rfl rfl ?_
  obtain ⟨cq5, kq5, q5a, q5b, q5c⟩ := isOf hZ rfl c4_0
  obtain ⟨_, _, ⟨T5, L5, k5, n5⟩, -, X5, ⟨Lc5, hQ5, l5, y5, z5⟩, st5⟩ := X4.virtualBack hx (y := (⟨"com/example/paranhos/paranhos/BitArray", "put", "(JIJ)V"⟩ : MethodName)) (z := (⟨"com/example/paranhos/paranhos/BitArray", "put", "(JIJ)V"⟩ : MethodName)) hown (mvT hZ (hw _ (List.mem_of_getElem? (i := 22) rfl))) (mvT hZ (hw _ (List.mem_of_getElem? (i := 23) rfl))) (notFace_of_selects (args := #[]) (mvT hZ (hw _ (List.mem_of_getElem? (i := 25) rfl)))) (mvT hZ (hw _ (List.mem_of_getElem? (i := 25) rfl))) (mvT hZ (hw _ (List.mem_of_getElem? (i := 24) rfl))) (by decide) (backOf (W := 0) (rmput2 l Z a0 hw [] b1 x2 b_2 k_2 x0 x1 (0 : Int64) T4.heap n0 Z4 c4_0 c4_1 c4_2 g_b_2 ne2_0) hZ (hw _ (List.mem_of_getElem? (i := 26) rfl)) (hw _ (List.mem_of_getElem? (i := 2) rfl)) (by decide) (by decide)) q5a q5c (g := (mkF m 41 #[.val (.long x0), .second, .val (.long x1), .second, .val (.long x2), .second, .val (.int x3), .val (.int x4), .val (.int x5), .val (.ref b1), .unset, .unset, .unset, .unset, .unset, .unset, .unset, .unset, .unset, .unset, .unset, .unset] [(.long x2), (.int (64 : Int32)), (.long (128 : Int64)), (.ref b1)])) rfl (by rw [hml]; rfl) (Steps.refl _) (argsL := [(.long (128 : Int64)), (.int (64 : Int32)), (.long x2)]) (rest := []) (lenOf pd_3 rfl) rfl (by show 2 * 0 + _ ≤ _; exact Nat.le_of_eq rfl) (hb hby at_41) (fun _ _ => ⟨rfl, rfl, (by decide : 2 + 0 ≤ _), (by decide : 5 + 0 ≤ _)⟩)
  dsimp only [Pt.U, Pt.locs, Pt.cells, Pt.slots] at X5 l5 y5 z5 st5 hQ5
  subst l5 y5 z5
  obtain ⟨rfl, N5q, K5q, c5_0, c5_1, c5_2⟩ := hQ5
  have N5 := Fr.app N4 N5q
  obtain ⟨J5, X5, N5⟩ := own_hide X5 N5
  have f5_0 := c4_0.keep K5q
  have f5_1 := c4_1.keep K5q (ninS ne2_0 nin0)
  have K5 : Keep h0 T5.heap [] := K4.trans K5q (allS (Or.inr sz_b_2) all0)
  have Z5 : n0 ≤ T5.heap.size := Nat.le_trans Z0 K5.1
  refine own_Go.of (g' := (mkF m 44 #[.val (.long x0), .second, .val (.long x1), .second, .val (.long x2), .second, .val (.int x3), .val (.int x4), .val (.int x5), .val (.ref b1), .unset, .unset, .unset, .unset, .unset, .unset, .unset, .unset, .unset, .unset, .unset, .unset] [])) (fun t k => st5.trans k) ?_
  refine og_iload (pc' := 46) X5 hx (hb hby at_44) rfl rfl ?_
  refine og_ldc (pc' := 48) X5 hx (hb hby at_46) hown (mvT hZ (hw _ (List.mem_of_getElem? (i := 31) rfl))) rfl ?_
  refine og_iand (pc' := 49) X5 hx (hb hby at_48) rfl ?_
  refine og_bipush (pc' := 51) (n := 65) X5 hx (hb hby at_49) rfl rfl ?_
  refine og_irem (pc' := 52) X5 hx (hb hby at_51) (by decide) rfl ?_
  refine og_istore (pc' := 54) (L' := #[.val (.long x0), .second, .val (.long x1), .second, .val (.long x2), .second, .val (.int x3), .val (.int x4), .val (.int x5), .val (.ref b1), .val (.int ((x4 &&& (2147483647 : Int32)) % (65 : Int32))), .unset, .unset, .unset, .unset, .unset, .unset, .unset, .unset, .unset, .unset, .unset]) X5 hx (hb hby at_52) rfl rfl ?_
  generalize hn : ((x4 &&& (2147483647 : Int32)) % (65 : Int32)) = n
  have rn := own_n hn
  refine og_iload (pc' := 56) X5 hx (hb hby at_54) rfl rfl ?_
  refine og_ldc (pc' := 58) X5 hx (hb hby at_56) hown (mvT hZ (hw _ (List.mem_of_getElem? (i := 31) rfl))) rfl ?_
  refine og_iand (pc' := 59) X5 hx (hb hby at_58) rfl ?_
  refine og_sipush (pc' := 62) (n := 193) X5 hx (hb hby at_59) rfl rfl ?_
  refine og_iload (pc' := 64) X5 hx (hb hby at_62) rfl rfl ?_
  refine og_isub (pc' := 65) X5 hx (hb hby at_64) rfl ?_
  refine og_irem (pc' := 66) X5 hx (hb hby at_65) (own_193 rn) rfl ?_
  refine og_i2l (pc' := 67) X5 hx (hb hby at_66) rfl ?_
  refine og_lstore (pc' := 69) (L' := #[.val (.long x0), .second, .val (.long x1), .second, .val (.long x2), .second, .val (.int x3), .val (.int x4), .val (.int x5), .val (.ref b1), .val (.int n), .val (.long (((x3 &&& (2147483647 : Int32)) % ((193 : Int32) - n)).toInt64)), .second, .unset, .unset, .unset, .unset, .unset, .unset, .unset, .unset, .unset]) X5 hx (hb hby at_67) rfl rfl ?_
  generalize hbt : (((x3 &&& (2147483647 : Int32)) % ((193 : Int32) - n)).toInt64) = bt
  have hok := own_okb rn hbt
  refine og_aload (pc' := 71) X5 hx (hb hby at_69) rfl rfl rfl ?_
  refine og_lload (pc' := 73) X5 hx (hb hby at_71) rfl rfl ?_
  refine og_iload (pc' := 75) X5 hx (hb hby at_73) rfl rfl ?_
  obtain ⟨cq6, kq6, q6a, q6b, q6c⟩ := isOf hZ rfl c5_0
  obtain ⟨_, _, ⟨T6, L6, k6, n6⟩, -, X6, ⟨Lc6, hQ6, l6, y6, z6⟩, st6⟩ := X5.virtualBack hx (y := (⟨"com/example/paranhos/paranhos/BitArray", "get", "(JI)J"⟩ : MethodName)) (z := (⟨"com/example/paranhos/paranhos/BitArray", "get", "(JI)J"⟩ : MethodName)) hown (mvT hZ (hw _ (List.mem_of_getElem? (i := 32) rfl))) (mvT hZ (hw _ (List.mem_of_getElem? (i := 33) rfl))) (notFace_of_selects (args := #[]) (mvT hZ (hw _ (List.mem_of_getElem? (i := 35) rfl)))) (mvT hZ (hw _ (List.mem_of_getElem? (i := 35) rfl))) (mvT hZ (hw _ (List.mem_of_getElem? (i := 34) rfl))) (by decide) (backOf (W := 0) (rmget l Z a0 hw [] b1 bt n b_2 k_2 x0 x1 x2 T5.heap n0 Z5 c5_1 c5_2 hok) hZ (hw _ (List.mem_of_getElem? (i := 36) rfl)) (hw _ (List.mem_of_getElem? (i := 2) rfl)) (by decide) (by decide)) q6a q6c (g := (mkF m 75 #[.val (.long x0), .second, .val (.long x1), .second, .val (.long x2), .second, .val (.int x3), .val (.int x4), .val (.int x5), .val (.ref b1), .val (.int n), .val (.long bt), .second, .unset, .unset, .unset, .unset, .unset, .unset, .unset, .unset, .unset] [(.int n), (.long bt), (.ref b1)])) rfl (by rw [hml]; rfl) (Steps.refl _) (argsL := [(.long bt), (.int n)]) (rest := []) (lenOf pd_4 rfl) rfl (by show 2 * 0 + _ ≤ _; exact Nat.le_of_eq rfl) (hb hby at_75) (fun _ _ => ⟨rfl, rfl, (by decide : 2 + 0 ≤ _), (by decide : 5 + 0 ≤ _)⟩)
  dsimp only [Pt.U, Pt.locs, Pt.cells, Pt.slots] at X6 l6 y6 z6 st6 hQ6
  subst l6 y6 z6
  obtain ⟨rfl, N6q, e6⟩ := hQ6
  have N6 := Fr.app N5 N6q
  obtain ⟨J6, X6, N6⟩ := own_hide X6 N6
  refine own_Go.of (g' := (mkF m 78 #[.val (.long x0), .second, .val (.long x1), .second, .val (.long x2), .second, .val (.int x3), .val (.int x4), .val (.int x5), .val (.ref b1), .val (.int n), .val (.long bt), .second, .unset, .unset, .unset, .unset, .unset, .unset, .unset, .unset, .unset] [(.long (own_get bt n x0 x1 x2))])) (fun t k => st6.trans k) ?_
  refine og_lstore (pc' := 80) (L' := #[.val (.long x0), .second, .val (.long x1), .second, .val (.long x2), .second, .val (.int x3), .val (.int x4), .val (.int x5), .val (.ref b1), .val (.int n), .val (.long bt), .second, .val (.long (own_get bt n x0 x1 x2)), .second, .unset, .unset, .unset, .unset, .unset, .unset, .unset]) X6 hx (hb hby at_78) rfl rfl ?_
  generalize hgot : (own_get bt n x0 x1 x2) = got
  refine og_iload (pc' := 82) X6 hx (hb hby at_80) rfl rfl ?_
  refine og_bipush (pc' := 84) (n := 64) X6 hx (hb hby at_82) rfl rfl ?_
  by_cases hc84_1 : n < (64 : Int32)
  · refine og_icmpNo (pc' := 87) X6 hx (hb hby at_84) (tlt hc84_1).2.1 rfl ?_
    refine og_lload (pc' := 89) X6 hx (hb hby at_87) rfl rfl ?_
    refine og_iload (pc' := 91) X6 hx (hb hby at_89) rfl rfl ?_
    refine og_lushr (pc' := 92) X6 hx (hb hby at_91) rfl ?_
    refine og_lconst0 (pc' := 93) X6 hx (hb hby at_92) rfl ?_
    refine og_lcmp (pc' := 94) X6 hx (hb hby at_93) rfl ?_
    refine og_ifYes (pc' := 99) X6 hx (hb hby at_94) ((if0 _ _).trans (teq ((lw_eq _ _).mpr (own_small hok rn hgot hc84_1))).1) (by decide) (by decide) ?_
    refine og_iload (pc' := 101) X6 hx (hb hby at_99) rfl rfl ?_
    by_cases hc101_2 : n = (0 : Int32)
    · refine og_ifNo (pc' := 104) X6 hx (hb hby at_101) ((if0 _ _).trans (teq hc101_2).2) rfl ?_
      refine og_iconst (pc' := 105) (n := 1) X6 hx (hb hby at_104) rfl rfl ?_
      obtain ⟨fs, hr, hrun, hended, hW, hsame⟩ := X6.leave (v := some (.int (1 : Int32))) (fun h => by rw [Bd.returns] at h; cases h) (BodyLoose.notSynchronized Bd)
      refine ⟨_, _, retN X6 hx (t := .boolean) Bd.returns (by simp) (hb hby at_105) hr, hrun, hended, some (.int (1 : Int32)), _, rfl, ?_, ⟨_, rfl⟩, hW, hsame.mono (by decide) (by decide)⟩
      show Q0 Z x0 x1 x2 x3 x4 x5 h0 n0 _ T6.heap _
      rw [e6]
      exact ⟨rfl, N6⟩
    · refine og_ifYes (pc' := 106) X6 hx (hb hby at_101) ((if0 _ _).trans (feq hc101_2).2) (by decide) (by decide) ?_
      refine og_iload (pc' := 108) X6 hx (hb hby at_106) rfl rfl ?_
      refine og_ldc (pc' := 110) X6 hx (hb hby at_108) hown (mvT hZ (hw _ (List.mem_of_getElem? (i := 31) rfl))) rfl ?_
      refine og_iand (pc' := 111) X6 hx (hb hby at_110) rfl ?_
      refine og_iload (pc' := 113) X6 hx (hb hby at_111) rfl rfl ?_
      refine og_irem (pc' := 114) X6 hx (hb hby at_113) hc101_2 rfl ?_
      refine og_istore (pc' := 116) (L' := #[.val (.long x0), .second, .val (.long x1), .second, .val (.long x2), .second, .val (.int x3), .val (.int x4), .val (.int x5), .val (.ref b1), .val (.int n), .val (.long bt), .second, .val (.long got), .second, .val (.int ((x5 &&& (2147483647 : Int32)) % n)), .unset, .unset, .unset, .unset, .unset, .unset]) X6 hx (hb hby at_114) rfl rfl ?_
      generalize hjj : ((x5 &&& (2147483647 : Int32)) % n) = jj
      have rj := own_j rn hjj hc101_2
      refine og_lload (pc' := 118) X6 hx (hb hby at_116) rfl rfl ?_
      refine og_iload (pc' := 120) X6 hx (hb hby at_118) rfl rfl ?_
      refine og_i2l (pc' := 121) X6 hx (hb hby at_120) rfl ?_
      refine og_ladd (pc' := 122) X6 hx (hb hby at_121) rfl ?_
      refine og_lstore (pc' := 124) (L' := #[.val (.long x0), .second, .val (.long x1), .second, .val (.long x2), .second, .val (.int x3), .val (.int x4), .val (.int x5), .val (.ref b1), .val (.int n), .val (.long bt), .second, .val (.long got), .second, .val (.int jj), .val (.long (bt + (jj.toInt64))), .second, .unset, .unset, .unset, .unset]) X6 hx (hb hby at_122) rfl rfl ?_
      generalize hps : (bt + (jj.toInt64)) = ps
      refine og_lload (pc' := 126) X6 hx (hb hby at_124) rfl rfl ?_
      refine og_ldc2_w (pc' := 129) X6 hx (hb hby at_126) hown (mvT hZ (hw _ (List.mem_of_getElem? (i := 29) rfl))) rfl ?_
      refine og_lcmp (pc' := 130) X6 hx (hb hby at_129) rfl ?_
      refine own_via (A := own_Go p e below (fun s₂ oc => ∃ v L, oc = .returned v ∧ Q0 Z x0 x1 x2 x3 x4 x5 h0 n0 v s₂.heap L ∧ FrameEnd s oc s₂ L room_1.cells room_1.slots) T6 (mkF m 152 #[.val (.long x0), .second, .val (.long x1), .second, .val (.long x2), .second, .val (.int x3), .val (.int x4), .val (.int x5), .val (.ref b1), .val (.int n), .val (.long bt), .second, .val (.long got), .second, .val (.int jj), .val (.long ps), .second, .unset, .unset, .unset, .unset] [(.long (if ps < (64 : Int64) then x0 else (if ps < (128 : Int64) then x1 else x2)))])) (fun k => ?_) ?_
      · by_cases hc130_3 : ps < (64 : Int64)
        · refine og_ifNo (pc' := 133) X6 hx (hb hby at_130) ((if0 _ _).trans (tlt ((lw_lt _ _).mpr hc130_3)).2.1) rfl ?_
          refine og_lloadN (pc' := 134) X6 hx (hb hby at_133) rfl rfl ?_
          refine og_goto (pc' := 152) X6 hx (hb hby at_134) (by decide) (by decide) ?_
          simp only [if_pos hc130_3] at k
          exact k
        · refine og_ifYes (pc' := 137) X6 hx (hb hby at_130) ((if0 _ _).trans (flt (fun q => hc130_3 ((lw_lt _ _).mp q))).2.1) (by decide) (by decide) ?_
          refine og_lload (pc' := 139) X6 hx (hb hby at_137) rfl rfl ?_
          refine og_ldc2_w (pc' := 142) X6 hx (hb hby at_139) hown (mvT hZ (hw _ (List.mem_of_getElem? (i := 30) rfl))) rfl ?_
          refine og_lcmp (pc' := 143) X6 hx (hb hby at_142) rfl ?_
          by_cases hc143_4 : ps < (128 : Int64)
          · refine og_ifNo (pc' := 146) X6 hx (hb hby at_143) ((if0 _ _).trans (tlt ((lw_lt _ _).mpr hc143_4)).2.1) rfl ?_
            refine og_lloadN (pc' := 147) X6 hx (hb hby at_146) rfl rfl ?_
            refine og_goto (pc' := 152) X6 hx (hb hby at_147) (by decide) (by decide) ?_
            simp only [if_neg hc130_3, if_pos hc143_4] at k
            exact k
          · refine og_ifYes (pc' := 150) X6 hx (hb hby at_143) ((if0 _ _).trans (flt (fun q => hc143_4 ((lw_lt _ _).mp q))).2.1) (by decide) (by decide) ?_
            refine og_lload (pc' := 152) X6 hx (hb hby at_150) rfl rfl ?_
            simp only [if_neg hc130_3, if_neg hc143_4] at k
            exact k
      refine og_lstore (pc' := 154) (L' := #[.val (.long x0), .second, .val (.long x1), .second, .val (.long x2), .second, .val (.int x3), .val (.int x4), .val (.int x5), .val (.ref b1), .val (.int n), .val (.long bt), .second, .val (.long got), .second, .val (.int jj), .val (.long ps), .second, .val (.long (if ps < (64 : Int64) then x0 else (if ps < (128 : Int64) then x1 else x2))), .second, .unset, .unset]) X6 hx (hb hby at_152) rfl rfl ?_
      refine og_lload (pc' := 156) X6 hx (hb hby at_154) rfl rfl ?_
      refine og_lload (pc' := 158) X6 hx (hb hby at_156) rfl rfl ?_
      refine og_ldc2_w (pc' := 161) X6 hx (hb hby at_158) hown (mvT hZ (hw _ (List.mem_of_getElem? (i := 29) rfl))) rfl ?_
      refine og_lrem (pc' := 162) X6 hx (hb hby at_161) (by decide) rfl ?_
      refine og_l2i (pc' := 163) X6 hx (hb hby at_162) rfl ?_
      refine og_lushr (pc' := 164) X6 hx (hb hby at_163) rfl ?_
      refine og_lconst1 (pc' := 165) X6 hx (hb hby at_164) rfl ?_
      refine og_land (pc' := 166) X6 hx (hb hby at_165) rfl ?_
      refine og_lstore (pc' := 168) (L' := #[.val (.long x0), .second, .val (.long x1), .second, .val (.long x2), .second, .val (.int x3), .val (.int x4), .val (.int x5), .val (.ref b1), .val (.int n), .val (.long bt), .second, .val (.long got), .second, .val (.int jj), .val (.long ps), .second, .val (.long (if ps < (64 : Int64) then x0 else (if ps < (128 : Int64) then x1 else x2))), .second, .val (.long ((((if ps < (64 : Int64) then x0 else (if ps < (128 : Int64) then x1 else x2)).toUInt64 >>> (((ps - (ps / (64 : Int64)) * (64 : Int64)).toInt32) &&& 0x3f).toInt64.toUInt64).toInt64) &&& (1 : Int64))), .second]) X6 hx (hb hby at_166) rfl rfl ?_
      refine og_lload (pc' := 170) X6 hx (hb hby at_168) rfl rfl ?_
      refine og_iload (pc' := 172) X6 hx (hb hby at_170) rfl rfl ?_
      refine og_lushr (pc' := 173) X6 hx (hb hby at_172) rfl ?_
      refine og_lconst1 (pc' := 174) X6 hx (hb hby at_173) rfl ?_
      refine og_land (pc' := 175) X6 hx (hb hby at_174) rfl ?_
      refine og_lload (pc' := 177) X6 hx (hb hby at_175) rfl rfl ?_
      refine og_lcmp (pc' := 178) X6 hx (hb hby at_177) rfl ?_
      refine og_ifNo (pc' := 181) X6 hx (hb hby at_178) ((if0 _ _).trans (teq ((lw_eq _ _).mpr (own_final hok rn rj hgot hps))).2) rfl ?_
      refine og_iconst (pc' := 182) (n := 1) X6 hx (hb hby at_181) rfl rfl ?_
      refine og_goto (pc' := 186) X6 hx (hb hby at_182) (by decide) (by decide) ?_
      obtain ⟨fs, hr, hrun, hended, hW, hsame⟩ := X6.leave (v := some (.int (1 : Int32))) (fun h => by rw [Bd.returns] at h; cases h) (BodyLoose.notSynchronized Bd)
      refine ⟨_, _, retN X6 hx (t := .boolean) Bd.returns (by simp) (hb hby at_186) hr, hrun, hended, some (.int (1 : Int32)), _, rfl, ?_, ⟨_, rfl⟩, hW, hsame.mono (by decide) (by decide)⟩
      show Q0 Z x0 x1 x2 x3 x4 x5 h0 n0 _ T6.heap _
      rw [e6]
      exact ⟨rfl, N6⟩
  · refine og_icmpYes (pc' := 99) X6 hx (hb hby at_84) (flt hc84_1).2.1 (by decide) (by decide) ?_
    refine og_iload (pc' := 101) X6 hx (hb hby at_99) rfl rfl ?_
    by_cases hc101_5 : n = (0 : Int32)
    · refine og_ifNo (pc' := 104) X6 hx (hb hby at_101) ((if0 _ _).trans (teq hc101_5).2) rfl ?_
      refine og_iconst (pc' := 105) (n := 1) X6 hx (hb hby at_104) rfl rfl ?_
      obtain ⟨fs, hr, hrun, hended, hW, hsame⟩ := X6.leave (v := some (.int (1 : Int32))) (fun h => by rw [Bd.returns] at h; cases h) (BodyLoose.notSynchronized Bd)
      refine ⟨_, _, retN X6 hx (t := .boolean) Bd.returns (by simp) (hb hby at_105) hr, hrun, hended, some (.int (1 : Int32)), _, rfl, ?_, ⟨_, rfl⟩, hW, hsame.mono (by decide) (by decide)⟩
      show Q0 Z x0 x1 x2 x3 x4 x5 h0 n0 _ T6.heap _
      rw [e6]
      exact ⟨rfl, N6⟩
    · refine og_ifYes (pc' := 106) X6 hx (hb hby at_101) ((if0 _ _).trans (feq hc101_5).2) (by decide) (by decide) ?_
      refine og_iload (pc' := 108) X6 hx (hb hby at_106) rfl rfl ?_
      refine og_ldc (pc' := 110) X6 hx (hb hby at_108) hown (mvT hZ (hw _ (List.mem_of_getElem? (i := 31) rfl))) rfl ?_
      refine og_iand (pc' := 111) X6 hx (hb hby at_110) rfl ?_
      refine og_iload (pc' := 113) X6 hx (hb hby at_111) rfl rfl ?_
      refine og_irem (pc' := 114) X6 hx (hb hby at_113) hc101_5 rfl ?_
      refine og_istore (pc' := 116) (L' := #[.val (.long x0), .second, .val (.long x1), .second, .val (.long x2), .second, .val (.int x3), .val (.int x4), .val (.int x5), .val (.ref b1), .val (.int n), .val (.long bt), .second, .val (.long got), .second, .val (.int ((x5 &&& (2147483647 : Int32)) % n)), .unset, .unset, .unset, .unset, .unset, .unset]) X6 hx (hb hby at_114) rfl rfl ?_
      generalize hjj : ((x5 &&& (2147483647 : Int32)) % n) = jj
      have rj := own_j rn hjj hc101_5
      refine og_lload (pc' := 118) X6 hx (hb hby at_116) rfl rfl ?_
      refine og_iload (pc' := 120) X6 hx (hb hby at_118) rfl rfl ?_
      refine og_i2l (pc' := 121) X6 hx (hb hby at_120) rfl ?_
      refine og_ladd (pc' := 122) X6 hx (hb hby at_121) rfl ?_
      refine og_lstore (pc' := 124) (L' := #[.val (.long x0), .second, .val (.long x1), .second, .val (.long x2), .second, .val (.int x3), .val (.int x4), .val (.int x5), .val (.ref b1), .val (.int n), .val (.long bt), .second, .val (.long got), .second, .val (.int jj), .val (.long (bt + (jj.toInt64))), .second, .unset, .unset, .unset, .unset]) X6 hx (hb hby at_122) rfl rfl ?_
      generalize hps : (bt + (jj.toInt64)) = ps
      refine og_lload (pc' := 126) X6 hx (hb hby at_124) rfl rfl ?_
      refine og_ldc2_w (pc' := 129) X6 hx (hb hby at_126) hown (mvT hZ (hw _ (List.mem_of_getElem? (i := 29) rfl))) rfl ?_
      refine og_lcmp (pc' := 130) X6 hx (hb hby at_129) rfl ?_
      refine own_via (A := own_Go p e below (fun s₂ oc => ∃ v L, oc = .returned v ∧ Q0 Z x0 x1 x2 x3 x4 x5 h0 n0 v s₂.heap L ∧ FrameEnd s oc s₂ L room_1.cells room_1.slots) T6 (mkF m 152 #[.val (.long x0), .second, .val (.long x1), .second, .val (.long x2), .second, .val (.int x3), .val (.int x4), .val (.int x5), .val (.ref b1), .val (.int n), .val (.long bt), .second, .val (.long got), .second, .val (.int jj), .val (.long ps), .second, .unset, .unset, .unset, .unset] [(.long (if ps < (64 : Int64) then x0 else (if ps < (128 : Int64) then x1 else x2)))])) (fun k => ?_) ?_
      · by_cases hc130_6 : ps < (64 : Int64)
        · refine og_ifNo (pc' := 133) X6 hx (hb hby at_130) ((if0 _ _).trans (tlt ((lw_lt _ _).mpr hc130_6)).2.1) rfl ?_
          refine og_lloadN (pc' := 134) X6 hx (hb hby at_133) rfl rfl ?_
          refine og_goto (pc' := 152) X6 hx (hb hby at_134) (by decide) (by decide) ?_
          simp only [if_pos hc130_6] at k
          exact k
        · refine og_ifYes (pc' := 137) X6 hx (hb hby at_130) ((if0 _ _).trans (flt (fun q => hc130_6 ((lw_lt _ _).mp q))).2.1) (by decide) (by decide) ?_
          refine og_lload (pc' := 139) X6 hx (hb hby at_137) rfl rfl ?_
          refine og_ldc2_w (pc' := 142) X6 hx (hb hby at_139) hown (mvT hZ (hw _ (List.mem_of_getElem? (i := 30) rfl))) rfl ?_
          refine og_lcmp (pc' := 143) X6 hx (hb hby at_142) rfl ?_
          by_cases hc143_7 : ps < (128 : Int64)
          · refine og_ifNo (pc' := 146) X6 hx (hb hby at_143) ((if0 _ _).trans (tlt ((lw_lt _ _).mpr hc143_7)).2.1) rfl ?_
            refine og_lloadN (pc' := 147) X6 hx (hb hby at_146) rfl rfl ?_
            refine og_goto (pc' := 152) X6 hx (hb hby at_147) (by decide) (by decide) ?_
            simp only [if_neg hc130_6, if_pos hc143_7] at k
            exact k
          · refine og_ifYes (pc' := 150) X6 hx (hb hby at_143) ((if0 _ _).trans (flt (fun q => hc143_7 ((lw_lt _ _).mp q))).2.1) (by decide) (by decide) ?_
            refine og_lload (pc' := 152) X6 hx (hb hby at_150) rfl rfl ?_
            simp only [if_neg hc130_6, if_neg hc143_7] at k
            exact k
      refine og_lstore (pc' := 154) (L' := #[.val (.long x0), .second, .val (.long x1), .second, .val (.long x2), .second, .val (.int x3), .val (.int x4), .val (.int x5), .val (.ref b1), .val (.int n), .val (.long bt), .second, .val (.long got), .second, .val (.int jj), .val (.long ps), .second, .val (.long (if ps < (64 : Int64) then x0 else (if ps < (128 : Int64) then x1 else x2))), .second, .unset, .unset]) X6 hx (hb hby at_152) rfl rfl ?_
      refine og_lload (pc' := 156) X6 hx (hb hby at_154) rfl rfl ?_
      refine og_lload (pc' := 158) X6 hx (hb hby at_156) rfl rfl ?_
      refine og_ldc2_w (pc' := 161) X6 hx (hb hby at_158) hown (mvT hZ (hw _ (List.mem_of_getElem? (i := 29) rfl))) rfl ?_
      refine og_lrem (pc' := 162) X6 hx (hb hby at_161) (by decide) rfl ?_
      refine og_l2i (pc' := 163) X6 hx (hb hby at_162) rfl ?_
      refine og_lushr (pc' := 164) X6 hx (hb hby at_163) rfl ?_
      refine og_lconst1 (pc' := 165) X6 hx (hb hby at_164) rfl ?_
      refine og_land (pc' := 166) X6 hx (hb hby at_165) rfl ?_
      refine og_lstore (pc' := 168) (L' := #[.val (.long x0), .second, .val (.long x1), .second, .val (.long x2), .second, .val (.int x3), .val (.int x4), .val (.int x5), .val (.ref b1), .val (.int n), .val (.long bt), .second, .val (.long got), .second, .val (.int jj), .val (.long ps), .second, .val (.long (if ps < (64 : Int64) then x0 else (if ps < (128 : Int64) then x1 else x2))), .second, .val (.long ((((if ps < (64 : Int64) then x0 else (if ps < (128 : Int64) then x1 else x2)).toUInt64 >>> (((ps - (ps / (64 : Int64)) * (64 : Int64)).toInt32) &&& 0x3f).toInt64.toUInt64).toInt64) &&& (1 : Int64))), .second]) X6 hx (hb hby at_166) rfl rfl ?_
      refine og_lload (pc' := 170) X6 hx (hb hby at_168) rfl rfl ?_
      refine og_iload (pc' := 172) X6 hx (hb hby at_170) rfl rfl ?_
      refine og_lushr (pc' := 173) X6 hx (hb hby at_172) rfl ?_
      refine og_lconst1 (pc' := 174) X6 hx (hb hby at_173) rfl ?_
      refine og_land (pc' := 175) X6 hx (hb hby at_174) rfl ?_
      refine og_lload (pc' := 177) X6 hx (hb hby at_175) rfl rfl ?_
      refine og_lcmp (pc' := 178) X6 hx (hb hby at_177) rfl ?_
      refine og_ifNo (pc' := 181) X6 hx (hb hby at_178) ((if0 _ _).trans (teq ((lw_eq _ _).mpr (own_final hok rn rj hgot hps))).2) rfl ?_
      refine og_iconst (pc' := 182) (n := 1) X6 hx (hb hby at_181) rfl rfl ?_
      refine og_goto (pc' := 186) X6 hx (hb hby at_182) (by decide) (by decide) ?_
      obtain ⟨fs, hr, hrun, hended, hW, hsame⟩ := X6.leave (v := some (.int (1 : Int32))) (fun h => by rw [Bd.returns] at h; cases h) (BodyLoose.notSynchronized Bd)
      refine ⟨_, _, retN X6 hx (t := .boolean) Bd.returns (by simp) (hb hby at_186) hr, hrun, hended, some (.int (1 : Int32)), _, rfl, ?_, ⟨_, rfl⟩, hW, hsame.mono (by decide) (by decide)⟩
      show Q0 Z x0 x1 x2 x3 x4 x5 h0 n0 _ T6.heap _
      rw [e6]
      exact ⟨rfl, N6⟩

set_option maxRecDepth 65536 in
set_option maxHeartbeats 40000000 in
theorem comes_1 {Post : Tables → Env → Array Value → State → Outcome → State → Prop} (hpost : ∀ tb e args s v u, (limb_1_1.after args s (.returned v) u = true ∧ limb_1_2.after args s (.returned v) u = true ∧ True) → FrameEnd s (.returned v) u (Jvm.fieldLocs frame_1_writes args s ++ Jvm.arrayLocs frame_1_arrays args s ++ Jvm.staticLocs frame_1_statics s) 16 128 → Post tb e args s (.returned v) u) :
    ArmFor flags0 classFile x code maxLocals ret World_1 tables_1 room_1 Calls_1 rest_1 Pre_1 Post := by
  intro l hfl _ _ p e ha hc hk s m args below hf hA hF happ hP
  obtain ⟨hcalls, hrest, hpre⟩ := hP
  obtain ⟨-, -, -, hnamed, -, -, -, hat⟩ := (Spec.applies_iff hf).mp happ
  obtain ⟨hg, hn⟩ := and_e (Cond.before_iff.mp (show (Jvm.Cond.and given_1 narrow_1).before args s = true from hpre))
  obtain ⟨hcnt, hg0⟩ := and_e hg
  obtain ⟨a0, hg1⟩ := and_e hg0
  obtain ⟨a1, hg2⟩ := and_e hg1
  obtain ⟨a2, hg3⟩ := and_e hg2
  obtain ⟨a3, hg4⟩ := and_e hg3
  obtain ⟨a4, hg5⟩ := and_e hg4
  obtain ⟨w0, w1, w2, w3, w4, w5, rfl⟩ : ∃ w0 w1 w2 w3 w4 w5 : Value, args = #[w0, w1, w2, w3, w4, w5] := by
    have hs : args.size = 6 := by simpa [Cond.value, given_1] using hcnt
    obtain ⟨L⟩ := args
    match L, hs with
    | [w0, w1, w2, w3, w4, w5], _ => exact ⟨w0, w1, w2, w3, w4, w5, rfl⟩
  have hw := fun d (hd : d ∈ tables_1) => atoms_spec (ws := Jvm.Cond.code x code maxLocals ret :: tables_1) hat d (List.mem_cons_of_mem _ hd)
  have hfit : Fit s := fun {y c} hc i hi => by
    obtain ⟨ha, rfl⟩ := Array.getElem?_eq_some_iff.mp hc
    have q := List.all_eq_true.mp ((Array.all_eq_true_iff_forall_mem.mp hF) _ (Array.getElem_mem ha)) i (List.mem_range.mpr hi)
    simpa [Array.getElem?_eq_getElem hi] using q
  obtain ⟨i0, ei0⟩ := isL_v a0
  obtain rfl : w0 = (.long i0) := Option.some.inj ei0
  obtain ⟨i1, ei1⟩ := isL_v a1
  obtain rfl : w1 = (.long i1) := Option.some.inj ei1
  obtain ⟨i2, ei2⟩ := isL_v a2
  obtain rfl : w2 = (.long i2) := Option.some.inj ei2
  obtain ⟨i3, ei3⟩ := is_v a3
  obtain rfl : w3 = (.int i3) := Option.some.inj ei3
  obtain ⟨i4, ei4⟩ := is_v a4
  obtain rfl : w4 = (.int i4) := Option.some.inj ei4
  obtain ⟨i5, ei5⟩ := is_v hg5
  obtain rfl : w5 = (.int i5) := Option.some.inj ei5
  obtain ⟨n, o, h1, h2, h3, _, L, rfl, ⟨rfl, N⟩, hq⟩ := rm0 l s _ hw tables_1 i0 i1 i2 i3 i4 i5  s.heap s.heap.size (Nat.le_refl _)  p e ha hc hk s m _ below hf ((Spec.applies_iff_loose hf).mp happ).1 ⟨rfl, State.Warmed39.refl s, rfl⟩ trivial
  refine ⟨n, _, h1, h2, h3, hpost _ _ _ _ _ _ ⟨Cond.after_iff.mpr rfl, Cond.after_iff.mpr (eq_i res_at (Term.int_eval (1)) rfl), trivial⟩ ⟨hq.1, hq.2.1, (hq.2.2.sift fun y hy => Or.inr (N y hy)).mono (by decide) (by decide)⟩⟩
theorem main_1_1 : Claimed_1_1 := comes_1 fun _ _ _ _ _ _ h hF => ⟨h.1, hF⟩
theorem main_1_2 : Claimed_1_2 := comes_1 fun _ _ _ _ _ _ h hF => ⟨h.2.1, hF⟩

end Jvm.Pilot.@@N@@
namespace Jvm.Pilot.@@N@@
open Jvm Jvm.ClassFile Sem Op Lib Jvm.Free Jvm.Stand Jvm.Pilot.@@N@@.Jvm.D
/-! MADE BY PROGRAM (witnessworld.py) out of the Statement's table words and the real class files: 11 classes; the members and pool entries that the words name. The judged class is class 1, her method 1. -/
namespace start1
open Jvm.ClassFile
def u (s : String) : CpInfo := .utf8 (stringToUtf16 s)
/-- a pool by its gaps: so many unusable entries, then the entry; so many at the end -/
def gap : Nat → List CpInfo → List CpInfo
  | 0, r => r
  | n + 1, r => .unusable :: gap n r
def poolList (es : List (Nat × CpInfo)) (last : Nat) : List CpInfo := es.foldr (fun e r => gap e.1 (e.2 :: r)) (gap last [])
def pool (es : List (Nat × CpInfo)) (last : Nat) : Array CpInfo := ⟨poolList es last⟩
def fileOf (pool : Array CpInfo) (this : Nat) (attrs : Array Attribute := #[]) (ms : Array MethodInfo := #[]) (fl : Nat := 33) (sup : Nat := 0) (ifs : Array Nat := #[]) (fds : Array FieldInfo := #[]) : ClassFile where
  minorVersion := 0
  majorVersion := 65
  constantPool := pool
  accessFlags := fl
  thisClass := this
  superClass := sup
  interfaces := ifs
  fields := fds
  methods := ms
  attributes := attrs
def plain (name : String) (sup : Option ClassId) : Class where
  name := name
  kind := .ordinary
  loader := none
  accessFlags := 33
  super := sup
  interfaces := #[]
  cf := none
  fields := #[]
  methods := #[]
  instanceTypes := #[]
  staticTypes := #[]
  resolved := #[]
  callSites := []
  init := .initialized
  statics := none
  mirror := none

def pool0 : Array CpInfo := pool [(5, u "<init>"), (0, u "()V"), (1, .class_ 10), (1, u "java/lang/Object")] 113

def k0c0 : Code := { maxStack := 0, maxLocals := 1, code := object_method_1_code, exceptionTable := #[], attributes := #[] }
def k0m0 : Method := { name := "<init>", desc := "()V", sig := { parameters := [], returnType := none }, accessFlags := 1, code := some k0c0 }
/-- java/lang/Object -/
def k0 : Class := { plain "java/lang/Object" none with
  accessFlags := 33
  interfaces := #[]
  cf := some (fileOf pool0 8 #[] #[{ accessFlags := 1, nameIndex := 5, descriptorIndex := 6, attributes := #[] }] 33 0 #[] #[])
  fields := #[]
  methods := #[k0m0]
  instanceTypes := #[]
  staticTypes := #[]
  resolved := Array.replicate 124 none
  statics := none }

def pool1 : Array CpInfo := pool [(2, .class_ 4), (1, u "java/lang/Object"), (0, u "<init>"), (0, u "()V"), (0, .class_ 8), (0, u "com/example/paranhos/paranhos/BitArray"), (0, .long 192), (1, .methodref 7 12), (0, .nameAndType 5 13), (0, u "(J)V"), (0, .methodref 7 15), (0, .nameAndType 16 17), (0, u "put"), (0, u "(JIJ)V"), (0, .long 64), (1, .long 128), (1, .integer 2147483647), (0, .methodref 7 24), (0, .nameAndType 25 26), (0, u "get"), (0, u "(JI)J"), (0, .class_ 28), (0, u "com/example/paranhos/paranhos/BitArrayGetPinLaw"), (2, u "law"), (0, u "(JJJIII)Z")] 3

def k1m0 : Method := { name := "<init>", desc := "()V", sig := { parameters := [], returnType := none }, accessFlags := 1, code := none }
def k1c1 : Code := { maxStack := 6, maxLocals := 22, code := code, exceptionTable := #[], attributes := #[] }
def k1m1 : Method := { name := "law", desc := "(JJJIII)Z", sig := { parameters := [.long, .long, .long, .int, .int, .int], returnType := some .boolean }, accessFlags := 9, code := some k1c1 }
/-- com/example/paranhos/paranhos/BitArrayGetPinLaw -/
def k1 : Class := { plain "com/example/paranhos/paranhos/BitArrayGetPinLaw" (some 0) with
  accessFlags := 49
  interfaces := #[]
  cf := some (fileOf pool1 27 #[] #[{ accessFlags := 1, nameIndex := 5, descriptorIndex := 6, attributes := #[] }, { accessFlags := 9, nameIndex := 31, descriptorIndex := 32, attributes := #[] }] 49 2 #[] #[])
  fields := #[]
  methods := #[k1m0, k1m1]
  instanceTypes := #[]
  staticTypes := #[]
  resolved := Array.replicate 36 none
  statics := none }

def pool2 : Array CpInfo := pool [(5, .methodref 6 7), (0, .class_ 8), (0, .nameAndType 9 10), (0, u "com/example/paranhos/paranhos/BitArray"), (0, u "wordsFor"), (0, u "(J)I"), (0, .methodref 6 12), (0, .nameAndType 13 14), (0, u "<init>"), (0, u "([JJ)V"), (0, .methodref 16 17), (0, .class_ 18), (0, .nameAndType 13 19), (0, u "java/lang/Object"), (0, u "()V"), (0, .fieldref 6 21), (0, .nameAndType 22 23), (0, u "words"), (0, u "[J"), (0, .fieldref 6 25), (0, .nameAndType 26 27), (0, u "length"), (0, u "J"), (12, .long 64), (5, .long 63), (1, .long 18446744073709551615), (9, u "get"), (0, u "(JI)J"), (8, u "put"), (0, u "(JIJ)V"), (0, u "MAX_BITS"), (3, u "(J)V")] 20

def k2c0 : Code := { maxStack := 4, maxLocals := 3, code := prog_1_method_1_code, exceptionTable := #[], attributes := #[] }
def k2m0 : Method := { name := "<init>", desc := "(J)V", sig := { parameters := [.long], returnType := none }, accessFlags := 0, code := some k2c0 }
def k2c1 : Code := { maxStack := 3, maxLocals := 4, code := prog_1_method_2_code, exceptionTable := #[], attributes := #[] }
def k2m1 : Method := { name := "<init>", desc := "([JJ)V", sig := { parameters := [(.array .long), .long], returnType := none }, accessFlags := 2, code := some k2c1 }
def k2c2 : Code := { maxStack := 4, maxLocals := 2, code := prog_1_method_5_code, exceptionTable := #[], attributes := #[] }
def k2m2 : Method := { name := "wordsFor", desc := "(J)I", sig := { parameters := [.long], returnType := some .int }, accessFlags := 8, code := some k2c2 }
def k2c3 : Code := { maxStack := 6, maxLocals := 8, code := prog_1_method_8_code, exceptionTable := #[], attributes := #[] }
def k2m3 : Method := { name := "get", desc := "(JI)J", sig := { parameters := [.long, .int], returnType := some .long }, accessFlags := 0, code := some k2c3 }
def k2c4 : Code := { maxStack := 8, maxLocals := 11, code := prog_1_method_9_code, exceptionTable := #[], attributes := #[] }
def k2m4 : Method := { name := "put", desc := "(JIJ)V", sig := { parameters := [.long, .int, .long], returnType := none }, accessFlags := 0, code := some k2c4 }
/-- com/example/paranhos/paranhos/BitArray -/
def k2 : Class := { plain "com/example/paranhos/paranhos/BitArray" (some 0) with
  accessFlags := 48
  interfaces := #[]
  cf := some (fileOf pool2 6 #[] #[{ accessFlags := 0, nameIndex := 13, descriptorIndex := 74, attributes := #[] }, { accessFlags := 2, nameIndex := 13, descriptorIndex := 14, attributes := #[] }, { accessFlags := 8, nameIndex := 9, descriptorIndex := 10, attributes := #[] }, { accessFlags := 0, nameIndex := 58, descriptorIndex := 59, attributes := #[] }, { accessFlags := 0, nameIndex := 68, descriptorIndex := 69, attributes := #[] }] 48 16 #[] #[{ accessFlags := 24, nameIndex := 70, descriptorIndex := 27, attributes := #[] }, { accessFlags := 18, nameIndex := 22, descriptorIndex := 23, attributes := #[] }, { accessFlags := 18, nameIndex := 26, descriptorIndex := 27, attributes := #[] }])
  fields := #[{ name := "MAX_BITS", type := .long, accessFlags := 24, slot := 0, constantValue := 0 }, { name := "words", type := (.array .long), accessFlags := 18, slot := 0, constantValue := 0 }, { name := "length", type := .long, accessFlags := 18, slot := 1, constantValue := 0 }]
  methods := #[k2m0, k2m1, k2m2, k2m3, k2m4]
  instanceTypes := #[(.array .long), .long]
  staticTypes := #[.long]
  resolved := Array.replicate 95 none
  statics := none }

def pool3 : Array CpInfo := pool [(1, u "java/lang/Cloneable"), (0, .class_ 1), (0, u "java/lang/Object"), (0, .class_ 3)] 3

/-- java/lang/Cloneable -/
def k3 : Class := { plain "java/lang/Cloneable" (some 0) with
  accessFlags := 1537
  interfaces := #[]
  cf := some (fileOf pool3 2 #[] #[] 1537 4 #[] #[])
  fields := #[]
  methods := #[]
  instanceTypes := #[]
  staticTypes := #[]
  resolved := Array.replicate 8 none
  statics := none }

def pool4 : Array CpInfo := pool [(1, u "java/io/Serializable"), (0, .class_ 1), (0, u "java/lang/Object"), (0, .class_ 3)] 3

/-- java/io/Serializable -/
def k4 : Class := { plain "java/io/Serializable" (some 0) with
  accessFlags := 1537
  interfaces := #[]
  cf := some (fileOf pool4 2 #[] #[] 1537 4 #[] #[])
  fields := #[]
  methods := #[]
  instanceTypes := #[]
  staticTypes := #[]
  resolved := Array.replicate 8 none
  statics := none }

/-- the primitive byte -/
def k5 : Class := { plain "byte" none with kind := .primitive 'B', accessFlags := 0x411 }
/-- [B -/
def k6 : Class := { plain "[B" (some 0) with kind := .array 5 .byte, interfaces := #[3, 4], accessFlags := 1041 }

/-- the primitive int -/
def k7 : Class := { plain "int" none with kind := .primitive 'I', accessFlags := 0x411 }
/-- [I -/
def k8 : Class := { plain "[I" (some 0) with kind := .array 7 .int, interfaces := #[3, 4], accessFlags := 1041 }

/-- the primitive long -/
def k9 : Class := { plain "long" none with kind := .primitive 'J', accessFlags := 0x411 }
/-- [J -/
def k10 : Class := { plain "[J" (some 0) with kind := .array 9 .long, interfaces := #[3, 4], accessFlags := 1041 }

def heap : Heap := #[]
def classes : Array Class := #[k0, k1, k2, k3, k4, k5, k6, k7, k8, k9, k10]
def interned : List (Array UInt16 × Addr) := []
def slotsUsed : Nat := 0
def theMethod : MethodId := ⟨1, 1⟩
def args0 : Array Value := #[.long 5, .long 6, .long 7, .int 8, .int 9, .int 10]
def aboutOver (below : List Frame) : State where
  vm := { classes := classes, interned := interned.toArray }
  heap := heap
  slotsUsed := slotsUsed
  threads := #[{ frames := .invoking theMethod args0 :: below }]
def below0 : List Frame := [.native { method := ⟨0, 0⟩, args := #[] }]
def about1 : State := aboutOver below0
def p0 : Program := .bare "" "" ""
def e0 : Env := launch0.env 0 0 0
theorem w_frames : about1.frames = Frame.invoking theMethod args0 :: below0 := rfl
set_option maxRecDepth 65536 in
theorem w_args : argsFit about1.vm theMethod args0 = true := by decide +kernel
set_option maxRecDepth 65536 in
theorem w_heap : heapFits about1 = true := by decide +kernel
set_option maxRecDepth 65536 in
theorem w_runnable : about1.curStatus? = some .runnable := by decide +kernel
set_option maxRecDepth 65536 in
theorem w_alone : about1.alone = true := by decide +kernel
set_option maxRecDepth 65536 in
theorem w_named : about1.methodNamed? x = some theMethod := by decide +kernel
set_option maxRecDepth 65536 in
theorem w_hears : about1.hears theMethod below0 = true := by decide +kernel
set_option maxRecDepth 65536 in
theorem w_ripe : about1.ripe theMethod args0 below0 = true := by decide +kernel
theorem w_running : about1.status = .running := rfl
set_option maxRecDepth 65536 in
theorem w_room : about1.hasRoom e0.platform room_1 = true :=
  launch0.hasRoom_least _ room_1 (by decide +kernel) (by decide +kernel) (by decide +kernel) (by decide +kernel) (by decide +kernel) (by decide +kernel)
theorem allAtoms_all (ts : List Jvm.Cond) (a : Array Jvm.Value) (st : Jvm.State) : (allAtoms ts).before a st = ts.all (fun c => c.before a st) := by
  induction ts with
  | nil => rfl
  | cons c t ih =>
    show (Jvm.Cond.and c (allAtoms t)).before a st = _
    rw [Jvm.Cond.before_and, ih, List.all_cons]
def words1 : List Jvm.Cond := Jvm.Cond.code x code maxLocals ret :: tables_1
/-- a 'code' word, met by the world's own term for the bytes: nothing is compared byte by byte -/
theorem code_word {y : MethodName} {bytes : ByteArray} {mx : Nat} {rt : Option FieldType} {a : Array Value} {s : State} {m : MethodId} {meth : Method} {c : Code} (h1 : s.methodNamed? y = some m) (h2 : s.vm.method? m = some meth) (h3 : meth.code = some c) (h4 : c.code = bytes)
    (h5 : (c.maxLocals == mx && c.exceptionTable.isEmpty && decide (c.maxStack ≤ mostOperands) && decide (meth.sig.returnType = rt) && !meth.locks && decide (parseMethodDescriptor y.desc = some meth.sig)) = true) : (Jvm.Cond.code y bytes mx rt).before a s = true := by
  simp only [Bool.and_eq_true, beq_iff_eq, Bool.not_eq_true', decide_eq_true_eq] at h5
  obtain ⟨⟨⟨⟨⟨g1, g2⟩, g3⟩, g4⟩, g5⟩, g6⟩ := h5
  simp [Cond.before, Cond.holds, Cond.value, h1, h2, h3, h4, g1, g2, g3, g4, g5, g6]
def isCode : Jvm.Cond → Bool
  | .code _ _ _ _ => true
  | _ => false
theorem all_split {L : List Jvm.Cond} {P : Jvm.Cond → Bool} (h1 : L.all (fun c => isCode c || P c) = true) (h2 : ∀ c ∈ L.filter isCode, P c = true) : L.all P = true := by
  refine List.all_eq_true.mpr fun c hc => ?_
  have h := List.all_eq_true.mp h1 c hc
  rcases Bool.eq_false_or_eq_true (isCode c) with hi | hi
  · exact h2 c (List.mem_filter.mpr ⟨hc, hi⟩)
  · simpa [hi] using h
set_option maxRecDepth 65536 in
theorem w_c0 : (Jvm.Cond.code x code maxLocals ret).before args0 about1 = true := code_word (m := ⟨1, 1⟩) (meth := k1m1) (c := k1c1) (by decide +kernel) rfl rfl rfl (by decide +kernel)
set_option maxRecDepth 65536 in
theorem w_c1 : (Jvm.Cond.code ({ cls := "com/example/paranhos/paranhos/BitArray", name := "<init>", desc := "(J)V" } : Jvm.MethodName) prog_1_method_1_code (3 : Nat) (Option.none : Option Jvm.ClassFile.FieldType)).before args0 about1 = true := code_word (m := ⟨2, 0⟩) (meth := k2m0) (c := k2c0) (by decide +kernel) rfl rfl rfl (by decide +kernel)
set_option maxRecDepth 65536 in
theorem w_c2 : (Jvm.Cond.code ({ cls := "com/example/paranhos/paranhos/BitArray", name := "wordsFor", desc := "(J)I" } : Jvm.MethodName) prog_1_method_5_code (2 : Nat) (Option.some Jvm.ClassFile.FieldType.int)).before args0 about1 = true := code_word (m := ⟨2, 2⟩) (meth := k2m2) (c := k2c2) (by decide +kernel) rfl rfl rfl (by decide +kernel)
set_option maxRecDepth 65536 in
theorem w_c3 : (Jvm.Cond.code ({ cls := "com/example/paranhos/paranhos/BitArray", name := "<init>", desc := "([JJ)V" } : Jvm.MethodName) prog_1_method_2_code (4 : Nat) (Option.none : Option Jvm.ClassFile.FieldType)).before args0 about1 = true := code_word (m := ⟨2, 1⟩) (meth := k2m1) (c := k2c1) (by decide +kernel) rfl rfl rfl (by decide +kernel)
set_option maxRecDepth 65536 in
theorem w_c4 : (Jvm.Cond.code ({ cls := "java/lang/Object", name := "<init>", desc := "()V" } : Jvm.MethodName) object_method_1_code (1 : Nat) (Option.none : Option Jvm.ClassFile.FieldType)).before args0 about1 = true := code_word (m := ⟨0, 0⟩) (meth := k0m0) (c := k0c0) (by decide +kernel) rfl rfl rfl (by decide +kernel)
set_option maxRecDepth 65536 in
theorem w_c5 : (Jvm.Cond.code ({ cls := "com/example/paranhos/paranhos/BitArray", name := "put", desc := "(JIJ)V" } : Jvm.MethodName) prog_1_method_9_code (11 : Nat) (Option.none : Option Jvm.ClassFile.FieldType)).before args0 about1 = true := code_word (m := ⟨2, 4⟩) (meth := k2m4) (c := k2c4) (by decide +kernel) rfl rfl rfl (by decide +kernel)
set_option maxRecDepth 65536 in
theorem w_c6 : (Jvm.Cond.code ({ cls := "com/example/paranhos/paranhos/BitArray", name := "get", desc := "(JI)J" } : Jvm.MethodName) prog_1_method_8_code (8 : Nat) (Option.some Jvm.ClassFile.FieldType.long)).before args0 about1 = true := code_word (m := ⟨2, 3⟩) (meth := k2m3) (c := k2c3) (by decide +kernel) rfl rfl rfl (by decide +kernel)
def codes1 : List Jvm.Cond := [Jvm.Cond.code x code maxLocals ret, Jvm.Cond.code ({ cls := "com/example/paranhos/paranhos/BitArray", name := "<init>", desc := "(J)V" } : Jvm.MethodName) prog_1_method_1_code (3 : Nat) (Option.none : Option Jvm.ClassFile.FieldType), Jvm.Cond.code ({ cls := "com/example/paranhos/paranhos/BitArray", name := "wordsFor", desc := "(J)I" } : Jvm.MethodName) prog_1_method_5_code (2 : Nat) (Option.some Jvm.ClassFile.FieldType.int), Jvm.Cond.code ({ cls := "com/example/paranhos/paranhos/BitArray", name := "<init>", desc := "([JJ)V" } : Jvm.MethodName) prog_1_method_2_code (4 : Nat) (Option.none : Option Jvm.ClassFile.FieldType), Jvm.Cond.code ({ cls := "java/lang/Object", name := "<init>", desc := "()V" } : Jvm.MethodName) object_method_1_code (1 : Nat) (Option.none : Option Jvm.ClassFile.FieldType), Jvm.Cond.code ({ cls := "com/example/paranhos/paranhos/BitArray", name := "put", desc := "(JIJ)V" } : Jvm.MethodName) prog_1_method_9_code (11 : Nat) (Option.none : Option Jvm.ClassFile.FieldType), Jvm.Cond.code ({ cls := "com/example/paranhos/paranhos/BitArray", name := "get", desc := "(JI)J" } : Jvm.MethodName) prog_1_method_8_code (8 : Nat) (Option.some Jvm.ClassFile.FieldType.long)]
set_option maxRecDepth 65536 in
theorem codes_eq : words1.filter isCode = codes1 := rfl
theorem w_codes : ∀ c ∈ words1.filter isCode, c.before args0 about1 = true := by
  rw [codes_eq]
  intro c hc
  simp only [codes1, List.mem_cons, List.not_mem_nil, or_false] at hc
  rcases hc with rfl | rfl | rfl | rfl | rfl | rfl | rfl
  · exact w_c0
  · exact w_c1
  · exact w_c2
  · exact w_c3
  · exact w_c4
  · exact w_c5
  · exact w_c6
set_option maxRecDepth 65536 in
theorem w_t1 : (words1.take 24).all (fun c => isCode c || c.before args0 about1) = true := by decide +kernel
set_option maxRecDepth 65536 in
theorem w_t2 : (words1.drop 24).all (fun c => isCode c || c.before args0 about1) = true := by decide +kernel
theorem w_tables : (allAtoms (Jvm.Cond.code x code maxLocals ret :: tables_1)).before args0 about1 = true := by
  rw [allAtoms_all]
  show words1.all (fun c => c.before args0 about1) = true
  refine all_split ?_ w_codes
  rw [← List.take_append_drop 24 words1, List.all_append, w_t1, w_t2]
  rfl
set_option maxRecDepth 65536 in
theorem w_case : (Jvm.Cond.and given_1 narrow_1).before args0 about1 = true := by decide +kernel
theorem w_applies : (headSpec (Jvm.Cond.code x code maxLocals ret :: tables_1) room_1).applies x e0.platform about1 = true :=
  (Spec.applies_iff w_frames).mpr ⟨w_running, w_runnable, w_alone, w_named, w_hears, w_ripe, w_room, w_tables⟩
theorem atStart : AtStart classFile x code maxLocals ret World_1 tables_1 room_1 Calls_1 rest_1 Pre_1 launch0 p0 e0 about1 theMethod args0 below0 :=
  ⟨lists_1, trivial, launch0.admits_env _ _ _, launch0.least_env, fairChoices_fair.cas, fairChoices_fair.clock, w_frames, w_args, w_heap, w_applies, trivial, trivial, w_case⟩
end start1
theorem witness_1 : WitnessClaimed_1 := ⟨start1.p0, start1.e0, start1.about1, start1.theMethod, start1.args0, start1.below0, start1.atStart⟩
end Jvm.Pilot.@@N@@
