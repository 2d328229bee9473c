import JvmDerived
import JvmDerived.Pilot.@@N@@Statement
import JvmDerived.Pilot.@@N@@Code
set_option linter.unusedVariables false
set_option linter.unusedSimpArgs false
namespace Jvm.Pilot.@@N@@
open Jvm Jvm.ClassFile Sem Op Lib Jvm.Free Jvm.Stand Jvm.LawKit Jvm.RoadKit Bundle Jvm.Pilot.@@N@@.Jvm.D
section OwnBase
def Gets (tb : Tables) (e : Env) (below : List Frame) (P : Outcome → State → Prop) (T : State) (g : JFrame) : Prop := ∃ t o, Steps tb e below (T.setTop g) t ∧ t.status = .running ∧ Ended t below o ∧ P o t
theorem Gets.by {tb : Tables} {e : Env} {below : List Frame} {P : Outcome → State → Prop} {T T' : State} {g g' : JFrame} (h : Gets tb e below P T' g') (k : ∀ t, Steps tb e below (T'.setTop g') t → Steps tb e below (T.setTop g) t) : Gets tb e below P T g := by
  obtain ⟨t, o, h1, h2⟩ := h
  exact ⟨t, o, k t h1, h2⟩
theorem g_iloadN {tb : Tables} [Ours tb] {e : Env} {below : List Frame} {T : State} {m : MethodId} {c : Code} {P : Outcome → State → Prop} {pc pc' : Nat} {Ls : Array Slot} {st : List Value} {j : Fin 4} {v : Int32} (H : At T m c below) (hx : tb.exec = Jvm.exec) (hd : decode c.code pc = .ok (.iload_n j, 1)) (hl : Ls[j.val]? = some (.val (.int v))) (hp : pc + 1 = pc')
    (k : Gets tb e below P T (mkF m pc' Ls (.int v :: st))) : Gets tb e below P T (mkF m pc Ls (st)) := by
  subst hp; refine k.by fun t qq => ?_; exact XS.iloadN H hx rfl hd hl qq
theorem g_iload {tb : Tables} [Ours tb] {e : Env} {below : List Frame} {T : State} {m : MethodId} {c : Code} {P : Outcome → State → Prop} {pc pc' : Nat} {Ls : Array Slot} {st : List Value} {j : Nat} {v : Int32} (H : At T m c below) (hx : tb.exec = Jvm.exec) (hd : decode c.code pc = .ok (.iload j, 2)) (hl : Ls[j]? = some (.val (.int v))) (hp : pc + 2 = pc')
    (k : Gets tb e below P T (mkF m pc' Ls (.int v :: st))) : Gets tb e below P T (mkF m pc Ls (st)) := by
  subst hp; refine k.by fun t qq => ?_; exact XS.iload H hx rfl hd hl qq
theorem g_istoreN {tb : Tables} [Ours tb] {e : Env} {below : List Frame} {T : State} {m : MethodId} {c : Code} {P : Outcome → State → Prop} {pc pc' : Nat} {Ls : Array Slot} {st : List Value} {j : Fin 4} {v : Int32} {Ls' : Array Slot} (H : At T m c below) (hx : tb.exec = Jvm.exec) (hd : decode c.code pc = .ok (.istore_n j, 1)) (hl : storeLocals Ls j.val (.int v) = some Ls') (hp : pc + 1 = pc')
    (k : Gets tb e below P T (mkF m pc' Ls' (st))) : Gets tb e below P T (mkF m pc Ls (.int v :: st)) := by
  subst hp; refine k.by fun t qq => ?_; exact XS.istoreN H hx rfl hd rfl hl qq
theorem g_istore {tb : Tables} [Ours tb] {e : Env} {below : List Frame} {T : State} {m : MethodId} {c : Code} {P : Outcome → State → Prop} {pc pc' : Nat} {Ls : Array Slot} {st : List Value} {j : Nat} {v : Int32} {Ls' : Array Slot} (H : At T m c below) (hx : tb.exec = Jvm.exec) (hd : decode c.code pc = .ok (.istore j, 2)) (hl : storeLocals Ls j (.int v) = some Ls') (hp : pc + 2 = pc')
    (k : Gets tb e below P T (mkF m pc' Ls' (st))) : Gets tb e below P T (mkF m pc Ls (.int v :: st)) := by
  subst hp; refine k.by fun t qq => ?_; exact XS.istore H hx rfl hd rfl hl qq
theorem g_lloadN {tb : Tables} [Ours tb] {e : Env} {below : List Frame} {T : State} {m : MethodId} {c : Code} {P : Outcome → State → Prop} {pc pc' : Nat} {Ls : Array Slot} {st : List Value} {j : Fin 4} {v : Int64} (H : At T m c below) (hx : tb.exec = Jvm.exec) (hd : decode c.code pc = .ok (.lload_n j, 1)) (hl : Ls[j.val]? = some (.val (.long v))) (hp : pc + 1 = pc')
    (k : Gets tb e below P T (mkF m pc' Ls (.long v :: st))) : Gets tb e below P T (mkF m pc Ls (st)) := by
  subst hp; refine k.by fun t qq => ?_; exact XS.lloadN H hx rfl hd hl qq
theorem g_lload {tb : Tables} [Ours tb] {e : Env} {below : List Frame} {T : State} {m : MethodId} {c : Code} {P : Outcome → State → Prop} {pc pc' : Nat} {Ls : Array Slot} {st : List Value} {j : Nat} {v : Int64} (H : At T m c below) (hx : tb.exec = Jvm.exec) (hd : decode c.code pc = .ok (.lload j, 2)) (hl : Ls[j]? = some (.val (.long v))) (hp : pc + 2 = pc')
    (k : Gets tb e below P T (mkF m pc' Ls (.long v :: st))) : Gets tb e below P T (mkF m pc Ls (st)) := by
  subst hp; refine k.by fun t qq => ?_; exact XS.lload H hx rfl hd hl qq
theorem g_lstoreN {tb : Tables} [Ours tb] {e : Env} {below : List Frame} {T : State} {m : MethodId} {c : Code} {P : Outcome → State → Prop} {pc pc' : Nat} {Ls : Array Slot} {st : List Value} {j : Fin 4} {v : Int64} {Ls' : Array Slot} (H : At T m c below) (hx : tb.exec = Jvm.exec) (hd : decode c.code pc = .ok (.lstore_n j, 1)) (hl : storeLocals Ls j.val (.long v) = some Ls') (hp : pc + 1 = pc')
    (k : Gets tb e below P T (mkF m pc' Ls' (st))) : Gets tb e below P T (mkF m pc Ls (.long v :: st)) := by
  subst hp; refine k.by fun t qq => ?_; exact XS.lstoreN H hx rfl hd rfl hl qq
theorem g_lstore {tb : Tables} [Ours tb] {e : Env} {below : List Frame} {T : State} {m : MethodId} {c : Code} {P : Outcome → State → Prop} {pc pc' : Nat} {Ls : Array Slot} {st : List Value} {j : Nat} {v : Int64} {Ls' : Array Slot} (H : At T m c below) (hx : tb.exec = Jvm.exec) (hd : decode c.code pc = .ok (.lstore j, 2)) (hl : storeLocals Ls j (.long v) = some Ls') (hp : pc + 2 = pc')
    (k : Gets tb e below P T (mkF m pc' Ls' (st))) : Gets tb e below P T (mkF m pc Ls (.long v :: st)) := by
  subst hp; refine k.by fun t qq => ?_; exact XS.lstore H hx rfl hd rfl hl qq
theorem g_aloadN {tb : Tables} [Ours tb] {e : Env} {below : List Frame} {T : State} {m : MethodId} {c : Code} {P : Outcome → State → Prop} {pc pc' : Nat} {Ls : Array Slot} {st : List Value} {j : Fin 4} {v : Value} (H : At T m c below) (hx : tb.exec = Jvm.exec) (hd : decode c.code pc = .ok (.aload_n j, 1)) (hl : Ls[j.val]? = some (.val v)) (hv : v.isRef = true) (hp : pc + 1 = pc')
    (k : Gets tb e below P T (mkF m pc' Ls (v :: st))) : Gets tb e below P T (mkF m pc Ls (st)) := by
  subst hp; refine k.by fun t qq => ?_; exact XS.aloadN H hx rfl hd hl hv qq
theorem g_aload {tb : Tables} [Ours tb] {e : Env} {below : List Frame} {T : State} {m : MethodId} {c : Code} {P : Outcome → State → Prop} {pc pc' : Nat} {Ls : Array Slot} {st : List Value} {j : Nat} {v : Value} (H : At T m c below) (hx : tb.exec = Jvm.exec) (hd : decode c.code pc = .ok (.aload j, 2)) (hl : Ls[j]? = some (.val v)) (hv : v.isRef = true) (hp : pc + 2 = pc')
    (k : Gets tb e below P T (mkF m pc' Ls (v :: st))) : Gets tb e below P T (mkF m pc Ls (st)) := by
  subst hp; refine k.by fun t qq => ?_; exact XS.aload H hx rfl hd hl hv qq
theorem g_astoreN {tb : Tables} [Ours tb] {e : Env} {below : List Frame} {T : State} {m : MethodId} {c : Code} {P : Outcome → State → Prop} {pc pc' : Nat} {Ls : Array Slot} {st : List Value} {j : Fin 4} {v : Value} {Ls' : Array Slot} (H : At T m c below) (hx : tb.exec = Jvm.exec) (hd : decode c.code pc = .ok (.astore_n j, 1)) (hv : v.isRef = true) (hl : storeLocals Ls j.val v = some Ls') (hp : pc + 1 = pc')
    (k : Gets tb e below P T (mkF m pc' Ls' (st))) : Gets tb e below P T (mkF m pc Ls (v :: st)) := by
  subst hp; refine k.by fun t qq => ?_; exact XS.astoreN H hx rfl hd rfl hv hl qq
theorem g_astore {tb : Tables} [Ours tb] {e : Env} {below : List Frame} {T : State} {m : MethodId} {c : Code} {P : Outcome → State → Prop} {pc pc' : Nat} {Ls : Array Slot} {st : List Value} {j : Nat} {v : Value} {Ls' : Array Slot} (H : At T m c below) (hx : tb.exec = Jvm.exec) (hd : decode c.code pc = .ok (.astore j, 2)) (hv : v.isRef = true) (hl : storeLocals Ls j v = some Ls') (hp : pc + 2 = pc')
    (k : Gets tb e below P T (mkF m pc' Ls' (st))) : Gets tb e below P T (mkF m pc Ls (v :: st)) := by
  subst hp; refine k.by fun t qq => ?_; exact XS.astore H hx rfl hd rfl hv hl qq
theorem g_iconst {tb : Tables} [Ours tb] {e : Env} {below : List Frame} {T : State} {m : MethodId} {c : Code} {P : Outcome → State → Prop} {pc pc' : Nat} {Ls : Array Slot} {st : List Value} {i : Int} (v : Int32) (H : At T m c below) (hx : tb.exec = Jvm.exec) (hd : decode c.code pc = .ok (.iconst i, 1)) (hv : Int32.ofInt i = v) (hp : pc + 1 = pc')
    (k : Gets tb e below P T (mkF m pc' Ls (.int v :: st))) : Gets tb e below P T (mkF m pc Ls st) := by
  subst hp; subst hv; refine k.by fun t qq => ?_; exact XS.iconst H hx rfl hd qq
theorem g_bipush {tb : Tables} [Ours tb] {e : Env} {below : List Frame} {T : State} {m : MethodId} {c : Code} {P : Outcome → State → Prop} {pc pc' : Nat} {Ls : Array Slot} {st : List Value} {i : Int} (v : Int32) (H : At T m c below) (hx : tb.exec = Jvm.exec) (hd : decode c.code pc = .ok (.bipush i, 2)) (hv : (Int8.ofInt i).toInt32 = v) (hp : pc + 2 = pc')
    (k : Gets tb e below P T (mkF m pc' Ls (.int v :: st))) : Gets tb e below P T (mkF m pc Ls st) := by
  subst hp; subst hv; refine k.by fun t qq => ?_; exact XS.bipush H hx rfl hd qq
theorem g_sipush {tb : Tables} [Ours tb] {e : Env} {below : List Frame} {T : State} {m : MethodId} {c : Code} {P : Outcome → State → Prop} {pc pc' : Nat} {Ls : Array Slot} {st : List Value} {i : Int} (v : Int32) (H : At T m c below) (hx : tb.exec = Jvm.exec) (hd : decode c.code pc = .ok (.sipush i, 3)) (hv : (Int16.ofInt i).toInt32 = v) (hp : pc + 3 = pc')
    (k : Gets tb e below P T (mkF m pc' Ls (.int v :: st))) : Gets tb e below P T (mkF m pc Ls st) := by
  subst hp; subst hv; refine k.by fun t qq => ?_; exact XS.sipush H hx rfl hd qq
theorem g_aconstNull {tb : Tables} [Ours tb] {e : Env} {below : List Frame} {T : State} {m : MethodId} {c : Code} {P : Outcome → State → Prop} {pc pc' : Nat} {Ls : Array Slot} {st : List Value}  (H : At T m c below) (hx : tb.exec = Jvm.exec) (hd : decode c.code pc = .ok (.aconst_null, 1))  (hp : pc + 1 = pc')
    (k : Gets tb e below P T (mkF m pc' Ls (.null :: st))) : Gets tb e below P T (mkF m pc Ls (st)) := by
  subst hp; refine k.by fun t qq => ?_; exact XS.aconstNull H hx rfl hd  qq
theorem g_iadd {tb : Tables} [Ours tb] {e : Env} {below : List Frame} {T : State} {m : MethodId} {c : Code} {P : Outcome → State → Prop} {pc pc' : Nat} {Ls : Array Slot} {st : List Value} {x y : Int32} (H : At T m c below) (hx : tb.exec = Jvm.exec) (hd : decode c.code pc = .ok (.iadd, 1))  (hp : pc + 1 = pc')
    (k : Gets tb e below P T (mkF m pc' Ls (.int (x + y) :: st))) : Gets tb e below P T (mkF m pc Ls (.int y :: .int x :: st)) := by
  subst hp; refine k.by fun t qq => ?_; exact XS.iadd H hx rfl hd rfl qq
theorem g_isub {tb : Tables} [Ours tb] {e : Env} {below : List Frame} {T : State} {m : MethodId} {c : Code} {P : Outcome → State → Prop} {pc pc' : Nat} {Ls : Array Slot} {st : List Value} {x y : Int32} (H : At T m c below) (hx : tb.exec = Jvm.exec) (hd : decode c.code pc = .ok (.isub, 1))  (hp : pc + 1 = pc')
    (k : Gets tb e below P T (mkF m pc' Ls (.int (x - y) :: st))) : Gets tb e below P T (mkF m pc Ls (.int y :: .int x :: st)) := by
  subst hp; refine k.by fun t qq => ?_; exact XS.isub H hx rfl hd rfl qq
theorem g_imul {tb : Tables} [Ours tb] {e : Env} {below : List Frame} {T : State} {m : MethodId} {c : Code} {P : Outcome → State → Prop} {pc pc' : Nat} {Ls : Array Slot} {st : List Value} {x y : Int32} (H : At T m c below) (hx : tb.exec = Jvm.exec) (hd : decode c.code pc = .ok (.imul, 1))  (hp : pc + 1 = pc')
    (k : Gets tb e below P T (mkF m pc' Ls (.int (x * y) :: st))) : Gets tb e below P T (mkF m pc Ls (.int y :: .int x :: st)) := by
  subst hp; refine k.by fun t qq => ?_; exact XS.imul H hx rfl hd rfl qq
theorem g_iand {tb : Tables} [Ours tb] {e : Env} {below : List Frame} {T : State} {m : MethodId} {c : Code} {P : Outcome → State → Prop} {pc pc' : Nat} {Ls : Array Slot} {st : List Value} {x y : Int32} (H : At T m c below) (hx : tb.exec = Jvm.exec) (hd : decode c.code pc = .ok (.iand, 1))  (hp : pc + 1 = pc')
    (k : Gets tb e below P T (mkF m pc' Ls (.int (x &&& y) :: st))) : Gets tb e below P T (mkF m pc Ls (.int y :: .int x :: st)) := by
  subst hp; refine k.by fun t qq => ?_; exact XS.iand H hx rfl hd rfl qq
theorem g_ior {tb : Tables} [Ours tb] {e : Env} {below : List Frame} {T : State} {m : MethodId} {c : Code} {P : Outcome → State → Prop} {pc pc' : Nat} {Ls : Array Slot} {st : List Value} {x y : Int32} (H : At T m c below) (hx : tb.exec = Jvm.exec) (hd : decode c.code pc = .ok (.ior, 1))  (hp : pc + 1 = pc')
    (k : Gets tb e below P T (mkF m pc' Ls (.int (x ||| y) :: st))) : Gets tb e below P T (mkF m pc Ls (.int y :: .int x :: st)) := by
  subst hp; refine k.by fun t qq => ?_; exact XS.ior H hx rfl hd rfl qq
theorem g_ixor {tb : Tables} [Ours tb] {e : Env} {below : List Frame} {T : State} {m : MethodId} {c : Code} {P : Outcome → State → Prop} {pc pc' : Nat} {Ls : Array Slot} {st : List Value} {x y : Int32} (H : At T m c below) (hx : tb.exec = Jvm.exec) (hd : decode c.code pc = .ok (.ixor, 1))  (hp : pc + 1 = pc')
    (k : Gets tb e below P T (mkF m pc' Ls (.int (x ^^^ y) :: st))) : Gets tb e below P T (mkF m pc Ls (.int y :: .int x :: st)) := by
  subst hp; refine k.by fun t qq => ?_; exact XS.ixor H hx rfl hd rfl qq
theorem g_ishl {tb : Tables} [Ours tb] {e : Env} {below : List Frame} {T : State} {m : MethodId} {c : Code} {P : Outcome → State → Prop} {pc pc' : Nat} {Ls : Array Slot} {st : List Value} {x y : Int32} (H : At T m c below) (hx : tb.exec = Jvm.exec) (hd : decode c.code pc = .ok (.ishl, 1))  (hp : pc + 1 = pc')
    (k : Gets tb e below P T (mkF m pc' Ls (.int (x <<< (y &&& 31)) :: st))) : Gets tb e below P T (mkF m pc Ls (.int y :: .int x :: st)) := by
  subst hp; refine k.by fun t qq => ?_; exact XS.ishl H hx rfl hd rfl qq
theorem g_ishr {tb : Tables} [Ours tb] {e : Env} {below : List Frame} {T : State} {m : MethodId} {c : Code} {P : Outcome → State → Prop} {pc pc' : Nat} {Ls : Array Slot} {st : List Value} {x y : Int32} (H : At T m c below) (hx : tb.exec = Jvm.exec) (hd : decode c.code pc = .ok (.ishr, 1))  (hp : pc + 1 = pc')
    (k : Gets tb e below P T (mkF m pc' Ls (.int (x >>> (y &&& 31)) :: st))) : Gets tb e below P T (mkF m pc Ls (.int y :: .int x :: st)) := by
  subst hp; refine k.by fun t qq => ?_; exact XS.ishr H hx rfl hd rfl qq
theorem g_iushr {tb : Tables} [Ours tb] {e : Env} {below : List Frame} {T : State} {m : MethodId} {c : Code} {P : Outcome → State → Prop} {pc pc' : Nat} {Ls : Array Slot} {st : List Value} {x y : Int32} (H : At T m c below) (hx : tb.exec = Jvm.exec) (hd : decode c.code pc = .ok (.iushr, 1))  (hp : pc + 1 = pc')
    (k : Gets tb e below P T (mkF m pc' Ls (.int ((x.toUInt32 >>> (y &&& 31).toUInt32).toInt32) :: st))) : Gets tb e below P T (mkF m pc Ls (.int y :: .int x :: st)) := by
  subst hp; refine k.by fun t qq => ?_; exact XS.iushr H hx rfl hd rfl qq
theorem g_ladd {tb : Tables} [Ours tb] {e : Env} {below : List Frame} {T : State} {m : MethodId} {c : Code} {P : Outcome → State → Prop} {pc pc' : Nat} {Ls : Array Slot} {st : List Value} {x y : Int64} (H : At T m c below) (hx : tb.exec = Jvm.exec) (hd : decode c.code pc = .ok (.ladd, 1))  (hp : pc + 1 = pc')
    (k : Gets tb e below P T (mkF m pc' Ls (.long (x + y) :: st))) : Gets tb e below P T (mkF m pc Ls (.long y :: .long x :: st)) := by
  subst hp; refine k.by fun t qq => ?_; exact XS.ladd H hx rfl hd rfl qq
theorem g_lsub {tb : Tables} [Ours tb] {e : Env} {below : List Frame} {T : State} {m : MethodId} {c : Code} {P : Outcome → State → Prop} {pc pc' : Nat} {Ls : Array Slot} {st : List Value} {x y : Int64} (H : At T m c below) (hx : tb.exec = Jvm.exec) (hd : decode c.code pc = .ok (.lsub, 1))  (hp : pc + 1 = pc')
    (k : Gets tb e below P T (mkF m pc' Ls (.long (x - y) :: st))) : Gets tb e below P T (mkF m pc Ls (.long y :: .long x :: st)) := by
  subst hp; refine k.by fun t qq => ?_; exact XS.lsub H hx rfl hd rfl qq
theorem g_lmul {tb : Tables} [Ours tb] {e : Env} {below : List Frame} {T : State} {m : MethodId} {c : Code} {P : Outcome → State → Prop} {pc pc' : Nat} {Ls : Array Slot} {st : List Value} {x y : Int64} (H : At T m c below) (hx : tb.exec = Jvm.exec) (hd : decode c.code pc = .ok (.lmul, 1))  (hp : pc + 1 = pc')
    (k : Gets tb e below P T (mkF m pc' Ls (.long (x * y) :: st))) : Gets tb e below P T (mkF m pc Ls (.long y :: .long x :: st)) := by
  subst hp; refine k.by fun t qq => ?_; exact XS.lmul H hx rfl hd rfl qq
theorem g_land {tb : Tables} [Ours tb] {e : Env} {below : List Frame} {T : State} {m : MethodId} {c : Code} {P : Outcome → State → Prop} {pc pc' : Nat} {Ls : Array Slot} {st : List Value} {x y : Int64} (H : At T m c below) (hx : tb.exec = Jvm.exec) (hd : decode c.code pc = .ok (.land, 1))  (hp : pc + 1 = pc')
    (k : Gets tb e below P T (mkF m pc' Ls (.long (x &&& y) :: st))) : Gets tb e below P T (mkF m pc Ls (.long y :: .long x :: st)) := by
  subst hp; refine k.by fun t qq => ?_; exact XS.land H hx rfl hd rfl qq
theorem g_lor {tb : Tables} [Ours tb] {e : Env} {below : List Frame} {T : State} {m : MethodId} {c : Code} {P : Outcome → State → Prop} {pc pc' : Nat} {Ls : Array Slot} {st : List Value} {x y : Int64} (H : At T m c below) (hx : tb.exec = Jvm.exec) (hd : decode c.code pc = .ok (.lor, 1))  (hp : pc + 1 = pc')
    (k : Gets tb e below P T (mkF m pc' Ls (.long (x ||| y) :: st))) : Gets tb e below P T (mkF m pc Ls (.long y :: .long x :: st)) := by
  subst hp; refine k.by fun t qq => ?_; exact XS.lor H hx rfl hd rfl qq
theorem g_lxor {tb : Tables} [Ours tb] {e : Env} {below : List Frame} {T : State} {m : MethodId} {c : Code} {P : Outcome → State → Prop} {pc pc' : Nat} {Ls : Array Slot} {st : List Value} {x y : Int64} (H : At T m c below) (hx : tb.exec = Jvm.exec) (hd : decode c.code pc = .ok (.lxor, 1))  (hp : pc + 1 = pc')
    (k : Gets tb e below P T (mkF m pc' Ls (.long (x ^^^ y) :: st))) : Gets tb e below P T (mkF m pc Ls (.long y :: .long x :: st)) := by
  subst hp; refine k.by fun t qq => ?_; exact XS.lxor H hx rfl hd rfl qq
theorem g_lshl {tb : Tables} [Ours tb] {e : Env} {below : List Frame} {T : State} {m : MethodId} {c : Code} {P : Outcome → State → Prop} {pc pc' : Nat} {Ls : Array Slot} {st : List Value} {x : Int64} {y : Int32} (H : At T m c below) (hx : tb.exec = Jvm.exec) (hd : decode c.code pc = .ok (.lshl, 1))  (hp : pc + 1 = pc')
    (k : Gets tb e below P T (mkF m pc' Ls (.long (x <<< (y &&& 0x3f).toInt64) :: st))) : Gets tb e below P T (mkF m pc Ls (.int y :: .long x :: st)) := by
  subst hp; refine k.by fun t qq => ?_; exact XS.lshl H hx rfl hd rfl qq
theorem g_lshr {tb : Tables} [Ours tb] {e : Env} {below : List Frame} {T : State} {m : MethodId} {c : Code} {P : Outcome → State → Prop} {pc pc' : Nat} {Ls : Array Slot} {st : List Value} {x : Int64} {y : Int32} (H : At T m c below) (hx : tb.exec = Jvm.exec) (hd : decode c.code pc = .ok (.lshr, 1))  (hp : pc + 1 = pc')
    (k : Gets tb e below P T (mkF m pc' Ls (.long (x >>> (y &&& 0x3f).toInt64) :: st))) : Gets tb e below P T (mkF m pc Ls (.int y :: .long x :: st)) := by
  subst hp; refine k.by fun t qq => ?_; exact XS.lshr H hx rfl hd rfl qq
theorem g_lushr {tb : Tables} [Ours tb] {e : Env} {below : List Frame} {T : State} {m : MethodId} {c : Code} {P : Outcome → State → Prop} {pc pc' : Nat} {Ls : Array Slot} {st : List Value} {x : Int64} {y : Int32} (H : At T m c below) (hx : tb.exec = Jvm.exec) (hd : decode c.code pc = .ok (.lushr, 1))  (hp : pc + 1 = pc')
    (k : Gets tb e below P T (mkF m pc' Ls (.long ((x.toUInt64 >>> (y &&& 0x3f).toInt64.toUInt64).toInt64) :: st))) : Gets tb e below P T (mkF m pc Ls (.int y :: .long x :: st)) := by
  subst hp; refine k.by fun t qq => ?_; exact XS.lushr H hx rfl hd rfl qq
theorem g_lcmp {tb : Tables} [Ours tb] {e : Env} {below : List Frame} {T : State} {m : MethodId} {c : Code} {P : Outcome → State → Prop} {pc pc' : Nat} {Ls : Array Slot} {st : List Value} {x y : Int64} (H : At T m c below) (hx : tb.exec = Jvm.exec) (hd : decode c.code pc = .ok (.lcmp, 1))  (hp : pc + 1 = pc')
    (k : Gets tb e below P T (mkF m pc' Ls (.int (lcmpW x y) :: st))) : Gets tb e below P T (mkF m pc Ls (.long y :: .long x :: st)) := by
  subst hp; refine k.by fun t qq => ?_; exact XS.lcmp H hx rfl hd rfl qq
theorem g_ineg {tb : Tables} [Ours tb] {e : Env} {below : List Frame} {T : State} {m : MethodId} {c : Code} {P : Outcome → State → Prop} {pc pc' : Nat} {Ls : Array Slot} {st : List Value} {x : Int32} (H : At T m c below) (hx : tb.exec = Jvm.exec) (hd : decode c.code pc = .ok (.ineg, 1))  (hp : pc + 1 = pc')
    (k : Gets tb e below P T (mkF m pc' Ls (.int (-x) :: st))) : Gets tb e below P T (mkF m pc Ls (.int x :: st)) := by
  subst hp; refine k.by fun t qq => ?_; exact XS.ineg H hx rfl hd rfl qq
theorem g_i2b {tb : Tables} [Ours tb] {e : Env} {below : List Frame} {T : State} {m : MethodId} {c : Code} {P : Outcome → State → Prop} {pc pc' : Nat} {Ls : Array Slot} {st : List Value} {x : Int32} (H : At T m c below) (hx : tb.exec = Jvm.exec) (hd : decode c.code pc = .ok (.i2b, 1))  (hp : pc + 1 = pc')
    (k : Gets tb e below P T (mkF m pc' Ls (.int (x.toInt8.toInt32) :: st))) : Gets tb e below P T (mkF m pc Ls (.int x :: st)) := by
  subst hp; refine k.by fun t qq => ?_; exact XS.i2b H hx rfl hd rfl qq
theorem g_i2s {tb : Tables} [Ours tb] {e : Env} {below : List Frame} {T : State} {m : MethodId} {c : Code} {P : Outcome → State → Prop} {pc pc' : Nat} {Ls : Array Slot} {st : List Value} {x : Int32} (H : At T m c below) (hx : tb.exec = Jvm.exec) (hd : decode c.code pc = .ok (.i2s, 1))  (hp : pc + 1 = pc')
    (k : Gets tb e below P T (mkF m pc' Ls (.int (x.toInt16.toInt32) :: st))) : Gets tb e below P T (mkF m pc Ls (.int x :: st)) := by
  subst hp; refine k.by fun t qq => ?_; exact XS.i2s H hx rfl hd rfl qq
theorem g_i2c {tb : Tables} [Ours tb] {e : Env} {below : List Frame} {T : State} {m : MethodId} {c : Code} {P : Outcome → State → Prop} {pc pc' : Nat} {Ls : Array Slot} {st : List Value} {x : Int32} (H : At T m c below) (hx : tb.exec = Jvm.exec) (hd : decode c.code pc = .ok (.i2c, 1))  (hp : pc + 1 = pc')
    (k : Gets tb e below P T (mkF m pc' Ls (.int (x.toUInt32.toUInt16.toUInt32.toInt32) :: st))) : Gets tb e below P T (mkF m pc Ls (.int x :: st)) := by
  subst hp; refine k.by fun t qq => ?_; exact XS.i2c H hx rfl hd rfl qq
theorem g_i2l {tb : Tables} [Ours tb] {e : Env} {below : List Frame} {T : State} {m : MethodId} {c : Code} {P : Outcome → State → Prop} {pc pc' : Nat} {Ls : Array Slot} {st : List Value} {x : Int32} (H : At T m c below) (hx : tb.exec = Jvm.exec) (hd : decode c.code pc = .ok (.i2l, 1))  (hp : pc + 1 = pc')
    (k : Gets tb e below P T (mkF m pc' Ls (.long x.toInt64 :: st))) : Gets tb e below P T (mkF m pc Ls (.int x :: st)) := by
  subst hp; refine k.by fun t qq => ?_; exact XS.i2l H hx rfl hd rfl qq
theorem g_l2i {tb : Tables} [Ours tb] {e : Env} {below : List Frame} {T : State} {m : MethodId} {c : Code} {P : Outcome → State → Prop} {pc pc' : Nat} {Ls : Array Slot} {st : List Value} {x : Int64} (H : At T m c below) (hx : tb.exec = Jvm.exec) (hd : decode c.code pc = .ok (.l2i, 1))  (hp : pc + 1 = pc')
    (k : Gets tb e below P T (mkF m pc' Ls (.int x.toInt32 :: st))) : Gets tb e below P T (mkF m pc Ls (.long x :: st)) := by
  subst hp; refine k.by fun t qq => ?_; exact XS.l2i H hx rfl hd rfl qq
theorem g_lneg {tb : Tables} [Ours tb] {e : Env} {below : List Frame} {T : State} {m : MethodId} {c : Code} {P : Outcome → State → Prop} {pc pc' : Nat} {Ls : Array Slot} {st : List Value} {x : Int64} (H : At T m c below) (hx : tb.exec = Jvm.exec) (hd : decode c.code pc = .ok (.lneg, 1))  (hp : pc + 1 = pc')
    (k : Gets tb e below P T (mkF m pc' Ls (.long (-x) :: st))) : Gets tb e below P T (mkF m pc Ls (.long x :: st)) := by
  subst hp; refine k.by fun t qq => ?_; exact XS.lneg H hx rfl hd rfl qq
theorem g_idiv {tb : Tables} [Ours tb] {e : Env} {below : List Frame} {T : State} {m : MethodId} {c : Code} {P : Outcome → State → Prop} {pc pc' : Nat} {Ls : Array Slot} {st : List Value} {x y : Int32} (H : At T m c below) (hx : tb.exec = Jvm.exec) (hd : decode c.code pc = .ok (.idiv, 1)) (hy : y ≠ 0) (hp : pc + 1 = pc')
    (k : Gets tb e below P T (mkF m pc' Ls (.int (x / y) :: st))) : Gets tb e below P T (mkF m pc Ls (.int y :: .int x :: st)) := by
  subst hp; refine k.by fun t qq => ?_; exact XS.idiv H hx rfl hd rfl hy qq
theorem g_dup {tb : Tables} [Ours tb] {e : Env} {below : List Frame} {T : State} {m : MethodId} {c : Code} {P : Outcome → State → Prop} {pc pc' : Nat} {Ls : Array Slot} {st : List Value} {v : Value} (H : At T m c below) (hx : tb.exec = Jvm.exec) (hd : decode c.code pc = .ok (.dup, 1)) (hv : v.category = 1) (hp : pc + 1 = pc')
    (k : Gets tb e below P T (mkF m pc' Ls (v :: v :: st))) : Gets tb e below P T (mkF m pc Ls (v :: st)) := by
  subst hp; refine k.by fun t qq => ?_; exact XS.dup H hx rfl hd rfl hv qq
theorem g_pop {tb : Tables} [Ours tb] {e : Env} {below : List Frame} {T : State} {m : MethodId} {c : Code} {P : Outcome → State → Prop} {pc pc' : Nat} {Ls : Array Slot} {st : List Value} {v : Value} (H : At T m c below) (hx : tb.exec = Jvm.exec) (hd : decode c.code pc = .ok (.pop, 1)) (hv : v.category = 1) (hp : pc + 1 = pc')
    (k : Gets tb e below P T (mkF m pc' Ls (st))) : Gets tb e below P T (mkF m pc Ls (v :: st)) := by
  subst hp; refine k.by fun t qq => ?_; exact XS.pop H hx rfl hd rfl hv qq
theorem g_dupX1 {tb : Tables} [Ours tb] {e : Env} {below : List Frame} {T : State} {m : MethodId} {c : Code} {P : Outcome → State → Prop} {pc pc' : Nat} {Ls : Array Slot} {st : List Value} {v w : Value} (H : At T m c below) (hx : tb.exec = Jvm.exec) (hd : decode c.code pc = .ok (.dup_x1, 1)) (hv : v.category = 1) (hw : w.category = 1) (hp : pc + 1 = pc')
    (k : Gets tb e below P T (mkF m pc' Ls (v :: w :: v :: st))) : Gets tb e below P T (mkF m pc Ls (v :: w :: st)) := by
  subst hp; refine k.by fun t qq => ?_; exact XS.dupX1 H hx rfl hd rfl hv hw qq
theorem g_iinc {tb : Tables} [Ours tb] {e : Env} {below : List Frame} {T : State} {m : MethodId} {c : Code} {P : Outcome → State → Prop} {pc pc' : Nat} {Ls : Array Slot} {st : List Value} {j : Nat} {cst : Int} {x : Int32} {Ls' : Array Slot} (H : At T m c below) (hx : tb.exec = Jvm.exec) (hd : decode c.code pc = .ok (.iinc j cst, 3)) (hl : Ls[j]? = some (.val (.int x))) (hs : storeLocals Ls j (.int (x + Int32.ofInt cst)) = some Ls') (hp : pc + 3 = pc')
    (k : Gets tb e below P T (mkF m pc' Ls' (st))) : Gets tb e below P T (mkF m pc Ls (st)) := by
  subst hp; refine k.by fun t qq => ?_; exact XS.iinc H hx rfl hd hl hs qq
theorem g_lconst {tb : Tables} [Ours tb] {e : Env} {below : List Frame} {T : State} {m : MethodId} {c : Code} {P : Outcome → State → Prop} {pc pc' : Nat} {Ls : Array Slot} {st : List Value} {j : Fin 2} (v : Int64) (H : At T m c below) (hx : tb.exec = Jvm.exec) (hd : decode c.code pc = .ok (.lconst j, 1)) (hv : Int64.ofNat j = v) (hp : pc + 1 = pc')
    (k : Gets tb e below P T (mkF m pc' Ls (.long v :: st))) : Gets tb e below P T (mkF m pc Ls st) := by
  subst hp; subst hv; refine k.by fun t qq => ?_; exact XS.lconst H hx rfl hd qq
theorem g_irem {tb : Tables} [Ours tb] {e : Env} {below : List Frame} {T : State} {m : MethodId} {c : Code} {P : Outcome → State → Prop} {pc pc' : Nat} {Ls : Array Slot} {st : List Value} {x y : Int32} (H : At T m c below) (hx : tb.exec = Jvm.exec) (hd : decode c.code pc = .ok (.irem, 1)) (hy : y ≠ 0) (hp : pc + 1 = pc')
    (k : Gets tb e below P T (mkF m pc' Ls (.int (x % y) :: st))) : Gets tb e below P T (mkF m pc Ls (.int y :: .int x :: st)) := by
  subst hp
  have q : x - x / y * y = x % y := irem_eq_mod x y
  rw [← q] at k
  refine k.by fun t qq => ?_; exact XS.irem H hx rfl hd rfl hy qq
theorem g_goto {tb : Tables} [Ours tb] {e : Env} {below : List Frame} {T : State} {m : MethodId} {c : Code} {P : Outcome → State → Prop} {pc pc' : Nat} {Ls : Array Slot} {st : List Value} {o : Int} (H : At T m c below) (hx : tb.exec = Jvm.exec) (hd : decode c.code pc = .ok (.goto o, 3)) (hp : (pc : Int) + o = (pc' : Int))
    (k : Gets tb e below P T (mkF m pc' Ls st)) : Gets tb e below P T (mkF m pc Ls st) := by
  refine k.by fun t qq => ?_
  exact XS.goto H hx rfl (pc0 := pc) (pc' := pc') rfl hd (by rw [hp]; exact Int.natCast_nonneg _) (by rw [hp]; rfl) qq
theorem g_ifY {tb : Tables} [Ours tb] {e : Env} {below : List Frame} {T : State} {m : MethodId} {c : Code} {P : Outcome → State → Prop} {pc pc' : Nat} {Ls : Array Slot} {st : List Value} {o : Int} {cd : ClassFile.Cond} {x : Int32} (H : At T m c below) (hx : tb.exec = Jvm.exec) (hd : decode c.code pc = .ok (.ifCond cd o, 3)) (hp : (pc : Int) + o = (pc' : Int)) (q : if_icmp.holds cd x 0 = true)
    (k : Gets tb e below P T (mkF m pc' Ls st)) : Gets tb e below P T (mkF m pc Ls (.int x :: st)) := by
  refine k.by fun t qq => ?_
  exact XS.ifYes H hx rfl (pc0 := pc) (pc' := pc') rfl hd rfl ((if0 _ _).trans q) (by rw [hp]; exact Int.natCast_nonneg _) (by rw [hp]; rfl) qq
theorem g_ifN {tb : Tables} [Ours tb] {e : Env} {below : List Frame} {T : State} {m : MethodId} {c : Code} {P : Outcome → State → Prop} {pc pc' : Nat} {Ls : Array Slot} {st : List Value} {o : Int} {cd : ClassFile.Cond} {x : Int32} (H : At T m c below) (hx : tb.exec = Jvm.exec) (hd : decode c.code pc = .ok (.ifCond cd o, 3)) (hp : pc + 3 = pc') (q : if_icmp.holds cd x 0 = false)
    (k : Gets tb e below P T (mkF m pc' Ls st)) : Gets tb e below P T (mkF m pc Ls (.int x :: st)) := by
  subst hp; refine k.by fun t qq => ?_; exact XS.ifNo H hx rfl hd rfl ((if0 _ _).trans q) qq
theorem g_icmpY {tb : Tables} [Ours tb] {e : Env} {below : List Frame} {T : State} {m : MethodId} {c : Code} {P : Outcome → State → Prop} {pc pc' : Nat} {Ls : Array Slot} {st : List Value} {o : Int} {cd : ClassFile.Cond} {x y : Int32} (H : At T m c below) (hx : tb.exec = Jvm.exec) (hd : decode c.code pc = .ok (.if_icmp cd o, 3)) (hp : (pc : Int) + o = (pc' : Int)) (q : if_icmp.holds cd x y = true)
    (k : Gets tb e below P T (mkF m pc' Ls st)) : Gets tb e below P T (mkF m pc Ls (.int y :: .int x :: st)) := by
  refine k.by fun t qq => ?_
  exact XS.icmpYes H hx rfl (pc0 := pc) (pc' := pc') rfl hd rfl q (by rw [hp]; exact Int.natCast_nonneg _) (by rw [hp]; rfl) qq
theorem g_icmpN {tb : Tables} [Ours tb] {e : Env} {below : List Frame} {T : State} {m : MethodId} {c : Code} {P : Outcome → State → Prop} {pc pc' : Nat} {Ls : Array Slot} {st : List Value} {o : Int} {cd : ClassFile.Cond} {x y : Int32} (H : At T m c below) (hx : tb.exec = Jvm.exec) (hd : decode c.code pc = .ok (.if_icmp cd o, 3)) (hp : pc + 3 = pc') (q : if_icmp.holds cd x y = false)
    (k : Gets tb e below P T (mkF m pc' Ls st)) : Gets tb e below P T (mkF m pc Ls (.int y :: .int x :: st)) := by
  subst hp; refine k.by fun t qq => ?_; exact XS.icmpNo H hx rfl hd rfl q qq
theorem g_nullY {tb : Tables} [Ours tb] {e : Env} {below : List Frame} {T : State} {m : MethodId} {c : Code} {P : Outcome → State → Prop} {pc pc' : Nat} {Ls : Array Slot} {st : List Value} {o : Int} (H : At T m c below) (hx : tb.exec = Jvm.exec) (hd : decode c.code pc = .ok (.ifnull o, 3)) (hp : (pc : Int) + o = (pc' : Int))
    (k : Gets tb e below P T (mkF m pc' Ls st)) : Gets tb e below P T (mkF m pc Ls (.null :: st)) := by
  refine k.by fun t qq => ?_
  exact XS.ifnullYes H hx rfl (pc0 := pc) (pc' := pc') rfl hd rfl (by rw [hp]; exact Int.natCast_nonneg _) (by rw [hp]; rfl) qq
theorem g_nullN {tb : Tables} [Ours tb] {e : Env} {below : List Frame} {T : State} {m : MethodId} {c : Code} {P : Outcome → State → Prop} {pc pc' : Nat} {Ls : Array Slot} {st : List Value} {o : Int} {b : Addr} (H : At T m c below) (hx : tb.exec = Jvm.exec) (hd : decode c.code pc = .ok (.ifnull o, 3)) (hp : pc + 3 = pc')
    (k : Gets tb e below P T (mkF m pc' Ls st)) : Gets tb e below P T (mkF m pc Ls (.ref b :: st)) := by
  subst hp; refine k.by fun t qq => ?_; exact XS.ifnullNo H hx rfl hd rfl qq
theorem g_nonnullY {tb : Tables} [Ours tb] {e : Env} {below : List Frame} {T : State} {m : MethodId} {c : Code} {P : Outcome → State → Prop} {pc pc' : Nat} {Ls : Array Slot} {st : List Value} {o : Int} {b : Addr} (H : At T m c below) (hx : tb.exec = Jvm.exec) (hd : decode c.code pc = .ok (.ifnonnull o, 3)) (hp : (pc : Int) + o = (pc' : Int))
    (k : Gets tb e below P T (mkF m pc' Ls st)) : Gets tb e below P T (mkF m pc Ls (.ref b :: st)) := by
  refine k.by fun t qq => ?_
  exact XS.ifnonnullYes H hx rfl (pc0 := pc) (pc' := pc') rfl hd rfl (by rw [hp]; exact Int.natCast_nonneg _) (by rw [hp]; rfl) qq
theorem g_nonnullN {tb : Tables} [Ours tb] {e : Env} {below : List Frame} {T : State} {m : MethodId} {c : Code} {P : Outcome → State → Prop} {pc pc' : Nat} {Ls : Array Slot} {st : List Value} {o : Int} (H : At T m c below) (hx : tb.exec = Jvm.exec) (hd : decode c.code pc = .ok (.ifnonnull o, 3)) (hp : pc + 3 = pc')
    (k : Gets tb e below P T (mkF m pc' Ls st)) : Gets tb e below P T (mkF m pc Ls (.null :: st)) := by
  subst hp; refine k.by fun t qq => ?_; exact XS.ifnonnullNo H hx rfl hd rfl qq
theorem g_tsw {tb : Tables} [Ours tb] {e : Env} {below : List Frame} {T : State} {m : MethodId} {c : Code} {P : Outcome → State → Prop} {pc pc' : Nat} {Ls : Array Slot} {st : List Value} {dflt low high : Int} {offs : Array Int} {len : Nat} {o : Int} {i : Int32} (H : At T m c below) (hx : tb.exec = Jvm.exec) (hd : decode c.code pc = .ok (.tableswitch dflt low high offs, len)) (hin : ¬ (i.toInt < low ∨ i.toInt > high)) (hoff : offs[(i.toInt - low).toNat]? = some o) (hp : (pc : Int) + o = (pc' : Int))
    (k : Gets tb e below P T (mkF m pc' Ls st)) : Gets tb e below P T (mkF m pc Ls (.int i :: st)) := by
  refine k.by fun t qq => ?_
  exact XS.tswIn H hx rfl (pc0 := pc) (pc' := pc') rfl hd rfl hin hoff (by rw [hp]; exact Int.natCast_nonneg _) (by rw [hp]; rfl) qq
theorem g_iincV {tb : Tables} [Ours tb] {e : Env} {below : List Frame} {T : State} {m : MethodId} {c : Code} {P : Outcome → State → Prop} {pc pc' : Nat} {Ls Ls' : Array Slot} {st : List Value} {j : Nat} {cst : Int} {x : Int32} (v : Int32) (H : At T m c below) (hx : tb.exec = Jvm.exec) (hd : decode c.code pc = .ok (.iinc j cst, 3)) (hv : x + Int32.ofInt cst = v) (hl : Ls[j]? = some (.val (.int x))) (hs : storeLocals Ls j (.int v) = some Ls') (hp : pc + 3 = pc')
    (k : Gets tb e below P T (mkF m pc' Ls' st)) : Gets tb e below P T (mkF m pc Ls st) := by
  subst hp; subst hv; refine k.by fun t qq => ?_; exact XS.iinc H hx rfl hd hl hs qq
/-- an array's exact content -/
def Ary (Z : State) (h : Heap) (a : Addr) (ty : FieldType) (vs : List Value) : Prop := ∃ cl : Cell, Arr Z h a cl ty ∧ cl.slots.toList = vs ∧ vs.length < 2 ^ 31 ∧ ∀ v ∈ vs, fits ty v = true
theorem Ary.lt {Z : State} {h : Heap} {a : Addr} {ty : FieldType} {vs : List Value} (F : Ary Z h a ty vs) : a < h.size := by obtain ⟨c, A, -⟩ := F; exact A.lt
theorem Ary.len {Z : State} {h : Heap} {a : Addr} {ty : FieldType} {vs : List Value} (F : Ary Z h a ty vs) : vs.length < 2 ^ 31 := by obtain ⟨c, A, -, q, -⟩ := F; exact q
theorem Ary.keep {Z : State} {h h' : Heap} {a : Addr} {ty : FieldType} {vs : List Value} {ws : List Addr} (F : Ary Z h a ty vs) (K : Keep h h' ws) (q : a ∉ ws) : Ary Z h' a ty vs := by obtain ⟨c, A, r⟩ := F; exact ⟨c, ⟨K.2.1 a c A.1 q, A.2⟩, r⟩
theorem Ary.ext {Z : State} {h h' : Heap} {a : Addr} {ty : FieldType} {vs : List Value} (F : Ary Z h a ty vs) (E : Ext h h') : Ary Z h' a ty vs := by obtain ⟨c, A, r⟩ := F; exact ⟨c, A.ext E, r⟩
theorem Ary.made {Z : State} {h : Heap} {a : Addr} {ty : FieldType} {k : ClassId} {n : Int32} (A : Arr Z h a (newA k ty n) ty) (hn : ¬ n < 0) (hf : fits ty (defaultValue ty) = true) : Ary Z h a ty (List.replicate n.toNatClampNeg (defaultValue ty)) :=
  ⟨_, A, by simp [newA], by rw [List.length_replicate]; exact (back32 hn).2, fun v hv => by rw [(List.mem_replicate.mp hv).2]; exact hf⟩
theorem Ary.of_arv {Z : State} {h : Heap} {a : Addr} {ty : FieldType} {k : ClassId} {z : Int32} {vs : List Value} {d : Value} (F : Arv Z h a k ty z vs d) (hl : z.toNatClampNeg = vs.length) : Ary Z h a ty vs := by
  obtain ⟨c, A, -, sz, hz, H, G⟩ := F
  have e : c.slots.toList = vs := by
    apply List.ext_getElem?
    intro i
    by_cases hi : i < c.slots.size
    · have q := H i hi
      have hi' : i < vs.length := by omega
      rw [Array.getElem?_toList, q]
      simp [List.getD_eq_getElem?_getD, hi']
    · have hi' : vs.length ≤ i := by omega
      rw [Array.getElem?_toList, Array.getElem?_eq_none (by omega), List.getElem?_eq_none hi']
  refine ⟨c, A, e, by rw [← hl]; exact (back32 hz).2, fun v hv => ?_⟩
  obtain ⟨i, hi, rfl⟩ := List.mem_iff_getElem.mp hv
  have q := G i (by omega)
  rwa [List.getD_eq_getElem?_getD, List.getElem?_eq_getElem hi] at q
theorem Ary.wrote {Z : State} {h h' : Heap} {a : Addr} {ty : FieldType} {vs : List Value} {cl : Cell} {v : Value} {i : Nat} (A : Arr Z h a cl ty) (e : cl.slots.toList = vs) (hl : vs.length < 2 ^ 31) (hf : ∀ w ∈ vs, fits ty w = true) (hv : fits ty v = true) (W : Wr h h' a i v) : Ary Z h' a ty (vs.set i v) := by
  refine ⟨cl.setSlot i v, A.same W, ?_, by rw [List.length_set]; exact hl, fun w hw => ?_⟩
  · rw [← e]; simp [Cell.setSlot]
  · rcases List.mem_or_eq_of_mem_set hw with q | q
    · exact hf w q
    · rw [q]; exact hv
theorem size_of_list {cl : Cell} {vs : List Value} (e : cl.slots.toList = vs) : cl.slots.size = vs.length := by rw [← e]; simp
theorem at_of_list {cl : Cell} {vs : List Value} (e : cl.slots.toList = vs) (i : Nat) : cl.slots[i]? = vs[i]? := by rw [← e]; simp
theorem i32_nat {n : Nat} (h : n < 2 ^ 31) : n.toInt32.toNatClampNeg = n := by simp only [Int32.toNatClampNeg, len_toInt h]; rfl
end OwnBase
section OwnWalk
variable {p : Program} {l : Launch} {e : Env} {R : Room} {s : State} {m : MethodId} {args : Array Value} {below : List Frame} {meth : Method} {c : Code} {T : State} {Z : State} {a0 : Array Value} {h : Heap} {EL : List (String × Nat)} {own : String} {cells slots : Nat} {ws nw : List Addr} {P : Outcome → State → Prop} {pc pc' : Nat} {Ls : Array Slot} {st : List Value}
/-- where a walk stands -/
def Wk (p : Program) (l : Launch) (e : Env) (R : Room) (s : State) (m : MethodId) (args : Array Value) (below : List Frame) (meth : Method) (c : Code) (Z : State) (EL : List (String × Nat)) (own : String) (ws nw : List Addr) (T : State) (h : Heap) (cells slots : Nat) : Prop :=
  ∃ (vm0 : Vm) (k0 : Nat) (locs : List Loc) (b0 : Array Value), Stand p l e R (s.setVm vm0) m args below meth c T locs cells slots ∧ T.heap = h ∧ s.Since vm0 k0 ∧ k0 ≤ h.size ∧ Z.Warmed39 vm0 ∧ vm0.findClass own = some m.cls ∧ EW Z b0 EL ∧ CHr Z EL s.vm s.heap vm0 h ∧ Fr Z.heap.size locs ∧ Ext Z.heap h ∧ Keep s.heap h ws ∧
    (∀ x : Nat, x ∈ ws → Z.heap.size ≤ x ∧ x < h.size ∧ Safe Z EL vm0 h x) ∧ (∀ x : Nat, x ∈ nw → s.heap.size ≤ x ∧ Z.heap.size ≤ x ∧ x < h.size ∧ Safe Z EL vm0 h x)
theorem Wk.here (W : Wk p l e R s m args below meth c Z EL own ws nw T h cells slots) : At T m c below := by obtain ⟨_, _, _, _, X, -⟩ := W; exact X.here
theorem Wk.old (W : Wk p l e R s m args below meth c Z EL own ws nw T h cells slots) : Ext Z.heap h := by obtain ⟨_, _, _, _, -, -, -, -, -, -, -, -, -, E, -⟩ := W; exact E
theorem Wk.lt (W : Wk p l e R s m args below meth c Z EL own ws nw T h cells slots) {x : Nat} (q : x ∈ nw) : x < h.size := by obtain ⟨_, _, _, _, -, -, -, -, -, -, -, -, -, -, -, -, n⟩ := W; exact (n x q).2.2.1
theorem Wk.kept (W : Wk p l e R s m args below meth c Z EL own ws nw T h cells slots) : Keep s.heap h ws := by obtain ⟨_, _, _, _, -, -, -, -, -, -, -, -, -, -, K, -⟩ := W; exact K
/-- a callee's contract: from the arguments as' and the heap h0 it returns a value v and a heap h' with Q v h'; of the cells of h0 at the most those at ws are written -/
def ConL (wl : List Cond) (l : Launch) (Z : State) (EL : List (String × Nat)) (y : MethodName) (bytes : ByteArray) (maxL : Nat) (ret : Option FieldType) (rm : Room) (as' : Array Value) (h0 : Heap) (ws : List Addr) (Q : Option Value → Heap → Prop) : Prop :=
  MetFree l y (head1 (Cond.code y bytes maxL ret :: wl) rm) (fun a U => a = as' ∧ Z.Warmed39 U.vm ∧ U.heap = h0 ∧ CHv Z EL U.vm h0 ∧ ∀ x ∈ ws, Safe Z EL U.vm h0 x) (fun _ _ _ _ _ => True)
    (fun _ U o U' => ∃ v L, o = .returned v ∧ (Q v U'.heap ∧ Fr Z.heap.size L ∧ Keep h0 U'.heap ws ∧ Ext Z.heap U'.heap) ∧ CHr Z EL U.vm U.heap U'.vm U'.heap ∧ ReturnedEndW U o U' L rm.cells rm.slots)
abbrev Con := ConL []
/-- what a contract's body is to come to -/
def Post (s : State) (Z : State) (EL : List (String × Nat)) (rm : Room) (h0 : Heap) (ws : List Addr) (Q : Option Value → Heap → Prop) (o : Outcome) (t : State) : Prop :=
  ∃ v L, o = .returned v ∧ (Q v t.heap ∧ Fr Z.heap.size L ∧ Keep h0 t.heap ws ∧ Ext Z.heap t.heap) ∧ CHr Z EL s.vm s.heap t.vm t.heap ∧ ReturnedEndW s o t L rm.cells rm.slots
theorem Con.of {wl : List Cond} {y : MethodName} {bytes : ByteArray} {maxL : Nat} {ret : Option FieldType} {rm : Room} {as' : Array Value} {h0 : Heap} {Q : Option Value → Heap → Prop} (Ls : Array Slot)
    (hy : plainFor y = true) (hE : EW Z a0 EL) (O : Ext Z.heap h0) (hws : ∀ x : Nat, x ∈ ws → Z.heap.size ≤ x ∧ x < h0.size) (hent : ∀ m, entryFrame m as' maxL = mkF m 0 Ls [])
    (body : ∀ (p : Program) (e : Env) (s : State) (m : MethodId) (below : List Frame) (meth : Method) (c : Code) (T : State), p.tables.exec = Jvm.exec → c.code = bytes → c.maxLocals = maxL → meth.name = y.name → meth.sig.returnType = ret → meth.locks = false → s.heap = h0 →
      Wk p l e rm s m as' below meth c Z EL y.cls ws [] T h0 0 0 → Gets p.tables e below (Post s Z EL rm h0 ws Q) T (mkF m 0 Ls [])) :
    ConL wl l Z EL y bytes maxL ret rm as' h0 ws Q := by
  refine MetFree.of_bodySF hy hisR ?_
  intro p e s m args below meth c s₁ Bd hml0 hP hK
  obtain ⟨rfl, hZ, hh, hC, hS⟩ := hP
  have hh' : s.heap = h0 := hh
  have hl : meth.locks = false := Bd.notSynchronized
  have e0 : s₁.heap = h0 := by rw [← hh, Bd.state]; rfl
  have X0 : Stand p l e rm s m args below meth c s₁ [] 0 0 := Stand.of_body Bd
  have W : Wk p l e rm s m args below meth c Z EL y.cls ws [] s₁ h0 0 0 :=
    ⟨s.vm, h0.size, [], a0, X0, e0, (State.WarmedH.refl s).since _, Nat.le_refl _, hZ, findClass_of_methodNamed Bd.named, hE, by rw [hh']; exact CHr.refl hC, Fr.nil _, O, by rw [hh']; exact Keep.refl _ _, fun x hx => ⟨(hws x hx).1, (hws x hx).2, hS x hx⟩, fun x hx => (nomatch hx)⟩
  obtain ⟨t, o, h1, h2, h3, h4⟩ := body p e s m below meth c s₁ Bd.exec Bd.bytes hml0 (name_of_methodNamed Bd.named Bd.method).1 Bd.returns hl hh' W
  exact ⟨t, o, by rw [hent m]; exact h1, h2, h3, h4⟩
/-! ends -/
theorem w_end {rm : Room} {h0 : Heap} {Q : Option Value → Heap → Prop} (W : Wk p l e R s m args below meth c Z EL own ws nw T h cells slots) (hh : s.heap = h0) {v : Option Value} {g : JFrame} (hl : meth.locks = false) (hv : meth.sig.returnType = none → v = none)
    (st : ∀ {vm0 : Vm} {locs : List Loc} {fs : List Frame}, Stand p l e R (s.setVm vm0) m args below meth c T locs cells slots → (∀ (f : JFrame) (acts : List Action), f.method = m → f.locked = none → f.entered = [] → (doReturn e (T.setTop f) acts v).1 = T.setFrames fs) → Steps p.tables e below (T.setTop g) (T.setFrames fs))
    (hc : cells ≤ rm.cells) (hs : slots ≤ rm.slots) (q : Q v h) : Gets p.tables e below (Post s Z EL rm h0 ws Q) T g := by
  obtain ⟨vm0, k0, locs, b0, X, eT, hS, hk, hZ, hown, hE, hC, hF, hO, hK, -, -⟩ := W
  obtain ⟨fs, h1, h2, h3, r1, r2, r3, r4⟩ := X.leaveW hS (by rw [eT]; exact hk) hv hl
  subst hh
  have hA := CHv.at X hZ hE hC.1
  refine ⟨_, _, st X h1, h2, h3, v, locs, rfl, ⟨?_, hF, ?_, ?_⟩, ?_, r1, r2, r3, r4.mono hc hs⟩
  · show Q v T.heap; rw [eT]; exact q
  · show Keep _ T.heap _; rw [eT]; exact hK
  · show Ext _ T.heap; rw [eT]; exact hO
  · show CHr Z EL s.vm s.heap T.vm T.heap
    rw [eT]
    exact hC.trans hA
theorem w_retI {rm : Room} {h0 : Heap} {Q : Option Value → Heap → Prop} {z : Int32} (W : Wk p l e R s m args below meth c Z EL own ws nw T h cells slots) (hx : p.tables.exec = Jvm.exec) (hh : s.heap = h0) (hl : meth.locks = false) (hret : meth.sig.returnType = some .int) (hd : decode c.code pc = .ok (.ireturn, 1)) (hc : cells ≤ rm.cells) (hs : slots ≤ rm.slots) (q : Q (some (.int z)) h) :
    Gets p.tables e below (Post s Z EL rm h0 ws Q) T (mkF m pc Ls (.int z :: st)) :=
  w_end W hh hl (fun q => by rw [hret] at q; cases q) (fun X hr => retOut X hx hret rfl (Or.inl ⟨rfl, Or.inl rfl, z, rfl⟩) hd hr) hc hs q
theorem w_retN {rm : Room} {h0 : Heap} {Q : Option Value → Heap → Prop} {z : Int32} {t : FieldType} (W : Wk p l e R s m args below meth c Z EL own ws nw T h cells slots) (hx : p.tables.exec = Jvm.exec) (hh : s.heap = h0) (hl : meth.locks = false) (hret : meth.sig.returnType = some t) (ht : t = .boolean ∨ t = .byte ∨ t = .char ∨ t = .short) (hd : decode c.code pc = .ok (.ireturn, 1)) (hc : cells ≤ rm.cells) (hs : slots ≤ rm.slots) (q : Q (some (.int (nar t z))) h) :
    Gets p.tables e below (Post s Z EL rm h0 ws Q) T (mkF m pc Ls (.int z :: st)) :=
  w_end W hh hl (fun q => by rw [hret] at q; cases q) (fun X hr => retN X hx hret ht hd hr) hc hs q
theorem w_retJ {rm : Room} {h0 : Heap} {Q : Option Value → Heap → Prop} {z : Int64} (W : Wk p l e R s m args below meth c Z EL own ws nw T h cells slots) (hx : p.tables.exec = Jvm.exec) (hh : s.heap = h0) (hl : meth.locks = false) (hret : meth.sig.returnType = some .long) (hd : decode c.code pc = .ok (.lreturn, 1)) (hc : cells ≤ rm.cells) (hs : slots ≤ rm.slots) (q : Q (some (.long z)) h) :
    Gets p.tables e below (Post s Z EL rm h0 ws Q) T (mkF m pc Ls (.long z :: st)) :=
  w_end W hh hl (fun q => by rw [hret] at q; cases q) (fun X hr => retOut X hx hret rfl (Or.inr (Or.inl ⟨rfl, rfl, z, rfl⟩)) hd hr) hc hs q
theorem w_retA {rm : Room} {h0 : Heap} {Q : Option Value → Heap → Prop} {w : Value} {t : FieldType} (W : Wk p l e R s m args below meth c Z EL own ws nw T h cells slots) (hx : p.tables.exec = Jvm.exec) (hh : s.heap = h0) (hl : meth.locks = false) (hret : meth.sig.returnType = some t) (ht : t.isReference = true) (hw : w.isRef = true) (hd : decode c.code pc = .ok (.areturn, 1)) (hc : cells ≤ rm.cells) (hs : slots ≤ rm.slots) (q : Q (some w) h) :
    Gets p.tables e below (Post s Z EL rm h0 ws Q) T (mkF m pc Ls (w :: st)) :=
  w_end W hh hl (fun q => by rw [hret] at q; cases q) (fun X hr => retOut X hx hret (by cases t <;> cases w <;> simp [FieldType.isReference, Value.isRef, narrow] at ht hw ⊢) (Or.inr (Or.inr (Or.inr (Or.inr ⟨rfl, ht, hw⟩)))) hd hr) hc hs q
theorem w_retV {rm : Room} {h0 : Heap} {Q : Option Value → Heap → Prop} (W : Wk p l e R s m args below meth c Z EL own ws nw T h cells slots) (hx : p.tables.exec = Jvm.exec) (hh : s.heap = h0) (hl : meth.locks = false) (hret : meth.sig.returnType = none) (hd : decode c.code pc = .ok (.return_, 1)) (hc : cells ≤ rm.cells) (hs : slots ≤ rm.slots) (q : Q none h) :
    Gets p.tables e below (Post s Z EL rm h0 ws Q) T (mkF m pc Ls []) :=
  w_end W hh hl (fun _ => rfl) (fun X hr => X.returnOut hx hret hd hr) hc hs q
/-! steps that leave the heap as it is -/
theorem w_get (W : Wk p l e R s m args below meth c Z EL own ws nw T h cells slots) (hx : p.tables.exec = Jvm.exec) {R0 O n d : String} {index : Nat} (w : (Cond.fieldLink own index R0 n d).before a0 Z = true) (via : Via Z R0 O n d) {a : Nat} {v : Value} (F : Fld Z h a O n d v) (hd : decode c.code pc = .ok (.getfield index, 3)) (hp : pc + 3 = pc')
    (k : ∀ T', Wk p l e R s m args below meth c Z EL own ws nw T' h cells slots → Gets p.tables e below P T' (mkF m pc' Ls (v :: st))) : Gets p.tables e below P T (mkF m pc Ls (.ref a :: st)) := by
  subst hp
  obtain ⟨vm0, k0, locs, b0, X, eT, hS, hk, hZ, hown, r⟩ := W
  obtain ⟨T', X', e', stp⟩ := getF X hx hZ hown (host := "") (Or.inl w) via eT F (g := mkF m pc Ls (.ref a :: st)) rfl rfl hd
  exact (k T' ⟨vm0, k0, locs, b0, X', e', hS, hk, hZ, hown, r⟩).by stp
theorem w_getS (W : Wk p l e R s m args below meth c Z EL own ws nw T h cells slots) (hx : p.tables.exec = Jvm.exec) {R0 O n d : String} {index : Nat} (w : (Cond.fieldLink own index R0 n d).before a0 Z = true) (via : Via Z R0 O n d) {v : Value} (F : Sta Z Z.heap O n d v) (hd : decode c.code pc = .ok (.getstatic index, 3)) (hp : pc + 3 = pc')
    (k : ∀ T', Wk p l e R s m args below meth c Z EL own ws nw T' h cells slots → Gets p.tables e below P T' (mkF m pc' Ls (v :: st))) : Gets p.tables e below P T (mkF m pc Ls st) := by
  subst hp
  have O := W.old
  obtain ⟨vm0, k0, locs, b0, X, eT, hS, hk, hZ, hown, r⟩ := W
  obtain ⟨T', X', e', stp⟩ := getS X hx hZ hown (host := "") w via eT (F.ext O) (g := mkF m pc Ls st) rfl hd
  exact (k T' ⟨vm0, k0, locs, b0, X', e', hS, hk, hZ, hown, r⟩).by stp
theorem w_ldcI (W : Wk p l e R s m args below meth c Z EL own ws nw T h cells slots) (hx : p.tables.exec = Jvm.exec) {index : Nat} {v : Int32} (w : (Cond.constant own index v).before a0 Z = true) (hd : decode c.code pc = .ok (.ldc index, 2)) (hp : pc + 2 = pc')
    (k : Gets p.tables e below P T (mkF m pc' Ls (.int v :: st))) : Gets p.tables e below P T (mkF m pc Ls st) := by
  subst hp
  obtain ⟨vm0, k0, locs, b0, X, eT, hS, hk, hZ, hown, r⟩ := W
  exact k.by fun t q => Jvm.Stand.ldcI X hx hown (mv (s := s.setVm vm0) hZ w) (g := mkF m pc Ls st) rfl hd q
theorem w_ldc2J (W : Wk p l e R s m args below meth c Z EL own ws nw T h cells slots) (hx : p.tables.exec = Jvm.exec) {index : Nat} {v : Int64} (w : (Cond.constantLong own index v).before a0 Z = true) (hd : decode c.code pc = .ok (.ldc2_w index, 3)) (hp : pc + 3 = pc')
    (k : Gets p.tables e below P T (mkF m pc' Ls (.long v :: st))) : Gets p.tables e below P T (mkF m pc Ls st) := by
  subst hp
  obtain ⟨vm0, k0, locs, b0, X, eT, hS, hk, hZ, hown, r⟩ := W
  exact k.by fun t q => Jvm.Stand.ldc2J X hx hown (mv (s := s.setVm vm0) hZ w) (g := mkF m pc Ls st) rfl hd q
theorem w_acmp (W : Wk p l e R s m args below meth c Z EL own ws nw T h cells slots) (hx : p.tables.exec = Jvm.exec) {cd : ACond} {x y : Value} {o : Int} (h1 : x.isRef = true) (h2 : y.isRef = true) (same : Bool) (hd : decode c.code pc = .ok (.if_acmp cd o, 3)) (hq : decide (x = y) = same) (ho : 0 ≤ (pc : Int) + o) (hp : pc' = if acV cd same = true then ((pc : Int) + o).toNat else pc + 3)
    (k : Gets p.tables e below P T (mkF m pc' Ls st)) : Gets p.tables e below P T (mkF m pc Ls (y :: x :: st)) := by
  obtain ⟨vm0, k0, locs, b0, X, r⟩ := W
  exact k.by fun t q => Jvm.RoadKit.acmp (g := mkF m pc Ls (y :: x :: st)) X hx rfl h1 h2 (pc0 := pc) (pc' := pc') rfl hd rfl hq ho hp q
theorem w_cast (W : Wk p l e R s m args below meth c Z EL own ws nw T h cells slots) (hx : p.tables.exec = Jvm.exec) {K : String} {index : Nat} (w : (Cond.classLink own index K).before a0 Z = true) {a : Nat} (F : Ins Z h a K true) (hd : decode c.code pc = .ok (.checkcast index, 3)) (hp : pc + 3 = pc')
    (k : ∀ T', Wk p l e R s m args below meth c Z EL own ws nw T' h cells slots → Gets p.tables e below P T' (mkF m pc' Ls (.ref a :: st))) : Gets p.tables e below P T (mkF m pc Ls (.ref a :: st)) := by
  subst hp
  obtain ⟨vm0, k0, locs, b0, X, eT, hS, hk, hZ, hown, r⟩ := W
  obtain ⟨T', X', e', stp⟩ := castY X hx hZ hown w eT F (g := mkF m pc Ls (.ref a :: st)) rfl rfl hd
  exact (k T' ⟨vm0, k0, locs, b0, X', e', hS, hk, hZ, hown, r⟩).by stp
theorem w_inst (W : Wk p l e R s m args below meth c Z EL own ws nw T h cells slots) (hx : p.tables.exec = Jvm.exec) {K : String} {index : Nat} (w : (Cond.classLink own index K).before a0 Z = true) {a : Nat} (F : Ins Z h a K true) (hd : decode c.code pc = .ok (.instanceof index, 3)) (hp : pc + 3 = pc')
    (k : ∀ T', Wk p l e R s m args below meth c Z EL own ws nw T' h cells slots → Gets p.tables e below P T' (mkF m pc' Ls (.int 1 :: st))) : Gets p.tables e below P T (mkF m pc Ls (.ref a :: st)) := by
  subst hp
  obtain ⟨vm0, k0, locs, b0, X, eT, hS, hk, hZ, hown, r⟩ := W
  obtain ⟨T', X', e', stp⟩ := instY X hx hZ hown w eT F (g := mkF m pc Ls (.ref a :: st)) rfl rfl hd
  exact (k T' ⟨vm0, k0, locs, b0, X', e', hS, hk, hZ, hown, r⟩).by stp
theorem w_len (W : Wk p l e R s m args below meth c Z EL own ws nw T h cells slots) (hx : p.tables.exec = Jvm.exec) {a : Nat} {ty : FieldType} {vs : List Value} (F : Ary Z h a ty vs) (hd : decode c.code pc = .ok (.arraylength, 1)) (hp : pc + 1 = pc')
    (k : Gets p.tables e below P T (mkF m pc' Ls (.int vs.length.toInt32 :: st))) : Gets p.tables e below P T (mkF m pc Ls (.ref a :: st)) := by
  subst hp
  obtain ⟨vm0, k0, locs, b0, X, eT, hS, hk, hZ, hown, r⟩ := W
  obtain ⟨cl, A, e1, -, -⟩ := F
  refine k.by fun t q => X.arraylength hx (by rw [eT]; exact A.1) (State.isArrayOf_alike hZ.alike A.2.1) (g := mkF m pc Ls (.ref a :: st)) rfl rfl hd t ?_
  rw [size_of_list e1]; exact q
theorem in_of {cl : Cell} {vs : List Value} {j : Int32} {v : Value} (e : cl.slots.toList = vs) (hj : ¬ j < 0) (hv : vs[j.toNatClampNeg]? = some v) : ¬ (j < 0 ∨ cl.slots.size ≤ j.toNatClampNeg) ∧ cl.slots[j.toNatClampNeg]? = some v := by
  refine ⟨fun q => q.elim hj fun q => ?_, by rw [at_of_list e]; exact hv⟩
  have := (List.getElem?_eq_some_iff.mp hv).1
  rw [size_of_list e] at q; omega
theorem w_caload (W : Wk p l e R s m args below meth c Z EL own ws nw T h cells slots) (hx : p.tables.exec = Jvm.exec) {a : Nat} {vs : List Value} {j : Int32} {v : Value} (F : Ary Z h a .char vs) (hj : ¬ j < 0) (hv : vs[j.toNatClampNeg]? = some v) (hd : decode c.code pc = .ok (.caload, 1)) (hp : pc + 1 = pc')
    (k : Gets p.tables e below P T (mkF m pc' Ls (v :: st))) : Gets p.tables e below P T (mkF m pc Ls (.int j :: .ref a :: st)) := by
  subst hp
  obtain ⟨vm0, k0, locs, b0, X, eT, hS, hk, hZ, hown, r⟩ := W
  obtain ⟨cl, A, e1, -, -⟩ := F
  obtain ⟨q1, q2⟩ := in_of e1 hj hv
  exact k.by fun t q => X.caload hx (by rw [eT]; exact A.1) (State.isArrayOf_alike hZ.alike A.2.1) A.2.2 q1 q2 (g := mkF m pc Ls (.int j :: .ref a :: st)) rfl rfl hd t q
theorem w_baload (W : Wk p l e R s m args below meth c Z EL own ws nw T h cells slots) (hx : p.tables.exec = Jvm.exec) {a : Nat} {vs : List Value} {j : Int32} {v : Value} (F : Ary Z h a .byte vs) (hj : ¬ j < 0) (hv : vs[j.toNatClampNeg]? = some v) (hd : decode c.code pc = .ok (.baload, 1)) (hp : pc + 1 = pc')
    (k : Gets p.tables e below P T (mkF m pc' Ls (v :: st))) : Gets p.tables e below P T (mkF m pc Ls (.int j :: .ref a :: st)) := by
  subst hp
  obtain ⟨vm0, k0, locs, b0, X, eT, hS, hk, hZ, hown, r⟩ := W
  obtain ⟨cl, A, e1, -, -⟩ := F
  obtain ⟨q1, q2⟩ := in_of e1 hj hv
  exact k.by fun t q => X.baloadBytes hx (by rw [eT]; exact A.1) (State.isArrayOf_alike hZ.alike A.2.1) A.2.2 q1 q2 (g := mkF m pc Ls (.int j :: .ref a :: st)) rfl rfl hd t q
theorem w_iaload (W : Wk p l e R s m args below meth c Z EL own ws nw T h cells slots) (hx : p.tables.exec = Jvm.exec) {a : Nat} {vs : List Value} {j : Int32} {v : Value} (F : Ary Z h a .int vs) (hj : ¬ j < 0) (hv : vs[j.toNatClampNeg]? = some v) (hd : decode c.code pc = .ok (.iaload, 1)) (hp : pc + 1 = pc')
    (k : Gets p.tables e below P T (mkF m pc' Ls (v :: st))) : Gets p.tables e below P T (mkF m pc Ls (.int j :: .ref a :: st)) := by
  subst hp
  obtain ⟨vm0, k0, locs, b0, X, eT, hS, hk, hZ, hown, r⟩ := W
  obtain ⟨cl, A, e1, -, -⟩ := F
  obtain ⟨q1, q2⟩ := in_of e1 hj hv
  exact k.by fun t q => X.iaload hx (by rw [eT]; exact A.1) (State.isArrayOf_alike hZ.alike A.2.1) A.2.2 q1 q2 (g := mkF m pc Ls (.int j :: .ref a :: st)) rfl rfl hd t q
theorem w_aaload (W : Wk p l e R s m args below meth c Z EL own ws nw T h cells slots) (hx : p.tables.exec = Jvm.exec) {a : Nat} {ty : FieldType} {vs : List Value} {j : Int32} {v : Value} (F : Ary Z h a ty vs) (hty : ty.isReference = true) (hj : ¬ j < 0) (hv : vs[j.toNatClampNeg]? = some v) (hd : decode c.code pc = .ok (.aaload, 1)) (hp : pc + 1 = pc')
    (k : Gets p.tables e below P T (mkF m pc' Ls (v :: st))) : Gets p.tables e below P T (mkF m pc Ls (.int j :: .ref a :: st)) := by
  subst hp
  obtain ⟨vm0, k0, locs, b0, X, eT, hS, hk, hZ, hown, r⟩ := W
  obtain ⟨cl, A, e1, -, -⟩ := F
  obtain ⟨q1, q2⟩ := in_of e1 hj hv
  exact k.by fun t q => X.aaload hx (by rw [eT]; exact A.1) (State.isArrayOf_alike hZ.alike A.2.1) hty A.2.2 q1 q2 (g := mkF m pc Ls (.int j :: .ref a :: st)) rfl rfl hd t q
theorem w_aaloadA (W : Wk p l e R s m args below meth c Z EL own ws nw T h cells slots) (hx : p.tables.exec = Jvm.exec) {a : Nat} {ty : FieldType} {cl : Cell} {j : Int32} {v : Value} (A : Arr Z h a cl ty) (hty : ty.isReference = true) (hin : ¬ (j < 0 ∨ cl.slots.size ≤ j.toNatClampNeg)) (hv : cl.slots[j.toNatClampNeg]? = some v) (hd : decode c.code pc = .ok (.aaload, 1)) (hp : pc + 1 = pc')
    (k : Gets p.tables e below P T (mkF m pc' Ls (v :: st))) : Gets p.tables e below P T (mkF m pc Ls (.int j :: .ref a :: st)) := by
  subst hp
  obtain ⟨vm0, k0, locs, b0, X, eT, hS, hk, hZ, hown, r⟩ := W
  exact k.by fun t q => X.aaload hx (by rw [eT]; exact A.1) (State.isArrayOf_alike hZ.alike A.2.1) hty A.2.2 hin hv (g := mkF m pc Ls (.int j :: .ref a :: st)) rfl rfl hd t q
theorem w_initO (W : Wk p l e R s m args below meth c Z EL own ws nw T h cells slots) (hx : p.tables.exec = Jvm.exec) {idx : Nat} (w1 : (Cond.methodLink own idx Lib.objectInit).before a0 Z = true) (w2 : (Cond.instanceMethod Lib.objectInit).before a0 Z = true) (w3 : (Cond.code Lib.objectInit ⟨#[0xb1]⟩ 1 none).before a0 Z = true) {a : Nat} (hsz : Ls.size = c.maxLocals) (hd : decode c.code pc = .ok (.invokespecial idx, 3)) (hf : 1 ≤ R.frames) (hW : (st.map fun v => v.category).sum + 12 ≤ R.locals) (hp : pc + 3 = pc')
    (k : ∀ T', Wk p l e R s m args below meth c Z EL own ws nw T' h cells slots → Gets p.tables e below P T' (mkF m pc' Ls st)) : Gets p.tables e below P T (mkF m pc Ls (.ref a :: st)) := by
  subst hp
  obtain ⟨vm0, k0, locs, b0, X, eT, hS, hk, hZ, hown, r⟩ := W
  obtain ⟨T', X', e', stp⟩ := initO X hx hZ hown w1 w2 w3 eT (g := mkF m pc Ls (.ref a :: st)) rfl hsz rfl hd hf (W := (st.map fun v => v.category).sum) (by show 2 * 0 + _ ≤ _; omega) hW
  exact (k T' ⟨vm0, k0, locs, b0, X', e', hS, hk, hZ, hown, r⟩).by stp
/-! steps that move the heap -/
theorem w_new (W : Wk p l e R s m args below meth c Z EL own ws nw T h cells slots) (hx : p.tables.exec = Jvm.exec) {C : String} {index n : Nat} (w : (Cond.classLink own index C).before a0 Z = true) (wi : (Cond.instantiable C n).before a0 Z = true) (wz : (Cond.initialized C).before a0 Z = true) (hd : decode c.code pc = .ok (.new index, 3)) (hc : cells + 1 ≤ R.cells) (hl : slots + n ≤ R.slots) (hp : pc + 3 = pc')
    (k : ∀ (T' : State) (h' : Heap) (b : Nat), b = h.size → Wk p l e R s m args below meth c Z EL own ws (b :: nw) T' h' (cells + 1) (slots + n) → Keep h h' [] → Exa Z h' b C → (∀ {O nm d : String} {ty : FieldType}, Laid Z a0 C O nm d → parseFieldDescriptor d = some ty → Fld Z h' b O nm d (defaultValue ty)) → Gets p.tables e below P T' (mkF m pc' Ls (.ref b :: st))) : Gets p.tables e below P T (mkF m pc Ls st) := by
  subst hp
  obtain ⟨vm0, k0, locs, b0, X, eT, hS, hk, hZ, hown, hE, hC, hF, hO, hK, n1, n2⟩ := W
  obtain ⟨T', h', X', e', E, A, D, -, stp⟩ := newO X hx hZ hown w wi wz eT (g := mkF m pc Ls st) rfl hd hc hl
  have hn : h.size < h'.size := A.lt
  have hs : s.heap.size ≤ h.size := hK.1
  refine (k T' h' h.size rfl ⟨vm0, k0, locs, b0, X', e', hS, Nat.le_trans hk E.1, hZ, hown, hE, hC.trans (CHr.ext E hC.1), hF, ⟨Nat.le_trans hO.1 E.1, fun a c q => E.2 a c (hO.2 a c q)⟩, hK.ext E, fun x hx => ?_, fun x hx => ?_⟩ ((Keep.refl h []).ext E) A D).by stp
  · obtain ⟨a, b, c⟩ := n1 x hx
    exact ⟨a, Nat.lt_of_lt_of_le b E.1, c.ext E hC.1⟩
  · rcases List.mem_cons.mp hx with rfl | hx
    · exact ⟨hs, hO.1, hn, Safe.ext E hC.1 (Safe.new (Nat.le_refl _))⟩
    · obtain ⟨a, b, c, d⟩ := n2 x hx
      exact ⟨a, b, Nat.lt_of_lt_of_le c E.1, d.ext E hC.1⟩
theorem w_newarr (W : Wk p l e R s m args below meth c Z EL own ws nw T h cells slots) (hx : p.tables.exec = Jvm.exec) {aty : ArrayType} (w : (Cond.arrayClass (newarray.typeOf aty)).before a0 Z = true) {n : Int32} (hd : decode c.code pc = .ok (.newarray aty, 2)) (hn : ¬ n < 0) {cap : Nat} (hcap : n.toNatClampNeg ≤ cap) (hb : cap * 8 ≤ 536870912) (hc : cells + 1 ≤ R.cells) (hl : slots + cap ≤ R.slots) (hf : fits (newarray.typeOf aty) (defaultValue (newarray.typeOf aty)) = true) (hp : pc + 2 = pc')
    (k : ∀ (T' : State) (h' : Heap) (b : Nat), b = h.size → Wk p l e R s m args below meth c Z EL own ws (b :: nw) T' h' (cells + 1) (slots + cap) → Keep h h' [] → Ary Z h' b (newarray.typeOf aty) (List.replicate n.toNatClampNeg (defaultValue (newarray.typeOf aty))) → Gets p.tables e below P T' (mkF m pc' Ls (.ref b :: st))) : Gets p.tables e below P T (mkF m pc Ls (.int n :: st)) := by
  subst hp
  obtain ⟨vm0, k0, locs, b0, X, eT, hS, hk, hZ, hown, hE, hC, hF, hO, hK, n1, n2⟩ := W
  obtain ⟨T', h', cA, X', e', E, A, stp⟩ := newP X hx hZ w eT (g := mkF m pc Ls (.int n :: st)) rfl hd rfl hn hcap hb hc hl
  have hn' : h.size < h'.size := A.lt
  have hs : s.heap.size ≤ h.size := hK.1
  refine (k T' h' h.size rfl ⟨vm0, k0, locs, b0, X', e', hS, Nat.le_trans hk E.1, hZ, hown, hE, hC.trans (CHr.ext E hC.1), hF, ⟨Nat.le_trans hO.1 E.1, fun a c q => E.2 a c (hO.2 a c q)⟩, hK.ext E, fun x hx => ?_, fun x hx => ?_⟩ ((Keep.refl h []).ext E) (Ary.made A hn hf)).by stp
  · obtain ⟨a, b, c⟩ := n1 x hx
    exact ⟨a, Nat.lt_of_lt_of_le b E.1, c.ext E hC.1⟩
  · rcases List.mem_cons.mp hx with rfl | hx
    · exact ⟨hs, hO.1, hn', Safe.ext E hC.1 (Safe.new (Nat.le_refl _))⟩
    · obtain ⟨a, b, c, d⟩ := n2 x hx
      exact ⟨a, b, Nat.lt_of_lt_of_le c E.1, d.ext E hC.1⟩
theorem Wk.wrote {vm0 : Vm} {k0 : Nat} {locs : List Loc} {b0 : Array Value} {T' : State} {h' : Heap} {a : Nat} {sl : Nat} {v : Value} (ha : a ∈ ws ++ nw) (WW : Wr h h' a sl v) (X' : Stand p l e R (s.setVm vm0) m args below meth c T' (locs ++ [⟨a, sl⟩]) cells slots) (e' : T'.heap = h')
    (r : s.Since vm0 k0 ∧ k0 ≤ h.size ∧ Z.Warmed39 vm0 ∧ vm0.findClass own = some m.cls ∧ EW Z b0 EL ∧ CHr Z EL s.vm s.heap vm0 h ∧ Fr Z.heap.size locs ∧ Ext Z.heap h ∧ Keep s.heap h ws ∧ (∀ x : Nat, x ∈ ws → Z.heap.size ≤ x ∧ x < h.size ∧ Safe Z EL vm0 h x) ∧ (∀ x : Nat, x ∈ nw → s.heap.size ≤ x ∧ Z.heap.size ≤ x ∧ x < h.size ∧ Safe Z EL vm0 h x)) :
    Wk p l e R s m args below meth c Z EL own ws nw T' h' cells slots := by
  obtain ⟨hS, hk, hZ, hown, hE, hC, hF, hO, hK, n1, n2⟩ := r
  have sz := WW.size
  have key : Z.heap.size ≤ a ∧ Safe Z EL vm0 h a ∧ (a ∈ ws ∨ s.heap.size ≤ a) := by
    rcases List.mem_append.mp ha with q | q
    · exact ⟨(n1 a q).1, (n1 a q).2.2, Or.inl q⟩
    · exact ⟨(n2 a q).2.1, (n2 a q).2.2.2, Or.inr (n2 a q).1⟩
  have K1 : Keep h h' [a] := Keep.of_wr WW
  refine ⟨vm0, k0, locs ++ [⟨a, sl⟩], b0, X', e', hS, by omega, hZ, hown, hE, hC.trans (CHr.wr WW key.2.1 hC.1), Fr.snoc X' hF key.1, ⟨by have := hO.1; omega, fun x cc q => K1.2.1 x cc (hO.2 x cc q) fun z => ?_⟩, hK.wr WW key.2.2, fun x hx => ?_, fun x hx => ?_⟩
  · cases List.mem_singleton.mp z
    have := (Array.getElem?_eq_some_iff.mp q).1
    omega
  · obtain ⟨q1, q2, q3⟩ := n1 x hx
    exact ⟨q1, by omega, Safe.wr WW key.2.1 hC.1 q3⟩
  · obtain ⟨q1, q2, q3, q4⟩ := n2 x hx
    exact ⟨q1, q2, by omega, Safe.wr WW key.2.1 hC.1 q4⟩
theorem w_put (W : Wk p l e R s m args below meth c Z EL own ws nw T h cells slots) (hx : p.tables.exec = Jvm.exec) {R0 O n d C : String} {index kk : Nat} {ty : FieldType} (w : (Cond.fieldLink own index R0 n d).before a0 Z = true) (via : Via Z R0 O n d) {a : Nat} {v old : Value} (F : Fld Z h a O n d old) (E : Exa Z h a C) (L : (Cond.lays C O n d).before a0 Z = true ∨ ((Cond.laysFinal C O n d).before a0 Z = true ∧ own = O ∧ meth.name = "<init>")) (wi : (Cond.instantiable C kk).before a0 Z = true)
    (hty : parseFieldDescriptor d = some ty) (hn : narrow ty v = v) (hf : fits ty v = true) (ha : a ∈ ws ++ nw) (hd : decode c.code pc = .ok (.putfield index, 3)) (hp : pc + 3 = pc')
    (k : ∀ T' h', Wk p l e R s m args below meth c Z EL own ws nw T' h' cells slots → Keep h h' [a] → Wr h h' a (Jvm.RoadKit.slotOf Z O n d) v → Fld Z h' a O n d v → Exa Z h' a C → Gets p.tables e below P T' (mkF m pc' Ls st)) : Gets p.tables e below P T (mkF m pc Ls (v :: .ref a :: st)) := by
  subst hp
  obtain ⟨vm0, k0, locs, b0, X, eT, r⟩ := W
  obtain ⟨T', h', X', e', WW, stp⟩ := putF X hx r.2.2.1 r.2.2.2.1 (host := "") (Or.inl w) via eT F E L wi hty hn hf (g := mkF m pc Ls (v :: .ref a :: st)) rfl rfl hd
  exact (k T' h' (Wk.wrote ha WW X' e' r) (Keep.of_wr WW) WW (F.same WW) (E.wr WW)).by stp
theorem w_putN (W : Wk p l e R s m args below meth c Z EL own ws nw T h cells slots) (hx : p.tables.exec = Jvm.exec) {R0 O n d C : String} {index kk : Nat} {ty : FieldType} (w : (Cond.fieldLink own index R0 n d).before a0 Z = true) (via : Via Z R0 O n d) {a : Nat} {v v' old : Value} (F : Fld Z h a O n d old) (E : Exa Z h a C) (L : (Cond.lays C O n d).before a0 Z = true ∨ ((Cond.laysFinal C O n d).before a0 Z = true ∧ own = O ∧ meth.name = "<init>")) (wi : (Cond.instantiable C kk).before a0 Z = true)
    (hty : parseFieldDescriptor d = some ty) (hn : narrow ty v = v') (hf : fits ty v' = true) (ha : a ∈ ws ++ nw) (hd : decode c.code pc = .ok (.putfield index, 3)) (hp : pc + 3 = pc')
    (k : ∀ T' h', Wk p l e R s m args below meth c Z EL own ws nw T' h' cells slots → Keep h h' [a] → Wr h h' a (Jvm.RoadKit.slotOf Z O n d) v' → Fld Z h' a O n d v' → Exa Z h' a C → Gets p.tables e below P T' (mkF m pc' Ls st)) : Gets p.tables e below P T (mkF m pc Ls (v :: .ref a :: st)) := by
  subst hp
  obtain ⟨vm0, k0, locs, b0, X, eT, r⟩ := W
  obtain ⟨T', h', X', e', WW, stp⟩ := putFN X hx r.2.2.1 r.2.2.2.1 w via eT F E L wi hty hn hf (g := mkF m pc Ls (v :: .ref a :: st)) rfl rfl hd
  exact (k T' h' (Wk.wrote ha WW X' e' r) (Keep.of_wr WW) WW (F.same WW) (E.wr WW)).by stp
theorem w_castore (W : Wk p l e R s m args below meth c Z EL own ws nw T h cells slots) (hx : p.tables.exec = Jvm.exec) {a : Nat} {vs : List Value} {j x : Int32} (F : Ary Z h a .char vs) (hj : ¬ j < 0) (hi : j.toNatClampNeg < vs.length) (ha : a ∈ ws ++ nw) {x' : Int32} (hq : nar .char x = x') (hd : decode c.code pc = .ok (.castore, 1)) (hp : pc + 1 = pc')
    (k : ∀ T' h', Wk p l e R s m args below meth c Z EL own ws nw T' h' cells slots → Keep h h' [a] → Ary Z h' a .char (vs.set j.toNatClampNeg (.int x')) → Gets p.tables e below P T' (mkF m pc' Ls st)) : Gets p.tables e below P T (mkF m pc Ls (.int x :: .int j :: .ref a :: st)) := by
  subst hp; subst hq
  obtain ⟨vm0, k0, locs, b0, X, eT, r⟩ := W
  obtain ⟨cl, A, e1, e2, e3⟩ := F
  obtain ⟨T', h', X', e', WW, stp⟩ := stC X hx r.2.2.1 eT A (j := j) (x := x) (fun q => q.elim hj fun q => by rw [size_of_list e1] at q; omega) (g := mkF m pc Ls (.int x :: .int j :: .ref a :: st)) rfl rfl hd
  exact (k T' h' (Wk.wrote ha WW X' e' r) (Keep.of_wr WW) (Ary.wrote A e1 e2 e3 (fits_nar_char x) WW)).by stp
theorem w_bastore (W : Wk p l e R s m args below meth c Z EL own ws nw T h cells slots) (hx : p.tables.exec = Jvm.exec) {a : Nat} {vs : List Value} {j x : Int32} (F : Ary Z h a .byte vs) (hj : ¬ j < 0) (hi : j.toNatClampNeg < vs.length) (ha : a ∈ ws ++ nw) {x' : Int32} (hq : x.toInt8.toInt32 = x') (hd : decode c.code pc = .ok (.bastore, 1)) (hp : pc + 1 = pc')
    (k : ∀ T' h', Wk p l e R s m args below meth c Z EL own ws nw T' h' cells slots → Keep h h' [a] → Ary Z h' a .byte (vs.set j.toNatClampNeg (.int x')) → Gets p.tables e below P T' (mkF m pc' Ls st)) : Gets p.tables e below P T (mkF m pc Ls (.int x :: .int j :: .ref a :: st)) := by
  subst hp; subst hq
  obtain ⟨vm0, k0, locs, b0, X, eT, r⟩ := W
  obtain ⟨cl, A, e1, e2, e3⟩ := F
  obtain ⟨T', h', X', e', WW, stp⟩ := stB X hx r.2.2.1 eT A (j := j) (x := x) (fun q => q.elim hj fun q => by rw [size_of_list e1] at q; omega) (g := mkF m pc Ls (.int x :: .int j :: .ref a :: st)) rfl rfl hd
  exact (k T' h' (Wk.wrote ha WW X' e' r) (Keep.of_wr WW) (Ary.wrote A e1 e2 e3 (fits_nar_byte x) WW)).by stp
theorem w_iastore (W : Wk p l e R s m args below meth c Z EL own ws nw T h cells slots) (hx : p.tables.exec = Jvm.exec) {a : Nat} {vs : List Value} {j x : Int32} (F : Ary Z h a .int vs) (hj : ¬ j < 0) (hi : j.toNatClampNeg < vs.length) (ha : a ∈ ws ++ nw) (hd : decode c.code pc = .ok (.iastore, 1)) (hp : pc + 1 = pc')
    (k : ∀ T' h', Wk p l e R s m args below meth c Z EL own ws nw T' h' cells slots → Keep h h' [a] → Ary Z h' a .int (vs.set j.toNatClampNeg (.int x)) → Gets p.tables e below P T' (mkF m pc' Ls st)) : Gets p.tables e below P T (mkF m pc Ls (.int x :: .int j :: .ref a :: st)) := by
  subst hp
  obtain ⟨vm0, k0, locs, b0, X, eT, r⟩ := W
  obtain ⟨cl, A, e1, e2, e3⟩ := F
  obtain ⟨T', h', X', e', WW, stp⟩ := stI X hx r.2.2.1 eT A (j := j) (x := x) (fun q => q.elim hj fun q => by rw [size_of_list e1] at q; omega) (g := mkF m pc Ls (.int x :: .int j :: .ref a :: st)) rfl rfl hd
  exact (k T' h' (Wk.wrote ha WW X' e' r) (Keep.of_wr WW) (Ary.wrote A e1 e2 e3 rfl WW)).by stp
/-! calls -/
theorem backC {y : MethodName} {bytes : ByteArray} {maxL : Nat} {ret : Option FieldType} {rm : Room} {len W : Nat} {as' : Array Value} {Q : Option Value → Heap → Prop} {vm0 : Vm} {wsc : List Addr}
    (hM : Con l Z EL y bytes maxL ret rm as' h wsc Q) (hZ : Z.Warmed39 vm0) (wc : (Cond.code y bytes maxL ret).before a0 Z = true) (wz : (Cond.initialized y.cls).before a0 Z = true) (hf : rm.frames + 1 ≤ R.frames) (hl : W + (maxL + 11) + rm.locals ≤ R.locals) {b0 : Array Value} (hEL : EW Z b0 EL) (H : CHv Z EL vm0 h) (hs : ∀ x : Nat, x ∈ wsc → x < h.size ∧ Safe Z EL vm0 h x) :
    BackS l R p e below (s.setVm vm0) args y len W (fun A a => a = as' ∧ A.U.heap = h ∧ A.cells + rm.cells ≤ R.cells ∧ A.slots + rm.slots ≤ R.slots)
      (fun A _ v B => ∃ L, (Q v B.U.heap ∧ Fr Z.heap.size L ∧ Keep h B.U.heap wsc ∧ Ext Z.heap B.U.heap) ∧ B.locs = A.locs ++ L ∧ B.cells = A.cells + rm.cells ∧ B.slots = A.slots + rm.slots ∧ CHr Z EL vm0 h B.U.vm B.U.heap) :=
  BackS.of_freeW (bytes := bytes) (maxL := maxL) (ret := ret) (E := fun _ first o t L k n => k = rm.cells ∧ n = rm.slots ∧ (∃ v, o = .returned v ∧ (Q v t.heap ∧ Fr Z.heap.size L ∧ Keep h t.heap wsc ∧ Ext Z.heap t.heap)) ∧ CHr Z EL first.vm first.heap t.vm t.heap) hM hf hl
    (fun m meth c A a Y hp => have hU : Z.Warmed39 A.U.vm := wtrans (s := s.setVm vm0) hZ Y.warmed
      ⟨by show (Cond.and _ .tt).before a A.U = true; rw [Cond.before_and, mv hU wc]; rfl, mv hU wc, mv hU wz, hp.2.2.1, hp.2.2.2⟩)
    (fun m meth c A a g mk Y hp => ⟨hp.1, wtrans (s := s.setVm vm0) hZ Y.warmed, hp.2.1, (CHv.at Y hZ hEL H).1, fun x hx => (CHv.at Y hZ hEL H).safe (hs x hx).1 (hs x hx).2⟩) (fun _ _ _ _ _ _ _ _ _ => trivial)
    (fun _ _ _ _ ⟨v, L, h1, h2, h3, h4⟩ => ⟨L, _, _, h4, rfl, rfl, ⟨v, h1, h2⟩, h3⟩)
    (fun m meth c A a g mk v t L k n Y hp _ _ ⟨e1, e2, ⟨v', e3, e4⟩, e5⟩ => by
      cases e3; subst e1 e2
      refine ⟨L, e4, rfl, rfl, rfl, (CHv.at Y hZ hEL H).trans ?_⟩
      rw [← hp.2.1]; exact e5)
theorem Wk.called {vm0 : Vm} {k0 : Nat} {locs L : List Loc} {b0 : Array Value} {T' : State} {h' : Heap} {wsc : List Addr} {n c' s' : Nat} (hw : ∀ x ∈ wsc, x ∈ ws ++ nw) (X' : Stand p l e R ((s.setVm vm0).setVm T'.vm) m args below meth c T' (locs ++ L) c' s') (e' : T'.heap = h') (h2 : (s.setVm vm0).Since T'.vm n) (hn : n ≤ h'.size) (hln : h.size ≤ n) (F : Fr Z.heap.size L) (K : Keep h h' wsc) (O' : Ext Z.heap h') (C' : CHr Z EL vm0 h T'.vm h')
    (r : s.Since vm0 k0 ∧ k0 ≤ h.size ∧ Z.Warmed39 vm0 ∧ vm0.findClass own = some m.cls ∧ EW Z b0 EL ∧ CHr Z EL s.vm s.heap vm0 h ∧ Fr Z.heap.size locs ∧ Ext Z.heap h ∧ Keep s.heap h ws ∧ (∀ x : Nat, x ∈ ws → Z.heap.size ≤ x ∧ x < h.size ∧ Safe Z EL vm0 h x) ∧ (∀ x : Nat, x ∈ nw → s.heap.size ≤ x ∧ Z.heap.size ≤ x ∧ x < h.size ∧ Safe Z EL vm0 h x)) :
    Wk p l e R s m args below meth c Z EL own ws nw T' h' c' s' := by
  obtain ⟨hS, hk, hZ, hown, hE, hC, hF, hO, hK, n1, n2⟩ := r
  have sz := K.1
  refine ⟨T'.vm, n, locs ++ L, b0, X', e', hS.trans h2 (by omega), hn, State.Warmed39.trans (t := s.setVm vm0) hZ h2.1, (h2.1.alike.findClass _ _).trans hown, hE, hC.trans C', Fr.app hF F, O', hK.trans K (fun x hx => ?_), fun x hx => ?_, fun x hx => ?_⟩
  · rcases List.mem_append.mp (hw x hx) with q | q
    · exact Or.inl q
    · exact Or.inr (n2 x q).1
  · obtain ⟨q1, q2, q3⟩ := n1 x hx
    exact ⟨q1, by omega, C'.safe q2 q3⟩
  · obtain ⟨q1, q2, q3, q4⟩ := n2 x hx
    exact ⟨q1, q2, by omega, C'.safe q3 q4⟩
theorem w_callS (W : Wk p l e R s m args below meth c Z EL own ws nw T h cells slots) (hx : p.tables.exec = Jvm.exec) {index : Nat} {y : MethodName} {bytes : ByteArray} {maxL : Nat} {ret : Option FieldType} {rm : Room} {Q : Option Value → Heap → Prop} {wsc : List Addr} (argsL : List Value)
    (w1 : (Cond.methodLink own index y).before a0 Z = true) (w2 : (Cond.static y).before a0 Z = true) (w3 : (Cond.initialized y.cls).before a0 Z = true) (w4 : (Cond.code y bytes maxL ret).before a0 Z = true) (hy : y.cls ≠ "java/lang/invoke/MethodHandle" ∧ y.cls ≠ "java/lang/invoke/VarHandle")
    (H : Con l Z EL y bytes maxL ret rm argsL.toArray h wsc Q) (hwc : ∀ x ∈ wsc, x ∈ ws ++ nw) (hsz : Ls.size = c.maxLocals) (hlen : ∀ sig, parseMethodDescriptor y.desc = some sig → argsL.length = sig.parameters.length) {stk : List Value} (hstk : stk = argsL.reverse ++ st) (hd : decode c.code pc = .ok (.invokestatic index, 3))
    (hf : rm.frames + 1 ≤ R.frames) (hl : (st.map fun v => v.category).sum + (maxL + 11) + rm.locals ≤ R.locals) (hc : cells + rm.cells ≤ R.cells) (hs : slots + rm.slots ≤ R.slots) (hp : pc + 3 = pc')
    (k : ∀ v T' h', Wk p l e R s m args below meth c Z EL own ws nw T' h' (cells + rm.cells) (slots + rm.slots) → Keep h h' wsc → Q v h' → Gets p.tables e below P T' (mkF m pc' Ls (v.toList ++ st))) : Gets p.tables e below P T (mkF m pc Ls stk) := by
  subst hp
  obtain ⟨vm0, k0, locs, b0, X, eT, r⟩ := W
  obtain ⟨hS, hk, hZ, hown, hE, hC, hF, hO, hK, n1, n2⟩ := id r
  have sf : ∀ x : Nat, x ∈ wsc → x < h.size ∧ Safe Z EL vm0 h x := fun x hx => by
    rcases List.mem_append.mp (hwc x hx) with q | q
    · exact (n1 x q).2
    · exact (n2 x q).2.2
  obtain ⟨v, vm1, ⟨T', L', c', s'⟩, -, X', hS2, hg2, ⟨L, ⟨q1, q2, q3, q4⟩, l1, l2, l3, C'⟩, stp⟩ := callSS X hx (y := y) hown (mv (s := s.setVm vm0) hZ w1) (mv (s := s.setVm vm0) hZ w2) (mv (s := s.setVm vm0) hZ w3) (mv (s := s.setVm vm0) hZ w4) hy (backC (W := (st.map fun v => v.category).sum) H hZ w4 w3 hf hl hE hC.1 sf) (g := mkF m pc Ls stk) rfl hsz (argsL := argsL) (rest := st) hlen hstk (by show 2 * 0 + _ ≤ _; omega) hd (fun _ _ => ⟨rfl, eT, hc, hs⟩)
  dsimp only [Pt.U, Pt.locs, Pt.cells, Pt.slots] at X' hS2 hg2 q1 q3 q4 l1 l2 l3 C' stp
  subst l1 l2 l3
  exact (k v T' _ (Wk.called (h' := T'.heap) hwc X' rfl hS2 (Nat.le_refl _) (by rw [← eT]; exact hg2) q2 q3 q4 C' r) q3 q1).by fun t q => stp.trans q
theorem w_special (W : Wk p l e R s m args below meth c Z EL own ws nw T h cells slots) (hx : p.tables.exec = Jvm.exec) {index : Nat} {y : MethodName} {bytes : ByteArray} {maxL : Nat} {rm : Room} {Q : Option Value → Heap → Prop} {wsc : List Addr} {a : Nat} (argsL : List Value) (hy1 : y.name = "<init>")
    (w1 : (Cond.methodLink own index y).before a0 Z = true) (w2 : (Cond.instanceMethod y).before a0 Z = true) (w3 : (Cond.initialized y.cls).before a0 Z = true) (w4 : (Cond.code y bytes maxL none).before a0 Z = true) (hy : y.cls ≠ "java/lang/invoke/MethodHandle" ∧ y.cls ≠ "java/lang/invoke/VarHandle")
    (H : Con l Z EL y bytes maxL none rm (.ref a :: argsL).toArray h wsc Q) (hwc : ∀ x ∈ wsc, x ∈ ws ++ nw) (hsz : Ls.size = c.maxLocals) (hlen : ∀ sig, parseMethodDescriptor y.desc = some sig → argsL.length = sig.parameters.length) {stk : List Value} (hstk : stk = argsL.reverse ++ .ref a :: st) (hd : decode c.code pc = .ok (.invokespecial index, 3))
    (hf : rm.frames + 1 ≤ R.frames) (hl : (st.map fun v => v.category).sum + (maxL + 11) + rm.locals ≤ R.locals) (hc : cells + rm.cells ≤ R.cells) (hs : slots + rm.slots ≤ R.slots) (hp : pc + 3 = pc')
    (k : ∀ v T' h', Wk p l e R s m args below meth c Z EL own ws nw T' h' (cells + rm.cells) (slots + rm.slots) → Keep h h' wsc → Q v h' → Gets p.tables e below P T' (mkF m pc' Ls (v.toList ++ st))) : Gets p.tables e below P T (mkF m pc Ls stk) := by
  subst hp
  obtain ⟨vm0, k0, locs, b0, X, eT, r⟩ := W
  obtain ⟨hS, hk, hZ, hown, hE, hC, hF, hO, hK, n1, n2⟩ := id r
  have sf : ∀ x : Nat, x ∈ wsc → x < h.size ∧ Safe Z EL vm0 h x := fun x hx => by
    rcases List.mem_append.mp (hwc x hx) with q | q
    · exact (n1 x q).2
    · exact (n2 x q).2.2
  obtain ⟨v, vm1, ⟨T', L', c', s'⟩, -, X', hS2, hg2, ⟨L, ⟨q1, q2, q3, q4⟩, l1, l2, l3, C'⟩, stp⟩ := X.specialBackS hx (y := y) hy1 hown (mv (s := s.setVm vm0) hZ w1) (mv (s := s.setVm vm0) hZ w2) (mv (s := s.setVm vm0) hZ w4) hy (backC (W := (st.map fun v => v.category).sum) H hZ w4 w3 hf hl hE hC.1 sf) (g := mkF m pc Ls stk) rfl hsz (Steps.refl _) (a := a) (argsL := argsL) (rest := st) hlen hstk (by show 2 * 0 + _ ≤ _; omega) hd (fun _ _ => ⟨rfl, eT, hc, hs⟩)
  dsimp only [Pt.U, Pt.locs, Pt.cells, Pt.slots] at X' hS2 hg2 q1 q3 q4 l1 l2 l3 C' stp
  subst l1 l2 l3
  exact (k v T' _ (Wk.called (h' := T'.heap) hwc X' rfl hS2 (Nat.le_refl _) (by rw [← eT]; exact hg2) q2 q3 q4 C' r) q3 q1).by fun t q => stp.trans q
theorem w_virtual (W : Wk p l e R s m args below meth c Z EL own ws nw T h cells slots) (hx : p.tables.exec = Jvm.exec) {index : Nat} {y z : MethodName} {C : String} {bytes : ByteArray} {maxL : Nat} {ret : Option FieldType} {rm : Room} {Q : Option Value → Heap → Prop} {wsc : List Addr} {a : Nat} (argsL : List Value)
    (w1 : (Cond.methodLink own index y).before a0 Z = true) (w2 : (Cond.declares y).before a0 Z = true) (hnf : ∀ {U : State}, Z.Warmed39 U.vm → NotFace U y) (w3 : (Cond.selects C y z).before a0 Z = true) (w5 : (Cond.instanceMethod z).before a0 Z = true) (w6 : (Cond.initialized z.cls).before a0 Z = true) (w4 : (Cond.code z bytes maxL ret).before a0 Z = true) (hy : y.cls ≠ "java/lang/invoke/MethodHandle" ∧ y.cls ≠ "java/lang/invoke/VarHandle")
    (H : Con l Z EL z bytes maxL ret rm (.ref a :: argsL).toArray h wsc Q) (E : Exa Z h a C) (hwc : ∀ x ∈ wsc, x ∈ ws ++ nw) (hsz : Ls.size = c.maxLocals) (hlen : ∀ sig, parseMethodDescriptor y.desc = some sig → argsL.length = sig.parameters.length) {stk : List Value} (hstk : stk = argsL.reverse ++ .ref a :: st) (hd : decode c.code pc = .ok (.invokevirtual index, 3))
    (hf : rm.frames + 1 ≤ R.frames) (hl : (st.map fun v => v.category).sum + (maxL + 11) + rm.locals ≤ R.locals) (hc : cells + rm.cells ≤ R.cells) (hs : slots + rm.slots ≤ R.slots) (hp : pc + 3 = pc')
    (k : ∀ v T' h', Wk p l e R s m args below meth c Z EL own ws nw T' h' (cells + rm.cells) (slots + rm.slots) → Keep h h' wsc → Q v h' → Gets p.tables e below P T' (mkF m pc' Ls (v.toList ++ st))) : Gets p.tables e below P T (mkF m pc Ls stk) := by
  subst hp
  obtain ⟨vm0, k0, locs, b0, X, eT, r⟩ := W
  obtain ⟨hS, hk, hZ, hown, hE, hC, hF, hO, hK, n1, n2⟩ := id r
  have sf : ∀ x : Nat, x ∈ wsc → x < h.size ∧ Safe Z EL vm0 h x := fun x hx => by
    rcases List.mem_append.mp (hwc x hx) with q | q
    · exact (n1 x q).2
    · exact (n2 x q).2.2
  obtain ⟨cq, kq, qa, qb, qc⟩ := isOf (s := s.setVm vm0) hZ eT E
  obtain ⟨v, vm1, ⟨T', L', c', s'⟩, -, X', hS2, hg2, ⟨L, ⟨q1, q2, q3, q4⟩, l1, l2, l3, C'⟩, stp⟩ := X.virtualBackS hx (y := y) (z := z) hown (mv (s := s.setVm vm0) hZ w1) (mv (s := s.setVm vm0) hZ w2) (hnf (U := s.setVm vm0) hZ) (mv (s := s.setVm vm0) hZ w3) (mv (s := s.setVm vm0) hZ w5) hy (backC (W := (st.map fun v => v.category).sum) H hZ w4 w6 hf hl hE hC.1 sf) qa qc (g := mkF m pc Ls stk) rfl hsz (Steps.refl _) (argsL := argsL) (rest := st) hlen hstk (by show 2 * 0 + _ ≤ _; omega) hd (fun _ _ => ⟨rfl, eT, hc, hs⟩)
  dsimp only [Pt.U, Pt.locs, Pt.cells, Pt.slots] at X' hS2 hg2 q1 q3 q4 l1 l2 l3 C' stp
  subst l1 l2 l3
  exact (k v T' _ (Wk.called (h' := T'.heap) hwc X' rfl hS2 (Nat.le_refl _) (by rw [← eT]; exact hg2) q2 q3 q4 C' r) q3 q1).by fun t q => stp.trans q
theorem w_virtualUp (W : Wk p l e R s m args below meth c Z EL own ws nw T h cells slots) (hx : p.tables.exec = Jvm.exec) {index : Nat} {y z : MethodName} {C owner : String} {bytes : ByteArray} {maxL : Nat} {ret : Option FieldType} {rm : Room} {Q : Option Value → Heap → Prop} {wsc : List Addr} {a : Nat} (argsL : List Value)
    (w1 : (Cond.methodLink own index y).before a0 Z = true) (w7 : (Cond.sameMethod y.cls owner y.name y.desc).before a0 Z = true) (w2 : (Cond.declares ⟨owner, y.name, y.desc⟩).before a0 Z = true) (w3 : (Cond.selects C y z).before a0 Z = true) (w5 : (Cond.instanceMethod z).before a0 Z = true) (w6 : (Cond.initialized z.cls).before a0 Z = true) (w4 : (Cond.code z bytes maxL ret).before a0 Z = true) (hy : owner ≠ "java/lang/invoke/MethodHandle" ∧ owner ≠ "java/lang/invoke/VarHandle")
    (H : Con l Z EL z bytes maxL ret rm (.ref a :: argsL).toArray h wsc Q) (E : Exa Z h a C) (hwc : ∀ x ∈ wsc, x ∈ ws ++ nw) (hsz : Ls.size = c.maxLocals) (hlen : ∀ sig, parseMethodDescriptor y.desc = some sig → argsL.length = sig.parameters.length) {stk : List Value} (hstk : stk = argsL.reverse ++ .ref a :: st) (hd : decode c.code pc = .ok (.invokevirtual index, 3))
    (hf : rm.frames + 1 ≤ R.frames) (hl : (st.map fun v => v.category).sum + (maxL + 11) + rm.locals ≤ R.locals) (hc : cells + rm.cells ≤ R.cells) (hs : slots + rm.slots ≤ R.slots) (hp : pc + 3 = pc')
    (k : ∀ v T' h', Wk p l e R s m args below meth c Z EL own ws nw T' h' (cells + rm.cells) (slots + rm.slots) → Keep h h' wsc → Q v h' → Gets p.tables e below P T' (mkF m pc' Ls (v.toList ++ st))) : Gets p.tables e below P T (mkF m pc Ls stk) := by
  subst hp
  obtain ⟨vm0, k0, locs, b0, X, eT, r⟩ := W
  obtain ⟨hS, hk, hZ, hown, hE, hC, hF, hO, hK, n1, n2⟩ := id r
  have sf : ∀ x : Nat, x ∈ wsc → x < h.size ∧ Safe Z EL vm0 h x := fun x hx => by
    rcases List.mem_append.mp (hwc x hx) with q | q
    · exact (n1 x q).2
    · exact (n2 x q).2.2
  obtain ⟨cq, kq, qa, qb, qc⟩ := isOf (s := s.setVm vm0) hZ eT E
  obtain ⟨v, vm1, ⟨T', L', c', s'⟩, -, X', hS2, hg2, ⟨L, ⟨q1, q2, q3, q4⟩, l1, l2, l3, C'⟩, stp⟩ := X.virtualBackUpS hx (x := y) (y := z) hown (mv (s := s.setVm vm0) hZ w1) (mv (s := s.setVm vm0) hZ w7) (mv (s := s.setVm vm0) hZ w2) hy (mv (s := s.setVm vm0) hZ w3) (mv (s := s.setVm vm0) hZ w5) (backC (W := (st.map fun v => v.category).sum) H hZ w4 w6 hf hl hE hC.1 sf) qa qc (g := mkF m pc Ls stk) rfl hsz (Steps.refl _) (argsL := argsL) (rest := st) hlen hstk (by show 2 * 0 + _ ≤ _; omega) hd (fun _ _ => ⟨rfl, eT, hc, hs⟩)
  dsimp only [Pt.U, Pt.locs, Pt.cells, Pt.slots] at X' hS2 hg2 q1 q3 q4 l1 l2 l3 C' stp
  subst l1 l2 l3
  exact (k v T' _ (Wk.called (h' := T'.heap) hwc X' rfl hS2 (Nat.le_refl _) (by rw [← eT]; exact hg2) q2 q3 q4 C' r) q3 q1).by fun t q => stp.trans q
theorem nfS {y z : MethodName} {C : String} (w : (Cond.selects C y y).before a0 Z = true) {U : State} (hZ : Z.Warmed39 U.vm) : NotFace U y := notFace_of_selects (args := #[]) (mv hZ w)
theorem w_iface (W : Wk p l e R s m args below meth c Z EL own ws nw T h cells slots) (hx : p.tables.exec = Jvm.exec) {index count : Nat} {y z : MethodName} {C : String} {bytes : ByteArray} {maxL : Nat} {ret : Option FieldType} {rm : Room} {Q : Option Value → Heap → Prop} {wsc : List Addr} {a : Nat} (argsL : List Value)
    (w1 : (Cond.methodLink own index y).before a0 Z = true) (w2 : (Cond.declares y).before a0 Z = true) (w7 : (Cond.interfaceMethod y.cls y.cls y.name y.desc).before a0 Z = true) (w3 : (Cond.selects C y z).before a0 Z = true) (w5 : (Cond.instanceMethod z).before a0 Z = true) (w8 : (Cond.publicMethod z).before a0 Z = true) (w9 : (Cond.unhidden C y.name y.desc).before a0 Z = true) (w10 : (Cond.castable C y.cls).before a0 Z = true) (w6 : (Cond.initialized z.cls).before a0 Z = true) (w4 : (Cond.code z bytes maxL ret).before a0 Z = true) (hy : y.cls ≠ "java/lang/invoke/MethodHandle" ∧ y.cls ≠ "java/lang/invoke/VarHandle")
    (H : Con l Z EL z bytes maxL ret rm (.ref a :: argsL).toArray h wsc Q) (E : Exa Z h a C) (hwc : ∀ x ∈ wsc, x ∈ ws ++ nw) (hsz : Ls.size = c.maxLocals) (hlen : ∀ sig, parseMethodDescriptor y.desc = some sig → argsL.length = sig.parameters.length) {stk : List Value} (hstk : stk = argsL.reverse ++ .ref a :: st) (hd : decode c.code pc = .ok (.invokeinterface index count, 5))
    (hf : rm.frames + 1 ≤ R.frames) (hl : (st.map fun v => v.category).sum + (maxL + 11) + rm.locals ≤ R.locals) (hc : cells + rm.cells ≤ R.cells) (hs : slots + rm.slots ≤ R.slots) (hp : pc + 5 = pc')
    (k : ∀ v T' h', Wk p l e R s m args below meth c Z EL own ws nw T' h' (cells + rm.cells) (slots + rm.slots) → Keep h h' wsc → Q v h' → Gets p.tables e below P T' (mkF m pc' Ls (v.toList ++ st))) : Gets p.tables e below P T (mkF m pc Ls stk) := by
  subst hp
  obtain ⟨vm0, k0, locs, b0, X, eT, r⟩ := W
  obtain ⟨hS, hk, hZ, hown, hE, hC, hF, hO, hK, n1, n2⟩ := id r
  have sf : ∀ x : Nat, x ∈ wsc → x < h.size ∧ Safe Z EL vm0 h x := fun x hx => by
    rcases List.mem_append.mp (hwc x hx) with q | q
    · exact (n1 x q).2
    · exact (n2 x q).2.2
  obtain ⟨cq, kq, qa, qb, qc⟩ := isOf (s := s.setVm vm0) hZ eT E
  obtain ⟨v, vm1, ⟨T', L', c', s'⟩, -, X', hS2, hg2, ⟨L, ⟨q1, q2, q3, q4⟩, l1, l2, l3, C'⟩, stp⟩ := X.interfaceBackS hx (xi := y) (y := z) hown (mv (s := s.setVm vm0) hZ w1) (mv (s := s.setVm vm0) hZ w2) (mv (s := s.setVm vm0) hZ w7 (by simp [Cond.onTables, Cond.keepsFace, Cond.keeps, Cond.steady, Cond.faceAtom, hy.1, hy.2])) (mv (s := s.setVm vm0) hZ w3) (mv (s := s.setVm vm0) hZ w5) (mv (s := s.setVm vm0) hZ w8) (mv (s := s.setVm vm0) hZ w9) (mv (s := s.setVm vm0) hZ w10) hy (backC (W := (st.map fun v => v.category).sum) H hZ w4 w6 hf hl hE hC.1 sf) qa qb qc (g := mkF m pc Ls stk) rfl hsz (Steps.refl _) (argsL := argsL) (rest := st) hlen hstk (by show 2 * 0 + _ ≤ _; omega) hd (fun _ _ => ⟨rfl, eT, hc, hs⟩)
  dsimp only [Pt.U, Pt.locs, Pt.cells, Pt.slots] at X' hS2 hg2 q1 q3 q4 l1 l2 l3 C' stp
  subst l1 l2 l3
  exact (k v T' _ (Wk.called (h' := T'.heap) hwc X' rfl hS2 (Nat.le_refl _) (by rw [← eT]; exact hg2) q2 q3 q4 C' r) q3 q1).by fun t q => stp.trans q
/-! String constants -/
theorem w_ldcS (W : Wk p l e R s m args below meth c Z EL own ws nw T h cells slots) (hx : p.tables.exec = Jvm.exec) {index : Nat} {text : String} (w : (Cond.stringLink own index text).before a0 Z = true) (wS : ∀ a ∈ Bundle.stringAtoms, a.before a0 Z = true) (hmem : (own, index) ∈ EL) {vs : List Value} {z : Int32} (ht : (∀ c ∈ text.toList, c.toNat < 256) ∧ text.toList.map (fun c => Value.int (Jvm.Lit.byteI c.toNat.toUInt16)) = vs) (hz : ¬ z < 0) (hzl : z.toNatClampNeg = vs.length)
    (hd : decode c.code pc = .ok (.ldc index, 2)) (n : Nat) (hn : 4 * text.toList.length ≤ n) (hbig : n ≤ 536870912) (hc : cells + 2 ≤ R.cells) (hl : slots + (n + 4) ≤ R.slots) (hp : pc + 2 = pc')
    (k : ∀ (T' : State) (h' : Heap) (a b : Nat), Wk p l e R s m args below meth c Z EL own ws nw T' h' (cells + 2) (slots + (n + 4)) → Keep h h' [] → Exa Z h' a "java/lang/String" → Fld Z h' a "java/lang/String" "coder" "B" (.int 0) → Fld Z h' a "java/lang/String" "value" "[B" (.ref b) → Ary Z h' b .byte vs → (∀ x ∈ ws ++ nw, x ≠ a ∧ x ≠ b) → Gets p.tables e below P T' (mkF m pc' Ls (.ref a :: st))) : Gets p.tables e below P T (mkF m pc Ls st) := by
  subst hp
  obtain ⟨vm0, k0, locs, b0, X, eT, hS, hk, hZ, hown, hE, hC, hF, hO, hK, n1, n2⟩ := W
  obtain ⟨a, T', h', k1, b, cb, X', e', E, hS2, hk2, hZ2, hown2, A, F1, F2, V, la, lb, C', -, hne, stp⟩ := ldcCH X hx hZ hown w wS eT hS hk hE hmem hC.1 ht hz hzl (g := mkF m pc Ls st) rfl hd hn hbig hc hl
  have sz := E.1
  have N1 : ∀ x : Nat, x ∈ ws → Z.heap.size ≤ x ∧ x < h'.size ∧ Safe Z EL T'.vm h' x := fun x hx => by
    obtain ⟨q1, q2, q3⟩ := n1 x hx
    exact ⟨q1, by omega, C'.safe q2 q3⟩
  have N2 : ∀ x : Nat, x ∈ nw → s.heap.size ≤ x ∧ Z.heap.size ≤ x ∧ x < h'.size ∧ Safe Z EL T'.vm h' x := fun x hx => by
    obtain ⟨q1, q2, q3, q4⟩ := n2 x hx
    exact ⟨q1, q2, by omega, C'.safe q3 q4⟩
  refine (k T' h' a b ⟨T'.vm, k1, locs, b0, X', e', hS2, hk2, hZ2, hown2, hE, hC.trans C', hF, ⟨Nat.le_trans hO.1 E.1, fun x cc q => E.2 x cc (hO.2 x cc q)⟩, hK.ext E, N1, N2⟩ ((Keep.refl h []).ext E) A F1 F2 (Ary.of_arv V hzl) fun x hx => ?_).by stp
  rcases List.mem_append.mp hx with q | q
  · exact hne x (N1 x q).2.2
  · exact hne x (N2 x q).2.2.2
theorem w_ldcO (W : Wk p l e R s m args below meth c Z EL own ws nw T h cells slots) (hx : p.tables.exec = Jvm.exec) {index : Nat} {text : String} (w : (Cond.stringLink own index text).before a0 Z = true) (wS : ∀ a ∈ Bundle.stringAtoms, a.before a0 Z = true)
    (hd : decode c.code pc = .ok (.ldc index, 2)) (n : Nat) (hn : 4 * text.toList.length ≤ n) (hbig : n ≤ 536870912) (hc : cells + 2 ≤ R.cells) (hl : slots + (n + 4) ≤ R.slots) (hp : pc + 2 = pc')
    (k : ∀ (T' : State) (h' : Heap) (a : Nat), Wk p l e R s m args below meth c Z EL own ws nw T' h' (cells + 2) (slots + (n + 4)) → Keep h h' [] → Gets p.tables e below P T' (mkF m pc' Ls (.ref a :: st))) : Gets p.tables e below P T (mkF m pc Ls st) := by
  subst hp
  obtain ⟨vm0, k0, locs, b0, X, eT, hS, hk, hZ, hown, hE, hC, hF, hO, hK, n1, n2⟩ := W
  obtain ⟨a, T', h', k1, X', e', E, hS2, hk2, hZ2, hown2, C', -, stp⟩ := ldcOH X hx hZ hown w wS eT hS hk hE hC.1 (g := mkF m pc Ls st) rfl hd hn hbig hc hl
  have sz := E.1
  refine (k T' h' a ⟨T'.vm, k1, locs, b0, X', e', hS2, hk2, hZ2, hown2, hE, hC.trans C', hF, ⟨Nat.le_trans hO.1 E.1, fun x cc q => E.2 x cc (hO.2 x cc q)⟩, hK.ext E, fun x hx => ?_, fun x hx => ?_⟩ ((Keep.refl h []).ext E)).by stp
  · obtain ⟨q1, q2, q3⟩ := n1 x hx
    exact ⟨q1, by omega, C'.safe q2 q3⟩
  · obtain ⟨q1, q2, q3, q4⟩ := n2 x hx
    exact ⟨q1, q2, by omega, C'.safe q3 q4⟩
end OwnWalk
section OwnPure
variable {p : Program} {l : Launch} {e : Env} {R : Room} {s : State} {m : MethodId} {args : Array Value} {below : List Frame} {meth : Method} {c : Code} {T : State} {Z : State} {a0 : Array Value} {h : Heap} {EL : List (String × Nat)} {own : String} {cells slots : Nat} {ws nw : List Addr} {P : Outcome → State → Prop} {pc pc' : Nat} {Ls : Array Slot} {st : List Value}
/-- it returns r and leaves the heap as it was -/
def pureQ (r : Option Value) (h : Heap) : Option Value → Heap → Prop := fun v h' => v = r ∧ h' = h
theorem w_callSp (W : Wk p l e R s m args below meth c Z EL own ws nw T h cells slots) (hx : p.tables.exec = Jvm.exec) {index : Nat} {y : MethodName} {bytes : ByteArray} {maxL : Nat} {ret : Option FieldType} {rm : Room} {r : Option Value} (argsL : List Value)
    (w1 : (Cond.methodLink own index y).before a0 Z = true) (w2 : (Cond.static y).before a0 Z = true) (w3 : (Cond.initialized y.cls).before a0 Z = true) (w4 : (Cond.code y bytes maxL ret).before a0 Z = true) (hy : y.cls ≠ "java/lang/invoke/MethodHandle" ∧ y.cls ≠ "java/lang/invoke/VarHandle")
    (H : Con l Z EL y bytes maxL ret rm argsL.toArray h [] (pureQ r h)) (hsz : Ls.size = c.maxLocals) (hlen : ∀ sig, parseMethodDescriptor y.desc = some sig → argsL.length = sig.parameters.length) {stk : List Value} (hstk : stk = argsL.reverse ++ st) (hd : decode c.code pc = .ok (.invokestatic index, 3))
    (hf : rm.frames + 1 ≤ R.frames) (hl : (st.map fun v => v.category).sum + (maxL + 11) + rm.locals ≤ R.locals) (hc : rm.cells = 0) (hs : rm.slots = 0) (hc' : cells ≤ R.cells) (hs' : slots ≤ R.slots) (hp : pc + 3 = pc')
    (k : ∀ T', Wk p l e R s m args below meth c Z EL own ws nw T' h cells slots → Gets p.tables e below P T' (mkF m pc' Ls (r.toList ++ st))) : Gets p.tables e below P T (mkF m pc Ls stk) :=
  w_callS W hx argsL w1 w2 w3 w4 hy H all0 hsz hlen hstk hd hf hl (by rw [hc]; exact hc') (by rw [hs]; exact hs') hp fun v T' h' W' K q => by
    obtain ⟨e1, e2⟩ := q
    subst e1; rw [e2] at W'; rw [hc, hs] at W'; exact k T' W'
theorem w_virtualp (W : Wk p l e R s m args below meth c Z EL own ws nw T h cells slots) (hx : p.tables.exec = Jvm.exec) {index : Nat} {y z : MethodName} {C : String} {bytes : ByteArray} {maxL : Nat} {ret : Option FieldType} {rm : Room} {r : Option Value} {a : Nat} (argsL : List Value)
    (w1 : (Cond.methodLink own index y).before a0 Z = true) (w2 : (Cond.declares y).before a0 Z = true) (hnf : ∀ {U : State}, Z.Warmed39 U.vm → NotFace U y) (w3 : (Cond.selects C y z).before a0 Z = true) (w5 : (Cond.instanceMethod z).before a0 Z = true) (w6 : (Cond.initialized z.cls).before a0 Z = true) (w4 : (Cond.code z bytes maxL ret).before a0 Z = true) (hy : y.cls ≠ "java/lang/invoke/MethodHandle" ∧ y.cls ≠ "java/lang/invoke/VarHandle")
    (H : Con l Z EL z bytes maxL ret rm (.ref a :: argsL).toArray h [] (pureQ r h)) (E : Exa Z h a C) (hsz : Ls.size = c.maxLocals) (hlen : ∀ sig, parseMethodDescriptor y.desc = some sig → argsL.length = sig.parameters.length) {stk : List Value} (hstk : stk = argsL.reverse ++ .ref a :: st) (hd : decode c.code pc = .ok (.invokevirtual index, 3))
    (hf : rm.frames + 1 ≤ R.frames) (hl : (st.map fun v => v.category).sum + (maxL + 11) + rm.locals ≤ R.locals) (hc : rm.cells = 0) (hs : rm.slots = 0) (hc' : cells ≤ R.cells) (hs' : slots ≤ R.slots) (hp : pc + 3 = pc')
    (k : ∀ T', Wk p l e R s m args below meth c Z EL own ws nw T' h cells slots → Gets p.tables e below P T' (mkF m pc' Ls (r.toList ++ st))) : Gets p.tables e below P T (mkF m pc Ls stk) :=
  w_virtual W hx argsL w1 w2 hnf w3 w5 w6 w4 hy H E all0 hsz hlen hstk hd hf hl (by rw [hc]; exact hc') (by rw [hs]; exact hs') hp fun v T' h' W' K q => by
    obtain ⟨e1, e2⟩ := q
    subst e1; rw [e2] at W'; rw [hc, hs] at W'; exact k T' W'
theorem w_virtualUpp (W : Wk p l e R s m args below meth c Z EL own ws nw T h cells slots) (hx : p.tables.exec = Jvm.exec) {index : Nat} {y z : MethodName} {C owner : String} {bytes : ByteArray} {maxL : Nat} {ret : Option FieldType} {rm : Room} {r : Option Value} {a : Nat} (argsL : List Value)
    (w1 : (Cond.methodLink own index y).before a0 Z = true) (w7 : (Cond.sameMethod y.cls owner y.name y.desc).before a0 Z = true) (w2 : (Cond.declares ⟨owner, y.name, y.desc⟩).before a0 Z = true) (w3 : (Cond.selects C y z).before a0 Z = true) (w5 : (Cond.instanceMethod z).before a0 Z = true) (w6 : (Cond.initialized z.cls).before a0 Z = true) (w4 : (Cond.code z bytes maxL ret).before a0 Z = true) (hy : owner ≠ "java/lang/invoke/MethodHandle" ∧ owner ≠ "java/lang/invoke/VarHandle")
    (H : Con l Z EL z bytes maxL ret rm (.ref a :: argsL).toArray h [] (pureQ r h)) (E : Exa Z h a C) (hsz : Ls.size = c.maxLocals) (hlen : ∀ sig, parseMethodDescriptor y.desc = some sig → argsL.length = sig.parameters.length) {stk : List Value} (hstk : stk = argsL.reverse ++ .ref a :: st) (hd : decode c.code pc = .ok (.invokevirtual index, 3))
    (hf : rm.frames + 1 ≤ R.frames) (hl : (st.map fun v => v.category).sum + (maxL + 11) + rm.locals ≤ R.locals) (hc : rm.cells = 0) (hs : rm.slots = 0) (hc' : cells ≤ R.cells) (hs' : slots ≤ R.slots) (hp : pc + 3 = pc')
    (k : ∀ T', Wk p l e R s m args below meth c Z EL own ws nw T' h cells slots → Gets p.tables e below P T' (mkF m pc' Ls (r.toList ++ st))) : Gets p.tables e below P T (mkF m pc Ls stk) :=
  w_virtualUp W hx argsL w1 w7 w2 w3 w5 w6 w4 hy H E all0 hsz hlen hstk hd hf hl (by rw [hc]; exact hc') (by rw [hs]; exact hs') hp fun v T' h' W' K q => by
    obtain ⟨e1, e2⟩ := q
    subst e1; rw [e2] at W'; rw [hc, hs] at W'; exact k T' W'
theorem w_ifacep (W : Wk p l e R s m args below meth c Z EL own ws nw T h cells slots) (hx : p.tables.exec = Jvm.exec) {index count : Nat} {y z : MethodName} {C : String} {bytes : ByteArray} {maxL : Nat} {ret : Option FieldType} {rm : Room} {r : Option Value} {a : Nat} (argsL : List Value)
    (w1 : (Cond.methodLink own index y).before a0 Z = true) (w2 : (Cond.declares y).before a0 Z = true) (w7 : (Cond.interfaceMethod y.cls y.cls y.name y.desc).before a0 Z = true) (w3 : (Cond.selects C y z).before a0 Z = true) (w5 : (Cond.instanceMethod z).before a0 Z = true) (w8 : (Cond.publicMethod z).before a0 Z = true) (w9 : (Cond.unhidden C y.name y.desc).before a0 Z = true) (w10 : (Cond.castable C y.cls).before a0 Z = true) (w6 : (Cond.initialized z.cls).before a0 Z = true) (w4 : (Cond.code z bytes maxL ret).before a0 Z = true) (hy : y.cls ≠ "java/lang/invoke/MethodHandle" ∧ y.cls ≠ "java/lang/invoke/VarHandle")
    (H : Con l Z EL z bytes maxL ret rm (.ref a :: argsL).toArray h [] (pureQ r h)) (E : Exa Z h a C) (hsz : Ls.size = c.maxLocals) (hlen : ∀ sig, parseMethodDescriptor y.desc = some sig → argsL.length = sig.parameters.length) {stk : List Value} (hstk : stk = argsL.reverse ++ .ref a :: st) (hd : decode c.code pc = .ok (.invokeinterface index count, 5))
    (hf : rm.frames + 1 ≤ R.frames) (hl : (st.map fun v => v.category).sum + (maxL + 11) + rm.locals ≤ R.locals) (hc : rm.cells = 0) (hs : rm.slots = 0) (hc' : cells ≤ R.cells) (hs' : slots ≤ R.slots) (hp : pc + 5 = pc')
    (k : ∀ T', Wk p l e R s m args below meth c Z EL own ws nw T' h cells slots → Gets p.tables e below P T' (mkF m pc' Ls (r.toList ++ st))) : Gets p.tables e below P T (mkF m pc Ls stk) :=
  w_iface W hx argsL w1 w2 w7 w3 w5 w8 w9 w10 w6 w4 hy H E all0 hsz hlen hstk hd hf hl (by rw [hc]; exact hc') (by rw [hs]; exact hs') hp fun v T' h' W' K q => by
    obtain ⟨e1, e2⟩ := q
    subst e1; rw [e2] at W'; rw [hc, hs] at W'; exact k T' W'
theorem g_name {tb : Tables} {v w : Value} (q : w = v) (k : Gets tb e below P T (mkF m pc Ls (w :: st))) : Gets tb e below P T (mkF m pc Ls (v :: st)) := q ▸ k
end OwnPure
section OwnFresh
variable {p : Program} {l : Launch} {e : Env} {R : Room} {s : State} {m : MethodId} {args : Array Value} {below : List Frame} {meth : Method} {c : Code} {T : State} {Z : State} {a0 : Array Value} {h : Heap} {EL : List (String × Nat)} {own : String} {cells slots : Nat} {ws nw : List Addr} {P : Outcome → State → Prop} {pc pc' : Nat} {Ls : Array Slot} {st : List Value}
def ConF (l : Launch) (Z : State) (EL : List (String × Nat)) (y : MethodName) (bytes : ByteArray) (maxL : Nat) (ret : Option FieldType) (rm : Room) (as' : Array Value) (h0 : Heap) (ws : List Addr) (Q : List Addr → Option Value → Heap → Prop) : Prop :=
  MetFree l y (head1 [Cond.code y bytes maxL ret] rm) (fun a U => a = as' ∧ Z.Warmed39 U.vm ∧ U.heap = h0 ∧ CHv Z EL U.vm h0 ∧ ∀ x ∈ ws, Safe Z EL U.vm h0 x) (fun _ _ _ _ _ => True)
    (fun _ U o U' => ∃ v L N, o = .returned v ∧ (Q N v U'.heap ∧ Fr Z.heap.size L ∧ Keep h0 U'.heap ws ∧ Ext Z.heap U'.heap ∧ ∀ x : Nat, x ∈ N → h0.size ≤ x ∧ x < U'.heap.size ∧ Safe Z EL U'.vm U'.heap x) ∧ CHr Z EL U.vm U.heap U'.vm U'.heap ∧ ReturnedEndW U o U' L rm.cells rm.slots)
def PostF (s : State) (Z : State) (EL : List (String × Nat)) (rm : Room) (h0 : Heap) (ws : List Addr) (Q : List Addr → Option Value → Heap → Prop) (o : Outcome) (t : State) : Prop :=
  ∃ v L N, o = .returned v ∧ (Q N v t.heap ∧ Fr Z.heap.size L ∧ Keep h0 t.heap ws ∧ Ext Z.heap t.heap ∧ ∀ x : Nat, x ∈ N → h0.size ≤ x ∧ x < t.heap.size ∧ Safe Z EL t.vm t.heap x) ∧ CHr Z EL s.vm s.heap t.vm t.heap ∧ ReturnedEndW s o t L rm.cells rm.slots
theorem ConF.of {y : MethodName} {bytes : ByteArray} {maxL : Nat} {ret : Option FieldType} {rm : Room} {as' : Array Value} {h0 : Heap} {Q : List Addr → Option Value → Heap → Prop} (Ls : Array Slot)
    (hy : plainFor y = true) (hE : EW Z a0 EL) (O : Ext Z.heap h0) (hws : ∀ x : Nat, x ∈ ws → Z.heap.size ≤ x ∧ x < h0.size) (hent : ∀ m, entryFrame m as' maxL = mkF m 0 Ls [])
    (body : ∀ (p : Program) (e : Env) (s : State) (m : MethodId) (below : List Frame) (meth : Method) (c : Code) (T : State), p.tables.exec = Jvm.exec → c.code = bytes → c.maxLocals = maxL → meth.name = y.name → meth.sig.returnType = ret → meth.locks = false → s.heap = h0 →
      Wk p l e rm s m as' below meth c Z EL y.cls ws [] T h0 0 0 → Gets p.tables e below (PostF s Z EL rm h0 ws Q) T (mkF m 0 Ls [])) :
    ConF l Z EL y bytes maxL ret rm as' h0 ws Q := by
  refine MetFree.of_bodySF hy hisR ?_
  intro p e s m args below meth c s₁ Bd hml0 hP hK
  obtain ⟨rfl, hZ, hh, hC, hS⟩ := hP
  have hh' : s.heap = h0 := hh
  have hl : meth.locks = false := Bd.notSynchronized
  have e0 : s₁.heap = h0 := by rw [← hh, Bd.state]; rfl
  have X0 : Stand p l e rm s m args below meth c s₁ [] 0 0 := Stand.of_body Bd
  have W : Wk p l e rm s m args below meth c Z EL y.cls ws [] s₁ h0 0 0 :=
    ⟨s.vm, h0.size, [], a0, X0, e0, (State.WarmedH.refl s).since _, Nat.le_refl _, hZ, findClass_of_methodNamed Bd.named, hE, by rw [hh']; exact CHr.refl hC, Fr.nil _, O, by rw [hh']; exact Keep.refl _ _, fun x hx => ⟨(hws x hx).1, (hws x hx).2, hS x hx⟩, fun x hx => (nomatch hx)⟩
  obtain ⟨t, o, h1, h2, h3, h4⟩ := body p e s m below meth c s₁ Bd.exec Bd.bytes hml0 (name_of_methodNamed Bd.named Bd.method).1 Bd.returns hl hh' W
  exact ⟨t, o, by rw [hent m]; exact h1, h2, h3, h4⟩
theorem w_endF {rm : Room} {h0 : Heap} {Q : List Addr → Option Value → Heap → Prop} (W : Wk p l e R s m args below meth c Z EL own ws nw T h cells slots) (hh : s.heap = h0) {v : Option Value} {g : JFrame} (hl : meth.locks = false) (hv : meth.sig.returnType = none → v = none)
    (st : ∀ {vm0 : Vm} {locs : List Loc} {fs : List Frame}, Stand p l e R (s.setVm vm0) m args below meth c T locs cells slots → (∀ (f : JFrame) (acts : List Action), f.method = m → f.locked = none → f.entered = [] → (doReturn e (T.setTop f) acts v).1 = T.setFrames fs) → Steps p.tables e below (T.setTop g) (T.setFrames fs))
    (hc : cells ≤ rm.cells) (hs : slots ≤ rm.slots) (N : List Addr) (hN : ∀ x ∈ N, x ∈ nw) (q : Q N v h) : Gets p.tables e below (PostF s Z EL rm h0 ws Q) T g := by
  obtain ⟨vm0, k0, locs, b0, X, eT, hS, hk, hZ, hown, hE, hC, hF, hO, hK, -, n2⟩ := W
  obtain ⟨fs, h1, h2, h3, r1, r2, r3, r4⟩ := X.leaveW hS (by rw [eT]; exact hk) hv hl
  subst hh
  have hA := CHv.at X hZ hE hC.1
  refine ⟨_, _, st X h1, h2, h3, v, locs, N, rfl, ⟨?_, hF, ?_, ?_, ?_⟩, ?_, r1, r2, r3, r4.mono hc hs⟩
  · show Q N v T.heap; rw [eT]; exact q
  · show Keep _ T.heap _; rw [eT]; exact hK
  · show Ext _ T.heap; rw [eT]; exact hO
  · intro x hx
    obtain ⟨q1, q2, q3, q4⟩ := n2 x (hN x hx)
    refine ⟨q1, ?_, ?_⟩
    · show x < T.heap.size; rw [eT]; exact q3
    · show Safe Z EL T.vm T.heap x; rw [eT]; exact hA.safe q3 q4
  · show CHr Z EL s.vm s.heap T.vm T.heap
    rw [eT]
    exact hC.trans hA
theorem w_retAF {rm : Room} {h0 : Heap} {Q : List Addr → Option Value → Heap → Prop} {w : Value} {t : FieldType} (W : Wk p l e R s m args below meth c Z EL own ws nw T h cells slots) (hx : p.tables.exec = Jvm.exec) (hh : s.heap = h0) (hl : meth.locks = false) (hret : meth.sig.returnType = some t) (ht : t.isReference = true) (hw : w.isRef = true) (hd : decode c.code pc = .ok (.areturn, 1)) (hc : cells ≤ rm.cells) (hs : slots ≤ rm.slots) (N : List Addr) (hN : ∀ x ∈ N, x ∈ nw) (q : Q N (some w) h) :
    Gets p.tables e below (PostF s Z EL rm h0 ws Q) T (mkF m pc Ls (w :: st)) :=
  w_endF W hh hl (fun q => by rw [hret] at q; cases q) (fun X hr => retOut X hx hret (by cases t <;> cases w <;> simp [FieldType.isReference, Value.isRef, narrow] at ht hw ⊢) (Or.inr (Or.inr (Or.inr (Or.inr ⟨rfl, ht, hw⟩)))) hd hr) hc hs N hN q
theorem w_retVF {rm : Room} {h0 : Heap} {Q : List Addr → Option Value → Heap → Prop} (W : Wk p l e R s m args below meth c Z EL own ws nw T h cells slots) (hx : p.tables.exec = Jvm.exec) (hh : s.heap = h0) (hl : meth.locks = false) (hret : meth.sig.returnType = none) (hd : decode c.code pc = .ok (.return_, 1)) (hc : cells ≤ rm.cells) (hs : slots ≤ rm.slots) (N : List Addr) (hN : ∀ x ∈ N, x ∈ nw) (q : Q N none h) :
    Gets p.tables e below (PostF s Z EL rm h0 ws Q) T (mkF m pc Ls []) :=
  w_endF W hh hl (fun _ => rfl) (fun X hr => X.returnOut hx hret hd hr) hc hs N hN q
theorem w_retIF {rm : Room} {h0 : Heap} {Q : List Addr → Option Value → Heap → Prop} {z : Int32} (W : Wk p l e R s m args below meth c Z EL own ws nw T h cells slots) (hx : p.tables.exec = Jvm.exec) (hh : s.heap = h0) (hl : meth.locks = false) (hret : meth.sig.returnType = some .int) (hd : decode c.code pc = .ok (.ireturn, 1)) (hc : cells ≤ rm.cells) (hs : slots ≤ rm.slots) (N : List Addr) (hN : ∀ x ∈ N, x ∈ nw) (q : Q N (some (.int z)) h) :
    Gets p.tables e below (PostF s Z EL rm h0 ws Q) T (mkF m pc Ls (.int z :: st)) :=
  w_endF W hh hl (fun q => by rw [hret] at q; cases q) (fun X hr => retOut X hx hret rfl (Or.inl ⟨rfl, Or.inl rfl, z, rfl⟩) hd hr) hc hs N hN q
theorem backCF {y : MethodName} {bytes : ByteArray} {maxL : Nat} {ret : Option FieldType} {rm : Room} {len W : Nat} {as' : Array Value} {Q : List Addr → Option Value → Heap → Prop} {vm0 : Vm} {wsc : List Addr}
    (hM : ConF l Z EL y bytes maxL ret rm as' h wsc Q) (hZ : Z.Warmed39 vm0) (wc : (Cond.code y bytes maxL ret).before a0 Z = true) (wz : (Cond.initialized y.cls).before a0 Z = true) (hf : rm.frames + 1 ≤ R.frames) (hl : W + (maxL + 11) + rm.locals ≤ R.locals) {b0 : Array Value} (hEL : EW Z b0 EL) (H : CHv Z EL vm0 h) (hs : ∀ x : Nat, x ∈ wsc → x < h.size ∧ Safe Z EL vm0 h x) :
    BackS l R p e below (s.setVm vm0) args y len W (fun A a => a = as' ∧ A.U.heap = h ∧ A.cells + rm.cells ≤ R.cells ∧ A.slots + rm.slots ≤ R.slots)
      (fun A _ v B => ∃ L N, (Q N v B.U.heap ∧ Fr Z.heap.size L ∧ Keep h B.U.heap wsc ∧ Ext Z.heap B.U.heap ∧ ∀ x : Nat, x ∈ N → h.size ≤ x ∧ x < B.U.heap.size ∧ Safe Z EL B.U.vm B.U.heap x) ∧ B.locs = A.locs ++ L ∧ B.cells = A.cells + rm.cells ∧ B.slots = A.slots + rm.slots ∧ CHr Z EL vm0 h B.U.vm B.U.heap) :=
  BackS.of_freeW (bytes := bytes) (maxL := maxL) (ret := ret) (E := fun _ first o t L k n => k = rm.cells ∧ n = rm.slots ∧ (∃ v N, o = .returned v ∧ (Q N v t.heap ∧ Fr Z.heap.size L ∧ Keep h t.heap wsc ∧ Ext Z.heap t.heap ∧ ∀ x : Nat, x ∈ N → h.size ≤ x ∧ x < t.heap.size ∧ Safe Z EL t.vm t.heap x)) ∧ CHr Z EL first.vm first.heap t.vm t.heap) hM hf hl
    (fun m meth c A a Y hp => have hU : Z.Warmed39 A.U.vm := wtrans (s := s.setVm vm0) hZ Y.warmed
      ⟨by show (Cond.and _ .tt).before a A.U = true; rw [Cond.before_and, mv hU wc]; rfl, mv hU wc, mv hU wz, hp.2.2.1, hp.2.2.2⟩)
    (fun m meth c A a g mk Y hp => ⟨hp.1, wtrans (s := s.setVm vm0) hZ Y.warmed, hp.2.1, (CHv.at Y hZ hEL H).1, fun x hx => (CHv.at Y hZ hEL H).safe (hs x hx).1 (hs x hx).2⟩) (fun _ _ _ _ _ _ _ _ _ => trivial)
    (fun _ _ _ _ ⟨v, L, N, h1, h2, h3, h4⟩ => ⟨L, _, _, h4, rfl, rfl, ⟨v, N, h1, h2⟩, h3⟩)
    (fun m meth c A a g mk v t L k n Y hp _ _ ⟨e1, e2, ⟨v', N, e3, e4⟩, e5⟩ => by
      cases e3; subst e1 e2
      refine ⟨L, N, e4, rfl, rfl, rfl, (CHv.at Y hZ hEL H).trans ?_⟩
      rw [← hp.2.1]; exact e5)
theorem Wk.calledF {vm0 : Vm} {k0 : Nat} {locs L : List Loc} {b0 : Array Value} {T' : State} {h' : Heap} {wsc N : List Addr} {n c' s' : Nat} (hw : ∀ x ∈ wsc, x ∈ ws ++ nw) (X' : Stand p l e R ((s.setVm vm0).setVm T'.vm) m args below meth c T' (locs ++ L) c' s') (e' : T'.heap = h') (h2 : (s.setVm vm0).Since T'.vm n) (hn : n ≤ h'.size) (hln : h.size ≤ n) (F : Fr Z.heap.size L) (K : Keep h h' wsc) (O' : Ext Z.heap h') (hN : ∀ x : Nat, x ∈ N → h.size ≤ x ∧ x < h'.size ∧ Safe Z EL T'.vm h' x) (C' : CHr Z EL vm0 h T'.vm h')
    (r : s.Since vm0 k0 ∧ k0 ≤ h.size ∧ Z.Warmed39 vm0 ∧ vm0.findClass own = some m.cls ∧ EW Z b0 EL ∧ CHr Z EL s.vm s.heap vm0 h ∧ Fr Z.heap.size locs ∧ Ext Z.heap h ∧ Keep s.heap h ws ∧ (∀ x : Nat, x ∈ ws → Z.heap.size ≤ x ∧ x < h.size ∧ Safe Z EL vm0 h x) ∧ (∀ x : Nat, x ∈ nw → s.heap.size ≤ x ∧ Z.heap.size ≤ x ∧ x < h.size ∧ Safe Z EL vm0 h x)) :
    Wk p l e R s m args below meth c Z EL own ws (N ++ nw) T' h' c' s' := by
  obtain ⟨hS, hk, hZ, hown, hE, hC, hF, hO, hK, n1, n2⟩ := r
  have sz := K.1
  refine ⟨T'.vm, n, locs ++ L, b0, X', e', hS.trans h2 (by omega), hn, State.Warmed39.trans (t := s.setVm vm0) hZ h2.1, (h2.1.alike.findClass _ _).trans hown, hE, hC.trans C', Fr.app hF F, O', hK.trans K (fun x hx => ?_), fun x hx => ?_, fun x hx => ?_⟩
  · rcases List.mem_append.mp (hw x hx) with q | q
    · exact Or.inl q
    · exact Or.inr (n2 x q).1
  · obtain ⟨q1, q2, q3⟩ := n1 x hx
    exact ⟨q1, by omega, C'.safe q2 q3⟩
  · have ks := hK.1
    have os := hO.1
    rcases List.mem_append.mp hx with hx | hx
    · obtain ⟨q1, q2, q3⟩ := hN x hx
      exact ⟨by omega, by omega, q2, q3⟩
    · obtain ⟨q1, q2, q3, q4⟩ := n2 x hx
      exact ⟨q1, q2, by omega, C'.safe q3 q4⟩
theorem w_callSF (W : Wk p l e R s m args below meth c Z EL own ws nw T h cells slots) (hx : p.tables.exec = Jvm.exec) {index : Nat} {y : MethodName} {bytes : ByteArray} {maxL : Nat} {ret : Option FieldType} {rm : Room} {Q : List Addr → Option Value → Heap → Prop} {wsc : List Addr} (argsL : List Value)
    (w1 : (Cond.methodLink own index y).before a0 Z = true) (w2 : (Cond.static y).before a0 Z = true) (w3 : (Cond.initialized y.cls).before a0 Z = true) (w4 : (Cond.code y bytes maxL ret).before a0 Z = true) (hy : y.cls ≠ "java/lang/invoke/MethodHandle" ∧ y.cls ≠ "java/lang/invoke/VarHandle")
    (H : ConF l Z EL y bytes maxL ret rm argsL.toArray h wsc Q) (hwc : ∀ x ∈ wsc, x ∈ ws ++ nw) (hsz : Ls.size = c.maxLocals) (hlen : ∀ sig, parseMethodDescriptor y.desc = some sig → argsL.length = sig.parameters.length) {stk : List Value} (hstk : stk = argsL.reverse ++ st) (hd : decode c.code pc = .ok (.invokestatic index, 3))
    (hf : rm.frames + 1 ≤ R.frames) (hl : (st.map fun v => v.category).sum + (maxL + 11) + rm.locals ≤ R.locals) (hc : cells + rm.cells ≤ R.cells) (hs : slots + rm.slots ≤ R.slots) (hp : pc + 3 = pc')
    (k : ∀ N v T' h', Wk p l e R s m args below meth c Z EL own ws (N ++ nw) T' h' (cells + rm.cells) (slots + rm.slots) → Keep h h' wsc → (∀ x : Nat, x ∈ N → h.size ≤ x ∧ x < h'.size) → Q N v h' → Gets p.tables e below P T' (mkF m pc' Ls (v.toList ++ st))) : Gets p.tables e below P T (mkF m pc Ls stk) := by
  subst hp
  obtain ⟨vm0, k0, locs, b0, X, eT, r⟩ := W
  obtain ⟨hS, hk, hZ, hown, hE, hC, hF, hO, hK, n1, n2⟩ := id r
  have sf : ∀ x : Nat, x ∈ wsc → x < h.size ∧ Safe Z EL vm0 h x := fun x hx => by
    rcases List.mem_append.mp (hwc x hx) with q | q
    · exact (n1 x q).2
    · exact (n2 x q).2.2
  obtain ⟨v, vm1, ⟨T', L', c', s'⟩, -, X', hS2, hg2, ⟨L, N, ⟨q1, q2, q3, q4, q5⟩, l1, l2, l3, C'⟩, stp⟩ := callSS X hx (y := y) hown (mv (s := s.setVm vm0) hZ w1) (mv (s := s.setVm vm0) hZ w2) (mv (s := s.setVm vm0) hZ w3) (mv (s := s.setVm vm0) hZ w4) hy (backCF (W := (st.map fun v => v.category).sum) H hZ w4 w3 hf hl hE hC.1 sf) (g := mkF m pc Ls stk) rfl hsz (argsL := argsL) (rest := st) hlen hstk (by show 2 * 0 + _ ≤ _; omega) hd (fun _ _ => ⟨rfl, eT, hc, hs⟩)
  dsimp only [Pt.U, Pt.locs, Pt.cells, Pt.slots] at X' hS2 hg2 q1 q3 q4 q5 l1 l2 l3 C' stp
  subst l1 l2 l3
  exact (k N v T' _ (Wk.calledF (h' := T'.heap) hwc X' rfl hS2 (Nat.le_refl _) (by rw [← eT]; exact hg2) q2 q3 q4 q5 C' r) q3 (fun x hx => ⟨(q5 x hx).1, (q5 x hx).2.1⟩) q1).by fun t q => stp.trans q
theorem w_specialF (W : Wk p l e R s m args below meth c Z EL own ws nw T h cells slots) (hx : p.tables.exec = Jvm.exec) {index : Nat} {y : MethodName} {bytes : ByteArray} {maxL : Nat} {rm : Room} {Q : List Addr → Option Value → Heap → Prop} {wsc : List Addr} {a : Nat} (argsL : List Value) (hy1 : y.name = "<init>")
    (w1 : (Cond.methodLink own index y).before a0 Z = true) (w2 : (Cond.instanceMethod y).before a0 Z = true) (w3 : (Cond.initialized y.cls).before a0 Z = true) (w4 : (Cond.code y bytes maxL none).before a0 Z = true) (hy : y.cls ≠ "java/lang/invoke/MethodHandle" ∧ y.cls ≠ "java/lang/invoke/VarHandle")
    (H : ConF l Z EL y bytes maxL none rm (.ref a :: argsL).toArray h wsc Q) (hwc : ∀ x ∈ wsc, x ∈ ws ++ nw) (hsz : Ls.size = c.maxLocals) (hlen : ∀ sig, parseMethodDescriptor y.desc = some sig → argsL.length = sig.parameters.length) {stk : List Value} (hstk : stk = argsL.reverse ++ .ref a :: st) (hd : decode c.code pc = .ok (.invokespecial index, 3))
    (hf : rm.frames + 1 ≤ R.frames) (hl : (st.map fun v => v.category).sum + (maxL + 11) + rm.locals ≤ R.locals) (hc : cells + rm.cells ≤ R.cells) (hs : slots + rm.slots ≤ R.slots) (hp : pc + 3 = pc')
    (k : ∀ N v T' h', Wk p l e R s m args below meth c Z EL own ws (N ++ nw) T' h' (cells + rm.cells) (slots + rm.slots) → Keep h h' wsc → (∀ x : Nat, x ∈ N → h.size ≤ x ∧ x < h'.size) → Q N v h' → Gets p.tables e below P T' (mkF m pc' Ls (v.toList ++ st))) : Gets p.tables e below P T (mkF m pc Ls stk) := by
  subst hp
  obtain ⟨vm0, k0, locs, b0, X, eT, r⟩ := W
  obtain ⟨hS, hk, hZ, hown, hE, hC, hF, hO, hK, n1, n2⟩ := id r
  have sf : ∀ x : Nat, x ∈ wsc → x < h.size ∧ Safe Z EL vm0 h x := fun x hx => by
    rcases List.mem_append.mp (hwc x hx) with q | q
    · exact (n1 x q).2
    · exact (n2 x q).2.2
  obtain ⟨v, vm1, ⟨T', L', c', s'⟩, -, X', hS2, hg2, ⟨L, N, ⟨q1, q2, q3, q4, q5⟩, l1, l2, l3, C'⟩, stp⟩ := X.specialBackS hx (y := y) hy1 hown (mv (s := s.setVm vm0) hZ w1) (mv (s := s.setVm vm0) hZ w2) (mv (s := s.setVm vm0) hZ w4) hy (backCF (W := (st.map fun v => v.category).sum) H hZ w4 w3 hf hl hE hC.1 sf) (g := mkF m pc Ls stk) rfl hsz (Steps.refl _) (a := a) (argsL := argsL) (rest := st) hlen hstk (by show 2 * 0 + _ ≤ _; omega) hd (fun _ _ => ⟨rfl, eT, hc, hs⟩)
  dsimp only [Pt.U, Pt.locs, Pt.cells, Pt.slots] at X' hS2 hg2 q1 q3 q4 q5 l1 l2 l3 C' stp
  subst l1 l2 l3
  exact (k N v T' _ (Wk.calledF (h' := T'.heap) hwc X' rfl hS2 (Nat.le_refl _) (by rw [← eT]; exact hg2) q2 q3 q4 q5 C' r) q3 (fun x hx => ⟨(q5 x hx).1, (q5 x hx).2.1⟩) q1).by fun t q => stp.trans q
theorem w_virtualF (W : Wk p l e R s m args below meth c Z EL own ws nw T h cells slots) (hx : p.tables.exec = Jvm.exec) {index : Nat} {y z : MethodName} {C : String} {bytes : ByteArray} {maxL : Nat} {ret : Option FieldType} {rm : Room} {Q : List Addr → Option Value → Heap → Prop} {wsc : List Addr} {a : Nat} (argsL : List Value)
    (w1 : (Cond.methodLink own index y).before a0 Z = true) (w2 : (Cond.declares y).before a0 Z = true) (hnf : ∀ {U : State}, Z.Warmed39 U.vm → NotFace U y) (w3 : (Cond.selects C y z).before a0 Z = true) (w5 : (Cond.instanceMethod z).before a0 Z = true) (w6 : (Cond.initialized z.cls).before a0 Z = true) (w4 : (Cond.code z bytes maxL ret).before a0 Z = true) (hy : y.cls ≠ "java/lang/invoke/MethodHandle" ∧ y.cls ≠ "java/lang/invoke/VarHandle")
    (H : ConF l Z EL z bytes maxL ret rm (.ref a :: argsL).toArray h wsc Q) (E : Exa Z h a C) (hwc : ∀ x ∈ wsc, x ∈ ws ++ nw) (hsz : Ls.size = c.maxLocals) (hlen : ∀ sig, parseMethodDescriptor y.desc = some sig → argsL.length = sig.parameters.length) {stk : List Value} (hstk : stk = argsL.reverse ++ .ref a :: st) (hd : decode c.code pc = .ok (.invokevirtual index, 3))
    (hf : rm.frames + 1 ≤ R.frames) (hl : (st.map fun v => v.category).sum + (maxL + 11) + rm.locals ≤ R.locals) (hc : cells + rm.cells ≤ R.cells) (hs : slots + rm.slots ≤ R.slots) (hp : pc + 3 = pc')
    (k : ∀ N v T' h', Wk p l e R s m args below meth c Z EL own ws (N ++ nw) T' h' (cells + rm.cells) (slots + rm.slots) → Keep h h' wsc → (∀ x : Nat, x ∈ N → h.size ≤ x ∧ x < h'.size) → Q N v h' → Gets p.tables e below P T' (mkF m pc' Ls (v.toList ++ st))) : Gets p.tables e below P T (mkF m pc Ls stk) := by
  subst hp
  obtain ⟨vm0, k0, locs, b0, X, eT, r⟩ := W
  obtain ⟨hS, hk, hZ, hown, hE, hC, hF, hO, hK, n1, n2⟩ := id r
  have sf : ∀ x : Nat, x ∈ wsc → x < h.size ∧ Safe Z EL vm0 h x := fun x hx => by
    rcases List.mem_append.mp (hwc x hx) with q | q
    · exact (n1 x q).2
    · exact (n2 x q).2.2
  obtain ⟨cq, kq, qa, qb, qc⟩ := isOf (s := s.setVm vm0) hZ eT E
  obtain ⟨v, vm1, ⟨T', L', c', s'⟩, -, X', hS2, hg2, ⟨L, N, ⟨q1, q2, q3, q4, q5⟩, l1, l2, l3, C'⟩, stp⟩ := X.virtualBackS hx (y := y) (z := z) hown (mv (s := s.setVm vm0) hZ w1) (mv (s := s.setVm vm0) hZ w2) (hnf (U := s.setVm vm0) hZ) (mv (s := s.setVm vm0) hZ w3) (mv (s := s.setVm vm0) hZ w5) hy (backCF (W := (st.map fun v => v.category).sum) H hZ w4 w6 hf hl hE hC.1 sf) qa qc (g := mkF m pc Ls stk) rfl hsz (Steps.refl _) (argsL := argsL) (rest := st) hlen hstk (by show 2 * 0 + _ ≤ _; omega) hd (fun _ _ => ⟨rfl, eT, hc, hs⟩)
  dsimp only [Pt.U, Pt.locs, Pt.cells, Pt.slots] at X' hS2 hg2 q1 q3 q4 q5 l1 l2 l3 C' stp
  subst l1 l2 l3
  exact (k N v T' _ (Wk.calledF (h' := T'.heap) hwc X' rfl hS2 (Nat.le_refl _) (by rw [← eT]; exact hg2) q2 q3 q4 q5 C' r) q3 (fun x hx => ⟨(q5 x hx).1, (q5 x hx).2.1⟩) q1).by fun t q => stp.trans q
theorem w_virtualUpF (W : Wk p l e R s m args below meth c Z EL own ws nw T h cells slots) (hx : p.tables.exec = Jvm.exec) {index : Nat} {y z : MethodName} {C owner : String} {bytes : ByteArray} {maxL : Nat} {ret : Option FieldType} {rm : Room} {Q : List Addr → Option Value → Heap → Prop} {wsc : List Addr} {a : Nat} (argsL : List Value)
    (w1 : (Cond.methodLink own index y).before a0 Z = true) (w7 : (Cond.sameMethod y.cls owner y.name y.desc).before a0 Z = true) (w2 : (Cond.declares ⟨owner, y.name, y.desc⟩).before a0 Z = true) (w3 : (Cond.selects C y z).before a0 Z = true) (w5 : (Cond.instanceMethod z).before a0 Z = true) (w6 : (Cond.initialized z.cls).before a0 Z = true) (w4 : (Cond.code z bytes maxL ret).before a0 Z = true) (hy : owner ≠ "java/lang/invoke/MethodHandle" ∧ owner ≠ "java/lang/invoke/VarHandle")
    (H : ConF l Z EL z bytes maxL ret rm (.ref a :: argsL).toArray h wsc Q) (E : Exa Z h a C) (hwc : ∀ x ∈ wsc, x ∈ ws ++ nw) (hsz : Ls.size = c.maxLocals) (hlen : ∀ sig, parseMethodDescriptor y.desc = some sig → argsL.length = sig.parameters.length) {stk : List Value} (hstk : stk = argsL.reverse ++ .ref a :: st) (hd : decode c.code pc = .ok (.invokevirtual index, 3))
    (hf : rm.frames + 1 ≤ R.frames) (hl : (st.map fun v => v.category).sum + (maxL + 11) + rm.locals ≤ R.locals) (hc : cells + rm.cells ≤ R.cells) (hs : slots + rm.slots ≤ R.slots) (hp : pc + 3 = pc')
    (k : ∀ N v T' h', Wk p l e R s m args below meth c Z EL own ws (N ++ nw) T' h' (cells + rm.cells) (slots + rm.slots) → Keep h h' wsc → (∀ x : Nat, x ∈ N → h.size ≤ x ∧ x < h'.size) → Q N v h' → Gets p.tables e below P T' (mkF m pc' Ls (v.toList ++ st))) : Gets p.tables e below P T (mkF m pc Ls stk) := by
  subst hp
  obtain ⟨vm0, k0, locs, b0, X, eT, r⟩ := W
  obtain ⟨hS, hk, hZ, hown, hE, hC, hF, hO, hK, n1, n2⟩ := id r
  have sf : ∀ x : Nat, x ∈ wsc → x < h.size ∧ Safe Z EL vm0 h x := fun x hx => by
    rcases List.mem_append.mp (hwc x hx) with q | q
    · exact (n1 x q).2
    · exact (n2 x q).2.2
  obtain ⟨cq, kq, qa, qb, qc⟩ := isOf (s := s.setVm vm0) hZ eT E
  obtain ⟨v, vm1, ⟨T', L', c', s'⟩, -, X', hS2, hg2, ⟨L, N, ⟨q1, q2, q3, q4, q5⟩, l1, l2, l3, C'⟩, stp⟩ := X.virtualBackUpS hx (x := y) (y := z) hown (mv (s := s.setVm vm0) hZ w1) (mv (s := s.setVm vm0) hZ w7) (mv (s := s.setVm vm0) hZ w2) hy (mv (s := s.setVm vm0) hZ w3) (mv (s := s.setVm vm0) hZ w5) (backCF (W := (st.map fun v => v.category).sum) H hZ w4 w6 hf hl hE hC.1 sf) qa qc (g := mkF m pc Ls stk) rfl hsz (Steps.refl _) (argsL := argsL) (rest := st) hlen hstk (by show 2 * 0 + _ ≤ _; omega) hd (fun _ _ => ⟨rfl, eT, hc, hs⟩)
  dsimp only [Pt.U, Pt.locs, Pt.cells, Pt.slots] at X' hS2 hg2 q1 q3 q4 q5 l1 l2 l3 C' stp
  subst l1 l2 l3
  exact (k N v T' _ (Wk.calledF (h' := T'.heap) hwc X' rfl hS2 (Nat.le_refl _) (by rw [← eT]; exact hg2) q2 q3 q4 q5 C' r) q3 (fun x hx => ⟨(q5 x hx).1, (q5 x hx).2.1⟩) q1).by fun t q => stp.trans q
theorem w_ifaceF (W : Wk p l e R s m args below meth c Z EL own ws nw T h cells slots) (hx : p.tables.exec = Jvm.exec) {index count : Nat} {y z : MethodName} {C : String} {bytes : ByteArray} {maxL : Nat} {ret : Option FieldType} {rm : Room} {Q : List Addr → Option Value → Heap → Prop} {wsc : List Addr} {a : Nat} (argsL : List Value)
    (w1 : (Cond.methodLink own index y).before a0 Z = true) (w2 : (Cond.declares y).before a0 Z = true) (w7 : (Cond.interfaceMethod y.cls y.cls y.name y.desc).before a0 Z = true) (w3 : (Cond.selects C y z).before a0 Z = true) (w5 : (Cond.instanceMethod z).before a0 Z = true) (w8 : (Cond.publicMethod z).before a0 Z = true) (w9 : (Cond.unhidden C y.name y.desc).before a0 Z = true) (w10 : (Cond.castable C y.cls).before a0 Z = true) (w6 : (Cond.initialized z.cls).before a0 Z = true) (w4 : (Cond.code z bytes maxL ret).before a0 Z = true) (hy : y.cls ≠ "java/lang/invoke/MethodHandle" ∧ y.cls ≠ "java/lang/invoke/VarHandle")
    (H : ConF l Z EL z bytes maxL ret rm (.ref a :: argsL).toArray h wsc Q) (E : Exa Z h a C) (hwc : ∀ x ∈ wsc, x ∈ ws ++ nw) (hsz : Ls.size = c.maxLocals) (hlen : ∀ sig, parseMethodDescriptor y.desc = some sig → argsL.length = sig.parameters.length) {stk : List Value} (hstk : stk = argsL.reverse ++ .ref a :: st) (hd : decode c.code pc = .ok (.invokeinterface index count, 5))
    (hf : rm.frames + 1 ≤ R.frames) (hl : (st.map fun v => v.category).sum + (maxL + 11) + rm.locals ≤ R.locals) (hc : cells + rm.cells ≤ R.cells) (hs : slots + rm.slots ≤ R.slots) (hp : pc + 5 = pc')
    (k : ∀ N v T' h', Wk p l e R s m args below meth c Z EL own ws (N ++ nw) T' h' (cells + rm.cells) (slots + rm.slots) → Keep h h' wsc → (∀ x : Nat, x ∈ N → h.size ≤ x ∧ x < h'.size) → Q N v h' → Gets p.tables e below P T' (mkF m pc' Ls (v.toList ++ st))) : Gets p.tables e below P T (mkF m pc Ls stk) := by
  subst hp
  obtain ⟨vm0, k0, locs, b0, X, eT, r⟩ := W
  obtain ⟨hS, hk, hZ, hown, hE, hC, hF, hO, hK, n1, n2⟩ := id r
  have sf : ∀ x : Nat, x ∈ wsc → x < h.size ∧ Safe Z EL vm0 h x := fun x hx => by
    rcases List.mem_append.mp (hwc x hx) with q | q
    · exact (n1 x q).2
    · exact (n2 x q).2.2
  obtain ⟨cq, kq, qa, qb, qc⟩ := isOf (s := s.setVm vm0) hZ eT E
  obtain ⟨v, vm1, ⟨T', L', c', s'⟩, -, X', hS2, hg2, ⟨L, N, ⟨q1, q2, q3, q4, q5⟩, l1, l2, l3, C'⟩, stp⟩ := X.interfaceBackS hx (xi := y) (y := z) hown (mv (s := s.setVm vm0) hZ w1) (mv (s := s.setVm vm0) hZ w2) (mv (s := s.setVm vm0) hZ w7 (by simp [Cond.onTables, Cond.keepsFace, Cond.keeps, Cond.steady, Cond.faceAtom, hy.1, hy.2])) (mv (s := s.setVm vm0) hZ w3) (mv (s := s.setVm vm0) hZ w5) (mv (s := s.setVm vm0) hZ w8) (mv (s := s.setVm vm0) hZ w9) (mv (s := s.setVm vm0) hZ w10) hy (backCF (W := (st.map fun v => v.category).sum) H hZ w4 w6 hf hl hE hC.1 sf) qa qb qc (g := mkF m pc Ls stk) rfl hsz (Steps.refl _) (argsL := argsL) (rest := st) hlen hstk (by show 2 * 0 + _ ≤ _; omega) hd (fun _ _ => ⟨rfl, eT, hc, hs⟩)
  dsimp only [Pt.U, Pt.locs, Pt.cells, Pt.slots] at X' hS2 hg2 q1 q3 q4 q5 l1 l2 l3 C' stp
  subst l1 l2 l3
  exact (k N v T' _ (Wk.calledF (h' := T'.heap) hwc X' rfl hS2 (Nat.le_refl _) (by rw [← eT]; exact hg2) q2 q3 q4 q5 C' r) q3 (fun x hx => ⟨(q5 x hx).1, (q5 x hx).2.1⟩) q1).by fun t q => stp.trans q
/-- an array of references over the class C: its exact content -/
def AryR (Z : State) (h : Heap) (a : Addr) (C : String) (vs : List Value) : Prop := ∃ cl : Cell, Arr Z h a cl (.object C) ∧ Ovr Z cl.cls C ∧ cl.slots.toList = vs ∧ vs.length < 2 ^ 31 ∧ ∀ v ∈ vs, fits (.object C) v = true
theorem AryR.ary {Z : State} {h : Heap} {a : Addr} {C : String} {vs : List Value} (F : AryR Z h a C vs) : Ary Z h a (.object C) vs := by obtain ⟨c, A, -, r⟩ := F; exact ⟨c, A, r⟩
theorem AryR.lt {Z : State} {h : Heap} {a : Addr} {C : String} {vs : List Value} (F : AryR Z h a C vs) : a < h.size := F.ary.lt
theorem AryR.keep {Z : State} {h h' : Heap} {a : Addr} {C : String} {vs : List Value} {ws : List Addr} (F : AryR Z h a C vs) (K : Keep h h' ws) (q : a ∉ ws) : AryR Z h' a C vs := by obtain ⟨c, A, r⟩ := F; exact ⟨c, ⟨K.2.1 a c A.1 q, A.2⟩, r⟩
theorem AryR.made {Z : State} {h : Heap} {a : Addr} {C : String} {k : ClassId} {n : Int32} (A : Arr Z h a (newA k (.object C) n) (.object C)) (O : Ovr Z k C) (hn : ¬ n < 0) : AryR Z h a C (List.replicate n.toNatClampNeg .null) :=
  ⟨_, A, O, by simp [newA, defaultValue], by rw [List.length_replicate]; exact (back32 hn).2, fun v hv => by rw [(List.mem_replicate.mp hv).2]; rfl⟩
theorem AryR.wrote {Z : State} {h h' : Heap} {a : Addr} {C : String} {vs : List Value} {cl : Cell} {y : Addr} {i : Nat} (A : Arr Z h a cl (.object C)) (O : Ovr Z cl.cls C) (e : cl.slots.toList = vs) (hl : vs.length < 2 ^ 31) (hf : ∀ w ∈ vs, fits (.object C) w = true) (W : Wr h h' a i (.ref y)) : AryR Z h' a C (vs.set i (.ref y)) := by
  refine ⟨cl.setSlot i (.ref y), A.same W, O, ?_, by rw [List.length_set]; exact hl, fun w hw => ?_⟩
  · rw [← e]; simp [Cell.setSlot]
  · rcases List.mem_or_eq_of_mem_set hw with q | q
    · exact hf w q
    · rw [q]; rfl
theorem w_anewarr (W : Wk p l e R s m args below meth c Z EL own ws nw T h cells slots) (hx : p.tables.exec = Jvm.exec) {C : String} {index : Nat} (w : (Cond.classLink own index C).before a0 Z = true) (w2 : (Cond.arrayOver (.object C)).before a0 Z = true) {n : Int32} (hd : decode c.code pc = .ok (.anewarray index, 3)) (hn : ¬ n < 0) {cap : Nat} (hcap : n.toNatClampNeg ≤ cap) (hb : cap * 8 ≤ 536870912) (hc : cells + 1 ≤ R.cells) (hl : slots + cap ≤ R.slots) (hp : pc + 3 = pc')
    (k : ∀ (T' : State) (h' : Heap) (b : Nat), b = h.size → Wk p l e R s m args below meth c Z EL own ws (b :: nw) T' h' (cells + 1) (slots + cap) → Keep h h' [] → AryR Z h' b C (List.replicate n.toNatClampNeg .null) → Gets p.tables e below P T' (mkF m pc' Ls (.ref b :: st))) : Gets p.tables e below P T (mkF m pc Ls (.int n :: st)) := by
  subst hp
  obtain ⟨vm0, k0, locs, b0, X, eT, hS, hk, hZ, hown, hE, hC, hF, hO, hK, n1, n2⟩ := W
  obtain ⟨T', h', cA, X', e', E, A, OO, stp⟩ := Jvm.RoadKit.newR X hx hZ hown w w2 eT (g := mkF m pc Ls (.int n :: st)) rfl hd rfl hn hcap hb hc hl
  have hn' : h.size < h'.size := A.lt
  have hs : s.heap.size ≤ h.size := hK.1
  refine (k T' h' h.size rfl ⟨vm0, k0, locs, b0, X', e', hS, Nat.le_trans hk E.1, hZ, hown, hE, hC.trans (CHr.ext E hC.1), hF, ⟨Nat.le_trans hO.1 E.1, fun a c q => E.2 a c (hO.2 a c q)⟩, hK.ext E, fun x hx => ?_, fun x hx => ?_⟩ ((Keep.refl h []).ext E) (AryR.made A OO hn)).by stp
  · obtain ⟨a, b, c⟩ := n1 x hx
    exact ⟨a, Nat.lt_of_lt_of_le b E.1, c.ext E hC.1⟩
  · rcases List.mem_cons.mp hx with rfl | hx
    · exact ⟨hs, hO.1, hn', Safe.ext E hC.1 (Safe.new (Nat.le_refl _))⟩
    · obtain ⟨a, b, c, d⟩ := n2 x hx
      exact ⟨a, b, Nat.lt_of_lt_of_le c E.1, d.ext E hC.1⟩
theorem w_aastore (W : Wk p l e R s m args below meth c Z EL own ws nw T h cells slots) (hx : p.tables.exec = Jvm.exec) {a : Nat} {C : String} {vs : List Value} {j : Int32} {y : Nat} (F : AryR Z h a C vs) (I : Ins Z h y C true) (hj : ¬ j < 0) (hi : j.toNatClampNeg < vs.length) (ha : a ∈ ws ++ nw) (hd : decode c.code pc = .ok (.aastore, 1)) (hp : pc + 1 = pc')
    (k : ∀ T' h', Wk p l e R s m args below meth c Z EL own ws nw T' h' cells slots → Keep h h' [a] → AryR Z h' a C (vs.set j.toNatClampNeg (.ref y)) → Gets p.tables e below P T' (mkF m pc' Ls st)) : Gets p.tables e below P T (mkF m pc Ls (.ref y :: .int j :: .ref a :: st)) := by
  subst hp
  obtain ⟨vm0, k0, locs, b0, X, eT, r⟩ := W
  obtain ⟨cl, A, OO, e1, e2, e3⟩ := F
  obtain ⟨T', h', X', e', WW, stp⟩ := Jvm.RoadKit.stR X hx r.2.2.1 eT A (j := j) (v := .ref y) (fun q => q.elim hj fun q => by rw [size_of_list e1] at q; omega) rfl (Sto.of A OO I) (g := mkF m pc Ls (.ref y :: .int j :: .ref a :: st)) rfl rfl hd
  exact (k T' h' (Wk.wrote ha WW X' e' r) (Keep.of_wr WW) (AryR.wrote A OO e1 e2 e3 WW)).by stp
end OwnFresh
section OwnMore
variable {p : Program} {l : Launch} {e : Env} {R : Room} {s : State} {m : MethodId} {args : Array Value} {below : List Frame} {meth : Method} {c : Code} {T : State} {Z : State} {a0 : Array Value} {h : Heap} {EL : List (String × Nat)} {own : String} {cells slots : Nat} {ws nw : List Addr} {P : Outcome → State → Prop} {pc pc' : Nat} {Ls : Array Slot} {st : List Value}
theorem own_selself {U : State} {b0 : Array Value} {y : MethodName} {C : String} (w : (Cond.selects C y y).before b0 U = true) (wp : (Cond.privateMethod y).before b0 U = true) (wi : (Cond.instanceMethod y).before b0 U = true) (hy : y.cls ≠ "java/lang/invoke/MethodHandle" ∧ y.cls ≠ "java/lang/invoke/VarHandle") : (Cond.selects y.cls y y).before b0 U = true := by
  obtain ⟨_, _, m2, -, -, q3, -, kP, hk, hki⟩ := Cond.selects_spec w
  exact selects_self_of_private (findClass_of_methodNamed q3) hk hki (Cond.privateMethod_at wp) wi hy
theorem own_same {U : State} {b0 : Array Value} {y y2 z2 : MethodName} {C : String} (wn : (Cond.selects C y2 z2).before b0 U = true) (hc2 : z2.cls = y.cls) (wi : (Cond.instanceMethod y).before b0 U = true) (hy : y.cls ≠ "java/lang/invoke/MethodHandle" ∧ y.cls ≠ "java/lang/invoke/VarHandle") : (Cond.sameMethod y.cls y.cls y.name y.desc).before b0 U = true := by
  obtain ⟨mk, methM, hnamed, hmethM, -, -⟩ := Cond.instanceMethod_spec wi
  have hfound : U.methodFound? y.cls y.name y.desc = some mk := State.methodFound?_of_named hnamed hy
  have hc := findClass_of_methodNamed hnamed
  obtain ⟨k, hk, -⟩ := Vm.findClass_spec hc
  have hn : U.methodNamed? ⟨y.cls, y.name, y.desc⟩ = some mk := hnamed
  obtain ⟨_, _, m2, -, -, q3, -, kP, hkP, hki⟩ := Cond.selects_spec wn
  have hc3 := findClass_of_methodNamed q3
  rw [hc2, hc] at hc3
  have e3 := Option.some.inj hc3
  rw [← e3] at hkP
  cases hk.symm.trans hkP
  simp [Cond.before, Cond.holds, Cond.value, hc, hfound, hn, hk, hki]
theorem nfC {y y2 z2 : MethodName} {C : String} (w : (Cond.selects C y2 z2).before a0 Z = true) (hc2 : z2.cls = y.cls) {U : State} (hZ : Z.Warmed39 U.vm) : NotFace U y := fun r0 h0 => by
  obtain ⟨_, _, m2, -, -, q3, -, kP, hkP, hki⟩ := Cond.selects_spec (mv (s := U) (args := #[]) hZ w)
  have e1 := findClass_of_methodNamed q3
  have e2 := findClass_of_methodNamed h0
  rw [hc2, e2] at e1
  have e3 := Option.some.inj e1
  exact ⟨kP, by rw [e3]; exact hkP, hki⟩
theorem Ary.arv {Z : State} {h : Heap} {a : Addr} {ty : FieldType} {vs : List Value} (F : Ary Z h a ty vs) (d : Value) : ∃ k, Arv Z h a k ty vs.length.toInt32 vs d := by
  obtain ⟨cl, A, e, hl, hf⟩ := F
  have sz : cl.slots.size = vs.length := size_of_list e
  have hg : ∀ i, i < cl.slots.size → cl.slots[i]? = some (vs.getD i d) := fun i hi => by
    rw [at_of_list e, List.getElem?_eq_getElem (by omega), List.getD_eq_getElem?_getD, List.getElem?_eq_getElem (by omega)]; rfl
  refine ⟨cl.cls, cl, A, rfl, by rw [i32_nat hl]; exact sz, by rw [Int32.lt_iff_toInt_lt, len_toInt hl]; simp, hg, fun i hi => ?_⟩
  have q : i < vs.length := by omega
  rw [List.getD_eq_getElem?_getD, List.getElem?_eq_getElem q]
  exact hf _ (List.getElem_mem q)
theorem own_range (vs : List Value) (s n : Nat) (d : Value) (h : s + n ≤ vs.length) : (List.range n).map (fun i => vs.getD (s + i) d) = (vs.drop s).take n := by
  apply List.ext_getElem?
  intro i
  rw [List.getElem?_map, List.getElem?_take]
  by_cases q : i < n
  · rw [if_pos q, List.getElem?_range q, List.getElem?_drop, List.getElem?_eq_getElem (by omega)]
    show some (vs.getD (s + i) d) = _
    rw [List.getD_eq_getElem?_getD, List.getElem?_eq_getElem (by omega)]; rfl
  · rw [if_neg q, List.getElem?_eq_none (by simp; omega)]; rfl
theorem w_arrcopy (W : Wk p l e R s m args below meth c Z EL own ws nw T h cells slots) (hx : p.tables.exec = Jvm.exec) {index : Nat} (w1 : (Cond.methodLink own index Jvm.Stand.acN).before a0 Z = true) (w2 : (Cond.native Jvm.Stand.acN).before a0 Z = true) (w3 : (Cond.static Jvm.Stand.acN).before a0 Z = true) (w4 : (Cond.initialized "java/lang/System").before a0 Z = true)
    {a b : Nat} {vs vd : List Value} {sp dp nn : Int32} (A : Ary Z h a .byte vs) (Bb : Ary Z h b .byte vd) (hb : b ∈ ws ++ nw) (h1 : ¬ sp < 0) (h2 : ¬ dp < 0) (h3 : ¬ nn < 0) (h4 : sp.toNatClampNeg + nn.toNatClampNeg ≤ vs.length) (h5 : dp.toNatClampNeg + nn.toNatClampNeg ≤ vd.length) (hsz : Ls.size = c.maxLocals)
    (hd : decode c.code pc = .ok (.invokestatic index, 3)) (hf : 1 ≤ R.frames) (hlo : (st.map fun v => v.category).sum + (nativeFrameWords "java/lang/System" "arraycopy" 5 + 11) ≤ R.locals) (hp : pc + 3 = pc')
    (k : ∀ T' h', Wk p l e R s m args below meth c Z EL own ws nw T' h' cells slots → Keep h h' [b] → Ary Z h' b .byte (vd.take dp.toNatClampNeg ++ (vs.drop sp.toNatClampNeg).take nn.toNatClampNeg ++ vd.drop (dp.toNatClampNeg + nn.toNatClampNeg)) → Gets p.tables e below P T' (mkF m pc' Ls st)) : Gets p.tables e below P T (mkF m pc Ls (.int nn :: .int dp :: .ref b :: .int sp :: .ref a :: st)) := by
  subst hp
  obtain ⟨vm0, k0, locs, b0, X, eT, hS, hk, hZ, hown, hE, hC, hF, hO, hK, n1, n2⟩ := W
  have la := A.len
  have lb := Bb.len
  obtain ⟨ka, A'⟩ := A.arv (.int 0)
  obtain ⟨kb, B'⟩ := Bb.arv (.int 0)
  have key : Z.heap.size ≤ b ∧ Safe Z EL vm0 h b ∧ (b ∈ ws ∨ s.heap.size ≤ b) := by
    rcases List.mem_append.mp hb with q | q
    · exact ⟨(n1 b q).1, (n1 b q).2.2, Or.inl q⟩
    · exact ⟨(n2 b q).2.1, (n2 b q).2.2.2, Or.inr (n2 b q).1⟩
  obtain ⟨T', h', L, X', e', F', K1, V', stp⟩ := Jvm.RoadKit.cpA X hx hZ hown w1 w2 w3 w4 eT A' B' (Or.inl ⟨rfl, rfl⟩) h1 h2 h3 (by rw [i32_nat la]; exact h4) (by rw [i32_nat lb]; exact h5) rfl h5 hF key.1 (g := mkF m pc Ls (.int nn :: .int dp :: .ref b :: .int sp :: .ref a :: st)) rfl hsz rfl hd hf (W := (st.map fun v => v.category).sum) (by show 2 * 0 + _ ≤ _; omega) hlo
  have sz := K1.1
  have hs1 : ∀ x ∈ [b], Safe Z EL vm0 h x := fun x hx => by rw [List.mem_singleton.mp hx]; exact key.2.1
  rw [own_range vs _ _ _ h4] at V'
  refine (k T' h' ⟨vm0, k0, L, b0, X', e', hS, by omega, hZ, hown, hE, hC.trans (CHr.keep K1 hs1 hC.1), F', ⟨by have := hO.1; omega, fun x cc q => K1.2.1 x cc (hO.2 x cc q) fun z => ?_⟩, hK.trans K1 (fun x hx => ?_), fun x hx => ?_, fun x hx => ?_⟩ K1 (Ary.of_arv V' ?_)).by stp
  · cases List.mem_singleton.mp z
    have := (Array.getElem?_eq_some_iff.mp q).1
    have := key.1
    omega
  · rw [List.mem_singleton.mp hx]; exact key.2.2
  · obtain ⟨q1, q2, q3⟩ := n1 x hx
    exact ⟨q1, by omega, Safe.keep K1 hs1 hC.1 q3⟩
  · obtain ⟨q1, q2, q3, q4⟩ := n2 x hx
    exact ⟨q1, q2, by omega, Safe.keep K1 hs1 hC.1 q4⟩
  · rw [i32_nat lb]
    simp only [List.length_append, List.length_take, List.length_drop]
    omega
theorem w_private (W : Wk p l e R s m args below meth c Z EL own ws nw T h cells slots) (hx : p.tables.exec = Jvm.exec) {index : Nat} {y : MethodName} {C : String} {bytes : ByteArray} {maxL : Nat} {ret : Option FieldType} {rm : Room} {Q : Option Value → Heap → Prop} {wsc : List Addr} {a : Nat} (argsL : List Value)
    (w1 : (Cond.methodLink own index y).before a0 Z = true) (w2 : (Cond.privateMethod y).before a0 Z = true) (w3 : (Cond.selects C y y).before a0 Z = true) (w5 : (Cond.instanceMethod y).before a0 Z = true) (w6 : (Cond.initialized y.cls).before a0 Z = true) (w4 : (Cond.code y bytes maxL ret).before a0 Z = true) (hy : y.cls ≠ "java/lang/invoke/MethodHandle" ∧ y.cls ≠ "java/lang/invoke/VarHandle")
    (H : Con l Z EL y bytes maxL ret rm (.ref a :: argsL).toArray h wsc Q) (E : Exa Z h a C) (hwc : ∀ x ∈ wsc, x ∈ ws ++ nw) (hsz : Ls.size = c.maxLocals) (hlen : ∀ sig, parseMethodDescriptor y.desc = some sig → argsL.length = sig.parameters.length) {stk : List Value} (hstk : stk = argsL.reverse ++ .ref a :: st) (hd : decode c.code pc = .ok (.invokevirtual index, 3))
    (hf : rm.frames + 1 ≤ R.frames) (hl : (st.map fun v => v.category).sum + (maxL + 11) + rm.locals ≤ R.locals) (hc : cells + rm.cells ≤ R.cells) (hs : slots + rm.slots ≤ R.slots) (hp : pc + 3 = pc')
    (k : ∀ v T' h', Wk p l e R s m args below meth c Z EL own ws nw T' h' (cells + rm.cells) (slots + rm.slots) → Keep h h' wsc → Q v h' → Gets p.tables e below P T' (mkF m pc' Ls (v.toList ++ st))) : Gets p.tables e below P T (mkF m pc Ls stk) := by
  subst hp
  obtain ⟨vm0, k0, locs, b0, X, eT, r⟩ := W
  obtain ⟨hS, hk, hZ, hown, hE, hC, hF, hO, hK, n1, n2⟩ := id r
  have sf : ∀ x : Nat, x ∈ wsc → x < h.size ∧ Safe Z EL vm0 h x := fun x hx => by
    rcases List.mem_append.mp (hwc x hx) with q | q
    · exact (n1 x q).2
    · exact (n2 x q).2.2
  obtain ⟨cq, qa, qc⟩ := E.cell
  obtain ⟨v, vm1, ⟨T', L', c', s'⟩, -, X', hS2, hg2, ⟨L, ⟨q1, q2, q3, q4⟩, l1, l2, l3, C'⟩, stp⟩ := X.privateBackS hx (y := y) hown (mv (s := s.setVm vm0) hZ w1) (mv (s := s.setVm vm0) hZ w5) (own_selself (mv (s := s.setVm vm0) hZ w3) (mv (s := s.setVm vm0) hZ w2) (mv (s := s.setVm vm0) hZ w5) hy) (Cond.privateMethod_at (args := args) (mv (s := s.setVm vm0) hZ w2)) (mv (s := s.setVm vm0) hZ w4) hy (backC (W := (st.map fun v => v.category).sum) H hZ w4 w6 hf hl hE hC.1 sf) (g := mkF m pc Ls stk) rfl hsz (Steps.refl _) (a := a) (by rw [eT]; exact qa) qc (argsL := argsL) (rest := st) hlen hstk (by show 2 * 0 + _ ≤ _; omega) hd (fun _ _ => ⟨rfl, eT, hc, hs⟩)
  dsimp only [Pt.U, Pt.locs, Pt.cells, Pt.slots] at X' hS2 hg2 q1 q3 q4 l1 l2 l3 C' stp
  subst l1 l2 l3
  exact (k v T' _ (Wk.called (h' := T'.heap) hwc X' rfl hS2 (Nat.le_refl _) (by rw [← eT]; exact hg2) q2 q3 q4 C' r) q3 q1).by fun t q => stp.trans q
theorem w_privateF (W : Wk p l e R s m args below meth c Z EL own ws nw T h cells slots) (hx : p.tables.exec = Jvm.exec) {index : Nat} {y : MethodName} {C : String} {bytes : ByteArray} {maxL : Nat} {ret : Option FieldType} {rm : Room} {Q : List Addr → Option Value → Heap → Prop} {wsc : List Addr} {a : Nat} (argsL : List Value)
    (w1 : (Cond.methodLink own index y).before a0 Z = true) (w2 : (Cond.privateMethod y).before a0 Z = true) (w3 : (Cond.selects C y y).before a0 Z = true) (w5 : (Cond.instanceMethod y).before a0 Z = true) (w6 : (Cond.initialized y.cls).before a0 Z = true) (w4 : (Cond.code y bytes maxL ret).before a0 Z = true) (hy : y.cls ≠ "java/lang/invoke/MethodHandle" ∧ y.cls ≠ "java/lang/invoke/VarHandle")
    (H : ConF l Z EL y bytes maxL ret rm (.ref a :: argsL).toArray h wsc Q) (E : Exa Z h a C) (hwc : ∀ x ∈ wsc, x ∈ ws ++ nw) (hsz : Ls.size = c.maxLocals) (hlen : ∀ sig, parseMethodDescriptor y.desc = some sig → argsL.length = sig.parameters.length) {stk : List Value} (hstk : stk = argsL.reverse ++ .ref a :: st) (hd : decode c.code pc = .ok (.invokevirtual index, 3))
    (hf : rm.frames + 1 ≤ R.frames) (hl : (st.map fun v => v.category).sum + (maxL + 11) + rm.locals ≤ R.locals) (hc : cells + rm.cells ≤ R.cells) (hs : slots + rm.slots ≤ R.slots) (hp : pc + 3 = pc')
    (k : ∀ N v T' h', Wk p l e R s m args below meth c Z EL own ws (N ++ nw) T' h' (cells + rm.cells) (slots + rm.slots) → Keep h h' wsc → (∀ x : Nat, x ∈ N → h.size ≤ x ∧ x < h'.size) → Q N v h' → Gets p.tables e below P T' (mkF m pc' Ls (v.toList ++ st))) : Gets p.tables e below P T (mkF m pc Ls stk) := by
  subst hp
  obtain ⟨vm0, k0, locs, b0, X, eT, r⟩ := W
  obtain ⟨hS, hk, hZ, hown, hE, hC, hF, hO, hK, n1, n2⟩ := id r
  have sf : ∀ x : Nat, x ∈ wsc → x < h.size ∧ Safe Z EL vm0 h x := fun x hx => by
    rcases List.mem_append.mp (hwc x hx) with q | q
    · exact (n1 x q).2
    · exact (n2 x q).2.2
  obtain ⟨cq, qa, qc⟩ := E.cell
  obtain ⟨v, vm1, ⟨T', L', c', s'⟩, -, X', hS2, hg2, ⟨L, N, ⟨q1, q2, q3, q4, q5⟩, l1, l2, l3, C'⟩, stp⟩ := X.privateBackS hx (y := y) hown (mv (s := s.setVm vm0) hZ w1) (mv (s := s.setVm vm0) hZ w5) (own_selself (mv (s := s.setVm vm0) hZ w3) (mv (s := s.setVm vm0) hZ w2) (mv (s := s.setVm vm0) hZ w5) hy) (Cond.privateMethod_at (args := args) (mv (s := s.setVm vm0) hZ w2)) (mv (s := s.setVm vm0) hZ w4) hy (backCF (W := (st.map fun v => v.category).sum) H hZ w4 w6 hf hl hE hC.1 sf) (g := mkF m pc Ls stk) rfl hsz (Steps.refl _) (a := a) (by rw [eT]; exact qa) qc (argsL := argsL) (rest := st) hlen hstk (by show 2 * 0 + _ ≤ _; omega) hd (fun _ _ => ⟨rfl, eT, hc, hs⟩)
  dsimp only [Pt.U, Pt.locs, Pt.cells, Pt.slots] at X' hS2 hg2 q1 q3 q4 q5 l1 l2 l3 C' stp
  subst l1 l2 l3
  exact (k N v T' _ (Wk.calledF (h' := T'.heap) hwc X' rfl hS2 (Nat.le_refl _) (by rw [← eT]; exact hg2) q2 q3 q4 q5 C' r) q3 (fun x hx => ⟨(q5 x hx).1, (q5 x hx).2.1⟩) q1).by fun t q => stp.trans q
theorem w_privatep (W : Wk p l e R s m args below meth c Z EL own ws nw T h cells slots) (hx : p.tables.exec = Jvm.exec) {index : Nat} {y : MethodName} {C : String} {bytes : ByteArray} {maxL : Nat} {ret : Option FieldType} {rm : Room} {r : Option Value} {a : Nat} (argsL : List Value)
    (w1 : (Cond.methodLink own index y).before a0 Z = true) (w2 : (Cond.privateMethod y).before a0 Z = true) (w3 : (Cond.selects C y y).before a0 Z = true) (w5 : (Cond.instanceMethod y).before a0 Z = true) (w6 : (Cond.initialized y.cls).before a0 Z = true) (w4 : (Cond.code y bytes maxL ret).before a0 Z = true) (hy : y.cls ≠ "java/lang/invoke/MethodHandle" ∧ y.cls ≠ "java/lang/invoke/VarHandle")
    (H : Con l Z EL y bytes maxL ret rm (.ref a :: argsL).toArray h [] (pureQ r h)) (E : Exa Z h a C) (hsz : Ls.size = c.maxLocals) (hlen : ∀ sig, parseMethodDescriptor y.desc = some sig → argsL.length = sig.parameters.length) {stk : List Value} (hstk : stk = argsL.reverse ++ .ref a :: st) (hd : decode c.code pc = .ok (.invokevirtual index, 3))
    (hf : rm.frames + 1 ≤ R.frames) (hl : (st.map fun v => v.category).sum + (maxL + 11) + rm.locals ≤ R.locals) (hc : rm.cells = 0) (hs : rm.slots = 0) (hc' : cells ≤ R.cells) (hs' : slots ≤ R.slots) (hp : pc + 3 = pc')
    (k : ∀ T', Wk p l e R s m args below meth c Z EL own ws nw T' h cells slots → Gets p.tables e below P T' (mkF m pc' Ls (r.toList ++ st))) : Gets p.tables e below P T (mkF m pc Ls stk) :=
  w_private W hx argsL w1 w2 w3 w5 w6 w4 hy H E all0 hsz hlen hstk hd hf hl (by rw [hc]; exact hc') (by rw [hs]; exact hs') hp fun v T' h' W' K q => by
    obtain ⟨e1, e2⟩ := q
    subst e1; rw [e2] at W'; rw [hc, hs] at W'; exact k T' W'
theorem w_super (W : Wk p l e R s m args below meth c Z EL own ws nw T h cells slots) (hx : p.tables.exec = Jvm.exec) {index : Nat} {y : MethodName} {bytes : ByteArray} {maxL : Nat} {ret : Option FieldType} {K : String} {rm : Room} {Q : Option Value → Heap → Prop} {wsc : List Addr} {a : Nat} (argsL : List Value) (hy1 : y.name ≠ "<init>")
    (w1 : (Cond.methodLink own index y).before a0 Z = true) (w2 : (Cond.instanceMethod y).before a0 Z = true) (w7 : (Cond.sameMethod y.cls y.cls y.name y.desc).before a0 Z = true) (w8 : (Cond.superclass own y.cls).before a0 Z = true) (w3 : (Cond.initialized y.cls).before a0 Z = true) (w4 : (Cond.code y bytes maxL ret).before a0 Z = true) (hy : y.cls ≠ "java/lang/invoke/MethodHandle" ∧ y.cls ≠ "java/lang/invoke/VarHandle")
    (H : Con l Z EL y bytes maxL ret rm (.ref a :: argsL).toArray h wsc Q) (I : Ins Z h a K true) (hwc : ∀ x ∈ wsc, x ∈ ws ++ nw) (hsz : Ls.size = c.maxLocals) (hlen : ∀ sig, parseMethodDescriptor y.desc = some sig → argsL.length = sig.parameters.length) {stk : List Value} (hstk : stk = argsL.reverse ++ .ref a :: st) (hd : decode c.code pc = .ok (.invokespecial index, 3))
    (hf : rm.frames + 1 ≤ R.frames) (hl : (st.map fun v => v.category).sum + (maxL + 11) + rm.locals ≤ R.locals) (hc : cells + rm.cells ≤ R.cells) (hs : slots + rm.slots ≤ R.slots) (hp : pc + 3 = pc')
    (k : ∀ v T' h', Wk p l e R s m args below meth c Z EL own ws nw T' h' (cells + rm.cells) (slots + rm.slots) → Keep h h' wsc → Q v h' → Gets p.tables e below P T' (mkF m pc' Ls (v.toList ++ st))) : Gets p.tables e below P T (mkF m pc Ls stk) := by
  subst hp
  obtain ⟨vm0, k0, locs, b0, X, eT, r⟩ := W
  obtain ⟨hS, hk, hZ, hown, hE, hC, hF, hO, hK, n1, n2⟩ := id r
  have sf : ∀ x : Nat, x ∈ wsc → x < h.size ∧ Safe Z EL vm0 h x := fun x hx => by
    rcases List.mem_append.mp (hwc x hx) with q | q
    · exact (n1 x q).2
    · exact (n2 x q).2.2
  obtain ⟨v, vm1, ⟨T', L', c', s'⟩, -, X', hS2, hg2, ⟨L, ⟨q1, q2, q3, q4⟩, l1, l2, l3, C'⟩, stp⟩ := Jvm.RoadKit.superBackS (s := s.setVm vm0) X hx hZ (y := y) hown w1 w7 w2 w8 hy1 (backC (W := (st.map fun v => v.category).sum) H hZ w4 w3 hf hl hE hC.1 sf) eT I (g := mkF m pc Ls stk) rfl hsz w4 (argsL := argsL) (rest := st) hlen hstk (by show 2 * 0 + _ ≤ _; omega) hd (fun _ _ => ⟨rfl, eT, hc, hs⟩)
  dsimp only [Pt.U, Pt.locs, Pt.cells, Pt.slots] at X' hS2 hg2 q1 q3 q4 l1 l2 l3 C' stp
  subst l1 l2 l3
  exact (k v T' _ (Wk.called (h' := T'.heap) hwc X' rfl hS2 (Nat.le_refl _) (by rw [← eT]; exact hg2) q2 q3 q4 C' r) q3 q1).by fun t q => stp.trans q
theorem w_superF (W : Wk p l e R s m args below meth c Z EL own ws nw T h cells slots) (hx : p.tables.exec = Jvm.exec) {index : Nat} {y : MethodName} {bytes : ByteArray} {maxL : Nat} {ret : Option FieldType} {K : String} {rm : Room} {Q : List Addr → Option Value → Heap → Prop} {wsc : List Addr} {a : Nat} (argsL : List Value) (hy1 : y.name ≠ "<init>")
    (w1 : (Cond.methodLink own index y).before a0 Z = true) (w2 : (Cond.instanceMethod y).before a0 Z = true) (w7 : (Cond.sameMethod y.cls y.cls y.name y.desc).before a0 Z = true) (w8 : (Cond.superclass own y.cls).before a0 Z = true) (w3 : (Cond.initialized y.cls).before a0 Z = true) (w4 : (Cond.code y bytes maxL ret).before a0 Z = true) (hy : y.cls ≠ "java/lang/invoke/MethodHandle" ∧ y.cls ≠ "java/lang/invoke/VarHandle")
    (H : ConF l Z EL y bytes maxL ret rm (.ref a :: argsL).toArray h wsc Q) (I : Ins Z h a K true) (hwc : ∀ x ∈ wsc, x ∈ ws ++ nw) (hsz : Ls.size = c.maxLocals) (hlen : ∀ sig, parseMethodDescriptor y.desc = some sig → argsL.length = sig.parameters.length) {stk : List Value} (hstk : stk = argsL.reverse ++ .ref a :: st) (hd : decode c.code pc = .ok (.invokespecial index, 3))
    (hf : rm.frames + 1 ≤ R.frames) (hl : (st.map fun v => v.category).sum + (maxL + 11) + rm.locals ≤ R.locals) (hc : cells + rm.cells ≤ R.cells) (hs : slots + rm.slots ≤ R.slots) (hp : pc + 3 = pc')
    (k : ∀ N v T' h', Wk p l e R s m args below meth c Z EL own ws (N ++ nw) T' h' (cells + rm.cells) (slots + rm.slots) → Keep h h' wsc → (∀ x : Nat, x ∈ N → h.size ≤ x ∧ x < h'.size) → Q N v h' → Gets p.tables e below P T' (mkF m pc' Ls (v.toList ++ st))) : Gets p.tables e below P T (mkF m pc Ls stk) := by
  subst hp
  obtain ⟨vm0, k0, locs, b0, X, eT, r⟩ := W
  obtain ⟨hS, hk, hZ, hown, hE, hC, hF, hO, hK, n1, n2⟩ := id r
  have sf : ∀ x : Nat, x ∈ wsc → x < h.size ∧ Safe Z EL vm0 h x := fun x hx => by
    rcases List.mem_append.mp (hwc x hx) with q | q
    · exact (n1 x q).2
    · exact (n2 x q).2.2
  obtain ⟨v, vm1, ⟨T', L', c', s'⟩, -, X', hS2, hg2, ⟨L, N, ⟨q1, q2, q3, q4, q5⟩, l1, l2, l3, C'⟩, stp⟩ := Jvm.RoadKit.superBackS (s := s.setVm vm0) X hx hZ (y := y) hown w1 w7 w2 w8 hy1 (backCF (W := (st.map fun v => v.category).sum) H hZ w4 w3 hf hl hE hC.1 sf) eT I (g := mkF m pc Ls stk) rfl hsz w4 (argsL := argsL) (rest := st) hlen hstk (by show 2 * 0 + _ ≤ _; omega) hd (fun _ _ => ⟨rfl, eT, hc, hs⟩)
  dsimp only [Pt.U, Pt.locs, Pt.cells, Pt.slots] at X' hS2 hg2 q1 q3 q4 q5 l1 l2 l3 C' stp
  subst l1 l2 l3
  exact (k N v T' _ (Wk.calledF (h' := T'.heap) hwc X' rfl hS2 (Nat.le_refl _) (by rw [← eT]; exact hg2) q2 q3 q4 q5 C' r) q3 (fun x hx => ⟨(q5 x hx).1, (q5 x hx).2.1⟩) q1).by fun t q => stp.trans q
end OwnMore
theorem w_0 : tables_1[0]? = some (Jvm.Cond.methodLink "com/example/transaction_locking/transactionlocking/handle/HeldLocksCheckRequestPinLaw" (8 : Nat) ({ cls := "com/example/transaction_locking/transactionlocking/handle/HeldLocksCheckRequestPinLaw", name := "drawn", desc := "(I)C" } : Jvm.MethodName)) := rfl
theorem w_1 : tables_1[1]? = some (Jvm.Cond.static ({ cls := "com/example/transaction_locking/transactionlocking/handle/HeldLocksCheckRequestPinLaw", name := "drawn", desc := "(I)C" } : Jvm.MethodName)) := rfl
theorem w_2 : tables_1[2]? = some (Jvm.Cond.initialized "com/example/transaction_locking/transactionlocking/handle/HeldLocksCheckRequestPinLaw") := rfl
theorem w_3 : tables_1[3]? = some (Jvm.Cond.code ({ cls := "com/example/transaction_locking/transactionlocking/handle/HeldLocksCheckRequestPinLaw", name := "drawn", desc := "(I)C" } : Jvm.MethodName) method_2_code (1 : Nat) (Option.some Jvm.ClassFile.FieldType.char)) := rfl
theorem w_4 : tables_1[4]? = some (Jvm.Cond.constant "com/example/transaction_locking/transactionlocking/handle/HeldLocksCheckRequestPinLaw" (7 : Nat) (2147483647 : Int32)) := rfl
theorem w_5 : tables_1[5]? = some (Jvm.Cond.arrayClass Jvm.ClassFile.FieldType.char) := rfl
theorem w_6 : tables_1[6]? = some (Jvm.Cond.classLink "com/example/transaction_locking/transactionlocking/handle/HeldLocksCheckRequestPinLaw" (14 : Nat) "java/lang/String") := rfl
theorem w_7 : tables_1[7]? = some (Jvm.Cond.instantiable "java/lang/String" (4 : Nat)) := rfl
theorem w_8 : tables_1[8]? = some (Jvm.Cond.initialized "java/lang/String") := rfl
theorem w_9 : tables_1[9]? = some (Jvm.Cond.methodLink "com/example/transaction_locking/transactionlocking/handle/HeldLocksCheckRequestPinLaw" (16 : Nat) ({ cls := "java/lang/String", name := "<init>", desc := "([C)V" } : Jvm.MethodName)) := rfl
theorem w_10 : tables_1[10]? = some (Jvm.Cond.instanceMethod ({ cls := "java/lang/String", name := "<init>", desc := "([C)V" } : Jvm.MethodName)) := rfl
theorem w_11 : tables_1[11]? = some (Jvm.Cond.code ({ cls := "java/lang/String", name := "<init>", desc := "([C)V" } : Jvm.MethodName) jdk_42_method_3_code (2 : Nat) (Option.none : Option Jvm.ClassFile.FieldType)) := rfl
theorem w_12 : tables_1[12]? = some (Jvm.Cond.methodLink "java/lang/String" (27 : Nat) ({ cls := "java/lang/String", name := "<init>", desc := "([CIILjava/lang/Void;)V" } : Jvm.MethodName)) := rfl
theorem w_13 : tables_1[13]? = some (Jvm.Cond.instanceMethod ({ cls := "java/lang/String", name := "<init>", desc := "([CIILjava/lang/Void;)V" } : Jvm.MethodName)) := rfl
theorem w_15 : tables_1[15]? = some (Jvm.Cond.code ({ cls := "java/lang/String", name := "<init>", desc := "([CIILjava/lang/Void;)V" } : Jvm.MethodName) jdk_42_method_149_code (6 : Nat) (Option.none : Option Jvm.ClassFile.FieldType)) := rfl
theorem w_16 : tables_1[16]? = some (Jvm.Cond.methodLink "java/lang/String" (1 : Nat) ({ cls := "java/lang/Object", name := "<init>", desc := "()V" } : Jvm.MethodName)) := rfl
theorem w_17 : tables_1[17]? = some (Jvm.Cond.instanceMethod ({ cls := "java/lang/Object", name := "<init>", desc := "()V" } : Jvm.MethodName)) := rfl
theorem w_18 : tables_1[18]? = some (Jvm.Cond.code ({ cls := "java/lang/Object", name := "<init>", desc := "()V" } : Jvm.MethodName) object_method_1_code (1 : Nat) (Option.none : Option Jvm.ClassFile.FieldType)) := rfl
theorem w_19 : tables_1[19]? = some (Jvm.Cond.fieldLink "java/lang/String" (38 : Nat) "java/lang/String" "COMPACT_STRINGS" "Z") := rfl
theorem w_20 : tables_1[20]? = some (Jvm.Cond.methodLink "java/lang/String" (177 : Nat) ({ cls := "java/lang/StringUTF16", name := "compress", desc := "([CII)[B" } : Jvm.MethodName)) := rfl
theorem w_21 : tables_1[21]? = some (Jvm.Cond.static ({ cls := "java/lang/StringUTF16", name := "compress", desc := "([CII)[B" } : Jvm.MethodName)) := rfl
theorem w_22 : tables_1[22]? = some (Jvm.Cond.initialized "java/lang/StringUTF16") := rfl
theorem w_23 : tables_1[23]? = some (Jvm.Cond.code ({ cls := "java/lang/StringUTF16", name := "compress", desc := "([CII)[B" } : Jvm.MethodName) jdk_52_method_16_code (6 : Nat) (Option.some (Jvm.ClassFile.FieldType.array Jvm.ClassFile.FieldType.byte))) := rfl
theorem w_24 : tables_1[24]? = some (Jvm.Cond.arrayClass Jvm.ClassFile.FieldType.byte) := rfl
theorem w_25 : tables_1[25]? = some (Jvm.Cond.methodLink "java/lang/StringUTF16" (115 : Nat) ({ cls := "java/lang/StringUTF16", name := "compress", desc := "([CI[BII)I" } : Jvm.MethodName)) := rfl
theorem w_26 : tables_1[26]? = some (Jvm.Cond.static ({ cls := "java/lang/StringUTF16", name := "compress", desc := "([CI[BII)I" } : Jvm.MethodName)) := rfl
theorem w_27 : tables_1[27]? = some (Jvm.Cond.code ({ cls := "java/lang/StringUTF16", name := "compress", desc := "([CI[BII)I" } : Jvm.MethodName) jdk_52_method_21_code (7 : Nat) (Option.some Jvm.ClassFile.FieldType.int)) := rfl
theorem w_28 : tables_1[28]? = some (Jvm.Cond.methodLink "java/lang/String" (47 : Nat) ({ cls := "java/lang/StringUTF16", name := "coderFromArrayLen", desc := "([BI)B" } : Jvm.MethodName)) := rfl
theorem w_29 : tables_1[29]? = some (Jvm.Cond.static ({ cls := "java/lang/StringUTF16", name := "coderFromArrayLen", desc := "([BI)B" } : Jvm.MethodName)) := rfl
theorem w_30 : tables_1[30]? = some (Jvm.Cond.code ({ cls := "java/lang/StringUTF16", name := "coderFromArrayLen", desc := "([BI)B" } : Jvm.MethodName) jdk_52_method_15_code (2 : Nat) (Option.some Jvm.ClassFile.FieldType.byte)) := rfl
theorem w_31 : tables_1[31]? = some (Jvm.Cond.fieldLink "java/lang/String" (15 : Nat) "java/lang/String" "coder" "B") := rfl
theorem w_32 : tables_1[32]? = some (Jvm.Cond.laysFinal "java/lang/String" "java/lang/String" "coder" "B") := rfl
theorem w_33 : tables_1[33]? = some (Jvm.Cond.fieldLink "java/lang/String" (9 : Nat) "java/lang/String" "value" "[B") := rfl
theorem w_34 : tables_1[34]? = some (Jvm.Cond.laysFinal "java/lang/String" "java/lang/String" "value" "[B") := rfl
theorem w_35 : tables_1[35]? = some (Jvm.Cond.classLink "com/example/transaction_locking/transactionlocking/handle/HeldLocksCheckRequestPinLaw" (19 : Nat) "com/example/transaction_locking/transactionlocking/value/LockName") := rfl
theorem w_36 : tables_1[36]? = some (Jvm.Cond.instantiable "com/example/transaction_locking/transactionlocking/value/LockName" (1 : Nat)) := rfl
theorem w_37 : tables_1[37]? = some (Jvm.Cond.initialized "com/example/transaction_locking/transactionlocking/value/LockName") := rfl
theorem w_38 : tables_1[38]? = some (Jvm.Cond.methodLink "com/example/transaction_locking/transactionlocking/handle/HeldLocksCheckRequestPinLaw" (21 : Nat) ({ cls := "com/example/transaction_locking/transactionlocking/value/LockName", name := "<init>", desc := "(Ljava/lang/String;)V" } : Jvm.MethodName)) := rfl
theorem w_39 : tables_1[39]? = some (Jvm.Cond.instanceMethod ({ cls := "com/example/transaction_locking/transactionlocking/value/LockName", name := "<init>", desc := "(Ljava/lang/String;)V" } : Jvm.MethodName)) := rfl
theorem w_40 : tables_1[40]? = some (Jvm.Cond.code ({ cls := "com/example/transaction_locking/transactionlocking/value/LockName", name := "<init>", desc := "(Ljava/lang/String;)V" } : Jvm.MethodName) prog_34_method_1_code (2 : Nat) (Option.none : Option Jvm.ClassFile.FieldType)) := rfl
theorem w_41 : tables_1[41]? = some (Jvm.Cond.methodLink "com/example/transaction_locking/transactionlocking/value/LockName" (3 : Nat) ({ cls := "java/lang/Record", name := "<init>", desc := "()V" } : Jvm.MethodName)) := rfl
theorem w_42 : tables_1[42]? = some (Jvm.Cond.instanceMethod ({ cls := "java/lang/Record", name := "<init>", desc := "()V" } : Jvm.MethodName)) := rfl
theorem w_44 : tables_1[44]? = some (Jvm.Cond.initialized "java/lang/Record") := rfl
theorem w_45 : tables_1[45]? = some (Jvm.Cond.code ({ cls := "java/lang/Record", name := "<init>", desc := "()V" } : Jvm.MethodName) jdk_30_method_1_code (1 : Nat) (Option.none : Option Jvm.ClassFile.FieldType)) := rfl
theorem w_46 : tables_1[46]? = some (Jvm.Cond.methodLink "java/lang/Record" (1 : Nat) ({ cls := "java/lang/Object", name := "<init>", desc := "()V" } : Jvm.MethodName)) := rfl
theorem w_47 : tables_1[47]? = some (Jvm.Cond.stringLink "com/example/transaction_locking/transactionlocking/value/LockName" (9 : Nat) "lock name") := rfl
theorem w_48 : tables_1[48]? = some (Jvm.Cond.soleField "java/lang/String" "value") := rfl
theorem w_49 : tables_1[49]? = some (Jvm.Cond.soleField "java/lang/String" "coder") := rfl
theorem w_50 : tables_1[50]? = some (Jvm.Cond.methodLink "com/example/transaction_locking/transactionlocking/value/LockName" (11 : Nat) ({ cls := "com/example/transaction_locking/transactionlocking/value/ExactString", name := "check", desc := "(Ljava/lang/String;Ljava/lang/String;)V" } : Jvm.MethodName)) := rfl
theorem w_51 : tables_1[51]? = some (Jvm.Cond.static ({ cls := "com/example/transaction_locking/transactionlocking/value/ExactString", name := "check", desc := "(Ljava/lang/String;Ljava/lang/String;)V" } : Jvm.MethodName)) := rfl
theorem w_52 : tables_1[52]? = some (Jvm.Cond.initialized "com/example/transaction_locking/transactionlocking/value/ExactString") := rfl
theorem w_53 : tables_1[53]? = some (Jvm.Cond.code ({ cls := "com/example/transaction_locking/transactionlocking/value/ExactString", name := "check", desc := "(Ljava/lang/String;Ljava/lang/String;)V" } : Jvm.MethodName) prog_30_method_2_code (6 : Nat) (Option.none : Option Jvm.ClassFile.FieldType)) := rfl
theorem w_54 : tables_1[54]? = some (Jvm.Cond.classLink "com/example/transaction_locking/transactionlocking/value/ExactString" (7 : Nat) "java/lang/StringBuilder") := rfl
theorem w_55 : tables_1[55]? = some (Jvm.Cond.instantiable "java/lang/StringBuilder" (4 : Nat)) := rfl
theorem w_56 : tables_1[56]? = some (Jvm.Cond.initialized "java/lang/StringBuilder") := rfl
theorem w_57 : tables_1[57]? = some (Jvm.Cond.methodLink "com/example/transaction_locking/transactionlocking/value/ExactString" (9 : Nat) ({ cls := "java/lang/StringBuilder", name := "<init>", desc := "()V" } : Jvm.MethodName)) := rfl
theorem w_58 : tables_1[58]? = some (Jvm.Cond.instanceMethod ({ cls := "java/lang/StringBuilder", name := "<init>", desc := "()V" } : Jvm.MethodName)) := rfl
theorem w_59 : tables_1[59]? = some (Jvm.Cond.code ({ cls := "java/lang/StringBuilder", name := "<init>", desc := "()V" } : Jvm.MethodName) jdk_67_method_1_code (1 : Nat) (Option.none : Option Jvm.ClassFile.FieldType)) := rfl
theorem w_60 : tables_1[60]? = some (Jvm.Cond.methodLink "java/lang/StringBuilder" (1 : Nat) ({ cls := "java/lang/AbstractStringBuilder", name := "<init>", desc := "(I)V" } : Jvm.MethodName)) := rfl
theorem w_61 : tables_1[61]? = some (Jvm.Cond.instanceMethod ({ cls := "java/lang/AbstractStringBuilder", name := "<init>", desc := "(I)V" } : Jvm.MethodName)) := rfl
theorem w_64 : tables_1[64]? = some (Jvm.Cond.initialized "java/lang/AbstractStringBuilder") := rfl
theorem w_65 : tables_1[65]? = some (Jvm.Cond.code ({ cls := "java/lang/AbstractStringBuilder", name := "<init>", desc := "(I)V" } : Jvm.MethodName) jdk_68_method_2_code (2 : Nat) (Option.none : Option Jvm.ClassFile.FieldType)) := rfl
theorem w_66 : tables_1[66]? = some (Jvm.Cond.methodLink "java/lang/AbstractStringBuilder" (3 : Nat) ({ cls := "java/lang/Object", name := "<init>", desc := "()V" } : Jvm.MethodName)) := rfl
theorem w_67 : tables_1[67]? = some (Jvm.Cond.fieldLink "java/lang/AbstractStringBuilder" (18 : Nat) "java/lang/String" "COMPACT_STRINGS" "Z") := rfl
theorem w_68 : tables_1[68]? = some (Jvm.Cond.fieldLink "java/lang/AbstractStringBuilder" (15 : Nat) "java/lang/AbstractStringBuilder" "value" "[B") := rfl
theorem w_69 : tables_1[69]? = some (Jvm.Cond.lays "java/lang/StringBuilder" "java/lang/AbstractStringBuilder" "value" "[B") := rfl
theorem w_70 : tables_1[70]? = some (Jvm.Cond.fieldLink "java/lang/AbstractStringBuilder" (22 : Nat) "java/lang/AbstractStringBuilder" "coder" "B") := rfl
theorem w_71 : tables_1[71]? = some (Jvm.Cond.lays "java/lang/StringBuilder" "java/lang/AbstractStringBuilder" "coder" "B") := rfl
theorem w_72 : tables_1[72]? = some (Jvm.Cond.stringLink "com/example/transaction_locking/transactionlocking/value/ExactString" (10 : Nat) "a ") := rfl
theorem w_73 : tables_1[73]? = some (Jvm.Cond.methodLink "com/example/transaction_locking/transactionlocking/value/ExactString" (12 : Nat) ({ cls := "java/lang/StringBuilder", name := "append", desc := "(Ljava/lang/String;)Ljava/lang/StringBuilder;" } : Jvm.MethodName)) := rfl
theorem w_74 : tables_1[74]? = some (Jvm.Cond.declares ({ cls := "java/lang/StringBuilder", name := "append", desc := "(Ljava/lang/String;)Ljava/lang/StringBuilder;" } : Jvm.MethodName)) := rfl
theorem w_75 : tables_1[75]? = some (Jvm.Cond.instanceMethod ({ cls := "java/lang/StringBuilder", name := "append", desc := "(Ljava/lang/String;)Ljava/lang/StringBuilder;" } : Jvm.MethodName)) := rfl
theorem w_76 : tables_1[76]? = some (Jvm.Cond.selects "java/lang/StringBuilder" ({ cls := "java/lang/StringBuilder", name := "append", desc := "(Ljava/lang/String;)Ljava/lang/StringBuilder;" } : Jvm.MethodName) ({ cls := "java/lang/StringBuilder", name := "append", desc := "(Ljava/lang/String;)Ljava/lang/StringBuilder;" } : Jvm.MethodName)) := rfl
theorem w_77 : tables_1[77]? = some (Jvm.Cond.code ({ cls := "java/lang/StringBuilder", name := "append", desc := "(Ljava/lang/String;)Ljava/lang/StringBuilder;" } : Jvm.MethodName) jdk_67_method_7_code (2 : Nat) (Option.some (Jvm.ClassFile.FieldType.object "java/lang/StringBuilder"))) := rfl
theorem w_78 : tables_1[78]? = some (Jvm.Cond.methodLink "java/lang/StringBuilder" (29 : Nat) ({ cls := "java/lang/AbstractStringBuilder", name := "append", desc := "(Ljava/lang/String;)Ljava/lang/AbstractStringBuilder;" } : Jvm.MethodName)) := rfl
theorem w_79 : tables_1[79]? = some (Jvm.Cond.instanceMethod ({ cls := "java/lang/AbstractStringBuilder", name := "append", desc := "(Ljava/lang/String;)Ljava/lang/AbstractStringBuilder;" } : Jvm.MethodName)) := rfl
theorem w_80 : tables_1[80]? = some (Jvm.Cond.superclass "java/lang/StringBuilder" "java/lang/AbstractStringBuilder") := rfl
theorem w_82 : tables_1[82]? = some (Jvm.Cond.code ({ cls := "java/lang/AbstractStringBuilder", name := "append", desc := "(Ljava/lang/String;)Ljava/lang/AbstractStringBuilder;" } : Jvm.MethodName) jdk_68_method_22_code (3 : Nat) (Option.some (Jvm.ClassFile.FieldType.object "java/lang/AbstractStringBuilder"))) := rfl
theorem w_83 : tables_1[83]? = some (Jvm.Cond.methodLink "java/lang/AbstractStringBuilder" (32 : Nat) ({ cls := "java/lang/String", name := "length", desc := "()I" } : Jvm.MethodName)) := rfl
theorem w_84 : tables_1[84]? = some (Jvm.Cond.declares ({ cls := "java/lang/String", name := "length", desc := "()I" } : Jvm.MethodName)) := rfl
theorem w_85 : tables_1[85]? = some (Jvm.Cond.instanceMethod ({ cls := "java/lang/String", name := "length", desc := "()I" } : Jvm.MethodName)) := rfl
theorem w_86 : tables_1[86]? = some (Jvm.Cond.selects "java/lang/String" ({ cls := "java/lang/String", name := "length", desc := "()I" } : Jvm.MethodName) ({ cls := "java/lang/String", name := "length", desc := "()I" } : Jvm.MethodName)) := rfl
theorem w_87 : tables_1[87]? = some (Jvm.Cond.code ({ cls := "java/lang/String", name := "length", desc := "()I" } : Jvm.MethodName) jdk_42_method_54_code (1 : Nat) (Option.some Jvm.ClassFile.FieldType.int)) := rfl
theorem w_88 : tables_1[88]? = some (Jvm.Cond.methodLink "java/lang/String" (335 : Nat) ({ cls := "java/lang/String", name := "coder", desc := "()B" } : Jvm.MethodName)) := rfl
theorem w_89 : tables_1[89]? = some (Jvm.Cond.declares ({ cls := "java/lang/String", name := "coder", desc := "()B" } : Jvm.MethodName)) := rfl
theorem w_90 : tables_1[90]? = some (Jvm.Cond.instanceMethod ({ cls := "java/lang/String", name := "coder", desc := "()B" } : Jvm.MethodName)) := rfl
theorem w_91 : tables_1[91]? = some (Jvm.Cond.selects "java/lang/String" ({ cls := "java/lang/String", name := "coder", desc := "()B" } : Jvm.MethodName) ({ cls := "java/lang/String", name := "coder", desc := "()B" } : Jvm.MethodName)) := rfl
theorem w_92 : tables_1[92]? = some (Jvm.Cond.code ({ cls := "java/lang/String", name := "coder", desc := "()B" } : Jvm.MethodName) jdk_42_method_152_code (1 : Nat) (Option.some Jvm.ClassFile.FieldType.byte)) := rfl
theorem w_93 : tables_1[93]? = some (Jvm.Cond.fieldLink "java/lang/AbstractStringBuilder" (79 : Nat) "java/lang/AbstractStringBuilder" "count" "I") := rfl
theorem w_94 : tables_1[94]? = some (Jvm.Cond.lays "java/lang/StringBuilder" "java/lang/AbstractStringBuilder" "count" "I") := rfl
theorem w_95 : tables_1[95]? = some (Jvm.Cond.methodLink "java/lang/AbstractStringBuilder" (100 : Nat) ({ cls := "java/lang/AbstractStringBuilder", name := "ensureCapacityInternal", desc := "(I)V" } : Jvm.MethodName)) := rfl
theorem w_96 : tables_1[96]? = some (Jvm.Cond.instanceMethod ({ cls := "java/lang/AbstractStringBuilder", name := "ensureCapacityInternal", desc := "(I)V" } : Jvm.MethodName)) := rfl
theorem w_97 : tables_1[97]? = some (Jvm.Cond.privateMethod ({ cls := "java/lang/AbstractStringBuilder", name := "ensureCapacityInternal", desc := "(I)V" } : Jvm.MethodName)) := rfl
theorem w_98 : tables_1[98]? = some (Jvm.Cond.selects "java/lang/StringBuilder" ({ cls := "java/lang/AbstractStringBuilder", name := "ensureCapacityInternal", desc := "(I)V" } : Jvm.MethodName) ({ cls := "java/lang/AbstractStringBuilder", name := "ensureCapacityInternal", desc := "(I)V" } : Jvm.MethodName)) := rfl
theorem w_99 : tables_1[99]? = some (Jvm.Cond.code ({ cls := "java/lang/AbstractStringBuilder", name := "ensureCapacityInternal", desc := "(I)V" } : Jvm.MethodName) jdk_68_method_9_code (3 : Nat) (Option.none : Option Jvm.ClassFile.FieldType)) := rfl
theorem w_100 : tables_1[100]? = some (Jvm.Cond.methodLink "java/lang/AbstractStringBuilder" (208 : Nat) ({ cls := "java/lang/AbstractStringBuilder", name := "putStringAt", desc := "(ILjava/lang/String;)V" } : Jvm.MethodName)) := rfl
theorem w_101 : tables_1[101]? = some (Jvm.Cond.instanceMethod ({ cls := "java/lang/AbstractStringBuilder", name := "putStringAt", desc := "(ILjava/lang/String;)V" } : Jvm.MethodName)) := rfl
theorem w_102 : tables_1[102]? = some (Jvm.Cond.privateMethod ({ cls := "java/lang/AbstractStringBuilder", name := "putStringAt", desc := "(ILjava/lang/String;)V" } : Jvm.MethodName)) := rfl
theorem w_103 : tables_1[103]? = some (Jvm.Cond.selects "java/lang/StringBuilder" ({ cls := "java/lang/AbstractStringBuilder", name := "putStringAt", desc := "(ILjava/lang/String;)V" } : Jvm.MethodName) ({ cls := "java/lang/AbstractStringBuilder", name := "putStringAt", desc := "(ILjava/lang/String;)V" } : Jvm.MethodName)) := rfl
theorem w_104 : tables_1[104]? = some (Jvm.Cond.code ({ cls := "java/lang/AbstractStringBuilder", name := "putStringAt", desc := "(ILjava/lang/String;)V" } : Jvm.MethodName) jdk_68_method_73_code (3 : Nat) (Option.none : Option Jvm.ClassFile.FieldType)) := rfl
theorem w_105 : tables_1[105]? = some (Jvm.Cond.methodLink "java/lang/AbstractStringBuilder" (397 : Nat) ({ cls := "java/lang/AbstractStringBuilder", name := "inflateIfNeededFor", desc := "(Ljava/lang/String;)V" } : Jvm.MethodName)) := rfl
theorem w_106 : tables_1[106]? = some (Jvm.Cond.instanceMethod ({ cls := "java/lang/AbstractStringBuilder", name := "inflateIfNeededFor", desc := "(Ljava/lang/String;)V" } : Jvm.MethodName)) := rfl
theorem w_107 : tables_1[107]? = some (Jvm.Cond.privateMethod ({ cls := "java/lang/AbstractStringBuilder", name := "inflateIfNeededFor", desc := "(Ljava/lang/String;)V" } : Jvm.MethodName)) := rfl
theorem w_108 : tables_1[108]? = some (Jvm.Cond.selects "java/lang/StringBuilder" ({ cls := "java/lang/AbstractStringBuilder", name := "inflateIfNeededFor", desc := "(Ljava/lang/String;)V" } : Jvm.MethodName) ({ cls := "java/lang/AbstractStringBuilder", name := "inflateIfNeededFor", desc := "(Ljava/lang/String;)V" } : Jvm.MethodName)) := rfl
theorem w_109 : tables_1[109]? = some (Jvm.Cond.code ({ cls := "java/lang/AbstractStringBuilder", name := "inflateIfNeededFor", desc := "(Ljava/lang/String;)V" } : Jvm.MethodName) jdk_68_method_71_code (2 : Nat) (Option.none : Option Jvm.ClassFile.FieldType)) := rfl
theorem w_110 : tables_1[110]? = some (Jvm.Cond.methodLink "java/lang/AbstractStringBuilder" (40 : Nat) ({ cls := "java/lang/String", name := "coder", desc := "()B" } : Jvm.MethodName)) := rfl
theorem w_111 : tables_1[111]? = some (Jvm.Cond.methodLink "java/lang/AbstractStringBuilder" (399 : Nat) ({ cls := "java/lang/String", name := "getBytes", desc := "([BIB)V" } : Jvm.MethodName)) := rfl
theorem w_112 : tables_1[112]? = some (Jvm.Cond.declares ({ cls := "java/lang/String", name := "getBytes", desc := "([BIB)V" } : Jvm.MethodName)) := rfl
theorem w_113 : tables_1[113]? = some (Jvm.Cond.instanceMethod ({ cls := "java/lang/String", name := "getBytes", desc := "([BIB)V" } : Jvm.MethodName)) := rfl
theorem w_114 : tables_1[114]? = some (Jvm.Cond.selects "java/lang/String" ({ cls := "java/lang/String", name := "getBytes", desc := "([BIB)V" } : Jvm.MethodName) ({ cls := "java/lang/String", name := "getBytes", desc := "([BIB)V" } : Jvm.MethodName)) := rfl
theorem w_115 : tables_1[115]? = some (Jvm.Cond.code ({ cls := "java/lang/String", name := "getBytes", desc := "([BIB)V" } : Jvm.MethodName) jdk_42_method_147_code (4 : Nat) (Option.none : Option Jvm.ClassFile.FieldType)) := rfl
theorem w_116 : tables_1[116]? = some (Jvm.Cond.methodLink "java/lang/String" (212 : Nat) ({ cls := "java/lang/System", name := "arraycopy", desc := "(Ljava/lang/Object;ILjava/lang/Object;II)V" } : Jvm.MethodName)) := rfl
theorem w_117 : tables_1[117]? = some (Jvm.Cond.static ({ cls := "java/lang/System", name := "arraycopy", desc := "(Ljava/lang/Object;ILjava/lang/Object;II)V" } : Jvm.MethodName)) := rfl
theorem w_118 : tables_1[118]? = some (Jvm.Cond.initialized "java/lang/System") := rfl
theorem w_119 : tables_1[119]? = some (Jvm.Cond.native ({ cls := "java/lang/System", name := "arraycopy", desc := "(Ljava/lang/Object;ILjava/lang/Object;II)V" } : Jvm.MethodName)) := rfl
theorem w_120 : tables_1[120]? = some (Jvm.Cond.stringLink "com/example/transaction_locking/transactionlocking/value/ExactString" (16 : Nat) " has 1 to ") := rfl
theorem w_121 : tables_1[121]? = some (Jvm.Cond.methodLink "java/lang/AbstractStringBuilder" (104 : Nat) ({ cls := "java/lang/AbstractStringBuilder", name := "newCapacity", desc := "(I)I" } : Jvm.MethodName)) := rfl
theorem w_122 : tables_1[122]? = some (Jvm.Cond.instanceMethod ({ cls := "java/lang/AbstractStringBuilder", name := "newCapacity", desc := "(I)I" } : Jvm.MethodName)) := rfl
theorem w_123 : tables_1[123]? = some (Jvm.Cond.privateMethod ({ cls := "java/lang/AbstractStringBuilder", name := "newCapacity", desc := "(I)I" } : Jvm.MethodName)) := rfl
theorem w_124 : tables_1[124]? = some (Jvm.Cond.selects "java/lang/StringBuilder" ({ cls := "java/lang/AbstractStringBuilder", name := "newCapacity", desc := "(I)I" } : Jvm.MethodName) ({ cls := "java/lang/AbstractStringBuilder", name := "newCapacity", desc := "(I)I" } : Jvm.MethodName)) := rfl
theorem w_125 : tables_1[125]? = some (Jvm.Cond.code ({ cls := "java/lang/AbstractStringBuilder", name := "newCapacity", desc := "(I)I" } : Jvm.MethodName) jdk_68_method_10_code (6 : Nat) (Option.some Jvm.ClassFile.FieldType.int)) := rfl
theorem w_126 : tables_1[126]? = some (Jvm.Cond.methodLink "java/lang/AbstractStringBuilder" (114 : Nat) ({ cls := "jdk/internal/util/ArraysSupport", name := "newLength", desc := "(III)I" } : Jvm.MethodName)) := rfl
theorem w_127 : tables_1[127]? = some (Jvm.Cond.static ({ cls := "jdk/internal/util/ArraysSupport", name := "newLength", desc := "(III)I" } : Jvm.MethodName)) := rfl
theorem w_128 : tables_1[128]? = some (Jvm.Cond.initialized "jdk/internal/util/ArraysSupport") := rfl
theorem w_129 : tables_1[129]? = some (Jvm.Cond.code ({ cls := "jdk/internal/util/ArraysSupport", name := "newLength", desc := "(III)I" } : Jvm.MethodName) jdk_48_method_27_code (4 : Nat) (Option.some Jvm.ClassFile.FieldType.int)) := rfl
theorem w_130 : tables_1[130]? = some (Jvm.Cond.methodLink "jdk/internal/util/ArraysSupport" (194 : Nat) ({ cls := "java/lang/Math", name := "max", desc := "(II)I" } : Jvm.MethodName)) := rfl
theorem w_131 : tables_1[131]? = some (Jvm.Cond.static ({ cls := "java/lang/Math", name := "max", desc := "(II)I" } : Jvm.MethodName)) := rfl
theorem w_132 : tables_1[132]? = some (Jvm.Cond.initialized "java/lang/Math") := rfl
theorem w_133 : tables_1[133]? = some (Jvm.Cond.code ({ cls := "java/lang/Math", name := "max", desc := "(II)I" } : Jvm.MethodName) jdk_29_method_65_code (2 : Nat) (Option.some Jvm.ClassFile.FieldType.int)) := rfl
theorem w_134 : tables_1[134]? = some (Jvm.Cond.constant "jdk/internal/util/ArraysSupport" (200 : Nat) (2147483639 : Int32)) := rfl
theorem w_135 : tables_1[135]? = some (Jvm.Cond.constant "java/lang/AbstractStringBuilder" (39 : Nat) (2147483647 : Int32)) := rfl
theorem w_136 : tables_1[136]? = some (Jvm.Cond.methodLink "java/lang/AbstractStringBuilder" (108 : Nat) ({ cls := "java/util/Arrays", name := "copyOf", desc := "([BI)[B" } : Jvm.MethodName)) := rfl
theorem w_137 : tables_1[137]? = some (Jvm.Cond.static ({ cls := "java/util/Arrays", name := "copyOf", desc := "([BI)[B" } : Jvm.MethodName)) := rfl
theorem w_138 : tables_1[138]? = some (Jvm.Cond.initialized "java/util/Arrays") := rfl
theorem w_139 : tables_1[139]? = some (Jvm.Cond.code ({ cls := "java/util/Arrays", name := "copyOf", desc := "([BI)[B" } : Jvm.MethodName) jdk_65_method_121_code (3 : Nat) (Option.some (Jvm.ClassFile.FieldType.array Jvm.ClassFile.FieldType.byte))) := rfl
theorem w_140 : tables_1[140]? = some (Jvm.Cond.methodLink "java/util/Arrays" (304 : Nat) ({ cls := "java/lang/Math", name := "min", desc := "(II)I" } : Jvm.MethodName)) := rfl
theorem w_141 : tables_1[141]? = some (Jvm.Cond.static ({ cls := "java/lang/Math", name := "min", desc := "(II)I" } : Jvm.MethodName)) := rfl
theorem w_142 : tables_1[142]? = some (Jvm.Cond.code ({ cls := "java/lang/Math", name := "min", desc := "(II)I" } : Jvm.MethodName) jdk_29_method_69_code (2 : Nat) (Option.some Jvm.ClassFile.FieldType.int)) := rfl
theorem w_143 : tables_1[143]? = some (Jvm.Cond.methodLink "java/util/Arrays" (150 : Nat) ({ cls := "java/lang/System", name := "arraycopy", desc := "(Ljava/lang/Object;ILjava/lang/Object;II)V" } : Jvm.MethodName)) := rfl
theorem w_144 : tables_1[144]? = some (Jvm.Cond.methodLink "com/example/transaction_locking/transactionlocking/value/ExactString" (20 : Nat) ({ cls := "java/lang/StringBuilder", name := "append", desc := "(I)Ljava/lang/StringBuilder;" } : Jvm.MethodName)) := rfl
theorem w_145 : tables_1[145]? = some (Jvm.Cond.declares ({ cls := "java/lang/StringBuilder", name := "append", desc := "(I)Ljava/lang/StringBuilder;" } : Jvm.MethodName)) := rfl
theorem w_146 : tables_1[146]? = some (Jvm.Cond.instanceMethod ({ cls := "java/lang/StringBuilder", name := "append", desc := "(I)Ljava/lang/StringBuilder;" } : Jvm.MethodName)) := rfl
theorem w_147 : tables_1[147]? = some (Jvm.Cond.selects "java/lang/StringBuilder" ({ cls := "java/lang/StringBuilder", name := "append", desc := "(I)Ljava/lang/StringBuilder;" } : Jvm.MethodName) ({ cls := "java/lang/StringBuilder", name := "append", desc := "(I)Ljava/lang/StringBuilder;" } : Jvm.MethodName)) := rfl
theorem w_148 : tables_1[148]? = some (Jvm.Cond.code ({ cls := "java/lang/StringBuilder", name := "append", desc := "(I)Ljava/lang/StringBuilder;" } : Jvm.MethodName) jdk_67_method_15_code (2 : Nat) (Option.some (Jvm.ClassFile.FieldType.object "java/lang/StringBuilder"))) := rfl
theorem w_149 : tables_1[149]? = some (Jvm.Cond.methodLink "java/lang/StringBuilder" (53 : Nat) ({ cls := "java/lang/AbstractStringBuilder", name := "append", desc := "(I)Ljava/lang/AbstractStringBuilder;" } : Jvm.MethodName)) := rfl
theorem w_150 : tables_1[150]? = some (Jvm.Cond.instanceMethod ({ cls := "java/lang/AbstractStringBuilder", name := "append", desc := "(I)Ljava/lang/AbstractStringBuilder;" } : Jvm.MethodName)) := rfl
theorem w_152 : tables_1[152]? = some (Jvm.Cond.code ({ cls := "java/lang/AbstractStringBuilder", name := "append", desc := "(I)Ljava/lang/AbstractStringBuilder;" } : Jvm.MethodName) jdk_68_method_32_code (4 : Nat) (Option.some (Jvm.ClassFile.FieldType.object "java/lang/AbstractStringBuilder"))) := rfl
theorem w_153 : tables_1[153]? = some (Jvm.Cond.methodLink "java/lang/AbstractStringBuilder" (245 : Nat) ({ cls := "java/lang/Integer", name := "stringSize", desc := "(I)I" } : Jvm.MethodName)) := rfl
theorem w_154 : tables_1[154]? = some (Jvm.Cond.static ({ cls := "java/lang/Integer", name := "stringSize", desc := "(I)I" } : Jvm.MethodName)) := rfl
theorem w_155 : tables_1[155]? = some (Jvm.Cond.initialized "java/lang/Integer") := rfl
theorem w_156 : tables_1[156]? = some (Jvm.Cond.code ({ cls := "java/lang/Integer", name := "stringSize", desc := "(I)I" } : Jvm.MethodName) jdk_33_method_13_code (4 : Nat) (Option.some Jvm.ClassFile.FieldType.int)) := rfl
theorem w_157 : tables_1[157]? = some (Jvm.Cond.methodLink "java/lang/AbstractStringBuilder" (83 : Nat) ({ cls := "java/lang/AbstractStringBuilder", name := "isLatin1", desc := "()Z" } : Jvm.MethodName)) := rfl
theorem w_158 : tables_1[158]? = some (Jvm.Cond.declares ({ cls := "java/lang/AbstractStringBuilder", name := "isLatin1", desc := "()Z" } : Jvm.MethodName)) := rfl
theorem w_159 : tables_1[159]? = some (Jvm.Cond.instanceMethod ({ cls := "java/lang/AbstractStringBuilder", name := "isLatin1", desc := "()Z" } : Jvm.MethodName)) := rfl
theorem w_160 : tables_1[160]? = some (Jvm.Cond.selects "java/lang/StringBuilder" ({ cls := "java/lang/AbstractStringBuilder", name := "isLatin1", desc := "()Z" } : Jvm.MethodName) ({ cls := "java/lang/AbstractStringBuilder", name := "isLatin1", desc := "()Z" } : Jvm.MethodName)) := rfl
theorem w_161 : tables_1[161]? = some (Jvm.Cond.code ({ cls := "java/lang/AbstractStringBuilder", name := "isLatin1", desc := "()Z" } : Jvm.MethodName) jdk_68_method_68_code (1 : Nat) (Option.some Jvm.ClassFile.FieldType.boolean)) := rfl
theorem w_162 : tables_1[162]? = some (Jvm.Cond.methodLink "java/lang/AbstractStringBuilder" (248 : Nat) ({ cls := "java/lang/Integer", name := "getChars", desc := "(II[B)I" } : Jvm.MethodName)) := rfl
theorem w_163 : tables_1[163]? = some (Jvm.Cond.static ({ cls := "java/lang/Integer", name := "getChars", desc := "(II[B)I" } : Jvm.MethodName)) := rfl
theorem w_164 : tables_1[164]? = some (Jvm.Cond.code ({ cls := "java/lang/Integer", name := "getChars", desc := "(II[B)I" } : Jvm.MethodName) jdk_33_method_12_code (7 : Nat) (Option.some Jvm.ClassFile.FieldType.int)) := rfl
theorem w_165 : tables_1[165]? = some (Jvm.Cond.fieldLink "java/lang/Integer" (83 : Nat) "java/lang/Integer" "DigitOnes" "[B") := rfl
theorem w_166 : tables_1[166]? = some (Jvm.Cond.fieldLink "java/lang/Integer" (87 : Nat) "java/lang/Integer" "DigitTens" "[B") := rfl
theorem w_167 : tables_1[167]? = some (Jvm.Cond.stringLink "com/example/transaction_locking/transactionlocking/value/ExactString" (23 : Nat) " characters") := rfl
theorem w_168 : tables_1[168]? = some (Jvm.Cond.methodLink "com/example/transaction_locking/transactionlocking/value/ExactString" (25 : Nat) ({ cls := "java/lang/StringBuilder", name := "toString", desc := "()Ljava/lang/String;" } : Jvm.MethodName)) := rfl
theorem w_169 : tables_1[169]? = some (Jvm.Cond.declares ({ cls := "java/lang/StringBuilder", name := "toString", desc := "()Ljava/lang/String;" } : Jvm.MethodName)) := rfl
theorem w_170 : tables_1[170]? = some (Jvm.Cond.instanceMethod ({ cls := "java/lang/StringBuilder", name := "toString", desc := "()Ljava/lang/String;" } : Jvm.MethodName)) := rfl
theorem w_171 : tables_1[171]? = some (Jvm.Cond.selects "java/lang/StringBuilder" ({ cls := "java/lang/StringBuilder", name := "toString", desc := "()Ljava/lang/String;" } : Jvm.MethodName) ({ cls := "java/lang/StringBuilder", name := "toString", desc := "()Ljava/lang/String;" } : Jvm.MethodName)) := rfl
theorem w_172 : tables_1[172]? = some (Jvm.Cond.code ({ cls := "java/lang/StringBuilder", name := "toString", desc := "()Ljava/lang/String;" } : Jvm.MethodName) jdk_67_method_42_code (1 : Nat) (Option.some (Jvm.ClassFile.FieldType.object "java/lang/String"))) := rfl
theorem w_173 : tables_1[173]? = some (Jvm.Cond.classLink "java/lang/StringBuilder" (18 : Nat) "java/lang/String") := rfl
theorem w_174 : tables_1[174]? = some (Jvm.Cond.methodLink "java/lang/StringBuilder" (137 : Nat) ({ cls := "java/lang/String", name := "<init>", desc := "(Ljava/lang/StringBuilder;)V" } : Jvm.MethodName)) := rfl
theorem w_175 : tables_1[175]? = some (Jvm.Cond.instanceMethod ({ cls := "java/lang/String", name := "<init>", desc := "(Ljava/lang/StringBuilder;)V" } : Jvm.MethodName)) := rfl
theorem w_176 : tables_1[176]? = some (Jvm.Cond.code ({ cls := "java/lang/String", name := "<init>", desc := "(Ljava/lang/StringBuilder;)V" } : Jvm.MethodName) jdk_42_method_53_code (2 : Nat) (Option.none : Option Jvm.ClassFile.FieldType)) := rfl
theorem w_177 : tables_1[177]? = some (Jvm.Cond.methodLink "java/lang/String" (489 : Nat) ({ cls := "java/lang/String", name := "<init>", desc := "(Ljava/lang/AbstractStringBuilder;Ljava/lang/Void;)V" } : Jvm.MethodName)) := rfl
theorem w_178 : tables_1[178]? = some (Jvm.Cond.instanceMethod ({ cls := "java/lang/String", name := "<init>", desc := "(Ljava/lang/AbstractStringBuilder;Ljava/lang/Void;)V" } : Jvm.MethodName)) := rfl
theorem w_179 : tables_1[179]? = some (Jvm.Cond.code ({ cls := "java/lang/String", name := "<init>", desc := "(Ljava/lang/AbstractStringBuilder;Ljava/lang/Void;)V" } : Jvm.MethodName) jdk_42_method_150_code (5 : Nat) (Option.none : Option Jvm.ClassFile.FieldType)) := rfl
theorem w_180 : tables_1[180]? = some (Jvm.Cond.methodLink "java/lang/String" (552 : Nat) ({ cls := "java/lang/AbstractStringBuilder", name := "getValue", desc := "()[B" } : Jvm.MethodName)) := rfl
theorem w_181 : tables_1[181]? = some (Jvm.Cond.declares ({ cls := "java/lang/AbstractStringBuilder", name := "getValue", desc := "()[B" } : Jvm.MethodName)) := rfl
theorem w_182 : tables_1[182]? = some (Jvm.Cond.instanceMethod ({ cls := "java/lang/AbstractStringBuilder", name := "getValue", desc := "()[B" } : Jvm.MethodName)) := rfl
theorem w_183 : tables_1[183]? = some (Jvm.Cond.selects "java/lang/StringBuilder" ({ cls := "java/lang/AbstractStringBuilder", name := "getValue", desc := "()[B" } : Jvm.MethodName) ({ cls := "java/lang/AbstractStringBuilder", name := "getValue", desc := "()[B" } : Jvm.MethodName)) := rfl
theorem w_184 : tables_1[184]? = some (Jvm.Cond.code ({ cls := "java/lang/AbstractStringBuilder", name := "getValue", desc := "()[B" } : Jvm.MethodName) jdk_68_method_64_code (1 : Nat) (Option.some (Jvm.ClassFile.FieldType.array Jvm.ClassFile.FieldType.byte))) := rfl
theorem w_185 : tables_1[185]? = some (Jvm.Cond.methodLink "java/lang/String" (549 : Nat) ({ cls := "java/lang/AbstractStringBuilder", name := "length", desc := "()I" } : Jvm.MethodName)) := rfl
theorem w_186 : tables_1[186]? = some (Jvm.Cond.declares ({ cls := "java/lang/AbstractStringBuilder", name := "length", desc := "()I" } : Jvm.MethodName)) := rfl
theorem w_187 : tables_1[187]? = some (Jvm.Cond.instanceMethod ({ cls := "java/lang/AbstractStringBuilder", name := "length", desc := "()I" } : Jvm.MethodName)) := rfl
theorem w_188 : tables_1[188]? = some (Jvm.Cond.selects "java/lang/StringBuilder" ({ cls := "java/lang/AbstractStringBuilder", name := "length", desc := "()I" } : Jvm.MethodName) ({ cls := "java/lang/StringBuilder", name := "length", desc := "()I" } : Jvm.MethodName)) := rfl
theorem w_189 : tables_1[189]? = some (Jvm.Cond.instanceMethod ({ cls := "java/lang/StringBuilder", name := "length", desc := "()I" } : Jvm.MethodName)) := rfl
theorem w_190 : tables_1[190]? = some (Jvm.Cond.code ({ cls := "java/lang/StringBuilder", name := "length", desc := "()I" } : Jvm.MethodName) jdk_67_method_93_code (1 : Nat) (Option.some Jvm.ClassFile.FieldType.int)) := rfl
theorem w_191 : tables_1[191]? = some (Jvm.Cond.methodLink "java/lang/StringBuilder" (343 : Nat) ({ cls := "java/lang/AbstractStringBuilder", name := "length", desc := "()I" } : Jvm.MethodName)) := rfl
theorem w_192 : tables_1[192]? = some (Jvm.Cond.code ({ cls := "java/lang/AbstractStringBuilder", name := "length", desc := "()I" } : Jvm.MethodName) jdk_68_method_6_code (1 : Nat) (Option.some Jvm.ClassFile.FieldType.int)) := rfl
theorem w_193 : tables_1[193]? = some (Jvm.Cond.methodLink "java/lang/String" (1047 : Nat) ({ cls := "java/lang/AbstractStringBuilder", name := "isLatin1", desc := "()Z" } : Jvm.MethodName)) := rfl
theorem w_194 : tables_1[194]? = some (Jvm.Cond.methodLink "java/lang/String" (54 : Nat) ({ cls := "java/util/Arrays", name := "copyOfRange", desc := "([BII)[B" } : Jvm.MethodName)) := rfl
theorem w_195 : tables_1[195]? = some (Jvm.Cond.static ({ cls := "java/util/Arrays", name := "copyOfRange", desc := "([BII)[B" } : Jvm.MethodName)) := rfl
theorem w_196 : tables_1[196]? = some (Jvm.Cond.code ({ cls := "java/util/Arrays", name := "copyOfRange", desc := "([BII)[B" } : Jvm.MethodName) jdk_65_method_132_code (3 : Nat) (Option.some (Jvm.ClassFile.FieldType.array Jvm.ClassFile.FieldType.byte))) := rfl
theorem w_197 : tables_1[197]? = some (Jvm.Cond.methodLink "java/util/Arrays" (339 : Nat) ({ cls := "java/util/Arrays", name := "copyOfRangeByte", desc := "([BII)[B" } : Jvm.MethodName)) := rfl
theorem w_198 : tables_1[198]? = some (Jvm.Cond.static ({ cls := "java/util/Arrays", name := "copyOfRangeByte", desc := "([BII)[B" } : Jvm.MethodName)) := rfl
theorem w_199 : tables_1[199]? = some (Jvm.Cond.code ({ cls := "java/util/Arrays", name := "copyOfRangeByte", desc := "([BII)[B" } : Jvm.MethodName) jdk_65_method_133_code (5 : Nat) (Option.some (Jvm.ClassFile.FieldType.array Jvm.ClassFile.FieldType.byte))) := rfl
theorem w_200 : tables_1[200]? = some (Jvm.Cond.methodLink "java/util/Arrays" (343 : Nat) ({ cls := "java/util/Arrays", name := "checkLength", desc := "(II)V" } : Jvm.MethodName)) := rfl
theorem w_201 : tables_1[201]? = some (Jvm.Cond.static ({ cls := "java/util/Arrays", name := "checkLength", desc := "(II)V" } : Jvm.MethodName)) := rfl
theorem w_202 : tables_1[202]? = some (Jvm.Cond.code ({ cls := "java/util/Arrays", name := "checkLength", desc := "(II)V" } : Jvm.MethodName) jdk_65_method_131_code (2 : Nat) (Option.none : Option Jvm.ClassFile.FieldType)) := rfl
theorem w_203 : tables_1[203]? = some (Jvm.Cond.methodLink "com/example/transaction_locking/transactionlocking/value/ExactString" (36 : Nat) ({ cls := "java/lang/String", name := "isEmpty", desc := "()Z" } : Jvm.MethodName)) := rfl
theorem w_204 : tables_1[204]? = some (Jvm.Cond.declares ({ cls := "java/lang/String", name := "isEmpty", desc := "()Z" } : Jvm.MethodName)) := rfl
theorem w_205 : tables_1[205]? = some (Jvm.Cond.instanceMethod ({ cls := "java/lang/String", name := "isEmpty", desc := "()Z" } : Jvm.MethodName)) := rfl
theorem w_206 : tables_1[206]? = some (Jvm.Cond.selects "java/lang/String" ({ cls := "java/lang/String", name := "isEmpty", desc := "()Z" } : Jvm.MethodName) ({ cls := "java/lang/String", name := "isEmpty", desc := "()Z" } : Jvm.MethodName)) := rfl
theorem w_207 : tables_1[207]? = some (Jvm.Cond.code ({ cls := "java/lang/String", name := "isEmpty", desc := "()Z" } : Jvm.MethodName) jdk_42_method_55_code (1 : Nat) (Option.some Jvm.ClassFile.FieldType.boolean)) := rfl
theorem w_208 : tables_1[208]? = some (Jvm.Cond.methodLink "com/example/transaction_locking/transactionlocking/value/ExactString" (48 : Nat) ({ cls := "java/lang/String", name := "length", desc := "()I" } : Jvm.MethodName)) := rfl
theorem w_209 : tables_1[209]? = some (Jvm.Cond.methodLink "com/example/transaction_locking/transactionlocking/value/ExactString" (56 : Nat) ({ cls := "java/lang/String", name := "charAt", desc := "(I)C" } : Jvm.MethodName)) := rfl
theorem w_210 : tables_1[210]? = some (Jvm.Cond.declares ({ cls := "java/lang/String", name := "charAt", desc := "(I)C" } : Jvm.MethodName)) := rfl
theorem w_211 : tables_1[211]? = some (Jvm.Cond.instanceMethod ({ cls := "java/lang/String", name := "charAt", desc := "(I)C" } : Jvm.MethodName)) := rfl
theorem w_212 : tables_1[212]? = some (Jvm.Cond.selects "java/lang/String" ({ cls := "java/lang/String", name := "charAt", desc := "(I)C" } : Jvm.MethodName) ({ cls := "java/lang/String", name := "charAt", desc := "(I)C" } : Jvm.MethodName)) := rfl
theorem w_213 : tables_1[213]? = some (Jvm.Cond.code ({ cls := "java/lang/String", name := "charAt", desc := "(I)C" } : Jvm.MethodName) jdk_42_method_56_code (2 : Nat) (Option.some Jvm.ClassFile.FieldType.char)) := rfl
theorem w_214 : tables_1[214]? = some (Jvm.Cond.methodLink "java/lang/String" (492 : Nat) ({ cls := "java/lang/String", name := "isLatin1", desc := "()Z" } : Jvm.MethodName)) := rfl
theorem w_215 : tables_1[215]? = some (Jvm.Cond.declares ({ cls := "java/lang/String", name := "isLatin1", desc := "()Z" } : Jvm.MethodName)) := rfl
theorem w_216 : tables_1[216]? = some (Jvm.Cond.instanceMethod ({ cls := "java/lang/String", name := "isLatin1", desc := "()Z" } : Jvm.MethodName)) := rfl
theorem w_217 : tables_1[217]? = some (Jvm.Cond.selects "java/lang/String" ({ cls := "java/lang/String", name := "isLatin1", desc := "()Z" } : Jvm.MethodName) ({ cls := "java/lang/String", name := "isLatin1", desc := "()Z" } : Jvm.MethodName)) := rfl
theorem w_218 : tables_1[218]? = some (Jvm.Cond.code ({ cls := "java/lang/String", name := "isLatin1", desc := "()Z" } : Jvm.MethodName) jdk_42_method_154_code (1 : Nat) (Option.some Jvm.ClassFile.FieldType.boolean)) := rfl
theorem w_219 : tables_1[219]? = some (Jvm.Cond.methodLink "java/lang/String" (495 : Nat) ({ cls := "java/lang/StringLatin1", name := "charAt", desc := "([BI)C" } : Jvm.MethodName)) := rfl
theorem w_220 : tables_1[220]? = some (Jvm.Cond.static ({ cls := "java/lang/StringLatin1", name := "charAt", desc := "([BI)C" } : Jvm.MethodName)) := rfl
theorem w_221 : tables_1[221]? = some (Jvm.Cond.initialized "java/lang/StringLatin1") := rfl
theorem w_222 : tables_1[222]? = some (Jvm.Cond.code ({ cls := "java/lang/StringLatin1", name := "charAt", desc := "([BI)C" } : Jvm.MethodName) jdk_43_method_2_code (2 : Nat) (Option.some Jvm.ClassFile.FieldType.char)) := rfl
theorem w_223 : tables_1[223]? = some (Jvm.Cond.methodLink "java/lang/StringLatin1" (9 : Nat) ({ cls := "java/lang/String", name := "checkIndex", desc := "(II)V" } : Jvm.MethodName)) := rfl
theorem w_224 : tables_1[224]? = some (Jvm.Cond.static ({ cls := "java/lang/String", name := "checkIndex", desc := "(II)V" } : Jvm.MethodName)) := rfl
theorem w_225 : tables_1[225]? = some (Jvm.Cond.code ({ cls := "java/lang/String", name := "checkIndex", desc := "(II)V" } : Jvm.MethodName) jdk_42_method_155_code (2 : Nat) (Option.none : Option Jvm.ClassFile.FieldType)) := rfl
theorem w_226 : tables_1[226]? = some (Jvm.Cond.fieldLink "java/lang/String" (1053 : Nat) "jdk/internal/util/Preconditions" "SIOOBE_FORMATTER" "Ljava/util/function/BiFunction;") := rfl
theorem w_227 : tables_1[227]? = some (Jvm.Cond.initialized "jdk/internal/util/Preconditions") := rfl
theorem w_228 : tables_1[228]? = some (Jvm.Cond.methodLink "java/lang/String" (1059 : Nat) ({ cls := "jdk/internal/util/Preconditions", name := "checkIndex", desc := "(IILjava/util/function/BiFunction;)I" } : Jvm.MethodName)) := rfl
theorem w_229 : tables_1[229]? = some (Jvm.Cond.static ({ cls := "jdk/internal/util/Preconditions", name := "checkIndex", desc := "(IILjava/util/function/BiFunction;)I" } : Jvm.MethodName)) := rfl
theorem w_230 : tables_1[230]? = some (Jvm.Cond.code ({ cls := "jdk/internal/util/Preconditions", name := "checkIndex", desc := "(IILjava/util/function/BiFunction;)I" } : Jvm.MethodName) jdk_41_method_11_code (3 : Nat) (Option.some Jvm.ClassFile.FieldType.int)) := rfl
set_option maxRecDepth 65536 in
theorem w_231 : tables_1[231]? = some (Jvm.Cond.methodLink "com/example/transaction_locking/transactionlocking/value/ExactString" (64 : Nat) ({ cls := "com/example/transaction_locking/transactionlocking/value/Quoting", name := "isUnpairedSurrogate", desc := "(Ljava/lang/String;I)Z" } : Jvm.MethodName)) := rfl
set_option maxRecDepth 65536 in
theorem w_232 : tables_1[232]? = some (Jvm.Cond.static ({ cls := "com/example/transaction_locking/transactionlocking/value/Quoting", name := "isUnpairedSurrogate", desc := "(Ljava/lang/String;I)Z" } : Jvm.MethodName)) := rfl
set_option maxRecDepth 65536 in
theorem w_233 : tables_1[233]? = some (Jvm.Cond.initialized "com/example/transaction_locking/transactionlocking/value/Quoting") := rfl
set_option maxRecDepth 65536 in
theorem w_234 : tables_1[234]? = some (Jvm.Cond.code ({ cls := "com/example/transaction_locking/transactionlocking/value/Quoting", name := "isUnpairedSurrogate", desc := "(Ljava/lang/String;I)Z" } : Jvm.MethodName) prog_37_method_3_code (3 : Nat) (Option.some Jvm.ClassFile.FieldType.boolean)) := rfl
set_option maxRecDepth 65536 in
theorem w_235 : tables_1[235]? = some (Jvm.Cond.methodLink "com/example/transaction_locking/transactionlocking/value/Quoting" (26 : Nat) ({ cls := "java/lang/String", name := "charAt", desc := "(I)C" } : Jvm.MethodName)) := rfl
set_option maxRecDepth 65536 in
theorem w_236 : tables_1[236]? = some (Jvm.Cond.methodLink "com/example/transaction_locking/transactionlocking/value/Quoting" (69 : Nat) ({ cls := "java/lang/Character", name := "isHighSurrogate", desc := "(C)Z" } : Jvm.MethodName)) := rfl
set_option maxRecDepth 65536 in
theorem w_237 : tables_1[237]? = some (Jvm.Cond.static ({ cls := "java/lang/Character", name := "isHighSurrogate", desc := "(C)Z" } : Jvm.MethodName)) := rfl
set_option maxRecDepth 65536 in
theorem w_238 : tables_1[238]? = some (Jvm.Cond.initialized "java/lang/Character") := rfl
set_option maxRecDepth 65536 in
theorem w_239 : tables_1[239]? = some (Jvm.Cond.code ({ cls := "java/lang/Character", name := "isHighSurrogate", desc := "(C)Z" } : Jvm.MethodName) jdk_89_method_14_code (1 : Nat) (Option.some Jvm.ClassFile.FieldType.boolean)) := rfl
set_option maxRecDepth 65536 in
theorem w_240 : tables_1[240]? = some (Jvm.Cond.constant "java/lang/Character" (75 : Nat) (55296 : Int32)) := rfl
set_option maxRecDepth 65536 in
theorem w_241 : tables_1[241]? = some (Jvm.Cond.methodLink "com/example/transaction_locking/transactionlocking/value/Quoting" (72 : Nat) ({ cls := "java/lang/Character", name := "isLowSurrogate", desc := "(C)Z" } : Jvm.MethodName)) := rfl
set_option maxRecDepth 65536 in
theorem w_242 : tables_1[242]? = some (Jvm.Cond.static ({ cls := "java/lang/Character", name := "isLowSurrogate", desc := "(C)Z" } : Jvm.MethodName)) := rfl
set_option maxRecDepth 65536 in
theorem w_243 : tables_1[243]? = some (Jvm.Cond.code ({ cls := "java/lang/Character", name := "isLowSurrogate", desc := "(C)Z" } : Jvm.MethodName) jdk_89_method_15_code (1 : Nat) (Option.some Jvm.ClassFile.FieldType.boolean)) := rfl
set_option maxRecDepth 65536 in
theorem w_244 : tables_1[244]? = some (Jvm.Cond.constant "java/lang/Character" (76 : Nat) (56320 : Int32)) := rfl
set_option maxRecDepth 65536 in
theorem w_245 : tables_1[245]? = some (Jvm.Cond.fieldLink "com/example/transaction_locking/transactionlocking/value/LockName" (15 : Nat) "com/example/transaction_locking/transactionlocking/value/LockName" "value" "Ljava/lang/String;") := rfl
set_option maxRecDepth 65536 in
theorem w_246 : tables_1[246]? = some (Jvm.Cond.laysFinal "com/example/transaction_locking/transactionlocking/value/LockName" "com/example/transaction_locking/transactionlocking/value/LockName" "value" "Ljava/lang/String;") := rfl
set_option maxRecDepth 65536 in
theorem w_247 : tables_1[247]? = some (Jvm.Cond.fieldLink "com/example/transaction_locking/transactionlocking/handle/HeldLocksCheckRequestPinLaw" (30 : Nat) "com/example/transaction_locking/transactionlocking/value/LockMode" "SHARED" "Lcom/example/transaction_locking/transactionlocking/value/LockMode;") := rfl
set_option maxRecDepth 65536 in
theorem w_248 : tables_1[248]? = some (Jvm.Cond.initialized "com/example/transaction_locking/transactionlocking/value/LockMode") := rfl
set_option maxRecDepth 65536 in
theorem w_249 : tables_1[249]? = some (Jvm.Cond.laysStatic "com/example/transaction_locking/transactionlocking/value/LockMode" "SHARED" "Lcom/example/transaction_locking/transactionlocking/value/LockMode;") := rfl
set_option maxRecDepth 65536 in
theorem w_250 : tables_1[250]? = some (Jvm.Cond.constantLong "com/example/transaction_locking/transactionlocking/handle/HeldLocksCheckRequestPinLaw" (33 : Nat) (2147483647 : Int64)) := rfl
set_option maxRecDepth 65536 in
theorem w_251 : tables_1[251]? = some (Jvm.Cond.methodLink "com/example/transaction_locking/transactionlocking/handle/HeldLocksCheckRequestPinLaw" (35 : Nat) ({ cls := "com/example/transaction_locking/transactionlocking/handle/HeldLocks", name := "checkRequest", desc := "(Lcom/example/transaction_locking/transactionlocking/value/LockName;Lcom/example/transaction_locking/transactionlocking/value/LockMode;J)V" } : Jvm.MethodName)) := rfl
set_option maxRecDepth 65536 in
theorem w_252 : tables_1[252]? = some (Jvm.Cond.static ({ cls := "com/example/transaction_locking/transactionlocking/handle/HeldLocks", name := "checkRequest", desc := "(Lcom/example/transaction_locking/transactionlocking/value/LockName;Lcom/example/transaction_locking/transactionlocking/value/LockMode;J)V" } : Jvm.MethodName)) := rfl
set_option maxRecDepth 65536 in
theorem w_253 : tables_1[253]? = some (Jvm.Cond.initialized "com/example/transaction_locking/transactionlocking/handle/HeldLocks") := rfl
set_option maxRecDepth 65536 in
theorem w_254 : tables_1[254]? = some (Jvm.Cond.code ({ cls := "com/example/transaction_locking/transactionlocking/handle/HeldLocks", name := "checkRequest", desc := "(Lcom/example/transaction_locking/transactionlocking/value/LockName;Lcom/example/transaction_locking/transactionlocking/value/LockMode;J)V" } : Jvm.MethodName) prog_15_method_2_code (4 : Nat) (Option.none : Option Jvm.ClassFile.FieldType)) := rfl
set_option maxRecDepth 65536 in
theorem w_255 : tables_1[255]? = some (Jvm.Cond.stringLink "com/example/transaction_locking/transactionlocking/handle/HeldLocks" (63 : Nat) "try lock") := rfl
set_option maxRecDepth 65536 in
theorem w_256 : tables_1[256]? = some (Jvm.Cond.methodLink "com/example/transaction_locking/transactionlocking/handle/HeldLocks" (65 : Nat) ({ cls := "com/example/transaction_locking/transactionlocking/handle/WaitTimeout", name := "check", desc := "(Ljava/lang/String;Lcom/example/transaction_locking/transactionlocking/value/LockName;J)V" } : Jvm.MethodName)) := rfl
set_option maxRecDepth 65536 in
theorem w_257 : tables_1[257]? = some (Jvm.Cond.static ({ cls := "com/example/transaction_locking/transactionlocking/handle/WaitTimeout", name := "check", desc := "(Ljava/lang/String;Lcom/example/transaction_locking/transactionlocking/value/LockName;J)V" } : Jvm.MethodName)) := rfl
set_option maxRecDepth 65536 in
theorem w_258 : tables_1[258]? = some (Jvm.Cond.initialized "com/example/transaction_locking/transactionlocking/handle/WaitTimeout") := rfl
set_option maxRecDepth 65536 in
theorem w_259 : tables_1[259]? = some (Jvm.Cond.code ({ cls := "com/example/transaction_locking/transactionlocking/handle/WaitTimeout", name := "check", desc := "(Ljava/lang/String;Lcom/example/transaction_locking/transactionlocking/value/LockName;J)V" } : Jvm.MethodName) prog_29_method_2_code (4 : Nat) (Option.none : Option Jvm.ClassFile.FieldType)) := rfl
set_option maxRecDepth 65536 in
theorem w_260 : tables_1[260]? = some (Jvm.Cond.constantLong "com/example/transaction_locking/transactionlocking/handle/WaitTimeout" (11 : Nat) (2147483647 : Int64)) := rfl
set_option maxRecDepth 65536 in
theorem w_261 : tables_1[261]? = some (Jvm.Cond.fieldLink "com/example/transaction_locking/transactionlocking/handle/HeldLocksCheckRequestPinLaw" (24 : Nat) "com/example/transaction_locking/transactionlocking/value/LockMode" "EXCLUSIVE" "Lcom/example/transaction_locking/transactionlocking/value/LockMode;") := rfl
set_option maxRecDepth 65536 in
theorem w_262 : tables_1[262]? = some (Jvm.Cond.laysStatic "com/example/transaction_locking/transactionlocking/value/LockMode" "EXCLUSIVE" "Lcom/example/transaction_locking/transactionlocking/value/LockMode;") := rfl
theorem d_jdk_29_65_0 : decode jdk_29_method_65_code 0 = .ok (.iload_n 0, 1) := by decide +kernel
theorem d_jdk_29_65_1 : decode jdk_29_method_65_code 1 = .ok (.iload_n 1, 1) := by decide +kernel
theorem d_jdk_29_65_2 : decode jdk_29_method_65_code 2 = .ok (.if_icmp .lt 7, 3) := by decide +kernel
theorem d_jdk_29_65_9 : decode jdk_29_method_65_code 9 = .ok (.iload_n 1, 1) := by decide +kernel
theorem d_jdk_29_65_10 : decode jdk_29_method_65_code 10 = .ok (.ireturn, 1) := by decide +kernel
theorem d_jdk_29_69_0 : decode jdk_29_method_69_code 0 = .ok (.iload_n 0, 1) := by decide +kernel
theorem d_jdk_29_69_1 : decode jdk_29_method_69_code 1 = .ok (.iload_n 1, 1) := by decide +kernel
theorem d_jdk_29_69_2 : decode jdk_29_method_69_code 2 = .ok (.if_icmp .gt 7, 3) := by decide +kernel
theorem d_jdk_29_69_5 : decode jdk_29_method_69_code 5 = .ok (.iload_n 0, 1) := by decide +kernel
theorem d_jdk_29_69_6 : decode jdk_29_method_69_code 6 = .ok (.goto 4, 3) := by decide +kernel
theorem d_jdk_29_69_9 : decode jdk_29_method_69_code 9 = .ok (.iload_n 1, 1) := by decide +kernel
theorem d_jdk_29_69_10 : decode jdk_29_method_69_code 10 = .ok (.ireturn, 1) := by decide +kernel
theorem d_jdk_30_1_0 : decode jdk_30_method_1_code 0 = .ok (.aload_n 0, 1) := by decide +kernel
theorem d_jdk_30_1_1 : decode jdk_30_method_1_code 1 = .ok (.invokespecial 1, 3) := by decide +kernel
theorem d_jdk_30_1_4 : decode jdk_30_method_1_code 4 = .ok (.return_, 1) := by decide +kernel
theorem d_jdk_33_12_0 : decode jdk_33_method_12_code 0 = .ok (.iload_n 1, 1) := by decide +kernel
theorem d_jdk_33_12_1 : decode jdk_33_method_12_code 1 = .ok (.istore 5, 2) := by decide +kernel
theorem d_jdk_33_12_3 : decode jdk_33_method_12_code 3 = .ok (.iload_n 0, 1) := by decide +kernel
theorem d_jdk_33_12_4 : decode jdk_33_method_12_code 4 = .ok (.ifCond .ge 7, 3) := by decide +kernel
theorem d_jdk_33_12_11 : decode jdk_33_method_12_code 11 = .ok (.iconst 0, 1) := by decide +kernel
theorem d_jdk_33_12_12 : decode jdk_33_method_12_code 12 = .ok (.istore 6, 2) := by decide +kernel
theorem d_jdk_33_12_14 : decode jdk_33_method_12_code 14 = .ok (.iload 6, 2) := by decide +kernel
theorem d_jdk_33_12_16 : decode jdk_33_method_12_code 16 = .ok (.ifCond .ne 6, 3) := by decide +kernel
theorem d_jdk_33_12_19 : decode jdk_33_method_12_code 19 = .ok (.iload_n 0, 1) := by decide +kernel
theorem d_jdk_33_12_20 : decode jdk_33_method_12_code 20 = .ok (.ineg, 1) := by decide +kernel
theorem d_jdk_33_12_21 : decode jdk_33_method_12_code 21 = .ok (.istore_n 0, 1) := by decide +kernel
theorem d_jdk_33_12_22 : decode jdk_33_method_12_code 22 = .ok (.iload_n 0, 1) := by decide +kernel
theorem d_jdk_33_12_23 : decode jdk_33_method_12_code 23 = .ok (.bipush (-100), 2) := by decide +kernel
theorem d_jdk_33_12_25 : decode jdk_33_method_12_code 25 = .ok (.if_icmp .gt 47, 3) := by decide +kernel
theorem d_jdk_33_12_28 : decode jdk_33_method_12_code 28 = .ok (.iload_n 0, 1) := by decide +kernel
theorem d_jdk_33_12_29 : decode jdk_33_method_12_code 29 = .ok (.bipush 100, 2) := by decide +kernel
theorem d_jdk_33_12_31 : decode jdk_33_method_12_code 31 = .ok (.idiv, 1) := by decide +kernel
theorem d_jdk_33_12_32 : decode jdk_33_method_12_code 32 = .ok (.istore_n 3, 1) := by decide +kernel
theorem d_jdk_33_12_33 : decode jdk_33_method_12_code 33 = .ok (.iload_n 3, 1) := by decide +kernel
theorem d_jdk_33_12_34 : decode jdk_33_method_12_code 34 = .ok (.bipush 100, 2) := by decide +kernel
theorem d_jdk_33_12_36 : decode jdk_33_method_12_code 36 = .ok (.imul, 1) := by decide +kernel
theorem d_jdk_33_12_37 : decode jdk_33_method_12_code 37 = .ok (.iload_n 0, 1) := by decide +kernel
theorem d_jdk_33_12_38 : decode jdk_33_method_12_code 38 = .ok (.isub, 1) := by decide +kernel
theorem d_jdk_33_12_39 : decode jdk_33_method_12_code 39 = .ok (.istore 4, 2) := by decide +kernel
theorem d_jdk_33_12_41 : decode jdk_33_method_12_code 41 = .ok (.iload_n 3, 1) := by decide +kernel
theorem d_jdk_33_12_42 : decode jdk_33_method_12_code 42 = .ok (.istore_n 0, 1) := by decide +kernel
theorem d_jdk_33_12_43 : decode jdk_33_method_12_code 43 = .ok (.aload_n 2, 1) := by decide +kernel
theorem d_jdk_33_12_44 : decode jdk_33_method_12_code 44 = .ok (.iinc 5 (-1), 3) := by decide +kernel
theorem d_jdk_33_12_47 : decode jdk_33_method_12_code 47 = .ok (.iload 5, 2) := by decide +kernel
theorem d_jdk_33_12_49 : decode jdk_33_method_12_code 49 = .ok (.getstatic 83, 3) := by decide +kernel
theorem d_jdk_33_12_52 : decode jdk_33_method_12_code 52 = .ok (.iload 4, 2) := by decide +kernel
theorem d_jdk_33_12_54 : decode jdk_33_method_12_code 54 = .ok (.baload, 1) := by decide +kernel
theorem d_jdk_33_12_55 : decode jdk_33_method_12_code 55 = .ok (.bastore, 1) := by decide +kernel
theorem d_jdk_33_12_56 : decode jdk_33_method_12_code 56 = .ok (.aload_n 2, 1) := by decide +kernel
theorem d_jdk_33_12_57 : decode jdk_33_method_12_code 57 = .ok (.iinc 5 (-1), 3) := by decide +kernel
theorem d_jdk_33_12_60 : decode jdk_33_method_12_code 60 = .ok (.iload 5, 2) := by decide +kernel
theorem d_jdk_33_12_62 : decode jdk_33_method_12_code 62 = .ok (.getstatic 87, 3) := by decide +kernel
theorem d_jdk_33_12_65 : decode jdk_33_method_12_code 65 = .ok (.iload 4, 2) := by decide +kernel
theorem d_jdk_33_12_67 : decode jdk_33_method_12_code 67 = .ok (.baload, 1) := by decide +kernel
theorem d_jdk_33_12_68 : decode jdk_33_method_12_code 68 = .ok (.bastore, 1) := by decide +kernel
theorem d_jdk_33_12_69 : decode jdk_33_method_12_code 69 = .ok (.goto (-47), 3) := by decide +kernel
theorem d_jdk_33_12_72 : decode jdk_33_method_12_code 72 = .ok (.aload_n 2, 1) := by decide +kernel
theorem d_jdk_33_12_73 : decode jdk_33_method_12_code 73 = .ok (.iinc 5 (-1), 3) := by decide +kernel
theorem d_jdk_33_12_76 : decode jdk_33_method_12_code 76 = .ok (.iload 5, 2) := by decide +kernel
theorem d_jdk_33_12_78 : decode jdk_33_method_12_code 78 = .ok (.getstatic 83, 3) := by decide +kernel
theorem d_jdk_33_12_81 : decode jdk_33_method_12_code 81 = .ok (.iload_n 0, 1) := by decide +kernel
theorem d_jdk_33_12_82 : decode jdk_33_method_12_code 82 = .ok (.ineg, 1) := by decide +kernel
theorem d_jdk_33_12_83 : decode jdk_33_method_12_code 83 = .ok (.baload, 1) := by decide +kernel
theorem d_jdk_33_12_84 : decode jdk_33_method_12_code 84 = .ok (.bastore, 1) := by decide +kernel
theorem d_jdk_33_12_85 : decode jdk_33_method_12_code 85 = .ok (.iload_n 0, 1) := by decide +kernel
theorem d_jdk_33_12_86 : decode jdk_33_method_12_code 86 = .ok (.bipush (-9), 2) := by decide +kernel
theorem d_jdk_33_12_88 : decode jdk_33_method_12_code 88 = .ok (.if_icmp .ge 16, 3) := by decide +kernel
theorem d_jdk_33_12_104 : decode jdk_33_method_12_code 104 = .ok (.iload 6, 2) := by decide +kernel
theorem d_jdk_33_12_106 : decode jdk_33_method_12_code 106 = .ok (.ifCond .eq 12, 3) := by decide +kernel
theorem d_jdk_33_12_118 : decode jdk_33_method_12_code 118 = .ok (.iload 5, 2) := by decide +kernel
theorem d_jdk_33_12_120 : decode jdk_33_method_12_code 120 = .ok (.ireturn, 1) := by decide +kernel
theorem d_jdk_33_13_0 : decode jdk_33_method_13_code 0 = .ok (.iconst 1, 1) := by decide +kernel
theorem d_jdk_33_13_1 : decode jdk_33_method_13_code 1 = .ok (.istore_n 1, 1) := by decide +kernel
theorem d_jdk_33_13_2 : decode jdk_33_method_13_code 2 = .ok (.iload_n 0, 1) := by decide +kernel
theorem d_jdk_33_13_3 : decode jdk_33_method_13_code 3 = .ok (.ifCond .lt 8, 3) := by decide +kernel
theorem d_jdk_33_13_6 : decode jdk_33_method_13_code 6 = .ok (.iconst 0, 1) := by decide +kernel
theorem d_jdk_33_13_7 : decode jdk_33_method_13_code 7 = .ok (.istore_n 1, 1) := by decide +kernel
theorem d_jdk_33_13_8 : decode jdk_33_method_13_code 8 = .ok (.iload_n 0, 1) := by decide +kernel
theorem d_jdk_33_13_9 : decode jdk_33_method_13_code 9 = .ok (.ineg, 1) := by decide +kernel
theorem d_jdk_33_13_10 : decode jdk_33_method_13_code 10 = .ok (.istore_n 0, 1) := by decide +kernel
theorem d_jdk_33_13_11 : decode jdk_33_method_13_code 11 = .ok (.bipush (-10), 2) := by decide +kernel
theorem d_jdk_33_13_13 : decode jdk_33_method_13_code 13 = .ok (.istore_n 2, 1) := by decide +kernel
theorem d_jdk_33_13_14 : decode jdk_33_method_13_code 14 = .ok (.iconst 1, 1) := by decide +kernel
theorem d_jdk_33_13_15 : decode jdk_33_method_13_code 15 = .ok (.istore_n 3, 1) := by decide +kernel
theorem d_jdk_33_13_16 : decode jdk_33_method_13_code 16 = .ok (.iload_n 3, 1) := by decide +kernel
theorem d_jdk_33_13_17 : decode jdk_33_method_13_code 17 = .ok (.bipush 10, 2) := by decide +kernel
theorem d_jdk_33_13_19 : decode jdk_33_method_13_code 19 = .ok (.if_icmp .ge 23, 3) := by decide +kernel
theorem d_jdk_33_13_22 : decode jdk_33_method_13_code 22 = .ok (.iload_n 0, 1) := by decide +kernel
theorem d_jdk_33_13_23 : decode jdk_33_method_13_code 23 = .ok (.iload_n 2, 1) := by decide +kernel
theorem d_jdk_33_13_24 : decode jdk_33_method_13_code 24 = .ok (.if_icmp .le 7, 3) := by decide +kernel
theorem d_jdk_33_13_27 : decode jdk_33_method_13_code 27 = .ok (.iload_n 3, 1) := by decide +kernel
theorem d_jdk_33_13_28 : decode jdk_33_method_13_code 28 = .ok (.iload_n 1, 1) := by decide +kernel
theorem d_jdk_33_13_29 : decode jdk_33_method_13_code 29 = .ok (.iadd, 1) := by decide +kernel
theorem d_jdk_33_13_30 : decode jdk_33_method_13_code 30 = .ok (.ireturn, 1) := by decide +kernel
theorem d_jdk_33_13_31 : decode jdk_33_method_13_code 31 = .ok (.bipush 10, 2) := by decide +kernel
theorem d_jdk_33_13_33 : decode jdk_33_method_13_code 33 = .ok (.iload_n 2, 1) := by decide +kernel
theorem d_jdk_33_13_34 : decode jdk_33_method_13_code 34 = .ok (.imul, 1) := by decide +kernel
theorem d_jdk_33_13_35 : decode jdk_33_method_13_code 35 = .ok (.istore_n 2, 1) := by decide +kernel
theorem d_jdk_33_13_36 : decode jdk_33_method_13_code 36 = .ok (.iinc 3 1, 3) := by decide +kernel
theorem d_jdk_33_13_39 : decode jdk_33_method_13_code 39 = .ok (.goto (-23), 3) := by decide +kernel
theorem d_jdk_41_11_0 : decode jdk_41_method_11_code 0 = .ok (.iload_n 0, 1) := by decide +kernel
theorem d_jdk_41_11_1 : decode jdk_41_method_11_code 1 = .ok (.ifCond .lt 8, 3) := by decide +kernel
theorem d_jdk_41_11_4 : decode jdk_41_method_11_code 4 = .ok (.iload_n 0, 1) := by decide +kernel
theorem d_jdk_41_11_5 : decode jdk_41_method_11_code 5 = .ok (.iload_n 1, 1) := by decide +kernel
theorem d_jdk_41_11_6 : decode jdk_41_method_11_code 6 = .ok (.if_icmp .lt 10, 3) := by decide +kernel
theorem d_jdk_41_11_16 : decode jdk_41_method_11_code 16 = .ok (.iload_n 0, 1) := by decide +kernel
theorem d_jdk_41_11_17 : decode jdk_41_method_11_code 17 = .ok (.ireturn, 1) := by decide +kernel
theorem d_jdk_42_147_0 : decode jdk_42_method_147_code 0 = .ok (.aload_n 0, 1) := by decide +kernel
theorem d_jdk_42_147_1 : decode jdk_42_method_147_code 1 = .ok (.invokevirtual 335, 3) := by decide +kernel
theorem d_jdk_42_147_4 : decode jdk_42_method_147_code 4 = .ok (.iload_n 3, 1) := by decide +kernel
theorem d_jdk_42_147_5 : decode jdk_42_method_147_code 5 = .ok (.if_icmp .ne 23, 3) := by decide +kernel
theorem d_jdk_42_147_8 : decode jdk_42_method_147_code 8 = .ok (.aload_n 0, 1) := by decide +kernel
theorem d_jdk_42_147_9 : decode jdk_42_method_147_code 9 = .ok (.getfield 9, 3) := by decide +kernel
theorem d_jdk_42_147_12 : decode jdk_42_method_147_code 12 = .ok (.iconst 0, 1) := by decide +kernel
theorem d_jdk_42_147_13 : decode jdk_42_method_147_code 13 = .ok (.aload_n 1, 1) := by decide +kernel
theorem d_jdk_42_147_14 : decode jdk_42_method_147_code 14 = .ok (.iload_n 2, 1) := by decide +kernel
theorem d_jdk_42_147_15 : decode jdk_42_method_147_code 15 = .ok (.iload_n 3, 1) := by decide +kernel
theorem d_jdk_42_147_16 : decode jdk_42_method_147_code 16 = .ok (.ishl, 1) := by decide +kernel
theorem d_jdk_42_147_17 : decode jdk_42_method_147_code 17 = .ok (.aload_n 0, 1) := by decide +kernel
theorem d_jdk_42_147_18 : decode jdk_42_method_147_code 18 = .ok (.getfield 9, 3) := by decide +kernel
theorem d_jdk_42_147_21 : decode jdk_42_method_147_code 21 = .ok (.arraylength, 1) := by decide +kernel
theorem d_jdk_42_147_22 : decode jdk_42_method_147_code 22 = .ok (.invokestatic 212, 3) := by decide +kernel
theorem d_jdk_42_147_25 : decode jdk_42_method_147_code 25 = .ok (.goto 18, 3) := by decide +kernel
theorem d_jdk_42_147_43 : decode jdk_42_method_147_code 43 = .ok (.return_, 1) := by decide +kernel
theorem d_jdk_42_149_0 : decode jdk_42_method_149_code 0 = .ok (.aload_n 0, 1) := by decide +kernel
theorem d_jdk_42_149_1 : decode jdk_42_method_149_code 1 = .ok (.invokespecial 1, 3) := by decide +kernel
theorem d_jdk_42_149_4 : decode jdk_42_method_149_code 4 = .ok (.iload_n 3, 1) := by decide +kernel
theorem d_jdk_42_149_5 : decode jdk_42_method_149_code 5 = .ok (.ifCond .ne 22, 3) := by decide +kernel
theorem d_jdk_42_149_27 : decode jdk_42_method_149_code 27 = .ok (.getstatic 38, 3) := by decide +kernel
theorem d_jdk_42_149_30 : decode jdk_42_method_149_code 30 = .ok (.ifCond .eq 28, 3) := by decide +kernel
theorem d_jdk_42_149_33 : decode jdk_42_method_149_code 33 = .ok (.aload_n 1, 1) := by decide +kernel
theorem d_jdk_42_149_34 : decode jdk_42_method_149_code 34 = .ok (.iload_n 2, 1) := by decide +kernel
theorem d_jdk_42_149_35 : decode jdk_42_method_149_code 35 = .ok (.iload_n 3, 1) := by decide +kernel
theorem d_jdk_42_149_36 : decode jdk_42_method_149_code 36 = .ok (.invokestatic 177, 3) := by decide +kernel
theorem d_jdk_42_149_39 : decode jdk_42_method_149_code 39 = .ok (.astore 5, 2) := by decide +kernel
theorem d_jdk_42_149_41 : decode jdk_42_method_149_code 41 = .ok (.aload_n 0, 1) := by decide +kernel
theorem d_jdk_42_149_42 : decode jdk_42_method_149_code 42 = .ok (.aload 5, 2) := by decide +kernel
theorem d_jdk_42_149_44 : decode jdk_42_method_149_code 44 = .ok (.iload_n 3, 1) := by decide +kernel
theorem d_jdk_42_149_45 : decode jdk_42_method_149_code 45 = .ok (.invokestatic 47, 3) := by decide +kernel
theorem d_jdk_42_149_48 : decode jdk_42_method_149_code 48 = .ok (.putfield 15, 3) := by decide +kernel
theorem d_jdk_42_149_51 : decode jdk_42_method_149_code 51 = .ok (.aload_n 0, 1) := by decide +kernel
theorem d_jdk_42_149_52 : decode jdk_42_method_149_code 52 = .ok (.aload 5, 2) := by decide +kernel
theorem d_jdk_42_149_54 : decode jdk_42_method_149_code 54 = .ok (.putfield 9, 3) := by decide +kernel
theorem d_jdk_42_149_57 : decode jdk_42_method_149_code 57 = .ok (.return_, 1) := by decide +kernel
theorem d_jdk_42_150_0 : decode jdk_42_method_150_code 0 = .ok (.aload_n 0, 1) := by decide +kernel
theorem d_jdk_42_150_1 : decode jdk_42_method_150_code 1 = .ok (.invokespecial 1, 3) := by decide +kernel
theorem d_jdk_42_150_4 : decode jdk_42_method_150_code 4 = .ok (.aload_n 1, 1) := by decide +kernel
theorem d_jdk_42_150_5 : decode jdk_42_method_150_code 5 = .ok (.invokevirtual 552, 3) := by decide +kernel
theorem d_jdk_42_150_8 : decode jdk_42_method_150_code 8 = .ok (.astore_n 3, 1) := by decide +kernel
theorem d_jdk_42_150_9 : decode jdk_42_method_150_code 9 = .ok (.aload_n 1, 1) := by decide +kernel
theorem d_jdk_42_150_10 : decode jdk_42_method_150_code 10 = .ok (.invokevirtual 549, 3) := by decide +kernel
theorem d_jdk_42_150_13 : decode jdk_42_method_150_code 13 = .ok (.istore 4, 2) := by decide +kernel
theorem d_jdk_42_150_15 : decode jdk_42_method_150_code 15 = .ok (.aload_n 1, 1) := by decide +kernel
theorem d_jdk_42_150_16 : decode jdk_42_method_150_code 16 = .ok (.invokevirtual 1047, 3) := by decide +kernel
theorem d_jdk_42_150_19 : decode jdk_42_method_150_code 19 = .ok (.ifCond .eq 22, 3) := by decide +kernel
theorem d_jdk_42_150_22 : decode jdk_42_method_150_code 22 = .ok (.aload_n 0, 1) := by decide +kernel
theorem d_jdk_42_150_23 : decode jdk_42_method_150_code 23 = .ok (.iconst 0, 1) := by decide +kernel
theorem d_jdk_42_150_24 : decode jdk_42_method_150_code 24 = .ok (.putfield 15, 3) := by decide +kernel
theorem d_jdk_42_150_27 : decode jdk_42_method_150_code 27 = .ok (.aload_n 0, 1) := by decide +kernel
theorem d_jdk_42_150_28 : decode jdk_42_method_150_code 28 = .ok (.aload_n 3, 1) := by decide +kernel
theorem d_jdk_42_150_29 : decode jdk_42_method_150_code 29 = .ok (.iconst 0, 1) := by decide +kernel
theorem d_jdk_42_150_30 : decode jdk_42_method_150_code 30 = .ok (.iload 4, 2) := by decide +kernel
theorem d_jdk_42_150_32 : decode jdk_42_method_150_code 32 = .ok (.invokestatic 54, 3) := by decide +kernel
theorem d_jdk_42_150_35 : decode jdk_42_method_150_code 35 = .ok (.putfield 9, 3) := by decide +kernel
theorem d_jdk_42_150_38 : decode jdk_42_method_150_code 38 = .ok (.goto 59, 3) := by decide +kernel
theorem d_jdk_42_150_97 : decode jdk_42_method_150_code 97 = .ok (.return_, 1) := by decide +kernel
theorem d_jdk_42_152_0 : decode jdk_42_method_152_code 0 = .ok (.getstatic 38, 3) := by decide +kernel
theorem d_jdk_42_152_3 : decode jdk_42_method_152_code 3 = .ok (.ifCond .eq 10, 3) := by decide +kernel
theorem d_jdk_42_152_6 : decode jdk_42_method_152_code 6 = .ok (.aload_n 0, 1) := by decide +kernel
theorem d_jdk_42_152_7 : decode jdk_42_method_152_code 7 = .ok (.getfield 15, 3) := by decide +kernel
theorem d_jdk_42_152_10 : decode jdk_42_method_152_code 10 = .ok (.goto 4, 3) := by decide +kernel
theorem d_jdk_42_152_14 : decode jdk_42_method_152_code 14 = .ok (.ireturn, 1) := by decide +kernel
theorem d_jdk_42_154_0 : decode jdk_42_method_154_code 0 = .ok (.getstatic 38, 3) := by decide +kernel
theorem d_jdk_42_154_3 : decode jdk_42_method_154_code 3 = .ok (.ifCond .eq 14, 3) := by decide +kernel
theorem d_jdk_42_154_6 : decode jdk_42_method_154_code 6 = .ok (.aload_n 0, 1) := by decide +kernel
theorem d_jdk_42_154_7 : decode jdk_42_method_154_code 7 = .ok (.getfield 15, 3) := by decide +kernel
theorem d_jdk_42_154_10 : decode jdk_42_method_154_code 10 = .ok (.ifCond .ne 7, 3) := by decide +kernel
theorem d_jdk_42_154_13 : decode jdk_42_method_154_code 13 = .ok (.iconst 1, 1) := by decide +kernel
theorem d_jdk_42_154_14 : decode jdk_42_method_154_code 14 = .ok (.goto 4, 3) := by decide +kernel
theorem d_jdk_42_154_18 : decode jdk_42_method_154_code 18 = .ok (.ireturn, 1) := by decide +kernel
theorem d_jdk_42_155_0 : decode jdk_42_method_155_code 0 = .ok (.iload_n 0, 1) := by decide +kernel
theorem d_jdk_42_155_1 : decode jdk_42_method_155_code 1 = .ok (.iload_n 1, 1) := by decide +kernel
theorem d_jdk_42_155_2 : decode jdk_42_method_155_code 2 = .ok (.getstatic 1053, 3) := by decide +kernel
theorem d_jdk_42_155_5 : decode jdk_42_method_155_code 5 = .ok (.invokestatic 1059, 3) := by decide +kernel
theorem d_jdk_42_155_8 : decode jdk_42_method_155_code 8 = .ok (.pop, 1) := by decide +kernel
theorem d_jdk_42_155_9 : decode jdk_42_method_155_code 9 = .ok (.return_, 1) := by decide +kernel
theorem d_jdk_42_3_0 : decode jdk_42_method_3_code 0 = .ok (.aload_n 0, 1) := by decide +kernel
theorem d_jdk_42_3_1 : decode jdk_42_method_3_code 1 = .ok (.aload_n 1, 1) := by decide +kernel
theorem d_jdk_42_3_2 : decode jdk_42_method_3_code 2 = .ok (.iconst 0, 1) := by decide +kernel
theorem d_jdk_42_3_3 : decode jdk_42_method_3_code 3 = .ok (.aload_n 1, 1) := by decide +kernel
theorem d_jdk_42_3_4 : decode jdk_42_method_3_code 4 = .ok (.arraylength, 1) := by decide +kernel
theorem d_jdk_42_3_5 : decode jdk_42_method_3_code 5 = .ok (.aconst_null, 1) := by decide +kernel
theorem d_jdk_42_3_6 : decode jdk_42_method_3_code 6 = .ok (.invokespecial 27, 3) := by decide +kernel
theorem d_jdk_42_3_9 : decode jdk_42_method_3_code 9 = .ok (.return_, 1) := by decide +kernel
theorem d_jdk_42_53_0 : decode jdk_42_method_53_code 0 = .ok (.aload_n 0, 1) := by decide +kernel
theorem d_jdk_42_53_1 : decode jdk_42_method_53_code 1 = .ok (.aload_n 1, 1) := by decide +kernel
theorem d_jdk_42_53_2 : decode jdk_42_method_53_code 2 = .ok (.aconst_null, 1) := by decide +kernel
theorem d_jdk_42_53_3 : decode jdk_42_method_53_code 3 = .ok (.invokespecial 489, 3) := by decide +kernel
theorem d_jdk_42_53_6 : decode jdk_42_method_53_code 6 = .ok (.return_, 1) := by decide +kernel
theorem d_jdk_42_54_0 : decode jdk_42_method_54_code 0 = .ok (.aload_n 0, 1) := by decide +kernel
theorem d_jdk_42_54_1 : decode jdk_42_method_54_code 1 = .ok (.getfield 9, 3) := by decide +kernel
theorem d_jdk_42_54_4 : decode jdk_42_method_54_code 4 = .ok (.arraylength, 1) := by decide +kernel
theorem d_jdk_42_54_5 : decode jdk_42_method_54_code 5 = .ok (.aload_n 0, 1) := by decide +kernel
theorem d_jdk_42_54_6 : decode jdk_42_method_54_code 6 = .ok (.invokevirtual 335, 3) := by decide +kernel
theorem d_jdk_42_54_9 : decode jdk_42_method_54_code 9 = .ok (.ishr, 1) := by decide +kernel
theorem d_jdk_42_54_10 : decode jdk_42_method_54_code 10 = .ok (.ireturn, 1) := by decide +kernel
theorem d_jdk_42_55_0 : decode jdk_42_method_55_code 0 = .ok (.aload_n 0, 1) := by decide +kernel
theorem d_jdk_42_55_1 : decode jdk_42_method_55_code 1 = .ok (.getfield 9, 3) := by decide +kernel
theorem d_jdk_42_55_4 : decode jdk_42_method_55_code 4 = .ok (.arraylength, 1) := by decide +kernel
theorem d_jdk_42_55_5 : decode jdk_42_method_55_code 5 = .ok (.ifCond .ne 7, 3) := by decide +kernel
theorem d_jdk_42_55_8 : decode jdk_42_method_55_code 8 = .ok (.iconst 1, 1) := by decide +kernel
theorem d_jdk_42_55_9 : decode jdk_42_method_55_code 9 = .ok (.goto 4, 3) := by decide +kernel
theorem d_jdk_42_55_12 : decode jdk_42_method_55_code 12 = .ok (.iconst 0, 1) := by decide +kernel
theorem d_jdk_42_55_13 : decode jdk_42_method_55_code 13 = .ok (.ireturn, 1) := by decide +kernel
theorem d_jdk_42_56_0 : decode jdk_42_method_56_code 0 = .ok (.aload_n 0, 1) := by decide +kernel
theorem d_jdk_42_56_1 : decode jdk_42_method_56_code 1 = .ok (.invokevirtual 492, 3) := by decide +kernel
theorem d_jdk_42_56_4 : decode jdk_42_method_56_code 4 = .ok (.ifCond .eq 12, 3) := by decide +kernel
theorem d_jdk_42_56_7 : decode jdk_42_method_56_code 7 = .ok (.aload_n 0, 1) := by decide +kernel
theorem d_jdk_42_56_8 : decode jdk_42_method_56_code 8 = .ok (.getfield 9, 3) := by decide +kernel
theorem d_jdk_42_56_11 : decode jdk_42_method_56_code 11 = .ok (.iload_n 1, 1) := by decide +kernel
theorem d_jdk_42_56_12 : decode jdk_42_method_56_code 12 = .ok (.invokestatic 495, 3) := by decide +kernel
theorem d_jdk_42_56_15 : decode jdk_42_method_56_code 15 = .ok (.ireturn, 1) := by decide +kernel
theorem d_jdk_43_2_0 : decode jdk_43_method_2_code 0 = .ok (.iload_n 1, 1) := by decide +kernel
theorem d_jdk_43_2_1 : decode jdk_43_method_2_code 1 = .ok (.aload_n 0, 1) := by decide +kernel
theorem d_jdk_43_2_2 : decode jdk_43_method_2_code 2 = .ok (.arraylength, 1) := by decide +kernel
theorem d_jdk_43_2_3 : decode jdk_43_method_2_code 3 = .ok (.invokestatic 9, 3) := by decide +kernel
theorem d_jdk_43_2_6 : decode jdk_43_method_2_code 6 = .ok (.aload_n 0, 1) := by decide +kernel
theorem d_jdk_43_2_7 : decode jdk_43_method_2_code 7 = .ok (.iload_n 1, 1) := by decide +kernel
theorem d_jdk_43_2_8 : decode jdk_43_method_2_code 8 = .ok (.baload, 1) := by decide +kernel
theorem d_jdk_43_2_9 : decode jdk_43_method_2_code 9 = .ok (.sipush 255, 3) := by decide +kernel
theorem d_jdk_43_2_12 : decode jdk_43_method_2_code 12 = .ok (.iand, 1) := by decide +kernel
theorem d_jdk_43_2_13 : decode jdk_43_method_2_code 13 = .ok (.i2c, 1) := by decide +kernel
theorem d_jdk_43_2_14 : decode jdk_43_method_2_code 14 = .ok (.ireturn, 1) := by decide +kernel
theorem d_jdk_48_27_0 : decode jdk_48_method_27_code 0 = .ok (.iload_n 0, 1) := by decide +kernel
theorem d_jdk_48_27_1 : decode jdk_48_method_27_code 1 = .ok (.iload_n 1, 1) := by decide +kernel
theorem d_jdk_48_27_2 : decode jdk_48_method_27_code 2 = .ok (.iload_n 2, 1) := by decide +kernel
theorem d_jdk_48_27_3 : decode jdk_48_method_27_code 3 = .ok (.invokestatic 194, 3) := by decide +kernel
theorem d_jdk_48_27_6 : decode jdk_48_method_27_code 6 = .ok (.iadd, 1) := by decide +kernel
theorem d_jdk_48_27_7 : decode jdk_48_method_27_code 7 = .ok (.istore_n 3, 1) := by decide +kernel
theorem d_jdk_48_27_8 : decode jdk_48_method_27_code 8 = .ok (.iconst 0, 1) := by decide +kernel
theorem d_jdk_48_27_9 : decode jdk_48_method_27_code 9 = .ok (.iload_n 3, 1) := by decide +kernel
theorem d_jdk_48_27_10 : decode jdk_48_method_27_code 10 = .ok (.if_icmp .ge 11, 3) := by decide +kernel
theorem d_jdk_48_27_13 : decode jdk_48_method_27_code 13 = .ok (.iload_n 3, 1) := by decide +kernel
theorem d_jdk_48_27_14 : decode jdk_48_method_27_code 14 = .ok (.ldc 200, 2) := by decide +kernel
theorem d_jdk_48_27_16 : decode jdk_48_method_27_code 16 = .ok (.if_icmp .gt 5, 3) := by decide +kernel
theorem d_jdk_48_27_19 : decode jdk_48_method_27_code 19 = .ok (.iload_n 3, 1) := by decide +kernel
theorem d_jdk_48_27_20 : decode jdk_48_method_27_code 20 = .ok (.ireturn, 1) := by decide +kernel
theorem d_jdk_52_15_0 : decode jdk_52_method_15_code 0 = .ok (.iload_n 1, 1) := by decide +kernel
theorem d_jdk_52_15_1 : decode jdk_52_method_15_code 1 = .ok (.aload_n 0, 1) := by decide +kernel
theorem d_jdk_52_15_2 : decode jdk_52_method_15_code 2 = .ok (.arraylength, 1) := by decide +kernel
theorem d_jdk_52_15_3 : decode jdk_52_method_15_code 3 = .ok (.isub, 1) := by decide +kernel
theorem d_jdk_52_15_4 : decode jdk_52_method_15_code 4 = .ok (.bipush 31, 2) := by decide +kernel
theorem d_jdk_52_15_6 : decode jdk_52_method_15_code 6 = .ok (.iushr, 1) := by decide +kernel
theorem d_jdk_52_15_7 : decode jdk_52_method_15_code 7 = .ok (.i2b, 1) := by decide +kernel
theorem d_jdk_52_15_8 : decode jdk_52_method_15_code 8 = .ok (.ireturn, 1) := by decide +kernel
theorem d_jdk_52_16_0 : decode jdk_52_method_16_code 0 = .ok (.iload_n 2, 1) := by decide +kernel
theorem d_jdk_52_16_1 : decode jdk_52_method_16_code 1 = .ok (.newarray .byte, 2) := by decide +kernel
theorem d_jdk_52_16_3 : decode jdk_52_method_16_code 3 = .ok (.astore_n 3, 1) := by decide +kernel
theorem d_jdk_52_16_4 : decode jdk_52_method_16_code 4 = .ok (.aload_n 0, 1) := by decide +kernel
theorem d_jdk_52_16_5 : decode jdk_52_method_16_code 5 = .ok (.iload_n 1, 1) := by decide +kernel
theorem d_jdk_52_16_6 : decode jdk_52_method_16_code 6 = .ok (.aload_n 3, 1) := by decide +kernel
theorem d_jdk_52_16_7 : decode jdk_52_method_16_code 7 = .ok (.iconst 0, 1) := by decide +kernel
theorem d_jdk_52_16_8 : decode jdk_52_method_16_code 8 = .ok (.iload_n 2, 1) := by decide +kernel
theorem d_jdk_52_16_9 : decode jdk_52_method_16_code 9 = .ok (.invokestatic 115, 3) := by decide +kernel
theorem d_jdk_52_16_12 : decode jdk_52_method_16_code 12 = .ok (.istore 4, 2) := by decide +kernel
theorem d_jdk_52_16_14 : decode jdk_52_method_16_code 14 = .ok (.iload 4, 2) := by decide +kernel
theorem d_jdk_52_16_16 : decode jdk_52_method_16_code 16 = .ok (.iload_n 2, 1) := by decide +kernel
theorem d_jdk_52_16_17 : decode jdk_52_method_16_code 17 = .ok (.if_icmp .eq 40, 3) := by decide +kernel
theorem d_jdk_52_16_57 : decode jdk_52_method_16_code 57 = .ok (.aload_n 3, 1) := by decide +kernel
theorem d_jdk_52_16_58 : decode jdk_52_method_16_code 58 = .ok (.areturn, 1) := by decide +kernel
theorem d_jdk_52_21_0 : decode jdk_52_method_21_code 0 = .ok (.iconst 0, 1) := by decide +kernel
theorem d_jdk_52_21_1 : decode jdk_52_method_21_code 1 = .ok (.istore 5, 2) := by decide +kernel
theorem d_jdk_52_21_3 : decode jdk_52_method_21_code 3 = .ok (.iload 5, 2) := by decide +kernel
theorem d_jdk_52_21_5 : decode jdk_52_method_21_code 5 = .ok (.iload 4, 2) := by decide +kernel
theorem d_jdk_52_21_7 : decode jdk_52_method_21_code 7 = .ok (.if_icmp .ge 37, 3) := by decide +kernel
theorem d_jdk_52_21_10 : decode jdk_52_method_21_code 10 = .ok (.aload_n 0, 1) := by decide +kernel
theorem d_jdk_52_21_11 : decode jdk_52_method_21_code 11 = .ok (.iload_n 1, 1) := by decide +kernel
theorem d_jdk_52_21_12 : decode jdk_52_method_21_code 12 = .ok (.caload, 1) := by decide +kernel
theorem d_jdk_52_21_13 : decode jdk_52_method_21_code 13 = .ok (.istore 6, 2) := by decide +kernel
theorem d_jdk_52_21_15 : decode jdk_52_method_21_code 15 = .ok (.iload 6, 2) := by decide +kernel
theorem d_jdk_52_21_17 : decode jdk_52_method_21_code 17 = .ok (.sipush 255, 3) := by decide +kernel
theorem d_jdk_52_21_20 : decode jdk_52_method_21_code 20 = .ok (.if_icmp .le 6, 3) := by decide +kernel
theorem d_jdk_52_21_26 : decode jdk_52_method_21_code 26 = .ok (.aload_n 2, 1) := by decide +kernel
theorem d_jdk_52_21_27 : decode jdk_52_method_21_code 27 = .ok (.iload_n 3, 1) := by decide +kernel
theorem d_jdk_52_21_28 : decode jdk_52_method_21_code 28 = .ok (.iload 6, 2) := by decide +kernel
theorem d_jdk_52_21_30 : decode jdk_52_method_21_code 30 = .ok (.i2b, 1) := by decide +kernel
theorem d_jdk_52_21_31 : decode jdk_52_method_21_code 31 = .ok (.bastore, 1) := by decide +kernel
theorem d_jdk_52_21_32 : decode jdk_52_method_21_code 32 = .ok (.iinc 1 1, 3) := by decide +kernel
theorem d_jdk_52_21_35 : decode jdk_52_method_21_code 35 = .ok (.iinc 3 1, 3) := by decide +kernel
theorem d_jdk_52_21_38 : decode jdk_52_method_21_code 38 = .ok (.iinc 5 1, 3) := by decide +kernel
theorem d_jdk_52_21_41 : decode jdk_52_method_21_code 41 = .ok (.goto (-38), 3) := by decide +kernel
theorem d_jdk_52_21_44 : decode jdk_52_method_21_code 44 = .ok (.iload 4, 2) := by decide +kernel
theorem d_jdk_52_21_46 : decode jdk_52_method_21_code 46 = .ok (.ireturn, 1) := by decide +kernel
theorem d_jdk_65_121_0 : decode jdk_65_method_121_code 0 = .ok (.iload_n 1, 1) := by decide +kernel
theorem d_jdk_65_121_1 : decode jdk_65_method_121_code 1 = .ok (.aload_n 0, 1) := by decide +kernel
theorem d_jdk_65_121_2 : decode jdk_65_method_121_code 2 = .ok (.arraylength, 1) := by decide +kernel
theorem d_jdk_65_121_3 : decode jdk_65_method_121_code 3 = .ok (.if_icmp .ne 11, 3) := by decide +kernel
theorem d_jdk_65_121_14 : decode jdk_65_method_121_code 14 = .ok (.iload_n 1, 1) := by decide +kernel
theorem d_jdk_65_121_15 : decode jdk_65_method_121_code 15 = .ok (.newarray .byte, 2) := by decide +kernel
theorem d_jdk_65_121_17 : decode jdk_65_method_121_code 17 = .ok (.astore_n 2, 1) := by decide +kernel
theorem d_jdk_65_121_18 : decode jdk_65_method_121_code 18 = .ok (.aload_n 0, 1) := by decide +kernel
theorem d_jdk_65_121_19 : decode jdk_65_method_121_code 19 = .ok (.iconst 0, 1) := by decide +kernel
theorem d_jdk_65_121_20 : decode jdk_65_method_121_code 20 = .ok (.aload_n 2, 1) := by decide +kernel
theorem d_jdk_65_121_21 : decode jdk_65_method_121_code 21 = .ok (.iconst 0, 1) := by decide +kernel
theorem d_jdk_65_121_22 : decode jdk_65_method_121_code 22 = .ok (.aload_n 0, 1) := by decide +kernel
theorem d_jdk_65_121_23 : decode jdk_65_method_121_code 23 = .ok (.arraylength, 1) := by decide +kernel
theorem d_jdk_65_121_24 : decode jdk_65_method_121_code 24 = .ok (.iload_n 1, 1) := by decide +kernel
theorem d_jdk_65_121_25 : decode jdk_65_method_121_code 25 = .ok (.invokestatic 304, 3) := by decide +kernel
theorem d_jdk_65_121_28 : decode jdk_65_method_121_code 28 = .ok (.invokestatic 150, 3) := by decide +kernel
theorem d_jdk_65_121_31 : decode jdk_65_method_121_code 31 = .ok (.aload_n 2, 1) := by decide +kernel
theorem d_jdk_65_121_32 : decode jdk_65_method_121_code 32 = .ok (.areturn, 1) := by decide +kernel
theorem d_jdk_65_131_0 : decode jdk_65_method_131_code 0 = .ok (.iload_n 1, 1) := by decide +kernel
theorem d_jdk_65_131_1 : decode jdk_65_method_131_code 1 = .ok (.iload_n 0, 1) := by decide +kernel
theorem d_jdk_65_131_2 : decode jdk_65_method_131_code 2 = .ok (.if_icmp .ge 35, 3) := by decide +kernel
theorem d_jdk_65_131_37 : decode jdk_65_method_131_code 37 = .ok (.return_, 1) := by decide +kernel
theorem d_jdk_65_132_0 : decode jdk_65_method_132_code 0 = .ok (.iload_n 1, 1) := by decide +kernel
theorem d_jdk_65_132_1 : decode jdk_65_method_132_code 1 = .ok (.ifCond .ne 9, 3) := by decide +kernel
theorem d_jdk_65_132_4 : decode jdk_65_method_132_code 4 = .ok (.iload_n 2, 1) := by decide +kernel
theorem d_jdk_65_132_5 : decode jdk_65_method_132_code 5 = .ok (.aload_n 0, 1) := by decide +kernel
theorem d_jdk_65_132_6 : decode jdk_65_method_132_code 6 = .ok (.arraylength, 1) := by decide +kernel
theorem d_jdk_65_132_7 : decode jdk_65_method_132_code 7 = .ok (.if_icmp .eq 10, 3) := by decide +kernel
theorem d_jdk_65_132_10 : decode jdk_65_method_132_code 10 = .ok (.aload_n 0, 1) := by decide +kernel
theorem d_jdk_65_132_11 : decode jdk_65_method_132_code 11 = .ok (.iload_n 1, 1) := by decide +kernel
theorem d_jdk_65_132_12 : decode jdk_65_method_132_code 12 = .ok (.iload_n 2, 1) := by decide +kernel
theorem d_jdk_65_132_13 : decode jdk_65_method_132_code 13 = .ok (.invokestatic 339, 3) := by decide +kernel
theorem d_jdk_65_132_16 : decode jdk_65_method_132_code 16 = .ok (.areturn, 1) := by decide +kernel
theorem d_jdk_65_133_0 : decode jdk_65_method_133_code 0 = .ok (.iload_n 1, 1) := by decide +kernel
theorem d_jdk_65_133_1 : decode jdk_65_method_133_code 1 = .ok (.iload_n 2, 1) := by decide +kernel
theorem d_jdk_65_133_2 : decode jdk_65_method_133_code 2 = .ok (.invokestatic 343, 3) := by decide +kernel
theorem d_jdk_65_133_5 : decode jdk_65_method_133_code 5 = .ok (.iload_n 2, 1) := by decide +kernel
theorem d_jdk_65_133_6 : decode jdk_65_method_133_code 6 = .ok (.iload_n 1, 1) := by decide +kernel
theorem d_jdk_65_133_7 : decode jdk_65_method_133_code 7 = .ok (.isub, 1) := by decide +kernel
theorem d_jdk_65_133_8 : decode jdk_65_method_133_code 8 = .ok (.istore_n 3, 1) := by decide +kernel
theorem d_jdk_65_133_9 : decode jdk_65_method_133_code 9 = .ok (.iload_n 3, 1) := by decide +kernel
theorem d_jdk_65_133_10 : decode jdk_65_method_133_code 10 = .ok (.newarray .byte, 2) := by decide +kernel
theorem d_jdk_65_133_12 : decode jdk_65_method_133_code 12 = .ok (.astore 4, 2) := by decide +kernel
theorem d_jdk_65_133_14 : decode jdk_65_method_133_code 14 = .ok (.aload_n 0, 1) := by decide +kernel
theorem d_jdk_65_133_15 : decode jdk_65_method_133_code 15 = .ok (.iload_n 1, 1) := by decide +kernel
theorem d_jdk_65_133_16 : decode jdk_65_method_133_code 16 = .ok (.aload 4, 2) := by decide +kernel
theorem d_jdk_65_133_18 : decode jdk_65_method_133_code 18 = .ok (.iconst 0, 1) := by decide +kernel
theorem d_jdk_65_133_19 : decode jdk_65_method_133_code 19 = .ok (.aload_n 0, 1) := by decide +kernel
theorem d_jdk_65_133_20 : decode jdk_65_method_133_code 20 = .ok (.arraylength, 1) := by decide +kernel
theorem d_jdk_65_133_21 : decode jdk_65_method_133_code 21 = .ok (.iload_n 1, 1) := by decide +kernel
theorem d_jdk_65_133_22 : decode jdk_65_method_133_code 22 = .ok (.isub, 1) := by decide +kernel
theorem d_jdk_65_133_23 : decode jdk_65_method_133_code 23 = .ok (.iload_n 3, 1) := by decide +kernel
theorem d_jdk_65_133_24 : decode jdk_65_method_133_code 24 = .ok (.invokestatic 304, 3) := by decide +kernel
theorem d_jdk_65_133_27 : decode jdk_65_method_133_code 27 = .ok (.invokestatic 150, 3) := by decide +kernel
theorem d_jdk_65_133_30 : decode jdk_65_method_133_code 30 = .ok (.aload 4, 2) := by decide +kernel
theorem d_jdk_65_133_32 : decode jdk_65_method_133_code 32 = .ok (.areturn, 1) := by decide +kernel
theorem d_jdk_67_15_0 : decode jdk_67_method_15_code 0 = .ok (.aload_n 0, 1) := by decide +kernel
theorem d_jdk_67_15_1 : decode jdk_67_method_15_code 1 = .ok (.iload_n 1, 1) := by decide +kernel
theorem d_jdk_67_15_2 : decode jdk_67_method_15_code 2 = .ok (.invokespecial 53, 3) := by decide +kernel
theorem d_jdk_67_15_5 : decode jdk_67_method_15_code 5 = .ok (.pop, 1) := by decide +kernel
theorem d_jdk_67_15_6 : decode jdk_67_method_15_code 6 = .ok (.aload_n 0, 1) := by decide +kernel
theorem d_jdk_67_15_7 : decode jdk_67_method_15_code 7 = .ok (.areturn, 1) := by decide +kernel
theorem d_jdk_67_1_0 : decode jdk_67_method_1_code 0 = .ok (.aload_n 0, 1) := by decide +kernel
theorem d_jdk_67_1_1 : decode jdk_67_method_1_code 1 = .ok (.bipush 16, 2) := by decide +kernel
theorem d_jdk_67_1_3 : decode jdk_67_method_1_code 3 = .ok (.invokespecial 1, 3) := by decide +kernel
theorem d_jdk_67_1_6 : decode jdk_67_method_1_code 6 = .ok (.return_, 1) := by decide +kernel
theorem d_jdk_67_42_0 : decode jdk_67_method_42_code 0 = .ok (.new 18, 3) := by decide +kernel
theorem d_jdk_67_42_3 : decode jdk_67_method_42_code 3 = .ok (.dup, 1) := by decide +kernel
theorem d_jdk_67_42_4 : decode jdk_67_method_42_code 4 = .ok (.aload_n 0, 1) := by decide +kernel
theorem d_jdk_67_42_5 : decode jdk_67_method_42_code 5 = .ok (.invokespecial 137, 3) := by decide +kernel
theorem d_jdk_67_42_8 : decode jdk_67_method_42_code 8 = .ok (.areturn, 1) := by decide +kernel
theorem d_jdk_67_7_0 : decode jdk_67_method_7_code 0 = .ok (.aload_n 0, 1) := by decide +kernel
theorem d_jdk_67_7_1 : decode jdk_67_method_7_code 1 = .ok (.aload_n 1, 1) := by decide +kernel
theorem d_jdk_67_7_2 : decode jdk_67_method_7_code 2 = .ok (.invokespecial 29, 3) := by decide +kernel
theorem d_jdk_67_7_5 : decode jdk_67_method_7_code 5 = .ok (.pop, 1) := by decide +kernel
theorem d_jdk_67_7_6 : decode jdk_67_method_7_code 6 = .ok (.aload_n 0, 1) := by decide +kernel
theorem d_jdk_67_7_7 : decode jdk_67_method_7_code 7 = .ok (.areturn, 1) := by decide +kernel
theorem d_jdk_67_93_0 : decode jdk_67_method_93_code 0 = .ok (.aload_n 0, 1) := by decide +kernel
theorem d_jdk_67_93_1 : decode jdk_67_method_93_code 1 = .ok (.invokespecial 343, 3) := by decide +kernel
theorem d_jdk_67_93_4 : decode jdk_67_method_93_code 4 = .ok (.ireturn, 1) := by decide +kernel
theorem d_jdk_68_10_0 : decode jdk_68_method_10_code 0 = .ok (.aload_n 0, 1) := by decide +kernel
theorem d_jdk_68_10_1 : decode jdk_68_method_10_code 1 = .ok (.getfield 15, 3) := by decide +kernel
theorem d_jdk_68_10_4 : decode jdk_68_method_10_code 4 = .ok (.arraylength, 1) := by decide +kernel
theorem d_jdk_68_10_5 : decode jdk_68_method_10_code 5 = .ok (.istore_n 2, 1) := by decide +kernel
theorem d_jdk_68_10_6 : decode jdk_68_method_10_code 6 = .ok (.iload_n 1, 1) := by decide +kernel
theorem d_jdk_68_10_7 : decode jdk_68_method_10_code 7 = .ok (.aload_n 0, 1) := by decide +kernel
theorem d_jdk_68_10_8 : decode jdk_68_method_10_code 8 = .ok (.getfield 22, 3) := by decide +kernel
theorem d_jdk_68_10_11 : decode jdk_68_method_10_code 11 = .ok (.ishl, 1) := by decide +kernel
theorem d_jdk_68_10_12 : decode jdk_68_method_10_code 12 = .ok (.istore_n 3, 1) := by decide +kernel
theorem d_jdk_68_10_13 : decode jdk_68_method_10_code 13 = .ok (.iload_n 3, 1) := by decide +kernel
theorem d_jdk_68_10_14 : decode jdk_68_method_10_code 14 = .ok (.iload_n 2, 1) := by decide +kernel
theorem d_jdk_68_10_15 : decode jdk_68_method_10_code 15 = .ok (.isub, 1) := by decide +kernel
theorem d_jdk_68_10_16 : decode jdk_68_method_10_code 16 = .ok (.istore 4, 2) := by decide +kernel
theorem d_jdk_68_10_18 : decode jdk_68_method_10_code 18 = .ok (.iload_n 2, 1) := by decide +kernel
theorem d_jdk_68_10_19 : decode jdk_68_method_10_code 19 = .ok (.iload 4, 2) := by decide +kernel
theorem d_jdk_68_10_21 : decode jdk_68_method_10_code 21 = .ok (.iload_n 2, 1) := by decide +kernel
theorem d_jdk_68_10_22 : decode jdk_68_method_10_code 22 = .ok (.iconst 2, 1) := by decide +kernel
theorem d_jdk_68_10_23 : decode jdk_68_method_10_code 23 = .ok (.aload_n 0, 1) := by decide +kernel
theorem d_jdk_68_10_24 : decode jdk_68_method_10_code 24 = .ok (.getfield 22, 3) := by decide +kernel
theorem d_jdk_68_10_27 : decode jdk_68_method_10_code 27 = .ok (.ishl, 1) := by decide +kernel
theorem d_jdk_68_10_28 : decode jdk_68_method_10_code 28 = .ok (.iadd, 1) := by decide +kernel
theorem d_jdk_68_10_29 : decode jdk_68_method_10_code 29 = .ok (.invokestatic 114, 3) := by decide +kernel
theorem d_jdk_68_10_32 : decode jdk_68_method_10_code 32 = .ok (.istore 5, 2) := by decide +kernel
theorem d_jdk_68_10_34 : decode jdk_68_method_10_code 34 = .ok (.iload 5, 2) := by decide +kernel
theorem d_jdk_68_10_36 : decode jdk_68_method_10_code 36 = .ok (.ldc 39, 2) := by decide +kernel
theorem d_jdk_68_10_38 : decode jdk_68_method_10_code 38 = .ok (.if_icmp .ne 13, 3) := by decide +kernel
theorem d_jdk_68_10_51 : decode jdk_68_method_10_code 51 = .ok (.iload 5, 2) := by decide +kernel
theorem d_jdk_68_10_53 : decode jdk_68_method_10_code 53 = .ok (.aload_n 0, 1) := by decide +kernel
theorem d_jdk_68_10_54 : decode jdk_68_method_10_code 54 = .ok (.getfield 22, 3) := by decide +kernel
theorem d_jdk_68_10_57 : decode jdk_68_method_10_code 57 = .ok (.ishr, 1) := by decide +kernel
theorem d_jdk_68_10_58 : decode jdk_68_method_10_code 58 = .ok (.ireturn, 1) := by decide +kernel
theorem d_jdk_68_22_0 : decode jdk_68_method_22_code 0 = .ok (.aload_n 1, 1) := by decide +kernel
theorem d_jdk_68_22_1 : decode jdk_68_method_22_code 1 = .ok (.ifnonnull 8, 3) := by decide +kernel
theorem d_jdk_68_22_9 : decode jdk_68_method_22_code 9 = .ok (.aload_n 1, 1) := by decide +kernel
theorem d_jdk_68_22_10 : decode jdk_68_method_22_code 10 = .ok (.invokevirtual 32, 3) := by decide +kernel
theorem d_jdk_68_22_13 : decode jdk_68_method_22_code 13 = .ok (.istore_n 2, 1) := by decide +kernel
theorem d_jdk_68_22_14 : decode jdk_68_method_22_code 14 = .ok (.aload_n 0, 1) := by decide +kernel
theorem d_jdk_68_22_15 : decode jdk_68_method_22_code 15 = .ok (.aload_n 0, 1) := by decide +kernel
theorem d_jdk_68_22_16 : decode jdk_68_method_22_code 16 = .ok (.getfield 79, 3) := by decide +kernel
theorem d_jdk_68_22_19 : decode jdk_68_method_22_code 19 = .ok (.iload_n 2, 1) := by decide +kernel
theorem d_jdk_68_22_20 : decode jdk_68_method_22_code 20 = .ok (.iadd, 1) := by decide +kernel
theorem d_jdk_68_22_21 : decode jdk_68_method_22_code 21 = .ok (.invokevirtual 100, 3) := by decide +kernel
theorem d_jdk_68_22_24 : decode jdk_68_method_22_code 24 = .ok (.aload_n 0, 1) := by decide +kernel
theorem d_jdk_68_22_25 : decode jdk_68_method_22_code 25 = .ok (.aload_n 0, 1) := by decide +kernel
theorem d_jdk_68_22_26 : decode jdk_68_method_22_code 26 = .ok (.getfield 79, 3) := by decide +kernel
theorem d_jdk_68_22_29 : decode jdk_68_method_22_code 29 = .ok (.aload_n 1, 1) := by decide +kernel
theorem d_jdk_68_22_30 : decode jdk_68_method_22_code 30 = .ok (.invokevirtual 208, 3) := by decide +kernel
theorem d_jdk_68_22_33 : decode jdk_68_method_22_code 33 = .ok (.aload_n 0, 1) := by decide +kernel
theorem d_jdk_68_22_34 : decode jdk_68_method_22_code 34 = .ok (.dup, 1) := by decide +kernel
theorem d_jdk_68_22_35 : decode jdk_68_method_22_code 35 = .ok (.getfield 79, 3) := by decide +kernel
theorem d_jdk_68_22_38 : decode jdk_68_method_22_code 38 = .ok (.iload_n 2, 1) := by decide +kernel
theorem d_jdk_68_22_39 : decode jdk_68_method_22_code 39 = .ok (.iadd, 1) := by decide +kernel
theorem d_jdk_68_22_40 : decode jdk_68_method_22_code 40 = .ok (.putfield 79, 3) := by decide +kernel
theorem d_jdk_68_22_43 : decode jdk_68_method_22_code 43 = .ok (.aload_n 0, 1) := by decide +kernel
theorem d_jdk_68_22_44 : decode jdk_68_method_22_code 44 = .ok (.areturn, 1) := by decide +kernel
theorem d_jdk_68_2_0 : decode jdk_68_method_2_code 0 = .ok (.aload_n 0, 1) := by decide +kernel
theorem d_jdk_68_2_1 : decode jdk_68_method_2_code 1 = .ok (.invokespecial 3, 3) := by decide +kernel
theorem d_jdk_68_2_4 : decode jdk_68_method_2_code 4 = .ok (.getstatic 18, 3) := by decide +kernel
theorem d_jdk_68_2_7 : decode jdk_68_method_2_code 7 = .ok (.ifCond .eq 18, 3) := by decide +kernel
theorem d_jdk_68_2_10 : decode jdk_68_method_2_code 10 = .ok (.aload_n 0, 1) := by decide +kernel
theorem d_jdk_68_2_11 : decode jdk_68_method_2_code 11 = .ok (.iload_n 1, 1) := by decide +kernel
theorem d_jdk_68_2_12 : decode jdk_68_method_2_code 12 = .ok (.newarray .byte, 2) := by decide +kernel
theorem d_jdk_68_2_14 : decode jdk_68_method_2_code 14 = .ok (.putfield 15, 3) := by decide +kernel
theorem d_jdk_68_2_17 : decode jdk_68_method_2_code 17 = .ok (.aload_n 0, 1) := by decide +kernel
theorem d_jdk_68_2_18 : decode jdk_68_method_2_code 18 = .ok (.iconst 0, 1) := by decide +kernel
theorem d_jdk_68_2_19 : decode jdk_68_method_2_code 19 = .ok (.putfield 22, 3) := by decide +kernel
theorem d_jdk_68_2_22 : decode jdk_68_method_2_code 22 = .ok (.goto 16, 3) := by decide +kernel
theorem d_jdk_68_2_38 : decode jdk_68_method_2_code 38 = .ok (.return_, 1) := by decide +kernel
theorem d_jdk_68_32_0 : decode jdk_68_method_32_code 0 = .ok (.aload_n 0, 1) := by decide +kernel
theorem d_jdk_68_32_1 : decode jdk_68_method_32_code 1 = .ok (.getfield 79, 3) := by decide +kernel
theorem d_jdk_68_32_4 : decode jdk_68_method_32_code 4 = .ok (.istore_n 2, 1) := by decide +kernel
theorem d_jdk_68_32_5 : decode jdk_68_method_32_code 5 = .ok (.iload_n 2, 1) := by decide +kernel
theorem d_jdk_68_32_6 : decode jdk_68_method_32_code 6 = .ok (.iload_n 1, 1) := by decide +kernel
theorem d_jdk_68_32_7 : decode jdk_68_method_32_code 7 = .ok (.invokestatic 245, 3) := by decide +kernel
theorem d_jdk_68_32_10 : decode jdk_68_method_32_code 10 = .ok (.iadd, 1) := by decide +kernel
theorem d_jdk_68_32_11 : decode jdk_68_method_32_code 11 = .ok (.istore_n 3, 1) := by decide +kernel
theorem d_jdk_68_32_12 : decode jdk_68_method_32_code 12 = .ok (.aload_n 0, 1) := by decide +kernel
theorem d_jdk_68_32_13 : decode jdk_68_method_32_code 13 = .ok (.iload_n 3, 1) := by decide +kernel
theorem d_jdk_68_32_14 : decode jdk_68_method_32_code 14 = .ok (.invokevirtual 100, 3) := by decide +kernel
theorem d_jdk_68_32_17 : decode jdk_68_method_32_code 17 = .ok (.aload_n 0, 1) := by decide +kernel
theorem d_jdk_68_32_18 : decode jdk_68_method_32_code 18 = .ok (.invokevirtual 83, 3) := by decide +kernel
theorem d_jdk_68_32_21 : decode jdk_68_method_32_code 21 = .ok (.ifCond .eq 16, 3) := by decide +kernel
theorem d_jdk_68_32_24 : decode jdk_68_method_32_code 24 = .ok (.iload_n 1, 1) := by decide +kernel
theorem d_jdk_68_32_25 : decode jdk_68_method_32_code 25 = .ok (.iload_n 3, 1) := by decide +kernel
theorem d_jdk_68_32_26 : decode jdk_68_method_32_code 26 = .ok (.aload_n 0, 1) := by decide +kernel
theorem d_jdk_68_32_27 : decode jdk_68_method_32_code 27 = .ok (.getfield 15, 3) := by decide +kernel
theorem d_jdk_68_32_30 : decode jdk_68_method_32_code 30 = .ok (.invokestatic 248, 3) := by decide +kernel
theorem d_jdk_68_32_33 : decode jdk_68_method_32_code 33 = .ok (.pop, 1) := by decide +kernel
theorem d_jdk_68_32_34 : decode jdk_68_method_32_code 34 = .ok (.goto 14, 3) := by decide +kernel
theorem d_jdk_68_32_48 : decode jdk_68_method_32_code 48 = .ok (.aload_n 0, 1) := by decide +kernel
theorem d_jdk_68_32_49 : decode jdk_68_method_32_code 49 = .ok (.iload_n 3, 1) := by decide +kernel
theorem d_jdk_68_32_50 : decode jdk_68_method_32_code 50 = .ok (.putfield 79, 3) := by decide +kernel
theorem d_jdk_68_32_53 : decode jdk_68_method_32_code 53 = .ok (.aload_n 0, 1) := by decide +kernel
theorem d_jdk_68_32_54 : decode jdk_68_method_32_code 54 = .ok (.areturn, 1) := by decide +kernel
theorem d_jdk_68_64_0 : decode jdk_68_method_64_code 0 = .ok (.aload_n 0, 1) := by decide +kernel
theorem d_jdk_68_64_1 : decode jdk_68_method_64_code 1 = .ok (.getfield 15, 3) := by decide +kernel
theorem d_jdk_68_64_4 : decode jdk_68_method_64_code 4 = .ok (.areturn, 1) := by decide +kernel
theorem d_jdk_68_68_0 : decode jdk_68_method_68_code 0 = .ok (.getstatic 18, 3) := by decide +kernel
theorem d_jdk_68_68_3 : decode jdk_68_method_68_code 3 = .ok (.ifCond .eq 14, 3) := by decide +kernel
theorem d_jdk_68_68_6 : decode jdk_68_method_68_code 6 = .ok (.aload_n 0, 1) := by decide +kernel
theorem d_jdk_68_68_7 : decode jdk_68_method_68_code 7 = .ok (.getfield 22, 3) := by decide +kernel
theorem d_jdk_68_68_10 : decode jdk_68_method_68_code 10 = .ok (.ifCond .ne 7, 3) := by decide +kernel
theorem d_jdk_68_68_13 : decode jdk_68_method_68_code 13 = .ok (.iconst 1, 1) := by decide +kernel
theorem d_jdk_68_68_14 : decode jdk_68_method_68_code 14 = .ok (.goto 4, 3) := by decide +kernel
theorem d_jdk_68_68_18 : decode jdk_68_method_68_code 18 = .ok (.ireturn, 1) := by decide +kernel
theorem d_jdk_68_6_0 : decode jdk_68_method_6_code 0 = .ok (.aload_n 0, 1) := by decide +kernel
theorem d_jdk_68_6_1 : decode jdk_68_method_6_code 1 = .ok (.getfield 79, 3) := by decide +kernel
theorem d_jdk_68_6_4 : decode jdk_68_method_6_code 4 = .ok (.ireturn, 1) := by decide +kernel
theorem d_jdk_68_71_0 : decode jdk_68_method_71_code 0 = .ok (.getstatic 18, 3) := by decide +kernel
theorem d_jdk_68_71_3 : decode jdk_68_method_71_code 3 = .ok (.ifCond .eq 18, 3) := by decide +kernel
theorem d_jdk_68_71_6 : decode jdk_68_method_71_code 6 = .ok (.aload_n 0, 1) := by decide +kernel
theorem d_jdk_68_71_7 : decode jdk_68_method_71_code 7 = .ok (.getfield 22, 3) := by decide +kernel
theorem d_jdk_68_71_10 : decode jdk_68_method_71_code 10 = .ok (.aload_n 1, 1) := by decide +kernel
theorem d_jdk_68_71_11 : decode jdk_68_method_71_code 11 = .ok (.invokevirtual 40, 3) := by decide +kernel
theorem d_jdk_68_71_14 : decode jdk_68_method_71_code 14 = .ok (.if_icmp .eq 7, 3) := by decide +kernel
theorem d_jdk_68_71_21 : decode jdk_68_method_71_code 21 = .ok (.return_, 1) := by decide +kernel
theorem d_jdk_68_73_0 : decode jdk_68_method_73_code 0 = .ok (.aload_n 0, 1) := by decide +kernel
theorem d_jdk_68_73_1 : decode jdk_68_method_73_code 1 = .ok (.aload_n 2, 1) := by decide +kernel
theorem d_jdk_68_73_2 : decode jdk_68_method_73_code 2 = .ok (.invokevirtual 397, 3) := by decide +kernel
theorem d_jdk_68_73_5 : decode jdk_68_method_73_code 5 = .ok (.aload_n 2, 1) := by decide +kernel
theorem d_jdk_68_73_6 : decode jdk_68_method_73_code 6 = .ok (.aload_n 0, 1) := by decide +kernel
theorem d_jdk_68_73_7 : decode jdk_68_method_73_code 7 = .ok (.getfield 15, 3) := by decide +kernel
theorem d_jdk_68_73_10 : decode jdk_68_method_73_code 10 = .ok (.iload_n 1, 1) := by decide +kernel
theorem d_jdk_68_73_11 : decode jdk_68_method_73_code 11 = .ok (.aload_n 0, 1) := by decide +kernel
theorem d_jdk_68_73_12 : decode jdk_68_method_73_code 12 = .ok (.getfield 22, 3) := by decide +kernel
theorem d_jdk_68_73_15 : decode jdk_68_method_73_code 15 = .ok (.invokevirtual 399, 3) := by decide +kernel
theorem d_jdk_68_73_18 : decode jdk_68_method_73_code 18 = .ok (.return_, 1) := by decide +kernel
theorem d_jdk_68_9_0 : decode jdk_68_method_9_code 0 = .ok (.aload_n 0, 1) := by decide +kernel
theorem d_jdk_68_9_1 : decode jdk_68_method_9_code 1 = .ok (.getfield 15, 3) := by decide +kernel
theorem d_jdk_68_9_4 : decode jdk_68_method_9_code 4 = .ok (.arraylength, 1) := by decide +kernel
theorem d_jdk_68_9_5 : decode jdk_68_method_9_code 5 = .ok (.aload_n 0, 1) := by decide +kernel
theorem d_jdk_68_9_6 : decode jdk_68_method_9_code 6 = .ok (.getfield 22, 3) := by decide +kernel
theorem d_jdk_68_9_9 : decode jdk_68_method_9_code 9 = .ok (.ishr, 1) := by decide +kernel
theorem d_jdk_68_9_10 : decode jdk_68_method_9_code 10 = .ok (.istore_n 2, 1) := by decide +kernel
theorem d_jdk_68_9_11 : decode jdk_68_method_9_code 11 = .ok (.iload_n 1, 1) := by decide +kernel
theorem d_jdk_68_9_12 : decode jdk_68_method_9_code 12 = .ok (.iload_n 2, 1) := by decide +kernel
theorem d_jdk_68_9_13 : decode jdk_68_method_9_code 13 = .ok (.isub, 1) := by decide +kernel
theorem d_jdk_68_9_14 : decode jdk_68_method_9_code 14 = .ok (.ifCond .le 24, 3) := by decide +kernel
theorem d_jdk_68_9_17 : decode jdk_68_method_9_code 17 = .ok (.aload_n 0, 1) := by decide +kernel
theorem d_jdk_68_9_18 : decode jdk_68_method_9_code 18 = .ok (.aload_n 0, 1) := by decide +kernel
theorem d_jdk_68_9_19 : decode jdk_68_method_9_code 19 = .ok (.getfield 15, 3) := by decide +kernel
theorem d_jdk_68_9_22 : decode jdk_68_method_9_code 22 = .ok (.aload_n 0, 1) := by decide +kernel
theorem d_jdk_68_9_23 : decode jdk_68_method_9_code 23 = .ok (.iload_n 1, 1) := by decide +kernel
theorem d_jdk_68_9_24 : decode jdk_68_method_9_code 24 = .ok (.invokevirtual 104, 3) := by decide +kernel
theorem d_jdk_68_9_27 : decode jdk_68_method_9_code 27 = .ok (.aload_n 0, 1) := by decide +kernel
theorem d_jdk_68_9_28 : decode jdk_68_method_9_code 28 = .ok (.getfield 22, 3) := by decide +kernel
theorem d_jdk_68_9_31 : decode jdk_68_method_9_code 31 = .ok (.ishl, 1) := by decide +kernel
theorem d_jdk_68_9_32 : decode jdk_68_method_9_code 32 = .ok (.invokestatic 108, 3) := by decide +kernel
theorem d_jdk_68_9_35 : decode jdk_68_method_9_code 35 = .ok (.putfield 15, 3) := by decide +kernel
theorem d_jdk_68_9_38 : decode jdk_68_method_9_code 38 = .ok (.return_, 1) := by decide +kernel
theorem d_jdk_89_14_0 : decode jdk_89_method_14_code 0 = .ok (.iload_n 0, 1) := by decide +kernel
theorem d_jdk_89_14_1 : decode jdk_89_method_14_code 1 = .ok (.ldc 75, 2) := by decide +kernel
theorem d_jdk_89_14_3 : decode jdk_89_method_14_code 3 = .ok (.if_icmp .lt 13, 3) := by decide +kernel
theorem d_jdk_89_14_16 : decode jdk_89_method_14_code 16 = .ok (.iconst 0, 1) := by decide +kernel
theorem d_jdk_89_14_17 : decode jdk_89_method_14_code 17 = .ok (.ireturn, 1) := by decide +kernel
theorem d_jdk_89_15_0 : decode jdk_89_method_15_code 0 = .ok (.iload_n 0, 1) := by decide +kernel
theorem d_jdk_89_15_1 : decode jdk_89_method_15_code 1 = .ok (.ldc 76, 2) := by decide +kernel
theorem d_jdk_89_15_3 : decode jdk_89_method_15_code 3 = .ok (.if_icmp .lt 13, 3) := by decide +kernel
theorem d_jdk_89_15_16 : decode jdk_89_method_15_code 16 = .ok (.iconst 0, 1) := by decide +kernel
theorem d_jdk_89_15_17 : decode jdk_89_method_15_code 17 = .ok (.ireturn, 1) := by decide +kernel
theorem d_method_2_0 : decode method_2_code 0 = .ok (.iload_n 0, 1) := by decide +kernel
theorem d_method_2_1 : decode method_2_code 1 = .ok (.ldc 7, 2) := by decide +kernel
theorem d_method_2_3 : decode method_2_code 3 = .ok (.iand, 1) := by decide +kernel
theorem d_method_2_4 : decode method_2_code 4 = .ok (.sipush 255, 3) := by decide +kernel
theorem d_method_2_7 : decode method_2_code 7 = .ok (.irem, 1) := by decide +kernel
theorem d_method_2_8 : decode method_2_code 8 = .ok (.iconst 1, 1) := by decide +kernel
theorem d_method_2_9 : decode method_2_code 9 = .ok (.iadd, 1) := by decide +kernel
theorem d_method_2_10 : decode method_2_code 10 = .ok (.i2c, 1) := by decide +kernel
theorem d_method_2_11 : decode method_2_code 11 = .ok (.ireturn, 1) := by decide +kernel
theorem d_prog_15_2_0 : decode prog_15_method_2_code 0 = .ok (.aload_n 0, 1) := by decide +kernel
theorem d_prog_15_2_1 : decode prog_15_method_2_code 1 = .ok (.ifnonnull 13, 3) := by decide +kernel
theorem d_prog_15_2_14 : decode prog_15_method_2_code 14 = .ok (.aload_n 1, 1) := by decide +kernel
theorem d_prog_15_2_15 : decode prog_15_method_2_code 15 = .ok (.ifnonnull 35, 3) := by decide +kernel
theorem d_prog_15_2_50 : decode prog_15_method_2_code 50 = .ok (.ldc 63, 2) := by decide +kernel
theorem d_prog_15_2_52 : decode prog_15_method_2_code 52 = .ok (.aload_n 0, 1) := by decide +kernel
theorem d_prog_15_2_53 : decode prog_15_method_2_code 53 = .ok (.lload_n 2, 1) := by decide +kernel
theorem d_prog_15_2_54 : decode prog_15_method_2_code 54 = .ok (.invokestatic 65, 3) := by decide +kernel
theorem d_prog_15_2_57 : decode prog_15_method_2_code 57 = .ok (.return_, 1) := by decide +kernel
theorem d_prog_29_2_0 : decode prog_29_method_2_code 0 = .ok (.lload_n 2, 1) := by decide +kernel
theorem d_prog_29_2_1 : decode prog_29_method_2_code 1 = .ok (.lconst 0, 1) := by decide +kernel
theorem d_prog_29_2_2 : decode prog_29_method_2_code 2 = .ok (.lcmp, 1) := by decide +kernel
theorem d_prog_29_2_3 : decode prog_29_method_2_code 3 = .ok (.ifCond .lt 11, 3) := by decide +kernel
theorem d_prog_29_2_6 : decode prog_29_method_2_code 6 = .ok (.lload_n 2, 1) := by decide +kernel
theorem d_prog_29_2_7 : decode prog_29_method_2_code 7 = .ok (.ldc2_w 11, 3) := by decide +kernel
theorem d_prog_29_2_10 : decode prog_29_method_2_code 10 = .ok (.lcmp, 1) := by decide +kernel
theorem d_prog_29_2_11 : decode prog_29_method_2_code 11 = .ok (.ifCond .le 64, 3) := by decide +kernel
theorem d_prog_29_2_75 : decode prog_29_method_2_code 75 = .ok (.return_, 1) := by decide +kernel
theorem d_prog_30_2_0 : decode prog_30_method_2_code 0 = .ok (.new 7, 3) := by decide +kernel
theorem d_prog_30_2_3 : decode prog_30_method_2_code 3 = .ok (.dup, 1) := by decide +kernel
theorem d_prog_30_2_4 : decode prog_30_method_2_code 4 = .ok (.invokespecial 9, 3) := by decide +kernel
theorem d_prog_30_2_7 : decode prog_30_method_2_code 7 = .ok (.ldc 10, 2) := by decide +kernel
theorem d_prog_30_2_9 : decode prog_30_method_2_code 9 = .ok (.invokevirtual 12, 3) := by decide +kernel
theorem d_prog_30_2_12 : decode prog_30_method_2_code 12 = .ok (.aload_n 0, 1) := by decide +kernel
theorem d_prog_30_2_13 : decode prog_30_method_2_code 13 = .ok (.invokevirtual 12, 3) := by decide +kernel
theorem d_prog_30_2_16 : decode prog_30_method_2_code 16 = .ok (.ldc 16, 2) := by decide +kernel
theorem d_prog_30_2_18 : decode prog_30_method_2_code 18 = .ok (.invokevirtual 12, 3) := by decide +kernel
theorem d_prog_30_2_21 : decode prog_30_method_2_code 21 = .ok (.sipush 256, 3) := by decide +kernel
theorem d_prog_30_2_24 : decode prog_30_method_2_code 24 = .ok (.invokevirtual 20, 3) := by decide +kernel
theorem d_prog_30_2_27 : decode prog_30_method_2_code 27 = .ok (.ldc 23, 2) := by decide +kernel
theorem d_prog_30_2_29 : decode prog_30_method_2_code 29 = .ok (.invokevirtual 12, 3) := by decide +kernel
theorem d_prog_30_2_32 : decode prog_30_method_2_code 32 = .ok (.invokevirtual 25, 3) := by decide +kernel
theorem d_prog_30_2_35 : decode prog_30_method_2_code 35 = .ok (.astore_n 2, 1) := by decide +kernel
theorem d_prog_30_2_36 : decode prog_30_method_2_code 36 = .ok (.aload_n 1, 1) := by decide +kernel
theorem d_prog_30_2_37 : decode prog_30_method_2_code 37 = .ok (.ifnonnull 34, 3) := by decide +kernel
theorem d_prog_30_2_71 : decode prog_30_method_2_code 71 = .ok (.aload_n 1, 1) := by decide +kernel
theorem d_prog_30_2_72 : decode prog_30_method_2_code 72 = .ok (.invokevirtual 36, 3) := by decide +kernel
theorem d_prog_30_2_75 : decode prog_30_method_2_code 75 = .ok (.ifCond .eq 12, 3) := by decide +kernel
theorem d_prog_30_2_87 : decode prog_30_method_2_code 87 = .ok (.aload_n 1, 1) := by decide +kernel
theorem d_prog_30_2_88 : decode prog_30_method_2_code 88 = .ok (.invokevirtual 48, 3) := by decide +kernel
theorem d_prog_30_2_91 : decode prog_30_method_2_code 91 = .ok (.sipush 256, 3) := by decide +kernel
theorem d_prog_30_2_94 : decode prog_30_method_2_code 94 = .ok (.if_icmp .le 37, 3) := by decide +kernel
theorem d_prog_30_2_131 : decode prog_30_method_2_code 131 = .ok (.iconst 0, 1) := by decide +kernel
theorem d_prog_30_2_132 : decode prog_30_method_2_code 132 = .ok (.istore_n 3, 1) := by decide +kernel
theorem d_prog_30_2_133 : decode prog_30_method_2_code 133 = .ok (.iload_n 3, 1) := by decide +kernel
theorem d_prog_30_2_134 : decode prog_30_method_2_code 134 = .ok (.aload_n 1, 1) := by decide +kernel
theorem d_prog_30_2_135 : decode prog_30_method_2_code 135 = .ok (.invokevirtual 48, 3) := by decide +kernel
theorem d_prog_30_2_138 : decode prog_30_method_2_code 138 = .ok (.if_icmp .ge 136, 3) := by decide +kernel
theorem d_prog_30_2_141 : decode prog_30_method_2_code 141 = .ok (.aload_n 1, 1) := by decide +kernel
theorem d_prog_30_2_142 : decode prog_30_method_2_code 142 = .ok (.iload_n 3, 1) := by decide +kernel
theorem d_prog_30_2_143 : decode prog_30_method_2_code 143 = .ok (.invokevirtual 56, 3) := by decide +kernel
theorem d_prog_30_2_146 : decode prog_30_method_2_code 146 = .ok (.istore 4, 2) := by decide +kernel
theorem d_prog_30_2_148 : decode prog_30_method_2_code 148 = .ok (.iload 4, 2) := by decide +kernel
theorem d_prog_30_2_150 : decode prog_30_method_2_code 150 = .ok (.ifCond .ne 52, 3) := by decide +kernel
theorem d_prog_30_2_202 : decode prog_30_method_2_code 202 = .ok (.aload_n 1, 1) := by decide +kernel
theorem d_prog_30_2_203 : decode prog_30_method_2_code 203 = .ok (.iload_n 3, 1) := by decide +kernel
theorem d_prog_30_2_204 : decode prog_30_method_2_code 204 = .ok (.invokestatic 64, 3) := by decide +kernel
theorem d_prog_30_2_207 : decode prog_30_method_2_code 207 = .ok (.ifCond .eq 61, 3) := by decide +kernel
theorem d_prog_30_2_268 : decode prog_30_method_2_code 268 = .ok (.iinc 3 1, 3) := by decide +kernel
theorem d_prog_30_2_271 : decode prog_30_method_2_code 271 = .ok (.goto (-138), 3) := by decide +kernel
theorem d_prog_30_2_274 : decode prog_30_method_2_code 274 = .ok (.return_, 1) := by decide +kernel
theorem d_prog_34_1_0 : decode prog_34_method_1_code 0 = .ok (.aload_n 0, 1) := by decide +kernel
theorem d_prog_34_1_1 : decode prog_34_method_1_code 1 = .ok (.invokespecial 3, 3) := by decide +kernel
theorem d_prog_34_1_4 : decode prog_34_method_1_code 4 = .ok (.ldc 9, 2) := by decide +kernel
theorem d_prog_34_1_6 : decode prog_34_method_1_code 6 = .ok (.aload_n 1, 1) := by decide +kernel
theorem d_prog_34_1_7 : decode prog_34_method_1_code 7 = .ok (.invokestatic 11, 3) := by decide +kernel
theorem d_prog_34_1_10 : decode prog_34_method_1_code 10 = .ok (.aload_n 0, 1) := by decide +kernel
theorem d_prog_34_1_11 : decode prog_34_method_1_code 11 = .ok (.aload_n 1, 1) := by decide +kernel
theorem d_prog_34_1_12 : decode prog_34_method_1_code 12 = .ok (.putfield 15, 3) := by decide +kernel
theorem d_prog_34_1_15 : decode prog_34_method_1_code 15 = .ok (.return_, 1) := by decide +kernel
theorem d_prog_37_3_0 : decode prog_37_method_3_code 0 = .ok (.aload_n 0, 1) := by decide +kernel
theorem d_prog_37_3_1 : decode prog_37_method_3_code 1 = .ok (.iload_n 1, 1) := by decide +kernel
theorem d_prog_37_3_2 : decode prog_37_method_3_code 2 = .ok (.invokevirtual 26, 3) := by decide +kernel
theorem d_prog_37_3_5 : decode prog_37_method_3_code 5 = .ok (.istore_n 2, 1) := by decide +kernel
theorem d_prog_37_3_6 : decode prog_37_method_3_code 6 = .ok (.iload_n 2, 1) := by decide +kernel
theorem d_prog_37_3_7 : decode prog_37_method_3_code 7 = .ok (.invokestatic 69, 3) := by decide +kernel
theorem d_prog_37_3_10 : decode prog_37_method_3_code 10 = .ok (.ifCond .eq 32, 3) := by decide +kernel
theorem d_prog_37_3_42 : decode prog_37_method_3_code 42 = .ok (.iload_n 2, 1) := by decide +kernel
theorem d_prog_37_3_43 : decode prog_37_method_3_code 43 = .ok (.invokestatic 72, 3) := by decide +kernel
theorem d_prog_37_3_46 : decode prog_37_method_3_code 46 = .ok (.ifCond .eq 26, 3) := by decide +kernel
theorem d_prog_37_3_72 : decode prog_37_method_3_code 72 = .ok (.iconst 0, 1) := by decide +kernel
theorem d_prog_37_3_73 : decode prog_37_method_3_code 73 = .ok (.ireturn, 1) := by decide +kernel
theorem pd_0 : parseMethodDescriptor "([CI[BII)I" = some ⟨[(.array .char), .int, (.array .byte), .int, .int], some .int⟩ := by decide +kernel
theorem pd_1 : parseMethodDescriptor "([CII)[B" = some ⟨[(.array .char), .int, .int], some (.array .byte)⟩ := by decide +kernel
theorem pd_2 : parseMethodDescriptor "([BI)B" = some ⟨[(.array .byte), .int], some .byte⟩ := by decide +kernel
theorem pd_3 : parseMethodDescriptor "([CIILjava/lang/Void;)V" = some ⟨[(.array .char), .int, .int, (.object "java/lang/Void")], none⟩ := by decide +kernel
theorem pd_4 : parseMethodDescriptor "()B" = some ⟨[], some .byte⟩ := by decide +kernel
theorem pd_5 : parseMethodDescriptor "(IILjava/util/function/BiFunction;)I" = some ⟨[.int, .int, (.object "java/util/function/BiFunction")], some .int⟩ := by decide +kernel
theorem pd_6 : parseMethodDescriptor "(II)V" = some ⟨[.int, .int], none⟩ := by decide +kernel
theorem pd_7 : parseMethodDescriptor "()Z" = some ⟨[], some .boolean⟩ := by decide +kernel
theorem pd_8 : parseMethodDescriptor "([BI)C" = some ⟨[(.array .byte), .int], some .char⟩ := by decide +kernel
theorem pd_9 : parseMethodDescriptor "(I)V" = some ⟨[.int], none⟩ := by decide +kernel
theorem pd_10 : parseMethodDescriptor "(I)C" = some ⟨[.int], some .char⟩ := by decide +kernel
theorem pd_11 : parseMethodDescriptor "(C)Z" = some ⟨[.char], some .boolean⟩ := by decide +kernel
theorem pd_12 : parseMethodDescriptor "()V" = some ⟨[], none⟩ := by decide +kernel
theorem pd_13 : parseMethodDescriptor "()I" = some ⟨[], some .int⟩ := by decide +kernel
theorem pd_14 : parseMethodDescriptor "(Ljava/lang/String;)V" = some ⟨[(.object "java/lang/String")], none⟩ := by decide +kernel
theorem pd_15 : parseMethodDescriptor "([BIB)V" = some ⟨[(.array .byte), .int, .byte], none⟩ := by decide +kernel
theorem pd_16 : parseMethodDescriptor "(ILjava/lang/String;)V" = some ⟨[.int, (.object "java/lang/String")], none⟩ := by decide +kernel
theorem pd_17 : parseMethodDescriptor "(Ljava/lang/String;)Ljava/lang/AbstractStringBuilder;" = some ⟨[(.object "java/lang/String")], some (.object "java/lang/AbstractStringBuilder")⟩ := by decide +kernel
theorem pd_18 : parseMethodDescriptor "(Ljava/lang/String;)Ljava/lang/StringBuilder;" = some ⟨[(.object "java/lang/String")], some (.object "java/lang/StringBuilder")⟩ := by decide +kernel
theorem pd_19 : parseMethodDescriptor "(II)I" = some ⟨[.int, .int], some .int⟩ := by decide +kernel
theorem pd_20 : parseMethodDescriptor "(III)I" = some ⟨[.int, .int, .int], some .int⟩ := by decide +kernel
theorem pd_21 : parseMethodDescriptor "(I)I" = some ⟨[.int], some .int⟩ := by decide +kernel
theorem pd_22 : parseMethodDescriptor "([BI)[B" = some ⟨[(.array .byte), .int], some (.array .byte)⟩ := by decide +kernel
theorem pd_23 : parseMethodDescriptor "(II[B)I" = some ⟨[.int, .int, (.array .byte)], some .int⟩ := by decide +kernel
theorem pd_24 : parseMethodDescriptor "(I)Ljava/lang/AbstractStringBuilder;" = some ⟨[.int], some (.object "java/lang/AbstractStringBuilder")⟩ := by decide +kernel
theorem pd_25 : parseMethodDescriptor "(I)Ljava/lang/StringBuilder;" = some ⟨[.int], some (.object "java/lang/StringBuilder")⟩ := by decide +kernel
theorem pd_26 : parseMethodDescriptor "()[B" = some ⟨[], some (.array .byte)⟩ := by decide +kernel
theorem pd_27 : parseMethodDescriptor "([BII)[B" = some ⟨[(.array .byte), .int, .int], some (.array .byte)⟩ := by decide +kernel
theorem pd_28 : parseMethodDescriptor "(Ljava/lang/AbstractStringBuilder;Ljava/lang/Void;)V" = some ⟨[(.object "java/lang/AbstractStringBuilder"), (.object "java/lang/Void")], none⟩ := by decide +kernel
theorem pd_29 : parseMethodDescriptor "(Ljava/lang/StringBuilder;)V" = some ⟨[(.object "java/lang/StringBuilder")], none⟩ := by decide +kernel
theorem pd_30 : parseMethodDescriptor "()Ljava/lang/String;" = some ⟨[], some (.object "java/lang/String")⟩ := by decide +kernel
theorem pd_31 : parseMethodDescriptor "(Ljava/lang/String;I)Z" = some ⟨[(.object "java/lang/String"), .int], some .boolean⟩ := by decide +kernel
theorem pd_32 : parseMethodDescriptor "(Ljava/lang/String;Ljava/lang/String;)V" = some ⟨[(.object "java/lang/String"), (.object "java/lang/String")], none⟩ := by decide +kernel
theorem pd_33 : parseMethodDescriptor "(Ljava/lang/String;Lcom/example/transaction_locking/transactionlocking/value/LockName;J)V" = some ⟨[(.object "java/lang/String"), (.object "com/example/transaction_locking/transactionlocking/value/LockName"), .long], none⟩ := by decide +kernel
theorem pd_34 : parseMethodDescriptor "([C)V" = some ⟨[(.array .char)], none⟩ := by decide +kernel
theorem pd_35 : parseMethodDescriptor "(Lcom/example/transaction_locking/transactionlocking/value/LockName;Lcom/example/transaction_locking/transactionlocking/value/LockMode;J)V" = some ⟨[(.object "com/example/transaction_locking/transactionlocking/value/LockName"), (.object "com/example/transaction_locking/transactionlocking/value/LockMode"), .long], none⟩ := by decide +kernel
theorem pn_0 : plainName "java/lang/StringUTF16" = true := by first | (simp [plainName, overriddenIn]; done) | decide +kernel
theorem pn_1 : plainName "java/lang/String" = true := by first | (simp [plainName, overriddenIn]; done) | decide +kernel
theorem pn_2 : plainName "jdk/internal/util/Preconditions" = true := by first | (simp [plainName, overriddenIn]; done) | decide +kernel
theorem pn_3 : plainName "java/lang/StringLatin1" = true := by first | (simp [plainName, overriddenIn]; done) | decide +kernel
theorem pn_4 : plainName "java/lang/AbstractStringBuilder" = true := by first | (simp [plainName, overriddenIn]; done) | decide +kernel
theorem pn_5 : plainName "java/lang/StringBuilder" = true := by first | (simp [plainName, overriddenIn]; done) | decide +kernel
theorem pn_6 : plainName "java/lang/Character" = true := by first | (simp [plainName, overriddenIn]; done) | decide +kernel
theorem pn_7 : plainName "com/example/transaction_locking/transactionlocking/value/Quoting" = true := by first | (simp [plainName, overriddenIn]; done) | decide +kernel
theorem pn_8 : plainName "jdk/internal/util/ArraysSupport" = true := by first | (simp [plainName, overriddenIn]; done) | decide +kernel
theorem pn_9 : plainName "java/util/Arrays" = true := by first | (simp [plainName, overriddenIn]; done) | decide +kernel
theorem pn_10 : plainName "java/lang/Integer" = true := by first | (simp [plainName, overriddenIn]; done) | decide +kernel
theorem pn_11 : plainName "com/example/transaction_locking/transactionlocking/value/ExactString" = true := by first | (simp [plainName, overriddenIn]; done) | decide +kernel
theorem pn_12 : plainName "java/lang/Record" = true := by first | (simp [plainName, overriddenIn]; done) | decide +kernel
theorem pn_13 : plainName "com/example/transaction_locking/transactionlocking/value/LockName" = true := by first | (simp [plainName, overriddenIn]; done) | decide +kernel
theorem pn_14 : plainName "com/example/transaction_locking/transactionlocking/handle/WaitTimeout" = true := by first | (simp [plainName, overriddenIn]; done) | decide +kernel
theorem pn_15 : plainName "com/example/transaction_locking/transactionlocking/handle/HeldLocksCheckRequestPinLaw" = true := by first | (simp [plainName, overriddenIn]; done) | decide +kernel
theorem pn_16 : plainName "com/example/transaction_locking/transactionlocking/handle/HeldLocks" = true := by first | (simp [plainName, overriddenIn]; done) | decide +kernel
theorem own_t0 : (0 : Int32).toInt = 0 := rfl
theorem own_t1 : (1 : Int32).toInt = 1 := rfl
theorem own_t55296 : (55296 : Int32).toInt = 55296 := rfl
theorem own_t56320 : (56320 : Int32).toInt = 56320 := rfl
theorem own_t57344 : (57344 : Int32).toInt = 57344 := rfl
theorem own_t256 : (256 : Int32).toInt = 256 := rfl
theorem own_fitsO {C : String} {v : Value} (h : v.isRef = true) : fits (.object C) v = true := by cases v <;> simp [Value.isRef, fits] at h ⊢
theorem own_narO {C : String} {v : Value} (h : v.isRef = true) : narrow (.object C) v = v := by cases v <;> first | rfl | simp [Value.isRef] at h
theorem own_all0 {P : Int32 → Prop} : ∀ c ∈ ([] : List Int32), P c := fun _ q => nomatch q
theorem own_allS {P : Int32 → Prop} {a : Int32} {L : List Int32} (q : P a) (r : ∀ c ∈ L, P c) : ∀ c ∈ a :: L, P c := fun x z => (List.mem_cons.mp z).elim (fun u => u ▸ q) (r x)
def latB (c : Int32) : Value := .int c.toInt8.toInt32
/-- the object at a is a Latin-1 String of the chars cs; its bytes lie at b -/
def SL (Z : State) (h : Heap) (a b : Nat) (cs : List Int32) : Prop := Exa Z h a "java/lang/String" ∧ Fld Z h a "java/lang/String" "coder" "B" (.int 0) ∧ Fld Z h a "java/lang/String" "value" "[B" (.ref b) ∧ Ary Z h b .byte (cs.map latB) ∧ ∀ c ∈ cs, 0 ≤ c.toInt ∧ c.toInt ≤ 255
theorem SL.keep {Z : State} {h h' : Heap} {a b : Addr} {cs : List Int32} {ws : List Addr} (S : SL Z h a b cs) (K : Keep h h' ws) (qa : a ∉ ws) (qb : b ∉ ws) : SL Z h' a b cs := by
  obtain ⟨E, F1, F2, V, q⟩ := S
  exact ⟨E.keep K, F1.keep K qa, F2.keep K qa, V.keep K qb, q⟩
theorem SL.lt {Z : State} {h : Heap} {a b : Addr} {cs : List Int32} (S : SL Z h a b cs) : a < h.size := S.1.lt
theorem SL.ltb {Z : State} {h : Heap} {a b : Addr} {cs : List Int32} (S : SL Z h a b cs) : b < h.size := S.2.2.2.1.lt
theorem own_b8 (c : Int32) : c.toInt8.toInt32.toInt8.toInt32 = c.toInt8.toInt32 := by simp
theorem own_toInt {n : Nat} (h : n < 2 ^ 31) : n.toInt32.toInt = n := len_toInt h
theorem own_ltn {i n : Nat} (h : i < n) (hn : n < 2 ^ 31) : i.toInt32 < n.toInt32 := by
  rw [Int32.lt_iff_toInt_lt, own_toInt (by omega), own_toInt hn]; omega
theorem own_nltn {i n : Nat} (h : n ≤ i) (hn : i < 2 ^ 31) : ¬ i.toInt32 < n.toInt32 := by
  rw [Int32.lt_iff_toInt_lt, own_toInt hn, own_toInt (by omega)]; omega
theorem own_nneg {n : Nat} (hn : n < 2 ^ 31) : ¬ n.toInt32 < 0 := by
  rw [Int32.lt_iff_toInt_lt, own_toInt hn]; simp
theorem own_succ (i : Nat) : i.toInt32 + Int32.ofInt 1 = (i + 1).toInt32 := by
  show Int32.ofNat i + Int32.ofInt 1 = Int32.ofNat (i + 1)
  rw [Int32.ofNat_add]; rfl
theorem own_fill {cs : List Int32} {bs : List Value} {i : Nat} {c : Int32} (hl : bs.length = cs.length) (hc : cs[i]? = some c) : ((cs.take i).map latB ++ bs.drop i).set i (latB c) = (cs.take (i + 1)).map latB ++ bs.drop (i + 1) := by
  have hi : i < cs.length := (List.getElem?_eq_some_iff.mp hc).1
  have e1 : ((cs.take i).map latB).length = i := by simp; omega
  have e2 : bs.drop i = bs[i] :: bs.drop (i + 1) := List.drop_eq_getElem_cons (by omega)
  have e3 : cs.take (i + 1) = cs.take i ++ [c] := by rw [List.take_add_one, hc]; rfl
  rw [List.set_append_right _ _ (by omega), e1, e2, e3, Nat.sub_self, List.set_cons_zero, List.map_append, List.append_assoc]
  rfl
theorem own_back (c : Int32) (h : 0 ≤ c.toInt ∧ c.toInt ≤ 255) : nar .char (c.toInt8.toInt32 &&& 255).toUInt32.toUInt16.toUInt32.toInt32 = c := by
  have e : ∀ n : Fin 256, nar .char ((Int32.ofNat n.1).toInt8.toInt32 &&& 255).toUInt32.toUInt16.toUInt32.toInt32 = Int32.ofNat n.1 := by decide +kernel
  have q : c = Int32.ofNat c.toInt.toNat := by
    apply Int32.toInt_inj.mp
    rw [show Int32.ofNat c.toInt.toNat = c.toInt.toNat.toInt32 from rfl, own_toInt (by omega)]; omega
  rw [q]
  exact e ⟨c.toInt.toNat, by omega⟩
theorem own_csub (n : Int32) : (((n - n).toUInt32 >>> ((31 : Int32) &&& 31).toUInt32).toInt32).toInt8.toInt32 = 0 := by
  rw [Int32.sub_self]; decide
theorem own_nchar {c : Int32} (h : 0 ≤ c.toInt ∧ c.toInt < 65536) : nar .char c = c := by
  have q := c_i2c c
  apply Int32.toInt_inj.mp
  show c.toUInt32.toUInt16.toUInt32.toInt32.toInt = c.toInt
  omega
/-- the JDK's statics that String's methods read -/
def SEnv (Z : State) (cc : Int32) (fm : Value) : Prop := Sta Z Z.heap "java/lang/String" "COMPACT_STRINGS" "Z" (.int cc) ∧ ¬ cc = 0 ∧ Sta Z Z.heap "jdk/internal/util/Preconditions" "SIOOBE_FORMATTER" "Ljava/util/function/BiFunction;" fm ∧ fm.isRef = true
set_option maxRecDepth 65536 in
set_option maxHeartbeats 40000000 in
theorem c_compr (l : Launch) (Z : State) (a0 : Array Value) (hw : ∀ d ∈ tables_1, d.before a0 Z = true) (hE : EW Z a0 consts_1) (ca ba : Nat) (cs : List Int32) (bs : List Value) (h0 : Heap) (O : Ext Z.heap h0) (hn : cs.length ≤ 3) (hch : ∀ c ∈ cs, 0 ≤ c.toInt ∧ c.toInt ≤ 255) (VA : Ary Z h0 ca .char (cs.map Value.int)) (VB : Ary Z h0 ba .byte bs) (hbl : bs.length = cs.length) (hne : ca ≠ ba) (hz : Z.heap.size ≤ ba) :
    Con l Z consts_1 (⟨"java/lang/StringUTF16", "compress", "([CI[BII)I"⟩ : MethodName) jdk_52_method_21_code 7 (Option.some Jvm.ClassFile.FieldType.int) ({ frames := 0, cells := 0, slots := 0, locals := 0 } : Room) #[(.ref ca), (.int (0 : Int32)), (.ref ba), (.int (0 : Int32)), (.int cs.length.toInt32)] h0 [ba] (fun v h => v = some (.int cs.length.toInt32) ∧ Ary Z h ba .byte (cs.map latB)) := by
  refine Con.of (a0 := a0) #[.val (.ref ca), .val (.int (0 : Int32)), .val (.ref ba), .val (.int (0 : Int32)), .val (.int cs.length.toInt32), .unset, .unset] (plainFor_of_name pn_0) hE O (allS ⟨hz, VB.lt⟩ all0) (fun m => by first | (simp [entryFrame, mkF, argsToLocals, Value.category]; done) | rfl) ?_
  intro p e s m below meth c T0 hx hby hml hnm hret hlk hh W0
  have hn31 : cs.length < 2 ^ 31 := by omega
  refine g_iconst (0 : Int32) (pc' := 1) W0.here hx (hb hby d_jdk_52_21_0) rfl rfl ?_
  refine g_istore (pc' := 3) (Ls' := #[.val (.ref ca), .val (.int (0 : Int32)), .val (.ref ba), .val (.int (0 : Int32)), .val (.int cs.length.toInt32), .val (.int (0 : Int32)), .unset]) W0.here hx (hb hby d_jdk_52_21_1) rfl rfl ?_
  have LOOP : ∀ (k i : Nat), i + k = cs.length → ∀ (TL : State) (hL : Heap) (o6 : Slot), One o6 → Wk p l e ({ frames := 0, cells := 0, slots := 0, locals := 0 } : Room) s m #[(.ref ca), (.int (0 : Int32)), (.ref ba), (.int (0 : Int32)), (.int cs.length.toInt32)] below meth c Z consts_1 "java/lang/StringUTF16" [ba] [] TL hL 0 0 → Keep h0 hL [ba] → Ary Z hL ba .byte ((cs.take i).map latB ++ bs.drop i) → Gets p.tables e below (Post s Z consts_1 ({ frames := 0, cells := 0, slots := 0, locals := 0 } : Room) h0 [ba] (fun v h => v = some (.int cs.length.toInt32) ∧ Ary Z h ba .byte (cs.map latB))) TL (mkF m 3 #[.val (.ref ca), .val (.int i.toInt32), .val (.ref ba), .val (.int i.toInt32), .val (.int cs.length.toInt32), .val (.int i.toInt32), o6] []) := by
    intro k
    induction k with
    | zero =>
      intro i hi TL hL o6 ho6 WL KL VBL
      have VAL := VA.keep KL (ninS hne nin0)
      refine g_iload (pc' := 5) WL.here hx (hb hby d_jdk_52_21_3) rfl rfl ?_
      refine g_iload (pc' := 7) WL.here hx (hb hby d_jdk_52_21_5) rfl rfl ?_
      refine g_icmpY (pc' := 44) WL.here hx (hb hby d_jdk_52_21_7) rfl (flt (show ¬ (i.toInt32 < cs.length.toInt32) from (own_nltn (by omega) (by omega)))).2.1 ?_
      refine g_iload (pc' := 46) WL.here hx (hb hby d_jdk_52_21_44) rfl rfl ?_
      refine w_retI WL hx hh hlk hret (hb hby d_jdk_52_21_46) (Nat.le_of_ble_eq_true rfl) (Nat.le_of_ble_eq_true rfl) ?_
      have e1 : i = cs.length := by omega
      subst e1
      rw [List.take_length, List.drop_eq_nil_of_le (by omega), List.append_nil] at VBL
      exact ⟨rfl, VBL⟩
    | succ k ih =>
      intro i hi TL hL o6 ho6 WL KL VBL
      have VAL := VA.keep KL (ninS hne nin0)
      have hi2 : i < cs.length := by omega
      obtain ⟨ci, hci⟩ : ∃ ci, cs[i]? = some ci := ⟨_, List.getElem?_eq_getElem hi2⟩
      have hcm : ci ∈ cs := List.mem_of_getElem? hci
      have hcr := hch ci hcm
      refine g_iload (pc' := 5) WL.here hx (hb hby d_jdk_52_21_3) rfl rfl ?_
      refine g_iload (pc' := 7) WL.here hx (hb hby d_jdk_52_21_5) rfl rfl ?_
      refine g_icmpN (pc' := 10) WL.here hx (hb hby d_jdk_52_21_7) rfl (tlt (show i.toInt32 < cs.length.toInt32 from (own_ltn hi2 hn31))).2.1 ?_
      refine g_aloadN (pc' := 11) WL.here hx (hb hby d_jdk_52_21_10) rfl rfl rfl ?_
      refine g_iloadN (pc' := 12) WL.here hx (hb hby d_jdk_52_21_11) rfl rfl ?_
      refine w_caload (pc' := 13) (v := (.int ci)) WL hx VAL (own_nneg (by omega)) (by rw [i32_nat (by omega), List.getElem?_map, hci]; rfl) (hb hby d_jdk_52_21_12) rfl ?_
      refine g_istore (pc' := 15) (Ls' := #[.val (.ref ca), .val (.int i.toInt32), .val (.ref ba), .val (.int i.toInt32), .val (.int cs.length.toInt32), .val (.int i.toInt32), .val (.int ci)]) WL.here hx (hb hby d_jdk_52_21_13) (XS.store1 (o := o6) rfl ho6 rfl) rfl ?_
      refine g_iload (pc' := 17) WL.here hx (hb hby d_jdk_52_21_15) rfl rfl ?_
      refine g_sipush (255 : Int32) (pc' := 20) WL.here hx (hb hby d_jdk_52_21_17) rfl rfl ?_
      refine g_icmpY (pc' := 26) WL.here hx (hb hby d_jdk_52_21_20) rfl (flt (show ¬ ((255 : Int32) < ci) from (by rw [Int32.lt_iff_toInt_lt]; have : (255 : Int32).toInt = 255 := rfl; omega))).2.2.2 ?_
      refine g_aloadN (pc' := 27) WL.here hx (hb hby d_jdk_52_21_26) rfl rfl rfl ?_
      refine g_iloadN (pc' := 28) WL.here hx (hb hby d_jdk_52_21_27) rfl rfl ?_
      refine g_iload (pc' := 30) WL.here hx (hb hby d_jdk_52_21_28) rfl rfl ?_
      refine g_i2b (pc' := 31) WL.here hx (hb hby d_jdk_52_21_30) rfl ?_
      refine w_bastore (pc' := 32) (x' := ci.toInt8.toInt32) WL hx VBL (own_nneg (by omega)) (by rw [i32_nat (by omega)]; simp; omega) (List.mem_of_getElem? (i := 0) rfl) (own_b8 ci) (hb hby d_jdk_52_21_31) rfl fun T1 h1 W1 K1 V1 => ?_
      have z_K1 : hL.size ≤ h1.size := K1.1
      have V1 : Ary Z h1 ba .byte ((cs.take (i + 1)).map latB ++ bs.drop (i + 1)) := by rw [i32_nat (by omega)] at V1; rw [← own_fill hbl hci]; exact V1
      refine g_iincV (i + 1).toInt32 (pc' := 35) (Ls' := #[.val (.ref ca), .val (.int (i + 1).toInt32), .val (.ref ba), .val (.int i.toInt32), .val (.int cs.length.toInt32), .val (.int i.toInt32), .val (.int ci)]) W1.here hx (hb hby d_jdk_52_21_32) (own_succ i) rfl rfl rfl ?_
      refine g_iincV (i + 1).toInt32 (pc' := 38) (Ls' := #[.val (.ref ca), .val (.int (i + 1).toInt32), .val (.ref ba), .val (.int (i + 1).toInt32), .val (.int cs.length.toInt32), .val (.int i.toInt32), .val (.int ci)]) W1.here hx (hb hby d_jdk_52_21_35) (own_succ i) rfl rfl rfl ?_
      refine g_iincV (i + 1).toInt32 (pc' := 41) (Ls' := #[.val (.ref ca), .val (.int (i + 1).toInt32), .val (.ref ba), .val (.int (i + 1).toInt32), .val (.int cs.length.toInt32), .val (.int (i + 1).toInt32), .val (.int ci)]) W1.here hx (hb hby d_jdk_52_21_38) (own_succ i) rfl rfl rfl ?_
      refine g_goto (pc' := 3) W1.here hx (hb hby d_jdk_52_21_41) rfl ?_
      exact ih (i + 1) (by omega) _ _ _ (One.val rfl) W1 (KL.trans K1 (fun x q => Or.inl q)) V1
  exact LOOP cs.length 0 (by omega) _ _ _ One.u W0 (Keep.refl _ _) (by simpa using VB)
set_option maxRecDepth 65536 in
set_option maxHeartbeats 40000000 in
theorem c_compress (l : Launch) (Z : State) (a0 : Array Value) (hw : ∀ d ∈ tables_1, d.before a0 Z = true) (hE : EW Z a0 consts_1) (ca : Nat) (cs : List Int32) (h0 : Heap) (O : Ext Z.heap h0) (hn : cs.length ≤ 3) (hch : ∀ c ∈ cs, 0 ≤ c.toInt ∧ c.toInt ≤ 255) (VA : Ary Z h0 ca .char (cs.map Value.int))  :
    Con l Z consts_1 (⟨"java/lang/StringUTF16", "compress", "([CII)[B"⟩ : MethodName) jdk_52_method_16_code 6 (Option.some (Jvm.ClassFile.FieldType.array Jvm.ClassFile.FieldType.byte)) ({ frames := 1, cells := 1, slots := 3, locals := 18 } : Room) #[(.ref ca), (.int (0 : Int32)), (.int cs.length.toInt32)] h0 [] (fun v h => ∃ ba : Nat, v = some (.ref ba) ∧ h0.size ≤ ba ∧ Ary Z h ba .byte (cs.map latB)) := by
  refine Con.of (a0 := a0) #[.val (.ref ca), .val (.int (0 : Int32)), .val (.int cs.length.toInt32), .unset, .unset, .unset] (plainFor_of_name pn_0) hE O all0 (fun m => by first | (simp [entryFrame, mkF, argsToLocals, Value.category]; done) | rfl) ?_
  intro p e s m below meth c T0 hx hby hml hnm hret hlk hh W0
  have hn31 : cs.length < 2 ^ 31 := by omega
  have lt_ca : ca < h0.size := VA.lt
  refine g_iloadN (pc' := 1) W0.here hx (hb hby d_jdk_52_16_0) rfl rfl ?_
  refine w_newarr (pc' := 3) (cap := 3) W0 hx (hw _ (List.mem_of_getElem? w_24)) (hb hby d_jdk_52_16_1) (own_nneg hn31) (by rw [i32_nat hn31]; exact hn) (Nat.le_of_ble_eq_true rfl) (Nat.le_of_ble_eq_true rfl) (Nat.le_of_ble_eq_true rfl) rfl rfl fun T2 h2 b2 g2 W2 K2 V2 => ?_
  have z_K2 : h0.size ≤ h2.size := K2.1
  have ne_ca_b2 : ca ≠ b2 := by omega
  have lt_b2 : b2 < h2.size := W2.lt (List.mem_cons_self ..)
  have V3 : Ary Z h2 b2 .byte (List.replicate cs.length (.int 0)) := by rw [i32_nat hn31] at V2; exact V2
  refine g_astoreN (pc' := 4) (Ls' := #[.val (.ref ca), .val (.int (0 : Int32)), .val (.int cs.length.toInt32), .val (.ref b2), .unset, .unset]) W2.here hx (hb hby d_jdk_52_16_3) rfl rfl rfl ?_
  refine g_aloadN (pc' := 5) W2.here hx (hb hby d_jdk_52_16_4) rfl rfl rfl ?_
  refine g_iloadN (pc' := 6) W2.here hx (hb hby d_jdk_52_16_5) rfl rfl ?_
  refine g_aloadN (pc' := 7) W2.here hx (hb hby d_jdk_52_16_6) rfl rfl rfl ?_
  refine g_iconst (0 : Int32) (pc' := 8) W2.here hx (hb hby d_jdk_52_16_7) rfl rfl ?_
  refine g_iloadN (pc' := 9) W2.here hx (hb hby d_jdk_52_16_8) rfl rfl ?_
  have c4 := (VA.keep K2 nin0)
  refine w_callS (pc' := 12) (st := []) (y := (⟨"java/lang/StringUTF16", "compress", "([CI[BII)I"⟩ : MethodName)) W2 hx [(.ref ca), (.int (0 : Int32)), (.ref b2), (.int (0 : Int32)), (.int cs.length.toInt32)] (hw _ (List.mem_of_getElem? w_25)) (hw _ (List.mem_of_getElem? w_26)) (hw _ (List.mem_of_getElem? w_22)) (hw _ (List.mem_of_getElem? w_27)) (by decide) (c_compr l Z a0 hw hE ca b2 cs _ h2 W2.old hn hch c4 V3 (by simp) ne_ca_b2 (by have := O.1; omega)) (allS (List.mem_of_getElem? (i := 0) rfl) all0) (by rw [hml]; rfl) (lenOf pd_0 rfl) rfl (hb hby d_jdk_52_16_9) (Nat.le_of_ble_eq_true rfl) (Nat.le_of_ble_eq_true rfl) (Nat.le_of_ble_eq_true rfl) (Nat.le_of_ble_eq_true rfl) rfl fun v5 T5 h5 W5 K5 Q5 => ?_
  have z_K5 : h2.size ≤ h5.size := K5.1
  obtain ⟨rfl, V6⟩ := Q5
  refine g_istore (pc' := 14) (Ls' := #[.val (.ref ca), .val (.int (0 : Int32)), .val (.int cs.length.toInt32), .val (.ref b2), .val (.int cs.length.toInt32), .unset]) W5.here hx (hb hby d_jdk_52_16_12) rfl rfl ?_
  refine g_iload (pc' := 16) W5.here hx (hb hby d_jdk_52_16_14) rfl rfl ?_
  refine g_iloadN (pc' := 17) W5.here hx (hb hby d_jdk_52_16_16) rfl rfl ?_
  refine g_icmpY (pc' := 57) W5.here hx (hb hby d_jdk_52_16_17) rfl (teq (show cs.length.toInt32 = cs.length.toInt32 from rfl)).1 ?_
  refine g_aloadN (pc' := 58) W5.here hx (hb hby d_jdk_52_16_57) rfl rfl rfl ?_
  refine w_retA W5 hx hh hlk hret rfl rfl (hb hby d_jdk_52_16_58) (Nat.le_of_ble_eq_true rfl) (Nat.le_of_ble_eq_true rfl) ?_
  exact ⟨_, rfl, by omega, V6⟩
set_option maxRecDepth 65536 in
set_option maxHeartbeats 40000000 in
theorem c_coderFrom (l : Launch) (Z : State) (a0 : Array Value) (hw : ∀ d ∈ tables_1, d.before a0 Z = true) (hE : EW Z a0 consts_1) (ba : Nat) (cs : List Int32) (bs : List Value) (h0 : Heap) (O : Ext Z.heap h0) (VB : Ary Z h0 ba .byte bs) (hbl : bs.length = cs.length) :
    Con l Z consts_1 (⟨"java/lang/StringUTF16", "coderFromArrayLen", "([BI)B"⟩ : MethodName) jdk_52_method_15_code 2 (Option.some Jvm.ClassFile.FieldType.byte) ({ frames := 0, cells := 0, slots := 0, locals := 0 } : Room) #[(.ref ba), (.int cs.length.toInt32)] h0 [] (pureQ (some (.int 0)) h0) := by
  refine Con.of (a0 := a0) #[.val (.ref ba), .val (.int cs.length.toInt32)] (plainFor_of_name pn_0) hE O all0 (fun m => by first | (simp [entryFrame, mkF, argsToLocals, Value.category]; done) | rfl) ?_
  intro p e s m below meth c T0 hx hby hml hnm hret hlk hh W0
  refine g_iloadN (pc' := 1) W0.here hx (hb hby d_jdk_52_15_0) rfl rfl ?_
  refine g_aloadN (pc' := 2) W0.here hx (hb hby d_jdk_52_15_1) rfl rfl rfl ?_
  refine w_len (pc' := 3) W0 hx VB (hb hby d_jdk_52_15_2) rfl ?_
  refine g_name (w := .int cs.length.toInt32) (congrArg Value.int (by rw [hbl])) ?_
  refine g_isub (pc' := 4) W0.here hx (hb hby d_jdk_52_15_3) rfl ?_
  refine g_bipush (31 : Int32) (pc' := 6) W0.here hx (hb hby d_jdk_52_15_4) rfl rfl ?_
  refine g_iushr (pc' := 7) W0.here hx (hb hby d_jdk_52_15_6) rfl ?_
  refine g_i2b (pc' := 8) W0.here hx (hb hby d_jdk_52_15_7) rfl ?_
  refine w_retN (t := .byte) W0 hx hh hlk hret (by simp) (hb hby d_jdk_52_15_8) (Nat.le_of_ble_eq_true rfl) (Nat.le_of_ble_eq_true rfl) ?_
  exact ⟨congrArg (fun z => some (Value.int z)) (by rw [own_csub]; rfl), rfl⟩
theorem own_pos0 {n : Nat} (h : 0 < n) (hn : n < 2 ^ 31) : ¬ n.toInt32 = 0 := fun q => by
  have := congrArg Int32.toInt q
  rw [own_toInt hn] at this
  simp at this; omega
theorem own_nil {cs : List Int32} (hn : cs.length < 2 ^ 31) (q : cs.length.toInt32 = (0 : Int32)) : cs = [] := by
  cases cs with
  | nil => rfl
  | cons a t => exact absurd q (own_pos0 (by simp) hn)
set_option maxRecDepth 65536 in
set_option maxHeartbeats 40000000 in
theorem c_str4 (l : Launch) (Z : State) (a0 : Array Value) (hw : ∀ d ∈ tables_1, d.before a0 Z = true) (hE : EW Z a0 consts_1) (cc : Int32) (fm : Value) (o ca : Nat) (cs : List Int32) (h0 : Heap) (O : Ext Z.heap h0) (G : SEnv Z cc fm) (hpos : 0 < cs.length) (hn : cs.length ≤ 3) (hch : ∀ c ∈ cs, 0 ≤ c.toInt ∧ c.toInt ≤ 255) (VA : Ary Z h0 ca .char (cs.map Value.int)) (hz : Z.heap.size ≤ o) (E0 : Exa Z h0 o "java/lang/String") (u1 u2 : Value) (F1 : Fld Z h0 o "java/lang/String" "coder" "B" u1) (F2 : Fld Z h0 o "java/lang/String" "value" "[B" u2) (hoc : o ≠ ca)  :
    Con l Z consts_1 (⟨"java/lang/String", "<init>", "([CIILjava/lang/Void;)V"⟩ : MethodName) jdk_42_method_149_code 6 (Option.none : Option Jvm.ClassFile.FieldType) ({ frames := 2, cells := 1, slots := 3, locals := 35 } : Room) #[(.ref o), (.ref ca), (.int (0 : Int32)), (.int cs.length.toInt32), .null] h0 [o] (fun v h => v = none ∧ ∃ b : Nat, SL Z h o b cs) := by
  refine Con.of (a0 := a0) #[.val (.ref o), .val (.ref ca), .val (.int (0 : Int32)), .val (.int cs.length.toInt32), .val .null, .unset] (plainFor_of_name pn_1) hE O (allS ⟨hz, E0.lt⟩ all0) (fun m => by first | (simp [entryFrame, mkF, argsToLocals, Value.category]; done) | rfl) ?_
  intro p e s m below meth c T0 hx hby hml hnm hret hlk hh W0
  have hn31 : cs.length < 2 ^ 31 := by omega
  have lt_ca : ca < h0.size := VA.lt
  have lt_o : o < h0.size := E0.lt
  refine g_aloadN (pc' := 1) W0.here hx (hb hby d_jdk_42_149_0) rfl rfl rfl ?_
  refine w_initO (pc' := 4) W0 hx (hw _ (List.mem_of_getElem? w_16)) (hw _ (List.mem_of_getElem? w_17)) (hw _ (List.mem_of_getElem? w_18)) (by rw [hml]; rfl) (hb hby d_jdk_42_149_1) (Nat.le_of_ble_eq_true rfl) (Nat.le_of_ble_eq_true rfl) rfl fun T7 W7 => ?_
  refine g_iloadN (pc' := 5) W7.here hx (hb hby d_jdk_42_149_4) rfl rfl ?_
  refine g_ifY (pc' := 27) W7.here hx (hb hby d_jdk_42_149_5) rfl (feq (show ¬ (cs.length.toInt32 = (0 : Int32)) from (own_pos0 hpos hn31))).2 ?_
  refine w_getS (pc' := 30) W7 hx (hw _ (List.mem_of_getElem? w_19)) Via.refl G.1 (hb hby d_jdk_42_149_27) rfl fun T8 W8 => ?_
  refine g_ifN (pc' := 33) W8.here hx (hb hby d_jdk_42_149_30) rfl (feq (show ¬ (cc = (0 : Int32)) from G.2.1)).1 ?_
  refine g_aloadN (pc' := 34) W8.here hx (hb hby d_jdk_42_149_33) rfl rfl rfl ?_
  refine g_iloadN (pc' := 35) W8.here hx (hb hby d_jdk_42_149_34) rfl rfl ?_
  refine g_iloadN (pc' := 36) W8.here hx (hb hby d_jdk_42_149_35) rfl rfl ?_
  refine w_callS (pc' := 39) (st := []) (y := (⟨"java/lang/StringUTF16", "compress", "([CII)[B"⟩ : MethodName)) W8 hx [(.ref ca), (.int (0 : Int32)), (.int cs.length.toInt32)] (hw _ (List.mem_of_getElem? w_20)) (hw _ (List.mem_of_getElem? w_21)) (hw _ (List.mem_of_getElem? w_22)) (hw _ (List.mem_of_getElem? w_23)) (by decide) (c_compress l Z a0 hw hE ca cs h0 W8.old hn hch VA) all0 (by rw [hml]; rfl) (lenOf pd_1 rfl) rfl (hb hby d_jdk_42_149_36) (Nat.le_of_ble_eq_true rfl) (Nat.le_of_ble_eq_true rfl) (Nat.le_of_ble_eq_true rfl) (Nat.le_of_ble_eq_true rfl) rfl fun v9 T9 h9 W9 K9 Q9 => ?_
  have z_K9 : h0.size ≤ h9.size := K9.1
  obtain ⟨ba10, rfl, gz10, V10⟩ := Q9
  have ne_ca_ba10 : ca ≠ ba10 := by omega
  have ne_o_ba10 : o ≠ ba10 := by omega
  have lt_ba10 : ba10 < h9.size := V10.lt
  refine g_astore (pc' := 41) (Ls' := #[.val (.ref o), .val (.ref ca), .val (.int (0 : Int32)), .val (.int cs.length.toInt32), .val .null, .val (.ref ba10)]) W9.here hx (hb hby d_jdk_42_149_39) rfl rfl rfl ?_
  refine g_aloadN (pc' := 42) W9.here hx (hb hby d_jdk_42_149_41) rfl rfl rfl ?_
  refine g_aload (pc' := 44) W9.here hx (hb hby d_jdk_42_149_42) rfl rfl rfl ?_
  refine g_iloadN (pc' := 45) W9.here hx (hb hby d_jdk_42_149_44) rfl rfl ?_
  refine w_callSp (pc' := 48) (st := [(.ref o)]) (y := (⟨"java/lang/StringUTF16", "coderFromArrayLen", "([BI)B"⟩ : MethodName)) W9 hx [(.ref ba10), (.int cs.length.toInt32)] (hw _ (List.mem_of_getElem? w_28)) (hw _ (List.mem_of_getElem? w_29)) (hw _ (List.mem_of_getElem? w_22)) (hw _ (List.mem_of_getElem? w_30)) (by decide) (c_coderFrom l Z a0 hw hE ba10 cs _ h9 W9.old V10 (by simp)) (by rw [hml]; rfl) (lenOf pd_2 rfl) rfl (hb hby d_jdk_42_149_45) (Nat.le_of_ble_eq_true rfl) (Nat.le_of_ble_eq_true rfl) rfl rfl (Nat.le_of_ble_eq_true rfl) (Nat.le_of_ble_eq_true rfl) rfl fun T11 W11 => ?_
  have c12 := (F1.keep K9 nin0)
  have c13 := (E0.keep K9)
  refine w_putN (pc' := 51) (v' := (.int (0 : Int32))) W11 hx (hw _ (List.mem_of_getElem? w_31)) Via.refl c12 c13 (Or.inr ⟨(hw _ (List.mem_of_getElem? w_32)), rfl, hnm⟩) (hw _ (List.mem_of_getElem? w_7)) (ty := .byte) (by decide) rfl rfl (List.mem_of_getElem? (i := 0) rfl) (hb hby d_jdk_42_149_48) rfl fun T14 h14 W14 K14 R14 F14 A14 => ?_
  have c15 := (F2.keep K9 nin0)
  have z_K14 : h9.size ≤ h14.size := K14.1
  have c16 := (c15.other R14 (Or.inr (slot_ne (Or.inr (hw _ (List.mem_of_getElem? w_34))) (Or.inr (hw _ (List.mem_of_getElem? w_32))) (by decide) (t := (.array .byte)) (t' := .byte) (by decide) (by decide))))
  refine g_aloadN (pc' := 52) W14.here hx (hb hby d_jdk_42_149_51) rfl rfl rfl ?_
  refine g_aload (pc' := 54) W14.here hx (hb hby d_jdk_42_149_52) rfl rfl rfl ?_
  refine w_put (pc' := 57) W14 hx (hw _ (List.mem_of_getElem? w_33)) Via.refl c16 A14 (Or.inr ⟨(hw _ (List.mem_of_getElem? w_34)), rfl, hnm⟩) (hw _ (List.mem_of_getElem? w_7)) (ty := (.array .byte)) (by decide) rfl rfl (List.mem_of_getElem? (i := 0) rfl) (hb hby d_jdk_42_149_54) rfl fun T17 h17 W17 K17 R17 F17 A17 => ?_
  have z_K17 : h14.size ≤ h17.size := K17.1
  have c18 := (F14.other R17 (Or.inr (slot_ne (Or.inr (hw _ (List.mem_of_getElem? w_32))) (Or.inr (hw _ (List.mem_of_getElem? w_34))) (by decide) (t := .byte) (t' := (.array .byte)) (by decide) (by decide))))
  have c19 := ((V10.keep K14 (ninS (Ne.symm ne_o_ba10) nin0)).keep K17 (ninS (Ne.symm ne_o_ba10) nin0))
  refine w_retV W17 hx hh hlk hret (hb hby d_jdk_42_149_57) (Nat.le_of_ble_eq_true rfl) (Nat.le_of_ble_eq_true rfl) ?_
  exact ⟨rfl, ba10, A17, c18, F17, c19, hch⟩
set_option maxRecDepth 65536 in
set_option maxHeartbeats 40000000 in
theorem c_strC (l : Launch) (Z : State) (a0 : Array Value) (hw : ∀ d ∈ tables_1, d.before a0 Z = true) (hE : EW Z a0 consts_1) (cc : Int32) (fm : Value) (o ca : Nat) (cs : List Int32) (h0 : Heap) (O : Ext Z.heap h0) (G : SEnv Z cc fm) (hpos : 0 < cs.length) (hn : cs.length ≤ 3) (hch : ∀ c ∈ cs, 0 ≤ c.toInt ∧ c.toInt ≤ 255) (VA : Ary Z h0 ca .char (cs.map Value.int)) (hz : Z.heap.size ≤ o) (E0 : Exa Z h0 o "java/lang/String") (u1 u2 : Value) (F1 : Fld Z h0 o "java/lang/String" "coder" "B" u1) (F2 : Fld Z h0 o "java/lang/String" "value" "[B" u2) (hoc : o ≠ ca)  :
    Con l Z consts_1 (⟨"java/lang/String", "<init>", "([C)V"⟩ : MethodName) jdk_42_method_3_code 2 (Option.none : Option Jvm.ClassFile.FieldType) ({ frames := 3, cells := 1, slots := 3, locals := 52 } : Room) #[(.ref o), (.ref ca)] h0 [o] (fun v h => v = none ∧ ∃ b : Nat, SL Z h o b cs) := by
  refine Con.of (a0 := a0) #[.val (.ref o), .val (.ref ca)] (plainFor_of_name pn_1) hE O (allS ⟨hz, E0.lt⟩ all0) (fun m => by first | (simp [entryFrame, mkF, argsToLocals, Value.category]; done) | rfl) ?_
  intro p e s m below meth c T0 hx hby hml hnm hret hlk hh W0
  have hn31 : cs.length < 2 ^ 31 := by omega
  have lt_ca : ca < h0.size := VA.lt
  have lt_o : o < h0.size := E0.lt
  refine g_aloadN (pc' := 1) W0.here hx (hb hby d_jdk_42_3_0) rfl rfl rfl ?_
  refine g_aloadN (pc' := 2) W0.here hx (hb hby d_jdk_42_3_1) rfl rfl rfl ?_
  refine g_iconst (0 : Int32) (pc' := 3) W0.here hx (hb hby d_jdk_42_3_2) rfl rfl ?_
  refine g_aloadN (pc' := 4) W0.here hx (hb hby d_jdk_42_3_3) rfl rfl rfl ?_
  refine w_len (pc' := 5) W0 hx VA (hb hby d_jdk_42_3_4) rfl ?_
  refine g_name (w := .int cs.length.toInt32) (congrArg Value.int (by rw [List.length_map])) ?_
  refine g_aconstNull (pc' := 6) W0.here hx (hb hby d_jdk_42_3_5) rfl ?_
  refine w_special (pc' := 9) (st := []) (y := (⟨"java/lang/String", "<init>", "([CIILjava/lang/Void;)V"⟩ : MethodName)) (a := o) W0 hx [(.ref ca), (.int (0 : Int32)), (.int cs.length.toInt32), .null] rfl (hw _ (List.mem_of_getElem? w_12)) (hw _ (List.mem_of_getElem? w_13)) (hw _ (List.mem_of_getElem? w_8)) (hw _ (List.mem_of_getElem? w_15)) (by decide) (c_str4 l Z a0 hw hE cc fm o ca cs h0 W0.old G hpos hn hch VA (by have := O.1; omega) E0 _ _ F1 F2 hoc) (allS (List.mem_of_getElem? (i := 0) rfl) all0) (by rw [hml]; rfl) (lenOf pd_3 rfl) rfl (hb hby d_jdk_42_3_6) (Nat.le_of_ble_eq_true rfl) (Nat.le_of_ble_eq_true rfl) (Nat.le_of_ble_eq_true rfl) (Nat.le_of_ble_eq_true rfl) rfl fun v20 T20 h20 W20 K20 Q20 => ?_
  have z_K20 : h0.size ≤ h20.size := K20.1
  obtain ⟨rfl, sb21, S21⟩ := Q20
  have ES21 := S21.1
  have lt_sb21 : sb21 < h20.size := S21.ltb
  refine w_retV W20 hx hh hlk hret (hb hby d_jdk_42_3_9) (Nat.le_of_ble_eq_true rfl) (Nat.le_of_ble_eq_true rfl) ?_
  exact ⟨rfl, _, S21⟩
theorem own_atoms {Z : State} {a0 : Array Value} (hw : ∀ d ∈ tables_1, d.before a0 Z = true) : ∀ a ∈ Bundle.stringAtoms, a.before a0 Z = true := fun d hd => by
  simp only [Bundle.stringAtoms, Bundle.sN, List.mem_cons, List.not_mem_nil, or_false] at hd
  rcases hd with rfl | rfl | rfl | rfl | rfl | rfl | rfl
  · exact (hw _ (List.mem_of_getElem? w_8))
  · exact (hw _ (List.mem_of_getElem? w_7))
  · exact (hw _ (List.mem_of_getElem? w_24))
  · exact (hw _ (List.mem_of_getElem? w_34))
  · exact (hw _ (List.mem_of_getElem? w_32))
  · exact (hw _ (List.mem_of_getElem? w_48))
  · exact (hw _ (List.mem_of_getElem? w_49))
set_option maxRecDepth 65536 in
set_option maxHeartbeats 40000000 in
theorem c_coder (l : Launch) (Z : State) (a0 : Array Value) (hw : ∀ d ∈ tables_1, d.before a0 Z = true) (hE : EW Z a0 consts_1) (cc : Int32) (fm : Value) (a b : Nat) (cs : List Int32)  (h0 : Heap) (O : Ext Z.heap h0) (G : SEnv Z cc fm) (S0 : SL Z h0 a b cs)  :
    Con l Z consts_1 (⟨"java/lang/String", "coder", "()B"⟩ : MethodName) jdk_42_method_152_code 1 (Option.some Jvm.ClassFile.FieldType.byte) ({ frames := 0, cells := 0, slots := 0, locals := 0 } : Room) #[(.ref a)] h0 [] (pureQ (some (.int 0)) h0) := by
  refine Con.of (a0 := a0) #[.val (.ref a)] (plainFor_of_name pn_1) hE O all0 (fun m => by first | (simp [entryFrame, mkF, argsToLocals, Value.category]; done) | rfl) ?_
  intro p e s m below meth c T0 hx hby hml hnm hret hlk hh W0
  obtain ⟨E_a, FC_a, FV_a, V_b, L_a⟩ := id S0
  have hlen : cs.length < 2 ^ 31 := by have := V_b.len; simpa using this
  refine w_getS (pc' := 3) W0 hx (hw _ (List.mem_of_getElem? w_19)) Via.refl G.1 (hb hby d_jdk_42_152_0) rfl fun T22 W22 => ?_
  refine g_ifN (pc' := 6) W22.here hx (hb hby d_jdk_42_152_3) rfl (feq (show ¬ (cc = (0 : Int32)) from G.2.1)).1 ?_
  refine g_aloadN (pc' := 7) W22.here hx (hb hby d_jdk_42_152_6) rfl rfl rfl ?_
  refine w_get (pc' := 10) W22 hx (hw _ (List.mem_of_getElem? w_31)) Via.refl FC_a (hb hby d_jdk_42_152_7) rfl fun T23 W23 => ?_
  refine g_goto (pc' := 14) W23.here hx (hb hby d_jdk_42_152_10) rfl ?_
  refine w_retN (t := .byte) W23 hx hh hlk hret (by simp) (hb hby d_jdk_42_152_14) (Nat.le_of_ble_eq_true rfl) (Nat.le_of_ble_eq_true rfl) ?_
  exact ⟨rfl, rfl⟩
theorem own_shr0 (x : Int32) : x >>> ((0 : Int32) &&& 31) = x := by
  apply Int32.toInt_inj.mp
  rw [c_ishr x 0 0 rfl]
  simp
set_option maxRecDepth 65536 in
set_option maxHeartbeats 40000000 in
theorem c_length (l : Launch) (Z : State) (a0 : Array Value) (hw : ∀ d ∈ tables_1, d.before a0 Z = true) (hE : EW Z a0 consts_1) (cc : Int32) (fm : Value) (a b : Nat) (cs : List Int32)  (h0 : Heap) (O : Ext Z.heap h0) (G : SEnv Z cc fm) (S0 : SL Z h0 a b cs)  :
    Con l Z consts_1 (⟨"java/lang/String", "length", "()I"⟩ : MethodName) jdk_42_method_54_code 1 (Option.some Jvm.ClassFile.FieldType.int) ({ frames := 1, cells := 0, slots := 0, locals := 13 } : Room) #[(.ref a)] h0 [] (pureQ (some (.int cs.length.toInt32)) h0) := by
  refine Con.of (a0 := a0) #[.val (.ref a)] (plainFor_of_name pn_1) hE O all0 (fun m => by first | (simp [entryFrame, mkF, argsToLocals, Value.category]; done) | rfl) ?_
  intro p e s m below meth c T0 hx hby hml hnm hret hlk hh W0
  obtain ⟨E_a, FC_a, FV_a, V_b, L_a⟩ := id S0
  have hlen : cs.length < 2 ^ 31 := by have := V_b.len; simpa using this
  refine g_aloadN (pc' := 1) W0.here hx (hb hby d_jdk_42_54_0) rfl rfl rfl ?_
  refine w_get (pc' := 4) W0 hx (hw _ (List.mem_of_getElem? w_33)) Via.refl FV_a (hb hby d_jdk_42_54_1) rfl fun T24 W24 => ?_
  refine w_len (pc' := 5) W24 hx V_b (hb hby d_jdk_42_54_4) rfl ?_
  refine g_name (w := .int cs.length.toInt32) (congrArg Value.int (by rw [List.length_map])) ?_
  refine g_aloadN (pc' := 6) W24.here hx (hb hby d_jdk_42_54_5) rfl rfl rfl ?_
  refine w_virtualp (pc' := 9) (st := [(.int cs.length.toInt32)]) (y := (⟨"java/lang/String", "coder", "()B"⟩ : MethodName)) (z := (⟨"java/lang/String", "coder", "()B"⟩ : MethodName)) (a := a) W24 hx [] (hw _ (List.mem_of_getElem? w_88)) (hw _ (List.mem_of_getElem? w_89)) (nfS (z := (⟨"java/lang/String", "coder", "()B"⟩ : MethodName)) (hw _ (List.mem_of_getElem? w_91))) (hw _ (List.mem_of_getElem? w_91)) (hw _ (List.mem_of_getElem? w_90)) (hw _ (List.mem_of_getElem? w_8)) (hw _ (List.mem_of_getElem? w_92)) (by decide) (c_coder l Z a0 hw hE cc fm a b cs h0 W24.old G S0) E_a (by rw [hml]; rfl) (lenOf pd_4 rfl) rfl (hb hby d_jdk_42_54_6) (Nat.le_of_ble_eq_true rfl) (Nat.le_of_ble_eq_true rfl) rfl rfl (Nat.le_of_ble_eq_true rfl) (Nat.le_of_ble_eq_true rfl) rfl fun T25 W25 => ?_
  refine g_ishr (pc' := 10) W25.here hx (hb hby d_jdk_42_54_9) rfl ?_
  refine w_retI W25 hx hh hlk hret (hb hby d_jdk_42_54_10) (Nat.le_of_ble_eq_true rfl) (Nat.le_of_ble_eq_true rfl) ?_
  exact ⟨congrArg (fun z => some (Value.int z)) (own_shr0 _), rfl⟩
set_option maxRecDepth 65536 in
set_option maxHeartbeats 40000000 in
theorem c_isEmpty (l : Launch) (Z : State) (a0 : Array Value) (hw : ∀ d ∈ tables_1, d.before a0 Z = true) (hE : EW Z a0 consts_1) (cc : Int32) (fm : Value) (a b : Nat) (cs : List Int32)  (h0 : Heap) (O : Ext Z.heap h0) (G : SEnv Z cc fm) (S0 : SL Z h0 a b cs)  :
    Con l Z consts_1 (⟨"java/lang/String", "isEmpty", "()Z"⟩ : MethodName) jdk_42_method_55_code 1 (Option.some Jvm.ClassFile.FieldType.boolean) ({ frames := 0, cells := 0, slots := 0, locals := 0 } : Room) #[(.ref a)] h0 [] (pureQ (some (.int (if cs = [] then 1 else 0))) h0) := by
  refine Con.of (a0 := a0) #[.val (.ref a)] (plainFor_of_name pn_1) hE O all0 (fun m => by first | (simp [entryFrame, mkF, argsToLocals, Value.category]; done) | rfl) ?_
  intro p e s m below meth c T0 hx hby hml hnm hret hlk hh W0
  obtain ⟨E_a, FC_a, FV_a, V_b, L_a⟩ := id S0
  have hlen : cs.length < 2 ^ 31 := by have := V_b.len; simpa using this
  refine g_aloadN (pc' := 1) W0.here hx (hb hby d_jdk_42_55_0) rfl rfl rfl ?_
  refine w_get (pc' := 4) W0 hx (hw _ (List.mem_of_getElem? w_33)) Via.refl FV_a (hb hby d_jdk_42_55_1) rfl fun T26 W26 => ?_
  refine w_len (pc' := 5) W26 hx V_b (hb hby d_jdk_42_55_4) rfl ?_
  refine g_name (w := .int cs.length.toInt32) (congrArg Value.int (by rw [List.length_map])) ?_
  by_cases hc5_27 : cs.length.toInt32 = (0 : Int32)
  · refine g_ifN (pc' := 8) W26.here hx (hb hby d_jdk_42_55_5) rfl (teq hc5_27).2 ?_
    refine g_iconst (1 : Int32) (pc' := 9) W26.here hx (hb hby d_jdk_42_55_8) rfl rfl ?_
    refine g_goto (pc' := 13) W26.here hx (hb hby d_jdk_42_55_9) rfl ?_
    refine w_retN (t := .boolean) W26 hx hh hlk hret (by simp) (hb hby d_jdk_42_55_13) (Nat.le_of_ble_eq_true rfl) (Nat.le_of_ble_eq_true rfl) ?_
    exact ⟨by rw [if_pos (own_nil hlen hc5_27)]; rfl, rfl⟩
  · refine g_ifY (pc' := 12) W26.here hx (hb hby d_jdk_42_55_5) rfl (feq hc5_27).2 ?_
    refine g_iconst (0 : Int32) (pc' := 13) W26.here hx (hb hby d_jdk_42_55_12) rfl rfl ?_
    refine w_retN (t := .boolean) W26 hx hh hlk hret (by simp) (hb hby d_jdk_42_55_13) (Nat.le_of_ble_eq_true rfl) (Nat.le_of_ble_eq_true rfl) ?_
    exact ⟨by rw [if_neg (fun q => hc5_27 (by rw [q]; rfl))]; rfl, rfl⟩
set_option maxRecDepth 65536 in
set_option maxHeartbeats 40000000 in
theorem c_isLat (l : Launch) (Z : State) (a0 : Array Value) (hw : ∀ d ∈ tables_1, d.before a0 Z = true) (hE : EW Z a0 consts_1) (cc : Int32) (fm : Value) (a b : Nat) (cs : List Int32)  (h0 : Heap) (O : Ext Z.heap h0) (G : SEnv Z cc fm) (S0 : SL Z h0 a b cs)  :
    Con l Z consts_1 (⟨"java/lang/String", "isLatin1", "()Z"⟩ : MethodName) jdk_42_method_154_code 1 (Option.some Jvm.ClassFile.FieldType.boolean) ({ frames := 0, cells := 0, slots := 0, locals := 0 } : Room) #[(.ref a)] h0 [] (pureQ (some (.int 1)) h0) := by
  refine Con.of (a0 := a0) #[.val (.ref a)] (plainFor_of_name pn_1) hE O all0 (fun m => by first | (simp [entryFrame, mkF, argsToLocals, Value.category]; done) | rfl) ?_
  intro p e s m below meth c T0 hx hby hml hnm hret hlk hh W0
  obtain ⟨E_a, FC_a, FV_a, V_b, L_a⟩ := id S0
  have hlen : cs.length < 2 ^ 31 := by have := V_b.len; simpa using this
  refine w_getS (pc' := 3) W0 hx (hw _ (List.mem_of_getElem? w_19)) Via.refl G.1 (hb hby d_jdk_42_154_0) rfl fun T28 W28 => ?_
  refine g_ifN (pc' := 6) W28.here hx (hb hby d_jdk_42_154_3) rfl (feq (show ¬ (cc = (0 : Int32)) from G.2.1)).1 ?_
  refine g_aloadN (pc' := 7) W28.here hx (hb hby d_jdk_42_154_6) rfl rfl rfl ?_
  refine w_get (pc' := 10) W28 hx (hw _ (List.mem_of_getElem? w_31)) Via.refl FC_a (hb hby d_jdk_42_154_7) rfl fun T29 W29 => ?_
  refine g_ifN (pc' := 13) W29.here hx (hb hby d_jdk_42_154_10) rfl (teq (show (0 : Int32) = (0 : Int32) from (by decide))).2 ?_
  refine g_iconst (1 : Int32) (pc' := 14) W29.here hx (hb hby d_jdk_42_154_13) rfl rfl ?_
  refine g_goto (pc' := 18) W29.here hx (hb hby d_jdk_42_154_14) rfl ?_
  refine w_retN (t := .boolean) W29 hx hh hlk hret (by simp) (hb hby d_jdk_42_154_18) (Nat.le_of_ble_eq_true rfl) (Nat.le_of_ble_eq_true rfl) ?_
  exact ⟨rfl, rfl⟩
set_option maxRecDepth 65536 in
set_option maxHeartbeats 40000000 in
theorem c_chk3 (l : Launch) (Z : State) (a0 : Array Value) (hw : ∀ d ∈ tables_1, d.before a0 Z = true) (hE : EW Z a0 consts_1) (j n : Int32) (fm : Value) (h0 : Heap) (O : Ext Z.heap h0) (hfm : fm.isRef = true) (hj : ¬ j < 0) (hjn : j < n) :
    Con l Z consts_1 (⟨"jdk/internal/util/Preconditions", "checkIndex", "(IILjava/util/function/BiFunction;)I"⟩ : MethodName) jdk_41_method_11_code 3 (Option.some Jvm.ClassFile.FieldType.int) ({ frames := 0, cells := 0, slots := 0, locals := 0 } : Room) #[(.int j), (.int n), fm] h0 [] (pureQ (some (.int j)) h0) := by
  refine Con.of (a0 := a0) #[.val (.int j), .val (.int n), .val fm] (plainFor_of_name pn_2) hE O all0 (fun m => by rcases ref_cases hfm with rfl | ⟨_, rfl⟩ <;> rfl) ?_
  intro p e s m below meth c T0 hx hby hml hnm hret hlk hh W0
  refine g_iloadN (pc' := 1) W0.here hx (hb hby d_jdk_41_11_0) rfl rfl ?_
  refine g_ifN (pc' := 4) W0.here hx (hb hby d_jdk_41_11_1) rfl (flt (show ¬ (j < (0 : Int32)) from hj)).1 ?_
  refine g_iloadN (pc' := 5) W0.here hx (hb hby d_jdk_41_11_4) rfl rfl ?_
  refine g_iloadN (pc' := 6) W0.here hx (hb hby d_jdk_41_11_5) rfl rfl ?_
  refine g_icmpY (pc' := 16) W0.here hx (hb hby d_jdk_41_11_6) rfl (tlt (show j < n from hjn)).1 ?_
  refine g_iloadN (pc' := 17) W0.here hx (hb hby d_jdk_41_11_16) rfl rfl ?_
  refine w_retI W0 hx hh hlk hret (hb hby d_jdk_41_11_17) (Nat.le_of_ble_eq_true rfl) (Nat.le_of_ble_eq_true rfl) ?_
  exact ⟨rfl, rfl⟩
set_option maxRecDepth 65536 in
set_option maxHeartbeats 40000000 in
theorem c_chk2 (l : Launch) (Z : State) (a0 : Array Value) (hw : ∀ d ∈ tables_1, d.before a0 Z = true) (hE : EW Z a0 consts_1) (cc : Int32) (fm : Value) (j n : Int32) (h0 : Heap) (O : Ext Z.heap h0) (G : SEnv Z cc fm) (hj : ¬ j < 0) (hjn : j < n) :
    Con l Z consts_1 (⟨"java/lang/String", "checkIndex", "(II)V"⟩ : MethodName) jdk_42_method_155_code 2 (Option.none : Option Jvm.ClassFile.FieldType) ({ frames := 1, cells := 0, slots := 0, locals := 14 } : Room) #[(.int j), (.int n)] h0 [] (pureQ none h0) := by
  refine Con.of (a0 := a0) #[.val (.int j), .val (.int n)] (plainFor_of_name pn_1) hE O all0 (fun m => by first | (simp [entryFrame, mkF, argsToLocals, Value.category]; done) | rfl) ?_
  intro p e s m below meth c T0 hx hby hml hnm hret hlk hh W0
  refine g_iloadN (pc' := 1) W0.here hx (hb hby d_jdk_42_155_0) rfl rfl ?_
  refine g_iloadN (pc' := 2) W0.here hx (hb hby d_jdk_42_155_1) rfl rfl ?_
  refine w_getS (pc' := 5) W0 hx (hw _ (List.mem_of_getElem? w_226)) Via.refl G.2.2.1 (hb hby d_jdk_42_155_2) rfl fun T30 W30 => ?_
  refine w_callSp (pc' := 8) (st := []) (y := (⟨"jdk/internal/util/Preconditions", "checkIndex", "(IILjava/util/function/BiFunction;)I"⟩ : MethodName)) W30 hx [(.int j), (.int n), fm] (hw _ (List.mem_of_getElem? w_228)) (hw _ (List.mem_of_getElem? w_229)) (hw _ (List.mem_of_getElem? w_227)) (hw _ (List.mem_of_getElem? w_230)) (by decide) (c_chk3 l Z a0 hw hE j n fm h0 W30.old G.2.2.2 hj hjn) (by rw [hml]; rfl) (lenOf pd_5 rfl) rfl (hb hby d_jdk_42_155_5) (Nat.le_of_ble_eq_true rfl) (Nat.le_of_ble_eq_true rfl) rfl rfl (Nat.le_of_ble_eq_true rfl) (Nat.le_of_ble_eq_true rfl) rfl fun T31 W31 => ?_
  refine g_pop (pc' := 9) W31.here hx (hb hby d_jdk_42_155_8) rfl rfl ?_
  refine w_retV W31 hx hh hlk hret (hb hby d_jdk_42_155_9) (Nat.le_of_ble_eq_true rfl) (Nat.le_of_ble_eq_true rfl) ?_
  exact ⟨rfl, rfl⟩
set_option maxRecDepth 65536 in
set_option maxHeartbeats 40000000 in
theorem c_l1at (l : Launch) (Z : State) (a0 : Array Value) (hw : ∀ d ∈ tables_1, d.before a0 Z = true) (hE : EW Z a0 consts_1) (cc : Int32) (fm : Value) (a b : Nat) (cs : List Int32) (j cj : Int32)  (h0 : Heap) (O : Ext Z.heap h0) (G : SEnv Z cc fm) (S0 : SL Z h0 a b cs) (hj : ¬ j < 0) (hjn : j < cs.length.toInt32) (hcj : cs[j.toNatClampNeg]? = some cj) :
    Con l Z consts_1 (⟨"java/lang/StringLatin1", "charAt", "([BI)C"⟩ : MethodName) jdk_43_method_2_code 2 (Option.some Jvm.ClassFile.FieldType.char) ({ frames := 2, cells := 0, slots := 0, locals := 27 } : Room) #[(.ref b), (.int j)] h0 [] (pureQ (some (.int cj)) h0) := by
  refine Con.of (a0 := a0) #[.val (.ref b), .val (.int j)] (plainFor_of_name pn_3) hE O all0 (fun m => by first | (simp [entryFrame, mkF, argsToLocals, Value.category]; done) | rfl) ?_
  intro p e s m below meth c T0 hx hby hml hnm hret hlk hh W0
  obtain ⟨E_a, FC_a, FV_a, V_b, L_a⟩ := id S0
  have hlen : cs.length < 2 ^ 31 := by have := V_b.len; simpa using this
  refine g_iloadN (pc' := 1) W0.here hx (hb hby d_jdk_43_2_0) rfl rfl ?_
  refine g_aloadN (pc' := 2) W0.here hx (hb hby d_jdk_43_2_1) rfl rfl rfl ?_
  refine w_len (pc' := 3) W0 hx V_b (hb hby d_jdk_43_2_2) rfl ?_
  refine g_name (w := .int cs.length.toInt32) (congrArg Value.int (by rw [List.length_map])) ?_
  refine w_callSp (pc' := 6) (st := []) (y := (⟨"java/lang/String", "checkIndex", "(II)V"⟩ : MethodName)) W0 hx [(.int j), (.int cs.length.toInt32)] (hw _ (List.mem_of_getElem? w_223)) (hw _ (List.mem_of_getElem? w_224)) (hw _ (List.mem_of_getElem? w_8)) (hw _ (List.mem_of_getElem? w_225)) (by decide) (c_chk2 l Z a0 hw hE cc fm j cs.length.toInt32 h0 W0.old G hj hjn) (by rw [hml]; rfl) (lenOf pd_6 rfl) rfl (hb hby d_jdk_43_2_3) (Nat.le_of_ble_eq_true rfl) (Nat.le_of_ble_eq_true rfl) rfl rfl (Nat.le_of_ble_eq_true rfl) (Nat.le_of_ble_eq_true rfl) rfl fun T32 W32 => ?_
  refine g_aloadN (pc' := 7) W32.here hx (hb hby d_jdk_43_2_6) rfl rfl rfl ?_
  refine g_iloadN (pc' := 8) W32.here hx (hb hby d_jdk_43_2_7) rfl rfl ?_
  refine w_baload (pc' := 9) (v := (.int cj.toInt8.toInt32)) W32 hx V_b hj (by rw [List.getElem?_map, hcj]; rfl) (hb hby d_jdk_43_2_8) rfl ?_
  refine g_sipush (255 : Int32) (pc' := 12) W32.here hx (hb hby d_jdk_43_2_9) rfl rfl ?_
  refine g_iand (pc' := 13) W32.here hx (hb hby d_jdk_43_2_12) rfl ?_
  refine g_i2c (pc' := 14) W32.here hx (hb hby d_jdk_43_2_13) rfl ?_
  refine w_retN (t := .char) W32 hx hh hlk hret (by simp) (hb hby d_jdk_43_2_14) (Nat.le_of_ble_eq_true rfl) (Nat.le_of_ble_eq_true rfl) ?_
  exact ⟨congrArg (fun z => some (Value.int z)) (own_back cj (L_a cj (List.mem_of_getElem? hcj))), rfl⟩
set_option maxRecDepth 65536 in
set_option maxHeartbeats 40000000 in
theorem c_charAt (l : Launch) (Z : State) (a0 : Array Value) (hw : ∀ d ∈ tables_1, d.before a0 Z = true) (hE : EW Z a0 consts_1) (cc : Int32) (fm : Value) (a b : Nat) (cs : List Int32) (j cj : Int32)  (h0 : Heap) (O : Ext Z.heap h0) (G : SEnv Z cc fm) (S0 : SL Z h0 a b cs) (hj : ¬ j < 0) (hjn : j < cs.length.toInt32) (hcj : cs[j.toNatClampNeg]? = some cj) :
    Con l Z consts_1 (⟨"java/lang/String", "charAt", "(I)C"⟩ : MethodName) jdk_42_method_56_code 2 (Option.some Jvm.ClassFile.FieldType.char) ({ frames := 3, cells := 0, slots := 0, locals := 40 } : Room) #[(.ref a), (.int j)] h0 [] (pureQ (some (.int cj)) h0) := by
  refine Con.of (a0 := a0) #[.val (.ref a), .val (.int j)] (plainFor_of_name pn_1) hE O all0 (fun m => by first | (simp [entryFrame, mkF, argsToLocals, Value.category]; done) | rfl) ?_
  intro p e s m below meth c T0 hx hby hml hnm hret hlk hh W0
  obtain ⟨E_a, FC_a, FV_a, V_b, L_a⟩ := id S0
  have hlen : cs.length < 2 ^ 31 := by have := V_b.len; simpa using this
  refine g_aloadN (pc' := 1) W0.here hx (hb hby d_jdk_42_56_0) rfl rfl rfl ?_
  refine w_virtualp (pc' := 4) (st := []) (y := (⟨"java/lang/String", "isLatin1", "()Z"⟩ : MethodName)) (z := (⟨"java/lang/String", "isLatin1", "()Z"⟩ : MethodName)) (a := a) W0 hx [] (hw _ (List.mem_of_getElem? w_214)) (hw _ (List.mem_of_getElem? w_215)) (nfS (z := (⟨"java/lang/String", "isLatin1", "()Z"⟩ : MethodName)) (hw _ (List.mem_of_getElem? w_217))) (hw _ (List.mem_of_getElem? w_217)) (hw _ (List.mem_of_getElem? w_216)) (hw _ (List.mem_of_getElem? w_8)) (hw _ (List.mem_of_getElem? w_218)) (by decide) (c_isLat l Z a0 hw hE cc fm a b cs h0 W0.old G S0) E_a (by rw [hml]; rfl) (lenOf pd_7 rfl) rfl (hb hby d_jdk_42_56_1) (Nat.le_of_ble_eq_true rfl) (Nat.le_of_ble_eq_true rfl) rfl rfl (Nat.le_of_ble_eq_true rfl) (Nat.le_of_ble_eq_true rfl) rfl fun T33 W33 => ?_
  refine g_ifN (pc' := 7) W33.here hx (hb hby d_jdk_42_56_4) rfl (feq (show ¬ ((1 : Int32) = (0 : Int32)) from (by decide))).1 ?_
  refine g_aloadN (pc' := 8) W33.here hx (hb hby d_jdk_42_56_7) rfl rfl rfl ?_
  refine w_get (pc' := 11) W33 hx (hw _ (List.mem_of_getElem? w_33)) Via.refl FV_a (hb hby d_jdk_42_56_8) rfl fun T34 W34 => ?_
  refine g_iloadN (pc' := 12) W34.here hx (hb hby d_jdk_42_56_11) rfl rfl ?_
  refine w_callSp (pc' := 15) (st := []) (y := (⟨"java/lang/StringLatin1", "charAt", "([BI)C"⟩ : MethodName)) W34 hx [(.ref b), (.int j)] (hw _ (List.mem_of_getElem? w_219)) (hw _ (List.mem_of_getElem? w_220)) (hw _ (List.mem_of_getElem? w_221)) (hw _ (List.mem_of_getElem? w_222)) (by decide) (c_l1at l Z a0 hw hE cc fm a b cs j cj h0 W34.old G S0 hj hjn hcj) (by rw [hml]; rfl) (lenOf pd_8 rfl) rfl (hb hby d_jdk_42_56_12) (Nat.le_of_ble_eq_true rfl) (Nat.le_of_ble_eq_true rfl) rfl rfl (Nat.le_of_ble_eq_true rfl) (Nat.le_of_ble_eq_true rfl) rfl fun T35 W35 => ?_
  refine w_retN (t := .char) W35 hx hh hlk hret (by simp) (hb hby d_jdk_42_56_15) (Nat.le_of_ble_eq_true rfl) (Nat.le_of_ble_eq_true rfl) ?_
  exact ⟨congrArg (fun z => some (Value.int z)) (own_nchar (by have := L_a cj (List.mem_of_getElem? hcj); omega)), rfl⟩
theorem own_byte (x : Int32) : 0 ≤ ((x &&& (255 : Int32)).toUInt32.toUInt16.toUInt32.toInt32).toInt ∧ ((x &&& (255 : Int32)).toUInt32.toUInt16.toUInt32.toInt32).toInt ≤ 255 := by
  rw [i2c_mask, c_mask x 255 8 (by decide) (by decide)]
  omega
theorem own_c16 {c : Int32} (h : 0 ≤ c.toInt ∧ c.toInt ≤ 255) : 0 ≤ c.toInt ∧ c.toInt < 65536 := by omega
/-- the StringBuilder at o: its bytes at vb, count cnt, capacity cap, Latin-1 -/
def SBd (Z : State) (h : Heap) (o vb : Nat) (cnt : Int32) (cap : Nat) : Prop := Exa Z h o "java/lang/StringBuilder" ∧ Fld Z h o "java/lang/AbstractStringBuilder" "count" "I" (.int cnt) ∧ Fld Z h o "java/lang/AbstractStringBuilder" "coder" "B" (.int 0) ∧ Fld Z h o "java/lang/AbstractStringBuilder" "value" "[B" (.ref vb) ∧ ∃ vs : List Value, Ary Z h vb .byte vs ∧ vs.length = cap
theorem SBd.keep {Z : State} {h h' : Heap} {o vb : Nat} {cnt : Int32} {cap : Nat} {ws : List Addr} (B : SBd Z h o vb cnt cap) (K : Keep h h' ws) (qa : o ∉ ws) (qb : vb ∉ ws) : SBd Z h' o vb cnt cap := by
  obtain ⟨E, F1, F2, F3, vs, V, l⟩ := B
  exact ⟨E.keep K, F1.keep K qa, F2.keep K qa, F3.keep K qa, vs, V.keep K qb, l⟩
theorem SBd.ltb {Z : State} {h : Heap} {o vb : Nat} {cnt : Int32} {cap : Nat} (B : SBd Z h o vb cnt cap) : vb < h.size := by obtain ⟨_, _, _, _, vs, V, _⟩ := B; exact V.lt
set_option maxRecDepth 65536 in
set_option maxHeartbeats 40000000 in
theorem c_asbinit (l : Launch) (Z : State) (a0 : Array Value) (hw : ∀ d ∈ tables_1, d.before a0 Z = true) (hE : EW Z a0 consts_1) (cc : Int32) (fm : Value) (o : Nat) (h0 : Heap) (O : Ext Z.heap h0) (G : SEnv Z cc fm) (hz : Z.heap.size ≤ o) (E0 : Exa Z h0 o "java/lang/StringBuilder") (F1 : Fld Z h0 o "java/lang/AbstractStringBuilder" "count" "I" (.int 0)) (u2 u3 : Value) (F2 : Fld Z h0 o "java/lang/AbstractStringBuilder" "coder" "B" u2) (F3 : Fld Z h0 o "java/lang/AbstractStringBuilder" "value" "[B" u3)  :
    ConF l Z consts_1 (⟨"java/lang/AbstractStringBuilder", "<init>", "(I)V"⟩ : MethodName) jdk_68_method_2_code 2 (Option.none : Option Jvm.ClassFile.FieldType) ({ frames := 1, cells := 1, slots := 16, locals := 12 } : Room) #[(.ref o), (.int (16 : Int32))] h0 [o] (fun N v h => ∃ vb : Nat, N = [vb] ∧ v = none ∧ SBd Z h o vb 0 16) := by
  refine ConF.of (a0 := a0) #[.val (.ref o), .val (.int (16 : Int32))] (plainFor_of_name pn_4) hE O (allS ⟨hz, E0.lt⟩ all0) (fun m => by first | (simp [entryFrame, mkF, argsToLocals, Value.category]; done) | rfl) ?_
  intro p e s m below meth c T0 hx hby hml hnm hret hlk hh W0
  have lt_o : o < h0.size := E0.lt
  refine g_aloadN (pc' := 1) W0.here hx (hb hby d_jdk_68_2_0) rfl rfl rfl ?_
  refine w_initO (pc' := 4) W0 hx (hw _ (List.mem_of_getElem? w_66)) (hw _ (List.mem_of_getElem? w_17)) (hw _ (List.mem_of_getElem? w_18)) (by rw [hml]; rfl) (hb hby d_jdk_68_2_1) (Nat.le_of_ble_eq_true rfl) (Nat.le_of_ble_eq_true rfl) rfl fun T36 W36 => ?_
  refine w_getS (pc' := 7) W36 hx (hw _ (List.mem_of_getElem? w_67)) Via.refl G.1 (hb hby d_jdk_68_2_4) rfl fun T37 W37 => ?_
  refine g_ifN (pc' := 10) W37.here hx (hb hby d_jdk_68_2_7) rfl (feq (show ¬ (cc = (0 : Int32)) from G.2.1)).1 ?_
  refine g_aloadN (pc' := 11) W37.here hx (hb hby d_jdk_68_2_10) rfl rfl rfl ?_
  refine g_iloadN (pc' := 12) W37.here hx (hb hby d_jdk_68_2_11) rfl rfl ?_
  refine w_newarr (pc' := 14) (cap := 16) W37 hx (hw _ (List.mem_of_getElem? w_24)) (hb hby d_jdk_68_2_12) (by decide) (Nat.le_refl _) (Nat.le_of_ble_eq_true rfl) (Nat.le_of_ble_eq_true rfl) (Nat.le_of_ble_eq_true rfl) rfl rfl fun T38 h38 b38 g38 W38 K38 V38 => ?_
  have z_K38 : h0.size ≤ h38.size := K38.1
  have ne_o_b38 : o ≠ b38 := by omega
  have lt_b38 : b38 < h38.size := W38.lt (List.mem_cons_self ..)
  have V38 : Ary Z h38 b38 .byte [(.int (0 : Int32)), (.int (0 : Int32)), (.int (0 : Int32)), (.int (0 : Int32)), (.int (0 : Int32)), (.int (0 : Int32)), (.int (0 : Int32)), (.int (0 : Int32)), (.int (0 : Int32)), (.int (0 : Int32)), (.int (0 : Int32)), (.int (0 : Int32)), (.int (0 : Int32)), (.int (0 : Int32)), (.int (0 : Int32)), (.int (0 : Int32))] := V38
  have c39 := (F3.keep K38 nin0)
  have c40 := (E0.keep K38)
  refine w_put (pc' := 17) W38 hx (hw _ (List.mem_of_getElem? w_68)) Via.refl c39 c40 (Or.inl (hw _ (List.mem_of_getElem? w_69))) (hw _ (List.mem_of_getElem? w_55)) (ty := (.array .byte)) (by decide) rfl rfl (List.mem_of_getElem? (i := 0) rfl) (hb hby d_jdk_68_2_14) rfl fun T41 h41 W41 K41 R41 F41 A41 => ?_
  have c42 := (F1.keep K38 nin0)
  have c43 := (F2.keep K38 nin0)
  have z_K41 : h38.size ≤ h41.size := K41.1
  have c44 := (c42.other R41 (Or.inr (slot_ne (Or.inl (hw _ (List.mem_of_getElem? w_94))) (Or.inl (hw _ (List.mem_of_getElem? w_69))) (by decide) (t := .int) (t' := (.array .byte)) (by decide) (by decide))))
  have c45 := (c43.other R41 (Or.inr (slot_ne (Or.inl (hw _ (List.mem_of_getElem? w_71))) (Or.inl (hw _ (List.mem_of_getElem? w_69))) (by decide) (t := .byte) (t' := (.array .byte)) (by decide) (by decide))))
  refine g_aloadN (pc' := 18) W41.here hx (hb hby d_jdk_68_2_17) rfl rfl rfl ?_
  refine g_iconst (0 : Int32) (pc' := 19) W41.here hx (hb hby d_jdk_68_2_18) rfl rfl ?_
  refine w_putN (pc' := 22) (v' := (.int (0 : Int32))) W41 hx (hw _ (List.mem_of_getElem? w_70)) Via.refl c45 A41 (Or.inl (hw _ (List.mem_of_getElem? w_71))) (hw _ (List.mem_of_getElem? w_55)) (ty := .byte) (by decide) rfl rfl (List.mem_of_getElem? (i := 0) rfl) (hb hby d_jdk_68_2_19) rfl fun T46 h46 W46 K46 R46 F46 A46 => ?_
  have z_K46 : h41.size ≤ h46.size := K46.1
  have c47 := (c44.other R46 (Or.inr (slot_ne (Or.inl (hw _ (List.mem_of_getElem? w_94))) (Or.inl (hw _ (List.mem_of_getElem? w_71))) (by decide) (t := .int) (t' := .byte) (by decide) (by decide))))
  have c48 := (F41.other R46 (Or.inr (slot_ne (Or.inl (hw _ (List.mem_of_getElem? w_69))) (Or.inl (hw _ (List.mem_of_getElem? w_71))) (by decide) (t := (.array .byte)) (t' := .byte) (by decide) (by decide))))
  refine g_goto (pc' := 38) W46.here hx (hb hby d_jdk_68_2_22) rfl ?_
  have c49 := ((V38.keep K41 (ninS (Ne.symm ne_o_b38) nin0)).keep K46 (ninS (Ne.symm ne_o_b38) nin0))
  refine w_retVF W46 hx hh hlk hret (hb hby d_jdk_68_2_38) (Nat.le_of_ble_eq_true rfl) (Nat.le_of_ble_eq_true rfl) [b38] (allS (List.mem_of_getElem? (i := 0) rfl) all0) ?_
  exact ⟨_, rfl, rfl, A46, c47, F46, c48, _, c49, rfl⟩
set_option maxRecDepth 65536 in
set_option maxHeartbeats 40000000 in
theorem c_sbinit (l : Launch) (Z : State) (a0 : Array Value) (hw : ∀ d ∈ tables_1, d.before a0 Z = true) (hE : EW Z a0 consts_1) (cc : Int32) (fm : Value) (o : Nat) (h0 : Heap) (O : Ext Z.heap h0) (G : SEnv Z cc fm) (hz : Z.heap.size ≤ o) (E0 : Exa Z h0 o "java/lang/StringBuilder") (F1 : Fld Z h0 o "java/lang/AbstractStringBuilder" "count" "I" (.int 0)) (u2 u3 : Value) (F2 : Fld Z h0 o "java/lang/AbstractStringBuilder" "coder" "B" u2) (F3 : Fld Z h0 o "java/lang/AbstractStringBuilder" "value" "[B" u3)  :
    ConF l Z consts_1 (⟨"java/lang/StringBuilder", "<init>", "()V"⟩ : MethodName) jdk_67_method_1_code 1 (Option.none : Option Jvm.ClassFile.FieldType) ({ frames := 2, cells := 1, slots := 16, locals := 25 } : Room) #[(.ref o)] h0 [o] (fun N v h => ∃ vb : Nat, N = [vb] ∧ v = none ∧ SBd Z h o vb 0 16) := by
  refine ConF.of (a0 := a0) #[.val (.ref o)] (plainFor_of_name pn_5) hE O (allS ⟨hz, E0.lt⟩ all0) (fun m => by first | (simp [entryFrame, mkF, argsToLocals, Value.category]; done) | rfl) ?_
  intro p e s m below meth c T0 hx hby hml hnm hret hlk hh W0
  have lt_o : o < h0.size := E0.lt
  refine g_aloadN (pc' := 1) W0.here hx (hb hby d_jdk_67_1_0) rfl rfl rfl ?_
  refine g_bipush (16 : Int32) (pc' := 3) W0.here hx (hb hby d_jdk_67_1_1) rfl rfl ?_
  refine w_specialF (pc' := 6) (st := []) (y := (⟨"java/lang/AbstractStringBuilder", "<init>", "(I)V"⟩ : MethodName)) (a := o) W0 hx [(.int (16 : Int32))] rfl (hw _ (List.mem_of_getElem? w_60)) (hw _ (List.mem_of_getElem? w_61)) (hw _ (List.mem_of_getElem? w_64)) (hw _ (List.mem_of_getElem? w_65)) (by decide) (c_asbinit l Z a0 hw hE cc fm o h0 W0.old G (by have := O.1; omega) E0 F1 _ _ F2 F3) (allS (List.mem_of_getElem? (i := 0) rfl) all0) (by rw [hml]; rfl) (lenOf pd_9 rfl) rfl (hb hby d_jdk_67_1_3) (Nat.le_of_ble_eq_true rfl) (Nat.le_of_ble_eq_true rfl) (Nat.le_of_ble_eq_true rfl) (Nat.le_of_ble_eq_true rfl) rfl fun N50 v50 T50 h50 W50 K50 G50 Q50 => ?_
  have z_K50 : h0.size ≤ h50.size := K50.1
  obtain ⟨vb51, rfl, rfl, B51⟩ := Q50
  have gz52 := (G50 vb51 (List.mem_cons_self ..)).1
  have lt_vb51 := (G50 vb51 (List.mem_cons_self ..)).2
  have ne_o_vb51 : o ≠ vb51 := by omega
  have EB53 := B51.1
  refine w_retVF W50 hx hh hlk hret (hb hby d_jdk_67_1_6) (Nat.le_of_ble_eq_true rfl) (Nat.le_of_ble_eq_true rfl) [vb51] (allS (List.mem_of_getElem? (i := 0) rfl) all0) ?_
  exact ⟨_, rfl, rfl, B51⟩
theorem own_byteAt {Z : State} {h : Heap} {a : Addr} {vs : List Value} (V : Ary Z h a .byte vs) {n i : Nat} (l : vs.length = n) (hi : i < n) : ∃ x : Int32, vs[i]? = some (.int x) := by
  obtain ⟨_, -, -, -, hf⟩ := V
  have q : i < vs.length := by omega
  have f := hf _ (List.getElem_mem q)
  rw [List.getElem?_eq_getElem q]
  cases hv : vs[i] <;> simp [hv, fits] at f ⊢
set_option maxRecDepth 65536 in
set_option maxHeartbeats 40000000 in
theorem c_isHighSurrogate (l : Launch) (Z : State) (a0 : Array Value) (hw : ∀ d ∈ tables_1, d.before a0 Z = true) (hE : EW Z a0 consts_1) (xc : Int32) (h0 : Heap) (O : Ext Z.heap h0) (hxc : 0 ≤ xc.toInt ∧ xc.toInt ≤ 255) :
    Con l Z consts_1 (⟨"java/lang/Character", "isHighSurrogate", "(C)Z"⟩ : MethodName) jdk_89_method_14_code 1 (Option.some Jvm.ClassFile.FieldType.boolean) ({ frames := 0, cells := 0, slots := 0, locals := 0 } : Room) #[(.int xc)] h0 [] (pureQ (some (.int 0)) h0) := by
  refine Con.of (a0 := a0) #[.val (.int xc)] (plainFor_of_name pn_6) hE O all0 (fun m => by first | (simp [entryFrame, mkF, argsToLocals, Value.category]; done) | rfl) ?_
  intro p e s m below meth c T0 hx hby hml hnm hret hlk hh W0
  refine g_iloadN (pc' := 1) W0.here hx (hb hby d_jdk_89_14_0) rfl rfl ?_
  refine w_ldcI (pc' := 3) W0 hx (hw _ (List.mem_of_getElem? w_240)) (hb hby d_jdk_89_14_1) rfl ?_
  refine g_icmpY (pc' := 16) W0.here hx (hb hby d_jdk_89_14_3) rfl (tlt (show xc < (55296 : Int32) from (by rw [Int32.lt_iff_toInt_lt]; have := own_t55296; omega))).1 ?_
  refine g_iconst (0 : Int32) (pc' := 17) W0.here hx (hb hby d_jdk_89_14_16) rfl rfl ?_
  refine w_retN (t := .boolean) W0 hx hh hlk hret (by simp) (hb hby d_jdk_89_14_17) (Nat.le_of_ble_eq_true rfl) (Nat.le_of_ble_eq_true rfl) ?_
  exact ⟨rfl, rfl⟩
set_option maxRecDepth 65536 in
set_option maxHeartbeats 40000000 in
theorem c_isLowSurrogate (l : Launch) (Z : State) (a0 : Array Value) (hw : ∀ d ∈ tables_1, d.before a0 Z = true) (hE : EW Z a0 consts_1) (xc : Int32) (h0 : Heap) (O : Ext Z.heap h0) (hxc : 0 ≤ xc.toInt ∧ xc.toInt ≤ 255) :
    Con l Z consts_1 (⟨"java/lang/Character", "isLowSurrogate", "(C)Z"⟩ : MethodName) jdk_89_method_15_code 1 (Option.some Jvm.ClassFile.FieldType.boolean) ({ frames := 0, cells := 0, slots := 0, locals := 0 } : Room) #[(.int xc)] h0 [] (pureQ (some (.int 0)) h0) := by
  refine Con.of (a0 := a0) #[.val (.int xc)] (plainFor_of_name pn_6) hE O all0 (fun m => by first | (simp [entryFrame, mkF, argsToLocals, Value.category]; done) | rfl) ?_
  intro p e s m below meth c T0 hx hby hml hnm hret hlk hh W0
  refine g_iloadN (pc' := 1) W0.here hx (hb hby d_jdk_89_15_0) rfl rfl ?_
  refine w_ldcI (pc' := 3) W0 hx (hw _ (List.mem_of_getElem? w_244)) (hb hby d_jdk_89_15_1) rfl ?_
  refine g_icmpY (pc' := 16) W0.here hx (hb hby d_jdk_89_15_3) rfl (tlt (show xc < (56320 : Int32) from (by rw [Int32.lt_iff_toInt_lt]; have := own_t56320; omega))).1 ?_
  refine g_iconst (0 : Int32) (pc' := 17) W0.here hx (hb hby d_jdk_89_15_16) rfl rfl ?_
  refine w_retN (t := .boolean) W0 hx hh hlk hret (by simp) (hb hby d_jdk_89_15_17) (Nat.le_of_ble_eq_true rfl) (Nat.le_of_ble_eq_true rfl) ?_
  exact ⟨rfl, rfl⟩
set_option maxRecDepth 65536 in
set_option maxHeartbeats 40000000 in
theorem c_unp (l : Launch) (Z : State) (a0 : Array Value) (hw : ∀ d ∈ tables_1, d.before a0 Z = true) (hE : EW Z a0 consts_1) (cc : Int32) (fm : Value) (a sb i : Nat) (cs : List Int32) (ci : Int32) (h0 : Heap) (O : Ext Z.heap h0) (G : SEnv Z cc fm) (S0 : SL Z h0 a sb cs) (hl : cs.length ≤ 200) (hi2 : i < cs.length) (hci : cs[i]? = some ci) :
    Con l Z consts_1 (⟨"com/example/transaction_locking/transactionlocking/value/Quoting", "isUnpairedSurrogate", "(Ljava/lang/String;I)Z"⟩ : MethodName) prog_37_method_3_code 3 (Option.some Jvm.ClassFile.FieldType.boolean) ({ frames := 4, cells := 0, slots := 0, locals := 53 } : Room) #[(.ref a), (.int i.toInt32)] h0 [] (pureQ (some (.int 0)) h0) := by
  refine Con.of (a0 := a0) #[.val (.ref a), .val (.int i.toInt32), .unset] (plainFor_of_name pn_7) hE O all0 (fun m => by first | (simp [entryFrame, mkF, argsToLocals, Value.category]; done) | rfl) ?_
  intro p e s m below meth c T0 hx hby hml hnm hret hlk hh W0
  have ES0 := S0.1
  have lt_a : a < h0.size := S0.lt
  have lt_sb : sb < h0.size := S0.ltb
  have L_a := S0.2.2.2.2
  refine g_aloadN (pc' := 1) W0.here hx (hb hby d_prog_37_3_0) rfl rfl rfl ?_
  refine g_iloadN (pc' := 2) W0.here hx (hb hby d_prog_37_3_1) rfl rfl ?_
  refine w_virtualp (pc' := 5) (st := []) (y := (⟨"java/lang/String", "charAt", "(I)C"⟩ : MethodName)) (z := (⟨"java/lang/String", "charAt", "(I)C"⟩ : MethodName)) (a := a) W0 hx [(.int i.toInt32)] (hw _ (List.mem_of_getElem? w_235)) (hw _ (List.mem_of_getElem? w_210)) (nfS (z := (⟨"java/lang/String", "charAt", "(I)C"⟩ : MethodName)) (hw _ (List.mem_of_getElem? w_212))) (hw _ (List.mem_of_getElem? w_212)) (hw _ (List.mem_of_getElem? w_211)) (hw _ (List.mem_of_getElem? w_8)) (hw _ (List.mem_of_getElem? w_213)) (by decide) (c_charAt l Z a0 hw hE cc fm a sb cs i.toInt32 ci h0 W0.old G S0 (own_nneg (by omega)) (own_ltn (by omega) (by omega)) (by rw [i32_nat (by omega)]; exact hci)) ES0 (by rw [hml]; rfl) (lenOf pd_10 rfl) rfl (hb hby d_prog_37_3_2) (Nat.le_of_ble_eq_true rfl) (Nat.le_of_ble_eq_true rfl) rfl rfl (Nat.le_of_ble_eq_true rfl) (Nat.le_of_ble_eq_true rfl) rfl fun T54 W54 => ?_
  refine g_istoreN (pc' := 6) (Ls' := #[.val (.ref a), .val (.int i.toInt32), .val (.int ci)]) W54.here hx (hb hby d_prog_37_3_5) rfl rfl ?_
  refine g_iloadN (pc' := 7) W54.here hx (hb hby d_prog_37_3_6) rfl rfl ?_
  refine w_callSp (pc' := 10) (st := []) (y := (⟨"java/lang/Character", "isHighSurrogate", "(C)Z"⟩ : MethodName)) W54 hx [(.int ci)] (hw _ (List.mem_of_getElem? w_236)) (hw _ (List.mem_of_getElem? w_237)) (hw _ (List.mem_of_getElem? w_238)) (hw _ (List.mem_of_getElem? w_239)) (by decide) (c_isHighSurrogate l Z a0 hw hE ci h0 W54.old (L_a ci (List.mem_of_getElem? hci))) (by rw [hml]; rfl) (lenOf pd_11 rfl) rfl (hb hby d_prog_37_3_7) (Nat.le_of_ble_eq_true rfl) (Nat.le_of_ble_eq_true rfl) rfl rfl (Nat.le_of_ble_eq_true rfl) (Nat.le_of_ble_eq_true rfl) rfl fun T55 W55 => ?_
  refine g_ifY (pc' := 42) W55.here hx (hb hby d_prog_37_3_10) rfl (teq (show (0 : Int32) = (0 : Int32) from (by decide))).1 ?_
  refine g_iloadN (pc' := 43) W55.here hx (hb hby d_prog_37_3_42) rfl rfl ?_
  refine w_callSp (pc' := 46) (st := []) (y := (⟨"java/lang/Character", "isLowSurrogate", "(C)Z"⟩ : MethodName)) W55 hx [(.int ci)] (hw _ (List.mem_of_getElem? w_241)) (hw _ (List.mem_of_getElem? w_242)) (hw _ (List.mem_of_getElem? w_238)) (hw _ (List.mem_of_getElem? w_243)) (by decide) (c_isLowSurrogate l Z a0 hw hE ci h0 W55.old (L_a ci (List.mem_of_getElem? hci))) (by rw [hml]; rfl) (lenOf pd_11 rfl) rfl (hb hby d_prog_37_3_43) (Nat.le_of_ble_eq_true rfl) (Nat.le_of_ble_eq_true rfl) rfl rfl (Nat.le_of_ble_eq_true rfl) (Nat.le_of_ble_eq_true rfl) rfl fun T56 W56 => ?_
  refine g_ifY (pc' := 72) W56.here hx (hb hby d_prog_37_3_46) rfl (teq (show (0 : Int32) = (0 : Int32) from (by decide))).1 ?_
  refine g_iconst (0 : Int32) (pc' := 73) W56.here hx (hb hby d_prog_37_3_72) rfl rfl ?_
  refine w_retN (t := .boolean) W56 hx hh hlk hret (by simp) (hb hby d_prog_37_3_73) (Nat.le_of_ble_eq_true rfl) (Nat.le_of_ble_eq_true rfl) ?_
  exact ⟨rfl, rfl⟩
set_option maxRecDepth 65536 in
set_option maxHeartbeats 40000000 in
theorem c_ensure_0_16_2 (l : Launch) (Z : State) (a0 : Array Value) (hw : ∀ d ∈ tables_1, d.before a0 Z = true) (hE : EW Z a0 consts_1) (cc : Int32) (fm : Value) (o vb : Nat)  (h0 : Heap) (O : Ext Z.heap h0) (G : SEnv Z cc fm) (hz : Z.heap.size ≤ o) (hzb : Z.heap.size ≤ vb) (hov : o ≠ vb) (B0 : SBd Z h0 o vb (0 : Int32) 16)  :
    Con l Z consts_1 (⟨"java/lang/AbstractStringBuilder", "ensureCapacityInternal", "(I)V"⟩ : MethodName) jdk_68_method_9_code 3 (Option.none : Option Jvm.ClassFile.FieldType) ({ frames := 0, cells := 0, slots := 0, locals := 0 } : Room) #[(.ref o), (.int (2 : Int32))] h0 [] (pureQ none h0) := by
  refine Con.of (a0 := a0) #[.val (.ref o), .val (.int (2 : Int32)), .unset] (plainFor_of_name pn_4) hE O all0 (fun m => by first | (simp [entryFrame, mkF, argsToLocals, Value.category]; done) | rfl) ?_
  intro p e s m below meth c T0 hx hby hml hnm hret hlk hh W0
  obtain ⟨E0, F1, F2, F3, vs, VB, lv⟩ := id B0
  have lt_o : o < h0.size := E0.lt
  have lt_vb : vb < h0.size := VB.lt
  refine g_aloadN (pc' := 1) W0.here hx (hb hby d_jdk_68_9_0) rfl rfl rfl ?_
  refine w_get (pc' := 4) W0 hx (hw _ (List.mem_of_getElem? w_68)) Via.refl F3 (hb hby d_jdk_68_9_1) rfl fun T68 W68 => ?_
  refine w_len (pc' := 5) W68 hx VB (hb hby d_jdk_68_9_4) rfl ?_
  refine g_name (w := .int (16 : Int32)) (congrArg Value.int (by rw [lv]; rfl)) ?_
  refine g_aloadN (pc' := 6) W68.here hx (hb hby d_jdk_68_9_5) rfl rfl rfl ?_
  refine w_get (pc' := 9) W68 hx (hw _ (List.mem_of_getElem? w_70)) Via.refl F2 (hb hby d_jdk_68_9_6) rfl fun T69 W69 => ?_
  refine g_ishr (pc' := 10) W69.here hx (hb hby d_jdk_68_9_9) rfl ?_
  refine g_name (w := .int (16 : Int32)) (congrArg Value.int (by decide)) ?_
  refine g_istoreN (pc' := 11) (Ls' := #[.val (.ref o), .val (.int (2 : Int32)), .val (.int (16 : Int32))]) W69.here hx (hb hby d_jdk_68_9_10) rfl rfl ?_
  refine g_iloadN (pc' := 12) W69.here hx (hb hby d_jdk_68_9_11) rfl rfl ?_
  refine g_iloadN (pc' := 13) W69.here hx (hb hby d_jdk_68_9_12) rfl rfl ?_
  refine g_isub (pc' := 14) W69.here hx (hb hby d_jdk_68_9_13) rfl ?_
  refine g_name (w := .int (-14 : Int32)) (congrArg Value.int (by decide)) ?_
  refine g_ifY (pc' := 38) W69.here hx (hb hby d_jdk_68_9_14) rfl (flt (show ¬ ((0 : Int32) < (-14 : Int32)) from (by decide))).2.2.2 ?_
  refine w_retV W69 hx hh hlk hret (hb hby d_jdk_68_9_38) (Nat.le_of_ble_eq_true rfl) (Nat.le_of_ble_eq_true rfl) ?_
  exact ⟨rfl, rfl⟩
set_option maxRecDepth 65536 in
set_option maxHeartbeats 40000000 in
theorem c_inflate_0_16_2 (l : Launch) (Z : State) (a0 : Array Value) (hw : ∀ d ∈ tables_1, d.before a0 Z = true) (hE : EW Z a0 consts_1) (cc : Int32) (fm : Value) (o vb : Nat) (a sb : Nat) (cs : List Int32)  (h0 : Heap) (O : Ext Z.heap h0) (G : SEnv Z cc fm) (B0 : SBd Z h0 o vb (0 : Int32) 16) (S1 : SL Z h0 a sb cs) (hcs : cs.length = 2)  :
    Con l Z consts_1 (⟨"java/lang/AbstractStringBuilder", "inflateIfNeededFor", "(Ljava/lang/String;)V"⟩ : MethodName) jdk_68_method_71_code 2 (Option.none : Option Jvm.ClassFile.FieldType) ({ frames := 1, cells := 0, slots := 0, locals := 13 } : Room) #[(.ref o), (.ref a)] h0 [] (pureQ none h0) := by
  refine Con.of (a0 := a0) #[.val (.ref o), .val (.ref a)] (plainFor_of_name pn_4) hE O all0 (fun m => by first | (simp [entryFrame, mkF, argsToLocals, Value.category]; done) | rfl) ?_
  intro p e s m below meth c T0 hx hby hml hnm hret hlk hh W0
  obtain ⟨E0, F1, F2, F3, vs, VB, lv⟩ := id B0
  have lt_o : o < h0.size := E0.lt
  have lt_vb : vb < h0.size := VB.lt
  have ES1 := S1.1
  have lt_a : a < h0.size := S1.lt
  have lt_sb : sb < h0.size := S1.ltb
  refine w_getS (pc' := 3) W0 hx (hw _ (List.mem_of_getElem? w_67)) Via.refl G.1 (hb hby d_jdk_68_71_0) rfl fun T74 W74 => ?_
  refine g_ifN (pc' := 6) W74.here hx (hb hby d_jdk_68_71_3) rfl (feq (show ¬ (cc = (0 : Int32)) from G.2.1)).1 ?_
  refine g_aloadN (pc' := 7) W74.here hx (hb hby d_jdk_68_71_6) rfl rfl rfl ?_
  refine w_get (pc' := 10) W74 hx (hw _ (List.mem_of_getElem? w_70)) Via.refl F2 (hb hby d_jdk_68_71_7) rfl fun T75 W75 => ?_
  refine g_aloadN (pc' := 11) W75.here hx (hb hby d_jdk_68_71_10) rfl rfl rfl ?_
  refine w_virtualp (pc' := 14) (st := [(.int (0 : Int32))]) (y := (⟨"java/lang/String", "coder", "()B"⟩ : MethodName)) (z := (⟨"java/lang/String", "coder", "()B"⟩ : MethodName)) (a := a) W75 hx [] (hw _ (List.mem_of_getElem? w_110)) (hw _ (List.mem_of_getElem? w_89)) (nfS (z := (⟨"java/lang/String", "coder", "()B"⟩ : MethodName)) (hw _ (List.mem_of_getElem? w_91))) (hw _ (List.mem_of_getElem? w_91)) (hw _ (List.mem_of_getElem? w_90)) (hw _ (List.mem_of_getElem? w_8)) (hw _ (List.mem_of_getElem? w_92)) (by decide) (c_coder l Z a0 hw hE cc fm a sb cs h0 W75.old G S1) ES1 (by rw [hml]; rfl) (lenOf pd_4 rfl) rfl (hb hby d_jdk_68_71_11) (Nat.le_of_ble_eq_true rfl) (Nat.le_of_ble_eq_true rfl) rfl rfl (Nat.le_of_ble_eq_true rfl) (Nat.le_of_ble_eq_true rfl) rfl fun T76 W76 => ?_
  refine g_icmpY (pc' := 21) W76.here hx (hb hby d_jdk_68_71_14) rfl (teq (show (0 : Int32) = (0 : Int32) from (by decide))).1 ?_
  refine w_retV W76 hx hh hlk hret (hb hby d_jdk_68_71_21) (Nat.le_of_ble_eq_true rfl) (Nat.le_of_ble_eq_true rfl) ?_
  exact ⟨rfl, rfl⟩
set_option maxRecDepth 65536 in
set_option maxHeartbeats 40000000 in
theorem c_getBytes_2_0_16 (l : Launch) (Z : State) (a0 : Array Value) (hw : ∀ d ∈ tables_1, d.before a0 Z = true) (hE : EW Z a0 consts_1) (cc : Int32) (fm : Value) (a sb : Nat) (cs : List Int32) (vb : Nat) (vs : List Value) (h0 : Heap) (O : Ext Z.heap h0) (G : SEnv Z cc fm) (S1 : SL Z h0 a sb cs) (hcs : cs.length = 2) (hzb : Z.heap.size ≤ vb) (VB : Ary Z h0 vb .byte vs) (lv : vs.length = 16) :
    Con l Z consts_1 (⟨"java/lang/String", "getBytes", "([BIB)V"⟩ : MethodName) jdk_42_method_147_code 4 (Option.none : Option Jvm.ClassFile.FieldType) ({ frames := 1, cells := 0, slots := 0, locals := 40 } : Room) #[(.ref a), (.ref vb), (.int (0 : Int32)), (.int (0 : Int32))] h0 [vb] (fun v h => v = none ∧ ∃ vs : List Value, Ary Z h vb .byte vs ∧ vs.length = 16) := by
  refine Con.of (a0 := a0) #[.val (.ref a), .val (.ref vb), .val (.int (0 : Int32)), .val (.int (0 : Int32))] (plainFor_of_name pn_1) hE O (allS ⟨hzb, VB.lt⟩ all0) (fun m => by first | (simp [entryFrame, mkF, argsToLocals, Value.category]; done) | rfl) ?_
  intro p e s m below meth c T0 hx hby hml hnm hret hlk hh W0
  have ES1 := S1.1
  have lt_a : a < h0.size := S1.lt
  have lt_sb : sb < h0.size := S1.ltb
  obtain ⟨E_a, FC_a, FV_a, VS_a, LS_a⟩ := id S1
  refine g_aloadN (pc' := 1) W0.here hx (hb hby d_jdk_42_147_0) rfl rfl rfl ?_
  refine w_virtualp (pc' := 4) (st := []) (y := (⟨"java/lang/String", "coder", "()B"⟩ : MethodName)) (z := (⟨"java/lang/String", "coder", "()B"⟩ : MethodName)) (a := a) W0 hx [] (hw _ (List.mem_of_getElem? w_88)) (hw _ (List.mem_of_getElem? w_89)) (nfS (z := (⟨"java/lang/String", "coder", "()B"⟩ : MethodName)) (hw _ (List.mem_of_getElem? w_91))) (hw _ (List.mem_of_getElem? w_91)) (hw _ (List.mem_of_getElem? w_90)) (hw _ (List.mem_of_getElem? w_8)) (hw _ (List.mem_of_getElem? w_92)) (by decide) (c_coder l Z a0 hw hE cc fm a sb cs h0 W0.old G S1) ES1 (by rw [hml]; rfl) (lenOf pd_4 rfl) rfl (hb hby d_jdk_42_147_1) (Nat.le_of_ble_eq_true rfl) (Nat.le_of_ble_eq_true rfl) rfl rfl (Nat.le_of_ble_eq_true rfl) (Nat.le_of_ble_eq_true rfl) rfl fun T80 W80 => ?_
  refine g_iloadN (pc' := 5) W80.here hx (hb hby d_jdk_42_147_4) rfl rfl ?_
  refine g_icmpN (pc' := 8) W80.here hx (hb hby d_jdk_42_147_5) rfl (teq (show (0 : Int32) = (0 : Int32) from (by decide))).2 ?_
  refine g_aloadN (pc' := 9) W80.here hx (hb hby d_jdk_42_147_8) rfl rfl rfl ?_
  refine w_get (pc' := 12) W80 hx (hw _ (List.mem_of_getElem? w_33)) Via.refl FV_a (hb hby d_jdk_42_147_9) rfl fun T81 W81 => ?_
  refine g_iconst (0 : Int32) (pc' := 13) W81.here hx (hb hby d_jdk_42_147_12) rfl rfl ?_
  refine g_aloadN (pc' := 14) W81.here hx (hb hby d_jdk_42_147_13) rfl rfl rfl ?_
  refine g_iloadN (pc' := 15) W81.here hx (hb hby d_jdk_42_147_14) rfl rfl ?_
  refine g_iloadN (pc' := 16) W81.here hx (hb hby d_jdk_42_147_15) rfl rfl ?_
  refine g_ishl (pc' := 17) W81.here hx (hb hby d_jdk_42_147_16) rfl ?_
  refine g_name (w := .int (0 : Int32)) (congrArg Value.int (by decide)) ?_
  refine g_aloadN (pc' := 18) W81.here hx (hb hby d_jdk_42_147_17) rfl rfl rfl ?_
  refine w_get (pc' := 21) W81 hx (hw _ (List.mem_of_getElem? w_33)) Via.refl FV_a (hb hby d_jdk_42_147_18) rfl fun T82 W82 => ?_
  refine w_len (pc' := 22) W82 hx VS_a (hb hby d_jdk_42_147_21) rfl ?_
  refine g_name (w := .int (2 : Int32)) (congrArg Value.int (by rw [List.length_map, hcs]; rfl)) ?_
  refine w_arrcopy (pc' := 25) (st := []) W82 hx (hw _ (List.mem_of_getElem? w_116)) (hw _ (List.mem_of_getElem? w_119)) (hw _ (List.mem_of_getElem? w_117)) (hw _ (List.mem_of_getElem? w_118)) VS_a VB (List.mem_of_getElem? (i := 0) rfl) (by decide) (by decide) (by decide) (by rw [List.length_map, hcs]; exact (Nat.le_of_ble_eq_true rfl)) (by rw [lv]; exact (Nat.le_of_ble_eq_true rfl)) (by rw [hml]; rfl) (hb hby d_jdk_42_147_22) (Nat.le_of_ble_eq_true rfl) (Nat.le_of_ble_eq_true rfl) rfl fun T83 h83 W83 K83 V83 => ?_
  have z_K83 : h0.size ≤ h83.size := K83.1
  obtain ⟨vs84, VN84, lv84⟩ : ∃ vs : List Value, Ary Z h83 vb .byte vs ∧ vs.length = 16 := ⟨_, V83, by first | (simp only [List.length_append, List.length_take, List.length_drop, List.length_map, lv, hcs]; done) | (simp only [List.length_append, List.length_take, List.length_drop, List.length_map, lv, hcs]; decide)⟩
  refine g_goto (pc' := 43) W83.here hx (hb hby d_jdk_42_147_25) rfl ?_
  refine w_retV W83 hx hh hlk hret (hb hby d_jdk_42_147_43) (Nat.le_of_ble_eq_true rfl) (Nat.le_of_ble_eq_true rfl) ?_
  exact ⟨rfl, _, VN84, lv84⟩
set_option maxRecDepth 65536 in
set_option maxHeartbeats 40000000 in
theorem c_putStr_0_16_0_2 (l : Launch) (Z : State) (a0 : Array Value) (hw : ∀ d ∈ tables_1, d.before a0 Z = true) (hE : EW Z a0 consts_1) (cc : Int32) (fm : Value) (o vb : Nat) (a sb : Nat) (cs : List Int32)  (h0 : Heap) (O : Ext Z.heap h0) (G : SEnv Z cc fm) (hz : Z.heap.size ≤ o) (hzb : Z.heap.size ≤ vb) (hov : o ≠ vb) (B0 : SBd Z h0 o vb (0 : Int32) 16) (S1 : SL Z h0 a sb cs) (hcs : cs.length = 2) (n1 : o ≠ a) (n2 : o ≠ sb) (n3 : vb ≠ a) (n4 : vb ≠ sb)  :
    Con l Z consts_1 (⟨"java/lang/AbstractStringBuilder", "putStringAt", "(ILjava/lang/String;)V"⟩ : MethodName) jdk_68_method_73_code 3 (Option.none : Option Jvm.ClassFile.FieldType) ({ frames := 2, cells := 0, slots := 0, locals := 55 } : Room) #[(.ref o), (.int (0 : Int32)), (.ref a)] h0 [vb] (fun v h => v = none ∧ SBd Z h o vb (0 : Int32) 16) := by
  refine Con.of (a0 := a0) #[.val (.ref o), .val (.int (0 : Int32)), .val (.ref a)] (plainFor_of_name pn_4) hE O (allS ⟨hzb, B0.ltb⟩ all0) (fun m => by first | (simp [entryFrame, mkF, argsToLocals, Value.category]; done) | rfl) ?_
  intro p e s m below meth c T0 hx hby hml hnm hret hlk hh W0
  obtain ⟨E0, F1, F2, F3, vs, VB, lv⟩ := id B0
  have lt_o : o < h0.size := E0.lt
  have lt_vb : vb < h0.size := VB.lt
  have ES1 := S1.1
  have lt_a : a < h0.size := S1.lt
  have lt_sb : sb < h0.size := S1.ltb
  refine g_aloadN (pc' := 1) W0.here hx (hb hby d_jdk_68_73_0) rfl rfl rfl ?_
  refine g_aloadN (pc' := 2) W0.here hx (hb hby d_jdk_68_73_1) rfl rfl rfl ?_
  have B73 : SBd Z h0 o vb (0 : Int32) 16 := ⟨E0, F1, F2, F3, _, VB, lv⟩
  refine w_privatep (pc' := 5) (st := []) (y := (⟨"java/lang/AbstractStringBuilder", "inflateIfNeededFor", "(Ljava/lang/String;)V"⟩ : MethodName)) (a := o) W0 hx [(.ref a)] (hw _ (List.mem_of_getElem? w_105)) (hw _ (List.mem_of_getElem? w_107)) (hw _ (List.mem_of_getElem? w_108)) (hw _ (List.mem_of_getElem? w_106)) (hw _ (List.mem_of_getElem? w_64)) (hw _ (List.mem_of_getElem? w_109)) (by decide) (c_inflate_0_16_2 l Z a0 hw hE cc fm o vb a sb cs h0 W0.old G B73 S1 hcs) E0 (by rw [hml]; rfl) (lenOf pd_14 rfl) rfl (hb hby d_jdk_68_73_2) (Nat.le_of_ble_eq_true rfl) (Nat.le_of_ble_eq_true rfl) rfl rfl (Nat.le_of_ble_eq_true rfl) (Nat.le_of_ble_eq_true rfl) rfl fun T77 W77 => ?_
  refine g_aloadN (pc' := 6) W77.here hx (hb hby d_jdk_68_73_5) rfl rfl rfl ?_
  refine g_aloadN (pc' := 7) W77.here hx (hb hby d_jdk_68_73_6) rfl rfl rfl ?_
  refine w_get (pc' := 10) W77 hx (hw _ (List.mem_of_getElem? w_68)) Via.refl F3 (hb hby d_jdk_68_73_7) rfl fun T78 W78 => ?_
  refine g_iloadN (pc' := 11) W78.here hx (hb hby d_jdk_68_73_10) rfl rfl ?_
  refine g_aloadN (pc' := 12) W78.here hx (hb hby d_jdk_68_73_11) rfl rfl rfl ?_
  refine w_get (pc' := 15) W78 hx (hw _ (List.mem_of_getElem? w_70)) Via.refl F2 (hb hby d_jdk_68_73_12) rfl fun T79 W79 => ?_
  refine w_virtual (pc' := 18) (st := []) (y := (⟨"java/lang/String", "getBytes", "([BIB)V"⟩ : MethodName)) (z := (⟨"java/lang/String", "getBytes", "([BIB)V"⟩ : MethodName)) (a := a) W79 hx [(.ref vb), (.int (0 : Int32)), (.int (0 : Int32))] (hw _ (List.mem_of_getElem? w_111)) (hw _ (List.mem_of_getElem? w_112)) (nfS (z := (⟨"java/lang/String", "getBytes", "([BIB)V"⟩ : MethodName)) (hw _ (List.mem_of_getElem? w_114))) (hw _ (List.mem_of_getElem? w_114)) (hw _ (List.mem_of_getElem? w_113)) (hw _ (List.mem_of_getElem? w_8)) (hw _ (List.mem_of_getElem? w_115)) (by decide) (c_getBytes_2_0_16 l Z a0 hw hE cc fm a sb cs vb vs h0 W79.old G S1 hcs hzb VB lv) ES1 (allS (List.mem_of_getElem? (i := 0) rfl) all0) (by rw [hml]; rfl) (lenOf pd_15 rfl) rfl (hb hby d_jdk_68_73_15) (Nat.le_of_ble_eq_true rfl) (Nat.le_of_ble_eq_true rfl) (Nat.le_of_ble_eq_true rfl) (Nat.le_of_ble_eq_true rfl) rfl fun v85 T85 h85 W85 K85 Q85 => ?_
  have z_K85 : h0.size ≤ h85.size := K85.1
  obtain ⟨rfl, vs86, VN86, lv86⟩ := Q85
  have c87 := (E0.keep K85)
  have c88 := (F1.keep K85 (ninS hov nin0))
  have c89 := (F2.keep K85 (ninS hov nin0))
  have c90 := (F3.keep K85 (ninS hov nin0))
  refine w_retV W85 hx hh hlk hret (hb hby d_jdk_68_73_18) (Nat.le_of_ble_eq_true rfl) (Nat.le_of_ble_eq_true rfl) ?_
  exact ⟨rfl, ⟨c87, c88, c89, c90, _, VN86, lv86⟩⟩
set_option maxRecDepth 65536 in
set_option maxHeartbeats 40000000 in
theorem c_asbApp_0_16_2 (l : Launch) (Z : State) (a0 : Array Value) (hw : ∀ d ∈ tables_1, d.before a0 Z = true) (hE : EW Z a0 consts_1) (cc : Int32) (fm : Value) (o vb : Nat) (a sb : Nat) (cs : List Int32)  (h0 : Heap) (O : Ext Z.heap h0) (G : SEnv Z cc fm) (hz : Z.heap.size ≤ o) (hzb : Z.heap.size ≤ vb) (hov : o ≠ vb) (B0 : SBd Z h0 o vb (0 : Int32) 16) (S1 : SL Z h0 a sb cs) (hcs : cs.length = 2) (n1 : o ≠ a) (n2 : o ≠ sb) (n3 : vb ≠ a) (n4 : vb ≠ sb)  :
    ConF l Z consts_1 (⟨"java/lang/AbstractStringBuilder", "append", "(Ljava/lang/String;)Ljava/lang/AbstractStringBuilder;"⟩ : MethodName) jdk_68_method_22_code 3 (Option.some (Jvm.ClassFile.FieldType.object "java/lang/AbstractStringBuilder")) ({ frames := 3, cells := 0, slots := 0, locals := 69 } : Room) #[(.ref o), (.ref a)] h0 [o, vb] (fun N v h => N = [] ∧ v = some (.ref o) ∧ SBd Z h o vb (2 : Int32) 16) := by
  refine ConF.of (a0 := a0) #[.val (.ref o), .val (.ref a), .unset] (plainFor_of_name pn_4) hE O (allS ⟨hz, by obtain ⟨E, -⟩ := B0; exact E.lt⟩ (allS ⟨hzb, B0.ltb⟩ all0)) (fun m => by first | (simp [entryFrame, mkF, argsToLocals, Value.category]; done) | rfl) ?_
  intro p e s m below meth c T0 hx hby hml hnm hret hlk hh W0
  obtain ⟨E0, F1, F2, F3, vs, VB, lv⟩ := id B0
  have lt_o : o < h0.size := E0.lt
  have lt_vb : vb < h0.size := VB.lt
  have ES1 := S1.1
  have lt_a : a < h0.size := S1.lt
  have lt_sb : sb < h0.size := S1.ltb
  refine g_aloadN (pc' := 1) W0.here hx (hb hby d_jdk_68_22_0) rfl rfl rfl ?_
  refine g_nonnullY (pc' := 9) W0.here hx (hb hby d_jdk_68_22_1) rfl ?_
  refine g_aloadN (pc' := 10) W0.here hx (hb hby d_jdk_68_22_9) rfl rfl rfl ?_
  refine w_virtualp (pc' := 13) (st := []) (y := (⟨"java/lang/String", "length", "()I"⟩ : MethodName)) (z := (⟨"java/lang/String", "length", "()I"⟩ : MethodName)) (a := a) W0 hx [] (hw _ (List.mem_of_getElem? w_83)) (hw _ (List.mem_of_getElem? w_84)) (nfS (z := (⟨"java/lang/String", "length", "()I"⟩ : MethodName)) (hw _ (List.mem_of_getElem? w_86))) (hw _ (List.mem_of_getElem? w_86)) (hw _ (List.mem_of_getElem? w_85)) (hw _ (List.mem_of_getElem? w_8)) (hw _ (List.mem_of_getElem? w_87)) (by decide) (c_length l Z a0 hw hE cc fm a sb cs  h0 W0.old G S1 ) ES1 (by rw [hml]; rfl) (lenOf pd_13 rfl) rfl (hb hby d_jdk_68_22_10) (Nat.le_of_ble_eq_true rfl) (Nat.le_of_ble_eq_true rfl) rfl rfl (Nat.le_of_ble_eq_true rfl) (Nat.le_of_ble_eq_true rfl) rfl fun T65 W65 => ?_
  refine g_name (w := .int (2 : Int32)) (congrArg Value.int (by rw [hcs]; rfl)) ?_
  refine g_istoreN (pc' := 14) (Ls' := #[.val (.ref o), .val (.ref a), .val (.int (2 : Int32))]) W65.here hx (hb hby d_jdk_68_22_13) rfl rfl ?_
  refine g_aloadN (pc' := 15) W65.here hx (hb hby d_jdk_68_22_14) rfl rfl rfl ?_
  refine g_aloadN (pc' := 16) W65.here hx (hb hby d_jdk_68_22_15) rfl rfl rfl ?_
  refine w_get (pc' := 19) W65 hx (hw _ (List.mem_of_getElem? w_93)) Via.refl F1 (hb hby d_jdk_68_22_16) rfl fun T66 W66 => ?_
  refine g_iloadN (pc' := 20) W66.here hx (hb hby d_jdk_68_22_19) rfl rfl ?_
  refine g_iadd (pc' := 21) W66.here hx (hb hby d_jdk_68_22_20) rfl ?_
  refine g_name (w := .int (2 : Int32)) (congrArg Value.int (by decide)) ?_
  have B67 : SBd Z h0 o vb (0 : Int32) 16 := ⟨E0, F1, F2, F3, _, VB, lv⟩
  refine w_privatep (pc' := 24) (st := []) (y := (⟨"java/lang/AbstractStringBuilder", "ensureCapacityInternal", "(I)V"⟩ : MethodName)) (a := o) W66 hx [(.int (2 : Int32))] (hw _ (List.mem_of_getElem? w_95)) (hw _ (List.mem_of_getElem? w_97)) (hw _ (List.mem_of_getElem? w_98)) (hw _ (List.mem_of_getElem? w_96)) (hw _ (List.mem_of_getElem? w_64)) (hw _ (List.mem_of_getElem? w_99)) (by decide) (c_ensure_0_16_2 l Z a0 hw hE cc fm o vb h0 W66.old G (by have := O.1; omega) (by have := O.1; omega) hov B67) E0 (by rw [hml]; rfl) (lenOf pd_9 rfl) rfl (hb hby d_jdk_68_22_21) (Nat.le_of_ble_eq_true rfl) (Nat.le_of_ble_eq_true rfl) rfl rfl (Nat.le_of_ble_eq_true rfl) (Nat.le_of_ble_eq_true rfl) rfl fun T70 W70 => ?_
  refine g_aloadN (pc' := 25) W70.here hx (hb hby d_jdk_68_22_24) rfl rfl rfl ?_
  refine g_aloadN (pc' := 26) W70.here hx (hb hby d_jdk_68_22_25) rfl rfl rfl ?_
  refine w_get (pc' := 29) W70 hx (hw _ (List.mem_of_getElem? w_93)) Via.refl F1 (hb hby d_jdk_68_22_26) rfl fun T71 W71 => ?_
  refine g_aloadN (pc' := 30) W71.here hx (hb hby d_jdk_68_22_29) rfl rfl rfl ?_
  have B72 : SBd Z h0 o vb (0 : Int32) 16 := ⟨E0, F1, F2, F3, _, VB, lv⟩
  refine w_private (pc' := 33) (st := []) (y := (⟨"java/lang/AbstractStringBuilder", "putStringAt", "(ILjava/lang/String;)V"⟩ : MethodName)) (a := o) W71 hx [(.int (0 : Int32)), (.ref a)] (hw _ (List.mem_of_getElem? w_100)) (hw _ (List.mem_of_getElem? w_102)) (hw _ (List.mem_of_getElem? w_103)) (hw _ (List.mem_of_getElem? w_101)) (hw _ (List.mem_of_getElem? w_64)) (hw _ (List.mem_of_getElem? w_104)) (by decide) (c_putStr_0_16_0_2 l Z a0 hw hE cc fm o vb a sb cs h0 W71.old G (by have := O.1; omega) (by have := O.1; omega) hov B72 S1 hcs n1 n2 n3 n4) E0 (allS (List.mem_of_getElem? (i := 1) rfl) all0) (by rw [hml]; rfl) (lenOf pd_16 rfl) rfl (hb hby d_jdk_68_22_30) (Nat.le_of_ble_eq_true rfl) (Nat.le_of_ble_eq_true rfl) (Nat.le_of_ble_eq_true rfl) (Nat.le_of_ble_eq_true rfl) rfl fun v91 T91 h91 W91 K91 Q91 => ?_
  have z_K91 : h0.size ≤ h91.size := K91.1
  obtain ⟨rfl, B92⟩ := Q91
  obtain ⟨E0_93, F1_93, F2_93, F3_93, vs_93, VB_93, lv_93⟩ := id B92
  refine g_aloadN (pc' := 34) W91.here hx (hb hby d_jdk_68_22_33) rfl rfl rfl ?_
  refine g_dup (pc' := 35) W91.here hx (hb hby d_jdk_68_22_34) rfl rfl ?_
  refine w_get (pc' := 38) W91 hx (hw _ (List.mem_of_getElem? w_93)) Via.refl F1_93 (hb hby d_jdk_68_22_35) rfl fun T94 W94 => ?_
  refine g_iloadN (pc' := 39) W94.here hx (hb hby d_jdk_68_22_38) rfl rfl ?_
  refine g_iadd (pc' := 40) W94.here hx (hb hby d_jdk_68_22_39) rfl ?_
  refine g_name (w := .int (2 : Int32)) (congrArg Value.int (by decide)) ?_
  refine w_put (pc' := 43) W94 hx (hw _ (List.mem_of_getElem? w_93)) Via.refl F1_93 E0_93 (Or.inl (hw _ (List.mem_of_getElem? w_94))) (hw _ (List.mem_of_getElem? w_55)) (ty := .int) (by decide) rfl rfl (List.mem_of_getElem? (i := 0) rfl) (hb hby d_jdk_68_22_40) rfl fun T95 h95 W95 K95 R95 F95 A95 => ?_
  have z_K95 : h91.size ≤ h95.size := K95.1
  have c96 := (F2_93.other R95 (Or.inr (slot_ne (Or.inl (hw _ (List.mem_of_getElem? w_71))) (Or.inl (hw _ (List.mem_of_getElem? w_94))) (by decide) (t := .byte) (t' := .int) (by decide) (by decide))))
  have c97 := (F3_93.other R95 (Or.inr (slot_ne (Or.inl (hw _ (List.mem_of_getElem? w_69))) (Or.inl (hw _ (List.mem_of_getElem? w_94))) (by decide) (t := (.array .byte)) (t' := .int) (by decide) (by decide))))
  refine g_aloadN (pc' := 44) W95.here hx (hb hby d_jdk_68_22_43) rfl rfl rfl ?_
  have c99 := (VB_93.keep K95 (ninS (Ne.symm hov) nin0))
  have B98 : SBd Z h95 o vb (2 : Int32) 16 := ⟨A95, F95, c96, c97, _, c99, lv_93⟩
  refine w_retAF W95 hx hh hlk hret rfl rfl (hb hby d_jdk_68_22_44) (Nat.le_of_ble_eq_true rfl) (Nat.le_of_ble_eq_true rfl) [] all0 ?_
  exact ⟨rfl, rfl, B98⟩
set_option maxRecDepth 65536 in
set_option maxHeartbeats 40000000 in
theorem c_sbApp_0_16_2 (l : Launch) (Z : State) (a0 : Array Value) (hw : ∀ d ∈ tables_1, d.before a0 Z = true) (hE : EW Z a0 consts_1) (cc : Int32) (fm : Value) (o vb : Nat) (a sb : Nat) (cs : List Int32)  (h0 : Heap) (O : Ext Z.heap h0) (G : SEnv Z cc fm) (hz : Z.heap.size ≤ o) (hzb : Z.heap.size ≤ vb) (hov : o ≠ vb) (B0 : SBd Z h0 o vb (0 : Int32) 16) (S1 : SL Z h0 a sb cs) (hcs : cs.length = 2) (n1 : o ≠ a) (n2 : o ≠ sb) (n3 : vb ≠ a) (n4 : vb ≠ sb)  :
    ConF l Z consts_1 (⟨"java/lang/StringBuilder", "append", "(Ljava/lang/String;)Ljava/lang/StringBuilder;"⟩ : MethodName) jdk_67_method_7_code 2 (Option.some (Jvm.ClassFile.FieldType.object "java/lang/StringBuilder")) ({ frames := 4, cells := 0, slots := 0, locals := 83 } : Room) #[(.ref o), (.ref a)] h0 [o, vb] (fun N v h => N = [] ∧ v = some (.ref o) ∧ SBd Z h o vb (2 : Int32) 16) := by
  refine ConF.of (a0 := a0) #[.val (.ref o), .val (.ref a)] (plainFor_of_name pn_5) hE O (allS ⟨hz, by obtain ⟨E, -⟩ := B0; exact E.lt⟩ (allS ⟨hzb, B0.ltb⟩ all0)) (fun m => by first | (simp [entryFrame, mkF, argsToLocals, Value.category]; done) | rfl) ?_
  intro p e s m below meth c T0 hx hby hml hnm hret hlk hh W0
  obtain ⟨E0, F1, F2, F3, vs, VB, lv⟩ := id B0
  have lt_o : o < h0.size := E0.lt
  have lt_vb : vb < h0.size := VB.lt
  have ES1 := S1.1
  have lt_a : a < h0.size := S1.lt
  have lt_sb : sb < h0.size := S1.ltb
  refine g_aloadN (pc' := 1) W0.here hx (hb hby d_jdk_67_7_0) rfl rfl rfl ?_
  refine g_aloadN (pc' := 2) W0.here hx (hb hby d_jdk_67_7_1) rfl rfl rfl ?_
  have B64 : SBd Z h0 o vb (0 : Int32) 16 := ⟨E0, F1, F2, F3, _, VB, lv⟩
  refine w_superF (pc' := 5) (st := []) (y := (⟨"java/lang/AbstractStringBuilder", "append", "(Ljava/lang/String;)Ljava/lang/AbstractStringBuilder;"⟩ : MethodName)) (a := o) W0 hx [(.ref a)] (by decide) (hw _ (List.mem_of_getElem? w_78)) (hw _ (List.mem_of_getElem? w_79)) (own_same (y := (⟨"java/lang/AbstractStringBuilder", "append", "(Ljava/lang/String;)Ljava/lang/AbstractStringBuilder;"⟩ : MethodName)) (hw _ (List.mem_of_getElem? w_98)) rfl (hw _ (List.mem_of_getElem? w_79)) (by decide)) (hw _ (List.mem_of_getElem? w_80)) (hw _ (List.mem_of_getElem? w_64)) (hw _ (List.mem_of_getElem? w_82)) (by decide) (c_asbApp_0_16_2 l Z a0 hw hE cc fm o vb a sb cs h0 W0.old G (by have := O.1; omega) (by have := O.1; omega) hov B64 S1 hcs n1 n2 n3 n4) (Ins.self E0) (allS (List.mem_of_getElem? (i := 0) rfl) (allS (List.mem_of_getElem? (i := 1) rfl) all0)) (by rw [hml]; rfl) (lenOf pd_17 rfl) rfl (hb hby d_jdk_67_7_2) (Nat.le_of_ble_eq_true rfl) (Nat.le_of_ble_eq_true rfl) (Nat.le_of_ble_eq_true rfl) (Nat.le_of_ble_eq_true rfl) rfl fun N100 v100 T100 h100 W100 K100 G100 Q100 => ?_
  have z_K100 : h0.size ≤ h100.size := K100.1
  obtain ⟨rfl, rfl, B101⟩ := Q100
  have EB102 := B101.1
  refine g_pop (pc' := 6) W100.here hx (hb hby d_jdk_67_7_5) rfl rfl ?_
  refine g_aloadN (pc' := 7) W100.here hx (hb hby d_jdk_67_7_6) rfl rfl rfl ?_
  refine w_retAF W100 hx hh hlk hret rfl rfl (hb hby d_jdk_67_7_7) (Nat.le_of_ble_eq_true rfl) (Nat.le_of_ble_eq_true rfl) [] all0 ?_
  exact ⟨rfl, rfl, B101⟩
set_option maxRecDepth 65536 in
set_option maxHeartbeats 40000000 in
theorem c_ensure_2_16_11 (l : Launch) (Z : State) (a0 : Array Value) (hw : ∀ d ∈ tables_1, d.before a0 Z = true) (hE : EW Z a0 consts_1) (cc : Int32) (fm : Value) (o vb : Nat)  (h0 : Heap) (O : Ext Z.heap h0) (G : SEnv Z cc fm) (hz : Z.heap.size ≤ o) (hzb : Z.heap.size ≤ vb) (hov : o ≠ vb) (B0 : SBd Z h0 o vb (2 : Int32) 16)  :
    Con l Z consts_1 (⟨"java/lang/AbstractStringBuilder", "ensureCapacityInternal", "(I)V"⟩ : MethodName) jdk_68_method_9_code 3 (Option.none : Option Jvm.ClassFile.FieldType) ({ frames := 0, cells := 0, slots := 0, locals := 0 } : Room) #[(.ref o), (.int (11 : Int32))] h0 [] (pureQ none h0) := by
  refine Con.of (a0 := a0) #[.val (.ref o), .val (.int (11 : Int32)), .unset] (plainFor_of_name pn_4) hE O all0 (fun m => by first | (simp [entryFrame, mkF, argsToLocals, Value.category]; done) | rfl) ?_
  intro p e s m below meth c T0 hx hby hml hnm hret hlk hh W0
  obtain ⟨E0, F1, F2, F3, vs, VB, lv⟩ := id B0
  have lt_o : o < h0.size := E0.lt
  have lt_vb : vb < h0.size := VB.lt
  refine g_aloadN (pc' := 1) W0.here hx (hb hby d_jdk_68_9_0) rfl rfl rfl ?_
  refine w_get (pc' := 4) W0 hx (hw _ (List.mem_of_getElem? w_68)) Via.refl F3 (hb hby d_jdk_68_9_1) rfl fun T112 W112 => ?_
  refine w_len (pc' := 5) W112 hx VB (hb hby d_jdk_68_9_4) rfl ?_
  refine g_name (w := .int (16 : Int32)) (congrArg Value.int (by rw [lv]; rfl)) ?_
  refine g_aloadN (pc' := 6) W112.here hx (hb hby d_jdk_68_9_5) rfl rfl rfl ?_
  refine w_get (pc' := 9) W112 hx (hw _ (List.mem_of_getElem? w_70)) Via.refl F2 (hb hby d_jdk_68_9_6) rfl fun T113 W113 => ?_
  refine g_ishr (pc' := 10) W113.here hx (hb hby d_jdk_68_9_9) rfl ?_
  refine g_name (w := .int (16 : Int32)) (congrArg Value.int (by decide)) ?_
  refine g_istoreN (pc' := 11) (Ls' := #[.val (.ref o), .val (.int (11 : Int32)), .val (.int (16 : Int32))]) W113.here hx (hb hby d_jdk_68_9_10) rfl rfl ?_
  refine g_iloadN (pc' := 12) W113.here hx (hb hby d_jdk_68_9_11) rfl rfl ?_
  refine g_iloadN (pc' := 13) W113.here hx (hb hby d_jdk_68_9_12) rfl rfl ?_
  refine g_isub (pc' := 14) W113.here hx (hb hby d_jdk_68_9_13) rfl ?_
  refine g_name (w := .int (-5 : Int32)) (congrArg Value.int (by decide)) ?_
  refine g_ifY (pc' := 38) W113.here hx (hb hby d_jdk_68_9_14) rfl (flt (show ¬ ((0 : Int32) < (-5 : Int32)) from (by decide))).2.2.2 ?_
  refine w_retV W113 hx hh hlk hret (hb hby d_jdk_68_9_38) (Nat.le_of_ble_eq_true rfl) (Nat.le_of_ble_eq_true rfl) ?_
  exact ⟨rfl, rfl⟩
set_option maxRecDepth 65536 in
set_option maxHeartbeats 40000000 in
theorem c_inflate_2_16_9 (l : Launch) (Z : State) (a0 : Array Value) (hw : ∀ d ∈ tables_1, d.before a0 Z = true) (hE : EW Z a0 consts_1) (cc : Int32) (fm : Value) (o vb : Nat) (a sb : Nat) (cs : List Int32)  (h0 : Heap) (O : Ext Z.heap h0) (G : SEnv Z cc fm) (B0 : SBd Z h0 o vb (2 : Int32) 16) (S1 : SL Z h0 a sb cs) (hcs : cs.length = 9)  :
    Con l Z consts_1 (⟨"java/lang/AbstractStringBuilder", "inflateIfNeededFor", "(Ljava/lang/String;)V"⟩ : MethodName) jdk_68_method_71_code 2 (Option.none : Option Jvm.ClassFile.FieldType) ({ frames := 1, cells := 0, slots := 0, locals := 13 } : Room) #[(.ref o), (.ref a)] h0 [] (pureQ none h0) := by
  refine Con.of (a0 := a0) #[.val (.ref o), .val (.ref a)] (plainFor_of_name pn_4) hE O all0 (fun m => by first | (simp [entryFrame, mkF, argsToLocals, Value.category]; done) | rfl) ?_
  intro p e s m below meth c T0 hx hby hml hnm hret hlk hh W0
  obtain ⟨E0, F1, F2, F3, vs, VB, lv⟩ := id B0
  have lt_o : o < h0.size := E0.lt
  have lt_vb : vb < h0.size := VB.lt
  have ES1 := S1.1
  have lt_a : a < h0.size := S1.lt
  have lt_sb : sb < h0.size := S1.ltb
  refine w_getS (pc' := 3) W0 hx (hw _ (List.mem_of_getElem? w_67)) Via.refl G.1 (hb hby d_jdk_68_71_0) rfl fun T118 W118 => ?_
  refine g_ifN (pc' := 6) W118.here hx (hb hby d_jdk_68_71_3) rfl (feq (show ¬ (cc = (0 : Int32)) from G.2.1)).1 ?_
  refine g_aloadN (pc' := 7) W118.here hx (hb hby d_jdk_68_71_6) rfl rfl rfl ?_
  refine w_get (pc' := 10) W118 hx (hw _ (List.mem_of_getElem? w_70)) Via.refl F2 (hb hby d_jdk_68_71_7) rfl fun T119 W119 => ?_
  refine g_aloadN (pc' := 11) W119.here hx (hb hby d_jdk_68_71_10) rfl rfl rfl ?_
  refine w_virtualp (pc' := 14) (st := [(.int (0 : Int32))]) (y := (⟨"java/lang/String", "coder", "()B"⟩ : MethodName)) (z := (⟨"java/lang/String", "coder", "()B"⟩ : MethodName)) (a := a) W119 hx [] (hw _ (List.mem_of_getElem? w_110)) (hw _ (List.mem_of_getElem? w_89)) (nfS (z := (⟨"java/lang/String", "coder", "()B"⟩ : MethodName)) (hw _ (List.mem_of_getElem? w_91))) (hw _ (List.mem_of_getElem? w_91)) (hw _ (List.mem_of_getElem? w_90)) (hw _ (List.mem_of_getElem? w_8)) (hw _ (List.mem_of_getElem? w_92)) (by decide) (c_coder l Z a0 hw hE cc fm a sb cs h0 W119.old G S1) ES1 (by rw [hml]; rfl) (lenOf pd_4 rfl) rfl (hb hby d_jdk_68_71_11) (Nat.le_of_ble_eq_true rfl) (Nat.le_of_ble_eq_true rfl) rfl rfl (Nat.le_of_ble_eq_true rfl) (Nat.le_of_ble_eq_true rfl) rfl fun T120 W120 => ?_
  refine g_icmpY (pc' := 21) W120.here hx (hb hby d_jdk_68_71_14) rfl (teq (show (0 : Int32) = (0 : Int32) from (by decide))).1 ?_
  refine w_retV W120 hx hh hlk hret (hb hby d_jdk_68_71_21) (Nat.le_of_ble_eq_true rfl) (Nat.le_of_ble_eq_true rfl) ?_
  exact ⟨rfl, rfl⟩
set_option maxRecDepth 65536 in
set_option maxHeartbeats 40000000 in
theorem c_getBytes_9_2_16 (l : Launch) (Z : State) (a0 : Array Value) (hw : ∀ d ∈ tables_1, d.before a0 Z = true) (hE : EW Z a0 consts_1) (cc : Int32) (fm : Value) (a sb : Nat) (cs : List Int32) (vb : Nat) (vs : List Value) (h0 : Heap) (O : Ext Z.heap h0) (G : SEnv Z cc fm) (S1 : SL Z h0 a sb cs) (hcs : cs.length = 9) (hzb : Z.heap.size ≤ vb) (VB : Ary Z h0 vb .byte vs) (lv : vs.length = 16) :
    Con l Z consts_1 (⟨"java/lang/String", "getBytes", "([BIB)V"⟩ : MethodName) jdk_42_method_147_code 4 (Option.none : Option Jvm.ClassFile.FieldType) ({ frames := 1, cells := 0, slots := 0, locals := 40 } : Room) #[(.ref a), (.ref vb), (.int (2 : Int32)), (.int (0 : Int32))] h0 [vb] (fun v h => v = none ∧ ∃ vs : List Value, Ary Z h vb .byte vs ∧ vs.length = 16) := by
  refine Con.of (a0 := a0) #[.val (.ref a), .val (.ref vb), .val (.int (2 : Int32)), .val (.int (0 : Int32))] (plainFor_of_name pn_1) hE O (allS ⟨hzb, VB.lt⟩ all0) (fun m => by first | (simp [entryFrame, mkF, argsToLocals, Value.category]; done) | rfl) ?_
  intro p e s m below meth c T0 hx hby hml hnm hret hlk hh W0
  have ES1 := S1.1
  have lt_a : a < h0.size := S1.lt
  have lt_sb : sb < h0.size := S1.ltb
  obtain ⟨E_a, FC_a, FV_a, VS_a, LS_a⟩ := id S1
  refine g_aloadN (pc' := 1) W0.here hx (hb hby d_jdk_42_147_0) rfl rfl rfl ?_
  refine w_virtualp (pc' := 4) (st := []) (y := (⟨"java/lang/String", "coder", "()B"⟩ : MethodName)) (z := (⟨"java/lang/String", "coder", "()B"⟩ : MethodName)) (a := a) W0 hx [] (hw _ (List.mem_of_getElem? w_88)) (hw _ (List.mem_of_getElem? w_89)) (nfS (z := (⟨"java/lang/String", "coder", "()B"⟩ : MethodName)) (hw _ (List.mem_of_getElem? w_91))) (hw _ (List.mem_of_getElem? w_91)) (hw _ (List.mem_of_getElem? w_90)) (hw _ (List.mem_of_getElem? w_8)) (hw _ (List.mem_of_getElem? w_92)) (by decide) (c_coder l Z a0 hw hE cc fm a sb cs h0 W0.old G S1) ES1 (by rw [hml]; rfl) (lenOf pd_4 rfl) rfl (hb hby d_jdk_42_147_1) (Nat.le_of_ble_eq_true rfl) (Nat.le_of_ble_eq_true rfl) rfl rfl (Nat.le_of_ble_eq_true rfl) (Nat.le_of_ble_eq_true rfl) rfl fun T124 W124 => ?_
  refine g_iloadN (pc' := 5) W124.here hx (hb hby d_jdk_42_147_4) rfl rfl ?_
  refine g_icmpN (pc' := 8) W124.here hx (hb hby d_jdk_42_147_5) rfl (teq (show (0 : Int32) = (0 : Int32) from (by decide))).2 ?_
  refine g_aloadN (pc' := 9) W124.here hx (hb hby d_jdk_42_147_8) rfl rfl rfl ?_
  refine w_get (pc' := 12) W124 hx (hw _ (List.mem_of_getElem? w_33)) Via.refl FV_a (hb hby d_jdk_42_147_9) rfl fun T125 W125 => ?_
  refine g_iconst (0 : Int32) (pc' := 13) W125.here hx (hb hby d_jdk_42_147_12) rfl rfl ?_
  refine g_aloadN (pc' := 14) W125.here hx (hb hby d_jdk_42_147_13) rfl rfl rfl ?_
  refine g_iloadN (pc' := 15) W125.here hx (hb hby d_jdk_42_147_14) rfl rfl ?_
  refine g_iloadN (pc' := 16) W125.here hx (hb hby d_jdk_42_147_15) rfl rfl ?_
  refine g_ishl (pc' := 17) W125.here hx (hb hby d_jdk_42_147_16) rfl ?_
  refine g_name (w := .int (2 : Int32)) (congrArg Value.int (by decide)) ?_
  refine g_aloadN (pc' := 18) W125.here hx (hb hby d_jdk_42_147_17) rfl rfl rfl ?_
  refine w_get (pc' := 21) W125 hx (hw _ (List.mem_of_getElem? w_33)) Via.refl FV_a (hb hby d_jdk_42_147_18) rfl fun T126 W126 => ?_
  refine w_len (pc' := 22) W126 hx VS_a (hb hby d_jdk_42_147_21) rfl ?_
  refine g_name (w := .int (9 : Int32)) (congrArg Value.int (by rw [List.length_map, hcs]; rfl)) ?_
  refine w_arrcopy (pc' := 25) (st := []) W126 hx (hw _ (List.mem_of_getElem? w_116)) (hw _ (List.mem_of_getElem? w_119)) (hw _ (List.mem_of_getElem? w_117)) (hw _ (List.mem_of_getElem? w_118)) VS_a VB (List.mem_of_getElem? (i := 0) rfl) (by decide) (by decide) (by decide) (by rw [List.length_map, hcs]; exact (Nat.le_of_ble_eq_true rfl)) (by rw [lv]; exact (Nat.le_of_ble_eq_true rfl)) (by rw [hml]; rfl) (hb hby d_jdk_42_147_22) (Nat.le_of_ble_eq_true rfl) (Nat.le_of_ble_eq_true rfl) rfl fun T127 h127 W127 K127 V127 => ?_
  have z_K127 : h0.size ≤ h127.size := K127.1
  obtain ⟨vs128, VN128, lv128⟩ : ∃ vs : List Value, Ary Z h127 vb .byte vs ∧ vs.length = 16 := ⟨_, V127, by first | (simp only [List.length_append, List.length_take, List.length_drop, List.length_map, lv, hcs]; done) | (simp only [List.length_append, List.length_take, List.length_drop, List.length_map, lv, hcs]; decide)⟩
  refine g_goto (pc' := 43) W127.here hx (hb hby d_jdk_42_147_25) rfl ?_
  refine w_retV W127 hx hh hlk hret (hb hby d_jdk_42_147_43) (Nat.le_of_ble_eq_true rfl) (Nat.le_of_ble_eq_true rfl) ?_
  exact ⟨rfl, _, VN128, lv128⟩
set_option maxRecDepth 65536 in
set_option maxHeartbeats 40000000 in
theorem c_putStr_2_16_2_9 (l : Launch) (Z : State) (a0 : Array Value) (hw : ∀ d ∈ tables_1, d.before a0 Z = true) (hE : EW Z a0 consts_1) (cc : Int32) (fm : Value) (o vb : Nat) (a sb : Nat) (cs : List Int32)  (h0 : Heap) (O : Ext Z.heap h0) (G : SEnv Z cc fm) (hz : Z.heap.size ≤ o) (hzb : Z.heap.size ≤ vb) (hov : o ≠ vb) (B0 : SBd Z h0 o vb (2 : Int32) 16) (S1 : SL Z h0 a sb cs) (hcs : cs.length = 9) (n1 : o ≠ a) (n2 : o ≠ sb) (n3 : vb ≠ a) (n4 : vb ≠ sb)  :
    Con l Z consts_1 (⟨"java/lang/AbstractStringBuilder", "putStringAt", "(ILjava/lang/String;)V"⟩ : MethodName) jdk_68_method_73_code 3 (Option.none : Option Jvm.ClassFile.FieldType) ({ frames := 2, cells := 0, slots := 0, locals := 55 } : Room) #[(.ref o), (.int (2 : Int32)), (.ref a)] h0 [vb] (fun v h => v = none ∧ SBd Z h o vb (2 : Int32) 16) := by
  refine Con.of (a0 := a0) #[.val (.ref o), .val (.int (2 : Int32)), .val (.ref a)] (plainFor_of_name pn_4) hE O (allS ⟨hzb, B0.ltb⟩ all0) (fun m => by first | (simp [entryFrame, mkF, argsToLocals, Value.category]; done) | rfl) ?_
  intro p e s m below meth c T0 hx hby hml hnm hret hlk hh W0
  obtain ⟨E0, F1, F2, F3, vs, VB, lv⟩ := id B0
  have lt_o : o < h0.size := E0.lt
  have lt_vb : vb < h0.size := VB.lt
  have ES1 := S1.1
  have lt_a : a < h0.size := S1.lt
  have lt_sb : sb < h0.size := S1.ltb
  refine g_aloadN (pc' := 1) W0.here hx (hb hby d_jdk_68_73_0) rfl rfl rfl ?_
  refine g_aloadN (pc' := 2) W0.here hx (hb hby d_jdk_68_73_1) rfl rfl rfl ?_
  have B117 : SBd Z h0 o vb (2 : Int32) 16 := ⟨E0, F1, F2, F3, _, VB, lv⟩
  refine w_privatep (pc' := 5) (st := []) (y := (⟨"java/lang/AbstractStringBuilder", "inflateIfNeededFor", "(Ljava/lang/String;)V"⟩ : MethodName)) (a := o) W0 hx [(.ref a)] (hw _ (List.mem_of_getElem? w_105)) (hw _ (List.mem_of_getElem? w_107)) (hw _ (List.mem_of_getElem? w_108)) (hw _ (List.mem_of_getElem? w_106)) (hw _ (List.mem_of_getElem? w_64)) (hw _ (List.mem_of_getElem? w_109)) (by decide) (c_inflate_2_16_9 l Z a0 hw hE cc fm o vb a sb cs h0 W0.old G B117 S1 hcs) E0 (by rw [hml]; rfl) (lenOf pd_14 rfl) rfl (hb hby d_jdk_68_73_2) (Nat.le_of_ble_eq_true rfl) (Nat.le_of_ble_eq_true rfl) rfl rfl (Nat.le_of_ble_eq_true rfl) (Nat.le_of_ble_eq_true rfl) rfl fun T121 W121 => ?_
  refine g_aloadN (pc' := 6) W121.here hx (hb hby d_jdk_68_73_5) rfl rfl rfl ?_
  refine g_aloadN (pc' := 7) W121.here hx (hb hby d_jdk_68_73_6) rfl rfl rfl ?_
  refine w_get (pc' := 10) W121 hx (hw _ (List.mem_of_getElem? w_68)) Via.refl F3 (hb hby d_jdk_68_73_7) rfl fun T122 W122 => ?_
  refine g_iloadN (pc' := 11) W122.here hx (hb hby d_jdk_68_73_10) rfl rfl ?_
  refine g_aloadN (pc' := 12) W122.here hx (hb hby d_jdk_68_73_11) rfl rfl rfl ?_
  refine w_get (pc' := 15) W122 hx (hw _ (List.mem_of_getElem? w_70)) Via.refl F2 (hb hby d_jdk_68_73_12) rfl fun T123 W123 => ?_
  refine w_virtual (pc' := 18) (st := []) (y := (⟨"java/lang/String", "getBytes", "([BIB)V"⟩ : MethodName)) (z := (⟨"java/lang/String", "getBytes", "([BIB)V"⟩ : MethodName)) (a := a) W123 hx [(.ref vb), (.int (2 : Int32)), (.int (0 : Int32))] (hw _ (List.mem_of_getElem? w_111)) (hw _ (List.mem_of_getElem? w_112)) (nfS (z := (⟨"java/lang/String", "getBytes", "([BIB)V"⟩ : MethodName)) (hw _ (List.mem_of_getElem? w_114))) (hw _ (List.mem_of_getElem? w_114)) (hw _ (List.mem_of_getElem? w_113)) (hw _ (List.mem_of_getElem? w_8)) (hw _ (List.mem_of_getElem? w_115)) (by decide) (c_getBytes_9_2_16 l Z a0 hw hE cc fm a sb cs vb vs h0 W123.old G S1 hcs hzb VB lv) ES1 (allS (List.mem_of_getElem? (i := 0) rfl) all0) (by rw [hml]; rfl) (lenOf pd_15 rfl) rfl (hb hby d_jdk_68_73_15) (Nat.le_of_ble_eq_true rfl) (Nat.le_of_ble_eq_true rfl) (Nat.le_of_ble_eq_true rfl) (Nat.le_of_ble_eq_true rfl) rfl fun v129 T129 h129 W129 K129 Q129 => ?_
  have z_K129 : h0.size ≤ h129.size := K129.1
  obtain ⟨rfl, vs130, VN130, lv130⟩ := Q129
  have c131 := (E0.keep K129)
  have c132 := (F1.keep K129 (ninS hov nin0))
  have c133 := (F2.keep K129 (ninS hov nin0))
  have c134 := (F3.keep K129 (ninS hov nin0))
  refine w_retV W129 hx hh hlk hret (hb hby d_jdk_68_73_18) (Nat.le_of_ble_eq_true rfl) (Nat.le_of_ble_eq_true rfl) ?_
  exact ⟨rfl, ⟨c131, c132, c133, c134, _, VN130, lv130⟩⟩
set_option maxRecDepth 65536 in
set_option maxHeartbeats 40000000 in
theorem c_asbApp_2_16_9 (l : Launch) (Z : State) (a0 : Array Value) (hw : ∀ d ∈ tables_1, d.before a0 Z = true) (hE : EW Z a0 consts_1) (cc : Int32) (fm : Value) (o vb : Nat) (a sb : Nat) (cs : List Int32)  (h0 : Heap) (O : Ext Z.heap h0) (G : SEnv Z cc fm) (hz : Z.heap.size ≤ o) (hzb : Z.heap.size ≤ vb) (hov : o ≠ vb) (B0 : SBd Z h0 o vb (2 : Int32) 16) (S1 : SL Z h0 a sb cs) (hcs : cs.length = 9) (n1 : o ≠ a) (n2 : o ≠ sb) (n3 : vb ≠ a) (n4 : vb ≠ sb)  :
    ConF l Z consts_1 (⟨"java/lang/AbstractStringBuilder", "append", "(Ljava/lang/String;)Ljava/lang/AbstractStringBuilder;"⟩ : MethodName) jdk_68_method_22_code 3 (Option.some (Jvm.ClassFile.FieldType.object "java/lang/AbstractStringBuilder")) ({ frames := 3, cells := 0, slots := 0, locals := 69 } : Room) #[(.ref o), (.ref a)] h0 [o, vb] (fun N v h => N = [] ∧ v = some (.ref o) ∧ SBd Z h o vb (11 : Int32) 16) := by
  refine ConF.of (a0 := a0) #[.val (.ref o), .val (.ref a), .unset] (plainFor_of_name pn_4) hE O (allS ⟨hz, by obtain ⟨E, -⟩ := B0; exact E.lt⟩ (allS ⟨hzb, B0.ltb⟩ all0)) (fun m => by first | (simp [entryFrame, mkF, argsToLocals, Value.category]; done) | rfl) ?_
  intro p e s m below meth c T0 hx hby hml hnm hret hlk hh W0
  obtain ⟨E0, F1, F2, F3, vs, VB, lv⟩ := id B0
  have lt_o : o < h0.size := E0.lt
  have lt_vb : vb < h0.size := VB.lt
  have ES1 := S1.1
  have lt_a : a < h0.size := S1.lt
  have lt_sb : sb < h0.size := S1.ltb
  refine g_aloadN (pc' := 1) W0.here hx (hb hby d_jdk_68_22_0) rfl rfl rfl ?_
  refine g_nonnullY (pc' := 9) W0.here hx (hb hby d_jdk_68_22_1) rfl ?_
  refine g_aloadN (pc' := 10) W0.here hx (hb hby d_jdk_68_22_9) rfl rfl rfl ?_
  refine w_virtualp (pc' := 13) (st := []) (y := (⟨"java/lang/String", "length", "()I"⟩ : MethodName)) (z := (⟨"java/lang/String", "length", "()I"⟩ : MethodName)) (a := a) W0 hx [] (hw _ (List.mem_of_getElem? w_83)) (hw _ (List.mem_of_getElem? w_84)) (nfS (z := (⟨"java/lang/String", "length", "()I"⟩ : MethodName)) (hw _ (List.mem_of_getElem? w_86))) (hw _ (List.mem_of_getElem? w_86)) (hw _ (List.mem_of_getElem? w_85)) (hw _ (List.mem_of_getElem? w_8)) (hw _ (List.mem_of_getElem? w_87)) (by decide) (c_length l Z a0 hw hE cc fm a sb cs  h0 W0.old G S1 ) ES1 (by rw [hml]; rfl) (lenOf pd_13 rfl) rfl (hb hby d_jdk_68_22_10) (Nat.le_of_ble_eq_true rfl) (Nat.le_of_ble_eq_true rfl) rfl rfl (Nat.le_of_ble_eq_true rfl) (Nat.le_of_ble_eq_true rfl) rfl fun T109 W109 => ?_
  refine g_name (w := .int (9 : Int32)) (congrArg Value.int (by rw [hcs]; rfl)) ?_
  refine g_istoreN (pc' := 14) (Ls' := #[.val (.ref o), .val (.ref a), .val (.int (9 : Int32))]) W109.here hx (hb hby d_jdk_68_22_13) rfl rfl ?_
  refine g_aloadN (pc' := 15) W109.here hx (hb hby d_jdk_68_22_14) rfl rfl rfl ?_
  refine g_aloadN (pc' := 16) W109.here hx (hb hby d_jdk_68_22_15) rfl rfl rfl ?_
  refine w_get (pc' := 19) W109 hx (hw _ (List.mem_of_getElem? w_93)) Via.refl F1 (hb hby d_jdk_68_22_16) rfl fun T110 W110 => ?_
  refine g_iloadN (pc' := 20) W110.here hx (hb hby d_jdk_68_22_19) rfl rfl ?_
  refine g_iadd (pc' := 21) W110.here hx (hb hby d_jdk_68_22_20) rfl ?_
  refine g_name (w := .int (11 : Int32)) (congrArg Value.int (by decide)) ?_
  have B111 : SBd Z h0 o vb (2 : Int32) 16 := ⟨E0, F1, F2, F3, _, VB, lv⟩
  refine w_privatep (pc' := 24) (st := []) (y := (⟨"java/lang/AbstractStringBuilder", "ensureCapacityInternal", "(I)V"⟩ : MethodName)) (a := o) W110 hx [(.int (11 : Int32))] (hw _ (List.mem_of_getElem? w_95)) (hw _ (List.mem_of_getElem? w_97)) (hw _ (List.mem_of_getElem? w_98)) (hw _ (List.mem_of_getElem? w_96)) (hw _ (List.mem_of_getElem? w_64)) (hw _ (List.mem_of_getElem? w_99)) (by decide) (c_ensure_2_16_11 l Z a0 hw hE cc fm o vb h0 W110.old G (by have := O.1; omega) (by have := O.1; omega) hov B111) E0 (by rw [hml]; rfl) (lenOf pd_9 rfl) rfl (hb hby d_jdk_68_22_21) (Nat.le_of_ble_eq_true rfl) (Nat.le_of_ble_eq_true rfl) rfl rfl (Nat.le_of_ble_eq_true rfl) (Nat.le_of_ble_eq_true rfl) rfl fun T114 W114 => ?_
  refine g_aloadN (pc' := 25) W114.here hx (hb hby d_jdk_68_22_24) rfl rfl rfl ?_
  refine g_aloadN (pc' := 26) W114.here hx (hb hby d_jdk_68_22_25) rfl rfl rfl ?_
  refine w_get (pc' := 29) W114 hx (hw _ (List.mem_of_getElem? w_93)) Via.refl F1 (hb hby d_jdk_68_22_26) rfl fun T115 W115 => ?_
  refine g_aloadN (pc' := 30) W115.here hx (hb hby d_jdk_68_22_29) rfl rfl rfl ?_
  have B116 : SBd Z h0 o vb (2 : Int32) 16 := ⟨E0, F1, F2, F3, _, VB, lv⟩
  refine w_private (pc' := 33) (st := []) (y := (⟨"java/lang/AbstractStringBuilder", "putStringAt", "(ILjava/lang/String;)V"⟩ : MethodName)) (a := o) W115 hx [(.int (2 : Int32)), (.ref a)] (hw _ (List.mem_of_getElem? w_100)) (hw _ (List.mem_of_getElem? w_102)) (hw _ (List.mem_of_getElem? w_103)) (hw _ (List.mem_of_getElem? w_101)) (hw _ (List.mem_of_getElem? w_64)) (hw _ (List.mem_of_getElem? w_104)) (by decide) (c_putStr_2_16_2_9 l Z a0 hw hE cc fm o vb a sb cs h0 W115.old G (by have := O.1; omega) (by have := O.1; omega) hov B116 S1 hcs n1 n2 n3 n4) E0 (allS (List.mem_of_getElem? (i := 1) rfl) all0) (by rw [hml]; rfl) (lenOf pd_16 rfl) rfl (hb hby d_jdk_68_22_30) (Nat.le_of_ble_eq_true rfl) (Nat.le_of_ble_eq_true rfl) (Nat.le_of_ble_eq_true rfl) (Nat.le_of_ble_eq_true rfl) rfl fun v135 T135 h135 W135 K135 Q135 => ?_
  have z_K135 : h0.size ≤ h135.size := K135.1
  obtain ⟨rfl, B136⟩ := Q135
  obtain ⟨E0_137, F1_137, F2_137, F3_137, vs_137, VB_137, lv_137⟩ := id B136
  refine g_aloadN (pc' := 34) W135.here hx (hb hby d_jdk_68_22_33) rfl rfl rfl ?_
  refine g_dup (pc' := 35) W135.here hx (hb hby d_jdk_68_22_34) rfl rfl ?_
  refine w_get (pc' := 38) W135 hx (hw _ (List.mem_of_getElem? w_93)) Via.refl F1_137 (hb hby d_jdk_68_22_35) rfl fun T138 W138 => ?_
  refine g_iloadN (pc' := 39) W138.here hx (hb hby d_jdk_68_22_38) rfl rfl ?_
  refine g_iadd (pc' := 40) W138.here hx (hb hby d_jdk_68_22_39) rfl ?_
  refine g_name (w := .int (11 : Int32)) (congrArg Value.int (by decide)) ?_
  refine w_put (pc' := 43) W138 hx (hw _ (List.mem_of_getElem? w_93)) Via.refl F1_137 E0_137 (Or.inl (hw _ (List.mem_of_getElem? w_94))) (hw _ (List.mem_of_getElem? w_55)) (ty := .int) (by decide) rfl rfl (List.mem_of_getElem? (i := 0) rfl) (hb hby d_jdk_68_22_40) rfl fun T139 h139 W139 K139 R139 F139 A139 => ?_
  have z_K139 : h135.size ≤ h139.size := K139.1
  have c140 := (F2_137.other R139 (Or.inr (slot_ne (Or.inl (hw _ (List.mem_of_getElem? w_71))) (Or.inl (hw _ (List.mem_of_getElem? w_94))) (by decide) (t := .byte) (t' := .int) (by decide) (by decide))))
  have c141 := (F3_137.other R139 (Or.inr (slot_ne (Or.inl (hw _ (List.mem_of_getElem? w_69))) (Or.inl (hw _ (List.mem_of_getElem? w_94))) (by decide) (t := (.array .byte)) (t' := .int) (by decide) (by decide))))
  refine g_aloadN (pc' := 44) W139.here hx (hb hby d_jdk_68_22_43) rfl rfl rfl ?_
  have c143 := (VB_137.keep K139 (ninS (Ne.symm hov) nin0))
  have B142 : SBd Z h139 o vb (11 : Int32) 16 := ⟨A139, F139, c140, c141, _, c143, lv_137⟩
  refine w_retAF W139 hx hh hlk hret rfl rfl (hb hby d_jdk_68_22_44) (Nat.le_of_ble_eq_true rfl) (Nat.le_of_ble_eq_true rfl) [] all0 ?_
  exact ⟨rfl, rfl, B142⟩
set_option maxRecDepth 65536 in
set_option maxHeartbeats 40000000 in
theorem c_sbApp_2_16_9 (l : Launch) (Z : State) (a0 : Array Value) (hw : ∀ d ∈ tables_1, d.before a0 Z = true) (hE : EW Z a0 consts_1) (cc : Int32) (fm : Value) (o vb : Nat) (a sb : Nat) (cs : List Int32)  (h0 : Heap) (O : Ext Z.heap h0) (G : SEnv Z cc fm) (hz : Z.heap.size ≤ o) (hzb : Z.heap.size ≤ vb) (hov : o ≠ vb) (B0 : SBd Z h0 o vb (2 : Int32) 16) (S1 : SL Z h0 a sb cs) (hcs : cs.length = 9) (n1 : o ≠ a) (n2 : o ≠ sb) (n3 : vb ≠ a) (n4 : vb ≠ sb)  :
    ConF l Z consts_1 (⟨"java/lang/StringBuilder", "append", "(Ljava/lang/String;)Ljava/lang/StringBuilder;"⟩ : MethodName) jdk_67_method_7_code 2 (Option.some (Jvm.ClassFile.FieldType.object "java/lang/StringBuilder")) ({ frames := 4, cells := 0, slots := 0, locals := 83 } : Room) #[(.ref o), (.ref a)] h0 [o, vb] (fun N v h => N = [] ∧ v = some (.ref o) ∧ SBd Z h o vb (11 : Int32) 16) := by
  refine ConF.of (a0 := a0) #[.val (.ref o), .val (.ref a)] (plainFor_of_name pn_5) hE O (allS ⟨hz, by obtain ⟨E, -⟩ := B0; exact E.lt⟩ (allS ⟨hzb, B0.ltb⟩ all0)) (fun m => by first | (simp [entryFrame, mkF, argsToLocals, Value.category]; done) | rfl) ?_
  intro p e s m below meth c T0 hx hby hml hnm hret hlk hh W0
  obtain ⟨E0, F1, F2, F3, vs, VB, lv⟩ := id B0
  have lt_o : o < h0.size := E0.lt
  have lt_vb : vb < h0.size := VB.lt
  have ES1 := S1.1
  have lt_a : a < h0.size := S1.lt
  have lt_sb : sb < h0.size := S1.ltb
  refine g_aloadN (pc' := 1) W0.here hx (hb hby d_jdk_67_7_0) rfl rfl rfl ?_
  refine g_aloadN (pc' := 2) W0.here hx (hb hby d_jdk_67_7_1) rfl rfl rfl ?_
  have B108 : SBd Z h0 o vb (2 : Int32) 16 := ⟨E0, F1, F2, F3, _, VB, lv⟩
  refine w_superF (pc' := 5) (st := []) (y := (⟨"java/lang/AbstractStringBuilder", "append", "(Ljava/lang/String;)Ljava/lang/AbstractStringBuilder;"⟩ : MethodName)) (a := o) W0 hx [(.ref a)] (by decide) (hw _ (List.mem_of_getElem? w_78)) (hw _ (List.mem_of_getElem? w_79)) (own_same (y := (⟨"java/lang/AbstractStringBuilder", "append", "(Ljava/lang/String;)Ljava/lang/AbstractStringBuilder;"⟩ : MethodName)) (hw _ (List.mem_of_getElem? w_98)) rfl (hw _ (List.mem_of_getElem? w_79)) (by decide)) (hw _ (List.mem_of_getElem? w_80)) (hw _ (List.mem_of_getElem? w_64)) (hw _ (List.mem_of_getElem? w_82)) (by decide) (c_asbApp_2_16_9 l Z a0 hw hE cc fm o vb a sb cs h0 W0.old G (by have := O.1; omega) (by have := O.1; omega) hov B108 S1 hcs n1 n2 n3 n4) (Ins.self E0) (allS (List.mem_of_getElem? (i := 0) rfl) (allS (List.mem_of_getElem? (i := 1) rfl) all0)) (by rw [hml]; rfl) (lenOf pd_17 rfl) rfl (hb hby d_jdk_67_7_2) (Nat.le_of_ble_eq_true rfl) (Nat.le_of_ble_eq_true rfl) (Nat.le_of_ble_eq_true rfl) (Nat.le_of_ble_eq_true rfl) rfl fun N144 v144 T144 h144 W144 K144 G144 Q144 => ?_
  have z_K144 : h0.size ≤ h144.size := K144.1
  obtain ⟨rfl, rfl, B145⟩ := Q144
  have EB146 := B145.1
  refine g_pop (pc' := 6) W144.here hx (hb hby d_jdk_67_7_5) rfl rfl ?_
  refine g_aloadN (pc' := 7) W144.here hx (hb hby d_jdk_67_7_6) rfl rfl rfl ?_
  refine w_retAF W144 hx hh hlk hret rfl rfl (hb hby d_jdk_67_7_7) (Nat.le_of_ble_eq_true rfl) (Nat.le_of_ble_eq_true rfl) [] all0 ?_
  exact ⟨rfl, rfl, B145⟩
set_option maxRecDepth 65536 in
set_option maxHeartbeats 40000000 in
theorem c_max_5_18 (l : Launch) (Z : State) (a0 : Array Value) (hw : ∀ d ∈ tables_1, d.before a0 Z = true) (hE : EW Z a0 consts_1)  (h0 : Heap) (O : Ext Z.heap h0)  :
    Con l Z consts_1 (⟨"java/lang/Math", "max", "(II)I"⟩ : MethodName) jdk_29_method_65_code 2 (Option.some Jvm.ClassFile.FieldType.int) ({ frames := 0, cells := 0, slots := 0, locals := 0 } : Room) #[(.int (5 : Int32)), (.int (18 : Int32))] h0 [] (pureQ (some (.int (18 : Int32))) h0) := by
  refine Con.of (a0 := a0) #[.val (.int (5 : Int32)), .val (.int (18 : Int32))] (Jvm.Free.JP.mathPlain rfl (by decide +kernel)) hE O all0 (fun m => by first | (simp [entryFrame, mkF, argsToLocals, Value.category]; done) | rfl) ?_
  intro p e s m below meth c T0 hx hby hml hnm hret hlk hh W0
  refine g_iloadN (pc' := 1) W0.here hx (hb hby d_jdk_29_65_0) rfl rfl ?_
  refine g_iloadN (pc' := 2) W0.here hx (hb hby d_jdk_29_65_1) rfl rfl ?_
  refine g_icmpY (pc' := 9) W0.here hx (hb hby d_jdk_29_65_2) rfl (tlt (show (5 : Int32) < (18 : Int32) from (by decide))).1 ?_
  refine g_iloadN (pc' := 10) W0.here hx (hb hby d_jdk_29_65_9) rfl rfl ?_
  refine w_retI W0 hx hh hlk hret (hb hby d_jdk_29_65_10) (Nat.le_of_ble_eq_true rfl) (Nat.le_of_ble_eq_true rfl) ?_
  exact ⟨rfl, rfl⟩
set_option maxRecDepth 65536 in
set_option maxHeartbeats 40000000 in
theorem c_newLength_16_5_18 (l : Launch) (Z : State) (a0 : Array Value) (hw : ∀ d ∈ tables_1, d.before a0 Z = true) (hE : EW Z a0 consts_1)  (h0 : Heap) (O : Ext Z.heap h0)  :
    Con l Z consts_1 (⟨"jdk/internal/util/ArraysSupport", "newLength", "(III)I"⟩ : MethodName) jdk_48_method_27_code 4 (Option.some Jvm.ClassFile.FieldType.int) ({ frames := 1, cells := 0, slots := 0, locals := 14 } : Room) #[(.int (16 : Int32)), (.int (5 : Int32)), (.int (18 : Int32))] h0 [] (pureQ (some (.int (34 : Int32))) h0) := by
  refine Con.of (a0 := a0) #[.val (.int (16 : Int32)), .val (.int (5 : Int32)), .val (.int (18 : Int32)), .unset] (plainFor_of_name pn_8) hE O all0 (fun m => by first | (simp [entryFrame, mkF, argsToLocals, Value.category]; done) | rfl) ?_
  intro p e s m below meth c T0 hx hby hml hnm hret hlk hh W0
  refine g_iloadN (pc' := 1) W0.here hx (hb hby d_jdk_48_27_0) rfl rfl ?_
  refine g_iloadN (pc' := 2) W0.here hx (hb hby d_jdk_48_27_1) rfl rfl ?_
  refine g_iloadN (pc' := 3) W0.here hx (hb hby d_jdk_48_27_2) rfl rfl ?_
  refine w_callSp (pc' := 6) (st := [(.int (16 : Int32))]) (y := (⟨"java/lang/Math", "max", "(II)I"⟩ : MethodName)) W0 hx [(.int (5 : Int32)), (.int (18 : Int32))] (hw _ (List.mem_of_getElem? w_130)) (hw _ (List.mem_of_getElem? w_131)) (hw _ (List.mem_of_getElem? w_132)) (hw _ (List.mem_of_getElem? w_133)) (by decide) (c_max_5_18 l Z a0 hw hE h0 W0.old) (by rw [hml]; rfl) (lenOf pd_19 rfl) rfl (hb hby d_jdk_48_27_3) (Nat.le_of_ble_eq_true rfl) (Nat.le_of_ble_eq_true rfl) rfl rfl (Nat.le_of_ble_eq_true rfl) (Nat.le_of_ble_eq_true rfl) rfl fun T163 W163 => ?_
  refine g_iadd (pc' := 7) W163.here hx (hb hby d_jdk_48_27_6) rfl ?_
  refine g_name (w := .int (34 : Int32)) (congrArg Value.int (by decide)) ?_
  refine g_istoreN (pc' := 8) (Ls' := #[.val (.int (16 : Int32)), .val (.int (5 : Int32)), .val (.int (18 : Int32)), .val (.int (34 : Int32))]) W163.here hx (hb hby d_jdk_48_27_7) rfl rfl ?_
  refine g_iconst (0 : Int32) (pc' := 9) W163.here hx (hb hby d_jdk_48_27_8) rfl rfl ?_
  refine g_iloadN (pc' := 10) W163.here hx (hb hby d_jdk_48_27_9) rfl rfl ?_
  refine g_icmpN (pc' := 13) W163.here hx (hb hby d_jdk_48_27_10) rfl (tlt (show (0 : Int32) < (34 : Int32) from (by decide))).2.1 ?_
  refine g_iloadN (pc' := 14) W163.here hx (hb hby d_jdk_48_27_13) rfl rfl ?_
  refine w_ldcI (pc' := 16) W163 hx (hw _ (List.mem_of_getElem? w_134)) (hb hby d_jdk_48_27_14) rfl ?_
  refine g_icmpN (pc' := 19) W163.here hx (hb hby d_jdk_48_27_16) rfl (flt (show ¬ ((2147483639 : Int32) < (34 : Int32)) from (by decide))).2.2.1 ?_
  refine g_iloadN (pc' := 20) W163.here hx (hb hby d_jdk_48_27_19) rfl rfl ?_
  refine w_retI W163 hx hh hlk hret (hb hby d_jdk_48_27_20) (Nat.le_of_ble_eq_true rfl) (Nat.le_of_ble_eq_true rfl) ?_
  exact ⟨rfl, rfl⟩
set_option maxRecDepth 65536 in
set_option maxHeartbeats 40000000 in
theorem c_newCap_11_16_21 (l : Launch) (Z : State) (a0 : Array Value) (hw : ∀ d ∈ tables_1, d.before a0 Z = true) (hE : EW Z a0 consts_1) (cc : Int32) (fm : Value) (o vb : Nat)  (h0 : Heap) (O : Ext Z.heap h0) (G : SEnv Z cc fm) (B0 : SBd Z h0 o vb (11 : Int32) 16) :
    Con l Z consts_1 (⟨"java/lang/AbstractStringBuilder", "newCapacity", "(I)I"⟩ : MethodName) jdk_68_method_10_code 6 (Option.some Jvm.ClassFile.FieldType.int) ({ frames := 2, cells := 0, slots := 0, locals := 29 } : Room) #[(.ref o), (.int (21 : Int32))] h0 [] (pureQ (some (.int (34 : Int32))) h0) := by
  refine Con.of (a0 := a0) #[.val (.ref o), .val (.int (21 : Int32)), .unset, .unset, .unset, .unset] (plainFor_of_name pn_4) hE O all0 (fun m => by first | (simp [entryFrame, mkF, argsToLocals, Value.category]; done) | rfl) ?_
  intro p e s m below meth c T0 hx hby hml hnm hret hlk hh W0
  obtain ⟨E0, F1, F2, F3, vs, VB, lv⟩ := id B0
  have lt_o : o < h0.size := E0.lt
  have lt_vb : vb < h0.size := VB.lt
  refine g_aloadN (pc' := 1) W0.here hx (hb hby d_jdk_68_10_0) rfl rfl rfl ?_
  refine w_get (pc' := 4) W0 hx (hw _ (List.mem_of_getElem? w_68)) Via.refl F3 (hb hby d_jdk_68_10_1) rfl fun T160 W160 => ?_
  refine w_len (pc' := 5) W160 hx VB (hb hby d_jdk_68_10_4) rfl ?_
  refine g_name (w := .int (16 : Int32)) (congrArg Value.int (by rw [lv]; rfl)) ?_
  refine g_istoreN (pc' := 6) (Ls' := #[.val (.ref o), .val (.int (21 : Int32)), .val (.int (16 : Int32)), .unset, .unset, .unset]) W160.here hx (hb hby d_jdk_68_10_5) rfl rfl ?_
  refine g_iloadN (pc' := 7) W160.here hx (hb hby d_jdk_68_10_6) rfl rfl ?_
  refine g_aloadN (pc' := 8) W160.here hx (hb hby d_jdk_68_10_7) rfl rfl rfl ?_
  refine w_get (pc' := 11) W160 hx (hw _ (List.mem_of_getElem? w_70)) Via.refl F2 (hb hby d_jdk_68_10_8) rfl fun T161 W161 => ?_
  refine g_ishl (pc' := 12) W161.here hx (hb hby d_jdk_68_10_11) rfl ?_
  refine g_name (w := .int (21 : Int32)) (congrArg Value.int (by decide)) ?_
  refine g_istoreN (pc' := 13) (Ls' := #[.val (.ref o), .val (.int (21 : Int32)), .val (.int (16 : Int32)), .val (.int (21 : Int32)), .unset, .unset]) W161.here hx (hb hby d_jdk_68_10_12) rfl rfl ?_
  refine g_iloadN (pc' := 14) W161.here hx (hb hby d_jdk_68_10_13) rfl rfl ?_
  refine g_iloadN (pc' := 15) W161.here hx (hb hby d_jdk_68_10_14) rfl rfl ?_
  refine g_isub (pc' := 16) W161.here hx (hb hby d_jdk_68_10_15) rfl ?_
  refine g_name (w := .int (5 : Int32)) (congrArg Value.int (by decide)) ?_
  refine g_istore (pc' := 18) (Ls' := #[.val (.ref o), .val (.int (21 : Int32)), .val (.int (16 : Int32)), .val (.int (21 : Int32)), .val (.int (5 : Int32)), .unset]) W161.here hx (hb hby d_jdk_68_10_16) rfl rfl ?_
  refine g_iloadN (pc' := 19) W161.here hx (hb hby d_jdk_68_10_18) rfl rfl ?_
  refine g_iload (pc' := 21) W161.here hx (hb hby d_jdk_68_10_19) rfl rfl ?_
  refine g_iloadN (pc' := 22) W161.here hx (hb hby d_jdk_68_10_21) rfl rfl ?_
  refine g_iconst (2 : Int32) (pc' := 23) W161.here hx (hb hby d_jdk_68_10_22) rfl rfl ?_
  refine g_aloadN (pc' := 24) W161.here hx (hb hby d_jdk_68_10_23) rfl rfl rfl ?_
  refine w_get (pc' := 27) W161 hx (hw _ (List.mem_of_getElem? w_70)) Via.refl F2 (hb hby d_jdk_68_10_24) rfl fun T162 W162 => ?_
  refine g_ishl (pc' := 28) W162.here hx (hb hby d_jdk_68_10_27) rfl ?_
  refine g_name (w := .int (2 : Int32)) (congrArg Value.int (by decide)) ?_
  refine g_iadd (pc' := 29) W162.here hx (hb hby d_jdk_68_10_28) rfl ?_
  refine g_name (w := .int (18 : Int32)) (congrArg Value.int (by decide)) ?_
  refine w_callSp (pc' := 32) (st := []) (y := (⟨"jdk/internal/util/ArraysSupport", "newLength", "(III)I"⟩ : MethodName)) W162 hx [(.int (16 : Int32)), (.int (5 : Int32)), (.int (18 : Int32))] (hw _ (List.mem_of_getElem? w_126)) (hw _ (List.mem_of_getElem? w_127)) (hw _ (List.mem_of_getElem? w_128)) (hw _ (List.mem_of_getElem? w_129)) (by decide) (c_newLength_16_5_18 l Z a0 hw hE h0 W162.old) (by rw [hml]; rfl) (lenOf pd_20 rfl) rfl (hb hby d_jdk_68_10_29) (Nat.le_of_ble_eq_true rfl) (Nat.le_of_ble_eq_true rfl) rfl rfl (Nat.le_of_ble_eq_true rfl) (Nat.le_of_ble_eq_true rfl) rfl fun T164 W164 => ?_
  refine g_istore (pc' := 34) (Ls' := #[.val (.ref o), .val (.int (21 : Int32)), .val (.int (16 : Int32)), .val (.int (21 : Int32)), .val (.int (5 : Int32)), .val (.int (34 : Int32))]) W164.here hx (hb hby d_jdk_68_10_32) rfl rfl ?_
  refine g_iload (pc' := 36) W164.here hx (hb hby d_jdk_68_10_34) rfl rfl ?_
  refine w_ldcI (pc' := 38) W164 hx (hw _ (List.mem_of_getElem? w_135)) (hb hby d_jdk_68_10_36) rfl ?_
  refine g_icmpY (pc' := 51) W164.here hx (hb hby d_jdk_68_10_38) rfl (feq (show ¬ ((34 : Int32) = (2147483647 : Int32)) from (by decide))).2 ?_
  refine g_iload (pc' := 53) W164.here hx (hb hby d_jdk_68_10_51) rfl rfl ?_
  refine g_aloadN (pc' := 54) W164.here hx (hb hby d_jdk_68_10_53) rfl rfl rfl ?_
  refine w_get (pc' := 57) W164 hx (hw _ (List.mem_of_getElem? w_70)) Via.refl F2 (hb hby d_jdk_68_10_54) rfl fun T165 W165 => ?_
  refine g_ishr (pc' := 58) W165.here hx (hb hby d_jdk_68_10_57) rfl ?_
  refine g_name (w := .int (34 : Int32)) (congrArg Value.int (by decide)) ?_
  refine w_retI W165 hx hh hlk hret (hb hby d_jdk_68_10_58) (Nat.le_of_ble_eq_true rfl) (Nat.le_of_ble_eq_true rfl) ?_
  exact ⟨rfl, rfl⟩
set_option maxRecDepth 65536 in
set_option maxHeartbeats 40000000 in
theorem c_min_16_34 (l : Launch) (Z : State) (a0 : Array Value) (hw : ∀ d ∈ tables_1, d.before a0 Z = true) (hE : EW Z a0 consts_1)  (h0 : Heap) (O : Ext Z.heap h0)  :
    Con l Z consts_1 (⟨"java/lang/Math", "min", "(II)I"⟩ : MethodName) jdk_29_method_69_code 2 (Option.some Jvm.ClassFile.FieldType.int) ({ frames := 0, cells := 0, slots := 0, locals := 0 } : Room) #[(.int (16 : Int32)), (.int (34 : Int32))] h0 [] (pureQ (some (.int (16 : Int32))) h0) := by
  refine Con.of (a0 := a0) #[.val (.int (16 : Int32)), .val (.int (34 : Int32))] (Jvm.Free.JP.mathPlain rfl (by decide +kernel)) hE O all0 (fun m => by first | (simp [entryFrame, mkF, argsToLocals, Value.category]; done) | rfl) ?_
  intro p e s m below meth c T0 hx hby hml hnm hret hlk hh W0
  refine g_iloadN (pc' := 1) W0.here hx (hb hby d_jdk_29_69_0) rfl rfl ?_
  refine g_iloadN (pc' := 2) W0.here hx (hb hby d_jdk_29_69_1) rfl rfl ?_
  refine g_icmpN (pc' := 5) W0.here hx (hb hby d_jdk_29_69_2) rfl (flt (show ¬ ((34 : Int32) < (16 : Int32)) from (by decide))).2.2.1 ?_
  refine g_iloadN (pc' := 6) W0.here hx (hb hby d_jdk_29_69_5) rfl rfl ?_
  refine g_goto (pc' := 10) W0.here hx (hb hby d_jdk_29_69_6) rfl ?_
  refine w_retI W0 hx hh hlk hret (hb hby d_jdk_29_69_10) (Nat.le_of_ble_eq_true rfl) (Nat.le_of_ble_eq_true rfl) ?_
  exact ⟨rfl, rfl⟩
set_option maxRecDepth 65536 in
set_option maxHeartbeats 40000000 in
theorem c_copyOf_16_34 (l : Launch) (Z : State) (a0 : Array Value) (hw : ∀ d ∈ tables_1, d.before a0 Z = true) (hE : EW Z a0 consts_1) (ba : Nat) (vs : List Value) (h0 : Heap) (O : Ext Z.heap h0) (VA : Ary Z h0 ba .byte vs) (lv : vs.length = 16) :
    ConF l Z consts_1 (⟨"java/util/Arrays", "copyOf", "([BI)[B"⟩ : MethodName) jdk_65_method_121_code 3 (Option.some (Jvm.ClassFile.FieldType.array Jvm.ClassFile.FieldType.byte)) ({ frames := 1, cells := 1, slots := 34, locals := 40 } : Room) #[(.ref ba), (.int (34 : Int32))] h0 [] (fun N v h => ∃ (bb : Nat) (vs : List Value), N = [bb] ∧ v = some (.ref bb) ∧ Ary Z h bb .byte vs ∧ vs.length = 34) := by
  refine ConF.of (a0 := a0) #[.val (.ref ba), .val (.int (34 : Int32)), .unset] (plainFor_of_name pn_9) hE O all0 (fun m => by first | (simp [entryFrame, mkF, argsToLocals, Value.category]; done) | rfl) ?_
  intro p e s m below meth c T0 hx hby hml hnm hret hlk hh W0
  have lt_ba : ba < h0.size := VA.lt
  refine g_iloadN (pc' := 1) W0.here hx (hb hby d_jdk_65_121_0) rfl rfl ?_
  refine g_aloadN (pc' := 2) W0.here hx (hb hby d_jdk_65_121_1) rfl rfl rfl ?_
  refine w_len (pc' := 3) W0 hx VA (hb hby d_jdk_65_121_2) rfl ?_
  refine g_name (w := .int (16 : Int32)) (congrArg Value.int (by rw [lv]; rfl)) ?_
  refine g_icmpY (pc' := 14) W0.here hx (hb hby d_jdk_65_121_3) rfl (feq (show ¬ ((34 : Int32) = (16 : Int32)) from (by decide))).2 ?_
  refine g_iloadN (pc' := 15) W0.here hx (hb hby d_jdk_65_121_14) rfl rfl ?_
  refine w_newarr (pc' := 17) (cap := 34) W0 hx (hw _ (List.mem_of_getElem? w_24)) (hb hby d_jdk_65_121_15) (by decide) (Nat.le_refl _) (Nat.le_of_ble_eq_true rfl) (Nat.le_of_ble_eq_true rfl) (Nat.le_of_ble_eq_true rfl) rfl rfl fun T168 h168 b168 g168 W168 K168 V168 => ?_
  have z_K168 : h0.size ≤ h168.size := K168.1
  have ne_ba_b168 : ba ≠ b168 := by omega
  have lt_b168 : b168 < h168.size := W168.lt (List.mem_cons_self ..)
  have V168 : Ary Z h168 b168 .byte [(.int (0 : Int32)), (.int (0 : Int32)), (.int (0 : Int32)), (.int (0 : Int32)), (.int (0 : Int32)), (.int (0 : Int32)), (.int (0 : Int32)), (.int (0 : Int32)), (.int (0 : Int32)), (.int (0 : Int32)), (.int (0 : Int32)), (.int (0 : Int32)), (.int (0 : Int32)), (.int (0 : Int32)), (.int (0 : Int32)), (.int (0 : Int32)), (.int (0 : Int32)), (.int (0 : Int32)), (.int (0 : Int32)), (.int (0 : Int32)), (.int (0 : Int32)), (.int (0 : Int32)), (.int (0 : Int32)), (.int (0 : Int32)), (.int (0 : Int32)), (.int (0 : Int32)), (.int (0 : Int32)), (.int (0 : Int32)), (.int (0 : Int32)), (.int (0 : Int32)), (.int (0 : Int32)), (.int (0 : Int32)), (.int (0 : Int32)), (.int (0 : Int32))] := V168
  obtain ⟨vn169, VN169, ln169⟩ : ∃ vs : List Value, Ary Z h168 b168 .byte vs ∧ vs.length = 34 := ⟨_, V168, rfl⟩
  refine g_astoreN (pc' := 18) (Ls' := #[.val (.ref ba), .val (.int (34 : Int32)), .val (.ref b168)]) W168.here hx (hb hby d_jdk_65_121_17) rfl rfl rfl ?_
  refine g_aloadN (pc' := 19) W168.here hx (hb hby d_jdk_65_121_18) rfl rfl rfl ?_
  refine g_iconst (0 : Int32) (pc' := 20) W168.here hx (hb hby d_jdk_65_121_19) rfl rfl ?_
  refine g_aloadN (pc' := 21) W168.here hx (hb hby d_jdk_65_121_20) rfl rfl rfl ?_
  refine g_iconst (0 : Int32) (pc' := 22) W168.here hx (hb hby d_jdk_65_121_21) rfl rfl ?_
  refine g_aloadN (pc' := 23) W168.here hx (hb hby d_jdk_65_121_22) rfl rfl rfl ?_
  have c170 := (VA.keep K168 nin0)
  refine w_len (pc' := 24) W168 hx c170 (hb hby d_jdk_65_121_23) rfl ?_
  refine g_name (w := .int (16 : Int32)) (congrArg Value.int (by rw [lv]; rfl)) ?_
  refine g_iloadN (pc' := 25) W168.here hx (hb hby d_jdk_65_121_24) rfl rfl ?_
  refine w_callSp (pc' := 28) (st := [(.int (0 : Int32)), (.ref b168), (.int (0 : Int32)), (.ref ba)]) (y := (⟨"java/lang/Math", "min", "(II)I"⟩ : MethodName)) W168 hx [(.int (16 : Int32)), (.int (34 : Int32))] (hw _ (List.mem_of_getElem? w_140)) (hw _ (List.mem_of_getElem? w_141)) (hw _ (List.mem_of_getElem? w_132)) (hw _ (List.mem_of_getElem? w_142)) (by decide) (c_min_16_34 l Z a0 hw hE h168 W168.old) (by rw [hml]; rfl) (lenOf pd_19 rfl) rfl (hb hby d_jdk_65_121_25) (Nat.le_of_ble_eq_true rfl) (Nat.le_of_ble_eq_true rfl) rfl rfl (Nat.le_of_ble_eq_true rfl) (Nat.le_of_ble_eq_true rfl) rfl fun T171 W171 => ?_
  refine w_arrcopy (pc' := 31) (st := []) W171 hx (hw _ (List.mem_of_getElem? w_143)) (hw _ (List.mem_of_getElem? w_119)) (hw _ (List.mem_of_getElem? w_117)) (hw _ (List.mem_of_getElem? w_118)) c170 VN169 (List.mem_of_getElem? (i := 0) rfl) (by decide) (by decide) (by decide) (by rw [lv]; exact (Nat.le_of_ble_eq_true rfl)) (by rw [ln169]; exact (Nat.le_of_ble_eq_true rfl)) (by rw [hml]; rfl) (hb hby d_jdk_65_121_28) (Nat.le_of_ble_eq_true rfl) (Nat.le_of_ble_eq_true rfl) rfl fun T172 h172 W172 K172 V172 => ?_
  have z_K172 : h168.size ≤ h172.size := K172.1
  obtain ⟨vs173, VN173, lv173⟩ : ∃ vs : List Value, Ary Z h172 b168 .byte vs ∧ vs.length = 34 := ⟨_, V172, by first | (simp only [List.length_append, List.length_take, List.length_drop, List.length_map, ln169, lv]; done) | (simp only [List.length_append, List.length_take, List.length_drop, List.length_map, ln169, lv]; decide)⟩
  refine g_aloadN (pc' := 32) W172.here hx (hb hby d_jdk_65_121_31) rfl rfl rfl ?_
  refine w_retAF W172 hx hh hlk hret rfl rfl (hb hby d_jdk_65_121_32) (Nat.le_of_ble_eq_true rfl) (Nat.le_of_ble_eq_true rfl) [b168] (allS (List.mem_of_getElem? (i := 0) rfl) all0) ?_
  exact ⟨_, _, rfl, rfl, VN173, lv173⟩
set_option maxRecDepth 65536 in
set_option maxHeartbeats 40000000 in
theorem c_ensure_11_16_21 (l : Launch) (Z : State) (a0 : Array Value) (hw : ∀ d ∈ tables_1, d.before a0 Z = true) (hE : EW Z a0 consts_1) (cc : Int32) (fm : Value) (o vb : Nat)  (h0 : Heap) (O : Ext Z.heap h0) (G : SEnv Z cc fm) (hz : Z.heap.size ≤ o) (hzb : Z.heap.size ≤ vb) (hov : o ≠ vb) (B0 : SBd Z h0 o vb (11 : Int32) 16)  :
    ConF l Z consts_1 (⟨"java/lang/AbstractStringBuilder", "ensureCapacityInternal", "(I)V"⟩ : MethodName) jdk_68_method_9_code 3 (Option.none : Option Jvm.ClassFile.FieldType) ({ frames := 3, cells := 1, slots := 34, locals := 55 } : Room) #[(.ref o), (.int (21 : Int32))] h0 [o] (fun N v h => ∃ vb2 : Nat, N = [vb2] ∧ v = none ∧ SBd Z h o vb2 (11 : Int32) 34) := by
  refine ConF.of (a0 := a0) #[.val (.ref o), .val (.int (21 : Int32)), .unset] (plainFor_of_name pn_4) hE O (allS ⟨hz, by obtain ⟨E, -⟩ := B0; exact E.lt⟩ all0) (fun m => by first | (simp [entryFrame, mkF, argsToLocals, Value.category]; done) | rfl) ?_
  intro p e s m below meth c T0 hx hby hml hnm hret hlk hh W0
  obtain ⟨E0, F1, F2, F3, vs, VB, lv⟩ := id B0
  have lt_o : o < h0.size := E0.lt
  have lt_vb : vb < h0.size := VB.lt
  refine g_aloadN (pc' := 1) W0.here hx (hb hby d_jdk_68_9_0) rfl rfl rfl ?_
  refine w_get (pc' := 4) W0 hx (hw _ (List.mem_of_getElem? w_68)) Via.refl F3 (hb hby d_jdk_68_9_1) rfl fun T156 W156 => ?_
  refine w_len (pc' := 5) W156 hx VB (hb hby d_jdk_68_9_4) rfl ?_
  refine g_name (w := .int (16 : Int32)) (congrArg Value.int (by rw [lv]; rfl)) ?_
  refine g_aloadN (pc' := 6) W156.here hx (hb hby d_jdk_68_9_5) rfl rfl rfl ?_
  refine w_get (pc' := 9) W156 hx (hw _ (List.mem_of_getElem? w_70)) Via.refl F2 (hb hby d_jdk_68_9_6) rfl fun T157 W157 => ?_
  refine g_ishr (pc' := 10) W157.here hx (hb hby d_jdk_68_9_9) rfl ?_
  refine g_name (w := .int (16 : Int32)) (congrArg Value.int (by decide)) ?_
  refine g_istoreN (pc' := 11) (Ls' := #[.val (.ref o), .val (.int (21 : Int32)), .val (.int (16 : Int32))]) W157.here hx (hb hby d_jdk_68_9_10) rfl rfl ?_
  refine g_iloadN (pc' := 12) W157.here hx (hb hby d_jdk_68_9_11) rfl rfl ?_
  refine g_iloadN (pc' := 13) W157.here hx (hb hby d_jdk_68_9_12) rfl rfl ?_
  refine g_isub (pc' := 14) W157.here hx (hb hby d_jdk_68_9_13) rfl ?_
  refine g_name (w := .int (5 : Int32)) (congrArg Value.int (by decide)) ?_
  refine g_ifN (pc' := 17) W157.here hx (hb hby d_jdk_68_9_14) rfl (tlt (show (0 : Int32) < (5 : Int32) from (by decide))).2.2.2 ?_
  refine g_aloadN (pc' := 18) W157.here hx (hb hby d_jdk_68_9_17) rfl rfl rfl ?_
  refine g_aloadN (pc' := 19) W157.here hx (hb hby d_jdk_68_9_18) rfl rfl rfl ?_
  refine w_get (pc' := 22) W157 hx (hw _ (List.mem_of_getElem? w_68)) Via.refl F3 (hb hby d_jdk_68_9_19) rfl fun T158 W158 => ?_
  refine g_aloadN (pc' := 23) W158.here hx (hb hby d_jdk_68_9_22) rfl rfl rfl ?_
  refine g_iloadN (pc' := 24) W158.here hx (hb hby d_jdk_68_9_23) rfl rfl ?_
  have B159 : SBd Z h0 o vb (11 : Int32) 16 := ⟨E0, F1, F2, F3, _, VB, lv⟩
  refine w_privatep (pc' := 27) (st := [(.ref vb), (.ref o)]) (y := (⟨"java/lang/AbstractStringBuilder", "newCapacity", "(I)I"⟩ : MethodName)) (a := o) W158 hx [(.int (21 : Int32))] (hw _ (List.mem_of_getElem? w_121)) (hw _ (List.mem_of_getElem? w_123)) (hw _ (List.mem_of_getElem? w_124)) (hw _ (List.mem_of_getElem? w_122)) (hw _ (List.mem_of_getElem? w_64)) (hw _ (List.mem_of_getElem? w_125)) (by decide) (c_newCap_11_16_21 l Z a0 hw hE cc fm o vb h0 W158.old G B159) E0 (by rw [hml]; rfl) (lenOf pd_21 rfl) rfl (hb hby d_jdk_68_9_24) (Nat.le_of_ble_eq_true rfl) (Nat.le_of_ble_eq_true rfl) rfl rfl (Nat.le_of_ble_eq_true rfl) (Nat.le_of_ble_eq_true rfl) rfl fun T166 W166 => ?_
  refine g_aloadN (pc' := 28) W166.here hx (hb hby d_jdk_68_9_27) rfl rfl rfl ?_
  refine w_get (pc' := 31) W166 hx (hw _ (List.mem_of_getElem? w_70)) Via.refl F2 (hb hby d_jdk_68_9_28) rfl fun T167 W167 => ?_
  refine g_ishl (pc' := 32) W167.here hx (hb hby d_jdk_68_9_31) rfl ?_
  refine g_name (w := .int (34 : Int32)) (congrArg Value.int (by decide)) ?_
  refine w_callSF (pc' := 35) (st := [(.ref o)]) (y := (⟨"java/util/Arrays", "copyOf", "([BI)[B"⟩ : MethodName)) W167 hx [(.ref vb), (.int (34 : Int32))] (hw _ (List.mem_of_getElem? w_136)) (hw _ (List.mem_of_getElem? w_137)) (hw _ (List.mem_of_getElem? w_138)) (hw _ (List.mem_of_getElem? w_139)) (by decide) (c_copyOf_16_34 l Z a0 hw hE vb vs h0 W167.old VB lv) all0 (by rw [hml]; rfl) (lenOf pd_22 rfl) rfl (hb hby d_jdk_68_9_32) (Nat.le_of_ble_eq_true rfl) (Nat.le_of_ble_eq_true rfl) (Nat.le_of_ble_eq_true rfl) (Nat.le_of_ble_eq_true rfl) rfl fun N174 v174 T174 h174 W174 K174 G174 Q174 => ?_
  have z_K174 : h0.size ≤ h174.size := K174.1
  obtain ⟨nb175, nv175, rfl, rfl, NV175, nl175⟩ := Q174
  have gz176 := (G174 nb175 (List.mem_cons_self ..)).1
  have lt_nb175 := (G174 nb175 (List.mem_cons_self ..)).2
  have ne_o_nb175 : o ≠ nb175 := by omega
  have ne_vb_nb175 : vb ≠ nb175 := by omega
  have c177 := (F3.keep K174 nin0)
  have c178 := (E0.keep K174)
  refine w_put (pc' := 38) W174 hx (hw _ (List.mem_of_getElem? w_68)) Via.refl c177 c178 (Or.inl (hw _ (List.mem_of_getElem? w_69))) (hw _ (List.mem_of_getElem? w_55)) (ty := (.array .byte)) (by decide) rfl rfl (List.mem_of_getElem? (i := 0) rfl) (hb hby d_jdk_68_9_35) rfl fun T179 h179 W179 K179 R179 F179 A179 => ?_
  have c180 := (F1.keep K174 nin0)
  have c181 := (F2.keep K174 nin0)
  have z_K179 : h174.size ≤ h179.size := K179.1
  have c182 := (c180.other R179 (Or.inr (slot_ne (Or.inl (hw _ (List.mem_of_getElem? w_94))) (Or.inl (hw _ (List.mem_of_getElem? w_69))) (by decide) (t := .int) (t' := (.array .byte)) (by decide) (by decide))))
  have c183 := (c181.other R179 (Or.inr (slot_ne (Or.inl (hw _ (List.mem_of_getElem? w_71))) (Or.inl (hw _ (List.mem_of_getElem? w_69))) (by decide) (t := .byte) (t' := (.array .byte)) (by decide) (by decide))))
  have c184 := (NV175.keep K179 (ninS (Ne.symm ne_o_nb175) nin0))
  refine w_retVF W179 hx hh hlk hret (hb hby d_jdk_68_9_38) (Nat.le_of_ble_eq_true rfl) (Nat.le_of_ble_eq_true rfl) [nb175] (allS (List.mem_of_getElem? (i := 0) rfl) all0) ?_
  exact ⟨_, rfl, rfl, ⟨A179, c182, c183, F179, _, c184, nl175⟩⟩
set_option maxRecDepth 65536 in
set_option maxHeartbeats 40000000 in
theorem c_inflate_11_34_10 (l : Launch) (Z : State) (a0 : Array Value) (hw : ∀ d ∈ tables_1, d.before a0 Z = true) (hE : EW Z a0 consts_1) (cc : Int32) (fm : Value) (o vb : Nat) (a sb : Nat) (cs : List Int32)  (h0 : Heap) (O : Ext Z.heap h0) (G : SEnv Z cc fm) (B0 : SBd Z h0 o vb (11 : Int32) 34) (S1 : SL Z h0 a sb cs) (hcs : cs.length = 10)  :
    Con l Z consts_1 (⟨"java/lang/AbstractStringBuilder", "inflateIfNeededFor", "(Ljava/lang/String;)V"⟩ : MethodName) jdk_68_method_71_code 2 (Option.none : Option Jvm.ClassFile.FieldType) ({ frames := 1, cells := 0, slots := 0, locals := 13 } : Room) #[(.ref o), (.ref a)] h0 [] (pureQ none h0) := by
  refine Con.of (a0 := a0) #[.val (.ref o), .val (.ref a)] (plainFor_of_name pn_4) hE O all0 (fun m => by first | (simp [entryFrame, mkF, argsToLocals, Value.category]; done) | rfl) ?_
  intro p e s m below meth c T0 hx hby hml hnm hret hlk hh W0
  obtain ⟨E0, F1, F2, F3, vs, VB, lv⟩ := id B0
  have lt_o : o < h0.size := E0.lt
  have lt_vb : vb < h0.size := VB.lt
  have ES1 := S1.1
  have lt_a : a < h0.size := S1.lt
  have lt_sb : sb < h0.size := S1.ltb
  refine w_getS (pc' := 3) W0 hx (hw _ (List.mem_of_getElem? w_67)) Via.refl G.1 (hb hby d_jdk_68_71_0) rfl fun T193 W193 => ?_
  refine g_ifN (pc' := 6) W193.here hx (hb hby d_jdk_68_71_3) rfl (feq (show ¬ (cc = (0 : Int32)) from G.2.1)).1 ?_
  refine g_aloadN (pc' := 7) W193.here hx (hb hby d_jdk_68_71_6) rfl rfl rfl ?_
  refine w_get (pc' := 10) W193 hx (hw _ (List.mem_of_getElem? w_70)) Via.refl F2 (hb hby d_jdk_68_71_7) rfl fun T194 W194 => ?_
  refine g_aloadN (pc' := 11) W194.here hx (hb hby d_jdk_68_71_10) rfl rfl rfl ?_
  refine w_virtualp (pc' := 14) (st := [(.int (0 : Int32))]) (y := (⟨"java/lang/String", "coder", "()B"⟩ : MethodName)) (z := (⟨"java/lang/String", "coder", "()B"⟩ : MethodName)) (a := a) W194 hx [] (hw _ (List.mem_of_getElem? w_110)) (hw _ (List.mem_of_getElem? w_89)) (nfS (z := (⟨"java/lang/String", "coder", "()B"⟩ : MethodName)) (hw _ (List.mem_of_getElem? w_91))) (hw _ (List.mem_of_getElem? w_91)) (hw _ (List.mem_of_getElem? w_90)) (hw _ (List.mem_of_getElem? w_8)) (hw _ (List.mem_of_getElem? w_92)) (by decide) (c_coder l Z a0 hw hE cc fm a sb cs h0 W194.old G S1) ES1 (by rw [hml]; rfl) (lenOf pd_4 rfl) rfl (hb hby d_jdk_68_71_11) (Nat.le_of_ble_eq_true rfl) (Nat.le_of_ble_eq_true rfl) rfl rfl (Nat.le_of_ble_eq_true rfl) (Nat.le_of_ble_eq_true rfl) rfl fun T195 W195 => ?_
  refine g_icmpY (pc' := 21) W195.here hx (hb hby d_jdk_68_71_14) rfl (teq (show (0 : Int32) = (0 : Int32) from (by decide))).1 ?_
  refine w_retV W195 hx hh hlk hret (hb hby d_jdk_68_71_21) (Nat.le_of_ble_eq_true rfl) (Nat.le_of_ble_eq_true rfl) ?_
  exact ⟨rfl, rfl⟩
set_option maxRecDepth 65536 in
set_option maxHeartbeats 40000000 in
theorem c_getBytes_10_11_34 (l : Launch) (Z : State) (a0 : Array Value) (hw : ∀ d ∈ tables_1, d.before a0 Z = true) (hE : EW Z a0 consts_1) (cc : Int32) (fm : Value) (a sb : Nat) (cs : List Int32) (vb : Nat) (vs : List Value) (h0 : Heap) (O : Ext Z.heap h0) (G : SEnv Z cc fm) (S1 : SL Z h0 a sb cs) (hcs : cs.length = 10) (hzb : Z.heap.size ≤ vb) (VB : Ary Z h0 vb .byte vs) (lv : vs.length = 34) :
    Con l Z consts_1 (⟨"java/lang/String", "getBytes", "([BIB)V"⟩ : MethodName) jdk_42_method_147_code 4 (Option.none : Option Jvm.ClassFile.FieldType) ({ frames := 1, cells := 0, slots := 0, locals := 40 } : Room) #[(.ref a), (.ref vb), (.int (11 : Int32)), (.int (0 : Int32))] h0 [vb] (fun v h => v = none ∧ ∃ vs : List Value, Ary Z h vb .byte vs ∧ vs.length = 34) := by
  refine Con.of (a0 := a0) #[.val (.ref a), .val (.ref vb), .val (.int (11 : Int32)), .val (.int (0 : Int32))] (plainFor_of_name pn_1) hE O (allS ⟨hzb, VB.lt⟩ all0) (fun m => by first | (simp [entryFrame, mkF, argsToLocals, Value.category]; done) | rfl) ?_
  intro p e s m below meth c T0 hx hby hml hnm hret hlk hh W0
  have ES1 := S1.1
  have lt_a : a < h0.size := S1.lt
  have lt_sb : sb < h0.size := S1.ltb
  obtain ⟨E_a, FC_a, FV_a, VS_a, LS_a⟩ := id S1
  refine g_aloadN (pc' := 1) W0.here hx (hb hby d_jdk_42_147_0) rfl rfl rfl ?_
  refine w_virtualp (pc' := 4) (st := []) (y := (⟨"java/lang/String", "coder", "()B"⟩ : MethodName)) (z := (⟨"java/lang/String", "coder", "()B"⟩ : MethodName)) (a := a) W0 hx [] (hw _ (List.mem_of_getElem? w_88)) (hw _ (List.mem_of_getElem? w_89)) (nfS (z := (⟨"java/lang/String", "coder", "()B"⟩ : MethodName)) (hw _ (List.mem_of_getElem? w_91))) (hw _ (List.mem_of_getElem? w_91)) (hw _ (List.mem_of_getElem? w_90)) (hw _ (List.mem_of_getElem? w_8)) (hw _ (List.mem_of_getElem? w_92)) (by decide) (c_coder l Z a0 hw hE cc fm a sb cs h0 W0.old G S1) ES1 (by rw [hml]; rfl) (lenOf pd_4 rfl) rfl (hb hby d_jdk_42_147_1) (Nat.le_of_ble_eq_true rfl) (Nat.le_of_ble_eq_true rfl) rfl rfl (Nat.le_of_ble_eq_true rfl) (Nat.le_of_ble_eq_true rfl) rfl fun T199 W199 => ?_
  refine g_iloadN (pc' := 5) W199.here hx (hb hby d_jdk_42_147_4) rfl rfl ?_
  refine g_icmpN (pc' := 8) W199.here hx (hb hby d_jdk_42_147_5) rfl (teq (show (0 : Int32) = (0 : Int32) from (by decide))).2 ?_
  refine g_aloadN (pc' := 9) W199.here hx (hb hby d_jdk_42_147_8) rfl rfl rfl ?_
  refine w_get (pc' := 12) W199 hx (hw _ (List.mem_of_getElem? w_33)) Via.refl FV_a (hb hby d_jdk_42_147_9) rfl fun T200 W200 => ?_
  refine g_iconst (0 : Int32) (pc' := 13) W200.here hx (hb hby d_jdk_42_147_12) rfl rfl ?_
  refine g_aloadN (pc' := 14) W200.here hx (hb hby d_jdk_42_147_13) rfl rfl rfl ?_
  refine g_iloadN (pc' := 15) W200.here hx (hb hby d_jdk_42_147_14) rfl rfl ?_
  refine g_iloadN (pc' := 16) W200.here hx (hb hby d_jdk_42_147_15) rfl rfl ?_
  refine g_ishl (pc' := 17) W200.here hx (hb hby d_jdk_42_147_16) rfl ?_
  refine g_name (w := .int (11 : Int32)) (congrArg Value.int (by decide)) ?_
  refine g_aloadN (pc' := 18) W200.here hx (hb hby d_jdk_42_147_17) rfl rfl rfl ?_
  refine w_get (pc' := 21) W200 hx (hw _ (List.mem_of_getElem? w_33)) Via.refl FV_a (hb hby d_jdk_42_147_18) rfl fun T201 W201 => ?_
  refine w_len (pc' := 22) W201 hx VS_a (hb hby d_jdk_42_147_21) rfl ?_
  refine g_name (w := .int (10 : Int32)) (congrArg Value.int (by rw [List.length_map, hcs]; rfl)) ?_
  refine w_arrcopy (pc' := 25) (st := []) W201 hx (hw _ (List.mem_of_getElem? w_116)) (hw _ (List.mem_of_getElem? w_119)) (hw _ (List.mem_of_getElem? w_117)) (hw _ (List.mem_of_getElem? w_118)) VS_a VB (List.mem_of_getElem? (i := 0) rfl) (by decide) (by decide) (by decide) (by rw [List.length_map, hcs]; exact (Nat.le_of_ble_eq_true rfl)) (by rw [lv]; exact (Nat.le_of_ble_eq_true rfl)) (by rw [hml]; rfl) (hb hby d_jdk_42_147_22) (Nat.le_of_ble_eq_true rfl) (Nat.le_of_ble_eq_true rfl) rfl fun T202 h202 W202 K202 V202 => ?_
  have z_K202 : h0.size ≤ h202.size := K202.1
  obtain ⟨vs203, VN203, lv203⟩ : ∃ vs : List Value, Ary Z h202 vb .byte vs ∧ vs.length = 34 := ⟨_, V202, by first | (simp only [List.length_append, List.length_take, List.length_drop, List.length_map, lv, hcs]; done) | (simp only [List.length_append, List.length_take, List.length_drop, List.length_map, lv, hcs]; decide)⟩
  refine g_goto (pc' := 43) W202.here hx (hb hby d_jdk_42_147_25) rfl ?_
  refine w_retV W202 hx hh hlk hret (hb hby d_jdk_42_147_43) (Nat.le_of_ble_eq_true rfl) (Nat.le_of_ble_eq_true rfl) ?_
  exact ⟨rfl, _, VN203, lv203⟩
set_option maxRecDepth 65536 in
set_option maxHeartbeats 40000000 in
theorem c_putStr_11_34_11_10 (l : Launch) (Z : State) (a0 : Array Value) (hw : ∀ d ∈ tables_1, d.before a0 Z = true) (hE : EW Z a0 consts_1) (cc : Int32) (fm : Value) (o vb : Nat) (a sb : Nat) (cs : List Int32)  (h0 : Heap) (O : Ext Z.heap h0) (G : SEnv Z cc fm) (hz : Z.heap.size ≤ o) (hzb : Z.heap.size ≤ vb) (hov : o ≠ vb) (B0 : SBd Z h0 o vb (11 : Int32) 34) (S1 : SL Z h0 a sb cs) (hcs : cs.length = 10) (n1 : o ≠ a) (n2 : o ≠ sb) (n3 : vb ≠ a) (n4 : vb ≠ sb)  :
    Con l Z consts_1 (⟨"java/lang/AbstractStringBuilder", "putStringAt", "(ILjava/lang/String;)V"⟩ : MethodName) jdk_68_method_73_code 3 (Option.none : Option Jvm.ClassFile.FieldType) ({ frames := 2, cells := 0, slots := 0, locals := 55 } : Room) #[(.ref o), (.int (11 : Int32)), (.ref a)] h0 [vb] (fun v h => v = none ∧ SBd Z h o vb (11 : Int32) 34) := by
  refine Con.of (a0 := a0) #[.val (.ref o), .val (.int (11 : Int32)), .val (.ref a)] (plainFor_of_name pn_4) hE O (allS ⟨hzb, B0.ltb⟩ all0) (fun m => by first | (simp [entryFrame, mkF, argsToLocals, Value.category]; done) | rfl) ?_
  intro p e s m below meth c T0 hx hby hml hnm hret hlk hh W0
  obtain ⟨E0, F1, F2, F3, vs, VB, lv⟩ := id B0
  have lt_o : o < h0.size := E0.lt
  have lt_vb : vb < h0.size := VB.lt
  have ES1 := S1.1
  have lt_a : a < h0.size := S1.lt
  have lt_sb : sb < h0.size := S1.ltb
  refine g_aloadN (pc' := 1) W0.here hx (hb hby d_jdk_68_73_0) rfl rfl rfl ?_
  refine g_aloadN (pc' := 2) W0.here hx (hb hby d_jdk_68_73_1) rfl rfl rfl ?_
  have B192 : SBd Z h0 o vb (11 : Int32) 34 := ⟨E0, F1, F2, F3, _, VB, lv⟩
  refine w_privatep (pc' := 5) (st := []) (y := (⟨"java/lang/AbstractStringBuilder", "inflateIfNeededFor", "(Ljava/lang/String;)V"⟩ : MethodName)) (a := o) W0 hx [(.ref a)] (hw _ (List.mem_of_getElem? w_105)) (hw _ (List.mem_of_getElem? w_107)) (hw _ (List.mem_of_getElem? w_108)) (hw _ (List.mem_of_getElem? w_106)) (hw _ (List.mem_of_getElem? w_64)) (hw _ (List.mem_of_getElem? w_109)) (by decide) (c_inflate_11_34_10 l Z a0 hw hE cc fm o vb a sb cs h0 W0.old G B192 S1 hcs) E0 (by rw [hml]; rfl) (lenOf pd_14 rfl) rfl (hb hby d_jdk_68_73_2) (Nat.le_of_ble_eq_true rfl) (Nat.le_of_ble_eq_true rfl) rfl rfl (Nat.le_of_ble_eq_true rfl) (Nat.le_of_ble_eq_true rfl) rfl fun T196 W196 => ?_
  refine g_aloadN (pc' := 6) W196.here hx (hb hby d_jdk_68_73_5) rfl rfl rfl ?_
  refine g_aloadN (pc' := 7) W196.here hx (hb hby d_jdk_68_73_6) rfl rfl rfl ?_
  refine w_get (pc' := 10) W196 hx (hw _ (List.mem_of_getElem? w_68)) Via.refl F3 (hb hby d_jdk_68_73_7) rfl fun T197 W197 => ?_
  refine g_iloadN (pc' := 11) W197.here hx (hb hby d_jdk_68_73_10) rfl rfl ?_
  refine g_aloadN (pc' := 12) W197.here hx (hb hby d_jdk_68_73_11) rfl rfl rfl ?_
  refine w_get (pc' := 15) W197 hx (hw _ (List.mem_of_getElem? w_70)) Via.refl F2 (hb hby d_jdk_68_73_12) rfl fun T198 W198 => ?_
  refine w_virtual (pc' := 18) (st := []) (y := (⟨"java/lang/String", "getBytes", "([BIB)V"⟩ : MethodName)) (z := (⟨"java/lang/String", "getBytes", "([BIB)V"⟩ : MethodName)) (a := a) W198 hx [(.ref vb), (.int (11 : Int32)), (.int (0 : Int32))] (hw _ (List.mem_of_getElem? w_111)) (hw _ (List.mem_of_getElem? w_112)) (nfS (z := (⟨"java/lang/String", "getBytes", "([BIB)V"⟩ : MethodName)) (hw _ (List.mem_of_getElem? w_114))) (hw _ (List.mem_of_getElem? w_114)) (hw _ (List.mem_of_getElem? w_113)) (hw _ (List.mem_of_getElem? w_8)) (hw _ (List.mem_of_getElem? w_115)) (by decide) (c_getBytes_10_11_34 l Z a0 hw hE cc fm a sb cs vb vs h0 W198.old G S1 hcs hzb VB lv) ES1 (allS (List.mem_of_getElem? (i := 0) rfl) all0) (by rw [hml]; rfl) (lenOf pd_15 rfl) rfl (hb hby d_jdk_68_73_15) (Nat.le_of_ble_eq_true rfl) (Nat.le_of_ble_eq_true rfl) (Nat.le_of_ble_eq_true rfl) (Nat.le_of_ble_eq_true rfl) rfl fun v204 T204 h204 W204 K204 Q204 => ?_
  have z_K204 : h0.size ≤ h204.size := K204.1
  obtain ⟨rfl, vs205, VN205, lv205⟩ := Q204
  have c206 := (E0.keep K204)
  have c207 := (F1.keep K204 (ninS hov nin0))
  have c208 := (F2.keep K204 (ninS hov nin0))
  have c209 := (F3.keep K204 (ninS hov nin0))
  refine w_retV W204 hx hh hlk hret (hb hby d_jdk_68_73_18) (Nat.le_of_ble_eq_true rfl) (Nat.le_of_ble_eq_true rfl) ?_
  exact ⟨rfl, ⟨c206, c207, c208, c209, _, VN205, lv205⟩⟩
set_option maxRecDepth 65536 in
set_option maxHeartbeats 40000000 in
theorem c_asbApp_11_16_10 (l : Launch) (Z : State) (a0 : Array Value) (hw : ∀ d ∈ tables_1, d.before a0 Z = true) (hE : EW Z a0 consts_1) (cc : Int32) (fm : Value) (o vb : Nat) (a sb : Nat) (cs : List Int32)  (h0 : Heap) (O : Ext Z.heap h0) (G : SEnv Z cc fm) (hz : Z.heap.size ≤ o) (hzb : Z.heap.size ≤ vb) (hov : o ≠ vb) (B0 : SBd Z h0 o vb (11 : Int32) 16) (S1 : SL Z h0 a sb cs) (hcs : cs.length = 10) (n1 : o ≠ a) (n2 : o ≠ sb) (n3 : vb ≠ a) (n4 : vb ≠ sb)  :
    ConF l Z consts_1 (⟨"java/lang/AbstractStringBuilder", "append", "(Ljava/lang/String;)Ljava/lang/AbstractStringBuilder;"⟩ : MethodName) jdk_68_method_22_code 3 (Option.some (Jvm.ClassFile.FieldType.object "java/lang/AbstractStringBuilder")) ({ frames := 4, cells := 1, slots := 34, locals := 69 } : Room) #[(.ref o), (.ref a)] h0 [o, vb] (fun N v h => ∃ vb2 : Nat, N = [vb2] ∧ v = some (.ref o) ∧ SBd Z h o vb2 (21 : Int32) 34) := by
  refine ConF.of (a0 := a0) #[.val (.ref o), .val (.ref a), .unset] (plainFor_of_name pn_4) hE O (allS ⟨hz, by obtain ⟨E, -⟩ := B0; exact E.lt⟩ (allS ⟨hzb, B0.ltb⟩ all0)) (fun m => by first | (simp [entryFrame, mkF, argsToLocals, Value.category]; done) | rfl) ?_
  intro p e s m below meth c T0 hx hby hml hnm hret hlk hh W0
  obtain ⟨E0, F1, F2, F3, vs, VB, lv⟩ := id B0
  have lt_o : o < h0.size := E0.lt
  have lt_vb : vb < h0.size := VB.lt
  have ES1 := S1.1
  have lt_a : a < h0.size := S1.lt
  have lt_sb : sb < h0.size := S1.ltb
  refine g_aloadN (pc' := 1) W0.here hx (hb hby d_jdk_68_22_0) rfl rfl rfl ?_
  refine g_nonnullY (pc' := 9) W0.here hx (hb hby d_jdk_68_22_1) rfl ?_
  refine g_aloadN (pc' := 10) W0.here hx (hb hby d_jdk_68_22_9) rfl rfl rfl ?_
  refine w_virtualp (pc' := 13) (st := []) (y := (⟨"java/lang/String", "length", "()I"⟩ : MethodName)) (z := (⟨"java/lang/String", "length", "()I"⟩ : MethodName)) (a := a) W0 hx [] (hw _ (List.mem_of_getElem? w_83)) (hw _ (List.mem_of_getElem? w_84)) (nfS (z := (⟨"java/lang/String", "length", "()I"⟩ : MethodName)) (hw _ (List.mem_of_getElem? w_86))) (hw _ (List.mem_of_getElem? w_86)) (hw _ (List.mem_of_getElem? w_85)) (hw _ (List.mem_of_getElem? w_8)) (hw _ (List.mem_of_getElem? w_87)) (by decide) (c_length l Z a0 hw hE cc fm a sb cs  h0 W0.old G S1 ) ES1 (by rw [hml]; rfl) (lenOf pd_13 rfl) rfl (hb hby d_jdk_68_22_10) (Nat.le_of_ble_eq_true rfl) (Nat.le_of_ble_eq_true rfl) rfl rfl (Nat.le_of_ble_eq_true rfl) (Nat.le_of_ble_eq_true rfl) rfl fun T153 W153 => ?_
  refine g_name (w := .int (10 : Int32)) (congrArg Value.int (by rw [hcs]; rfl)) ?_
  refine g_istoreN (pc' := 14) (Ls' := #[.val (.ref o), .val (.ref a), .val (.int (10 : Int32))]) W153.here hx (hb hby d_jdk_68_22_13) rfl rfl ?_
  refine g_aloadN (pc' := 15) W153.here hx (hb hby d_jdk_68_22_14) rfl rfl rfl ?_
  refine g_aloadN (pc' := 16) W153.here hx (hb hby d_jdk_68_22_15) rfl rfl rfl ?_
  refine w_get (pc' := 19) W153 hx (hw _ (List.mem_of_getElem? w_93)) Via.refl F1 (hb hby d_jdk_68_22_16) rfl fun T154 W154 => ?_
  refine g_iloadN (pc' := 20) W154.here hx (hb hby d_jdk_68_22_19) rfl rfl ?_
  refine g_iadd (pc' := 21) W154.here hx (hb hby d_jdk_68_22_20) rfl ?_
  refine g_name (w := .int (21 : Int32)) (congrArg Value.int (by decide)) ?_
  have B155 : SBd Z h0 o vb (11 : Int32) 16 := ⟨E0, F1, F2, F3, _, VB, lv⟩
  refine w_privateF (pc' := 24) (st := []) (y := (⟨"java/lang/AbstractStringBuilder", "ensureCapacityInternal", "(I)V"⟩ : MethodName)) (a := o) W154 hx [(.int (21 : Int32))] (hw _ (List.mem_of_getElem? w_95)) (hw _ (List.mem_of_getElem? w_97)) (hw _ (List.mem_of_getElem? w_98)) (hw _ (List.mem_of_getElem? w_96)) (hw _ (List.mem_of_getElem? w_64)) (hw _ (List.mem_of_getElem? w_99)) (by decide) (c_ensure_11_16_21 l Z a0 hw hE cc fm o vb h0 W154.old G (by have := O.1; omega) (by have := O.1; omega) hov B155) E0 (allS (List.mem_of_getElem? (i := 0) rfl) all0) (by rw [hml]; rfl) (lenOf pd_9 rfl) rfl (hb hby d_jdk_68_22_21) (Nat.le_of_ble_eq_true rfl) (Nat.le_of_ble_eq_true rfl) (Nat.le_of_ble_eq_true rfl) (Nat.le_of_ble_eq_true rfl) rfl fun N185 v185 T185 h185 W185 K185 G185 Q185 => ?_
  have z_K185 : h0.size ≤ h185.size := K185.1
  obtain ⟨vb186, rfl, rfl, B186⟩ := Q185
  have gz187 := (G185 vb186 (List.mem_cons_self ..)).1
  have lt_vb186 := (G185 vb186 (List.mem_cons_self ..)).2
  have ne_o_vb186 : o ≠ vb186 := by omega
  have ne_vb_vb186 : vb ≠ vb186 := by omega
  have ne_a_vb186 : a ≠ vb186 := by omega
  have ne_sb_vb186 : sb ≠ vb186 := by omega
  obtain ⟨E0_188, F1_188, F2_188, F3_188, vs_188, VB_188, lv_188⟩ := id B186
  refine g_aloadN (pc' := 25) W185.here hx (hb hby d_jdk_68_22_24) rfl rfl rfl ?_
  refine g_aloadN (pc' := 26) W185.here hx (hb hby d_jdk_68_22_25) rfl rfl rfl ?_
  refine w_get (pc' := 29) W185 hx (hw _ (List.mem_of_getElem? w_93)) Via.refl F1_188 (hb hby d_jdk_68_22_26) rfl fun T189 W189 => ?_
  refine g_aloadN (pc' := 30) W189.here hx (hb hby d_jdk_68_22_29) rfl rfl rfl ?_
  have B190 : SBd Z h185 o vb186 (11 : Int32) 34 := ⟨E0_188, F1_188, F2_188, F3_188, _, VB_188, lv_188⟩
  have c191 := (S1.keep K185 (ninS (Ne.symm n1) nin0) (ninS (Ne.symm n2) nin0))
  refine w_private (pc' := 33) (st := []) (y := (⟨"java/lang/AbstractStringBuilder", "putStringAt", "(ILjava/lang/String;)V"⟩ : MethodName)) (a := o) W189 hx [(.int (11 : Int32)), (.ref a)] (hw _ (List.mem_of_getElem? w_100)) (hw _ (List.mem_of_getElem? w_102)) (hw _ (List.mem_of_getElem? w_103)) (hw _ (List.mem_of_getElem? w_101)) (hw _ (List.mem_of_getElem? w_64)) (hw _ (List.mem_of_getElem? w_104)) (by decide) (c_putStr_11_34_11_10 l Z a0 hw hE cc fm o vb186 a sb cs h185 W189.old G (by have := O.1; omega) (by have := O.1; omega) ne_o_vb186 B190 c191 hcs n1 n2 (Ne.symm ne_a_vb186) (Ne.symm ne_sb_vb186)) E0_188 (allS (List.mem_of_getElem? (i := 2) rfl) all0) (by rw [hml]; rfl) (lenOf pd_16 rfl) rfl (hb hby d_jdk_68_22_30) (Nat.le_of_ble_eq_true rfl) (Nat.le_of_ble_eq_true rfl) (Nat.le_of_ble_eq_true rfl) (Nat.le_of_ble_eq_true rfl) rfl fun v210 T210 h210 W210 K210 Q210 => ?_
  have z_K210 : h185.size ≤ h210.size := K210.1
  obtain ⟨rfl, B211⟩ := Q210
  obtain ⟨E0_212, F1_212, F2_212, F3_212, vs_212, VB_212, lv_212⟩ := id B211
  refine g_aloadN (pc' := 34) W210.here hx (hb hby d_jdk_68_22_33) rfl rfl rfl ?_
  refine g_dup (pc' := 35) W210.here hx (hb hby d_jdk_68_22_34) rfl rfl ?_
  refine w_get (pc' := 38) W210 hx (hw _ (List.mem_of_getElem? w_93)) Via.refl F1_212 (hb hby d_jdk_68_22_35) rfl fun T213 W213 => ?_
  refine g_iloadN (pc' := 39) W213.here hx (hb hby d_jdk_68_22_38) rfl rfl ?_
  refine g_iadd (pc' := 40) W213.here hx (hb hby d_jdk_68_22_39) rfl ?_
  refine g_name (w := .int (21 : Int32)) (congrArg Value.int (by decide)) ?_
  refine w_put (pc' := 43) W213 hx (hw _ (List.mem_of_getElem? w_93)) Via.refl F1_212 E0_212 (Or.inl (hw _ (List.mem_of_getElem? w_94))) (hw _ (List.mem_of_getElem? w_55)) (ty := .int) (by decide) rfl rfl (List.mem_of_getElem? (i := 0) rfl) (hb hby d_jdk_68_22_40) rfl fun T214 h214 W214 K214 R214 F214 A214 => ?_
  have z_K214 : h210.size ≤ h214.size := K214.1
  have c215 := (F2_212.other R214 (Or.inr (slot_ne (Or.inl (hw _ (List.mem_of_getElem? w_71))) (Or.inl (hw _ (List.mem_of_getElem? w_94))) (by decide) (t := .byte) (t' := .int) (by decide) (by decide))))
  have c216 := (F3_212.other R214 (Or.inr (slot_ne (Or.inl (hw _ (List.mem_of_getElem? w_69))) (Or.inl (hw _ (List.mem_of_getElem? w_94))) (by decide) (t := (.array .byte)) (t' := .int) (by decide) (by decide))))
  refine g_aloadN (pc' := 44) W214.here hx (hb hby d_jdk_68_22_43) rfl rfl rfl ?_
  have c218 := (VB_212.keep K214 (ninS (Ne.symm ne_o_vb186) nin0))
  have B217 : SBd Z h214 o vb186 (21 : Int32) 34 := ⟨A214, F214, c215, c216, _, c218, lv_212⟩
  refine w_retAF W214 hx hh hlk hret rfl rfl (hb hby d_jdk_68_22_44) (Nat.le_of_ble_eq_true rfl) (Nat.le_of_ble_eq_true rfl) [vb186] (allS (List.mem_of_getElem? (i := 0) rfl) all0) ?_
  exact ⟨_, rfl, rfl, B217⟩
set_option maxRecDepth 65536 in
set_option maxHeartbeats 40000000 in
theorem c_sbApp_11_16_10 (l : Launch) (Z : State) (a0 : Array Value) (hw : ∀ d ∈ tables_1, d.before a0 Z = true) (hE : EW Z a0 consts_1) (cc : Int32) (fm : Value) (o vb : Nat) (a sb : Nat) (cs : List Int32)  (h0 : Heap) (O : Ext Z.heap h0) (G : SEnv Z cc fm) (hz : Z.heap.size ≤ o) (hzb : Z.heap.size ≤ vb) (hov : o ≠ vb) (B0 : SBd Z h0 o vb (11 : Int32) 16) (S1 : SL Z h0 a sb cs) (hcs : cs.length = 10) (n1 : o ≠ a) (n2 : o ≠ sb) (n3 : vb ≠ a) (n4 : vb ≠ sb)  :
    ConF l Z consts_1 (⟨"java/lang/StringBuilder", "append", "(Ljava/lang/String;)Ljava/lang/StringBuilder;"⟩ : MethodName) jdk_67_method_7_code 2 (Option.some (Jvm.ClassFile.FieldType.object "java/lang/StringBuilder")) ({ frames := 5, cells := 1, slots := 34, locals := 83 } : Room) #[(.ref o), (.ref a)] h0 [o, vb] (fun N v h => ∃ vb2 : Nat, N = [vb2] ∧ v = some (.ref o) ∧ SBd Z h o vb2 (21 : Int32) 34) := by
  refine ConF.of (a0 := a0) #[.val (.ref o), .val (.ref a)] (plainFor_of_name pn_5) hE O (allS ⟨hz, by obtain ⟨E, -⟩ := B0; exact E.lt⟩ (allS ⟨hzb, B0.ltb⟩ all0)) (fun m => by first | (simp [entryFrame, mkF, argsToLocals, Value.category]; done) | rfl) ?_
  intro p e s m below meth c T0 hx hby hml hnm hret hlk hh W0
  obtain ⟨E0, F1, F2, F3, vs, VB, lv⟩ := id B0
  have lt_o : o < h0.size := E0.lt
  have lt_vb : vb < h0.size := VB.lt
  have ES1 := S1.1
  have lt_a : a < h0.size := S1.lt
  have lt_sb : sb < h0.size := S1.ltb
  refine g_aloadN (pc' := 1) W0.here hx (hb hby d_jdk_67_7_0) rfl rfl rfl ?_
  refine g_aloadN (pc' := 2) W0.here hx (hb hby d_jdk_67_7_1) rfl rfl rfl ?_
  have B152 : SBd Z h0 o vb (11 : Int32) 16 := ⟨E0, F1, F2, F3, _, VB, lv⟩
  refine w_superF (pc' := 5) (st := []) (y := (⟨"java/lang/AbstractStringBuilder", "append", "(Ljava/lang/String;)Ljava/lang/AbstractStringBuilder;"⟩ : MethodName)) (a := o) W0 hx [(.ref a)] (by decide) (hw _ (List.mem_of_getElem? w_78)) (hw _ (List.mem_of_getElem? w_79)) (own_same (y := (⟨"java/lang/AbstractStringBuilder", "append", "(Ljava/lang/String;)Ljava/lang/AbstractStringBuilder;"⟩ : MethodName)) (hw _ (List.mem_of_getElem? w_98)) rfl (hw _ (List.mem_of_getElem? w_79)) (by decide)) (hw _ (List.mem_of_getElem? w_80)) (hw _ (List.mem_of_getElem? w_64)) (hw _ (List.mem_of_getElem? w_82)) (by decide) (c_asbApp_11_16_10 l Z a0 hw hE cc fm o vb a sb cs h0 W0.old G (by have := O.1; omega) (by have := O.1; omega) hov B152 S1 hcs n1 n2 n3 n4) (Ins.self E0) (allS (List.mem_of_getElem? (i := 0) rfl) (allS (List.mem_of_getElem? (i := 1) rfl) all0)) (by rw [hml]; rfl) (lenOf pd_17 rfl) rfl (hb hby d_jdk_67_7_2) (Nat.le_of_ble_eq_true rfl) (Nat.le_of_ble_eq_true rfl) (Nat.le_of_ble_eq_true rfl) (Nat.le_of_ble_eq_true rfl) rfl fun N219 v219 T219 h219 W219 K219 G219 Q219 => ?_
  have z_K219 : h0.size ≤ h219.size := K219.1
  obtain ⟨vb220, rfl, rfl, B220⟩ := Q219
  have gz221 := (G219 vb220 (List.mem_cons_self ..)).1
  have lt_vb220 := (G219 vb220 (List.mem_cons_self ..)).2
  have ne_o_vb220 : o ≠ vb220 := by omega
  have ne_vb_vb220 : vb ≠ vb220 := by omega
  have ne_a_vb220 : a ≠ vb220 := by omega
  have ne_sb_vb220 : sb ≠ vb220 := by omega
  have EB222 := B220.1
  refine g_pop (pc' := 6) W219.here hx (hb hby d_jdk_67_7_5) rfl rfl ?_
  refine g_aloadN (pc' := 7) W219.here hx (hb hby d_jdk_67_7_6) rfl rfl rfl ?_
  refine w_retAF W219 hx hh hlk hret rfl rfl (hb hby d_jdk_67_7_7) (Nat.le_of_ble_eq_true rfl) (Nat.le_of_ble_eq_true rfl) [vb220] (allS (List.mem_of_getElem? (i := 0) rfl) all0) ?_
  exact ⟨_, rfl, rfl, B220⟩
set_option maxRecDepth 65536 in
set_option maxHeartbeats 40000000 in
theorem c_stringSize_256 (l : Launch) (Z : State) (a0 : Array Value) (hw : ∀ d ∈ tables_1, d.before a0 Z = true) (hE : EW Z a0 consts_1)  (h0 : Heap) (O : Ext Z.heap h0)  :
    Con l Z consts_1 (⟨"java/lang/Integer", "stringSize", "(I)I"⟩ : MethodName) jdk_33_method_13_code 4 (Option.some Jvm.ClassFile.FieldType.int) ({ frames := 0, cells := 0, slots := 0, locals := 0 } : Room) #[(.int (256 : Int32))] h0 [] (pureQ (some (.int (3 : Int32))) h0) := by
  refine Con.of (a0 := a0) #[.val (.int (256 : Int32)), .unset, .unset, .unset] (plainFor_of_name pn_10) hE O all0 (fun m => by first | (simp [entryFrame, mkF, argsToLocals, Value.category]; done) | rfl) ?_
  intro p e s m below meth c T0 hx hby hml hnm hret hlk hh W0
  refine g_iconst (1 : Int32) (pc' := 1) W0.here hx (hb hby d_jdk_33_13_0) rfl rfl ?_
  refine g_istoreN (pc' := 2) (Ls' := #[.val (.int (256 : Int32)), .val (.int (1 : Int32)), .unset, .unset]) W0.here hx (hb hby d_jdk_33_13_1) rfl rfl ?_
  refine g_iloadN (pc' := 3) W0.here hx (hb hby d_jdk_33_13_2) rfl rfl ?_
  refine g_ifN (pc' := 6) W0.here hx (hb hby d_jdk_33_13_3) rfl (flt (show ¬ ((256 : Int32) < (0 : Int32)) from (by decide))).1 ?_
  refine g_iconst (0 : Int32) (pc' := 7) W0.here hx (hb hby d_jdk_33_13_6) rfl rfl ?_
  refine g_istoreN (pc' := 8) (Ls' := #[.val (.int (256 : Int32)), .val (.int (0 : Int32)), .unset, .unset]) W0.here hx (hb hby d_jdk_33_13_7) rfl rfl ?_
  refine g_iloadN (pc' := 9) W0.here hx (hb hby d_jdk_33_13_8) rfl rfl ?_
  refine g_ineg (pc' := 10) W0.here hx (hb hby d_jdk_33_13_9) rfl ?_
  refine g_name (w := .int (-256 : Int32)) (congrArg Value.int (by decide)) ?_
  refine g_istoreN (pc' := 11) (Ls' := #[.val (.int (-256 : Int32)), .val (.int (0 : Int32)), .unset, .unset]) W0.here hx (hb hby d_jdk_33_13_10) rfl rfl ?_
  refine g_bipush (-10 : Int32) (pc' := 13) W0.here hx (hb hby d_jdk_33_13_11) rfl rfl ?_
  refine g_istoreN (pc' := 14) (Ls' := #[.val (.int (-256 : Int32)), .val (.int (0 : Int32)), .val (.int (-10 : Int32)), .unset]) W0.here hx (hb hby d_jdk_33_13_13) rfl rfl ?_
  refine g_iconst (1 : Int32) (pc' := 15) W0.here hx (hb hby d_jdk_33_13_14) rfl rfl ?_
  refine g_istoreN (pc' := 16) (Ls' := #[.val (.int (-256 : Int32)), .val (.int (0 : Int32)), .val (.int (-10 : Int32)), .val (.int (1 : Int32))]) W0.here hx (hb hby d_jdk_33_13_15) rfl rfl ?_
  refine g_iloadN (pc' := 17) W0.here hx (hb hby d_jdk_33_13_16) rfl rfl ?_
  refine g_bipush (10 : Int32) (pc' := 19) W0.here hx (hb hby d_jdk_33_13_17) rfl rfl ?_
  refine g_icmpN (pc' := 22) W0.here hx (hb hby d_jdk_33_13_19) rfl (tlt (show (1 : Int32) < (10 : Int32) from (by decide))).2.1 ?_
  refine g_iloadN (pc' := 23) W0.here hx (hb hby d_jdk_33_13_22) rfl rfl ?_
  refine g_iloadN (pc' := 24) W0.here hx (hb hby d_jdk_33_13_23) rfl rfl ?_
  refine g_icmpY (pc' := 31) W0.here hx (hb hby d_jdk_33_13_24) rfl (flt (show ¬ ((-10 : Int32) < (-256 : Int32)) from (by decide))).2.2.2 ?_
  refine g_bipush (10 : Int32) (pc' := 33) W0.here hx (hb hby d_jdk_33_13_31) rfl rfl ?_
  refine g_iloadN (pc' := 34) W0.here hx (hb hby d_jdk_33_13_33) rfl rfl ?_
  refine g_imul (pc' := 35) W0.here hx (hb hby d_jdk_33_13_34) rfl ?_
  refine g_name (w := .int (-100 : Int32)) (congrArg Value.int (by decide)) ?_
  refine g_istoreN (pc' := 36) (Ls' := #[.val (.int (-256 : Int32)), .val (.int (0 : Int32)), .val (.int (-100 : Int32)), .val (.int (1 : Int32))]) W0.here hx (hb hby d_jdk_33_13_35) rfl rfl ?_
  refine g_iincV (2 : Int32) (pc' := 39) (Ls' := #[.val (.int (-256 : Int32)), .val (.int (0 : Int32)), .val (.int (-100 : Int32)), .val (.int (2 : Int32))]) W0.here hx (hb hby d_jdk_33_13_36) (by decide) rfl rfl rfl ?_
  refine g_goto (pc' := 16) W0.here hx (hb hby d_jdk_33_13_39) rfl ?_
  refine g_iloadN (pc' := 17) W0.here hx (hb hby d_jdk_33_13_16) rfl rfl ?_
  refine g_bipush (10 : Int32) (pc' := 19) W0.here hx (hb hby d_jdk_33_13_17) rfl rfl ?_
  refine g_icmpN (pc' := 22) W0.here hx (hb hby d_jdk_33_13_19) rfl (tlt (show (2 : Int32) < (10 : Int32) from (by decide))).2.1 ?_
  refine g_iloadN (pc' := 23) W0.here hx (hb hby d_jdk_33_13_22) rfl rfl ?_
  refine g_iloadN (pc' := 24) W0.here hx (hb hby d_jdk_33_13_23) rfl rfl ?_
  refine g_icmpY (pc' := 31) W0.here hx (hb hby d_jdk_33_13_24) rfl (flt (show ¬ ((-100 : Int32) < (-256 : Int32)) from (by decide))).2.2.2 ?_
  refine g_bipush (10 : Int32) (pc' := 33) W0.here hx (hb hby d_jdk_33_13_31) rfl rfl ?_
  refine g_iloadN (pc' := 34) W0.here hx (hb hby d_jdk_33_13_33) rfl rfl ?_
  refine g_imul (pc' := 35) W0.here hx (hb hby d_jdk_33_13_34) rfl ?_
  refine g_name (w := .int (-1000 : Int32)) (congrArg Value.int (by decide)) ?_
  refine g_istoreN (pc' := 36) (Ls' := #[.val (.int (-256 : Int32)), .val (.int (0 : Int32)), .val (.int (-1000 : Int32)), .val (.int (2 : Int32))]) W0.here hx (hb hby d_jdk_33_13_35) rfl rfl ?_
  refine g_iincV (3 : Int32) (pc' := 39) (Ls' := #[.val (.int (-256 : Int32)), .val (.int (0 : Int32)), .val (.int (-1000 : Int32)), .val (.int (3 : Int32))]) W0.here hx (hb hby d_jdk_33_13_36) (by decide) rfl rfl rfl ?_
  refine g_goto (pc' := 16) W0.here hx (hb hby d_jdk_33_13_39) rfl ?_
  refine g_iloadN (pc' := 17) W0.here hx (hb hby d_jdk_33_13_16) rfl rfl ?_
  refine g_bipush (10 : Int32) (pc' := 19) W0.here hx (hb hby d_jdk_33_13_17) rfl rfl ?_
  refine g_icmpN (pc' := 22) W0.here hx (hb hby d_jdk_33_13_19) rfl (tlt (show (3 : Int32) < (10 : Int32) from (by decide))).2.1 ?_
  refine g_iloadN (pc' := 23) W0.here hx (hb hby d_jdk_33_13_22) rfl rfl ?_
  refine g_iloadN (pc' := 24) W0.here hx (hb hby d_jdk_33_13_23) rfl rfl ?_
  refine g_icmpN (pc' := 27) W0.here hx (hb hby d_jdk_33_13_24) rfl (tlt (show (-1000 : Int32) < (-256 : Int32) from (by decide))).2.2.2 ?_
  refine g_iloadN (pc' := 28) W0.here hx (hb hby d_jdk_33_13_27) rfl rfl ?_
  refine g_iloadN (pc' := 29) W0.here hx (hb hby d_jdk_33_13_28) rfl rfl ?_
  refine g_iadd (pc' := 30) W0.here hx (hb hby d_jdk_33_13_29) rfl ?_
  refine g_name (w := .int (3 : Int32)) (congrArg Value.int (by decide)) ?_
  refine w_retI W0 hx hh hlk hret (hb hby d_jdk_33_13_30) (Nat.le_of_ble_eq_true rfl) (Nat.le_of_ble_eq_true rfl) ?_
  exact ⟨rfl, rfl⟩
set_option maxRecDepth 65536 in
set_option maxHeartbeats 40000000 in
theorem c_ensure_21_34_24 (l : Launch) (Z : State) (a0 : Array Value) (hw : ∀ d ∈ tables_1, d.before a0 Z = true) (hE : EW Z a0 consts_1) (cc : Int32) (fm : Value) (o vb : Nat)  (h0 : Heap) (O : Ext Z.heap h0) (G : SEnv Z cc fm) (hz : Z.heap.size ≤ o) (hzb : Z.heap.size ≤ vb) (hov : o ≠ vb) (B0 : SBd Z h0 o vb (21 : Int32) 34)  :
    Con l Z consts_1 (⟨"java/lang/AbstractStringBuilder", "ensureCapacityInternal", "(I)V"⟩ : MethodName) jdk_68_method_9_code 3 (Option.none : Option Jvm.ClassFile.FieldType) ({ frames := 0, cells := 0, slots := 0, locals := 0 } : Room) #[(.ref o), (.int (24 : Int32))] h0 [] (pureQ none h0) := by
  refine Con.of (a0 := a0) #[.val (.ref o), .val (.int (24 : Int32)), .unset] (plainFor_of_name pn_4) hE O all0 (fun m => by first | (simp [entryFrame, mkF, argsToLocals, Value.category]; done) | rfl) ?_
  intro p e s m below meth c T0 hx hby hml hnm hret hlk hh W0
  obtain ⟨E0, F1, F2, F3, vs, VB, lv⟩ := id B0
  have lt_o : o < h0.size := E0.lt
  have lt_vb : vb < h0.size := VB.lt
  refine g_aloadN (pc' := 1) W0.here hx (hb hby d_jdk_68_9_0) rfl rfl rfl ?_
  refine w_get (pc' := 4) W0 hx (hw _ (List.mem_of_getElem? w_68)) Via.refl F3 (hb hby d_jdk_68_9_1) rfl fun T232 W232 => ?_
  refine w_len (pc' := 5) W232 hx VB (hb hby d_jdk_68_9_4) rfl ?_
  refine g_name (w := .int (34 : Int32)) (congrArg Value.int (by rw [lv]; rfl)) ?_
  refine g_aloadN (pc' := 6) W232.here hx (hb hby d_jdk_68_9_5) rfl rfl rfl ?_
  refine w_get (pc' := 9) W232 hx (hw _ (List.mem_of_getElem? w_70)) Via.refl F2 (hb hby d_jdk_68_9_6) rfl fun T233 W233 => ?_
  refine g_ishr (pc' := 10) W233.here hx (hb hby d_jdk_68_9_9) rfl ?_
  refine g_name (w := .int (34 : Int32)) (congrArg Value.int (by decide)) ?_
  refine g_istoreN (pc' := 11) (Ls' := #[.val (.ref o), .val (.int (24 : Int32)), .val (.int (34 : Int32))]) W233.here hx (hb hby d_jdk_68_9_10) rfl rfl ?_
  refine g_iloadN (pc' := 12) W233.here hx (hb hby d_jdk_68_9_11) rfl rfl ?_
  refine g_iloadN (pc' := 13) W233.here hx (hb hby d_jdk_68_9_12) rfl rfl ?_
  refine g_isub (pc' := 14) W233.here hx (hb hby d_jdk_68_9_13) rfl ?_
  refine g_name (w := .int (-10 : Int32)) (congrArg Value.int (by decide)) ?_
  refine g_ifY (pc' := 38) W233.here hx (hb hby d_jdk_68_9_14) rfl (flt (show ¬ ((0 : Int32) < (-10 : Int32)) from (by decide))).2.2.2 ?_
  refine w_retV W233 hx hh hlk hret (hb hby d_jdk_68_9_38) (Nat.le_of_ble_eq_true rfl) (Nat.le_of_ble_eq_true rfl) ?_
  exact ⟨rfl, rfl⟩
set_option maxRecDepth 65536 in
set_option maxHeartbeats 40000000 in
theorem c_asbLat_21_34 (l : Launch) (Z : State) (a0 : Array Value) (hw : ∀ d ∈ tables_1, d.before a0 Z = true) (hE : EW Z a0 consts_1) (cc : Int32) (fm : Value) (o vb : Nat)  (h0 : Heap) (O : Ext Z.heap h0) (G : SEnv Z cc fm) (B0 : SBd Z h0 o vb (21 : Int32) 34) :
    Con l Z consts_1 (⟨"java/lang/AbstractStringBuilder", "isLatin1", "()Z"⟩ : MethodName) jdk_68_method_68_code 1 (Option.some Jvm.ClassFile.FieldType.boolean) ({ frames := 0, cells := 0, slots := 0, locals := 0 } : Room) #[(.ref o)] h0 [] (pureQ (some (.int 1)) h0) := by
  refine Con.of (a0 := a0) #[.val (.ref o)] (plainFor_of_name pn_4) hE O all0 (fun m => by first | (simp [entryFrame, mkF, argsToLocals, Value.category]; done) | rfl) ?_
  intro p e s m below meth c T0 hx hby hml hnm hret hlk hh W0
  obtain ⟨E0, F1, F2, F3, vs, VB, lv⟩ := id B0
  have lt_o : o < h0.size := E0.lt
  have lt_vb : vb < h0.size := VB.lt
  refine w_getS (pc' := 3) W0 hx (hw _ (List.mem_of_getElem? w_67)) Via.refl G.1 (hb hby d_jdk_68_68_0) rfl fun T236 W236 => ?_
  refine g_ifN (pc' := 6) W236.here hx (hb hby d_jdk_68_68_3) rfl (feq (show ¬ (cc = (0 : Int32)) from G.2.1)).1 ?_
  refine g_aloadN (pc' := 7) W236.here hx (hb hby d_jdk_68_68_6) rfl rfl rfl ?_
  refine w_get (pc' := 10) W236 hx (hw _ (List.mem_of_getElem? w_70)) Via.refl F2 (hb hby d_jdk_68_68_7) rfl fun T237 W237 => ?_
  refine g_ifN (pc' := 13) W237.here hx (hb hby d_jdk_68_68_10) rfl (teq (show (0 : Int32) = (0 : Int32) from (by decide))).2 ?_
  refine g_iconst (1 : Int32) (pc' := 14) W237.here hx (hb hby d_jdk_68_68_13) rfl rfl ?_
  refine g_goto (pc' := 18) W237.here hx (hb hby d_jdk_68_68_14) rfl ?_
  refine w_retN (t := .boolean) W237 hx hh hlk hret (by simp) (hb hby d_jdk_68_68_18) (Nat.le_of_ble_eq_true rfl) (Nat.le_of_ble_eq_true rfl) ?_
  exact ⟨rfl, rfl⟩
set_option maxRecDepth 65536 in
set_option maxHeartbeats 40000000 in
theorem c_getChars_256_24_34 (l : Launch) (Z : State) (a0 : Array Value) (hw : ∀ d ∈ tables_1, d.before a0 Z = true) (hE : EW Z a0 consts_1) (dO dT : Nat) (vO vT : List Value) (vb : Nat) (vs : List Value) (h0 : Heap) (O : Ext Z.heap h0) (S_D1 : Sta Z Z.heap "java/lang/Integer" "DigitOnes" "[B" (.ref dO)) (S_D2 : Sta Z Z.heap "java/lang/Integer" "DigitTens" "[B" (.ref dT)) (V_D1 : Ary Z Z.heap dO .byte vO) (V_D2 : Ary Z Z.heap dT .byte vT) (l_D1 : vO.length = 100) (l_D2 : vT.length = 100) (hzb : Z.heap.size ≤ vb) (VB : Ary Z h0 vb .byte vs) (lv : vs.length = 34) :
    Con l Z consts_1 (⟨"java/lang/Integer", "getChars", "(II[B)I"⟩ : MethodName) jdk_33_method_12_code 7 (Option.some Jvm.ClassFile.FieldType.int) ({ frames := 0, cells := 0, slots := 0, locals := 0 } : Room) #[(.int (256 : Int32)), (.int (24 : Int32)), (.ref vb)] h0 [vb] (fun v h => (∃ z : Int32, v = some (.int z)) ∧ ∃ vs : List Value, Ary Z h vb .byte vs ∧ vs.length = 34) := by
  refine Con.of (a0 := a0) #[.val (.int (256 : Int32)), .val (.int (24 : Int32)), .val (.ref vb), .unset, .unset, .unset, .unset] (plainFor_of_name pn_10) hE O (allS ⟨hzb, VB.lt⟩ all0) (fun m => by first | (simp [entryFrame, mkF, argsToLocals, Value.category]; done) | rfl) ?_
  intro p e s m below meth c T0 hx hby hml hnm hret hlk hh W0
  have lt_vb : vb < h0.size := VB.lt
  have EV_D1 := V_D1.ext O
  have lt_dO : dO < h0.size := EV_D1.lt
  have zt_dO : dO < Z.heap.size := V_D1.lt
  have EV_D2 := V_D2.ext O
  have lt_dT : dT < h0.size := EV_D2.lt
  have zt_dT : dT < Z.heap.size := V_D2.lt
  have nO : dO ≠ vb := by omega
  have nT : dT ≠ vb := by omega
  refine g_iloadN (pc' := 1) W0.here hx (hb hby d_jdk_33_12_0) rfl rfl ?_
  refine g_istore (pc' := 3) (Ls' := #[.val (.int (256 : Int32)), .val (.int (24 : Int32)), .val (.ref vb), .unset, .unset, .val (.int (24 : Int32)), .unset]) W0.here hx (hb hby d_jdk_33_12_1) rfl rfl ?_
  refine g_iloadN (pc' := 4) W0.here hx (hb hby d_jdk_33_12_3) rfl rfl ?_
  refine g_ifY (pc' := 11) W0.here hx (hb hby d_jdk_33_12_4) rfl (flt (show ¬ ((256 : Int32) < (0 : Int32)) from (by decide))).2.1 ?_
  refine g_iconst (0 : Int32) (pc' := 12) W0.here hx (hb hby d_jdk_33_12_11) rfl rfl ?_
  refine g_istore (pc' := 14) (Ls' := #[.val (.int (256 : Int32)), .val (.int (24 : Int32)), .val (.ref vb), .unset, .unset, .val (.int (24 : Int32)), .val (.int (0 : Int32))]) W0.here hx (hb hby d_jdk_33_12_12) rfl rfl ?_
  refine g_iload (pc' := 16) W0.here hx (hb hby d_jdk_33_12_14) rfl rfl ?_
  refine g_ifN (pc' := 19) W0.here hx (hb hby d_jdk_33_12_16) rfl (teq (show (0 : Int32) = (0 : Int32) from (by decide))).2 ?_
  refine g_iloadN (pc' := 20) W0.here hx (hb hby d_jdk_33_12_19) rfl rfl ?_
  refine g_ineg (pc' := 21) W0.here hx (hb hby d_jdk_33_12_20) rfl ?_
  refine g_name (w := .int (-256 : Int32)) (congrArg Value.int (by decide)) ?_
  refine g_istoreN (pc' := 22) (Ls' := #[.val (.int (-256 : Int32)), .val (.int (24 : Int32)), .val (.ref vb), .unset, .unset, .val (.int (24 : Int32)), .val (.int (0 : Int32))]) W0.here hx (hb hby d_jdk_33_12_21) rfl rfl ?_
  refine g_iloadN (pc' := 23) W0.here hx (hb hby d_jdk_33_12_22) rfl rfl ?_
  refine g_bipush (-100 : Int32) (pc' := 25) W0.here hx (hb hby d_jdk_33_12_23) rfl rfl ?_
  refine g_icmpN (pc' := 28) W0.here hx (hb hby d_jdk_33_12_25) rfl (flt (show ¬ ((-100 : Int32) < (-256 : Int32)) from (by decide))).2.2.1 ?_
  refine g_iloadN (pc' := 29) W0.here hx (hb hby d_jdk_33_12_28) rfl rfl ?_
  refine g_bipush (100 : Int32) (pc' := 31) W0.here hx (hb hby d_jdk_33_12_29) rfl rfl ?_
  refine g_idiv (pc' := 32) W0.here hx (hb hby d_jdk_33_12_31) (by decide) rfl ?_
  refine g_name (w := .int (-2 : Int32)) (congrArg Value.int (by decide)) ?_
  refine g_istoreN (pc' := 33) (Ls' := #[.val (.int (-256 : Int32)), .val (.int (24 : Int32)), .val (.ref vb), .val (.int (-2 : Int32)), .unset, .val (.int (24 : Int32)), .val (.int (0 : Int32))]) W0.here hx (hb hby d_jdk_33_12_32) rfl rfl ?_
  refine g_iloadN (pc' := 34) W0.here hx (hb hby d_jdk_33_12_33) rfl rfl ?_
  refine g_bipush (100 : Int32) (pc' := 36) W0.here hx (hb hby d_jdk_33_12_34) rfl rfl ?_
  refine g_imul (pc' := 37) W0.here hx (hb hby d_jdk_33_12_36) rfl ?_
  refine g_name (w := .int (-200 : Int32)) (congrArg Value.int (by decide)) ?_
  refine g_iloadN (pc' := 38) W0.here hx (hb hby d_jdk_33_12_37) rfl rfl ?_
  refine g_isub (pc' := 39) W0.here hx (hb hby d_jdk_33_12_38) rfl ?_
  refine g_name (w := .int (56 : Int32)) (congrArg Value.int (by decide)) ?_
  refine g_istore (pc' := 41) (Ls' := #[.val (.int (-256 : Int32)), .val (.int (24 : Int32)), .val (.ref vb), .val (.int (-2 : Int32)), .val (.int (56 : Int32)), .val (.int (24 : Int32)), .val (.int (0 : Int32))]) W0.here hx (hb hby d_jdk_33_12_39) rfl rfl ?_
  refine g_iloadN (pc' := 42) W0.here hx (hb hby d_jdk_33_12_41) rfl rfl ?_
  refine g_istoreN (pc' := 43) (Ls' := #[.val (.int (-2 : Int32)), .val (.int (24 : Int32)), .val (.ref vb), .val (.int (-2 : Int32)), .val (.int (56 : Int32)), .val (.int (24 : Int32)), .val (.int (0 : Int32))]) W0.here hx (hb hby d_jdk_33_12_42) rfl rfl ?_
  refine g_aloadN (pc' := 44) W0.here hx (hb hby d_jdk_33_12_43) rfl rfl rfl ?_
  refine g_iincV (23 : Int32) (pc' := 47) (Ls' := #[.val (.int (-2 : Int32)), .val (.int (24 : Int32)), .val (.ref vb), .val (.int (-2 : Int32)), .val (.int (56 : Int32)), .val (.int (23 : Int32)), .val (.int (0 : Int32))]) W0.here hx (hb hby d_jdk_33_12_44) (by decide) rfl rfl rfl ?_
  refine g_iload (pc' := 49) W0.here hx (hb hby d_jdk_33_12_47) rfl rfl ?_
  refine w_getS (pc' := 52) W0 hx (hw _ (List.mem_of_getElem? w_165)) Via.refl S_D1 (hb hby d_jdk_33_12_49) rfl fun T240 W240 => ?_
  refine g_iload (pc' := 54) W240.here hx (hb hby d_jdk_33_12_52) rfl rfl ?_
  obtain ⟨x241, hx241⟩ := own_byteAt EV_D1 (i := 56) l_D1 (by decide)
  refine w_baload (pc' := 55) (v := (.int x241)) W240 hx EV_D1 (by decide) hx241 (hb hby d_jdk_33_12_54) rfl ?_
  refine w_bastore (pc' := 56) (x' := x241.toInt8.toInt32) W240 hx VB (by decide) (by rw [lv]; exact Nat.lt_of_lt_of_le (Nat.lt_succ_self _) (Nat.le_of_ble_eq_true rfl)) (List.mem_of_getElem? (i := 0) rfl) rfl (hb hby d_jdk_33_12_55) rfl fun T242 h242 W242 K242 V242 => ?_
  have z_K242 : h0.size ≤ h242.size := K242.1
  have V242 : Ary Z h242 vb .byte (vs.set (23 : Int32).toNatClampNeg (.int x241.toInt8.toInt32)) := V242
  obtain ⟨vs243, VN243, lv243⟩ : ∃ vs : List Value, Ary Z h242 vb .byte vs ∧ vs.length = 34 := ⟨_, V242, by rw [List.length_set]; exact lv⟩
  refine g_aloadN (pc' := 57) W242.here hx (hb hby d_jdk_33_12_56) rfl rfl rfl ?_
  refine g_iincV (22 : Int32) (pc' := 60) (Ls' := #[.val (.int (-2 : Int32)), .val (.int (24 : Int32)), .val (.ref vb), .val (.int (-2 : Int32)), .val (.int (56 : Int32)), .val (.int (22 : Int32)), .val (.int (0 : Int32))]) W242.here hx (hb hby d_jdk_33_12_57) (by decide) rfl rfl rfl ?_
  refine g_iload (pc' := 62) W242.here hx (hb hby d_jdk_33_12_60) rfl rfl ?_
  refine w_getS (pc' := 65) W242 hx (hw _ (List.mem_of_getElem? w_166)) Via.refl S_D2 (hb hby d_jdk_33_12_62) rfl fun T244 W244 => ?_
  refine g_iload (pc' := 67) W244.here hx (hb hby d_jdk_33_12_65) rfl rfl ?_
  have c245 := (EV_D2.keep K242 (ninS nT nin0))
  obtain ⟨x246, hx246⟩ := own_byteAt c245 (i := 56) l_D2 (by decide)
  refine w_baload (pc' := 68) (v := (.int x246)) W244 hx c245 (by decide) hx246 (hb hby d_jdk_33_12_67) rfl ?_
  refine w_bastore (pc' := 69) (x' := x246.toInt8.toInt32) W244 hx VN243 (by decide) (by rw [lv243]; exact Nat.lt_of_lt_of_le (Nat.lt_succ_self _) (Nat.le_of_ble_eq_true rfl)) (List.mem_of_getElem? (i := 0) rfl) rfl (hb hby d_jdk_33_12_68) rfl fun T247 h247 W247 K247 V247 => ?_
  have z_K247 : h242.size ≤ h247.size := K247.1
  have V247 : Ary Z h247 vb .byte (vs243.set (22 : Int32).toNatClampNeg (.int x246.toInt8.toInt32)) := V247
  obtain ⟨vs248, VN248, lv248⟩ : ∃ vs : List Value, Ary Z h247 vb .byte vs ∧ vs.length = 34 := ⟨_, V247, by rw [List.length_set]; exact lv243⟩
  refine g_goto (pc' := 22) W247.here hx (hb hby d_jdk_33_12_69) rfl ?_
  refine g_iloadN (pc' := 23) W247.here hx (hb hby d_jdk_33_12_22) rfl rfl ?_
  refine g_bipush (-100 : Int32) (pc' := 25) W247.here hx (hb hby d_jdk_33_12_23) rfl rfl ?_
  refine g_icmpY (pc' := 72) W247.here hx (hb hby d_jdk_33_12_25) rfl (tlt (show (-100 : Int32) < (-2 : Int32) from (by decide))).2.2.1 ?_
  refine g_aloadN (pc' := 73) W247.here hx (hb hby d_jdk_33_12_72) rfl rfl rfl ?_
  refine g_iincV (21 : Int32) (pc' := 76) (Ls' := #[.val (.int (-2 : Int32)), .val (.int (24 : Int32)), .val (.ref vb), .val (.int (-2 : Int32)), .val (.int (56 : Int32)), .val (.int (21 : Int32)), .val (.int (0 : Int32))]) W247.here hx (hb hby d_jdk_33_12_73) (by decide) rfl rfl rfl ?_
  refine g_iload (pc' := 78) W247.here hx (hb hby d_jdk_33_12_76) rfl rfl ?_
  refine w_getS (pc' := 81) W247 hx (hw _ (List.mem_of_getElem? w_165)) Via.refl S_D1 (hb hby d_jdk_33_12_78) rfl fun T249 W249 => ?_
  refine g_iloadN (pc' := 82) W249.here hx (hb hby d_jdk_33_12_81) rfl rfl ?_
  refine g_ineg (pc' := 83) W249.here hx (hb hby d_jdk_33_12_82) rfl ?_
  refine g_name (w := .int (2 : Int32)) (congrArg Value.int (by decide)) ?_
  have c250 := ((EV_D1.keep K242 (ninS nO nin0)).keep K247 (ninS nO nin0))
  obtain ⟨x251, hx251⟩ := own_byteAt c250 (i := 2) l_D1 (by decide)
  refine w_baload (pc' := 84) (v := (.int x251)) W249 hx c250 (by decide) hx251 (hb hby d_jdk_33_12_83) rfl ?_
  refine w_bastore (pc' := 85) (x' := x251.toInt8.toInt32) W249 hx VN248 (by decide) (by rw [lv248]; exact Nat.lt_of_lt_of_le (Nat.lt_succ_self _) (Nat.le_of_ble_eq_true rfl)) (List.mem_of_getElem? (i := 0) rfl) rfl (hb hby d_jdk_33_12_84) rfl fun T252 h252 W252 K252 V252 => ?_
  have z_K252 : h247.size ≤ h252.size := K252.1
  have V252 : Ary Z h252 vb .byte (vs248.set (21 : Int32).toNatClampNeg (.int x251.toInt8.toInt32)) := V252
  obtain ⟨vs253, VN253, lv253⟩ : ∃ vs : List Value, Ary Z h252 vb .byte vs ∧ vs.length = 34 := ⟨_, V252, by rw [List.length_set]; exact lv248⟩
  refine g_iloadN (pc' := 86) W252.here hx (hb hby d_jdk_33_12_85) rfl rfl ?_
  refine g_bipush (-9 : Int32) (pc' := 88) W252.here hx (hb hby d_jdk_33_12_86) rfl rfl ?_
  refine g_icmpY (pc' := 104) W252.here hx (hb hby d_jdk_33_12_88) rfl (flt (show ¬ ((-2 : Int32) < (-9 : Int32)) from (by decide))).2.1 ?_
  refine g_iload (pc' := 106) W252.here hx (hb hby d_jdk_33_12_104) rfl rfl ?_
  refine g_ifY (pc' := 118) W252.here hx (hb hby d_jdk_33_12_106) rfl (teq (show (0 : Int32) = (0 : Int32) from (by decide))).1 ?_
  refine g_iload (pc' := 120) W252.here hx (hb hby d_jdk_33_12_118) rfl rfl ?_
  refine w_retI W252 hx hh hlk hret (hb hby d_jdk_33_12_120) (Nat.le_of_ble_eq_true rfl) (Nat.le_of_ble_eq_true rfl) ?_
  exact ⟨⟨_, rfl⟩, _, VN253, lv253⟩
set_option maxRecDepth 65536 in
set_option maxHeartbeats 40000000 in
theorem c_asbAppI_21_34_256 (l : Launch) (Z : State) (a0 : Array Value) (hw : ∀ d ∈ tables_1, d.before a0 Z = true) (hE : EW Z a0 consts_1) (cc : Int32) (fm : Value) (o vb : Nat) (dO dT : Nat) (vO vT : List Value)  (h0 : Heap) (O : Ext Z.heap h0) (G : SEnv Z cc fm) (hz : Z.heap.size ≤ o) (hzb : Z.heap.size ≤ vb) (hov : o ≠ vb) (B0 : SBd Z h0 o vb (21 : Int32) 34) (S_D1 : Sta Z Z.heap "java/lang/Integer" "DigitOnes" "[B" (.ref dO)) (S_D2 : Sta Z Z.heap "java/lang/Integer" "DigitTens" "[B" (.ref dT)) (V_D1 : Ary Z Z.heap dO .byte vO) (V_D2 : Ary Z Z.heap dT .byte vT) (l_D1 : vO.length = 100) (l_D2 : vT.length = 100)  :
    ConF l Z consts_1 (⟨"java/lang/AbstractStringBuilder", "append", "(I)Ljava/lang/AbstractStringBuilder;"⟩ : MethodName) jdk_68_method_32_code 4 (Option.some (Jvm.ClassFile.FieldType.object "java/lang/AbstractStringBuilder")) ({ frames := 1, cells := 0, slots := 0, locals := 18 } : Room) #[(.ref o), (.int (256 : Int32))] h0 [o, vb] (fun N v h => N = [] ∧ v = some (.ref o) ∧ SBd Z h o vb (24 : Int32) 34) := by
  refine ConF.of (a0 := a0) #[.val (.ref o), .val (.int (256 : Int32)), .unset, .unset] (plainFor_of_name pn_4) hE O (allS ⟨hz, by obtain ⟨E, -⟩ := B0; exact E.lt⟩ (allS ⟨hzb, B0.ltb⟩ all0)) (fun m => by first | (simp [entryFrame, mkF, argsToLocals, Value.category]; done) | rfl) ?_
  intro p e s m below meth c T0 hx hby hml hnm hret hlk hh W0
  obtain ⟨E0, F1, F2, F3, vs, VB, lv⟩ := id B0
  have lt_o : o < h0.size := E0.lt
  have lt_vb : vb < h0.size := VB.lt
  refine g_aloadN (pc' := 1) W0.here hx (hb hby d_jdk_68_32_0) rfl rfl rfl ?_
  refine w_get (pc' := 4) W0 hx (hw _ (List.mem_of_getElem? w_93)) Via.refl F1 (hb hby d_jdk_68_32_1) rfl fun T229 W229 => ?_
  refine g_istoreN (pc' := 5) (Ls' := #[.val (.ref o), .val (.int (256 : Int32)), .val (.int (21 : Int32)), .unset]) W229.here hx (hb hby d_jdk_68_32_4) rfl rfl ?_
  refine g_iloadN (pc' := 6) W229.here hx (hb hby d_jdk_68_32_5) rfl rfl ?_
  refine g_iloadN (pc' := 7) W229.here hx (hb hby d_jdk_68_32_6) rfl rfl ?_
  refine w_callSp (pc' := 10) (st := [(.int (21 : Int32))]) (y := (⟨"java/lang/Integer", "stringSize", "(I)I"⟩ : MethodName)) W229 hx [(.int (256 : Int32))] (hw _ (List.mem_of_getElem? w_153)) (hw _ (List.mem_of_getElem? w_154)) (hw _ (List.mem_of_getElem? w_155)) (hw _ (List.mem_of_getElem? w_156)) (by decide) (c_stringSize_256 l Z a0 hw hE h0 W229.old) (by rw [hml]; rfl) (lenOf pd_21 rfl) rfl (hb hby d_jdk_68_32_7) (Nat.le_of_ble_eq_true rfl) (Nat.le_of_ble_eq_true rfl) rfl rfl (Nat.le_of_ble_eq_true rfl) (Nat.le_of_ble_eq_true rfl) rfl fun T230 W230 => ?_
  refine g_iadd (pc' := 11) W230.here hx (hb hby d_jdk_68_32_10) rfl ?_
  refine g_name (w := .int (24 : Int32)) (congrArg Value.int (by decide)) ?_
  refine g_istoreN (pc' := 12) (Ls' := #[.val (.ref o), .val (.int (256 : Int32)), .val (.int (21 : Int32)), .val (.int (24 : Int32))]) W230.here hx (hb hby d_jdk_68_32_11) rfl rfl ?_
  refine g_aloadN (pc' := 13) W230.here hx (hb hby d_jdk_68_32_12) rfl rfl rfl ?_
  refine g_iloadN (pc' := 14) W230.here hx (hb hby d_jdk_68_32_13) rfl rfl ?_
  have B231 : SBd Z h0 o vb (21 : Int32) 34 := ⟨E0, F1, F2, F3, _, VB, lv⟩
  refine w_privatep (pc' := 17) (st := []) (y := (⟨"java/lang/AbstractStringBuilder", "ensureCapacityInternal", "(I)V"⟩ : MethodName)) (a := o) W230 hx [(.int (24 : Int32))] (hw _ (List.mem_of_getElem? w_95)) (hw _ (List.mem_of_getElem? w_97)) (hw _ (List.mem_of_getElem? w_98)) (hw _ (List.mem_of_getElem? w_96)) (hw _ (List.mem_of_getElem? w_64)) (hw _ (List.mem_of_getElem? w_99)) (by decide) (c_ensure_21_34_24 l Z a0 hw hE cc fm o vb h0 W230.old G (by have := O.1; omega) (by have := O.1; omega) hov B231) E0 (by rw [hml]; rfl) (lenOf pd_9 rfl) rfl (hb hby d_jdk_68_32_14) (Nat.le_of_ble_eq_true rfl) (Nat.le_of_ble_eq_true rfl) rfl rfl (Nat.le_of_ble_eq_true rfl) (Nat.le_of_ble_eq_true rfl) rfl fun T234 W234 => ?_
  refine g_aloadN (pc' := 18) W234.here hx (hb hby d_jdk_68_32_17) rfl rfl rfl ?_
  have B235 : SBd Z h0 o vb (21 : Int32) 34 := ⟨E0, F1, F2, F3, _, VB, lv⟩
  refine w_virtualp (pc' := 21) (st := []) (y := (⟨"java/lang/AbstractStringBuilder", "isLatin1", "()Z"⟩ : MethodName)) (z := (⟨"java/lang/AbstractStringBuilder", "isLatin1", "()Z"⟩ : MethodName)) (a := o) W234 hx [] (hw _ (List.mem_of_getElem? w_157)) (hw _ (List.mem_of_getElem? w_158)) (nfS (z := (⟨"java/lang/AbstractStringBuilder", "isLatin1", "()Z"⟩ : MethodName)) (hw _ (List.mem_of_getElem? w_160))) (hw _ (List.mem_of_getElem? w_160)) (hw _ (List.mem_of_getElem? w_159)) (hw _ (List.mem_of_getElem? w_64)) (hw _ (List.mem_of_getElem? w_161)) (by decide) (c_asbLat_21_34 l Z a0 hw hE cc fm o vb h0 W234.old G B235) E0 (by rw [hml]; rfl) (lenOf pd_7 rfl) rfl (hb hby d_jdk_68_32_18) (Nat.le_of_ble_eq_true rfl) (Nat.le_of_ble_eq_true rfl) rfl rfl (Nat.le_of_ble_eq_true rfl) (Nat.le_of_ble_eq_true rfl) rfl fun T238 W238 => ?_
  refine g_ifN (pc' := 24) W238.here hx (hb hby d_jdk_68_32_21) rfl (feq (show ¬ ((1 : Int32) = (0 : Int32)) from (by decide))).1 ?_
  refine g_iloadN (pc' := 25) W238.here hx (hb hby d_jdk_68_32_24) rfl rfl ?_
  refine g_iloadN (pc' := 26) W238.here hx (hb hby d_jdk_68_32_25) rfl rfl ?_
  refine g_aloadN (pc' := 27) W238.here hx (hb hby d_jdk_68_32_26) rfl rfl rfl ?_
  refine w_get (pc' := 30) W238 hx (hw _ (List.mem_of_getElem? w_68)) Via.refl F3 (hb hby d_jdk_68_32_27) rfl fun T239 W239 => ?_
  refine w_callS (pc' := 33) (st := []) (y := (⟨"java/lang/Integer", "getChars", "(II[B)I"⟩ : MethodName)) W239 hx [(.int (256 : Int32)), (.int (24 : Int32)), (.ref vb)] (hw _ (List.mem_of_getElem? w_162)) (hw _ (List.mem_of_getElem? w_163)) (hw _ (List.mem_of_getElem? w_155)) (hw _ (List.mem_of_getElem? w_164)) (by decide) (c_getChars_256_24_34 l Z a0 hw hE dO dT vO vT vb vs h0 W239.old S_D1 S_D2 V_D1 V_D2 l_D1 l_D2 (by have := O.1; omega) VB lv) (allS (List.mem_of_getElem? (i := 1) rfl) all0) (by rw [hml]; rfl) (lenOf pd_23 rfl) rfl (hb hby d_jdk_68_32_30) (Nat.le_of_ble_eq_true rfl) (Nat.le_of_ble_eq_true rfl) (Nat.le_of_ble_eq_true rfl) (Nat.le_of_ble_eq_true rfl) rfl fun v254 T254 h254 W254 K254 Q254 => ?_
  have z_K254 : h0.size ≤ h254.size := K254.1
  obtain ⟨⟨z255, rfl⟩, vs255, VN255, lv255⟩ := Q254
  refine g_pop (pc' := 34) W254.here hx (hb hby d_jdk_68_32_33) rfl rfl ?_
  refine g_goto (pc' := 48) W254.here hx (hb hby d_jdk_68_32_34) rfl ?_
  refine g_aloadN (pc' := 49) W254.here hx (hb hby d_jdk_68_32_48) rfl rfl rfl ?_
  refine g_iloadN (pc' := 50) W254.here hx (hb hby d_jdk_68_32_49) rfl rfl ?_
  have c256 := (F1.keep K254 (ninS hov nin0))
  have c257 := (E0.keep K254)
  refine w_put (pc' := 53) W254 hx (hw _ (List.mem_of_getElem? w_93)) Via.refl c256 c257 (Or.inl (hw _ (List.mem_of_getElem? w_94))) (hw _ (List.mem_of_getElem? w_55)) (ty := .int) (by decide) rfl rfl (List.mem_of_getElem? (i := 0) rfl) (hb hby d_jdk_68_32_50) rfl fun T258 h258 W258 K258 R258 F258 A258 => ?_
  have c259 := (F2.keep K254 (ninS hov nin0))
  have c260 := (F3.keep K254 (ninS hov nin0))
  have z_K258 : h254.size ≤ h258.size := K258.1
  have c261 := (c259.other R258 (Or.inr (slot_ne (Or.inl (hw _ (List.mem_of_getElem? w_71))) (Or.inl (hw _ (List.mem_of_getElem? w_94))) (by decide) (t := .byte) (t' := .int) (by decide) (by decide))))
  have c262 := (c260.other R258 (Or.inr (slot_ne (Or.inl (hw _ (List.mem_of_getElem? w_69))) (Or.inl (hw _ (List.mem_of_getElem? w_94))) (by decide) (t := (.array .byte)) (t' := .int) (by decide) (by decide))))
  refine g_aloadN (pc' := 54) W258.here hx (hb hby d_jdk_68_32_53) rfl rfl rfl ?_
  have c264 := (VN255.keep K258 (ninS (Ne.symm hov) nin0))
  have B263 : SBd Z h258 o vb (24 : Int32) 34 := ⟨A258, F258, c261, c262, _, c264, lv255⟩
  refine w_retAF W258 hx hh hlk hret rfl rfl (hb hby d_jdk_68_32_54) (Nat.le_of_ble_eq_true rfl) (Nat.le_of_ble_eq_true rfl) [] all0 ?_
  exact ⟨rfl, rfl, B263⟩
set_option maxRecDepth 65536 in
set_option maxHeartbeats 40000000 in
theorem c_sbAppI_21_34_256 (l : Launch) (Z : State) (a0 : Array Value) (hw : ∀ d ∈ tables_1, d.before a0 Z = true) (hE : EW Z a0 consts_1) (cc : Int32) (fm : Value) (o vb : Nat) (dO dT : Nat) (vO vT : List Value)  (h0 : Heap) (O : Ext Z.heap h0) (G : SEnv Z cc fm) (hz : Z.heap.size ≤ o) (hzb : Z.heap.size ≤ vb) (hov : o ≠ vb) (B0 : SBd Z h0 o vb (21 : Int32) 34) (S_D1 : Sta Z Z.heap "java/lang/Integer" "DigitOnes" "[B" (.ref dO)) (S_D2 : Sta Z Z.heap "java/lang/Integer" "DigitTens" "[B" (.ref dT)) (V_D1 : Ary Z Z.heap dO .byte vO) (V_D2 : Ary Z Z.heap dT .byte vT) (l_D1 : vO.length = 100) (l_D2 : vT.length = 100)  :
    ConF l Z consts_1 (⟨"java/lang/StringBuilder", "append", "(I)Ljava/lang/StringBuilder;"⟩ : MethodName) jdk_67_method_15_code 2 (Option.some (Jvm.ClassFile.FieldType.object "java/lang/StringBuilder")) ({ frames := 2, cells := 0, slots := 0, locals := 33 } : Room) #[(.ref o), (.int (256 : Int32))] h0 [o, vb] (fun N v h => N = [] ∧ v = some (.ref o) ∧ SBd Z h o vb (24 : Int32) 34) := by
  refine ConF.of (a0 := a0) #[.val (.ref o), .val (.int (256 : Int32))] (plainFor_of_name pn_5) hE O (allS ⟨hz, by obtain ⟨E, -⟩ := B0; exact E.lt⟩ (allS ⟨hzb, B0.ltb⟩ all0)) (fun m => by first | (simp [entryFrame, mkF, argsToLocals, Value.category]; done) | rfl) ?_
  intro p e s m below meth c T0 hx hby hml hnm hret hlk hh W0
  obtain ⟨E0, F1, F2, F3, vs, VB, lv⟩ := id B0
  have lt_o : o < h0.size := E0.lt
  have lt_vb : vb < h0.size := VB.lt
  refine g_aloadN (pc' := 1) W0.here hx (hb hby d_jdk_67_15_0) rfl rfl rfl ?_
  refine g_iloadN (pc' := 2) W0.here hx (hb hby d_jdk_67_15_1) rfl rfl ?_
  have B228 : SBd Z h0 o vb (21 : Int32) 34 := ⟨E0, F1, F2, F3, _, VB, lv⟩
  refine w_superF (pc' := 5) (st := []) (y := (⟨"java/lang/AbstractStringBuilder", "append", "(I)Ljava/lang/AbstractStringBuilder;"⟩ : MethodName)) (a := o) W0 hx [(.int (256 : Int32))] (by decide) (hw _ (List.mem_of_getElem? w_149)) (hw _ (List.mem_of_getElem? w_150)) (own_same (y := (⟨"java/lang/AbstractStringBuilder", "append", "(I)Ljava/lang/AbstractStringBuilder;"⟩ : MethodName)) (hw _ (List.mem_of_getElem? w_98)) rfl (hw _ (List.mem_of_getElem? w_150)) (by decide)) (hw _ (List.mem_of_getElem? w_80)) (hw _ (List.mem_of_getElem? w_64)) (hw _ (List.mem_of_getElem? w_152)) (by decide) (c_asbAppI_21_34_256 l Z a0 hw hE cc fm o vb dO dT vO vT h0 W0.old G (by have := O.1; omega) (by have := O.1; omega) hov B228 S_D1 S_D2 V_D1 V_D2 l_D1 l_D2) (Ins.self E0) (allS (List.mem_of_getElem? (i := 0) rfl) (allS (List.mem_of_getElem? (i := 1) rfl) all0)) (by rw [hml]; rfl) (lenOf pd_24 rfl) rfl (hb hby d_jdk_67_15_2) (Nat.le_of_ble_eq_true rfl) (Nat.le_of_ble_eq_true rfl) (Nat.le_of_ble_eq_true rfl) (Nat.le_of_ble_eq_true rfl) rfl fun N265 v265 T265 h265 W265 K265 G265 Q265 => ?_
  have z_K265 : h0.size ≤ h265.size := K265.1
  obtain ⟨rfl, rfl, B266⟩ := Q265
  have EB267 := B266.1
  refine g_pop (pc' := 6) W265.here hx (hb hby d_jdk_67_15_5) rfl rfl ?_
  refine g_aloadN (pc' := 7) W265.here hx (hb hby d_jdk_67_15_6) rfl rfl rfl ?_
  refine w_retAF W265 hx hh hlk hret rfl rfl (hb hby d_jdk_67_15_7) (Nat.le_of_ble_eq_true rfl) (Nat.le_of_ble_eq_true rfl) [] all0 ?_
  exact ⟨rfl, rfl, B266⟩
set_option maxRecDepth 65536 in
set_option maxHeartbeats 40000000 in
theorem c_max_1_36 (l : Launch) (Z : State) (a0 : Array Value) (hw : ∀ d ∈ tables_1, d.before a0 Z = true) (hE : EW Z a0 consts_1)  (h0 : Heap) (O : Ext Z.heap h0)  :
    Con l Z consts_1 (⟨"java/lang/Math", "max", "(II)I"⟩ : MethodName) jdk_29_method_65_code 2 (Option.some Jvm.ClassFile.FieldType.int) ({ frames := 0, cells := 0, slots := 0, locals := 0 } : Room) #[(.int (1 : Int32)), (.int (36 : Int32))] h0 [] (pureQ (some (.int (36 : Int32))) h0) := by
  refine Con.of (a0 := a0) #[.val (.int (1 : Int32)), .val (.int (36 : Int32))] (Jvm.Free.JP.mathPlain rfl (by decide +kernel)) hE O all0 (fun m => by first | (simp [entryFrame, mkF, argsToLocals, Value.category]; done) | rfl) ?_
  intro p e s m below meth c T0 hx hby hml hnm hret hlk hh W0
  refine g_iloadN (pc' := 1) W0.here hx (hb hby d_jdk_29_65_0) rfl rfl ?_
  refine g_iloadN (pc' := 2) W0.here hx (hb hby d_jdk_29_65_1) rfl rfl ?_
  refine g_icmpY (pc' := 9) W0.here hx (hb hby d_jdk_29_65_2) rfl (tlt (show (1 : Int32) < (36 : Int32) from (by decide))).1 ?_
  refine g_iloadN (pc' := 10) W0.here hx (hb hby d_jdk_29_65_9) rfl rfl ?_
  refine w_retI W0 hx hh hlk hret (hb hby d_jdk_29_65_10) (Nat.le_of_ble_eq_true rfl) (Nat.le_of_ble_eq_true rfl) ?_
  exact ⟨rfl, rfl⟩
set_option maxRecDepth 65536 in
set_option maxHeartbeats 40000000 in
theorem c_newLength_34_1_36 (l : Launch) (Z : State) (a0 : Array Value) (hw : ∀ d ∈ tables_1, d.before a0 Z = true) (hE : EW Z a0 consts_1)  (h0 : Heap) (O : Ext Z.heap h0)  :
    Con l Z consts_1 (⟨"jdk/internal/util/ArraysSupport", "newLength", "(III)I"⟩ : MethodName) jdk_48_method_27_code 4 (Option.some Jvm.ClassFile.FieldType.int) ({ frames := 1, cells := 0, slots := 0, locals := 14 } : Room) #[(.int (34 : Int32)), (.int (1 : Int32)), (.int (36 : Int32))] h0 [] (pureQ (some (.int (70 : Int32))) h0) := by
  refine Con.of (a0 := a0) #[.val (.int (34 : Int32)), .val (.int (1 : Int32)), .val (.int (36 : Int32)), .unset] (plainFor_of_name pn_8) hE O all0 (fun m => by first | (simp [entryFrame, mkF, argsToLocals, Value.category]; done) | rfl) ?_
  intro p e s m below meth c T0 hx hby hml hnm hret hlk hh W0
  refine g_iloadN (pc' := 1) W0.here hx (hb hby d_jdk_48_27_0) rfl rfl ?_
  refine g_iloadN (pc' := 2) W0.here hx (hb hby d_jdk_48_27_1) rfl rfl ?_
  refine g_iloadN (pc' := 3) W0.here hx (hb hby d_jdk_48_27_2) rfl rfl ?_
  refine w_callSp (pc' := 6) (st := [(.int (34 : Int32))]) (y := (⟨"java/lang/Math", "max", "(II)I"⟩ : MethodName)) W0 hx [(.int (1 : Int32)), (.int (36 : Int32))] (hw _ (List.mem_of_getElem? w_130)) (hw _ (List.mem_of_getElem? w_131)) (hw _ (List.mem_of_getElem? w_132)) (hw _ (List.mem_of_getElem? w_133)) (by decide) (c_max_1_36 l Z a0 hw hE h0 W0.old) (by rw [hml]; rfl) (lenOf pd_19 rfl) rfl (hb hby d_jdk_48_27_3) (Nat.le_of_ble_eq_true rfl) (Nat.le_of_ble_eq_true rfl) rfl rfl (Nat.le_of_ble_eq_true rfl) (Nat.le_of_ble_eq_true rfl) rfl fun T284 W284 => ?_
  refine g_iadd (pc' := 7) W284.here hx (hb hby d_jdk_48_27_6) rfl ?_
  refine g_name (w := .int (70 : Int32)) (congrArg Value.int (by decide)) ?_
  refine g_istoreN (pc' := 8) (Ls' := #[.val (.int (34 : Int32)), .val (.int (1 : Int32)), .val (.int (36 : Int32)), .val (.int (70 : Int32))]) W284.here hx (hb hby d_jdk_48_27_7) rfl rfl ?_
  refine g_iconst (0 : Int32) (pc' := 9) W284.here hx (hb hby d_jdk_48_27_8) rfl rfl ?_
  refine g_iloadN (pc' := 10) W284.here hx (hb hby d_jdk_48_27_9) rfl rfl ?_
  refine g_icmpN (pc' := 13) W284.here hx (hb hby d_jdk_48_27_10) rfl (tlt (show (0 : Int32) < (70 : Int32) from (by decide))).2.1 ?_
  refine g_iloadN (pc' := 14) W284.here hx (hb hby d_jdk_48_27_13) rfl rfl ?_
  refine w_ldcI (pc' := 16) W284 hx (hw _ (List.mem_of_getElem? w_134)) (hb hby d_jdk_48_27_14) rfl ?_
  refine g_icmpN (pc' := 19) W284.here hx (hb hby d_jdk_48_27_16) rfl (flt (show ¬ ((2147483639 : Int32) < (70 : Int32)) from (by decide))).2.2.1 ?_
  refine g_iloadN (pc' := 20) W284.here hx (hb hby d_jdk_48_27_19) rfl rfl ?_
  refine w_retI W284 hx hh hlk hret (hb hby d_jdk_48_27_20) (Nat.le_of_ble_eq_true rfl) (Nat.le_of_ble_eq_true rfl) ?_
  exact ⟨rfl, rfl⟩
set_option maxRecDepth 65536 in
set_option maxHeartbeats 40000000 in
theorem c_newCap_24_34_35 (l : Launch) (Z : State) (a0 : Array Value) (hw : ∀ d ∈ tables_1, d.before a0 Z = true) (hE : EW Z a0 consts_1) (cc : Int32) (fm : Value) (o vb : Nat)  (h0 : Heap) (O : Ext Z.heap h0) (G : SEnv Z cc fm) (B0 : SBd Z h0 o vb (24 : Int32) 34) :
    Con l Z consts_1 (⟨"java/lang/AbstractStringBuilder", "newCapacity", "(I)I"⟩ : MethodName) jdk_68_method_10_code 6 (Option.some Jvm.ClassFile.FieldType.int) ({ frames := 2, cells := 0, slots := 0, locals := 29 } : Room) #[(.ref o), (.int (35 : Int32))] h0 [] (pureQ (some (.int (70 : Int32))) h0) := by
  refine Con.of (a0 := a0) #[.val (.ref o), .val (.int (35 : Int32)), .unset, .unset, .unset, .unset] (plainFor_of_name pn_4) hE O all0 (fun m => by first | (simp [entryFrame, mkF, argsToLocals, Value.category]; done) | rfl) ?_
  intro p e s m below meth c T0 hx hby hml hnm hret hlk hh W0
  obtain ⟨E0, F1, F2, F3, vs, VB, lv⟩ := id B0
  have lt_o : o < h0.size := E0.lt
  have lt_vb : vb < h0.size := VB.lt
  refine g_aloadN (pc' := 1) W0.here hx (hb hby d_jdk_68_10_0) rfl rfl rfl ?_
  refine w_get (pc' := 4) W0 hx (hw _ (List.mem_of_getElem? w_68)) Via.refl F3 (hb hby d_jdk_68_10_1) rfl fun T281 W281 => ?_
  refine w_len (pc' := 5) W281 hx VB (hb hby d_jdk_68_10_4) rfl ?_
  refine g_name (w := .int (34 : Int32)) (congrArg Value.int (by rw [lv]; rfl)) ?_
  refine g_istoreN (pc' := 6) (Ls' := #[.val (.ref o), .val (.int (35 : Int32)), .val (.int (34 : Int32)), .unset, .unset, .unset]) W281.here hx (hb hby d_jdk_68_10_5) rfl rfl ?_
  refine g_iloadN (pc' := 7) W281.here hx (hb hby d_jdk_68_10_6) rfl rfl ?_
  refine g_aloadN (pc' := 8) W281.here hx (hb hby d_jdk_68_10_7) rfl rfl rfl ?_
  refine w_get (pc' := 11) W281 hx (hw _ (List.mem_of_getElem? w_70)) Via.refl F2 (hb hby d_jdk_68_10_8) rfl fun T282 W282 => ?_
  refine g_ishl (pc' := 12) W282.here hx (hb hby d_jdk_68_10_11) rfl ?_
  refine g_name (w := .int (35 : Int32)) (congrArg Value.int (by decide)) ?_
  refine g_istoreN (pc' := 13) (Ls' := #[.val (.ref o), .val (.int (35 : Int32)), .val (.int (34 : Int32)), .val (.int (35 : Int32)), .unset, .unset]) W282.here hx (hb hby d_jdk_68_10_12) rfl rfl ?_
  refine g_iloadN (pc' := 14) W282.here hx (hb hby d_jdk_68_10_13) rfl rfl ?_
  refine g_iloadN (pc' := 15) W282.here hx (hb hby d_jdk_68_10_14) rfl rfl ?_
  refine g_isub (pc' := 16) W282.here hx (hb hby d_jdk_68_10_15) rfl ?_
  refine g_name (w := .int (1 : Int32)) (congrArg Value.int (by decide)) ?_
  refine g_istore (pc' := 18) (Ls' := #[.val (.ref o), .val (.int (35 : Int32)), .val (.int (34 : Int32)), .val (.int (35 : Int32)), .val (.int (1 : Int32)), .unset]) W282.here hx (hb hby d_jdk_68_10_16) rfl rfl ?_
  refine g_iloadN (pc' := 19) W282.here hx (hb hby d_jdk_68_10_18) rfl rfl ?_
  refine g_iload (pc' := 21) W282.here hx (hb hby d_jdk_68_10_19) rfl rfl ?_
  refine g_iloadN (pc' := 22) W282.here hx (hb hby d_jdk_68_10_21) rfl rfl ?_
  refine g_iconst (2 : Int32) (pc' := 23) W282.here hx (hb hby d_jdk_68_10_22) rfl rfl ?_
  refine g_aloadN (pc' := 24) W282.here hx (hb hby d_jdk_68_10_23) rfl rfl rfl ?_
  refine w_get (pc' := 27) W282 hx (hw _ (List.mem_of_getElem? w_70)) Via.refl F2 (hb hby d_jdk_68_10_24) rfl fun T283 W283 => ?_
  refine g_ishl (pc' := 28) W283.here hx (hb hby d_jdk_68_10_27) rfl ?_
  refine g_name (w := .int (2 : Int32)) (congrArg Value.int (by decide)) ?_
  refine g_iadd (pc' := 29) W283.here hx (hb hby d_jdk_68_10_28) rfl ?_
  refine g_name (w := .int (36 : Int32)) (congrArg Value.int (by decide)) ?_
  refine w_callSp (pc' := 32) (st := []) (y := (⟨"jdk/internal/util/ArraysSupport", "newLength", "(III)I"⟩ : MethodName)) W283 hx [(.int (34 : Int32)), (.int (1 : Int32)), (.int (36 : Int32))] (hw _ (List.mem_of_getElem? w_126)) (hw _ (List.mem_of_getElem? w_127)) (hw _ (List.mem_of_getElem? w_128)) (hw _ (List.mem_of_getElem? w_129)) (by decide) (c_newLength_34_1_36 l Z a0 hw hE h0 W283.old) (by rw [hml]; rfl) (lenOf pd_20 rfl) rfl (hb hby d_jdk_68_10_29) (Nat.le_of_ble_eq_true rfl) (Nat.le_of_ble_eq_true rfl) rfl rfl (Nat.le_of_ble_eq_true rfl) (Nat.le_of_ble_eq_true rfl) rfl fun T285 W285 => ?_
  refine g_istore (pc' := 34) (Ls' := #[.val (.ref o), .val (.int (35 : Int32)), .val (.int (34 : Int32)), .val (.int (35 : Int32)), .val (.int (1 : Int32)), .val (.int (70 : Int32))]) W285.here hx (hb hby d_jdk_68_10_32) rfl rfl ?_
  refine g_iload (pc' := 36) W285.here hx (hb hby d_jdk_68_10_34) rfl rfl ?_
  refine w_ldcI (pc' := 38) W285 hx (hw _ (List.mem_of_getElem? w_135)) (hb hby d_jdk_68_10_36) rfl ?_
  refine g_icmpY (pc' := 51) W285.here hx (hb hby d_jdk_68_10_38) rfl (feq (show ¬ ((70 : Int32) = (2147483647 : Int32)) from (by decide))).2 ?_
  refine g_iload (pc' := 53) W285.here hx (hb hby d_jdk_68_10_51) rfl rfl ?_
  refine g_aloadN (pc' := 54) W285.here hx (hb hby d_jdk_68_10_53) rfl rfl rfl ?_
  refine w_get (pc' := 57) W285 hx (hw _ (List.mem_of_getElem? w_70)) Via.refl F2 (hb hby d_jdk_68_10_54) rfl fun T286 W286 => ?_
  refine g_ishr (pc' := 58) W286.here hx (hb hby d_jdk_68_10_57) rfl ?_
  refine g_name (w := .int (70 : Int32)) (congrArg Value.int (by decide)) ?_
  refine w_retI W286 hx hh hlk hret (hb hby d_jdk_68_10_58) (Nat.le_of_ble_eq_true rfl) (Nat.le_of_ble_eq_true rfl) ?_
  exact ⟨rfl, rfl⟩
set_option maxRecDepth 65536 in
set_option maxHeartbeats 40000000 in
theorem c_min_34_70 (l : Launch) (Z : State) (a0 : Array Value) (hw : ∀ d ∈ tables_1, d.before a0 Z = true) (hE : EW Z a0 consts_1)  (h0 : Heap) (O : Ext Z.heap h0)  :
    Con l Z consts_1 (⟨"java/lang/Math", "min", "(II)I"⟩ : MethodName) jdk_29_method_69_code 2 (Option.some Jvm.ClassFile.FieldType.int) ({ frames := 0, cells := 0, slots := 0, locals := 0 } : Room) #[(.int (34 : Int32)), (.int (70 : Int32))] h0 [] (pureQ (some (.int (34 : Int32))) h0) := by
  refine Con.of (a0 := a0) #[.val (.int (34 : Int32)), .val (.int (70 : Int32))] (Jvm.Free.JP.mathPlain rfl (by decide +kernel)) hE O all0 (fun m => by first | (simp [entryFrame, mkF, argsToLocals, Value.category]; done) | rfl) ?_
  intro p e s m below meth c T0 hx hby hml hnm hret hlk hh W0
  refine g_iloadN (pc' := 1) W0.here hx (hb hby d_jdk_29_69_0) rfl rfl ?_
  refine g_iloadN (pc' := 2) W0.here hx (hb hby d_jdk_29_69_1) rfl rfl ?_
  refine g_icmpN (pc' := 5) W0.here hx (hb hby d_jdk_29_69_2) rfl (flt (show ¬ ((70 : Int32) < (34 : Int32)) from (by decide))).2.2.1 ?_
  refine g_iloadN (pc' := 6) W0.here hx (hb hby d_jdk_29_69_5) rfl rfl ?_
  refine g_goto (pc' := 10) W0.here hx (hb hby d_jdk_29_69_6) rfl ?_
  refine w_retI W0 hx hh hlk hret (hb hby d_jdk_29_69_10) (Nat.le_of_ble_eq_true rfl) (Nat.le_of_ble_eq_true rfl) ?_
  exact ⟨rfl, rfl⟩
set_option maxRecDepth 65536 in
set_option maxHeartbeats 40000000 in
theorem c_copyOf_34_70 (l : Launch) (Z : State) (a0 : Array Value) (hw : ∀ d ∈ tables_1, d.before a0 Z = true) (hE : EW Z a0 consts_1) (ba : Nat) (vs : List Value) (h0 : Heap) (O : Ext Z.heap h0) (VA : Ary Z h0 ba .byte vs) (lv : vs.length = 34) :
    ConF l Z consts_1 (⟨"java/util/Arrays", "copyOf", "([BI)[B"⟩ : MethodName) jdk_65_method_121_code 3 (Option.some (Jvm.ClassFile.FieldType.array Jvm.ClassFile.FieldType.byte)) ({ frames := 1, cells := 1, slots := 70, locals := 40 } : Room) #[(.ref ba), (.int (70 : Int32))] h0 [] (fun N v h => ∃ (bb : Nat) (vs : List Value), N = [bb] ∧ v = some (.ref bb) ∧ Ary Z h bb .byte vs ∧ vs.length = 70) := by
  refine ConF.of (a0 := a0) #[.val (.ref ba), .val (.int (70 : Int32)), .unset] (plainFor_of_name pn_9) hE O all0 (fun m => by first | (simp [entryFrame, mkF, argsToLocals, Value.category]; done) | rfl) ?_
  intro p e s m below meth c T0 hx hby hml hnm hret hlk hh W0
  have lt_ba : ba < h0.size := VA.lt
  refine g_iloadN (pc' := 1) W0.here hx (hb hby d_jdk_65_121_0) rfl rfl ?_
  refine g_aloadN (pc' := 2) W0.here hx (hb hby d_jdk_65_121_1) rfl rfl rfl ?_
  refine w_len (pc' := 3) W0 hx VA (hb hby d_jdk_65_121_2) rfl ?_
  refine g_name (w := .int (34 : Int32)) (congrArg Value.int (by rw [lv]; rfl)) ?_
  refine g_icmpY (pc' := 14) W0.here hx (hb hby d_jdk_65_121_3) rfl (feq (show ¬ ((70 : Int32) = (34 : Int32)) from (by decide))).2 ?_
  refine g_iloadN (pc' := 15) W0.here hx (hb hby d_jdk_65_121_14) rfl rfl ?_
  refine w_newarr (pc' := 17) (cap := 70) W0 hx (hw _ (List.mem_of_getElem? w_24)) (hb hby d_jdk_65_121_15) (by decide) (Nat.le_refl _) (Nat.le_of_ble_eq_true rfl) (Nat.le_of_ble_eq_true rfl) (Nat.le_of_ble_eq_true rfl) rfl rfl fun T289 h289 b289 g289 W289 K289 V289 => ?_
  have z_K289 : h0.size ≤ h289.size := K289.1
  have ne_ba_b289 : ba ≠ b289 := by omega
  have lt_b289 : b289 < h289.size := W289.lt (List.mem_cons_self ..)
  obtain ⟨vn290, VN290, ln290⟩ : ∃ vs : List Value, Ary Z h289 b289 .byte vs ∧ vs.length = 70 := ⟨_, V289, rfl⟩
  refine g_astoreN (pc' := 18) (Ls' := #[.val (.ref ba), .val (.int (70 : Int32)), .val (.ref b289)]) W289.here hx (hb hby d_jdk_65_121_17) rfl rfl rfl ?_
  refine g_aloadN (pc' := 19) W289.here hx (hb hby d_jdk_65_121_18) rfl rfl rfl ?_
  refine g_iconst (0 : Int32) (pc' := 20) W289.here hx (hb hby d_jdk_65_121_19) rfl rfl ?_
  refine g_aloadN (pc' := 21) W289.here hx (hb hby d_jdk_65_121_20) rfl rfl rfl ?_
  refine g_iconst (0 : Int32) (pc' := 22) W289.here hx (hb hby d_jdk_65_121_21) rfl rfl ?_
  refine g_aloadN (pc' := 23) W289.here hx (hb hby d_jdk_65_121_22) rfl rfl rfl ?_
  have c291 := (VA.keep K289 nin0)
  refine w_len (pc' := 24) W289 hx c291 (hb hby d_jdk_65_121_23) rfl ?_
  refine g_name (w := .int (34 : Int32)) (congrArg Value.int (by rw [lv]; rfl)) ?_
  refine g_iloadN (pc' := 25) W289.here hx (hb hby d_jdk_65_121_24) rfl rfl ?_
  refine w_callSp (pc' := 28) (st := [(.int (0 : Int32)), (.ref b289), (.int (0 : Int32)), (.ref ba)]) (y := (⟨"java/lang/Math", "min", "(II)I"⟩ : MethodName)) W289 hx [(.int (34 : Int32)), (.int (70 : Int32))] (hw _ (List.mem_of_getElem? w_140)) (hw _ (List.mem_of_getElem? w_141)) (hw _ (List.mem_of_getElem? w_132)) (hw _ (List.mem_of_getElem? w_142)) (by decide) (c_min_34_70 l Z a0 hw hE h289 W289.old) (by rw [hml]; rfl) (lenOf pd_19 rfl) rfl (hb hby d_jdk_65_121_25) (Nat.le_of_ble_eq_true rfl) (Nat.le_of_ble_eq_true rfl) rfl rfl (Nat.le_of_ble_eq_true rfl) (Nat.le_of_ble_eq_true rfl) rfl fun T292 W292 => ?_
  refine w_arrcopy (pc' := 31) (st := []) W292 hx (hw _ (List.mem_of_getElem? w_143)) (hw _ (List.mem_of_getElem? w_119)) (hw _ (List.mem_of_getElem? w_117)) (hw _ (List.mem_of_getElem? w_118)) c291 VN290 (List.mem_of_getElem? (i := 0) rfl) (by decide) (by decide) (by decide) (by rw [lv]; exact (Nat.le_of_ble_eq_true rfl)) (by rw [ln290]; exact (Nat.le_of_ble_eq_true rfl)) (by rw [hml]; rfl) (hb hby d_jdk_65_121_28) (Nat.le_of_ble_eq_true rfl) (Nat.le_of_ble_eq_true rfl) rfl fun T293 h293 W293 K293 V293 => ?_
  have z_K293 : h289.size ≤ h293.size := K293.1
  obtain ⟨vs294, VN294, lv294⟩ : ∃ vs : List Value, Ary Z h293 b289 .byte vs ∧ vs.length = 70 := ⟨_, V293, by first | (simp only [List.length_append, List.length_take, List.length_drop, List.length_map, ln290, lv]; done) | (simp only [List.length_append, List.length_take, List.length_drop, List.length_map, ln290, lv]; decide)⟩
  refine g_aloadN (pc' := 32) W293.here hx (hb hby d_jdk_65_121_31) rfl rfl rfl ?_
  refine w_retAF W293 hx hh hlk hret rfl rfl (hb hby d_jdk_65_121_32) (Nat.le_of_ble_eq_true rfl) (Nat.le_of_ble_eq_true rfl) [b289] (allS (List.mem_of_getElem? (i := 0) rfl) all0) ?_
  exact ⟨_, _, rfl, rfl, VN294, lv294⟩
set_option maxRecDepth 65536 in
set_option maxHeartbeats 40000000 in
theorem c_ensure_24_34_35 (l : Launch) (Z : State) (a0 : Array Value) (hw : ∀ d ∈ tables_1, d.before a0 Z = true) (hE : EW Z a0 consts_1) (cc : Int32) (fm : Value) (o vb : Nat)  (h0 : Heap) (O : Ext Z.heap h0) (G : SEnv Z cc fm) (hz : Z.heap.size ≤ o) (hzb : Z.heap.size ≤ vb) (hov : o ≠ vb) (B0 : SBd Z h0 o vb (24 : Int32) 34)  :
    ConF l Z consts_1 (⟨"java/lang/AbstractStringBuilder", "ensureCapacityInternal", "(I)V"⟩ : MethodName) jdk_68_method_9_code 3 (Option.none : Option Jvm.ClassFile.FieldType) ({ frames := 3, cells := 1, slots := 70, locals := 55 } : Room) #[(.ref o), (.int (35 : Int32))] h0 [o] (fun N v h => ∃ vb2 : Nat, N = [vb2] ∧ v = none ∧ SBd Z h o vb2 (24 : Int32) 70) := by
  refine ConF.of (a0 := a0) #[.val (.ref o), .val (.int (35 : Int32)), .unset] (plainFor_of_name pn_4) hE O (allS ⟨hz, by obtain ⟨E, -⟩ := B0; exact E.lt⟩ all0) (fun m => by first | (simp [entryFrame, mkF, argsToLocals, Value.category]; done) | rfl) ?_
  intro p e s m below meth c T0 hx hby hml hnm hret hlk hh W0
  obtain ⟨E0, F1, F2, F3, vs, VB, lv⟩ := id B0
  have lt_o : o < h0.size := E0.lt
  have lt_vb : vb < h0.size := VB.lt
  refine g_aloadN (pc' := 1) W0.here hx (hb hby d_jdk_68_9_0) rfl rfl rfl ?_
  refine w_get (pc' := 4) W0 hx (hw _ (List.mem_of_getElem? w_68)) Via.refl F3 (hb hby d_jdk_68_9_1) rfl fun T277 W277 => ?_
  refine w_len (pc' := 5) W277 hx VB (hb hby d_jdk_68_9_4) rfl ?_
  refine g_name (w := .int (34 : Int32)) (congrArg Value.int (by rw [lv]; rfl)) ?_
  refine g_aloadN (pc' := 6) W277.here hx (hb hby d_jdk_68_9_5) rfl rfl rfl ?_
  refine w_get (pc' := 9) W277 hx (hw _ (List.mem_of_getElem? w_70)) Via.refl F2 (hb hby d_jdk_68_9_6) rfl fun T278 W278 => ?_
  refine g_ishr (pc' := 10) W278.here hx (hb hby d_jdk_68_9_9) rfl ?_
  refine g_name (w := .int (34 : Int32)) (congrArg Value.int (by decide)) ?_
  refine g_istoreN (pc' := 11) (Ls' := #[.val (.ref o), .val (.int (35 : Int32)), .val (.int (34 : Int32))]) W278.here hx (hb hby d_jdk_68_9_10) rfl rfl ?_
  refine g_iloadN (pc' := 12) W278.here hx (hb hby d_jdk_68_9_11) rfl rfl ?_
  refine g_iloadN (pc' := 13) W278.here hx (hb hby d_jdk_68_9_12) rfl rfl ?_
  refine g_isub (pc' := 14) W278.here hx (hb hby d_jdk_68_9_13) rfl ?_
  refine g_name (w := .int (1 : Int32)) (congrArg Value.int (by decide)) ?_
  refine g_ifN (pc' := 17) W278.here hx (hb hby d_jdk_68_9_14) rfl (tlt (show (0 : Int32) < (1 : Int32) from (by decide))).2.2.2 ?_
  refine g_aloadN (pc' := 18) W278.here hx (hb hby d_jdk_68_9_17) rfl rfl rfl ?_
  refine g_aloadN (pc' := 19) W278.here hx (hb hby d_jdk_68_9_18) rfl rfl rfl ?_
  refine w_get (pc' := 22) W278 hx (hw _ (List.mem_of_getElem? w_68)) Via.refl F3 (hb hby d_jdk_68_9_19) rfl fun T279 W279 => ?_
  refine g_aloadN (pc' := 23) W279.here hx (hb hby d_jdk_68_9_22) rfl rfl rfl ?_
  refine g_iloadN (pc' := 24) W279.here hx (hb hby d_jdk_68_9_23) rfl rfl ?_
  have B280 : SBd Z h0 o vb (24 : Int32) 34 := ⟨E0, F1, F2, F3, _, VB, lv⟩
  refine w_privatep (pc' := 27) (st := [(.ref vb), (.ref o)]) (y := (⟨"java/lang/AbstractStringBuilder", "newCapacity", "(I)I"⟩ : MethodName)) (a := o) W279 hx [(.int (35 : Int32))] (hw _ (List.mem_of_getElem? w_121)) (hw _ (List.mem_of_getElem? w_123)) (hw _ (List.mem_of_getElem? w_124)) (hw _ (List.mem_of_getElem? w_122)) (hw _ (List.mem_of_getElem? w_64)) (hw _ (List.mem_of_getElem? w_125)) (by decide) (c_newCap_24_34_35 l Z a0 hw hE cc fm o vb h0 W279.old G B280) E0 (by rw [hml]; rfl) (lenOf pd_21 rfl) rfl (hb hby d_jdk_68_9_24) (Nat.le_of_ble_eq_true rfl) (Nat.le_of_ble_eq_true rfl) rfl rfl (Nat.le_of_ble_eq_true rfl) (Nat.le_of_ble_eq_true rfl) rfl fun T287 W287 => ?_
  refine g_aloadN (pc' := 28) W287.here hx (hb hby d_jdk_68_9_27) rfl rfl rfl ?_
  refine w_get (pc' := 31) W287 hx (hw _ (List.mem_of_getElem? w_70)) Via.refl F2 (hb hby d_jdk_68_9_28) rfl fun T288 W288 => ?_
  refine g_ishl (pc' := 32) W288.here hx (hb hby d_jdk_68_9_31) rfl ?_
  refine g_name (w := .int (70 : Int32)) (congrArg Value.int (by decide)) ?_
  refine w_callSF (pc' := 35) (st := [(.ref o)]) (y := (⟨"java/util/Arrays", "copyOf", "([BI)[B"⟩ : MethodName)) W288 hx [(.ref vb), (.int (70 : Int32))] (hw _ (List.mem_of_getElem? w_136)) (hw _ (List.mem_of_getElem? w_137)) (hw _ (List.mem_of_getElem? w_138)) (hw _ (List.mem_of_getElem? w_139)) (by decide) (c_copyOf_34_70 l Z a0 hw hE vb vs h0 W288.old VB lv) all0 (by rw [hml]; rfl) (lenOf pd_22 rfl) rfl (hb hby d_jdk_68_9_32) (Nat.le_of_ble_eq_true rfl) (Nat.le_of_ble_eq_true rfl) (Nat.le_of_ble_eq_true rfl) (Nat.le_of_ble_eq_true rfl) rfl fun N295 v295 T295 h295 W295 K295 G295 Q295 => ?_
  have z_K295 : h0.size ≤ h295.size := K295.1
  obtain ⟨nb296, nv296, rfl, rfl, NV296, nl296⟩ := Q295
  have gz297 := (G295 nb296 (List.mem_cons_self ..)).1
  have lt_nb296 := (G295 nb296 (List.mem_cons_self ..)).2
  have ne_o_nb296 : o ≠ nb296 := by omega
  have ne_vb_nb296 : vb ≠ nb296 := by omega
  have c298 := (F3.keep K295 nin0)
  have c299 := (E0.keep K295)
  refine w_put (pc' := 38) W295 hx (hw _ (List.mem_of_getElem? w_68)) Via.refl c298 c299 (Or.inl (hw _ (List.mem_of_getElem? w_69))) (hw _ (List.mem_of_getElem? w_55)) (ty := (.array .byte)) (by decide) rfl rfl (List.mem_of_getElem? (i := 0) rfl) (hb hby d_jdk_68_9_35) rfl fun T300 h300 W300 K300 R300 F300 A300 => ?_
  have c301 := (F1.keep K295 nin0)
  have c302 := (F2.keep K295 nin0)
  have z_K300 : h295.size ≤ h300.size := K300.1
  have c303 := (c301.other R300 (Or.inr (slot_ne (Or.inl (hw _ (List.mem_of_getElem? w_94))) (Or.inl (hw _ (List.mem_of_getElem? w_69))) (by decide) (t := .int) (t' := (.array .byte)) (by decide) (by decide))))
  have c304 := (c302.other R300 (Or.inr (slot_ne (Or.inl (hw _ (List.mem_of_getElem? w_71))) (Or.inl (hw _ (List.mem_of_getElem? w_69))) (by decide) (t := .byte) (t' := (.array .byte)) (by decide) (by decide))))
  have c305 := (NV296.keep K300 (ninS (Ne.symm ne_o_nb296) nin0))
  refine w_retVF W300 hx hh hlk hret (hb hby d_jdk_68_9_38) (Nat.le_of_ble_eq_true rfl) (Nat.le_of_ble_eq_true rfl) [nb296] (allS (List.mem_of_getElem? (i := 0) rfl) all0) ?_
  exact ⟨_, rfl, rfl, ⟨A300, c303, c304, F300, _, c305, nl296⟩⟩
set_option maxRecDepth 65536 in
set_option maxHeartbeats 40000000 in
theorem c_inflate_24_70_11 (l : Launch) (Z : State) (a0 : Array Value) (hw : ∀ d ∈ tables_1, d.before a0 Z = true) (hE : EW Z a0 consts_1) (cc : Int32) (fm : Value) (o vb : Nat) (a sb : Nat) (cs : List Int32)  (h0 : Heap) (O : Ext Z.heap h0) (G : SEnv Z cc fm) (B0 : SBd Z h0 o vb (24 : Int32) 70) (S1 : SL Z h0 a sb cs) (hcs : cs.length = 11)  :
    Con l Z consts_1 (⟨"java/lang/AbstractStringBuilder", "inflateIfNeededFor", "(Ljava/lang/String;)V"⟩ : MethodName) jdk_68_method_71_code 2 (Option.none : Option Jvm.ClassFile.FieldType) ({ frames := 1, cells := 0, slots := 0, locals := 13 } : Room) #[(.ref o), (.ref a)] h0 [] (pureQ none h0) := by
  refine Con.of (a0 := a0) #[.val (.ref o), .val (.ref a)] (plainFor_of_name pn_4) hE O all0 (fun m => by first | (simp [entryFrame, mkF, argsToLocals, Value.category]; done) | rfl) ?_
  intro p e s m below meth c T0 hx hby hml hnm hret hlk hh W0
  obtain ⟨E0, F1, F2, F3, vs, VB, lv⟩ := id B0
  have lt_o : o < h0.size := E0.lt
  have lt_vb : vb < h0.size := VB.lt
  have ES1 := S1.1
  have lt_a : a < h0.size := S1.lt
  have lt_sb : sb < h0.size := S1.ltb
  refine w_getS (pc' := 3) W0 hx (hw _ (List.mem_of_getElem? w_67)) Via.refl G.1 (hb hby d_jdk_68_71_0) rfl fun T314 W314 => ?_
  refine g_ifN (pc' := 6) W314.here hx (hb hby d_jdk_68_71_3) rfl (feq (show ¬ (cc = (0 : Int32)) from G.2.1)).1 ?_
  refine g_aloadN (pc' := 7) W314.here hx (hb hby d_jdk_68_71_6) rfl rfl rfl ?_
  refine w_get (pc' := 10) W314 hx (hw _ (List.mem_of_getElem? w_70)) Via.refl F2 (hb hby d_jdk_68_71_7) rfl fun T315 W315 => ?_
  refine g_aloadN (pc' := 11) W315.here hx (hb hby d_jdk_68_71_10) rfl rfl rfl ?_
  refine w_virtualp (pc' := 14) (st := [(.int (0 : Int32))]) (y := (⟨"java/lang/String", "coder", "()B"⟩ : MethodName)) (z := (⟨"java/lang/String", "coder", "()B"⟩ : MethodName)) (a := a) W315 hx [] (hw _ (List.mem_of_getElem? w_110)) (hw _ (List.mem_of_getElem? w_89)) (nfS (z := (⟨"java/lang/String", "coder", "()B"⟩ : MethodName)) (hw _ (List.mem_of_getElem? w_91))) (hw _ (List.mem_of_getElem? w_91)) (hw _ (List.mem_of_getElem? w_90)) (hw _ (List.mem_of_getElem? w_8)) (hw _ (List.mem_of_getElem? w_92)) (by decide) (c_coder l Z a0 hw hE cc fm a sb cs h0 W315.old G S1) ES1 (by rw [hml]; rfl) (lenOf pd_4 rfl) rfl (hb hby d_jdk_68_71_11) (Nat.le_of_ble_eq_true rfl) (Nat.le_of_ble_eq_true rfl) rfl rfl (Nat.le_of_ble_eq_true rfl) (Nat.le_of_ble_eq_true rfl) rfl fun T316 W316 => ?_
  refine g_icmpY (pc' := 21) W316.here hx (hb hby d_jdk_68_71_14) rfl (teq (show (0 : Int32) = (0 : Int32) from (by decide))).1 ?_
  refine w_retV W316 hx hh hlk hret (hb hby d_jdk_68_71_21) (Nat.le_of_ble_eq_true rfl) (Nat.le_of_ble_eq_true rfl) ?_
  exact ⟨rfl, rfl⟩
set_option maxRecDepth 65536 in
set_option maxHeartbeats 40000000 in
theorem c_getBytes_11_24_70 (l : Launch) (Z : State) (a0 : Array Value) (hw : ∀ d ∈ tables_1, d.before a0 Z = true) (hE : EW Z a0 consts_1) (cc : Int32) (fm : Value) (a sb : Nat) (cs : List Int32) (vb : Nat) (vs : List Value) (h0 : Heap) (O : Ext Z.heap h0) (G : SEnv Z cc fm) (S1 : SL Z h0 a sb cs) (hcs : cs.length = 11) (hzb : Z.heap.size ≤ vb) (VB : Ary Z h0 vb .byte vs) (lv : vs.length = 70) :
    Con l Z consts_1 (⟨"java/lang/String", "getBytes", "([BIB)V"⟩ : MethodName) jdk_42_method_147_code 4 (Option.none : Option Jvm.ClassFile.FieldType) ({ frames := 1, cells := 0, slots := 0, locals := 40 } : Room) #[(.ref a), (.ref vb), (.int (24 : Int32)), (.int (0 : Int32))] h0 [vb] (fun v h => v = none ∧ ∃ vs : List Value, Ary Z h vb .byte vs ∧ vs.length = 70) := by
  refine Con.of (a0 := a0) #[.val (.ref a), .val (.ref vb), .val (.int (24 : Int32)), .val (.int (0 : Int32))] (plainFor_of_name pn_1) hE O (allS ⟨hzb, VB.lt⟩ all0) (fun m => by first | (simp [entryFrame, mkF, argsToLocals, Value.category]; done) | rfl) ?_
  intro p e s m below meth c T0 hx hby hml hnm hret hlk hh W0
  have ES1 := S1.1
  have lt_a : a < h0.size := S1.lt
  have lt_sb : sb < h0.size := S1.ltb
  obtain ⟨E_a, FC_a, FV_a, VS_a, LS_a⟩ := id S1
  refine g_aloadN (pc' := 1) W0.here hx (hb hby d_jdk_42_147_0) rfl rfl rfl ?_
  refine w_virtualp (pc' := 4) (st := []) (y := (⟨"java/lang/String", "coder", "()B"⟩ : MethodName)) (z := (⟨"java/lang/String", "coder", "()B"⟩ : MethodName)) (a := a) W0 hx [] (hw _ (List.mem_of_getElem? w_88)) (hw _ (List.mem_of_getElem? w_89)) (nfS (z := (⟨"java/lang/String", "coder", "()B"⟩ : MethodName)) (hw _ (List.mem_of_getElem? w_91))) (hw _ (List.mem_of_getElem? w_91)) (hw _ (List.mem_of_getElem? w_90)) (hw _ (List.mem_of_getElem? w_8)) (hw _ (List.mem_of_getElem? w_92)) (by decide) (c_coder l Z a0 hw hE cc fm a sb cs h0 W0.old G S1) ES1 (by rw [hml]; rfl) (lenOf pd_4 rfl) rfl (hb hby d_jdk_42_147_1) (Nat.le_of_ble_eq_true rfl) (Nat.le_of_ble_eq_true rfl) rfl rfl (Nat.le_of_ble_eq_true rfl) (Nat.le_of_ble_eq_true rfl) rfl fun T320 W320 => ?_
  refine g_iloadN (pc' := 5) W320.here hx (hb hby d_jdk_42_147_4) rfl rfl ?_
  refine g_icmpN (pc' := 8) W320.here hx (hb hby d_jdk_42_147_5) rfl (teq (show (0 : Int32) = (0 : Int32) from (by decide))).2 ?_
  refine g_aloadN (pc' := 9) W320.here hx (hb hby d_jdk_42_147_8) rfl rfl rfl ?_
  refine w_get (pc' := 12) W320 hx (hw _ (List.mem_of_getElem? w_33)) Via.refl FV_a (hb hby d_jdk_42_147_9) rfl fun T321 W321 => ?_
  refine g_iconst (0 : Int32) (pc' := 13) W321.here hx (hb hby d_jdk_42_147_12) rfl rfl ?_
  refine g_aloadN (pc' := 14) W321.here hx (hb hby d_jdk_42_147_13) rfl rfl rfl ?_
  refine g_iloadN (pc' := 15) W321.here hx (hb hby d_jdk_42_147_14) rfl rfl ?_
  refine g_iloadN (pc' := 16) W321.here hx (hb hby d_jdk_42_147_15) rfl rfl ?_
  refine g_ishl (pc' := 17) W321.here hx (hb hby d_jdk_42_147_16) rfl ?_
  refine g_name (w := .int (24 : Int32)) (congrArg Value.int (by decide)) ?_
  refine g_aloadN (pc' := 18) W321.here hx (hb hby d_jdk_42_147_17) rfl rfl rfl ?_
  refine w_get (pc' := 21) W321 hx (hw _ (List.mem_of_getElem? w_33)) Via.refl FV_a (hb hby d_jdk_42_147_18) rfl fun T322 W322 => ?_
  refine w_len (pc' := 22) W322 hx VS_a (hb hby d_jdk_42_147_21) rfl ?_
  refine g_name (w := .int (11 : Int32)) (congrArg Value.int (by rw [List.length_map, hcs]; rfl)) ?_
  refine w_arrcopy (pc' := 25) (st := []) W322 hx (hw _ (List.mem_of_getElem? w_116)) (hw _ (List.mem_of_getElem? w_119)) (hw _ (List.mem_of_getElem? w_117)) (hw _ (List.mem_of_getElem? w_118)) VS_a VB (List.mem_of_getElem? (i := 0) rfl) (by decide) (by decide) (by decide) (by rw [List.length_map, hcs]; exact (Nat.le_of_ble_eq_true rfl)) (by rw [lv]; exact (Nat.le_of_ble_eq_true rfl)) (by rw [hml]; rfl) (hb hby d_jdk_42_147_22) (Nat.le_of_ble_eq_true rfl) (Nat.le_of_ble_eq_true rfl) rfl fun T323 h323 W323 K323 V323 => ?_
  have z_K323 : h0.size ≤ h323.size := K323.1
  obtain ⟨vs324, VN324, lv324⟩ : ∃ vs : List Value, Ary Z h323 vb .byte vs ∧ vs.length = 70 := ⟨_, V323, by first | (simp only [List.length_append, List.length_take, List.length_drop, List.length_map, lv, hcs]; done) | (simp only [List.length_append, List.length_take, List.length_drop, List.length_map, lv, hcs]; decide)⟩
  refine g_goto (pc' := 43) W323.here hx (hb hby d_jdk_42_147_25) rfl ?_
  refine w_retV W323 hx hh hlk hret (hb hby d_jdk_42_147_43) (Nat.le_of_ble_eq_true rfl) (Nat.le_of_ble_eq_true rfl) ?_
  exact ⟨rfl, _, VN324, lv324⟩
set_option maxRecDepth 65536 in
set_option maxHeartbeats 40000000 in
theorem c_putStr_24_70_24_11 (l : Launch) (Z : State) (a0 : Array Value) (hw : ∀ d ∈ tables_1, d.before a0 Z = true) (hE : EW Z a0 consts_1) (cc : Int32) (fm : Value) (o vb : Nat) (a sb : Nat) (cs : List Int32)  (h0 : Heap) (O : Ext Z.heap h0) (G : SEnv Z cc fm) (hz : Z.heap.size ≤ o) (hzb : Z.heap.size ≤ vb) (hov : o ≠ vb) (B0 : SBd Z h0 o vb (24 : Int32) 70) (S1 : SL Z h0 a sb cs) (hcs : cs.length = 11) (n1 : o ≠ a) (n2 : o ≠ sb) (n3 : vb ≠ a) (n4 : vb ≠ sb)  :
    Con l Z consts_1 (⟨"java/lang/AbstractStringBuilder", "putStringAt", "(ILjava/lang/String;)V"⟩ : MethodName) jdk_68_method_73_code 3 (Option.none : Option Jvm.ClassFile.FieldType) ({ frames := 2, cells := 0, slots := 0, locals := 55 } : Room) #[(.ref o), (.int (24 : Int32)), (.ref a)] h0 [vb] (fun v h => v = none ∧ SBd Z h o vb (24 : Int32) 70) := by
  refine Con.of (a0 := a0) #[.val (.ref o), .val (.int (24 : Int32)), .val (.ref a)] (plainFor_of_name pn_4) hE O (allS ⟨hzb, B0.ltb⟩ all0) (fun m => by first | (simp [entryFrame, mkF, argsToLocals, Value.category]; done) | rfl) ?_
  intro p e s m below meth c T0 hx hby hml hnm hret hlk hh W0
  obtain ⟨E0, F1, F2, F3, vs, VB, lv⟩ := id B0
  have lt_o : o < h0.size := E0.lt
  have lt_vb : vb < h0.size := VB.lt
  have ES1 := S1.1
  have lt_a : a < h0.size := S1.lt
  have lt_sb : sb < h0.size := S1.ltb
  refine g_aloadN (pc' := 1) W0.here hx (hb hby d_jdk_68_73_0) rfl rfl rfl ?_
  refine g_aloadN (pc' := 2) W0.here hx (hb hby d_jdk_68_73_1) rfl rfl rfl ?_
  have B313 : SBd Z h0 o vb (24 : Int32) 70 := ⟨E0, F1, F2, F3, _, VB, lv⟩
  refine w_privatep (pc' := 5) (st := []) (y := (⟨"java/lang/AbstractStringBuilder", "inflateIfNeededFor", "(Ljava/lang/String;)V"⟩ : MethodName)) (a := o) W0 hx [(.ref a)] (hw _ (List.mem_of_getElem? w_105)) (hw _ (List.mem_of_getElem? w_107)) (hw _ (List.mem_of_getElem? w_108)) (hw _ (List.mem_of_getElem? w_106)) (hw _ (List.mem_of_getElem? w_64)) (hw _ (List.mem_of_getElem? w_109)) (by decide) (c_inflate_24_70_11 l Z a0 hw hE cc fm o vb a sb cs h0 W0.old G B313 S1 hcs) E0 (by rw [hml]; rfl) (lenOf pd_14 rfl) rfl (hb hby d_jdk_68_73_2) (Nat.le_of_ble_eq_true rfl) (Nat.le_of_ble_eq_true rfl) rfl rfl (Nat.le_of_ble_eq_true rfl) (Nat.le_of_ble_eq_true rfl) rfl fun T317 W317 => ?_
  refine g_aloadN (pc' := 6) W317.here hx (hb hby d_jdk_68_73_5) rfl rfl rfl ?_
  refine g_aloadN (pc' := 7) W317.here hx (hb hby d_jdk_68_73_6) rfl rfl rfl ?_
  refine w_get (pc' := 10) W317 hx (hw _ (List.mem_of_getElem? w_68)) Via.refl F3 (hb hby d_jdk_68_73_7) rfl fun T318 W318 => ?_
  refine g_iloadN (pc' := 11) W318.here hx (hb hby d_jdk_68_73_10) rfl rfl ?_
  refine g_aloadN (pc' := 12) W318.here hx (hb hby d_jdk_68_73_11) rfl rfl rfl ?_
  refine w_get (pc' := 15) W318 hx (hw _ (List.mem_of_getElem? w_70)) Via.refl F2 (hb hby d_jdk_68_73_12) rfl fun T319 W319 => ?_
  refine w_virtual (pc' := 18) (st := []) (y := (⟨"java/lang/String", "getBytes", "([BIB)V"⟩ : MethodName)) (z := (⟨"java/lang/String", "getBytes", "([BIB)V"⟩ : MethodName)) (a := a) W319 hx [(.ref vb), (.int (24 : Int32)), (.int (0 : Int32))] (hw _ (List.mem_of_getElem? w_111)) (hw _ (List.mem_of_getElem? w_112)) (nfS (z := (⟨"java/lang/String", "getBytes", "([BIB)V"⟩ : MethodName)) (hw _ (List.mem_of_getElem? w_114))) (hw _ (List.mem_of_getElem? w_114)) (hw _ (List.mem_of_getElem? w_113)) (hw _ (List.mem_of_getElem? w_8)) (hw _ (List.mem_of_getElem? w_115)) (by decide) (c_getBytes_11_24_70 l Z a0 hw hE cc fm a sb cs vb vs h0 W319.old G S1 hcs hzb VB lv) ES1 (allS (List.mem_of_getElem? (i := 0) rfl) all0) (by rw [hml]; rfl) (lenOf pd_15 rfl) rfl (hb hby d_jdk_68_73_15) (Nat.le_of_ble_eq_true rfl) (Nat.le_of_ble_eq_true rfl) (Nat.le_of_ble_eq_true rfl) (Nat.le_of_ble_eq_true rfl) rfl fun v325 T325 h325 W325 K325 Q325 => ?_
  have z_K325 : h0.size ≤ h325.size := K325.1
  obtain ⟨rfl, vs326, VN326, lv326⟩ := Q325
  have c327 := (E0.keep K325)
  have c328 := (F1.keep K325 (ninS hov nin0))
  have c329 := (F2.keep K325 (ninS hov nin0))
  have c330 := (F3.keep K325 (ninS hov nin0))
  refine w_retV W325 hx hh hlk hret (hb hby d_jdk_68_73_18) (Nat.le_of_ble_eq_true rfl) (Nat.le_of_ble_eq_true rfl) ?_
  exact ⟨rfl, ⟨c327, c328, c329, c330, _, VN326, lv326⟩⟩
set_option maxRecDepth 65536 in
set_option maxHeartbeats 40000000 in
theorem c_asbApp_24_34_11 (l : Launch) (Z : State) (a0 : Array Value) (hw : ∀ d ∈ tables_1, d.before a0 Z = true) (hE : EW Z a0 consts_1) (cc : Int32) (fm : Value) (o vb : Nat) (a sb : Nat) (cs : List Int32)  (h0 : Heap) (O : Ext Z.heap h0) (G : SEnv Z cc fm) (hz : Z.heap.size ≤ o) (hzb : Z.heap.size ≤ vb) (hov : o ≠ vb) (B0 : SBd Z h0 o vb (24 : Int32) 34) (S1 : SL Z h0 a sb cs) (hcs : cs.length = 11) (n1 : o ≠ a) (n2 : o ≠ sb) (n3 : vb ≠ a) (n4 : vb ≠ sb)  :
    ConF l Z consts_1 (⟨"java/lang/AbstractStringBuilder", "append", "(Ljava/lang/String;)Ljava/lang/AbstractStringBuilder;"⟩ : MethodName) jdk_68_method_22_code 3 (Option.some (Jvm.ClassFile.FieldType.object "java/lang/AbstractStringBuilder")) ({ frames := 4, cells := 1, slots := 70, locals := 69 } : Room) #[(.ref o), (.ref a)] h0 [o, vb] (fun N v h => ∃ vb2 : Nat, N = [vb2] ∧ v = some (.ref o) ∧ SBd Z h o vb2 (35 : Int32) 70) := by
  refine ConF.of (a0 := a0) #[.val (.ref o), .val (.ref a), .unset] (plainFor_of_name pn_4) hE O (allS ⟨hz, by obtain ⟨E, -⟩ := B0; exact E.lt⟩ (allS ⟨hzb, B0.ltb⟩ all0)) (fun m => by first | (simp [entryFrame, mkF, argsToLocals, Value.category]; done) | rfl) ?_
  intro p e s m below meth c T0 hx hby hml hnm hret hlk hh W0
  obtain ⟨E0, F1, F2, F3, vs, VB, lv⟩ := id B0
  have lt_o : o < h0.size := E0.lt
  have lt_vb : vb < h0.size := VB.lt
  have ES1 := S1.1
  have lt_a : a < h0.size := S1.lt
  have lt_sb : sb < h0.size := S1.ltb
  refine g_aloadN (pc' := 1) W0.here hx (hb hby d_jdk_68_22_0) rfl rfl rfl ?_
  refine g_nonnullY (pc' := 9) W0.here hx (hb hby d_jdk_68_22_1) rfl ?_
  refine g_aloadN (pc' := 10) W0.here hx (hb hby d_jdk_68_22_9) rfl rfl rfl ?_
  refine w_virtualp (pc' := 13) (st := []) (y := (⟨"java/lang/String", "length", "()I"⟩ : MethodName)) (z := (⟨"java/lang/String", "length", "()I"⟩ : MethodName)) (a := a) W0 hx [] (hw _ (List.mem_of_getElem? w_83)) (hw _ (List.mem_of_getElem? w_84)) (nfS (z := (⟨"java/lang/String", "length", "()I"⟩ : MethodName)) (hw _ (List.mem_of_getElem? w_86))) (hw _ (List.mem_of_getElem? w_86)) (hw _ (List.mem_of_getElem? w_85)) (hw _ (List.mem_of_getElem? w_8)) (hw _ (List.mem_of_getElem? w_87)) (by decide) (c_length l Z a0 hw hE cc fm a sb cs  h0 W0.old G S1 ) ES1 (by rw [hml]; rfl) (lenOf pd_13 rfl) rfl (hb hby d_jdk_68_22_10) (Nat.le_of_ble_eq_true rfl) (Nat.le_of_ble_eq_true rfl) rfl rfl (Nat.le_of_ble_eq_true rfl) (Nat.le_of_ble_eq_true rfl) rfl fun T274 W274 => ?_
  refine g_name (w := .int (11 : Int32)) (congrArg Value.int (by rw [hcs]; rfl)) ?_
  refine g_istoreN (pc' := 14) (Ls' := #[.val (.ref o), .val (.ref a), .val (.int (11 : Int32))]) W274.here hx (hb hby d_jdk_68_22_13) rfl rfl ?_
  refine g_aloadN (pc' := 15) W274.here hx (hb hby d_jdk_68_22_14) rfl rfl rfl ?_
  refine g_aloadN (pc' := 16) W274.here hx (hb hby d_jdk_68_22_15) rfl rfl rfl ?_
  refine w_get (pc' := 19) W274 hx (hw _ (List.mem_of_getElem? w_93)) Via.refl F1 (hb hby d_jdk_68_22_16) rfl fun T275 W275 => ?_
  refine g_iloadN (pc' := 20) W275.here hx (hb hby d_jdk_68_22_19) rfl rfl ?_
  refine g_iadd (pc' := 21) W275.here hx (hb hby d_jdk_68_22_20) rfl ?_
  refine g_name (w := .int (35 : Int32)) (congrArg Value.int (by decide)) ?_
  have B276 : SBd Z h0 o vb (24 : Int32) 34 := ⟨E0, F1, F2, F3, _, VB, lv⟩
  refine w_privateF (pc' := 24) (st := []) (y := (⟨"java/lang/AbstractStringBuilder", "ensureCapacityInternal", "(I)V"⟩ : MethodName)) (a := o) W275 hx [(.int (35 : Int32))] (hw _ (List.mem_of_getElem? w_95)) (hw _ (List.mem_of_getElem? w_97)) (hw _ (List.mem_of_getElem? w_98)) (hw _ (List.mem_of_getElem? w_96)) (hw _ (List.mem_of_getElem? w_64)) (hw _ (List.mem_of_getElem? w_99)) (by decide) (c_ensure_24_34_35 l Z a0 hw hE cc fm o vb h0 W275.old G (by have := O.1; omega) (by have := O.1; omega) hov B276) E0 (allS (List.mem_of_getElem? (i := 0) rfl) all0) (by rw [hml]; rfl) (lenOf pd_9 rfl) rfl (hb hby d_jdk_68_22_21) (Nat.le_of_ble_eq_true rfl) (Nat.le_of_ble_eq_true rfl) (Nat.le_of_ble_eq_true rfl) (Nat.le_of_ble_eq_true rfl) rfl fun N306 v306 T306 h306 W306 K306 G306 Q306 => ?_
  have z_K306 : h0.size ≤ h306.size := K306.1
  obtain ⟨vb307, rfl, rfl, B307⟩ := Q306
  have gz308 := (G306 vb307 (List.mem_cons_self ..)).1
  have lt_vb307 := (G306 vb307 (List.mem_cons_self ..)).2
  have ne_o_vb307 : o ≠ vb307 := by omega
  have ne_vb_vb307 : vb ≠ vb307 := by omega
  have ne_a_vb307 : a ≠ vb307 := by omega
  have ne_sb_vb307 : sb ≠ vb307 := by omega
  obtain ⟨E0_309, F1_309, F2_309, F3_309, vs_309, VB_309, lv_309⟩ := id B307
  refine g_aloadN (pc' := 25) W306.here hx (hb hby d_jdk_68_22_24) rfl rfl rfl ?_
  refine g_aloadN (pc' := 26) W306.here hx (hb hby d_jdk_68_22_25) rfl rfl rfl ?_
  refine w_get (pc' := 29) W306 hx (hw _ (List.mem_of_getElem? w_93)) Via.refl F1_309 (hb hby d_jdk_68_22_26) rfl fun T310 W310 => ?_
  refine g_aloadN (pc' := 30) W310.here hx (hb hby d_jdk_68_22_29) rfl rfl rfl ?_
  have B311 : SBd Z h306 o vb307 (24 : Int32) 70 := ⟨E0_309, F1_309, F2_309, F3_309, _, VB_309, lv_309⟩
  have c312 := (S1.keep K306 (ninS (Ne.symm n1) nin0) (ninS (Ne.symm n2) nin0))
  refine w_private (pc' := 33) (st := []) (y := (⟨"java/lang/AbstractStringBuilder", "putStringAt", "(ILjava/lang/String;)V"⟩ : MethodName)) (a := o) W310 hx [(.int (24 : Int32)), (.ref a)] (hw _ (List.mem_of_getElem? w_100)) (hw _ (List.mem_of_getElem? w_102)) (hw _ (List.mem_of_getElem? w_103)) (hw _ (List.mem_of_getElem? w_101)) (hw _ (List.mem_of_getElem? w_64)) (hw _ (List.mem_of_getElem? w_104)) (by decide) (c_putStr_24_70_24_11 l Z a0 hw hE cc fm o vb307 a sb cs h306 W310.old G (by have := O.1; omega) (by have := O.1; omega) ne_o_vb307 B311 c312 hcs n1 n2 (Ne.symm ne_a_vb307) (Ne.symm ne_sb_vb307)) E0_309 (allS (List.mem_of_getElem? (i := 2) rfl) all0) (by rw [hml]; rfl) (lenOf pd_16 rfl) rfl (hb hby d_jdk_68_22_30) (Nat.le_of_ble_eq_true rfl) (Nat.le_of_ble_eq_true rfl) (Nat.le_of_ble_eq_true rfl) (Nat.le_of_ble_eq_true rfl) rfl fun v331 T331 h331 W331 K331 Q331 => ?_
  have z_K331 : h306.size ≤ h331.size := K331.1
  obtain ⟨rfl, B332⟩ := Q331
  obtain ⟨E0_333, F1_333, F2_333, F3_333, vs_333, VB_333, lv_333⟩ := id B332
  refine g_aloadN (pc' := 34) W331.here hx (hb hby d_jdk_68_22_33) rfl rfl rfl ?_
  refine g_dup (pc' := 35) W331.here hx (hb hby d_jdk_68_22_34) rfl rfl ?_
  refine w_get (pc' := 38) W331 hx (hw _ (List.mem_of_getElem? w_93)) Via.refl F1_333 (hb hby d_jdk_68_22_35) rfl fun T334 W334 => ?_
  refine g_iloadN (pc' := 39) W334.here hx (hb hby d_jdk_68_22_38) rfl rfl ?_
  refine g_iadd (pc' := 40) W334.here hx (hb hby d_jdk_68_22_39) rfl ?_
  refine g_name (w := .int (35 : Int32)) (congrArg Value.int (by decide)) ?_
  refine w_put (pc' := 43) W334 hx (hw _ (List.mem_of_getElem? w_93)) Via.refl F1_333 E0_333 (Or.inl (hw _ (List.mem_of_getElem? w_94))) (hw _ (List.mem_of_getElem? w_55)) (ty := .int) (by decide) rfl rfl (List.mem_of_getElem? (i := 0) rfl) (hb hby d_jdk_68_22_40) rfl fun T335 h335 W335 K335 R335 F335 A335 => ?_
  have z_K335 : h331.size ≤ h335.size := K335.1
  have c336 := (F2_333.other R335 (Or.inr (slot_ne (Or.inl (hw _ (List.mem_of_getElem? w_71))) (Or.inl (hw _ (List.mem_of_getElem? w_94))) (by decide) (t := .byte) (t' := .int) (by decide) (by decide))))
  have c337 := (F3_333.other R335 (Or.inr (slot_ne (Or.inl (hw _ (List.mem_of_getElem? w_69))) (Or.inl (hw _ (List.mem_of_getElem? w_94))) (by decide) (t := (.array .byte)) (t' := .int) (by decide) (by decide))))
  refine g_aloadN (pc' := 44) W335.here hx (hb hby d_jdk_68_22_43) rfl rfl rfl ?_
  have c339 := (VB_333.keep K335 (ninS (Ne.symm ne_o_vb307) nin0))
  have B338 : SBd Z h335 o vb307 (35 : Int32) 70 := ⟨A335, F335, c336, c337, _, c339, lv_333⟩
  refine w_retAF W335 hx hh hlk hret rfl rfl (hb hby d_jdk_68_22_44) (Nat.le_of_ble_eq_true rfl) (Nat.le_of_ble_eq_true rfl) [vb307] (allS (List.mem_of_getElem? (i := 0) rfl) all0) ?_
  exact ⟨_, rfl, rfl, B338⟩
set_option maxRecDepth 65536 in
set_option maxHeartbeats 40000000 in
theorem c_sbApp_24_34_11 (l : Launch) (Z : State) (a0 : Array Value) (hw : ∀ d ∈ tables_1, d.before a0 Z = true) (hE : EW Z a0 consts_1) (cc : Int32) (fm : Value) (o vb : Nat) (a sb : Nat) (cs : List Int32)  (h0 : Heap) (O : Ext Z.heap h0) (G : SEnv Z cc fm) (hz : Z.heap.size ≤ o) (hzb : Z.heap.size ≤ vb) (hov : o ≠ vb) (B0 : SBd Z h0 o vb (24 : Int32) 34) (S1 : SL Z h0 a sb cs) (hcs : cs.length = 11) (n1 : o ≠ a) (n2 : o ≠ sb) (n3 : vb ≠ a) (n4 : vb ≠ sb)  :
    ConF l Z consts_1 (⟨"java/lang/StringBuilder", "append", "(Ljava/lang/String;)Ljava/lang/StringBuilder;"⟩ : MethodName) jdk_67_method_7_code 2 (Option.some (Jvm.ClassFile.FieldType.object "java/lang/StringBuilder")) ({ frames := 5, cells := 1, slots := 70, locals := 83 } : Room) #[(.ref o), (.ref a)] h0 [o, vb] (fun N v h => ∃ vb2 : Nat, N = [vb2] ∧ v = some (.ref o) ∧ SBd Z h o vb2 (35 : Int32) 70) := by
  refine ConF.of (a0 := a0) #[.val (.ref o), .val (.ref a)] (plainFor_of_name pn_5) hE O (allS ⟨hz, by obtain ⟨E, -⟩ := B0; exact E.lt⟩ (allS ⟨hzb, B0.ltb⟩ all0)) (fun m => by first | (simp [entryFrame, mkF, argsToLocals, Value.category]; done) | rfl) ?_
  intro p e s m below meth c T0 hx hby hml hnm hret hlk hh W0
  obtain ⟨E0, F1, F2, F3, vs, VB, lv⟩ := id B0
  have lt_o : o < h0.size := E0.lt
  have lt_vb : vb < h0.size := VB.lt
  have ES1 := S1.1
  have lt_a : a < h0.size := S1.lt
  have lt_sb : sb < h0.size := S1.ltb
  refine g_aloadN (pc' := 1) W0.here hx (hb hby d_jdk_67_7_0) rfl rfl rfl ?_
  refine g_aloadN (pc' := 2) W0.here hx (hb hby d_jdk_67_7_1) rfl rfl rfl ?_
  have B273 : SBd Z h0 o vb (24 : Int32) 34 := ⟨E0, F1, F2, F3, _, VB, lv⟩
  refine w_superF (pc' := 5) (st := []) (y := (⟨"java/lang/AbstractStringBuilder", "append", "(Ljava/lang/String;)Ljava/lang/AbstractStringBuilder;"⟩ : MethodName)) (a := o) W0 hx [(.ref a)] (by decide) (hw _ (List.mem_of_getElem? w_78)) (hw _ (List.mem_of_getElem? w_79)) (own_same (y := (⟨"java/lang/AbstractStringBuilder", "append", "(Ljava/lang/String;)Ljava/lang/AbstractStringBuilder;"⟩ : MethodName)) (hw _ (List.mem_of_getElem? w_98)) rfl (hw _ (List.mem_of_getElem? w_79)) (by decide)) (hw _ (List.mem_of_getElem? w_80)) (hw _ (List.mem_of_getElem? w_64)) (hw _ (List.mem_of_getElem? w_82)) (by decide) (c_asbApp_24_34_11 l Z a0 hw hE cc fm o vb a sb cs h0 W0.old G (by have := O.1; omega) (by have := O.1; omega) hov B273 S1 hcs n1 n2 n3 n4) (Ins.self E0) (allS (List.mem_of_getElem? (i := 0) rfl) (allS (List.mem_of_getElem? (i := 1) rfl) all0)) (by rw [hml]; rfl) (lenOf pd_17 rfl) rfl (hb hby d_jdk_67_7_2) (Nat.le_of_ble_eq_true rfl) (Nat.le_of_ble_eq_true rfl) (Nat.le_of_ble_eq_true rfl) (Nat.le_of_ble_eq_true rfl) rfl fun N340 v340 T340 h340 W340 K340 G340 Q340 => ?_
  have z_K340 : h0.size ≤ h340.size := K340.1
  obtain ⟨vb341, rfl, rfl, B341⟩ := Q340
  have gz342 := (G340 vb341 (List.mem_cons_self ..)).1
  have lt_vb341 := (G340 vb341 (List.mem_cons_self ..)).2
  have ne_o_vb341 : o ≠ vb341 := by omega
  have ne_vb_vb341 : vb ≠ vb341 := by omega
  have ne_a_vb341 : a ≠ vb341 := by omega
  have ne_sb_vb341 : sb ≠ vb341 := by omega
  have EB343 := B341.1
  refine g_pop (pc' := 6) W340.here hx (hb hby d_jdk_67_7_5) rfl rfl ?_
  refine g_aloadN (pc' := 7) W340.here hx (hb hby d_jdk_67_7_6) rfl rfl rfl ?_
  refine w_retAF W340 hx hh hlk hret rfl rfl (hb hby d_jdk_67_7_7) (Nat.le_of_ble_eq_true rfl) (Nat.le_of_ble_eq_true rfl) [vb341] (allS (List.mem_of_getElem? (i := 0) rfl) all0) ?_
  exact ⟨_, rfl, rfl, B341⟩
set_option maxRecDepth 65536 in
set_option maxHeartbeats 40000000 in
theorem c_asbGetValue_35_70 (l : Launch) (Z : State) (a0 : Array Value) (hw : ∀ d ∈ tables_1, d.before a0 Z = true) (hE : EW Z a0 consts_1) (cc : Int32) (fm : Value) (o vb : Nat)  (h0 : Heap) (O : Ext Z.heap h0) (G : SEnv Z cc fm) (B0 : SBd Z h0 o vb (35 : Int32) 70) :
    Con l Z consts_1 (⟨"java/lang/AbstractStringBuilder", "getValue", "()[B"⟩ : MethodName) jdk_68_method_64_code 1 (Option.some (Jvm.ClassFile.FieldType.array Jvm.ClassFile.FieldType.byte)) ({ frames := 0, cells := 0, slots := 0, locals := 0 } : Room) #[(.ref o)] h0 [] (pureQ (some (.ref vb)) h0) := by
  refine Con.of (a0 := a0) #[.val (.ref o)] (plainFor_of_name pn_4) hE O all0 (fun m => by first | (simp [entryFrame, mkF, argsToLocals, Value.category]; done) | rfl) ?_
  intro p e s m below meth c T0 hx hby hml hnm hret hlk hh W0
  obtain ⟨E0, F1, F2, F3, vs, VB, lv⟩ := id B0
  have lt_o : o < h0.size := E0.lt
  have lt_vb : vb < h0.size := VB.lt
  refine g_aloadN (pc' := 1) W0.here hx (hb hby d_jdk_68_64_0) rfl rfl rfl ?_
  refine w_get (pc' := 4) W0 hx (hw _ (List.mem_of_getElem? w_68)) Via.refl F3 (hb hby d_jdk_68_64_1) rfl fun T359 W359 => ?_
  refine w_retA W359 hx hh hlk hret rfl rfl (hb hby d_jdk_68_64_4) (Nat.le_of_ble_eq_true rfl) (Nat.le_of_ble_eq_true rfl) ?_
  exact ⟨rfl, rfl⟩
set_option maxRecDepth 65536 in
set_option maxHeartbeats 40000000 in
theorem c_asbLength_35_70 (l : Launch) (Z : State) (a0 : Array Value) (hw : ∀ d ∈ tables_1, d.before a0 Z = true) (hE : EW Z a0 consts_1) (cc : Int32) (fm : Value) (o vb : Nat)  (h0 : Heap) (O : Ext Z.heap h0) (G : SEnv Z cc fm) (B0 : SBd Z h0 o vb (35 : Int32) 70) :
    Con l Z consts_1 (⟨"java/lang/AbstractStringBuilder", "length", "()I"⟩ : MethodName) jdk_68_method_6_code 1 (Option.some Jvm.ClassFile.FieldType.int) ({ frames := 0, cells := 0, slots := 0, locals := 0 } : Room) #[(.ref o)] h0 [] (pureQ (some (.int (35 : Int32))) h0) := by
  refine Con.of (a0 := a0) #[.val (.ref o)] (plainFor_of_name pn_4) hE O all0 (fun m => by first | (simp [entryFrame, mkF, argsToLocals, Value.category]; done) | rfl) ?_
  intro p e s m below meth c T0 hx hby hml hnm hret hlk hh W0
  obtain ⟨E0, F1, F2, F3, vs, VB, lv⟩ := id B0
  have lt_o : o < h0.size := E0.lt
  have lt_vb : vb < h0.size := VB.lt
  refine g_aloadN (pc' := 1) W0.here hx (hb hby d_jdk_68_6_0) rfl rfl rfl ?_
  refine w_get (pc' := 4) W0 hx (hw _ (List.mem_of_getElem? w_93)) Via.refl F1 (hb hby d_jdk_68_6_1) rfl fun T363 W363 => ?_
  refine w_retI W363 hx hh hlk hret (hb hby d_jdk_68_6_4) (Nat.le_of_ble_eq_true rfl) (Nat.le_of_ble_eq_true rfl) ?_
  exact ⟨rfl, rfl⟩
set_option maxRecDepth 65536 in
set_option maxHeartbeats 40000000 in
theorem c_sbLength_35_70 (l : Launch) (Z : State) (a0 : Array Value) (hw : ∀ d ∈ tables_1, d.before a0 Z = true) (hE : EW Z a0 consts_1) (cc : Int32) (fm : Value) (o vb : Nat)  (h0 : Heap) (O : Ext Z.heap h0) (G : SEnv Z cc fm) (B0 : SBd Z h0 o vb (35 : Int32) 70) :
    Con l Z consts_1 (⟨"java/lang/StringBuilder", "length", "()I"⟩ : MethodName) jdk_67_method_93_code 1 (Option.some Jvm.ClassFile.FieldType.int) ({ frames := 1, cells := 0, slots := 0, locals := 12 } : Room) #[(.ref o)] h0 [] (fun v _ => v = some (.int (35 : Int32))) := by
  refine Con.of (a0 := a0) #[.val (.ref o)] (plainFor_of_name pn_5) hE O all0 (fun m => by first | (simp [entryFrame, mkF, argsToLocals, Value.category]; done) | rfl) ?_
  intro p e s m below meth c T0 hx hby hml hnm hret hlk hh W0
  obtain ⟨E0, F1, F2, F3, vs, VB, lv⟩ := id B0
  have lt_o : o < h0.size := E0.lt
  have lt_vb : vb < h0.size := VB.lt
  refine g_aloadN (pc' := 1) W0.here hx (hb hby d_jdk_67_93_0) rfl rfl rfl ?_
  have B362 : SBd Z h0 o vb (35 : Int32) 70 := ⟨E0, F1, F2, F3, _, VB, lv⟩
  refine w_super (pc' := 4) (st := []) (y := (⟨"java/lang/AbstractStringBuilder", "length", "()I"⟩ : MethodName)) (a := o) W0 hx [] (by decide) (hw _ (List.mem_of_getElem? w_191)) (hw _ (List.mem_of_getElem? w_187)) (own_same (y := (⟨"java/lang/AbstractStringBuilder", "length", "()I"⟩ : MethodName)) (hw _ (List.mem_of_getElem? w_98)) rfl (hw _ (List.mem_of_getElem? w_187)) (by decide)) (hw _ (List.mem_of_getElem? w_80)) (hw _ (List.mem_of_getElem? w_64)) (hw _ (List.mem_of_getElem? w_192)) (by decide) (c_asbLength_35_70 l Z a0 hw hE cc fm o vb h0 W0.old G B362) (Ins.self E0) all0 (by rw [hml]; rfl) (lenOf pd_13 rfl) rfl (hb hby d_jdk_67_93_1) (Nat.le_of_ble_eq_true rfl) (Nat.le_of_ble_eq_true rfl) (Nat.le_of_ble_eq_true rfl) (Nat.le_of_ble_eq_true rfl) rfl fun v364 T364 h364 W364 K364 Q364 => ?_
  have z_K364 : h0.size ≤ h364.size := K364.1
  obtain ⟨rfl, -⟩ := Q364
  refine w_retI W364 hx hh hlk hret (hb hby d_jdk_67_93_4) (Nat.le_of_ble_eq_true rfl) (Nat.le_of_ble_eq_true rfl) ?_
  exact rfl
set_option maxRecDepth 65536 in
set_option maxHeartbeats 40000000 in
theorem c_asbLat_35_70 (l : Launch) (Z : State) (a0 : Array Value) (hw : ∀ d ∈ tables_1, d.before a0 Z = true) (hE : EW Z a0 consts_1) (cc : Int32) (fm : Value) (o vb : Nat)  (h0 : Heap) (O : Ext Z.heap h0) (G : SEnv Z cc fm) (B0 : SBd Z h0 o vb (35 : Int32) 70) :
    Con l Z consts_1 (⟨"java/lang/AbstractStringBuilder", "isLatin1", "()Z"⟩ : MethodName) jdk_68_method_68_code 1 (Option.some Jvm.ClassFile.FieldType.boolean) ({ frames := 0, cells := 0, slots := 0, locals := 0 } : Room) #[(.ref o)] h0 [] (pureQ (some (.int 1)) h0) := by
  refine Con.of (a0 := a0) #[.val (.ref o)] (plainFor_of_name pn_4) hE O all0 (fun m => by first | (simp [entryFrame, mkF, argsToLocals, Value.category]; done) | rfl) ?_
  intro p e s m below meth c T0 hx hby hml hnm hret hlk hh W0
  obtain ⟨E0, F1, F2, F3, vs, VB, lv⟩ := id B0
  have lt_o : o < h0.size := E0.lt
  have lt_vb : vb < h0.size := VB.lt
  refine w_getS (pc' := 3) W0 hx (hw _ (List.mem_of_getElem? w_67)) Via.refl G.1 (hb hby d_jdk_68_68_0) rfl fun T372 W372 => ?_
  refine g_ifN (pc' := 6) W372.here hx (hb hby d_jdk_68_68_3) rfl (feq (show ¬ (cc = (0 : Int32)) from G.2.1)).1 ?_
  refine g_aloadN (pc' := 7) W372.here hx (hb hby d_jdk_68_68_6) rfl rfl rfl ?_
  refine w_get (pc' := 10) W372 hx (hw _ (List.mem_of_getElem? w_70)) Via.refl F2 (hb hby d_jdk_68_68_7) rfl fun T373 W373 => ?_
  refine g_ifN (pc' := 13) W373.here hx (hb hby d_jdk_68_68_10) rfl (teq (show (0 : Int32) = (0 : Int32) from (by decide))).2 ?_
  refine g_iconst (1 : Int32) (pc' := 14) W373.here hx (hb hby d_jdk_68_68_13) rfl rfl ?_
  refine g_goto (pc' := 18) W373.here hx (hb hby d_jdk_68_68_14) rfl ?_
  refine w_retN (t := .boolean) W373 hx hh hlk hret (by simp) (hb hby d_jdk_68_68_18) (Nat.le_of_ble_eq_true rfl) (Nat.le_of_ble_eq_true rfl) ?_
  exact ⟨rfl, rfl⟩
set_option maxRecDepth 65536 in
set_option maxHeartbeats 40000000 in
theorem c_checkLength_0_35 (l : Launch) (Z : State) (a0 : Array Value) (hw : ∀ d ∈ tables_1, d.before a0 Z = true) (hE : EW Z a0 consts_1)  (h0 : Heap) (O : Ext Z.heap h0)  :
    Con l Z consts_1 (⟨"java/util/Arrays", "checkLength", "(II)V"⟩ : MethodName) jdk_65_method_131_code 2 (Option.none : Option Jvm.ClassFile.FieldType) ({ frames := 0, cells := 0, slots := 0, locals := 0 } : Room) #[(.int (0 : Int32)), (.int (35 : Int32))] h0 [] (pureQ none h0) := by
  refine Con.of (a0 := a0) #[.val (.int (0 : Int32)), .val (.int (35 : Int32))] (plainFor_of_name pn_9) hE O all0 (fun m => by first | (simp [entryFrame, mkF, argsToLocals, Value.category]; done) | rfl) ?_
  intro p e s m below meth c T0 hx hby hml hnm hret hlk hh W0
  refine g_iloadN (pc' := 1) W0.here hx (hb hby d_jdk_65_131_0) rfl rfl ?_
  refine g_iloadN (pc' := 2) W0.here hx (hb hby d_jdk_65_131_1) rfl rfl ?_
  refine g_icmpY (pc' := 37) W0.here hx (hb hby d_jdk_65_131_2) rfl (flt (show ¬ ((35 : Int32) < (0 : Int32)) from (by decide))).2.1 ?_
  refine w_retV W0 hx hh hlk hret (hb hby d_jdk_65_131_37) (Nat.le_of_ble_eq_true rfl) (Nat.le_of_ble_eq_true rfl) ?_
  exact ⟨rfl, rfl⟩
set_option maxRecDepth 65536 in
set_option maxHeartbeats 40000000 in
theorem c_min_70_35 (l : Launch) (Z : State) (a0 : Array Value) (hw : ∀ d ∈ tables_1, d.before a0 Z = true) (hE : EW Z a0 consts_1)  (h0 : Heap) (O : Ext Z.heap h0)  :
    Con l Z consts_1 (⟨"java/lang/Math", "min", "(II)I"⟩ : MethodName) jdk_29_method_69_code 2 (Option.some Jvm.ClassFile.FieldType.int) ({ frames := 0, cells := 0, slots := 0, locals := 0 } : Room) #[(.int (70 : Int32)), (.int (35 : Int32))] h0 [] (pureQ (some (.int (35 : Int32))) h0) := by
  refine Con.of (a0 := a0) #[.val (.int (70 : Int32)), .val (.int (35 : Int32))] (Jvm.Free.JP.mathPlain rfl (by decide +kernel)) hE O all0 (fun m => by first | (simp [entryFrame, mkF, argsToLocals, Value.category]; done) | rfl) ?_
  intro p e s m below meth c T0 hx hby hml hnm hret hlk hh W0
  refine g_iloadN (pc' := 1) W0.here hx (hb hby d_jdk_29_69_0) rfl rfl ?_
  refine g_iloadN (pc' := 2) W0.here hx (hb hby d_jdk_29_69_1) rfl rfl ?_
  refine g_icmpY (pc' := 9) W0.here hx (hb hby d_jdk_29_69_2) rfl (tlt (show (35 : Int32) < (70 : Int32) from (by decide))).2.2.1 ?_
  refine g_iloadN (pc' := 10) W0.here hx (hb hby d_jdk_29_69_9) rfl rfl ?_
  refine w_retI W0 hx hh hlk hret (hb hby d_jdk_29_69_10) (Nat.le_of_ble_eq_true rfl) (Nat.le_of_ble_eq_true rfl) ?_
  exact ⟨rfl, rfl⟩
set_option maxRecDepth 65536 in
set_option maxHeartbeats 40000000 in
theorem c_corb_70_0_35 (l : Launch) (Z : State) (a0 : Array Value) (hw : ∀ d ∈ tables_1, d.before a0 Z = true) (hE : EW Z a0 consts_1) (ba : Nat) (vs : List Value) (h0 : Heap) (O : Ext Z.heap h0) (VA : Ary Z h0 ba .byte vs) (lv : vs.length = 70) :
    ConF l Z consts_1 (⟨"java/util/Arrays", "copyOfRangeByte", "([BII)[B"⟩ : MethodName) jdk_65_method_133_code 5 (Option.some (Jvm.ClassFile.FieldType.array Jvm.ClassFile.FieldType.byte)) ({ frames := 1, cells := 1, slots := 35, locals := 40 } : Room) #[(.ref ba), (.int (0 : Int32)), (.int (35 : Int32))] h0 [] (fun N v h => ∃ (bb : Nat) (vs : List Value), N = [bb] ∧ v = some (.ref bb) ∧ Ary Z h bb .byte vs ∧ vs.length = 35) := by
  refine ConF.of (a0 := a0) #[.val (.ref ba), .val (.int (0 : Int32)), .val (.int (35 : Int32)), .unset, .unset] (plainFor_of_name pn_9) hE O all0 (fun m => by first | (simp [entryFrame, mkF, argsToLocals, Value.category]; done) | rfl) ?_
  intro p e s m below meth c T0 hx hby hml hnm hret hlk hh W0
  have lt_ba : ba < h0.size := VA.lt
  refine g_iloadN (pc' := 1) W0.here hx (hb hby d_jdk_65_133_0) rfl rfl ?_
  refine g_iloadN (pc' := 2) W0.here hx (hb hby d_jdk_65_133_1) rfl rfl ?_
  refine w_callSp (pc' := 5) (st := []) (y := (⟨"java/util/Arrays", "checkLength", "(II)V"⟩ : MethodName)) W0 hx [(.int (0 : Int32)), (.int (35 : Int32))] (hw _ (List.mem_of_getElem? w_200)) (hw _ (List.mem_of_getElem? w_201)) (hw _ (List.mem_of_getElem? w_138)) (hw _ (List.mem_of_getElem? w_202)) (by decide) (c_checkLength_0_35 l Z a0 hw hE h0 W0.old) (by rw [hml]; rfl) (lenOf pd_6 rfl) rfl (hb hby d_jdk_65_133_2) (Nat.le_of_ble_eq_true rfl) (Nat.le_of_ble_eq_true rfl) rfl rfl (Nat.le_of_ble_eq_true rfl) (Nat.le_of_ble_eq_true rfl) rfl fun T381 W381 => ?_
  refine g_iloadN (pc' := 6) W381.here hx (hb hby d_jdk_65_133_5) rfl rfl ?_
  refine g_iloadN (pc' := 7) W381.here hx (hb hby d_jdk_65_133_6) rfl rfl ?_
  refine g_isub (pc' := 8) W381.here hx (hb hby d_jdk_65_133_7) rfl ?_
  refine g_name (w := .int (35 : Int32)) (congrArg Value.int (by decide)) ?_
  refine g_istoreN (pc' := 9) (Ls' := #[.val (.ref ba), .val (.int (0 : Int32)), .val (.int (35 : Int32)), .val (.int (35 : Int32)), .unset]) W381.here hx (hb hby d_jdk_65_133_8) rfl rfl ?_
  refine g_iloadN (pc' := 10) W381.here hx (hb hby d_jdk_65_133_9) rfl rfl ?_
  refine w_newarr (pc' := 12) (cap := 35) W381 hx (hw _ (List.mem_of_getElem? w_24)) (hb hby d_jdk_65_133_10) (by decide) (Nat.le_refl _) (Nat.le_of_ble_eq_true rfl) (Nat.le_of_ble_eq_true rfl) (Nat.le_of_ble_eq_true rfl) rfl rfl fun T382 h382 b382 g382 W382 K382 V382 => ?_
  have z_K382 : h0.size ≤ h382.size := K382.1
  have ne_ba_b382 : ba ≠ b382 := by omega
  have lt_b382 : b382 < h382.size := W382.lt (List.mem_cons_self ..)
  have V382 : Ary Z h382 b382 .byte [(.int (0 : Int32)), (.int (0 : Int32)), (.int (0 : Int32)), (.int (0 : Int32)), (.int (0 : Int32)), (.int (0 : Int32)), (.int (0 : Int32)), (.int (0 : Int32)), (.int (0 : Int32)), (.int (0 : Int32)), (.int (0 : Int32)), (.int (0 : Int32)), (.int (0 : Int32)), (.int (0 : Int32)), (.int (0 : Int32)), (.int (0 : Int32)), (.int (0 : Int32)), (.int (0 : Int32)), (.int (0 : Int32)), (.int (0 : Int32)), (.int (0 : Int32)), (.int (0 : Int32)), (.int (0 : Int32)), (.int (0 : Int32)), (.int (0 : Int32)), (.int (0 : Int32)), (.int (0 : Int32)), (.int (0 : Int32)), (.int (0 : Int32)), (.int (0 : Int32)), (.int (0 : Int32)), (.int (0 : Int32)), (.int (0 : Int32)), (.int (0 : Int32)), (.int (0 : Int32))] := V382
  obtain ⟨vn383, VN383, ln383⟩ : ∃ vs : List Value, Ary Z h382 b382 .byte vs ∧ vs.length = 35 := ⟨_, V382, rfl⟩
  refine g_astore (pc' := 14) (Ls' := #[.val (.ref ba), .val (.int (0 : Int32)), .val (.int (35 : Int32)), .val (.int (35 : Int32)), .val (.ref b382)]) W382.here hx (hb hby d_jdk_65_133_12) rfl rfl rfl ?_
  refine g_aloadN (pc' := 15) W382.here hx (hb hby d_jdk_65_133_14) rfl rfl rfl ?_
  refine g_iloadN (pc' := 16) W382.here hx (hb hby d_jdk_65_133_15) rfl rfl ?_
  refine g_aload (pc' := 18) W382.here hx (hb hby d_jdk_65_133_16) rfl rfl rfl ?_
  refine g_iconst (0 : Int32) (pc' := 19) W382.here hx (hb hby d_jdk_65_133_18) rfl rfl ?_
  refine g_aloadN (pc' := 20) W382.here hx (hb hby d_jdk_65_133_19) rfl rfl rfl ?_
  have c384 := (VA.keep K382 nin0)
  refine w_len (pc' := 21) W382 hx c384 (hb hby d_jdk_65_133_20) rfl ?_
  refine g_name (w := .int (70 : Int32)) (congrArg Value.int (by rw [lv]; rfl)) ?_
  refine g_iloadN (pc' := 22) W382.here hx (hb hby d_jdk_65_133_21) rfl rfl ?_
  refine g_isub (pc' := 23) W382.here hx (hb hby d_jdk_65_133_22) rfl ?_
  refine g_name (w := .int (70 : Int32)) (congrArg Value.int (by decide)) ?_
  refine g_iloadN (pc' := 24) W382.here hx (hb hby d_jdk_65_133_23) rfl rfl ?_
  refine w_callSp (pc' := 27) (st := [(.int (0 : Int32)), (.ref b382), (.int (0 : Int32)), (.ref ba)]) (y := (⟨"java/lang/Math", "min", "(II)I"⟩ : MethodName)) W382 hx [(.int (70 : Int32)), (.int (35 : Int32))] (hw _ (List.mem_of_getElem? w_140)) (hw _ (List.mem_of_getElem? w_141)) (hw _ (List.mem_of_getElem? w_132)) (hw _ (List.mem_of_getElem? w_142)) (by decide) (c_min_70_35 l Z a0 hw hE h382 W382.old) (by rw [hml]; rfl) (lenOf pd_19 rfl) rfl (hb hby d_jdk_65_133_24) (Nat.le_of_ble_eq_true rfl) (Nat.le_of_ble_eq_true rfl) rfl rfl (Nat.le_of_ble_eq_true rfl) (Nat.le_of_ble_eq_true rfl) rfl fun T385 W385 => ?_
  refine w_arrcopy (pc' := 30) (st := []) W385 hx (hw _ (List.mem_of_getElem? w_143)) (hw _ (List.mem_of_getElem? w_119)) (hw _ (List.mem_of_getElem? w_117)) (hw _ (List.mem_of_getElem? w_118)) c384 VN383 (List.mem_of_getElem? (i := 0) rfl) (by decide) (by decide) (by decide) (by rw [lv]; exact (Nat.le_of_ble_eq_true rfl)) (by rw [ln383]; exact (Nat.le_of_ble_eq_true rfl)) (by rw [hml]; rfl) (hb hby d_jdk_65_133_27) (Nat.le_of_ble_eq_true rfl) (Nat.le_of_ble_eq_true rfl) rfl fun T386 h386 W386 K386 V386 => ?_
  have z_K386 : h382.size ≤ h386.size := K386.1
  obtain ⟨vs387, VN387, lv387⟩ : ∃ vs : List Value, Ary Z h386 b382 .byte vs ∧ vs.length = 35 := ⟨_, V386, by first | (simp only [List.length_append, List.length_take, List.length_drop, List.length_map, ln383, lv]; done) | (simp only [List.length_append, List.length_take, List.length_drop, List.length_map, ln383, lv]; decide)⟩
  refine g_aload (pc' := 32) W386.here hx (hb hby d_jdk_65_133_30) rfl rfl rfl ?_
  refine w_retAF W386 hx hh hlk hret rfl rfl (hb hby d_jdk_65_133_32) (Nat.le_of_ble_eq_true rfl) (Nat.le_of_ble_eq_true rfl) [b382] (allS (List.mem_of_getElem? (i := 0) rfl) all0) ?_
  exact ⟨_, _, rfl, rfl, VN387, lv387⟩
set_option maxRecDepth 65536 in
set_option maxHeartbeats 40000000 in
theorem c_cor_70_0_35 (l : Launch) (Z : State) (a0 : Array Value) (hw : ∀ d ∈ tables_1, d.before a0 Z = true) (hE : EW Z a0 consts_1) (ba : Nat) (vs : List Value) (h0 : Heap) (O : Ext Z.heap h0) (VA : Ary Z h0 ba .byte vs) (lv : vs.length = 70) :
    ConF l Z consts_1 (⟨"java/util/Arrays", "copyOfRange", "([BII)[B"⟩ : MethodName) jdk_65_method_132_code 3 (Option.some (Jvm.ClassFile.FieldType.array Jvm.ClassFile.FieldType.byte)) ({ frames := 2, cells := 1, slots := 35, locals := 56 } : Room) #[(.ref ba), (.int (0 : Int32)), (.int (35 : Int32))] h0 [] (fun N v h => ∃ (bb : Nat) (vs : List Value), N = [bb] ∧ v = some (.ref bb) ∧ Ary Z h bb .byte vs ∧ vs.length = 35) := by
  refine ConF.of (a0 := a0) #[.val (.ref ba), .val (.int (0 : Int32)), .val (.int (35 : Int32))] (plainFor_of_name pn_9) hE O all0 (fun m => by first | (simp [entryFrame, mkF, argsToLocals, Value.category]; done) | rfl) ?_
  intro p e s m below meth c T0 hx hby hml hnm hret hlk hh W0
  have lt_ba : ba < h0.size := VA.lt
  refine g_iloadN (pc' := 1) W0.here hx (hb hby d_jdk_65_132_0) rfl rfl ?_
  refine g_ifN (pc' := 4) W0.here hx (hb hby d_jdk_65_132_1) rfl (teq (show (0 : Int32) = (0 : Int32) from (by decide))).2 ?_
  refine g_iloadN (pc' := 5) W0.here hx (hb hby d_jdk_65_132_4) rfl rfl ?_
  refine g_aloadN (pc' := 6) W0.here hx (hb hby d_jdk_65_132_5) rfl rfl rfl ?_
  refine w_len (pc' := 7) W0 hx VA (hb hby d_jdk_65_132_6) rfl ?_
  refine g_name (w := .int (70 : Int32)) (congrArg Value.int (by rw [lv]; rfl)) ?_
  refine g_icmpN (pc' := 10) W0.here hx (hb hby d_jdk_65_132_7) rfl (feq (show ¬ ((35 : Int32) = (70 : Int32)) from (by decide))).1 ?_
  refine g_aloadN (pc' := 11) W0.here hx (hb hby d_jdk_65_132_10) rfl rfl rfl ?_
  refine g_iloadN (pc' := 12) W0.here hx (hb hby d_jdk_65_132_11) rfl rfl ?_
  refine g_iloadN (pc' := 13) W0.here hx (hb hby d_jdk_65_132_12) rfl rfl ?_
  refine w_callSF (pc' := 16) (st := []) (y := (⟨"java/util/Arrays", "copyOfRangeByte", "([BII)[B"⟩ : MethodName)) W0 hx [(.ref ba), (.int (0 : Int32)), (.int (35 : Int32))] (hw _ (List.mem_of_getElem? w_197)) (hw _ (List.mem_of_getElem? w_198)) (hw _ (List.mem_of_getElem? w_138)) (hw _ (List.mem_of_getElem? w_199)) (by decide) (c_corb_70_0_35 l Z a0 hw hE ba vs h0 W0.old VA lv) all0 (by rw [hml]; rfl) (lenOf pd_27 rfl) rfl (hb hby d_jdk_65_132_13) (Nat.le_of_ble_eq_true rfl) (Nat.le_of_ble_eq_true rfl) (Nat.le_of_ble_eq_true rfl) (Nat.le_of_ble_eq_true rfl) rfl fun N388 v388 T388 h388 W388 K388 G388 Q388 => ?_
  have z_K388 : h0.size ≤ h388.size := K388.1
  obtain ⟨nb389, nv389, rfl, rfl, NV389, nl389⟩ := Q388
  have gz390 := (G388 nb389 (List.mem_cons_self ..)).1
  have lt_nb389 := (G388 nb389 (List.mem_cons_self ..)).2
  have ne_ba_nb389 : ba ≠ nb389 := by omega
  refine w_retAF W388 hx hh hlk hret rfl rfl (hb hby d_jdk_65_132_16) (Nat.le_of_ble_eq_true rfl) (Nat.le_of_ble_eq_true rfl) [nb389] (allS (List.mem_of_getElem? (i := 0) rfl) all0) ?_
  exact ⟨_, _, rfl, rfl, NV389, nl389⟩
set_option maxRecDepth 65536 in
set_option maxHeartbeats 40000000 in
theorem c_strASB_35_70 (l : Launch) (Z : State) (a0 : Array Value) (hw : ∀ d ∈ tables_1, d.before a0 Z = true) (hE : EW Z a0 consts_1) (cc : Int32) (fm : Value) (t o vb : Nat)  (h0 : Heap) (O : Ext Z.heap h0) (G : SEnv Z cc fm) (hzt : Z.heap.size ≤ t) (Et : Exa Z h0 t "java/lang/String") (u1 u2 : Value) (G1 : Fld Z h0 t "java/lang/String" "coder" "B" u1) (G2 : Fld Z h0 t "java/lang/String" "value" "[B" u2) (nt : t ≠ o) (ntb : t ≠ vb) (B0 : SBd Z h0 o vb (35 : Int32) 70)  :
    Con l Z consts_1 (⟨"java/lang/String", "<init>", "(Ljava/lang/AbstractStringBuilder;Ljava/lang/Void;)V"⟩ : MethodName) jdk_42_method_150_code 5 (Option.none : Option Jvm.ClassFile.FieldType) ({ frames := 3, cells := 1, slots := 35, locals := 71 } : Room) #[(.ref t), (.ref o), .null] h0 [t] (fun v _ => v = none) := by
  refine Con.of (a0 := a0) #[.val (.ref t), .val (.ref o), .val .null, .unset, .unset] (plainFor_of_name pn_1) hE O (allS ⟨hzt, Et.lt⟩ all0) (fun m => by first | (simp [entryFrame, mkF, argsToLocals, Value.category]; done) | rfl) ?_
  intro p e s m below meth c T0 hx hby hml hnm hret hlk hh W0
  obtain ⟨E0, F1, F2, F3, vs, VB, lv⟩ := id B0
  have lt_o : o < h0.size := E0.lt
  have lt_vb : vb < h0.size := VB.lt
  have lt_t : t < h0.size := Et.lt
  refine g_aloadN (pc' := 1) W0.here hx (hb hby d_jdk_42_150_0) rfl rfl rfl ?_
  refine w_initO (pc' := 4) W0 hx (hw _ (List.mem_of_getElem? w_16)) (hw _ (List.mem_of_getElem? w_17)) (hw _ (List.mem_of_getElem? w_18)) (by rw [hml]; rfl) (hb hby d_jdk_42_150_1) (Nat.le_of_ble_eq_true rfl) (Nat.le_of_ble_eq_true rfl) rfl fun T357 W357 => ?_
  refine g_aloadN (pc' := 5) W357.here hx (hb hby d_jdk_42_150_4) rfl rfl rfl ?_
  have B358 : SBd Z h0 o vb (35 : Int32) 70 := ⟨E0, F1, F2, F3, _, VB, lv⟩
  refine w_virtualp (pc' := 8) (st := []) (y := (⟨"java/lang/AbstractStringBuilder", "getValue", "()[B"⟩ : MethodName)) (z := (⟨"java/lang/AbstractStringBuilder", "getValue", "()[B"⟩ : MethodName)) (a := o) W357 hx [] (hw _ (List.mem_of_getElem? w_180)) (hw _ (List.mem_of_getElem? w_181)) (nfS (z := (⟨"java/lang/AbstractStringBuilder", "getValue", "()[B"⟩ : MethodName)) (hw _ (List.mem_of_getElem? w_183))) (hw _ (List.mem_of_getElem? w_183)) (hw _ (List.mem_of_getElem? w_182)) (hw _ (List.mem_of_getElem? w_64)) (hw _ (List.mem_of_getElem? w_184)) (by decide) (c_asbGetValue_35_70 l Z a0 hw hE cc fm o vb h0 W357.old G B358) E0 (by rw [hml]; rfl) (lenOf pd_26 rfl) rfl (hb hby d_jdk_42_150_5) (Nat.le_of_ble_eq_true rfl) (Nat.le_of_ble_eq_true rfl) rfl rfl (Nat.le_of_ble_eq_true rfl) (Nat.le_of_ble_eq_true rfl) rfl fun T360 W360 => ?_
  refine g_astoreN (pc' := 9) (Ls' := #[.val (.ref t), .val (.ref o), .val .null, .val (.ref vb), .unset]) W360.here hx (hb hby d_jdk_42_150_8) rfl rfl rfl ?_
  refine g_aloadN (pc' := 10) W360.here hx (hb hby d_jdk_42_150_9) rfl rfl rfl ?_
  have B361 : SBd Z h0 o vb (35 : Int32) 70 := ⟨E0, F1, F2, F3, _, VB, lv⟩
  refine w_virtual (pc' := 13) (st := []) (y := (⟨"java/lang/AbstractStringBuilder", "length", "()I"⟩ : MethodName)) (z := (⟨"java/lang/StringBuilder", "length", "()I"⟩ : MethodName)) (a := o) W360 hx [] (hw _ (List.mem_of_getElem? w_185)) (hw _ (List.mem_of_getElem? w_186)) (nfC (y := (⟨"java/lang/AbstractStringBuilder", "length", "()I"⟩ : MethodName)) (hw _ (List.mem_of_getElem? w_98)) rfl) (hw _ (List.mem_of_getElem? w_188)) (hw _ (List.mem_of_getElem? w_189)) (hw _ (List.mem_of_getElem? w_56)) (hw _ (List.mem_of_getElem? w_190)) (by decide) (c_sbLength_35_70 l Z a0 hw hE cc fm o vb h0 W360.old G B361) E0 all0 (by rw [hml]; rfl) (lenOf pd_13 rfl) rfl (hb hby d_jdk_42_150_10) (Nat.le_of_ble_eq_true rfl) (Nat.le_of_ble_eq_true rfl) (Nat.le_of_ble_eq_true rfl) (Nat.le_of_ble_eq_true rfl) rfl fun v365 T365 h365 W365 K365 Q365 => ?_
  have z_K365 : h0.size ≤ h365.size := K365.1
  obtain rfl := Q365
  refine g_istore (pc' := 15) (Ls' := #[.val (.ref t), .val (.ref o), .val .null, .val (.ref vb), .val (.int (35 : Int32))]) W365.here hx (hb hby d_jdk_42_150_13) rfl rfl ?_
  refine g_aloadN (pc' := 16) W365.here hx (hb hby d_jdk_42_150_15) rfl rfl rfl ?_
  have c367 := (VB.keep K365 nin0)
  have c368 := (E0.keep K365)
  have c369 := (F1.keep K365 nin0)
  have c370 := (F2.keep K365 nin0)
  have c371 := (F3.keep K365 nin0)
  have B366 : SBd Z h365 o vb (35 : Int32) 70 := ⟨c368, c369, c370, c371, _, c367, lv⟩
  refine w_virtualp (pc' := 19) (st := []) (y := (⟨"java/lang/AbstractStringBuilder", "isLatin1", "()Z"⟩ : MethodName)) (z := (⟨"java/lang/AbstractStringBuilder", "isLatin1", "()Z"⟩ : MethodName)) (a := o) W365 hx [] (hw _ (List.mem_of_getElem? w_193)) (hw _ (List.mem_of_getElem? w_158)) (nfS (z := (⟨"java/lang/AbstractStringBuilder", "isLatin1", "()Z"⟩ : MethodName)) (hw _ (List.mem_of_getElem? w_160))) (hw _ (List.mem_of_getElem? w_160)) (hw _ (List.mem_of_getElem? w_159)) (hw _ (List.mem_of_getElem? w_64)) (hw _ (List.mem_of_getElem? w_161)) (by decide) (c_asbLat_35_70 l Z a0 hw hE cc fm o vb h365 W365.old G B366) c368 (by rw [hml]; rfl) (lenOf pd_7 rfl) rfl (hb hby d_jdk_42_150_16) (Nat.le_of_ble_eq_true rfl) (Nat.le_of_ble_eq_true rfl) rfl rfl (Nat.le_of_ble_eq_true rfl) (Nat.le_of_ble_eq_true rfl) rfl fun T374 W374 => ?_
  refine g_ifN (pc' := 22) W374.here hx (hb hby d_jdk_42_150_19) rfl (feq (show ¬ ((1 : Int32) = (0 : Int32)) from (by decide))).1 ?_
  refine g_aloadN (pc' := 23) W374.here hx (hb hby d_jdk_42_150_22) rfl rfl rfl ?_
  refine g_iconst (0 : Int32) (pc' := 24) W374.here hx (hb hby d_jdk_42_150_23) rfl rfl ?_
  have c375 := (G1.keep K365 nin0)
  have c376 := (Et.keep K365)
  refine w_putN (pc' := 27) (v' := (.int (0 : Int32))) W374 hx (hw _ (List.mem_of_getElem? w_31)) Via.refl c375 c376 (Or.inr ⟨(hw _ (List.mem_of_getElem? w_32)), rfl, hnm⟩) (hw _ (List.mem_of_getElem? w_7)) (ty := .byte) (by decide) rfl rfl (List.mem_of_getElem? (i := 0) rfl) (hb hby d_jdk_42_150_24) rfl fun T377 h377 W377 K377 R377 F377 A377 => ?_
  have c378 := (G2.keep K365 nin0)
  have z_K377 : h365.size ≤ h377.size := K377.1
  have c379 := (c378.other R377 (Or.inr (slot_ne (Or.inr (hw _ (List.mem_of_getElem? w_34))) (Or.inr (hw _ (List.mem_of_getElem? w_32))) (by decide) (t := (.array .byte)) (t' := .byte) (by decide) (by decide))))
  refine g_aloadN (pc' := 28) W377.here hx (hb hby d_jdk_42_150_27) rfl rfl rfl ?_
  refine g_aloadN (pc' := 29) W377.here hx (hb hby d_jdk_42_150_28) rfl rfl rfl ?_
  refine g_iconst (0 : Int32) (pc' := 30) W377.here hx (hb hby d_jdk_42_150_29) rfl rfl ?_
  refine g_iload (pc' := 32) W377.here hx (hb hby d_jdk_42_150_30) rfl rfl ?_
  have c380 := (c367.keep K377 (ninS (Ne.symm ntb) nin0))
  refine w_callSF (pc' := 35) (st := [(.ref t)]) (y := (⟨"java/util/Arrays", "copyOfRange", "([BII)[B"⟩ : MethodName)) W377 hx [(.ref vb), (.int (0 : Int32)), (.int (35 : Int32))] (hw _ (List.mem_of_getElem? w_194)) (hw _ (List.mem_of_getElem? w_195)) (hw _ (List.mem_of_getElem? w_138)) (hw _ (List.mem_of_getElem? w_196)) (by decide) (c_cor_70_0_35 l Z a0 hw hE vb vs h377 W377.old c380 lv) all0 (by rw [hml]; rfl) (lenOf pd_27 rfl) rfl (hb hby d_jdk_42_150_32) (Nat.le_of_ble_eq_true rfl) (Nat.le_of_ble_eq_true rfl) (Nat.le_of_ble_eq_true rfl) (Nat.le_of_ble_eq_true rfl) rfl fun N391 v391 T391 h391 W391 K391 G391 Q391 => ?_
  have z_K391 : h377.size ≤ h391.size := K391.1
  obtain ⟨nb392, nv392, rfl, rfl, NV392, nl392⟩ := Q391
  have gz393 := (G391 nb392 (List.mem_cons_self ..)).1
  have lt_nb392 := (G391 nb392 (List.mem_cons_self ..)).2
  have ne_o_nb392 : o ≠ nb392 := by omega
  have ne_vb_nb392 : vb ≠ nb392 := by omega
  have ne_t_nb392 : t ≠ nb392 := by omega
  have c394 := (c379.keep K391 nin0)
  have c395 := (A377.keep K391)
  refine w_put (pc' := 38) W391 hx (hw _ (List.mem_of_getElem? w_33)) Via.refl c394 c395 (Or.inr ⟨(hw _ (List.mem_of_getElem? w_34)), rfl, hnm⟩) (hw _ (List.mem_of_getElem? w_7)) (ty := (.array .byte)) (by decide) rfl rfl (List.mem_of_getElem? (i := 0) rfl) (hb hby d_jdk_42_150_35) rfl fun T396 h396 W396 K396 R396 F396 A396 => ?_
  have c397 := (F377.keep K391 nin0)
  have z_K396 : h391.size ≤ h396.size := K396.1
  have c398 := (c397.other R396 (Or.inr (slot_ne (Or.inr (hw _ (List.mem_of_getElem? w_32))) (Or.inr (hw _ (List.mem_of_getElem? w_34))) (by decide) (t := .byte) (t' := (.array .byte)) (by decide) (by decide))))
  refine g_goto (pc' := 97) W396.here hx (hb hby d_jdk_42_150_38) rfl ?_
  refine w_retV W396 hx hh hlk hret (hb hby d_jdk_42_150_97) (Nat.le_of_ble_eq_true rfl) (Nat.le_of_ble_eq_true rfl) ?_
  exact rfl
set_option maxRecDepth 65536 in
set_option maxHeartbeats 40000000 in
theorem c_strSB_35_70 (l : Launch) (Z : State) (a0 : Array Value) (hw : ∀ d ∈ tables_1, d.before a0 Z = true) (hE : EW Z a0 consts_1) (cc : Int32) (fm : Value) (t o vb : Nat)  (h0 : Heap) (O : Ext Z.heap h0) (G : SEnv Z cc fm) (hzt : Z.heap.size ≤ t) (Et : Exa Z h0 t "java/lang/String") (u1 u2 : Value) (G1 : Fld Z h0 t "java/lang/String" "coder" "B" u1) (G2 : Fld Z h0 t "java/lang/String" "value" "[B" u2) (nt : t ≠ o) (ntb : t ≠ vb) (B0 : SBd Z h0 o vb (35 : Int32) 70)  :
    Con l Z consts_1 (⟨"java/lang/String", "<init>", "(Ljava/lang/StringBuilder;)V"⟩ : MethodName) jdk_42_method_53_code 2 (Option.none : Option Jvm.ClassFile.FieldType) ({ frames := 4, cells := 1, slots := 35, locals := 87 } : Room) #[(.ref t), (.ref o)] h0 [t] (fun v _ => v = none) := by
  refine Con.of (a0 := a0) #[.val (.ref t), .val (.ref o)] (plainFor_of_name pn_1) hE O (allS ⟨hzt, Et.lt⟩ all0) (fun m => by first | (simp [entryFrame, mkF, argsToLocals, Value.category]; done) | rfl) ?_
  intro p e s m below meth c T0 hx hby hml hnm hret hlk hh W0
  obtain ⟨E0, F1, F2, F3, vs, VB, lv⟩ := id B0
  have lt_o : o < h0.size := E0.lt
  have lt_vb : vb < h0.size := VB.lt
  have lt_t : t < h0.size := Et.lt
  refine g_aloadN (pc' := 1) W0.here hx (hb hby d_jdk_42_53_0) rfl rfl rfl ?_
  refine g_aloadN (pc' := 2) W0.here hx (hb hby d_jdk_42_53_1) rfl rfl rfl ?_
  refine g_aconstNull (pc' := 3) W0.here hx (hb hby d_jdk_42_53_2) rfl ?_
  have B356 : SBd Z h0 o vb (35 : Int32) 70 := ⟨E0, F1, F2, F3, _, VB, lv⟩
  refine w_special (pc' := 6) (st := []) (y := (⟨"java/lang/String", "<init>", "(Ljava/lang/AbstractStringBuilder;Ljava/lang/Void;)V"⟩ : MethodName)) (a := t) W0 hx [(.ref o), .null] rfl (hw _ (List.mem_of_getElem? w_177)) (hw _ (List.mem_of_getElem? w_178)) (hw _ (List.mem_of_getElem? w_8)) (hw _ (List.mem_of_getElem? w_179)) (by decide) (c_strASB_35_70 l Z a0 hw hE cc fm t o vb h0 W0.old G (by have := O.1; omega) Et _ _ G1 G2 nt ntb B356) (allS (List.mem_of_getElem? (i := 0) rfl) all0) (by rw [hml]; rfl) (lenOf pd_28 rfl) rfl (hb hby d_jdk_42_53_3) (Nat.le_of_ble_eq_true rfl) (Nat.le_of_ble_eq_true rfl) (Nat.le_of_ble_eq_true rfl) (Nat.le_of_ble_eq_true rfl) rfl fun v399 T399 h399 W399 K399 Q399 => ?_
  have z_K399 : h0.size ≤ h399.size := K399.1
  obtain rfl := Q399
  refine w_retV W399 hx hh hlk hret (hb hby d_jdk_42_53_6) (Nat.le_of_ble_eq_true rfl) (Nat.le_of_ble_eq_true rfl) ?_
  exact rfl
set_option maxRecDepth 65536 in
set_option maxHeartbeats 40000000 in
theorem c_toStr_35_70 (l : Launch) (Z : State) (a0 : Array Value) (hw : ∀ d ∈ tables_1, d.before a0 Z = true) (hE : EW Z a0 consts_1) (cc : Int32) (fm : Value) (o vb : Nat)  (h0 : Heap) (O : Ext Z.heap h0) (G : SEnv Z cc fm) (B0 : SBd Z h0 o vb (35 : Int32) 70) :
    Con l Z consts_1 (⟨"java/lang/StringBuilder", "toString", "()Ljava/lang/String;"⟩ : MethodName) jdk_67_method_42_code 1 (Option.some (Jvm.ClassFile.FieldType.object "java/lang/String")) ({ frames := 5, cells := 2, slots := 39, locals := 101 } : Room) #[(.ref o)] h0 [] (fun v _ => ∃ a : Nat, v = some (.ref a)) := by
  refine Con.of (a0 := a0) #[.val (.ref o)] (plainFor_of_name pn_5) hE O all0 (fun m => by first | (simp [entryFrame, mkF, argsToLocals, Value.category]; done) | rfl) ?_
  intro p e s m below meth c T0 hx hby hml hnm hret hlk hh W0
  obtain ⟨E0, F1, F2, F3, vs, VB, lv⟩ := id B0
  have lt_o : o < h0.size := E0.lt
  have lt_vb : vb < h0.size := VB.lt
  refine w_new (pc' := 3) W0 hx (hw _ (List.mem_of_getElem? w_173)) (hw _ (List.mem_of_getElem? w_7)) (hw _ (List.mem_of_getElem? w_8)) (hb hby d_jdk_67_42_0) (Nat.le_of_ble_eq_true rfl) (Nat.le_of_ble_eq_true rfl) rfl fun T349 h349 b349 g349 W349 K349 A349 D349 => ?_
  have z_K349 : h0.size ≤ h349.size := K349.1
  have ne_o_b349 : o ≠ b349 := by omega
  have ne_vb_b349 : vb ≠ b349 := by omega
  have lt_b349 : b349 < h349.size := W349.lt (List.mem_cons_self ..)
  have F349_coder : Fld Z h349 b349 "java/lang/String" "coder" "B" (.int (0 : Int32)) := D349 (Or.inr (hw _ (List.mem_of_getElem? w_32))) (ty := .byte) (by decide)
  have F349_value : Fld Z h349 b349 "java/lang/String" "value" "[B" .null := D349 (Or.inr (hw _ (List.mem_of_getElem? w_34))) (ty := (.array .byte)) (by decide)
  refine g_dup (pc' := 4) W349.here hx (hb hby d_jdk_67_42_3) rfl rfl ?_
  refine g_aloadN (pc' := 5) W349.here hx (hb hby d_jdk_67_42_4) rfl rfl rfl ?_
  have c351 := (VB.keep K349 nin0)
  have c352 := (E0.keep K349)
  have c353 := (F1.keep K349 nin0)
  have c354 := (F2.keep K349 nin0)
  have c355 := (F3.keep K349 nin0)
  have B350 : SBd Z h349 o vb (35 : Int32) 70 := ⟨c352, c353, c354, c355, _, c351, lv⟩
  refine w_special (pc' := 8) (st := [(.ref b349)]) (y := (⟨"java/lang/String", "<init>", "(Ljava/lang/StringBuilder;)V"⟩ : MethodName)) (a := b349) W349 hx [(.ref o)] rfl (hw _ (List.mem_of_getElem? w_174)) (hw _ (List.mem_of_getElem? w_175)) (hw _ (List.mem_of_getElem? w_8)) (hw _ (List.mem_of_getElem? w_176)) (by decide) (c_strSB_35_70 l Z a0 hw hE cc fm b349 o vb h349 W349.old G (by have := O.1; omega) A349 _ _ F349_coder F349_value (Ne.symm ne_o_b349) (Ne.symm ne_vb_b349) B350) (allS (List.mem_of_getElem? (i := 0) rfl) all0) (by rw [hml]; rfl) (lenOf pd_29 rfl) rfl (hb hby d_jdk_67_42_5) (Nat.le_of_ble_eq_true rfl) (Nat.le_of_ble_eq_true rfl) (Nat.le_of_ble_eq_true rfl) (Nat.le_of_ble_eq_true rfl) rfl fun v400 T400 h400 W400 K400 Q400 => ?_
  have z_K400 : h349.size ≤ h400.size := K400.1
  obtain rfl := Q400
  refine w_retA W400 hx hh hlk hret rfl rfl (hb hby d_jdk_67_42_8) (Nat.le_of_ble_eq_true rfl) (Nat.le_of_ble_eq_true rfl) ?_
  exact ⟨_, rfl⟩
set_option maxRecDepth 65536 in
set_option maxHeartbeats 40000000 in
theorem c_check (l : Launch) (Z : State) (a0 : Array Value) (hw : ∀ d ∈ tables_1, d.before a0 Z = true) (hE : EW Z a0 consts_1) (cc : Int32) (fm : Value) (dO dT : Nat) (vO vT : List Value) (w wb a sb : Nat) (wcs cs : List Int32) (h0 : Heap) (O : Ext Z.heap h0) (G : SEnv Z cc fm) (S_D1 : Sta Z Z.heap "java/lang/Integer" "DigitOnes" "[B" (.ref dO)) (S_D2 : Sta Z Z.heap "java/lang/Integer" "DigitTens" "[B" (.ref dT)) (V_D1 : Ary Z Z.heap dO .byte vO) (V_D2 : Ary Z Z.heap dT .byte vT) (l_D1 : vO.length = 100) (l_D2 : vT.length = 100) (SW : SL Z h0 w wb wcs) (hwc : wcs.length = 9) (S0 : SL Z h0 a sb cs) (hl : cs.length ≤ 200) (hne : ¬ cs = []) (hz0 : ∀ c ∈ cs, ¬ c = 0) :
    Con l Z consts_1 (⟨"com/example/transaction_locking/transactionlocking/value/ExactString", "check", "(Ljava/lang/String;Ljava/lang/String;)V"⟩ : MethodName) prog_30_method_2_code 6 (Option.none : Option Jvm.ClassFile.FieldType) ({ frames := 6, cells := 12, slots := 267, locals := 113 } : Room) #[(.ref w), (.ref a)] h0 [] (fun v _ => v = none) := by
  refine Con.of (a0 := a0) #[.val (.ref w), .val (.ref a), .unset, .unset, .unset, .unset] (plainFor_of_name pn_11) hE O all0 (fun m => by first | (simp [entryFrame, mkF, argsToLocals, Value.category]; done) | rfl) ?_
  intro p e s m below meth c T0 hx hby hml hnm hret hlk hh W0
  have EV_D1 := V_D1.ext O
  have lt_dO : dO < h0.size := EV_D1.lt
  have zt_dO : dO < Z.heap.size := V_D1.lt
  have EV_D2 := V_D2.ext O
  have lt_dT : dT < h0.size := EV_D2.lt
  have zt_dT : dT < Z.heap.size := V_D2.lt
  have ESW := SW.1
  have lt_w : w < h0.size := SW.lt
  have lt_wb : wb < h0.size := SW.ltb
  have ES0 := S0.1
  have lt_a : a < h0.size := S0.lt
  have lt_sb : sb < h0.size := S0.ltb
  refine w_new (pc' := 3) W0 hx (hw _ (List.mem_of_getElem? w_54)) (hw _ (List.mem_of_getElem? w_55)) (hw _ (List.mem_of_getElem? w_56)) (hb hby d_prog_30_2_0) (Nat.le_of_ble_eq_true rfl) (Nat.le_of_ble_eq_true rfl) rfl fun T57 h57 b57 g57 W57 K57 A57 D57 => ?_
  have z_K57 : h0.size ≤ h57.size := K57.1
  have ne_dO_b57 : dO ≠ b57 := by omega
  have ne_dT_b57 : dT ≠ b57 := by omega
  have ne_w_b57 : w ≠ b57 := by omega
  have ne_wb_b57 : wb ≠ b57 := by omega
  have ne_a_b57 : a ≠ b57 := by omega
  have ne_sb_b57 : sb ≠ b57 := by omega
  have lt_b57 : b57 < h57.size := W57.lt (List.mem_cons_self ..)
  have F57_value : Fld Z h57 b57 "java/lang/AbstractStringBuilder" "value" "[B" .null := D57 (Or.inl (hw _ (List.mem_of_getElem? w_69))) (ty := (.array .byte)) (by decide)
  have F57_coder : Fld Z h57 b57 "java/lang/AbstractStringBuilder" "coder" "B" (.int (0 : Int32)) := D57 (Or.inl (hw _ (List.mem_of_getElem? w_71))) (ty := .byte) (by decide)
  have F57_count : Fld Z h57 b57 "java/lang/AbstractStringBuilder" "count" "I" (.int (0 : Int32)) := D57 (Or.inl (hw _ (List.mem_of_getElem? w_94))) (ty := .int) (by decide)
  refine g_dup (pc' := 4) W57.here hx (hb hby d_prog_30_2_3) rfl rfl ?_
  refine w_specialF (pc' := 7) (st := [(.ref b57)]) (y := (⟨"java/lang/StringBuilder", "<init>", "()V"⟩ : MethodName)) (a := b57) W57 hx [] rfl (hw _ (List.mem_of_getElem? w_57)) (hw _ (List.mem_of_getElem? w_58)) (hw _ (List.mem_of_getElem? w_56)) (hw _ (List.mem_of_getElem? w_59)) (by decide) (c_sbinit l Z a0 hw hE cc fm b57 h57 W57.old G (by have := O.1; omega) A57 F57_count _ _ F57_coder F57_value) (allS (List.mem_of_getElem? (i := 0) rfl) all0) (by rw [hml]; rfl) (lenOf pd_12 rfl) rfl (hb hby d_prog_30_2_4) (Nat.le_of_ble_eq_true rfl) (Nat.le_of_ble_eq_true rfl) (Nat.le_of_ble_eq_true rfl) (Nat.le_of_ble_eq_true rfl) rfl fun N58 v58 T58 h58 W58 K58 G58 Q58 => ?_
  have z_K58 : h57.size ≤ h58.size := K58.1
  obtain ⟨vb59, rfl, rfl, B59⟩ := Q58
  have gz60 := (G58 vb59 (List.mem_cons_self ..)).1
  have lt_vb59 := (G58 vb59 (List.mem_cons_self ..)).2
  have ne_dO_vb59 : dO ≠ vb59 := by omega
  have ne_dT_vb59 : dT ≠ vb59 := by omega
  have ne_w_vb59 : w ≠ vb59 := by omega
  have ne_wb_vb59 : wb ≠ vb59 := by omega
  have ne_a_vb59 : a ≠ vb59 := by omega
  have ne_sb_vb59 : sb ≠ vb59 := by omega
  have ne_b57_vb59 : b57 ≠ vb59 := by omega
  have EB61 := B59.1
  refine w_ldcS (pc' := 9) (vs := ([(97 : Int32), (32 : Int32)] : List Int32).map latB) (z := (2 : Int32)) W58 hx (hw _ (List.mem_of_getElem? w_72)) (own_atoms hw) (List.mem_of_getElem? (i := 1) rfl) ⟨by decide, by decide⟩ (by decide) rfl (hb hby d_prog_30_2_7) 8 (by decide) (Nat.le_of_ble_eq_true rfl) (Nat.le_of_ble_eq_true rfl) (Nat.le_of_ble_eq_true rfl) rfl fun T62 h62 sa62 sb62 W62 K62 A62 C62 F62 V62 N62 => ?_
  have z_K62 : h58.size ≤ h62.size := K62.1
  obtain ⟨ne_vb59_sa62, ne_vb59_sb62⟩ := N62 vb59 (List.mem_of_getElem? (i := 0) rfl)
  obtain ⟨ne_b57_sa62, ne_b57_sb62⟩ := N62 b57 (List.mem_of_getElem? (i := 1) rfl)
  have S62 : SL Z h62 sa62 sb62 [(97 : Int32), (32 : Int32)] := ⟨A62, C62, F62, V62, by decide⟩
  have ES62 := S62.1
  have lt_sa62 : sa62 < h62.size := S62.lt
  have lt_sb62 : sb62 < h62.size := S62.ltb
  have c63 := (B59.keep K62 nin0 nin0)
  have c104 := (EB61.keep K62)
  refine w_virtualF (pc' := 12) (st := []) (y := (⟨"java/lang/StringBuilder", "append", "(Ljava/lang/String;)Ljava/lang/StringBuilder;"⟩ : MethodName)) (z := (⟨"java/lang/StringBuilder", "append", "(Ljava/lang/String;)Ljava/lang/StringBuilder;"⟩ : MethodName)) (a := b57) W62 hx [(.ref sa62)] (hw _ (List.mem_of_getElem? w_73)) (hw _ (List.mem_of_getElem? w_74)) (nfS (z := (⟨"java/lang/StringBuilder", "append", "(Ljava/lang/String;)Ljava/lang/StringBuilder;"⟩ : MethodName)) (hw _ (List.mem_of_getElem? w_76))) (hw _ (List.mem_of_getElem? w_76)) (hw _ (List.mem_of_getElem? w_75)) (hw _ (List.mem_of_getElem? w_56)) (hw _ (List.mem_of_getElem? w_77)) (by decide) (c_sbApp_0_16_2 l Z a0 hw hE cc fm b57 vb59 sa62 sb62 [(97 : Int32), (32 : Int32)] h62 W62.old G (by have := O.1; omega) (by have := O.1; omega) ne_b57_vb59 c63 S62 (rfl : [(97 : Int32), (32 : Int32)].length = 2) ne_b57_sa62 ne_b57_sb62 ne_vb59_sa62 ne_vb59_sb62) c104 (allS (List.mem_of_getElem? (i := 1) rfl) (allS (List.mem_of_getElem? (i := 0) rfl) all0)) (by rw [hml]; rfl) (lenOf pd_18 rfl) rfl (hb hby d_prog_30_2_9) (Nat.le_of_ble_eq_true rfl) (Nat.le_of_ble_eq_true rfl) (Nat.le_of_ble_eq_true rfl) (Nat.le_of_ble_eq_true rfl) rfl fun N103 v103 T103 h103 W103 K103 G103 Q103 => ?_
  have z_K103 : h62.size ≤ h103.size := K103.1
  obtain ⟨rfl, rfl, B105⟩ := Q103
  have EB106 := B105.1
  refine g_aloadN (pc' := 13) W103.here hx (hb hby d_prog_30_2_12) rfl rfl rfl ?_
  have c107 := ((((SW.keep K57 nin0 nin0).keep K58 (ninS ne_w_b57 nin0) (ninS ne_wb_b57 nin0)).keep K62 nin0 nin0).keep K103 (ninS ne_w_b57 (ninS ne_w_vb59 nin0)) (ninS ne_wb_b57 (ninS ne_wb_vb59 nin0)))
  refine w_virtualF (pc' := 16) (st := []) (y := (⟨"java/lang/StringBuilder", "append", "(Ljava/lang/String;)Ljava/lang/StringBuilder;"⟩ : MethodName)) (z := (⟨"java/lang/StringBuilder", "append", "(Ljava/lang/String;)Ljava/lang/StringBuilder;"⟩ : MethodName)) (a := b57) W103 hx [(.ref w)] (hw _ (List.mem_of_getElem? w_73)) (hw _ (List.mem_of_getElem? w_74)) (nfS (z := (⟨"java/lang/StringBuilder", "append", "(Ljava/lang/String;)Ljava/lang/StringBuilder;"⟩ : MethodName)) (hw _ (List.mem_of_getElem? w_76))) (hw _ (List.mem_of_getElem? w_76)) (hw _ (List.mem_of_getElem? w_75)) (hw _ (List.mem_of_getElem? w_56)) (hw _ (List.mem_of_getElem? w_77)) (by decide) (c_sbApp_2_16_9 l Z a0 hw hE cc fm b57 vb59 w wb wcs h103 W103.old G (by have := O.1; omega) (by have := O.1; omega) ne_b57_vb59 B105 c107 hwc (Ne.symm ne_w_b57) (Ne.symm ne_wb_b57) (Ne.symm ne_w_vb59) (Ne.symm ne_wb_vb59)) EB106 (allS (List.mem_of_getElem? (i := 1) rfl) (allS (List.mem_of_getElem? (i := 0) rfl) all0)) (by rw [hml]; rfl) (lenOf pd_18 rfl) rfl (hb hby d_prog_30_2_13) (Nat.le_of_ble_eq_true rfl) (Nat.le_of_ble_eq_true rfl) (Nat.le_of_ble_eq_true rfl) (Nat.le_of_ble_eq_true rfl) rfl fun N147 v147 T147 h147 W147 K147 G147 Q147 => ?_
  have z_K147 : h103.size ≤ h147.size := K147.1
  obtain ⟨rfl, rfl, B148⟩ := Q147
  have EB149 := B148.1
  refine w_ldcS (pc' := 18) (vs := ([(32 : Int32), (104 : Int32), (97 : Int32), (115 : Int32), (32 : Int32), (49 : Int32), (32 : Int32), (116 : Int32), (111 : Int32), (32 : Int32)] : List Int32).map latB) (z := (10 : Int32)) W147 hx (hw _ (List.mem_of_getElem? w_120)) (own_atoms hw) (List.mem_of_getElem? (i := 2) rfl) ⟨by decide, by decide⟩ (by decide) rfl (hb hby d_prog_30_2_16) 40 (by decide) (Nat.le_of_ble_eq_true rfl) (Nat.le_of_ble_eq_true rfl) (Nat.le_of_ble_eq_true rfl) rfl fun T150 h150 sa150 sb150 W150 K150 A150 C150 F150 V150 N150 => ?_
  have z_K150 : h147.size ≤ h150.size := K150.1
  obtain ⟨ne_vb59_sa150, ne_vb59_sb150⟩ := N150 vb59 (List.mem_of_getElem? (i := 0) rfl)
  obtain ⟨ne_b57_sa150, ne_b57_sb150⟩ := N150 b57 (List.mem_of_getElem? (i := 1) rfl)
  have S150 : SL Z h150 sa150 sb150 [(32 : Int32), (104 : Int32), (97 : Int32), (115 : Int32), (32 : Int32), (49 : Int32), (32 : Int32), (116 : Int32), (111 : Int32), (32 : Int32)] := ⟨A150, C150, F150, V150, by decide⟩
  have ES150 := S150.1
  have lt_sa150 : sa150 < h150.size := S150.lt
  have lt_sb150 : sb150 < h150.size := S150.ltb
  have c151 := (B148.keep K150 nin0 nin0)
  have c224 := (EB149.keep K150)
  refine w_virtualF (pc' := 21) (st := []) (y := (⟨"java/lang/StringBuilder", "append", "(Ljava/lang/String;)Ljava/lang/StringBuilder;"⟩ : MethodName)) (z := (⟨"java/lang/StringBuilder", "append", "(Ljava/lang/String;)Ljava/lang/StringBuilder;"⟩ : MethodName)) (a := b57) W150 hx [(.ref sa150)] (hw _ (List.mem_of_getElem? w_73)) (hw _ (List.mem_of_getElem? w_74)) (nfS (z := (⟨"java/lang/StringBuilder", "append", "(Ljava/lang/String;)Ljava/lang/StringBuilder;"⟩ : MethodName)) (hw _ (List.mem_of_getElem? w_76))) (hw _ (List.mem_of_getElem? w_76)) (hw _ (List.mem_of_getElem? w_75)) (hw _ (List.mem_of_getElem? w_56)) (hw _ (List.mem_of_getElem? w_77)) (by decide) (c_sbApp_11_16_10 l Z a0 hw hE cc fm b57 vb59 sa150 sb150 [(32 : Int32), (104 : Int32), (97 : Int32), (115 : Int32), (32 : Int32), (49 : Int32), (32 : Int32), (116 : Int32), (111 : Int32), (32 : Int32)] h150 W150.old G (by have := O.1; omega) (by have := O.1; omega) ne_b57_vb59 c151 S150 (rfl : [(32 : Int32), (104 : Int32), (97 : Int32), (115 : Int32), (32 : Int32), (49 : Int32), (32 : Int32), (116 : Int32), (111 : Int32), (32 : Int32)].length = 10) ne_b57_sa150 ne_b57_sb150 ne_vb59_sa150 ne_vb59_sb150) c224 (allS (List.mem_of_getElem? (i := 1) rfl) (allS (List.mem_of_getElem? (i := 0) rfl) all0)) (by rw [hml]; rfl) (lenOf pd_18 rfl) rfl (hb hby d_prog_30_2_18) (Nat.le_of_ble_eq_true rfl) (Nat.le_of_ble_eq_true rfl) (Nat.le_of_ble_eq_true rfl) (Nat.le_of_ble_eq_true rfl) rfl fun N223 v223 T223 h223 W223 K223 G223 Q223 => ?_
  have z_K223 : h150.size ≤ h223.size := K223.1
  obtain ⟨vb225, rfl, rfl, B225⟩ := Q223
  have gz226 := (G223 vb225 (List.mem_cons_self ..)).1
  have lt_vb225 := (G223 vb225 (List.mem_cons_self ..)).2
  have ne_dO_vb225 : dO ≠ vb225 := by omega
  have ne_dT_vb225 : dT ≠ vb225 := by omega
  have ne_w_vb225 : w ≠ vb225 := by omega
  have ne_wb_vb225 : wb ≠ vb225 := by omega
  have ne_a_vb225 : a ≠ vb225 := by omega
  have ne_sb_vb225 : sb ≠ vb225 := by omega
  have ne_b57_vb225 : b57 ≠ vb225 := by omega
  have ne_vb59_vb225 : vb59 ≠ vb225 := by omega
  have ne_sa62_vb225 : sa62 ≠ vb225 := by omega
  have ne_sb62_vb225 : sb62 ≠ vb225 := by omega
  have ne_sa150_vb225 : sa150 ≠ vb225 := by omega
  have ne_sb150_vb225 : sb150 ≠ vb225 := by omega
  have EB227 := B225.1
  refine g_sipush (256 : Int32) (pc' := 24) W223.here hx (hb hby d_prog_30_2_21) rfl rfl ?_
  refine w_virtualF (pc' := 27) (st := []) (y := (⟨"java/lang/StringBuilder", "append", "(I)Ljava/lang/StringBuilder;"⟩ : MethodName)) (z := (⟨"java/lang/StringBuilder", "append", "(I)Ljava/lang/StringBuilder;"⟩ : MethodName)) (a := b57) W223 hx [(.int (256 : Int32))] (hw _ (List.mem_of_getElem? w_144)) (hw _ (List.mem_of_getElem? w_145)) (nfS (z := (⟨"java/lang/StringBuilder", "append", "(I)Ljava/lang/StringBuilder;"⟩ : MethodName)) (hw _ (List.mem_of_getElem? w_147))) (hw _ (List.mem_of_getElem? w_147)) (hw _ (List.mem_of_getElem? w_146)) (hw _ (List.mem_of_getElem? w_56)) (hw _ (List.mem_of_getElem? w_148)) (by decide) (c_sbAppI_21_34_256 l Z a0 hw hE cc fm b57 vb225 dO dT vO vT h223 W223.old G (by have := O.1; omega) (by have := O.1; omega) ne_b57_vb225 B225 S_D1 S_D2 V_D1 V_D2 l_D1 l_D2) EB227 (allS (List.mem_of_getElem? (i := 2) rfl) (allS (List.mem_of_getElem? (i := 0) rfl) all0)) (by rw [hml]; rfl) (lenOf pd_25 rfl) rfl (hb hby d_prog_30_2_24) (Nat.le_of_ble_eq_true rfl) (Nat.le_of_ble_eq_true rfl) (Nat.le_of_ble_eq_true rfl) (Nat.le_of_ble_eq_true rfl) rfl fun N268 v268 T268 h268 W268 K268 G268 Q268 => ?_
  have z_K268 : h223.size ≤ h268.size := K268.1
  obtain ⟨rfl, rfl, B269⟩ := Q268
  have EB270 := B269.1
  refine w_ldcS (pc' := 29) (vs := ([(32 : Int32), (99 : Int32), (104 : Int32), (97 : Int32), (114 : Int32), (97 : Int32), (99 : Int32), (116 : Int32), (101 : Int32), (114 : Int32), (115 : Int32)] : List Int32).map latB) (z := (11 : Int32)) W268 hx (hw _ (List.mem_of_getElem? w_167)) (own_atoms hw) (List.mem_of_getElem? (i := 3) rfl) ⟨by decide, by decide⟩ (by decide) rfl (hb hby d_prog_30_2_27) 44 (by decide) (Nat.le_of_ble_eq_true rfl) (Nat.le_of_ble_eq_true rfl) (Nat.le_of_ble_eq_true rfl) rfl fun T271 h271 sa271 sb271 W271 K271 A271 C271 F271 V271 N271 => ?_
  have z_K271 : h268.size ≤ h271.size := K271.1
  obtain ⟨ne_vb225_sa271, ne_vb225_sb271⟩ := N271 vb225 (List.mem_of_getElem? (i := 0) rfl)
  obtain ⟨ne_vb59_sa271, ne_vb59_sb271⟩ := N271 vb59 (List.mem_of_getElem? (i := 1) rfl)
  obtain ⟨ne_b57_sa271, ne_b57_sb271⟩ := N271 b57 (List.mem_of_getElem? (i := 2) rfl)
  have S271 : SL Z h271 sa271 sb271 [(32 : Int32), (99 : Int32), (104 : Int32), (97 : Int32), (114 : Int32), (97 : Int32), (99 : Int32), (116 : Int32), (101 : Int32), (114 : Int32), (115 : Int32)] := ⟨A271, C271, F271, V271, by decide⟩
  have ES271 := S271.1
  have lt_sa271 : sa271 < h271.size := S271.lt
  have lt_sb271 : sb271 < h271.size := S271.ltb
  have c272 := (B269.keep K271 nin0 nin0)
  have c345 := (EB270.keep K271)
  refine w_virtualF (pc' := 32) (st := []) (y := (⟨"java/lang/StringBuilder", "append", "(Ljava/lang/String;)Ljava/lang/StringBuilder;"⟩ : MethodName)) (z := (⟨"java/lang/StringBuilder", "append", "(Ljava/lang/String;)Ljava/lang/StringBuilder;"⟩ : MethodName)) (a := b57) W271 hx [(.ref sa271)] (hw _ (List.mem_of_getElem? w_73)) (hw _ (List.mem_of_getElem? w_74)) (nfS (z := (⟨"java/lang/StringBuilder", "append", "(Ljava/lang/String;)Ljava/lang/StringBuilder;"⟩ : MethodName)) (hw _ (List.mem_of_getElem? w_76))) (hw _ (List.mem_of_getElem? w_76)) (hw _ (List.mem_of_getElem? w_75)) (hw _ (List.mem_of_getElem? w_56)) (hw _ (List.mem_of_getElem? w_77)) (by decide) (c_sbApp_24_34_11 l Z a0 hw hE cc fm b57 vb225 sa271 sb271 [(32 : Int32), (99 : Int32), (104 : Int32), (97 : Int32), (114 : Int32), (97 : Int32), (99 : Int32), (116 : Int32), (101 : Int32), (114 : Int32), (115 : Int32)] h271 W271.old G (by have := O.1; omega) (by have := O.1; omega) ne_b57_vb225 c272 S271 (rfl : [(32 : Int32), (99 : Int32), (104 : Int32), (97 : Int32), (114 : Int32), (97 : Int32), (99 : Int32), (116 : Int32), (101 : Int32), (114 : Int32), (115 : Int32)].length = 11) ne_b57_sa271 ne_b57_sb271 ne_vb225_sa271 ne_vb225_sb271) c345 (allS (List.mem_of_getElem? (i := 2) rfl) (allS (List.mem_of_getElem? (i := 0) rfl) all0)) (by rw [hml]; rfl) (lenOf pd_18 rfl) rfl (hb hby d_prog_30_2_29) (Nat.le_of_ble_eq_true rfl) (Nat.le_of_ble_eq_true rfl) (Nat.le_of_ble_eq_true rfl) (Nat.le_of_ble_eq_true rfl) rfl fun N344 v344 T344 h344 W344 K344 G344 Q344 => ?_
  have z_K344 : h271.size ≤ h344.size := K344.1
  obtain ⟨vb346, rfl, rfl, B346⟩ := Q344
  have gz347 := (G344 vb346 (List.mem_cons_self ..)).1
  have lt_vb346 := (G344 vb346 (List.mem_cons_self ..)).2
  have ne_dO_vb346 : dO ≠ vb346 := by omega
  have ne_dT_vb346 : dT ≠ vb346 := by omega
  have ne_w_vb346 : w ≠ vb346 := by omega
  have ne_wb_vb346 : wb ≠ vb346 := by omega
  have ne_a_vb346 : a ≠ vb346 := by omega
  have ne_sb_vb346 : sb ≠ vb346 := by omega
  have ne_b57_vb346 : b57 ≠ vb346 := by omega
  have ne_vb59_vb346 : vb59 ≠ vb346 := by omega
  have ne_sa62_vb346 : sa62 ≠ vb346 := by omega
  have ne_sb62_vb346 : sb62 ≠ vb346 := by omega
  have ne_sa150_vb346 : sa150 ≠ vb346 := by omega
  have ne_sb150_vb346 : sb150 ≠ vb346 := by omega
  have ne_vb225_vb346 : vb225 ≠ vb346 := by omega
  have ne_sa271_vb346 : sa271 ≠ vb346 := by omega
  have ne_sb271_vb346 : sb271 ≠ vb346 := by omega
  have EB348 := B346.1
  refine w_virtual (pc' := 35) (st := []) (y := (⟨"java/lang/StringBuilder", "toString", "()Ljava/lang/String;"⟩ : MethodName)) (z := (⟨"java/lang/StringBuilder", "toString", "()Ljava/lang/String;"⟩ : MethodName)) (a := b57) W344 hx [] (hw _ (List.mem_of_getElem? w_168)) (hw _ (List.mem_of_getElem? w_169)) (nfS (z := (⟨"java/lang/StringBuilder", "toString", "()Ljava/lang/String;"⟩ : MethodName)) (hw _ (List.mem_of_getElem? w_171))) (hw _ (List.mem_of_getElem? w_171)) (hw _ (List.mem_of_getElem? w_170)) (hw _ (List.mem_of_getElem? w_56)) (hw _ (List.mem_of_getElem? w_172)) (by decide) (c_toStr_35_70 l Z a0 hw hE cc fm b57 vb346 h344 W344.old G B346) EB348 all0 (by rw [hml]; rfl) (lenOf pd_30 rfl) rfl (hb hby d_prog_30_2_32) (Nat.le_of_ble_eq_true rfl) (Nat.le_of_ble_eq_true rfl) (Nat.le_of_ble_eq_true rfl) (Nat.le_of_ble_eq_true rfl) rfl fun v401 T401 h401 W401 K401 Q401 => ?_
  have z_K401 : h344.size ≤ h401.size := K401.1
  obtain ⟨ts402, rfl⟩ := Q401
  refine g_astoreN (pc' := 36) (Ls' := #[.val (.ref w), .val (.ref a), .val (.ref ts402), .unset, .unset, .unset]) W401.here hx (hb hby d_prog_30_2_35) rfl rfl rfl ?_
  refine g_aloadN (pc' := 37) W401.here hx (hb hby d_prog_30_2_36) rfl rfl rfl ?_
  refine g_nonnullY (pc' := 71) W401.here hx (hb hby d_prog_30_2_37) rfl ?_
  refine g_aloadN (pc' := 72) W401.here hx (hb hby d_prog_30_2_71) rfl rfl rfl ?_
  have c403 := (((((((((((S0.keep K57 nin0 nin0).keep K58 (ninS ne_a_b57 nin0) (ninS ne_sb_b57 nin0)).keep K62 nin0 nin0).keep K103 (ninS ne_a_b57 (ninS ne_a_vb59 nin0)) (ninS ne_sb_b57 (ninS ne_sb_vb59 nin0))).keep K147 (ninS ne_a_b57 (ninS ne_a_vb59 nin0)) (ninS ne_sb_b57 (ninS ne_sb_vb59 nin0))).keep K150 nin0 nin0).keep K223 (ninS ne_a_b57 (ninS ne_a_vb59 nin0)) (ninS ne_sb_b57 (ninS ne_sb_vb59 nin0))).keep K268 (ninS ne_a_b57 (ninS ne_a_vb225 nin0)) (ninS ne_sb_b57 (ninS ne_sb_vb225 nin0))).keep K271 nin0 nin0).keep K344 (ninS ne_a_b57 (ninS ne_a_vb225 nin0)) (ninS ne_sb_b57 (ninS ne_sb_vb225 nin0))).keep K401 nin0 nin0)
  have c405 := (((((((((((ES0.keep K57).keep K58).keep K62).keep K103).keep K147).keep K150).keep K223).keep K268).keep K271).keep K344).keep K401)
  refine w_virtualp (pc' := 75) (st := []) (y := (⟨"java/lang/String", "isEmpty", "()Z"⟩ : MethodName)) (z := (⟨"java/lang/String", "isEmpty", "()Z"⟩ : MethodName)) (a := a) W401 hx [] (hw _ (List.mem_of_getElem? w_203)) (hw _ (List.mem_of_getElem? w_204)) (nfS (z := (⟨"java/lang/String", "isEmpty", "()Z"⟩ : MethodName)) (hw _ (List.mem_of_getElem? w_206))) (hw _ (List.mem_of_getElem? w_206)) (hw _ (List.mem_of_getElem? w_205)) (hw _ (List.mem_of_getElem? w_8)) (hw _ (List.mem_of_getElem? w_207)) (by decide) (c_isEmpty l Z a0 hw hE cc fm a sb cs  h401 W401.old G c403 ) c405 (by rw [hml]; rfl) (lenOf pd_7 rfl) rfl (hb hby d_prog_30_2_72) (Nat.le_of_ble_eq_true rfl) (Nat.le_of_ble_eq_true rfl) rfl rfl (Nat.le_of_ble_eq_true rfl) (Nat.le_of_ble_eq_true rfl) rfl fun T404 W404 => ?_
  refine g_ifY (pc' := 87) W404.here hx (hb hby d_prog_30_2_75) rfl (teq (show (if cs = [] then (1 : Int32) else 0) = (0 : Int32) from (by rw [if_neg hne]))).1 ?_
  refine g_aloadN (pc' := 88) W404.here hx (hb hby d_prog_30_2_87) rfl rfl rfl ?_
  refine w_virtualp (pc' := 91) (st := []) (y := (⟨"java/lang/String", "length", "()I"⟩ : MethodName)) (z := (⟨"java/lang/String", "length", "()I"⟩ : MethodName)) (a := a) W404 hx [] (hw _ (List.mem_of_getElem? w_208)) (hw _ (List.mem_of_getElem? w_84)) (nfS (z := (⟨"java/lang/String", "length", "()I"⟩ : MethodName)) (hw _ (List.mem_of_getElem? w_86))) (hw _ (List.mem_of_getElem? w_86)) (hw _ (List.mem_of_getElem? w_85)) (hw _ (List.mem_of_getElem? w_8)) (hw _ (List.mem_of_getElem? w_87)) (by decide) (c_length l Z a0 hw hE cc fm a sb cs  h401 W404.old G c403 ) c405 (by rw [hml]; rfl) (lenOf pd_13 rfl) rfl (hb hby d_prog_30_2_88) (Nat.le_of_ble_eq_true rfl) (Nat.le_of_ble_eq_true rfl) rfl rfl (Nat.le_of_ble_eq_true rfl) (Nat.le_of_ble_eq_true rfl) rfl fun T406 W406 => ?_
  refine g_sipush (256 : Int32) (pc' := 94) W406.here hx (hb hby d_prog_30_2_91) rfl rfl ?_
  refine g_icmpY (pc' := 131) W406.here hx (hb hby d_prog_30_2_94) rfl (flt (show ¬ ((256 : Int32) < cs.length.toInt32) from (by rw [Int32.lt_iff_toInt_lt, own_toInt (by omega)]; have := own_t256; omega))).2.2.2 ?_
  refine g_iconst (0 : Int32) (pc' := 132) W406.here hx (hb hby d_prog_30_2_131) rfl rfl ?_
  refine g_istoreN (pc' := 133) (Ls' := #[.val (.ref w), .val (.ref a), .val (.ref ts402), .val (.int (0 : Int32)), .unset, .unset]) W406.here hx (hb hby d_prog_30_2_132) rfl rfl ?_
  have LOOP : ∀ (k i : Nat), i + k = cs.length → ∀ (TL : State) (o4 : Slot), One o4 → Wk p l e ({ frames := 6, cells := 12, slots := 267, locals := 113 } : Room) s m #[(.ref w), (.ref a)] below meth c Z consts_1 "com/example/transaction_locking/transactionlocking/value/ExactString" [] [vb346, vb225, vb59, b57] TL h401 12 267 → Gets p.tables e below (Post s Z consts_1 ({ frames := 6, cells := 12, slots := 267, locals := 113 } : Room) h0 [] (fun v _ => v = none)) TL (mkF m 133 #[.val (.ref w), .val (.ref a), .val (.ref ts402), .val (.int i.toInt32), o4, .unset] []) := by
    intro k
    induction k with
    | zero =>
      intro i hi TL o4 ho_o4 WL 
      refine g_iloadN (pc' := 134) WL.here hx (hb hby d_prog_30_2_133) rfl rfl ?_
      refine g_aloadN (pc' := 135) WL.here hx (hb hby d_prog_30_2_134) rfl rfl rfl ?_
      refine w_virtualp (pc' := 138) (st := [(.int i.toInt32)]) (y := (⟨"java/lang/String", "length", "()I"⟩ : MethodName)) (z := (⟨"java/lang/String", "length", "()I"⟩ : MethodName)) (a := a) WL hx [] (hw _ (List.mem_of_getElem? w_208)) (hw _ (List.mem_of_getElem? w_84)) (nfS (z := (⟨"java/lang/String", "length", "()I"⟩ : MethodName)) (hw _ (List.mem_of_getElem? w_86))) (hw _ (List.mem_of_getElem? w_86)) (hw _ (List.mem_of_getElem? w_85)) (hw _ (List.mem_of_getElem? w_8)) (hw _ (List.mem_of_getElem? w_87)) (by decide) (c_length l Z a0 hw hE cc fm a sb cs  h401 WL.old G c403 ) c405 (by rw [hml]; rfl) (lenOf pd_13 rfl) rfl (hb hby d_prog_30_2_135) (Nat.le_of_ble_eq_true rfl) (Nat.le_of_ble_eq_true rfl) rfl rfl (Nat.le_of_ble_eq_true rfl) (Nat.le_of_ble_eq_true rfl) rfl fun T407 W407 => ?_
      refine g_icmpY (pc' := 274) W407.here hx (hb hby d_prog_30_2_138) rfl (flt (show ¬ (i.toInt32 < cs.length.toInt32) from (own_nltn (by omega) (by omega)))).2.1 ?_
      refine w_retV W407 hx hh hlk hret (hb hby d_prog_30_2_274) (Nat.le_of_ble_eq_true rfl) (Nat.le_of_ble_eq_true rfl) ?_
      exact rfl
    | succ k ih =>
      intro i hi TL o4 ho_o4 WL 
      have hi2 : i < cs.length := by omega
      obtain ⟨ci, hci⟩ : ∃ z, cs[i]? = some z := ⟨_, List.getElem?_eq_getElem hi2⟩
      have hnz := hz0 ci (List.mem_of_getElem? hci)
      refine g_iloadN (pc' := 134) WL.here hx (hb hby d_prog_30_2_133) rfl rfl ?_
      refine g_aloadN (pc' := 135) WL.here hx (hb hby d_prog_30_2_134) rfl rfl rfl ?_
      refine w_virtualp (pc' := 138) (st := [(.int i.toInt32)]) (y := (⟨"java/lang/String", "length", "()I"⟩ : MethodName)) (z := (⟨"java/lang/String", "length", "()I"⟩ : MethodName)) (a := a) WL hx [] (hw _ (List.mem_of_getElem? w_208)) (hw _ (List.mem_of_getElem? w_84)) (nfS (z := (⟨"java/lang/String", "length", "()I"⟩ : MethodName)) (hw _ (List.mem_of_getElem? w_86))) (hw _ (List.mem_of_getElem? w_86)) (hw _ (List.mem_of_getElem? w_85)) (hw _ (List.mem_of_getElem? w_8)) (hw _ (List.mem_of_getElem? w_87)) (by decide) (c_length l Z a0 hw hE cc fm a sb cs  h401 WL.old G c403 ) c405 (by rw [hml]; rfl) (lenOf pd_13 rfl) rfl (hb hby d_prog_30_2_135) (Nat.le_of_ble_eq_true rfl) (Nat.le_of_ble_eq_true rfl) rfl rfl (Nat.le_of_ble_eq_true rfl) (Nat.le_of_ble_eq_true rfl) rfl fun T408 W408 => ?_
      refine g_icmpN (pc' := 141) W408.here hx (hb hby d_prog_30_2_138) rfl (tlt (show i.toInt32 < cs.length.toInt32 from (own_ltn hi2 (by omega)))).2.1 ?_
      refine g_aloadN (pc' := 142) W408.here hx (hb hby d_prog_30_2_141) rfl rfl rfl ?_
      refine g_iloadN (pc' := 143) W408.here hx (hb hby d_prog_30_2_142) rfl rfl ?_
      refine w_virtualp (pc' := 146) (st := []) (y := (⟨"java/lang/String", "charAt", "(I)C"⟩ : MethodName)) (z := (⟨"java/lang/String", "charAt", "(I)C"⟩ : MethodName)) (a := a) W408 hx [(.int i.toInt32)] (hw _ (List.mem_of_getElem? w_209)) (hw _ (List.mem_of_getElem? w_210)) (nfS (z := (⟨"java/lang/String", "charAt", "(I)C"⟩ : MethodName)) (hw _ (List.mem_of_getElem? w_212))) (hw _ (List.mem_of_getElem? w_212)) (hw _ (List.mem_of_getElem? w_211)) (hw _ (List.mem_of_getElem? w_8)) (hw _ (List.mem_of_getElem? w_213)) (by decide) (c_charAt l Z a0 hw hE cc fm a sb cs i.toInt32 ci h401 W408.old G c403 (own_nneg (by omega)) (own_ltn hi2 (by omega)) (by rw [i32_nat (by omega)]; exact hci)) c405 (by rw [hml]; rfl) (lenOf pd_10 rfl) rfl (hb hby d_prog_30_2_143) (Nat.le_of_ble_eq_true rfl) (Nat.le_of_ble_eq_true rfl) rfl rfl (Nat.le_of_ble_eq_true rfl) (Nat.le_of_ble_eq_true rfl) rfl fun T409 W409 => ?_
      refine g_istore (pc' := 148) (Ls' := #[.val (.ref w), .val (.ref a), .val (.ref ts402), .val (.int i.toInt32), .val (.int ci), .unset]) W409.here hx (hb hby d_prog_30_2_146) (XS.store1 (o := o4) rfl ho_o4 rfl) rfl ?_
      refine g_iload (pc' := 150) W409.here hx (hb hby d_prog_30_2_148) rfl rfl ?_
      refine g_ifY (pc' := 202) W409.here hx (hb hby d_prog_30_2_150) rfl (feq (show ¬ (ci = (0 : Int32)) from hnz)).2 ?_
      refine g_aloadN (pc' := 203) W409.here hx (hb hby d_prog_30_2_202) rfl rfl rfl ?_
      refine g_iloadN (pc' := 204) W409.here hx (hb hby d_prog_30_2_203) rfl rfl ?_
      refine w_callSp (pc' := 207) (st := []) (y := (⟨"com/example/transaction_locking/transactionlocking/value/Quoting", "isUnpairedSurrogate", "(Ljava/lang/String;I)Z"⟩ : MethodName)) W409 hx [(.ref a), (.int i.toInt32)] (hw _ (List.mem_of_getElem? w_231)) (hw _ (List.mem_of_getElem? w_232)) (hw _ (List.mem_of_getElem? w_233)) (hw _ (List.mem_of_getElem? w_234)) (by decide) (c_unp l Z a0 hw hE cc fm a sb i cs ci h401 W409.old G c403 hl hi2 hci) (by rw [hml]; rfl) (lenOf pd_31 rfl) rfl (hb hby d_prog_30_2_204) (Nat.le_of_ble_eq_true rfl) (Nat.le_of_ble_eq_true rfl) rfl rfl (Nat.le_of_ble_eq_true rfl) (Nat.le_of_ble_eq_true rfl) rfl fun T410 W410 => ?_
      refine g_ifY (pc' := 268) W410.here hx (hb hby d_prog_30_2_207) rfl (teq (show (0 : Int32) = (0 : Int32) from (by decide))).1 ?_
      refine g_iincV (i + 1).toInt32 (pc' := 271) (Ls' := #[.val (.ref w), .val (.ref a), .val (.ref ts402), .val (.int (i + 1).toInt32), .val (.int ci), .unset]) W410.here hx (hb hby d_prog_30_2_268) (own_succ i) rfl rfl rfl ?_
      refine g_goto (pc' := 133) W410.here hx (hb hby d_prog_30_2_271) rfl ?_
      exact ih (i + 1) (by omega) _ _ (One.val rfl) W410 
  exact LOOP cs.length 0 (by omega) _ _ One.u W406 
set_option maxRecDepth 65536 in
set_option maxHeartbeats 40000000 in
theorem c_rec (l : Launch) (Z : State) (a0 : Array Value) (hw : ∀ d ∈ tables_1, d.before a0 Z = true) (hE : EW Z a0 consts_1) (o : Nat) (h0 : Heap) (O : Ext Z.heap h0)  :
    Con l Z consts_1 (⟨"java/lang/Record", "<init>", "()V"⟩ : MethodName) jdk_30_method_1_code 1 (Option.none : Option Jvm.ClassFile.FieldType) ({ frames := 1, cells := 0, slots := 0, locals := 12 } : Room) #[(.ref o)] h0 [] (pureQ none h0) := by
  refine Con.of (a0 := a0) #[.val (.ref o)] (plainFor_of_name pn_12) hE O all0 (fun m => by first | (simp [entryFrame, mkF, argsToLocals, Value.category]; done) | rfl) ?_
  intro p e s m below meth c T0 hx hby hml hnm hret hlk hh W0
  refine g_aloadN (pc' := 1) W0.here hx (hb hby d_jdk_30_1_0) rfl rfl rfl ?_
  refine w_initO (pc' := 4) W0 hx (hw _ (List.mem_of_getElem? w_46)) (hw _ (List.mem_of_getElem? w_17)) (hw _ (List.mem_of_getElem? w_18)) (by rw [hml]; rfl) (hb hby d_jdk_30_1_1) (Nat.le_of_ble_eq_true rfl) (Nat.le_of_ble_eq_true rfl) rfl fun T411 W411 => ?_
  refine w_retV W411 hx hh hlk hret (hb hby d_jdk_30_1_4) (Nat.le_of_ble_eq_true rfl) (Nat.le_of_ble_eq_true rfl) ?_
  exact ⟨rfl, rfl⟩
set_option maxRecDepth 65536 in
set_option maxHeartbeats 40000000 in
theorem c_lock (l : Launch) (Z : State) (a0 : Array Value) (hw : ∀ d ∈ tables_1, d.before a0 Z = true) (hE : EW Z a0 consts_1) (cc : Int32) (fm : Value) (dO dT : Nat) (vO vT : List Value) (o a sb : Nat) (cs : List Int32) (h0 : Heap) (O : Ext Z.heap h0) (G : SEnv Z cc fm) (S_D1 : Sta Z Z.heap "java/lang/Integer" "DigitOnes" "[B" (.ref dO)) (S_D2 : Sta Z Z.heap "java/lang/Integer" "DigitTens" "[B" (.ref dT)) (V_D1 : Ary Z Z.heap dO .byte vO) (V_D2 : Ary Z Z.heap dT .byte vT) (l_D1 : vO.length = 100) (l_D2 : vT.length = 100) (hz : Z.heap.size ≤ o) (E0 : Exa Z h0 o "com/example/transaction_locking/transactionlocking/value/LockName") (u1 : Value) (F1 : Fld Z h0 o "com/example/transaction_locking/transactionlocking/value/LockName" "value" "Ljava/lang/String;" u1) (S0 : SL Z h0 a sb cs) (hl : cs.length ≤ 200) (hne : ¬ cs = []) (hz0 : ∀ c ∈ cs, ¬ c = 0) (noa : o ≠ a) (nob : o ≠ sb) :
    Con l Z consts_1 (⟨"com/example/transaction_locking/transactionlocking/value/LockName", "<init>", "(Ljava/lang/String;)V"⟩ : MethodName) prog_34_method_1_code 2 (Option.none : Option Jvm.ClassFile.FieldType) ({ frames := 7, cells := 14, slots := 307, locals := 130 } : Room) #[(.ref o), (.ref a)] h0 [o] (fun v _ => v = none) := by
  refine Con.of (a0 := a0) #[.val (.ref o), .val (.ref a)] (plainFor_of_name pn_13) hE O (allS ⟨hz, E0.lt⟩ all0) (fun m => by first | (simp [entryFrame, mkF, argsToLocals, Value.category]; done) | rfl) ?_
  intro p e s m below meth c T0 hx hby hml hnm hret hlk hh W0
  have EV_D1 := V_D1.ext O
  have lt_dO : dO < h0.size := EV_D1.lt
  have zt_dO : dO < Z.heap.size := V_D1.lt
  have EV_D2 := V_D2.ext O
  have lt_dT : dT < h0.size := EV_D2.lt
  have zt_dT : dT < Z.heap.size := V_D2.lt
  have lt_o : o < h0.size := E0.lt
  have ES0 := S0.1
  have lt_a : a < h0.size := S0.lt
  have lt_sb : sb < h0.size := S0.ltb
  refine g_aloadN (pc' := 1) W0.here hx (hb hby d_prog_34_1_0) rfl rfl rfl ?_
  refine w_special (pc' := 4) (st := []) (y := (⟨"java/lang/Record", "<init>", "()V"⟩ : MethodName)) (a := o) W0 hx [] rfl (hw _ (List.mem_of_getElem? w_41)) (hw _ (List.mem_of_getElem? w_42)) (hw _ (List.mem_of_getElem? w_44)) (hw _ (List.mem_of_getElem? w_45)) (by decide) (c_rec l Z a0 hw hE o h0 W0.old) all0 (by rw [hml]; rfl) (lenOf pd_12 rfl) rfl (hb hby d_prog_34_1_1) (Nat.le_of_ble_eq_true rfl) (Nat.le_of_ble_eq_true rfl) (Nat.le_of_ble_eq_true rfl) (Nat.le_of_ble_eq_true rfl) rfl fun v412 T412 h412 W412 K412 Q412 => ?_
  have z_K412 : h0.size ≤ h412.size := K412.1
  obtain ⟨rfl, -⟩ := Q412
  refine w_ldcS (pc' := 6) (vs := ([(108 : Int32), (111 : Int32), (99 : Int32), (107 : Int32), (32 : Int32), (110 : Int32), (97 : Int32), (109 : Int32), (101 : Int32)] : List Int32).map latB) (z := (9 : Int32)) W412 hx (hw _ (List.mem_of_getElem? w_47)) (own_atoms hw) (List.mem_of_getElem? (i := 4) rfl) ⟨by decide, by decide⟩ (by decide) rfl (hb hby d_prog_34_1_4) 36 (by decide) (Nat.le_of_ble_eq_true rfl) (Nat.le_of_ble_eq_true rfl) (Nat.le_of_ble_eq_true rfl) rfl fun T413 h413 sa413 sb413 W413 K413 A413 C413 F413 V413 N413 => ?_
  have z_K413 : h412.size ≤ h413.size := K413.1
  obtain ⟨ne_o_sa413, ne_o_sb413⟩ := N413 o (List.mem_of_getElem? (i := 0) rfl)
  have S413 : SL Z h413 sa413 sb413 [(108 : Int32), (111 : Int32), (99 : Int32), (107 : Int32), (32 : Int32), (110 : Int32), (97 : Int32), (109 : Int32), (101 : Int32)] := ⟨A413, C413, F413, V413, by decide⟩
  have ES413 := S413.1
  have lt_sa413 : sa413 < h413.size := S413.lt
  have lt_sb413 : sb413 < h413.size := S413.ltb
  refine g_aloadN (pc' := 7) W413.here hx (hb hby d_prog_34_1_6) rfl rfl rfl ?_
  have c414 := ((S0.keep K412 nin0 nin0).keep K413 nin0 nin0)
  refine w_callS (pc' := 10) (st := []) (y := (⟨"com/example/transaction_locking/transactionlocking/value/ExactString", "check", "(Ljava/lang/String;Ljava/lang/String;)V"⟩ : MethodName)) W413 hx [(.ref sa413), (.ref a)] (hw _ (List.mem_of_getElem? w_50)) (hw _ (List.mem_of_getElem? w_51)) (hw _ (List.mem_of_getElem? w_52)) (hw _ (List.mem_of_getElem? w_53)) (by decide) (c_check l Z a0 hw hE cc fm dO dT vO vT sa413 sb413 a sb [(108 : Int32), (111 : Int32), (99 : Int32), (107 : Int32), (32 : Int32), (110 : Int32), (97 : Int32), (109 : Int32), (101 : Int32)] cs h413 W413.old G S_D1 S_D2 V_D1 V_D2 l_D1 l_D2 S413 (rfl : [(108 : Int32), (111 : Int32), (99 : Int32), (107 : Int32), (32 : Int32), (110 : Int32), (97 : Int32), (109 : Int32), (101 : Int32)].length = 9) c414 hl hne hz0) all0 (by rw [hml]; rfl) (lenOf pd_32 rfl) rfl (hb hby d_prog_34_1_7) (Nat.le_of_ble_eq_true rfl) (Nat.le_of_ble_eq_true rfl) (Nat.le_of_ble_eq_true rfl) (Nat.le_of_ble_eq_true rfl) rfl fun v415 T415 h415 W415 K415 Q415 => ?_
  have z_K415 : h413.size ≤ h415.size := K415.1
  obtain rfl := Q415
  refine g_aloadN (pc' := 11) W415.here hx (hb hby d_prog_34_1_10) rfl rfl rfl ?_
  refine g_aloadN (pc' := 12) W415.here hx (hb hby d_prog_34_1_11) rfl rfl rfl ?_
  have c416 := (((F1.keep K412 nin0).keep K413 nin0).keep K415 nin0)
  have c417 := (((E0.keep K412).keep K413).keep K415)
  refine w_put (pc' := 15) W415 hx (hw _ (List.mem_of_getElem? w_245)) Via.refl c416 c417 (Or.inr ⟨(hw _ (List.mem_of_getElem? w_246)), rfl, hnm⟩) (hw _ (List.mem_of_getElem? w_36)) (ty := (.object "java/lang/String")) (by decide) rfl rfl (List.mem_of_getElem? (i := 0) rfl) (hb hby d_prog_34_1_12) rfl fun T418 h418 W418 K418 R418 F418 A418 => ?_
  have z_K418 : h415.size ≤ h418.size := K418.1
  refine w_retV W418 hx hh hlk hret (hb hby d_prog_34_1_15) (Nat.le_of_ble_eq_true rfl) (Nat.le_of_ble_eq_true rfl) ?_
  exact rfl
theorem own_lcl {x y : Int64} : lcmpW x y < 0 ↔ x.toInt < y.toInt := by
  have q := c_lcmp x y
  rw [Int32.lt_iff_toInt_lt]
  have t := own_t0
  omega
theorem own_lcg {x y : Int64} : (0 : Int32) < lcmpW x y ↔ y.toInt < x.toInt := by
  have q := c_lcmp x y
  rw [Int32.lt_iff_toInt_lt]
  have t := own_t0
  omega
set_option maxRecDepth 65536 in
set_option maxHeartbeats 40000000 in
theorem c_wait (l : Launch) (Z : State) (a0 : Array Value) (hw : ∀ d ∈ tables_1, d.before a0 Z = true) (hE : EW Z a0 consts_1) (w o : Nat) (xt : Int64) (h0 : Heap) (O : Ext Z.heap h0) (ht : 0 ≤ xt.toInt ∧ xt.toInt ≤ 2147483647) :
    Con l Z consts_1 (⟨"com/example/transaction_locking/transactionlocking/handle/WaitTimeout", "check", "(Ljava/lang/String;Lcom/example/transaction_locking/transactionlocking/value/LockName;J)V"⟩ : MethodName) prog_29_method_2_code 4 (Option.none : Option Jvm.ClassFile.FieldType) ({ frames := 0, cells := 0, slots := 0, locals := 0 } : Room) #[(.ref w), (.ref o), (.long xt)] h0 [] (pureQ none h0) := by
  refine Con.of (a0 := a0) #[.val (.ref w), .val (.ref o), .val (.long xt), .second] (plainFor_of_name pn_14) hE O all0 (fun m => by first | (simp [entryFrame, mkF, argsToLocals, Value.category]; done) | rfl) ?_
  intro p e s m below meth c T0 hx hby hml hnm hret hlk hh W0
  refine g_lloadN (pc' := 1) W0.here hx (hb hby d_prog_29_2_0) rfl rfl ?_
  refine g_lconst (0 : Int64) (pc' := 2) W0.here hx (hb hby d_prog_29_2_1) rfl rfl ?_
  refine g_lcmp (pc' := 3) W0.here hx (hb hby d_prog_29_2_2) rfl ?_
  refine g_ifN (pc' := 6) W0.here hx (hb hby d_prog_29_2_3) rfl (flt (show ¬ ((lcmpW xt (0 : Int64)) < (0 : Int32)) from (fun q => by have z := own_lcl.mp q; have e : (0 : Int64).toInt = 0 := rfl; omega))).1 ?_
  refine g_lloadN (pc' := 7) W0.here hx (hb hby d_prog_29_2_6) rfl rfl ?_
  refine w_ldc2J (pc' := 10) W0 hx (hw _ (List.mem_of_getElem? w_260)) (hb hby d_prog_29_2_7) rfl ?_
  refine g_lcmp (pc' := 11) W0.here hx (hb hby d_prog_29_2_10) rfl ?_
  refine g_ifY (pc' := 75) W0.here hx (hb hby d_prog_29_2_11) rfl (flt (show ¬ ((0 : Int32) < (lcmpW xt (2147483647 : Int64))) from (fun q => by have z := own_lcg.mp q; have e : (2147483647 : Int64).toInt = 2147483647 := rfl; omega))).2.2.2 ?_
  refine w_retV W0 hx hh hlk hret (hb hby d_prog_29_2_75) (Nat.le_of_ble_eq_true rfl) (Nat.le_of_ble_eq_true rfl) ?_
  exact ⟨rfl, rfl⟩
theorem own_drawn (x : Int32) : 1 ≤ (nar .char (((x &&& (2147483647 : Int32)) % (255 : Int32)) + (1 : Int32)).toUInt32.toUInt16.toUInt32.toInt32).toInt ∧ (nar .char (((x &&& (2147483647 : Int32)) % (255 : Int32)) + (1 : Int32)).toUInt32.toUInt16.toUInt32.toInt32).toInt ≤ 255 := by
  have q := c_mask x 2147483647 31 (by decide) (by decide)
  have q2 := (c_irem (x &&& 2147483647) 255 255 rfl).1 (by omega)
  have q3 := c_iadd ((x &&& 2147483647) % 255) 1
  have r := rng32 ((x &&& 2147483647) % 255 + 1)
  have t := own_t1
  generalize (x &&& 2147483647) % 255 + 1 = z at *
  have c := c_i2c z
  have e : z.toUInt32.toUInt16.toUInt32.toInt32 = z := by apply Int32.toInt_inj.mp; omega
  rw [e, own_nchar (by omega)]; omega
set_option maxRecDepth 65536 in
set_option maxHeartbeats 40000000 in
theorem c_drawn (l : Launch) (Z : State) (a0 : Array Value) (hw : ∀ d ∈ tables_1, d.before a0 Z = true) (hE : EW Z a0 consts_1) (xc : Int32) (h0 : Heap) (O : Ext Z.heap h0)  :
    Con l Z consts_1 (⟨"com/example/transaction_locking/transactionlocking/handle/HeldLocksCheckRequestPinLaw", "drawn", "(I)C"⟩ : MethodName) method_2_code 1 (Option.some Jvm.ClassFile.FieldType.char) ({ frames := 0, cells := 0, slots := 0, locals := 0 } : Room) #[(.int xc)] h0 [] (fun v _ => ∃ c : Int32, v = some (.int c) ∧ 1 ≤ c.toInt ∧ c.toInt ≤ 255) := by
  refine Con.of (a0 := a0) #[.val (.int xc)] (plainFor_of_name pn_15) hE O all0 (fun m => by first | (simp [entryFrame, mkF, argsToLocals, Value.category]; done) | rfl) ?_
  intro p e s m below meth c T0 hx hby hml hnm hret hlk hh W0
  refine g_iloadN (pc' := 1) W0.here hx (hb hby d_method_2_0) rfl rfl ?_
  refine w_ldcI (pc' := 3) W0 hx (hw _ (List.mem_of_getElem? w_4)) (hb hby d_method_2_1) rfl ?_
  refine g_iand (pc' := 4) W0.here hx (hb hby d_method_2_3) rfl ?_
  refine g_sipush (255 : Int32) (pc' := 7) W0.here hx (hb hby d_method_2_4) rfl rfl ?_
  refine g_irem (pc' := 8) W0.here hx (hb hby d_method_2_7) (by decide) rfl ?_
  refine g_iconst (1 : Int32) (pc' := 9) W0.here hx (hb hby d_method_2_8) rfl rfl ?_
  refine g_iadd (pc' := 10) W0.here hx (hb hby d_method_2_9) rfl ?_
  refine g_i2c (pc' := 11) W0.here hx (hb hby d_method_2_10) rfl ?_
  refine w_retN (t := .char) W0 hx hh hlk hret (by simp) (hb hby d_method_2_11) (Nat.le_of_ble_eq_true rfl) (Nat.le_of_ble_eq_true rfl) ?_
  exact ⟨_, rfl, own_drawn _⟩
set_option maxRecDepth 65536 in
set_option maxHeartbeats 40000000 in
theorem c_req (l : Launch) (Z : State) (a0 : Array Value) (hw : ∀ d ∈ tables_1, d.before a0 Z = true) (hE : EW Z a0 consts_1) (cc : Int32) (fm : Value) (o md : Nat) (xt : Int64) (h0 : Heap) (O : Ext Z.heap h0) (G : SEnv Z cc fm) (ht : 0 ≤ xt.toInt ∧ xt.toInt ≤ 2147483647) :
    Con l Z consts_1 (⟨"com/example/transaction_locking/transactionlocking/handle/HeldLocks", "checkRequest", "(Lcom/example/transaction_locking/transactionlocking/value/LockName;Lcom/example/transaction_locking/transactionlocking/value/LockMode;J)V"⟩ : MethodName) prog_15_method_2_code 4 (Option.none : Option Jvm.ClassFile.FieldType) ({ frames := 1, cells := 2, slots := 36, locals := 15 } : Room) #[(.ref o), (.ref md), (.long xt)] h0 [] (fun v _ => v = none) := by
  refine Con.of (a0 := a0) #[.val (.ref o), .val (.ref md), .val (.long xt), .second] (plainFor_of_name pn_16) hE O all0 (fun m => by first | (simp [entryFrame, mkF, argsToLocals, Value.category]; done) | rfl) ?_
  intro p e s m below meth c T0 hx hby hml hnm hret hlk hh W0
  refine g_aloadN (pc' := 1) W0.here hx (hb hby d_prog_15_2_0) rfl rfl rfl ?_
  refine g_nonnullY (pc' := 14) W0.here hx (hb hby d_prog_15_2_1) rfl ?_
  refine g_aloadN (pc' := 15) W0.here hx (hb hby d_prog_15_2_14) rfl rfl rfl ?_
  refine g_nonnullY (pc' := 50) W0.here hx (hb hby d_prog_15_2_15) rfl ?_
  refine w_ldcS (pc' := 52) (vs := ([(116 : Int32), (114 : Int32), (121 : Int32), (32 : Int32), (108 : Int32), (111 : Int32), (99 : Int32), (107 : Int32)] : List Int32).map latB) (z := (8 : Int32)) W0 hx (hw _ (List.mem_of_getElem? w_255)) (own_atoms hw) (List.mem_of_getElem? (i := 0) rfl) ⟨by decide, by decide⟩ (by decide) rfl (hb hby d_prog_15_2_50) 32 (by decide) (Nat.le_of_ble_eq_true rfl) (Nat.le_of_ble_eq_true rfl) (Nat.le_of_ble_eq_true rfl) rfl fun T419 h419 sa419 sb419 W419 K419 A419 C419 F419 V419 N419 => ?_
  have z_K419 : h0.size ≤ h419.size := K419.1
  have S419 : SL Z h419 sa419 sb419 [(116 : Int32), (114 : Int32), (121 : Int32), (32 : Int32), (108 : Int32), (111 : Int32), (99 : Int32), (107 : Int32)] := ⟨A419, C419, F419, V419, by decide⟩
  have ES419 := S419.1
  have lt_sa419 : sa419 < h419.size := S419.lt
  have lt_sb419 : sb419 < h419.size := S419.ltb
  refine g_aloadN (pc' := 53) W419.here hx (hb hby d_prog_15_2_52) rfl rfl rfl ?_
  refine g_lloadN (pc' := 54) W419.here hx (hb hby d_prog_15_2_53) rfl rfl ?_
  refine w_callSp (pc' := 57) (st := []) (y := (⟨"com/example/transaction_locking/transactionlocking/handle/WaitTimeout", "check", "(Ljava/lang/String;Lcom/example/transaction_locking/transactionlocking/value/LockName;J)V"⟩ : MethodName)) W419 hx [(.ref sa419), (.ref o), (.long xt)] (hw _ (List.mem_of_getElem? w_256)) (hw _ (List.mem_of_getElem? w_257)) (hw _ (List.mem_of_getElem? w_258)) (hw _ (List.mem_of_getElem? w_259)) (by decide) (c_wait l Z a0 hw hE sa419 o xt h419 W419.old ht) (by rw [hml]; rfl) (lenOf pd_33 rfl) rfl (hb hby d_prog_15_2_54) (Nat.le_of_ble_eq_true rfl) (Nat.le_of_ble_eq_true rfl) rfl rfl (Nat.le_of_ble_eq_true rfl) (Nat.le_of_ble_eq_true rfl) rfl fun T420 W420 => ?_
  refine w_retV W420 hx hh hlk hret (hb hby d_prog_15_2_57) (Nat.le_of_ble_eq_true rfl) (Nat.le_of_ble_eq_true rfl) ?_
  exact rfl
set_option maxRecDepth 65536 in
set_option maxHeartbeats 40000000 in
theorem c_law (l : Launch) (Z : State) (a0 : Array Value) (hw : ∀ d ∈ tables_1, d.before a0 Z = true) (hE : EW Z a0 consts_1) (cc : Int32) (fm : Value) (dO dT : Nat) (vO vT : List Value) (mX mS : Nat) (p0 p1 p2 p3 : Int32) (p4 : Int64) (h0 : Heap) (O : Ext Z.heap h0) (G : SEnv Z cc fm) (S_D1 : Sta Z Z.heap "java/lang/Integer" "DigitOnes" "[B" (.ref dO)) (S_D2 : Sta Z Z.heap "java/lang/Integer" "DigitTens" "[B" (.ref dT)) (V_D1 : Ary Z Z.heap dO .byte vO) (V_D2 : Ary Z Z.heap dT .byte vT) (l_D1 : vO.length = 100) (l_D2 : vT.length = 100) (S_X : Sta Z Z.heap "com/example/transaction_locking/transactionlocking/value/LockMode" "EXCLUSIVE" "Lcom/example/transaction_locking/transactionlocking/value/LockMode;" (.ref mX)) (S_S : Sta Z Z.heap "com/example/transaction_locking/transactionlocking/value/LockMode" "SHARED" "Lcom/example/transaction_locking/transactionlocking/value/LockMode;" (.ref mS))  :
    ConL tables_1 l Z consts_1 x code maxLocals ret room_1 #[(.int p0), (.int p1), (.int p2), (.int p3), (.long p4)] h0 [] (fun v _ => v = some (.int 1)) := by
  refine Con.of (a0 := a0) #[.val (.int p0), .val (.int p1), .val (.int p2), .val (.int p3), .val (.long p4), .second, .unset, .unset, .unset, .unset, .unset, .unset, .unset, .unset, .unset, .unset, .unset, .unset] (plainFor_of_name pn_15) hE O all0 (fun m => by first | (simp [entryFrame, mkF, argsToLocals, Value.category, maxLocals]; done) | rfl) ?_
  intro p e s m below meth c T0 hx hby hml hnm hret hlk hh W0
  have EV_D1 := V_D1.ext O
  have lt_dO : dO < h0.size := EV_D1.lt
  have zt_dO : dO < Z.heap.size := V_D1.lt
  have EV_D2 := V_D2.ext O
  have lt_dT : dT < h0.size := EV_D2.lt
  have zt_dT : dT < Z.heap.size := V_D2.lt
  refine g_iloadN (pc' := 1) W0.here hx (hb hby at_0) rfl rfl ?_
  refine w_callS (pc' := 4) (st := []) (y := (⟨"com/example/transaction_locking/transactionlocking/handle/HeldLocksCheckRequestPinLaw", "drawn", "(I)C"⟩ : MethodName)) W0 hx [(.int p0)] (hw _ (List.mem_of_getElem? w_0)) (hw _ (List.mem_of_getElem? w_1)) (hw _ (List.mem_of_getElem? w_2)) (hw _ (List.mem_of_getElem? w_3)) (by decide) (c_drawn l Z a0 hw hE p0 h0 W0.old) all0 (by rw [hml]; rfl) (lenOf pd_10 rfl) rfl (hb hby at_1) (Nat.le_of_ble_eq_true rfl) (Nat.le_of_ble_eq_true rfl) (Nat.le_of_ble_eq_true rfl) (Nat.le_of_ble_eq_true rfl) rfl fun v421 T421 h421 W421 K421 Q421 => ?_
  have z_K421 : h0.size ≤ h421.size := K421.1
  obtain ⟨e0, rfl, r_e0⟩ := Q421
  have l_e0 : 0 ≤ e0.toInt ∧ e0.toInt ≤ 255 := by omega
  have nz_e0 : ¬ e0 = 0 := fun q => by rw [q] at r_e0; exact absurd r_e0.1 (by decide)
  refine g_istore (pc' := 6) (Ls' := #[.val (.int p0), .val (.int p1), .val (.int p2), .val (.int p3), .val (.long p4), .second, .val (.int e0), .unset, .unset, .unset, .unset, .unset, .unset, .unset, .unset, .unset, .unset, .unset]) W421.here hx (hb hby at_4) rfl rfl ?_
  refine g_iloadN (pc' := 7) W421.here hx (hb hby at_6) rfl rfl ?_
  refine w_callS (pc' := 10) (st := []) (y := (⟨"com/example/transaction_locking/transactionlocking/handle/HeldLocksCheckRequestPinLaw", "drawn", "(I)C"⟩ : MethodName)) W421 hx [(.int p1)] (hw _ (List.mem_of_getElem? w_0)) (hw _ (List.mem_of_getElem? w_1)) (hw _ (List.mem_of_getElem? w_2)) (hw _ (List.mem_of_getElem? w_3)) (by decide) (c_drawn l Z a0 hw hE p1 h421 W421.old) all0 (by rw [hml]; rfl) (lenOf pd_10 rfl) rfl (hb hby at_7) (Nat.le_of_ble_eq_true rfl) (Nat.le_of_ble_eq_true rfl) (Nat.le_of_ble_eq_true rfl) (Nat.le_of_ble_eq_true rfl) rfl fun v422 T422 h422 W422 K422 Q422 => ?_
  have z_K422 : h421.size ≤ h422.size := K422.1
  obtain ⟨e1, rfl, r_e1⟩ := Q422
  have l_e1 : 0 ≤ e1.toInt ∧ e1.toInt ≤ 255 := by omega
  have nz_e1 : ¬ e1 = 0 := fun q => by rw [q] at r_e1; exact absurd r_e1.1 (by decide)
  refine g_istore (pc' := 12) (Ls' := #[.val (.int p0), .val (.int p1), .val (.int p2), .val (.int p3), .val (.long p4), .second, .val (.int e0), .val (.int e1), .unset, .unset, .unset, .unset, .unset, .unset, .unset, .unset, .unset, .unset]) W422.here hx (hb hby at_10) rfl rfl ?_
  refine g_iloadN (pc' := 13) W422.here hx (hb hby at_12) rfl rfl ?_
  refine w_callS (pc' := 16) (st := []) (y := (⟨"com/example/transaction_locking/transactionlocking/handle/HeldLocksCheckRequestPinLaw", "drawn", "(I)C"⟩ : MethodName)) W422 hx [(.int p2)] (hw _ (List.mem_of_getElem? w_0)) (hw _ (List.mem_of_getElem? w_1)) (hw _ (List.mem_of_getElem? w_2)) (hw _ (List.mem_of_getElem? w_3)) (by decide) (c_drawn l Z a0 hw hE p2 h422 W422.old) all0 (by rw [hml]; rfl) (lenOf pd_10 rfl) rfl (hb hby at_13) (Nat.le_of_ble_eq_true rfl) (Nat.le_of_ble_eq_true rfl) (Nat.le_of_ble_eq_true rfl) (Nat.le_of_ble_eq_true rfl) rfl fun v423 T423 h423 W423 K423 Q423 => ?_
  have z_K423 : h422.size ≤ h423.size := K423.1
  obtain ⟨e2, rfl, r_e2⟩ := Q423
  have l_e2 : 0 ≤ e2.toInt ∧ e2.toInt ≤ 255 := by omega
  have nz_e2 : ¬ e2 = 0 := fun q => by rw [q] at r_e2; exact absurd r_e2.1 (by decide)
  refine g_istore (pc' := 18) (Ls' := #[.val (.int p0), .val (.int p1), .val (.int p2), .val (.int p3), .val (.long p4), .second, .val (.int e0), .val (.int e1), .val (.int e2), .unset, .unset, .unset, .unset, .unset, .unset, .unset, .unset, .unset]) W423.here hx (hb hby at_16) rfl rfl ?_
  refine g_iloadN (pc' := 19) W423.here hx (hb hby at_18) rfl rfl ?_
  refine w_ldcI (pc' := 21) W423 hx (hw _ (List.mem_of_getElem? w_4)) (hb hby at_19) rfl ?_
  refine g_iand (pc' := 22) W423.here hx (hb hby at_21) rfl ?_
  refine g_iconst (3 : Int32) (pc' := 23) W423.here hx (hb hby at_22) rfl rfl ?_
  refine g_irem (pc' := 24) W423.here hx (hb hby at_23) (by decide) rfl ?_
  refine g_iconst (1 : Int32) (pc' := 25) W423.here hx (hb hby at_24) rfl rfl ?_
  refine g_iadd (pc' := 26) W423.here hx (hb hby at_25) rfl ?_
  obtain ⟨nn, hnn⟩ : ∃ zz_ : Int32, zz_ = (((p3 &&& (2147483647 : Int32)) % (3 : Int32)) + (1 : Int32)) := ⟨_, rfl⟩
  refine g_name (congrArg Value.int hnn) ?_
  refine g_istore (pc' := 28) (Ls' := #[.val (.int p0), .val (.int p1), .val (.int p2), .val (.int p3), .val (.long p4), .second, .val (.int e0), .val (.int e1), .val (.int e2), .val (.int nn), .unset, .unset, .unset, .unset, .unset, .unset, .unset, .unset]) W423.here hx (hb hby at_26) rfl rfl ?_
  refine g_iconst (1 : Int32) (pc' := 29) W423.here hx (hb hby at_28) rfl rfl ?_
  refine w_newarr (pc' := 31) (cap := 1) W423 hx (hw _ (List.mem_of_getElem? w_5)) (hb hby at_29) (by decide) (Nat.le_refl _) (Nat.le_of_ble_eq_true rfl) (Nat.le_of_ble_eq_true rfl) (Nat.le_of_ble_eq_true rfl) rfl rfl fun T424 h424 b424 g424 W424 K424 V424 => ?_
  have z_K424 : h423.size ≤ h424.size := K424.1
  have ne_dO_b424 : dO ≠ b424 := by omega
  have ne_dT_b424 : dT ≠ b424 := by omega
  have lt_b424 : b424 < h424.size := W424.lt (List.mem_cons_self ..)
  have V424 : Ary Z h424 b424 .char [(.int (0 : Int32))] := V424
  refine g_dup (pc' := 32) W424.here hx (hb hby at_31) rfl rfl ?_
  refine g_iconst (0 : Int32) (pc' := 33) W424.here hx (hb hby at_32) rfl rfl ?_
  refine g_iload (pc' := 35) W424.here hx (hb hby at_33) rfl rfl ?_
  refine w_castore (pc' := 36) (x' := e0) W424 hx V424 (by decide) (Nat.lt_of_lt_of_le (Nat.lt_succ_self _) (Nat.le_of_ble_eq_true rfl)) (List.mem_of_getElem? (i := 0) rfl) (own_nchar (own_c16 l_e0)) (hb hby at_35) rfl fun T425 h425 W425 K425 V425 => ?_
  have z_K425 : h424.size ≤ h425.size := K425.1
  have V425 : Ary Z h425 b424 .char [(.int e0)] := V425
  refine g_astore (pc' := 38) (Ls' := #[.val (.int p0), .val (.int p1), .val (.int p2), .val (.int p3), .val (.long p4), .second, .val (.int e0), .val (.int e1), .val (.int e2), .val (.int nn), .val (.ref b424), .unset, .unset, .unset, .unset, .unset, .unset, .unset]) W425.here hx (hb hby at_36) rfl rfl rfl ?_
  refine g_iconst (2 : Int32) (pc' := 39) W425.here hx (hb hby at_38) rfl rfl ?_
  refine w_newarr (pc' := 41) (cap := 2) W425 hx (hw _ (List.mem_of_getElem? w_5)) (hb hby at_39) (by decide) (Nat.le_refl _) (Nat.le_of_ble_eq_true rfl) (Nat.le_of_ble_eq_true rfl) (Nat.le_of_ble_eq_true rfl) rfl rfl fun T426 h426 b426 g426 W426 K426 V426 => ?_
  have z_K426 : h425.size ≤ h426.size := K426.1
  have ne_dO_b426 : dO ≠ b426 := by omega
  have ne_dT_b426 : dT ≠ b426 := by omega
  have ne_b424_b426 : b424 ≠ b426 := by omega
  have lt_b426 : b426 < h426.size := W426.lt (List.mem_cons_self ..)
  have V426 : Ary Z h426 b426 .char [(.int (0 : Int32)), (.int (0 : Int32))] := V426
  refine g_dup (pc' := 42) W426.here hx (hb hby at_41) rfl rfl ?_
  refine g_iconst (0 : Int32) (pc' := 43) W426.here hx (hb hby at_42) rfl rfl ?_
  refine g_iload (pc' := 45) W426.here hx (hb hby at_43) rfl rfl ?_
  refine w_castore (pc' := 46) (x' := e0) W426 hx V426 (by decide) (Nat.lt_of_lt_of_le (Nat.lt_succ_self _) (Nat.le_of_ble_eq_true rfl)) (List.mem_of_getElem? (i := 0) rfl) (own_nchar (own_c16 l_e0)) (hb hby at_45) rfl fun T427 h427 W427 K427 V427 => ?_
  have z_K427 : h426.size ≤ h427.size := K427.1
  have V427 : Ary Z h427 b426 .char [(.int e0), (.int (0 : Int32))] := V427
  refine g_dup (pc' := 47) W427.here hx (hb hby at_46) rfl rfl ?_
  refine g_iconst (1 : Int32) (pc' := 48) W427.here hx (hb hby at_47) rfl rfl ?_
  refine g_iload (pc' := 50) W427.here hx (hb hby at_48) rfl rfl ?_
  refine w_castore (pc' := 51) (x' := e1) W427 hx V427 (by decide) (Nat.lt_of_lt_of_le (Nat.lt_succ_self _) (Nat.le_of_ble_eq_true rfl)) (List.mem_of_getElem? (i := 0) rfl) (own_nchar (own_c16 l_e1)) (hb hby at_50) rfl fun T428 h428 W428 K428 V428 => ?_
  have z_K428 : h427.size ≤ h428.size := K428.1
  have V428 : Ary Z h428 b426 .char [(.int e0), (.int e1)] := V428
  refine g_astore (pc' := 53) (Ls' := #[.val (.int p0), .val (.int p1), .val (.int p2), .val (.int p3), .val (.long p4), .second, .val (.int e0), .val (.int e1), .val (.int e2), .val (.int nn), .val (.ref b424), .val (.ref b426), .unset, .unset, .unset, .unset, .unset, .unset]) W428.here hx (hb hby at_51) rfl rfl rfl ?_
  refine g_iconst (3 : Int32) (pc' := 54) W428.here hx (hb hby at_53) rfl rfl ?_
  refine w_newarr (pc' := 56) (cap := 3) W428 hx (hw _ (List.mem_of_getElem? w_5)) (hb hby at_54) (by decide) (Nat.le_refl _) (Nat.le_of_ble_eq_true rfl) (Nat.le_of_ble_eq_true rfl) (Nat.le_of_ble_eq_true rfl) rfl rfl fun T429 h429 b429 g429 W429 K429 V429 => ?_
  have z_K429 : h428.size ≤ h429.size := K429.1
  have ne_dO_b429 : dO ≠ b429 := by omega
  have ne_dT_b429 : dT ≠ b429 := by omega
  have ne_b424_b429 : b424 ≠ b429 := by omega
  have ne_b426_b429 : b426 ≠ b429 := by omega
  have lt_b429 : b429 < h429.size := W429.lt (List.mem_cons_self ..)
  have V429 : Ary Z h429 b429 .char [(.int (0 : Int32)), (.int (0 : Int32)), (.int (0 : Int32))] := V429
  refine g_dup (pc' := 57) W429.here hx (hb hby at_56) rfl rfl ?_
  refine g_iconst (0 : Int32) (pc' := 58) W429.here hx (hb hby at_57) rfl rfl ?_
  refine g_iload (pc' := 60) W429.here hx (hb hby at_58) rfl rfl ?_
  refine w_castore (pc' := 61) (x' := e0) W429 hx V429 (by decide) (Nat.lt_of_lt_of_le (Nat.lt_succ_self _) (Nat.le_of_ble_eq_true rfl)) (List.mem_of_getElem? (i := 0) rfl) (own_nchar (own_c16 l_e0)) (hb hby at_60) rfl fun T430 h430 W430 K430 V430 => ?_
  have z_K430 : h429.size ≤ h430.size := K430.1
  have V430 : Ary Z h430 b429 .char [(.int e0), (.int (0 : Int32)), (.int (0 : Int32))] := V430
  refine g_dup (pc' := 62) W430.here hx (hb hby at_61) rfl rfl ?_
  refine g_iconst (1 : Int32) (pc' := 63) W430.here hx (hb hby at_62) rfl rfl ?_
  refine g_iload (pc' := 65) W430.here hx (hb hby at_63) rfl rfl ?_
  refine w_castore (pc' := 66) (x' := e1) W430 hx V430 (by decide) (Nat.lt_of_lt_of_le (Nat.lt_succ_self _) (Nat.le_of_ble_eq_true rfl)) (List.mem_of_getElem? (i := 0) rfl) (own_nchar (own_c16 l_e1)) (hb hby at_65) rfl fun T431 h431 W431 K431 V431 => ?_
  have z_K431 : h430.size ≤ h431.size := K431.1
  have V431 : Ary Z h431 b429 .char [(.int e0), (.int e1), (.int (0 : Int32))] := V431
  refine g_dup (pc' := 67) W431.here hx (hb hby at_66) rfl rfl ?_
  refine g_iconst (2 : Int32) (pc' := 68) W431.here hx (hb hby at_67) rfl rfl ?_
  refine g_iload (pc' := 70) W431.here hx (hb hby at_68) rfl rfl ?_
  refine w_castore (pc' := 71) (x' := e2) W431 hx V431 (by decide) (Nat.lt_of_lt_of_le (Nat.lt_succ_self _) (Nat.le_of_ble_eq_true rfl)) (List.mem_of_getElem? (i := 0) rfl) (own_nchar (own_c16 l_e2)) (hb hby at_70) rfl fun T432 h432 W432 K432 V432 => ?_
  have z_K432 : h431.size ≤ h432.size := K432.1
  have V432 : Ary Z h432 b429 .char [(.int e0), (.int e1), (.int e2)] := V432
  refine g_astore (pc' := 73) (Ls' := #[.val (.int p0), .val (.int p1), .val (.int p2), .val (.int p3), .val (.long p4), .second, .val (.int e0), .val (.int e1), .val (.int e2), .val (.int nn), .val (.ref b424), .val (.ref b426), .val (.ref b429), .unset, .unset, .unset, .unset, .unset]) W432.here hx (hb hby at_71) rfl rfl rfl ?_
  refine g_iload (pc' := 75) W432.here hx (hb hby at_73) rfl rfl ?_
  refine g_iconst (1 : Int32) (pc' := 76) W432.here hx (hb hby at_75) rfl rfl ?_
  by_cases hc76_433 : nn = (1 : Int32)
  · refine g_icmpN (pc' := 79) W432.here hx (hb hby at_76) rfl (teq hc76_433).2 ?_
    refine w_new (pc' := 82) W432 hx (hw _ (List.mem_of_getElem? w_6)) (hw _ (List.mem_of_getElem? w_7)) (hw _ (List.mem_of_getElem? w_8)) (hb hby at_79) (Nat.le_of_ble_eq_true rfl) (Nat.le_of_ble_eq_true rfl) rfl fun T434 h434 b434 g434 W434 K434 A434 D434 => ?_
    have z_K434 : h432.size ≤ h434.size := K434.1
    have ne_dO_b434 : dO ≠ b434 := by omega
    have ne_dT_b434 : dT ≠ b434 := by omega
    have ne_b424_b434 : b424 ≠ b434 := by omega
    have ne_b426_b434 : b426 ≠ b434 := by omega
    have ne_b429_b434 : b429 ≠ b434 := by omega
    have lt_b434 : b434 < h434.size := W434.lt (List.mem_cons_self ..)
    have F434_coder : Fld Z h434 b434 "java/lang/String" "coder" "B" (.int (0 : Int32)) := D434 (Or.inr (hw _ (List.mem_of_getElem? w_32))) (ty := .byte) (by decide)
    have F434_value : Fld Z h434 b434 "java/lang/String" "value" "[B" .null := D434 (Or.inr (hw _ (List.mem_of_getElem? w_34))) (ty := (.array .byte)) (by decide)
    refine g_dup (pc' := 83) W434.here hx (hb hby at_82) rfl rfl ?_
    refine g_aload (pc' := 85) W434.here hx (hb hby at_83) rfl rfl rfl ?_
    have c435 := ((((((((V425.keep K426 nin0).keep K427 (ninS ne_b424_b426 nin0)).keep K428 (ninS ne_b424_b426 nin0)).keep K429 nin0).keep K430 (ninS ne_b424_b429 nin0)).keep K431 (ninS ne_b424_b429 nin0)).keep K432 (ninS ne_b424_b429 nin0)).keep K434 nin0)
    refine w_special (pc' := 88) (st := [(.ref b434)]) (y := (⟨"java/lang/String", "<init>", "([C)V"⟩ : MethodName)) (a := b434) W434 hx [(.ref b424)] rfl (hw _ (List.mem_of_getElem? w_9)) (hw _ (List.mem_of_getElem? w_10)) (hw _ (List.mem_of_getElem? w_8)) (hw _ (List.mem_of_getElem? w_11)) (by decide) (c_strC l Z a0 hw hE cc fm b434 b424 [e0] h434 W434.old G (Nat.succ_pos _) (Nat.le_of_ble_eq_true rfl) (own_allS l_e0 own_all0) c435 (by have := O.1; omega) A434 _ _ F434_coder F434_value (Ne.symm ne_b424_b434)) (allS (List.mem_of_getElem? (i := 0) rfl) all0) (by rw [hml]; rfl) (lenOf pd_34 rfl) rfl (hb hby at_85) (Nat.le_of_ble_eq_true rfl) (Nat.le_of_ble_eq_true rfl) (Nat.le_of_ble_eq_true rfl) (Nat.le_of_ble_eq_true rfl) rfl fun v436 T436 h436 W436 K436 Q436 => ?_
    have z_K436 : h434.size ≤ h436.size := K436.1
    obtain ⟨rfl, sb437, S437⟩ := Q436
    have ES437 := S437.1
    have lt_sb437 : sb437 < h436.size := S437.ltb
    refine g_astore (pc' := 90) (Ls' := #[.val (.int p0), .val (.int p1), .val (.int p2), .val (.int p3), .val (.long p4), .second, .val (.int e0), .val (.int e1), .val (.int e2), .val (.int nn), .val (.ref b424), .val (.ref b426), .val (.ref b429), .val (.ref b434), .unset, .unset, .unset, .unset]) W436.here hx (hb hby at_88) rfl rfl rfl ?_
    refine g_goto (pc' := 124) W436.here hx (hb hby at_90) rfl ?_
    refine w_new (pc' := 127) W436 hx (hw _ (List.mem_of_getElem? w_35)) (hw _ (List.mem_of_getElem? w_36)) (hw _ (List.mem_of_getElem? w_37)) (hb hby at_124) (Nat.le_of_ble_eq_true rfl) (Nat.le_of_ble_eq_true rfl) rfl fun T438 h438 b438 g438 W438 K438 A438 D438 => ?_
    have z_K438 : h436.size ≤ h438.size := K438.1
    have ne_dO_b438 : dO ≠ b438 := by omega
    have ne_dT_b438 : dT ≠ b438 := by omega
    have ne_b424_b438 : b424 ≠ b438 := by omega
    have ne_b426_b438 : b426 ≠ b438 := by omega
    have ne_b429_b438 : b429 ≠ b438 := by omega
    have ne_b434_b438 : b434 ≠ b438 := by omega
    have ne_sb437_b438 : sb437 ≠ b438 := by omega
    have lt_b438 : b438 < h438.size := W438.lt (List.mem_cons_self ..)
    have F438_value : Fld Z h438 b438 "com/example/transaction_locking/transactionlocking/value/LockName" "value" "Ljava/lang/String;" .null := D438 (Or.inr (hw _ (List.mem_of_getElem? w_246))) (ty := (.object "java/lang/String")) (by decide)
    refine g_dup (pc' := 128) W438.here hx (hb hby at_127) rfl rfl ?_
    refine g_aload (pc' := 130) W438.here hx (hb hby at_128) rfl rfl rfl ?_
    have c439 := (S437.keep K438 nin0 nin0)
    refine w_special (pc' := 133) (st := [(.ref b438)]) (y := (⟨"com/example/transaction_locking/transactionlocking/value/LockName", "<init>", "(Ljava/lang/String;)V"⟩ : MethodName)) (a := b438) W438 hx [(.ref b434)] rfl (hw _ (List.mem_of_getElem? w_38)) (hw _ (List.mem_of_getElem? w_39)) (hw _ (List.mem_of_getElem? w_37)) (hw _ (List.mem_of_getElem? w_40)) (by decide) (c_lock l Z a0 hw hE cc fm dO dT vO vT b438 b434 sb437 [e0] h438 W438.old G S_D1 S_D2 V_D1 V_D2 l_D1 l_D2 (by have := O.1; omega) A438 _ F438_value c439 (Nat.le_of_ble_eq_true rfl) (by simp) (own_allS nz_e0 own_all0) (Ne.symm ne_b434_b438) (Ne.symm ne_sb437_b438)) (allS (List.mem_of_getElem? (i := 0) rfl) all0) (by rw [hml]; rfl) (lenOf pd_14 rfl) rfl (hb hby at_130) (Nat.le_of_ble_eq_true rfl) (Nat.le_of_ble_eq_true rfl) (Nat.le_of_ble_eq_true rfl) (Nat.le_of_ble_eq_true rfl) rfl fun v440 T440 h440 W440 K440 Q440 => ?_
    have z_K440 : h438.size ≤ h440.size := K440.1
    obtain rfl := Q440
    refine g_astore (pc' := 135) (Ls' := #[.val (.int p0), .val (.int p1), .val (.int p2), .val (.int p3), .val (.long p4), .second, .val (.int e0), .val (.int e1), .val (.int e2), .val (.int nn), .val (.ref b424), .val (.ref b426), .val (.ref b429), .val (.ref b434), .val (.ref b438), .unset, .unset, .unset]) W440.here hx (hb hby at_133) rfl rfl rfl ?_
    refine g_iloadN (pc' := 136) W440.here hx (hb hby at_135) rfl rfl ?_
    refine g_iconst (2 : Int32) (pc' := 137) W440.here hx (hb hby at_136) rfl rfl ?_
    refine g_iushr (pc' := 138) W440.here hx (hb hby at_137) rfl ?_
    refine g_iconst (1 : Int32) (pc' := 139) W440.here hx (hb hby at_138) rfl rfl ?_
    refine g_iand (pc' := 140) W440.here hx (hb hby at_139) rfl ?_
    by_cases hc140_441 : (((p3.toUInt32 >>> ((2 : Int32) &&& 31).toUInt32).toInt32) &&& (1 : Int32)) = (0 : Int32)
    · refine g_ifY (pc' := 149) W440.here hx (hb hby at_140) rfl (teq hc140_441).1 ?_
      refine w_getS (pc' := 152) W440 hx (hw _ (List.mem_of_getElem? w_247)) Via.refl S_S (hb hby at_149) rfl fun T442 W442 => ?_
      refine g_astore (pc' := 154) (Ls' := #[.val (.int p0), .val (.int p1), .val (.int p2), .val (.int p3), .val (.long p4), .second, .val (.int e0), .val (.int e1), .val (.int e2), .val (.int nn), .val (.ref b424), .val (.ref b426), .val (.ref b429), .val (.ref b434), .val (.ref b438), .val (.ref mS), .unset, .unset]) W442.here hx (hb hby at_152) rfl rfl rfl ?_
      refine g_lload (pc' := 156) W442.here hx (hb hby at_154) rfl rfl ?_
      refine w_ldc2J (pc' := 159) W442 hx (hw _ (List.mem_of_getElem? w_250)) (hb hby at_156) rfl ?_
      refine g_land (pc' := 160) W442.here hx (hb hby at_159) rfl ?_
      obtain ⟨tt, htt⟩ : ∃ zz_ : Int64, zz_ = (p4 &&& (2147483647 : Int64)) := ⟨_, rfl⟩
      refine g_name (congrArg Value.long htt) ?_
      have ht : 0 ≤ tt.toInt ∧ tt.toInt ≤ 2147483647 := by rw [htt]; have q := c_maskL p4 2147483647 31 (by decide) (by decide); omega
      refine g_lstore (pc' := 162) (Ls' := #[.val (.int p0), .val (.int p1), .val (.int p2), .val (.int p3), .val (.long p4), .second, .val (.int e0), .val (.int e1), .val (.int e2), .val (.int nn), .val (.ref b424), .val (.ref b426), .val (.ref b429), .val (.ref b434), .val (.ref b438), .val (.ref mS), .val (.long tt), .second]) W442.here hx (hb hby at_160) rfl rfl ?_
      refine g_aload (pc' := 164) W442.here hx (hb hby at_162) rfl rfl rfl ?_
      refine g_aload (pc' := 166) W442.here hx (hb hby at_164) rfl rfl rfl ?_
      refine g_lload (pc' := 168) W442.here hx (hb hby at_166) rfl rfl ?_
      refine w_callS (pc' := 171) (st := []) (y := (⟨"com/example/transaction_locking/transactionlocking/handle/HeldLocks", "checkRequest", "(Lcom/example/transaction_locking/transactionlocking/value/LockName;Lcom/example/transaction_locking/transactionlocking/value/LockMode;J)V"⟩ : MethodName)) W442 hx [(.ref b438), (.ref mS), (.long tt)] (hw _ (List.mem_of_getElem? w_251)) (hw _ (List.mem_of_getElem? w_252)) (hw _ (List.mem_of_getElem? w_253)) (hw _ (List.mem_of_getElem? w_254)) (by decide) (c_req l Z a0 hw hE cc fm b438 mS tt h440 W442.old G ht) all0 (by rw [hml]; rfl) (lenOf pd_35 rfl) rfl (hb hby at_168) (Nat.le_of_ble_eq_true rfl) (Nat.le_of_ble_eq_true rfl) (Nat.le_of_ble_eq_true rfl) (Nat.le_of_ble_eq_true rfl) rfl fun v443 T443 h443 W443 K443 Q443 => ?_
      have z_K443 : h440.size ≤ h443.size := K443.1
      obtain rfl := Q443
      refine g_lload (pc' := 173) W443.here hx (hb hby at_171) rfl rfl ?_
      refine g_lconst (0 : Int64) (pc' := 174) W443.here hx (hb hby at_173) rfl rfl ?_
      refine g_lcmp (pc' := 175) W443.here hx (hb hby at_174) rfl ?_
      refine g_ifN (pc' := 178) W443.here hx (hb hby at_175) rfl (flt (show ¬ ((lcmpW tt (0 : Int64)) < (0 : Int32)) from (fun q => by have z := own_lcl.mp q; have e : (0 : Int64).toInt = 0 := rfl; omega))).1 ?_
      refine g_lload (pc' := 180) W443.here hx (hb hby at_178) rfl rfl ?_
      refine w_ldc2J (pc' := 183) W443 hx (hw _ (List.mem_of_getElem? w_250)) (hb hby at_180) rfl ?_
      refine g_lcmp (pc' := 184) W443.here hx (hb hby at_183) rfl ?_
      refine g_ifN (pc' := 187) W443.here hx (hb hby at_184) rfl (flt (show ¬ ((0 : Int32) < (lcmpW tt (2147483647 : Int64))) from (fun q => by have z := own_lcg.mp q; have e : (2147483647 : Int64).toInt = 2147483647 := rfl; omega))).2.2.1 ?_
      refine g_iconst (1 : Int32) (pc' := 188) W443.here hx (hb hby at_187) rfl rfl ?_
      refine g_goto (pc' := 192) W443.here hx (hb hby at_188) rfl ?_
      refine w_retN (t := .boolean) W443 hx hh hlk hret (by simp) (hb hby at_192) (Nat.le_of_ble_eq_true rfl) (Nat.le_of_ble_eq_true rfl) ?_
      exact rfl
    · refine g_ifN (pc' := 143) W440.here hx (hb hby at_140) rfl (feq hc140_441).1 ?_
      refine w_getS (pc' := 146) W440 hx (hw _ (List.mem_of_getElem? w_261)) Via.refl S_X (hb hby at_143) rfl fun T444 W444 => ?_
      refine g_goto (pc' := 152) W444.here hx (hb hby at_146) rfl ?_
      refine g_astore (pc' := 154) (Ls' := #[.val (.int p0), .val (.int p1), .val (.int p2), .val (.int p3), .val (.long p4), .second, .val (.int e0), .val (.int e1), .val (.int e2), .val (.int nn), .val (.ref b424), .val (.ref b426), .val (.ref b429), .val (.ref b434), .val (.ref b438), .val (.ref mX), .unset, .unset]) W444.here hx (hb hby at_152) rfl rfl rfl ?_
      refine g_lload (pc' := 156) W444.here hx (hb hby at_154) rfl rfl ?_
      refine w_ldc2J (pc' := 159) W444 hx (hw _ (List.mem_of_getElem? w_250)) (hb hby at_156) rfl ?_
      refine g_land (pc' := 160) W444.here hx (hb hby at_159) rfl ?_
      obtain ⟨tt, htt⟩ : ∃ zz_ : Int64, zz_ = (p4 &&& (2147483647 : Int64)) := ⟨_, rfl⟩
      refine g_name (congrArg Value.long htt) ?_
      have ht : 0 ≤ tt.toInt ∧ tt.toInt ≤ 2147483647 := by rw [htt]; have q := c_maskL p4 2147483647 31 (by decide) (by decide); omega
      refine g_lstore (pc' := 162) (Ls' := #[.val (.int p0), .val (.int p1), .val (.int p2), .val (.int p3), .val (.long p4), .second, .val (.int e0), .val (.int e1), .val (.int e2), .val (.int nn), .val (.ref b424), .val (.ref b426), .val (.ref b429), .val (.ref b434), .val (.ref b438), .val (.ref mX), .val (.long tt), .second]) W444.here hx (hb hby at_160) rfl rfl ?_
      refine g_aload (pc' := 164) W444.here hx (hb hby at_162) rfl rfl rfl ?_
      refine g_aload (pc' := 166) W444.here hx (hb hby at_164) rfl rfl rfl ?_
      refine g_lload (pc' := 168) W444.here hx (hb hby at_166) rfl rfl ?_
      refine w_callS (pc' := 171) (st := []) (y := (⟨"com/example/transaction_locking/transactionlocking/handle/HeldLocks", "checkRequest", "(Lcom/example/transaction_locking/transactionlocking/value/LockName;Lcom/example/transaction_locking/transactionlocking/value/LockMode;J)V"⟩ : MethodName)) W444 hx [(.ref b438), (.ref mX), (.long tt)] (hw _ (List.mem_of_getElem? w_251)) (hw _ (List.mem_of_getElem? w_252)) (hw _ (List.mem_of_getElem? w_253)) (hw _ (List.mem_of_getElem? w_254)) (by decide) (c_req l Z a0 hw hE cc fm b438 mX tt h440 W444.old G ht) all0 (by rw [hml]; rfl) (lenOf pd_35 rfl) rfl (hb hby at_168) (Nat.le_of_ble_eq_true rfl) (Nat.le_of_ble_eq_true rfl) (Nat.le_of_ble_eq_true rfl) (Nat.le_of_ble_eq_true rfl) rfl fun v445 T445 h445 W445 K445 Q445 => ?_
      have z_K445 : h440.size ≤ h445.size := K445.1
      obtain rfl := Q445
      refine g_lload (pc' := 173) W445.here hx (hb hby at_171) rfl rfl ?_
      refine g_lconst (0 : Int64) (pc' := 174) W445.here hx (hb hby at_173) rfl rfl ?_
      refine g_lcmp (pc' := 175) W445.here hx (hb hby at_174) rfl ?_
      refine g_ifN (pc' := 178) W445.here hx (hb hby at_175) rfl (flt (show ¬ ((lcmpW tt (0 : Int64)) < (0 : Int32)) from (fun q => by have z := own_lcl.mp q; have e : (0 : Int64).toInt = 0 := rfl; omega))).1 ?_
      refine g_lload (pc' := 180) W445.here hx (hb hby at_178) rfl rfl ?_
      refine w_ldc2J (pc' := 183) W445 hx (hw _ (List.mem_of_getElem? w_250)) (hb hby at_180) rfl ?_
      refine g_lcmp (pc' := 184) W445.here hx (hb hby at_183) rfl ?_
      refine g_ifN (pc' := 187) W445.here hx (hb hby at_184) rfl (flt (show ¬ ((0 : Int32) < (lcmpW tt (2147483647 : Int64))) from (fun q => by have z := own_lcg.mp q; have e : (2147483647 : Int64).toInt = 2147483647 := rfl; omega))).2.2.1 ?_
      refine g_iconst (1 : Int32) (pc' := 188) W445.here hx (hb hby at_187) rfl rfl ?_
      refine g_goto (pc' := 192) W445.here hx (hb hby at_188) rfl ?_
      refine w_retN (t := .boolean) W445 hx hh hlk hret (by simp) (hb hby at_192) (Nat.le_of_ble_eq_true rfl) (Nat.le_of_ble_eq_true rfl) ?_
      exact rfl
  · refine g_icmpY (pc' := 93) W432.here hx (hb hby at_76) rfl (feq hc76_433).2 ?_
    refine g_iload (pc' := 95) W432.here hx (hb hby at_93) rfl rfl ?_
    refine g_iconst (2 : Int32) (pc' := 96) W432.here hx (hb hby at_95) rfl rfl ?_
    by_cases hc96_446 : nn = (2 : Int32)
    · refine g_icmpN (pc' := 99) W432.here hx (hb hby at_96) rfl (teq hc96_446).2 ?_
      refine w_new (pc' := 102) W432 hx (hw _ (List.mem_of_getElem? w_6)) (hw _ (List.mem_of_getElem? w_7)) (hw _ (List.mem_of_getElem? w_8)) (hb hby at_99) (Nat.le_of_ble_eq_true rfl) (Nat.le_of_ble_eq_true rfl) rfl fun T447 h447 b447 g447 W447 K447 A447 D447 => ?_
      have z_K447 : h432.size ≤ h447.size := K447.1
      have ne_dO_b447 : dO ≠ b447 := by omega
      have ne_dT_b447 : dT ≠ b447 := by omega
      have ne_b424_b447 : b424 ≠ b447 := by omega
      have ne_b426_b447 : b426 ≠ b447 := by omega
      have ne_b429_b447 : b429 ≠ b447 := by omega
      have lt_b447 : b447 < h447.size := W447.lt (List.mem_cons_self ..)
      have F447_coder : Fld Z h447 b447 "java/lang/String" "coder" "B" (.int (0 : Int32)) := D447 (Or.inr (hw _ (List.mem_of_getElem? w_32))) (ty := .byte) (by decide)
      have F447_value : Fld Z h447 b447 "java/lang/String" "value" "[B" .null := D447 (Or.inr (hw _ (List.mem_of_getElem? w_34))) (ty := (.array .byte)) (by decide)
      refine g_dup (pc' := 103) W447.here hx (hb hby at_102) rfl rfl ?_
      refine g_aload (pc' := 105) W447.here hx (hb hby at_103) rfl rfl rfl ?_
      have c448 := (((((V428.keep K429 nin0).keep K430 (ninS ne_b426_b429 nin0)).keep K431 (ninS ne_b426_b429 nin0)).keep K432 (ninS ne_b426_b429 nin0)).keep K447 nin0)
      refine w_special (pc' := 108) (st := [(.ref b447)]) (y := (⟨"java/lang/String", "<init>", "([C)V"⟩ : MethodName)) (a := b447) W447 hx [(.ref b426)] rfl (hw _ (List.mem_of_getElem? w_9)) (hw _ (List.mem_of_getElem? w_10)) (hw _ (List.mem_of_getElem? w_8)) (hw _ (List.mem_of_getElem? w_11)) (by decide) (c_strC l Z a0 hw hE cc fm b447 b426 [e0, e1] h447 W447.old G (Nat.succ_pos _) (Nat.le_of_ble_eq_true rfl) (own_allS l_e0 (own_allS l_e1 own_all0)) c448 (by have := O.1; omega) A447 _ _ F447_coder F447_value (Ne.symm ne_b426_b447)) (allS (List.mem_of_getElem? (i := 0) rfl) all0) (by rw [hml]; rfl) (lenOf pd_34 rfl) rfl (hb hby at_105) (Nat.le_of_ble_eq_true rfl) (Nat.le_of_ble_eq_true rfl) (Nat.le_of_ble_eq_true rfl) (Nat.le_of_ble_eq_true rfl) rfl fun v449 T449 h449 W449 K449 Q449 => ?_
      have z_K449 : h447.size ≤ h449.size := K449.1
      obtain ⟨rfl, sb450, S450⟩ := Q449
      have ES450 := S450.1
      have lt_sb450 : sb450 < h449.size := S450.ltb
      refine g_astore (pc' := 110) (Ls' := #[.val (.int p0), .val (.int p1), .val (.int p2), .val (.int p3), .val (.long p4), .second, .val (.int e0), .val (.int e1), .val (.int e2), .val (.int nn), .val (.ref b424), .val (.ref b426), .val (.ref b429), .val (.ref b447), .unset, .unset, .unset, .unset]) W449.here hx (hb hby at_108) rfl rfl rfl ?_
      refine g_goto (pc' := 124) W449.here hx (hb hby at_110) rfl ?_
      refine w_new (pc' := 127) W449 hx (hw _ (List.mem_of_getElem? w_35)) (hw _ (List.mem_of_getElem? w_36)) (hw _ (List.mem_of_getElem? w_37)) (hb hby at_124) (Nat.le_of_ble_eq_true rfl) (Nat.le_of_ble_eq_true rfl) rfl fun T451 h451 b451 g451 W451 K451 A451 D451 => ?_
      have z_K451 : h449.size ≤ h451.size := K451.1
      have ne_dO_b451 : dO ≠ b451 := by omega
      have ne_dT_b451 : dT ≠ b451 := by omega
      have ne_b424_b451 : b424 ≠ b451 := by omega
      have ne_b426_b451 : b426 ≠ b451 := by omega
      have ne_b429_b451 : b429 ≠ b451 := by omega
      have ne_b447_b451 : b447 ≠ b451 := by omega
      have ne_sb450_b451 : sb450 ≠ b451 := by omega
      have lt_b451 : b451 < h451.size := W451.lt (List.mem_cons_self ..)
      have F451_value : Fld Z h451 b451 "com/example/transaction_locking/transactionlocking/value/LockName" "value" "Ljava/lang/String;" .null := D451 (Or.inr (hw _ (List.mem_of_getElem? w_246))) (ty := (.object "java/lang/String")) (by decide)
      refine g_dup (pc' := 128) W451.here hx (hb hby at_127) rfl rfl ?_
      refine g_aload (pc' := 130) W451.here hx (hb hby at_128) rfl rfl rfl ?_
      have c452 := (S450.keep K451 nin0 nin0)
      refine w_special (pc' := 133) (st := [(.ref b451)]) (y := (⟨"com/example/transaction_locking/transactionlocking/value/LockName", "<init>", "(Ljava/lang/String;)V"⟩ : MethodName)) (a := b451) W451 hx [(.ref b447)] rfl (hw _ (List.mem_of_getElem? w_38)) (hw _ (List.mem_of_getElem? w_39)) (hw _ (List.mem_of_getElem? w_37)) (hw _ (List.mem_of_getElem? w_40)) (by decide) (c_lock l Z a0 hw hE cc fm dO dT vO vT b451 b447 sb450 [e0, e1] h451 W451.old G S_D1 S_D2 V_D1 V_D2 l_D1 l_D2 (by have := O.1; omega) A451 _ F451_value c452 (Nat.le_of_ble_eq_true rfl) (by simp) (own_allS nz_e0 (own_allS nz_e1 own_all0)) (Ne.symm ne_b447_b451) (Ne.symm ne_sb450_b451)) (allS (List.mem_of_getElem? (i := 0) rfl) all0) (by rw [hml]; rfl) (lenOf pd_14 rfl) rfl (hb hby at_130) (Nat.le_of_ble_eq_true rfl) (Nat.le_of_ble_eq_true rfl) (Nat.le_of_ble_eq_true rfl) (Nat.le_of_ble_eq_true rfl) rfl fun v453 T453 h453 W453 K453 Q453 => ?_
      have z_K453 : h451.size ≤ h453.size := K453.1
      obtain rfl := Q453
      refine g_astore (pc' := 135) (Ls' := #[.val (.int p0), .val (.int p1), .val (.int p2), .val (.int p3), .val (.long p4), .second, .val (.int e0), .val (.int e1), .val (.int e2), .val (.int nn), .val (.ref b424), .val (.ref b426), .val (.ref b429), .val (.ref b447), .val (.ref b451), .unset, .unset, .unset]) W453.here hx (hb hby at_133) rfl rfl rfl ?_
      refine g_iloadN (pc' := 136) W453.here hx (hb hby at_135) rfl rfl ?_
      refine g_iconst (2 : Int32) (pc' := 137) W453.here hx (hb hby at_136) rfl rfl ?_
      refine g_iushr (pc' := 138) W453.here hx (hb hby at_137) rfl ?_
      refine g_iconst (1 : Int32) (pc' := 139) W453.here hx (hb hby at_138) rfl rfl ?_
      refine g_iand (pc' := 140) W453.here hx (hb hby at_139) rfl ?_
      by_cases hc140_454 : (((p3.toUInt32 >>> ((2 : Int32) &&& 31).toUInt32).toInt32) &&& (1 : Int32)) = (0 : Int32)
      · refine g_ifY (pc' := 149) W453.here hx (hb hby at_140) rfl (teq hc140_454).1 ?_
        refine w_getS (pc' := 152) W453 hx (hw _ (List.mem_of_getElem? w_247)) Via.refl S_S (hb hby at_149) rfl fun T455 W455 => ?_
        refine g_astore (pc' := 154) (Ls' := #[.val (.int p0), .val (.int p1), .val (.int p2), .val (.int p3), .val (.long p4), .second, .val (.int e0), .val (.int e1), .val (.int e2), .val (.int nn), .val (.ref b424), .val (.ref b426), .val (.ref b429), .val (.ref b447), .val (.ref b451), .val (.ref mS), .unset, .unset]) W455.here hx (hb hby at_152) rfl rfl rfl ?_
        refine g_lload (pc' := 156) W455.here hx (hb hby at_154) rfl rfl ?_
        refine w_ldc2J (pc' := 159) W455 hx (hw _ (List.mem_of_getElem? w_250)) (hb hby at_156) rfl ?_
        refine g_land (pc' := 160) W455.here hx (hb hby at_159) rfl ?_
        obtain ⟨tt, htt⟩ : ∃ zz_ : Int64, zz_ = (p4 &&& (2147483647 : Int64)) := ⟨_, rfl⟩
        refine g_name (congrArg Value.long htt) ?_
        have ht : 0 ≤ tt.toInt ∧ tt.toInt ≤ 2147483647 := by rw [htt]; have q := c_maskL p4 2147483647 31 (by decide) (by decide); omega
        refine g_lstore (pc' := 162) (Ls' := #[.val (.int p0), .val (.int p1), .val (.int p2), .val (.int p3), .val (.long p4), .second, .val (.int e0), .val (.int e1), .val (.int e2), .val (.int nn), .val (.ref b424), .val (.ref b426), .val (.ref b429), .val (.ref b447), .val (.ref b451), .val (.ref mS), .val (.long tt), .second]) W455.here hx (hb hby at_160) rfl rfl ?_
        refine g_aload (pc' := 164) W455.here hx (hb hby at_162) rfl rfl rfl ?_
        refine g_aload (pc' := 166) W455.here hx (hb hby at_164) rfl rfl rfl ?_
        refine g_lload (pc' := 168) W455.here hx (hb hby at_166) rfl rfl ?_
        refine w_callS (pc' := 171) (st := []) (y := (⟨"com/example/transaction_locking/transactionlocking/handle/HeldLocks", "checkRequest", "(Lcom/example/transaction_locking/transactionlocking/value/LockName;Lcom/example/transaction_locking/transactionlocking/value/LockMode;J)V"⟩ : MethodName)) W455 hx [(.ref b451), (.ref mS), (.long tt)] (hw _ (List.mem_of_getElem? w_251)) (hw _ (List.mem_of_getElem? w_252)) (hw _ (List.mem_of_getElem? w_253)) (hw _ (List.mem_of_getElem? w_254)) (by decide) (c_req l Z a0 hw hE cc fm b451 mS tt h453 W455.old G ht) all0 (by rw [hml]; rfl) (lenOf pd_35 rfl) rfl (hb hby at_168) (Nat.le_of_ble_eq_true rfl) (Nat.le_of_ble_eq_true rfl) (Nat.le_of_ble_eq_true rfl) (Nat.le_of_ble_eq_true rfl) rfl fun v456 T456 h456 W456 K456 Q456 => ?_
        have z_K456 : h453.size ≤ h456.size := K456.1
        obtain rfl := Q456
        refine g_lload (pc' := 173) W456.here hx (hb hby at_171) rfl rfl ?_
        refine g_lconst (0 : Int64) (pc' := 174) W456.here hx (hb hby at_173) rfl rfl ?_
        refine g_lcmp (pc' := 175) W456.here hx (hb hby at_174) rfl ?_
        refine g_ifN (pc' := 178) W456.here hx (hb hby at_175) rfl (flt (show ¬ ((lcmpW tt (0 : Int64)) < (0 : Int32)) from (fun q => by have z := own_lcl.mp q; have e : (0 : Int64).toInt = 0 := rfl; omega))).1 ?_
        refine g_lload (pc' := 180) W456.here hx (hb hby at_178) rfl rfl ?_
        refine w_ldc2J (pc' := 183) W456 hx (hw _ (List.mem_of_getElem? w_250)) (hb hby at_180) rfl ?_
        refine g_lcmp (pc' := 184) W456.here hx (hb hby at_183) rfl ?_
        refine g_ifN (pc' := 187) W456.here hx (hb hby at_184) rfl (flt (show ¬ ((0 : Int32) < (lcmpW tt (2147483647 : Int64))) from (fun q => by have z := own_lcg.mp q; have e : (2147483647 : Int64).toInt = 2147483647 := rfl; omega))).2.2.1 ?_
        refine g_iconst (1 : Int32) (pc' := 188) W456.here hx (hb hby at_187) rfl rfl ?_
        refine g_goto (pc' := 192) W456.here hx (hb hby at_188) rfl ?_
        refine w_retN (t := .boolean) W456 hx hh hlk hret (by simp) (hb hby at_192) (Nat.le_of_ble_eq_true rfl) (Nat.le_of_ble_eq_true rfl) ?_
        exact rfl
      · refine g_ifN (pc' := 143) W453.here hx (hb hby at_140) rfl (feq hc140_454).1 ?_
        refine w_getS (pc' := 146) W453 hx (hw _ (List.mem_of_getElem? w_261)) Via.refl S_X (hb hby at_143) rfl fun T457 W457 => ?_
        refine g_goto (pc' := 152) W457.here hx (hb hby at_146) rfl ?_
        refine g_astore (pc' := 154) (Ls' := #[.val (.int p0), .val (.int p1), .val (.int p2), .val (.int p3), .val (.long p4), .second, .val (.int e0), .val (.int e1), .val (.int e2), .val (.int nn), .val (.ref b424), .val (.ref b426), .val (.ref b429), .val (.ref b447), .val (.ref b451), .val (.ref mX), .unset, .unset]) W457.here hx (hb hby at_152) rfl rfl rfl ?_
        refine g_lload (pc' := 156) W457.here hx (hb hby at_154) rfl rfl ?_
        refine w_ldc2J (pc' := 159) W457 hx (hw _ (List.mem_of_getElem? w_250)) (hb hby at_156) rfl ?_
        refine g_land (pc' := 160) W457.here hx (hb hby at_159) rfl ?_
        obtain ⟨tt, htt⟩ : ∃ zz_ : Int64, zz_ = (p4 &&& (2147483647 : Int64)) := ⟨_, rfl⟩
        refine g_name (congrArg Value.long htt) ?_
        have ht : 0 ≤ tt.toInt ∧ tt.toInt ≤ 2147483647 := by rw [htt]; have q := c_maskL p4 2147483647 31 (by decide) (by decide); omega
        refine g_lstore (pc' := 162) (Ls' := #[.val (.int p0), .val (.int p1), .val (.int p2), .val (.int p3), .val (.long p4), .second, .val (.int e0), .val (.int e1), .val (.int e2), .val (.int nn), .val (.ref b424), .val (.ref b426), .val (.ref b429), .val (.ref b447), .val (.ref b451), .val (.ref mX), .val (.long tt), .second]) W457.here hx (hb hby at_160) rfl rfl ?_
        refine g_aload (pc' := 164) W457.here hx (hb hby at_162) rfl rfl rfl ?_
        refine g_aload (pc' := 166) W457.here hx (hb hby at_164) rfl rfl rfl ?_
        refine g_lload (pc' := 168) W457.here hx (hb hby at_166) rfl rfl ?_
        refine w_callS (pc' := 171) (st := []) (y := (⟨"com/example/transaction_locking/transactionlocking/handle/HeldLocks", "checkRequest", "(Lcom/example/transaction_locking/transactionlocking/value/LockName;Lcom/example/transaction_locking/transactionlocking/value/LockMode;J)V"⟩ : MethodName)) W457 hx [(.ref b451), (.ref mX), (.long tt)] (hw _ (List.mem_of_getElem? w_251)) (hw _ (List.mem_of_getElem? w_252)) (hw _ (List.mem_of_getElem? w_253)) (hw _ (List.mem_of_getElem? w_254)) (by decide) (c_req l Z a0 hw hE cc fm b451 mX tt h453 W457.old G ht) all0 (by rw [hml]; rfl) (lenOf pd_35 rfl) rfl (hb hby at_168) (Nat.le_of_ble_eq_true rfl) (Nat.le_of_ble_eq_true rfl) (Nat.le_of_ble_eq_true rfl) (Nat.le_of_ble_eq_true rfl) rfl fun v458 T458 h458 W458 K458 Q458 => ?_
        have z_K458 : h453.size ≤ h458.size := K458.1
        obtain rfl := Q458
        refine g_lload (pc' := 173) W458.here hx (hb hby at_171) rfl rfl ?_
        refine g_lconst (0 : Int64) (pc' := 174) W458.here hx (hb hby at_173) rfl rfl ?_
        refine g_lcmp (pc' := 175) W458.here hx (hb hby at_174) rfl ?_
        refine g_ifN (pc' := 178) W458.here hx (hb hby at_175) rfl (flt (show ¬ ((lcmpW tt (0 : Int64)) < (0 : Int32)) from (fun q => by have z := own_lcl.mp q; have e : (0 : Int64).toInt = 0 := rfl; omega))).1 ?_
        refine g_lload (pc' := 180) W458.here hx (hb hby at_178) rfl rfl ?_
        refine w_ldc2J (pc' := 183) W458 hx (hw _ (List.mem_of_getElem? w_250)) (hb hby at_180) rfl ?_
        refine g_lcmp (pc' := 184) W458.here hx (hb hby at_183) rfl ?_
        refine g_ifN (pc' := 187) W458.here hx (hb hby at_184) rfl (flt (show ¬ ((0 : Int32) < (lcmpW tt (2147483647 : Int64))) from (fun q => by have z := own_lcg.mp q; have e : (2147483647 : Int64).toInt = 2147483647 := rfl; omega))).2.2.1 ?_
        refine g_iconst (1 : Int32) (pc' := 188) W458.here hx (hb hby at_187) rfl rfl ?_
        refine g_goto (pc' := 192) W458.here hx (hb hby at_188) rfl ?_
        refine w_retN (t := .boolean) W458 hx hh hlk hret (by simp) (hb hby at_192) (Nat.le_of_ble_eq_true rfl) (Nat.le_of_ble_eq_true rfl) ?_
        exact rfl
    · refine g_icmpY (pc' := 113) W432.here hx (hb hby at_96) rfl (feq hc96_446).2 ?_
      refine w_new (pc' := 116) W432 hx (hw _ (List.mem_of_getElem? w_6)) (hw _ (List.mem_of_getElem? w_7)) (hw _ (List.mem_of_getElem? w_8)) (hb hby at_113) (Nat.le_of_ble_eq_true rfl) (Nat.le_of_ble_eq_true rfl) rfl fun T459 h459 b459 g459 W459 K459 A459 D459 => ?_
      have z_K459 : h432.size ≤ h459.size := K459.1
      have ne_dO_b459 : dO ≠ b459 := by omega
      have ne_dT_b459 : dT ≠ b459 := by omega
      have ne_b424_b459 : b424 ≠ b459 := by omega
      have ne_b426_b459 : b426 ≠ b459 := by omega
      have ne_b429_b459 : b429 ≠ b459 := by omega
      have lt_b459 : b459 < h459.size := W459.lt (List.mem_cons_self ..)
      have F459_coder : Fld Z h459 b459 "java/lang/String" "coder" "B" (.int (0 : Int32)) := D459 (Or.inr (hw _ (List.mem_of_getElem? w_32))) (ty := .byte) (by decide)
      have F459_value : Fld Z h459 b459 "java/lang/String" "value" "[B" .null := D459 (Or.inr (hw _ (List.mem_of_getElem? w_34))) (ty := (.array .byte)) (by decide)
      refine g_dup (pc' := 117) W459.here hx (hb hby at_116) rfl rfl ?_
      refine g_aload (pc' := 119) W459.here hx (hb hby at_117) rfl rfl rfl ?_
      have c460 := (V432.keep K459 nin0)
      refine w_special (pc' := 122) (st := [(.ref b459)]) (y := (⟨"java/lang/String", "<init>", "([C)V"⟩ : MethodName)) (a := b459) W459 hx [(.ref b429)] rfl (hw _ (List.mem_of_getElem? w_9)) (hw _ (List.mem_of_getElem? w_10)) (hw _ (List.mem_of_getElem? w_8)) (hw _ (List.mem_of_getElem? w_11)) (by decide) (c_strC l Z a0 hw hE cc fm b459 b429 [e0, e1, e2] h459 W459.old G (Nat.succ_pos _) (Nat.le_of_ble_eq_true rfl) (own_allS l_e0 (own_allS l_e1 (own_allS l_e2 own_all0))) c460 (by have := O.1; omega) A459 _ _ F459_coder F459_value (Ne.symm ne_b429_b459)) (allS (List.mem_of_getElem? (i := 0) rfl) all0) (by rw [hml]; rfl) (lenOf pd_34 rfl) rfl (hb hby at_119) (Nat.le_of_ble_eq_true rfl) (Nat.le_of_ble_eq_true rfl) (Nat.le_of_ble_eq_true rfl) (Nat.le_of_ble_eq_true rfl) rfl fun v461 T461 h461 W461 K461 Q461 => ?_
      have z_K461 : h459.size ≤ h461.size := K461.1
      obtain ⟨rfl, sb462, S462⟩ := Q461
      have ES462 := S462.1
      have lt_sb462 : sb462 < h461.size := S462.ltb
      refine g_astore (pc' := 124) (Ls' := #[.val (.int p0), .val (.int p1), .val (.int p2), .val (.int p3), .val (.long p4), .second, .val (.int e0), .val (.int e1), .val (.int e2), .val (.int nn), .val (.ref b424), .val (.ref b426), .val (.ref b429), .val (.ref b459), .unset, .unset, .unset, .unset]) W461.here hx (hb hby at_122) rfl rfl rfl ?_
      refine w_new (pc' := 127) W461 hx (hw _ (List.mem_of_getElem? w_35)) (hw _ (List.mem_of_getElem? w_36)) (hw _ (List.mem_of_getElem? w_37)) (hb hby at_124) (Nat.le_of_ble_eq_true rfl) (Nat.le_of_ble_eq_true rfl) rfl fun T463 h463 b463 g463 W463 K463 A463 D463 => ?_
      have z_K463 : h461.size ≤ h463.size := K463.1
      have ne_dO_b463 : dO ≠ b463 := by omega
      have ne_dT_b463 : dT ≠ b463 := by omega
      have ne_b424_b463 : b424 ≠ b463 := by omega
      have ne_b426_b463 : b426 ≠ b463 := by omega
      have ne_b429_b463 : b429 ≠ b463 := by omega
      have ne_b459_b463 : b459 ≠ b463 := by omega
      have ne_sb462_b463 : sb462 ≠ b463 := by omega
      have lt_b463 : b463 < h463.size := W463.lt (List.mem_cons_self ..)
      have F463_value : Fld Z h463 b463 "com/example/transaction_locking/transactionlocking/value/LockName" "value" "Ljava/lang/String;" .null := D463 (Or.inr (hw _ (List.mem_of_getElem? w_246))) (ty := (.object "java/lang/String")) (by decide)
      refine g_dup (pc' := 128) W463.here hx (hb hby at_127) rfl rfl ?_
      refine g_aload (pc' := 130) W463.here hx (hb hby at_128) rfl rfl rfl ?_
      have c464 := (S462.keep K463 nin0 nin0)
      refine w_special (pc' := 133) (st := [(.ref b463)]) (y := (⟨"com/example/transaction_locking/transactionlocking/value/LockName", "<init>", "(Ljava/lang/String;)V"⟩ : MethodName)) (a := b463) W463 hx [(.ref b459)] rfl (hw _ (List.mem_of_getElem? w_38)) (hw _ (List.mem_of_getElem? w_39)) (hw _ (List.mem_of_getElem? w_37)) (hw _ (List.mem_of_getElem? w_40)) (by decide) (c_lock l Z a0 hw hE cc fm dO dT vO vT b463 b459 sb462 [e0, e1, e2] h463 W463.old G S_D1 S_D2 V_D1 V_D2 l_D1 l_D2 (by have := O.1; omega) A463 _ F463_value c464 (Nat.le_of_ble_eq_true rfl) (by simp) (own_allS nz_e0 (own_allS nz_e1 (own_allS nz_e2 own_all0))) (Ne.symm ne_b459_b463) (Ne.symm ne_sb462_b463)) (allS (List.mem_of_getElem? (i := 0) rfl) all0) (by rw [hml]; rfl) (lenOf pd_14 rfl) rfl (hb hby at_130) (Nat.le_of_ble_eq_true rfl) (Nat.le_of_ble_eq_true rfl) (Nat.le_of_ble_eq_true rfl) (Nat.le_of_ble_eq_true rfl) rfl fun v465 T465 h465 W465 K465 Q465 => ?_
      have z_K465 : h463.size ≤ h465.size := K465.1
      obtain rfl := Q465
      refine g_astore (pc' := 135) (Ls' := #[.val (.int p0), .val (.int p1), .val (.int p2), .val (.int p3), .val (.long p4), .second, .val (.int e0), .val (.int e1), .val (.int e2), .val (.int nn), .val (.ref b424), .val (.ref b426), .val (.ref b429), .val (.ref b459), .val (.ref b463), .unset, .unset, .unset]) W465.here hx (hb hby at_133) rfl rfl rfl ?_
      refine g_iloadN (pc' := 136) W465.here hx (hb hby at_135) rfl rfl ?_
      refine g_iconst (2 : Int32) (pc' := 137) W465.here hx (hb hby at_136) rfl rfl ?_
      refine g_iushr (pc' := 138) W465.here hx (hb hby at_137) rfl ?_
      refine g_iconst (1 : Int32) (pc' := 139) W465.here hx (hb hby at_138) rfl rfl ?_
      refine g_iand (pc' := 140) W465.here hx (hb hby at_139) rfl ?_
      by_cases hc140_466 : (((p3.toUInt32 >>> ((2 : Int32) &&& 31).toUInt32).toInt32) &&& (1 : Int32)) = (0 : Int32)
      · refine g_ifY (pc' := 149) W465.here hx (hb hby at_140) rfl (teq hc140_466).1 ?_
        refine w_getS (pc' := 152) W465 hx (hw _ (List.mem_of_getElem? w_247)) Via.refl S_S (hb hby at_149) rfl fun T467 W467 => ?_
        refine g_astore (pc' := 154) (Ls' := #[.val (.int p0), .val (.int p1), .val (.int p2), .val (.int p3), .val (.long p4), .second, .val (.int e0), .val (.int e1), .val (.int e2), .val (.int nn), .val (.ref b424), .val (.ref b426), .val (.ref b429), .val (.ref b459), .val (.ref b463), .val (.ref mS), .unset, .unset]) W467.here hx (hb hby at_152) rfl rfl rfl ?_
        refine g_lload (pc' := 156) W467.here hx (hb hby at_154) rfl rfl ?_
        refine w_ldc2J (pc' := 159) W467 hx (hw _ (List.mem_of_getElem? w_250)) (hb hby at_156) rfl ?_
        refine g_land (pc' := 160) W467.here hx (hb hby at_159) rfl ?_
        obtain ⟨tt, htt⟩ : ∃ zz_ : Int64, zz_ = (p4 &&& (2147483647 : Int64)) := ⟨_, rfl⟩
        refine g_name (congrArg Value.long htt) ?_
        have ht : 0 ≤ tt.toInt ∧ tt.toInt ≤ 2147483647 := by rw [htt]; have q := c_maskL p4 2147483647 31 (by decide) (by decide); omega
        refine g_lstore (pc' := 162) (Ls' := #[.val (.int p0), .val (.int p1), .val (.int p2), .val (.int p3), .val (.long p4), .second, .val (.int e0), .val (.int e1), .val (.int e2), .val (.int nn), .val (.ref b424), .val (.ref b426), .val (.ref b429), .val (.ref b459), .val (.ref b463), .val (.ref mS), .val (.long tt), .second]) W467.here hx (hb hby at_160) rfl rfl ?_
        refine g_aload (pc' := 164) W467.here hx (hb hby at_162) rfl rfl rfl ?_
        refine g_aload (pc' := 166) W467.here hx (hb hby at_164) rfl rfl rfl ?_
        refine g_lload (pc' := 168) W467.here hx (hb hby at_166) rfl rfl ?_
        refine w_callS (pc' := 171) (st := []) (y := (⟨"com/example/transaction_locking/transactionlocking/handle/HeldLocks", "checkRequest", "(Lcom/example/transaction_locking/transactionlocking/value/LockName;Lcom/example/transaction_locking/transactionlocking/value/LockMode;J)V"⟩ : MethodName)) W467 hx [(.ref b463), (.ref mS), (.long tt)] (hw _ (List.mem_of_getElem? w_251)) (hw _ (List.mem_of_getElem? w_252)) (hw _ (List.mem_of_getElem? w_253)) (hw _ (List.mem_of_getElem? w_254)) (by decide) (c_req l Z a0 hw hE cc fm b463 mS tt h465 W467.old G ht) all0 (by rw [hml]; rfl) (lenOf pd_35 rfl) rfl (hb hby at_168) (Nat.le_of_ble_eq_true rfl) (Nat.le_of_ble_eq_true rfl) (Nat.le_of_ble_eq_true rfl) (Nat.le_of_ble_eq_true rfl) rfl fun v468 T468 h468 W468 K468 Q468 => ?_
        have z_K468 : h465.size ≤ h468.size := K468.1
        obtain rfl := Q468
        refine g_lload (pc' := 173) W468.here hx (hb hby at_171) rfl rfl ?_
        refine g_lconst (0 : Int64) (pc' := 174) W468.here hx (hb hby at_173) rfl rfl ?_
        refine g_lcmp (pc' := 175) W468.here hx (hb hby at_174) rfl ?_
        refine g_ifN (pc' := 178) W468.here hx (hb hby at_175) rfl (flt (show ¬ ((lcmpW tt (0 : Int64)) < (0 : Int32)) from (fun q => by have z := own_lcl.mp q; have e : (0 : Int64).toInt = 0 := rfl; omega))).1 ?_
        refine g_lload (pc' := 180) W468.here hx (hb hby at_178) rfl rfl ?_
        refine w_ldc2J (pc' := 183) W468 hx (hw _ (List.mem_of_getElem? w_250)) (hb hby at_180) rfl ?_
        refine g_lcmp (pc' := 184) W468.here hx (hb hby at_183) rfl ?_
        refine g_ifN (pc' := 187) W468.here hx (hb hby at_184) rfl (flt (show ¬ ((0 : Int32) < (lcmpW tt (2147483647 : Int64))) from (fun q => by have z := own_lcg.mp q; have e : (2147483647 : Int64).toInt = 2147483647 := rfl; omega))).2.2.1 ?_
        refine g_iconst (1 : Int32) (pc' := 188) W468.here hx (hb hby at_187) rfl rfl ?_
        refine g_goto (pc' := 192) W468.here hx (hb hby at_188) rfl ?_
        refine w_retN (t := .boolean) W468 hx hh hlk hret (by simp) (hb hby at_192) (Nat.le_of_ble_eq_true rfl) (Nat.le_of_ble_eq_true rfl) ?_
        exact rfl
      · refine g_ifN (pc' := 143) W465.here hx (hb hby at_140) rfl (feq hc140_466).1 ?_
        refine w_getS (pc' := 146) W465 hx (hw _ (List.mem_of_getElem? w_261)) Via.refl S_X (hb hby at_143) rfl fun T469 W469 => ?_
        refine g_goto (pc' := 152) W469.here hx (hb hby at_146) rfl ?_
        refine g_astore (pc' := 154) (Ls' := #[.val (.int p0), .val (.int p1), .val (.int p2), .val (.int p3), .val (.long p4), .second, .val (.int e0), .val (.int e1), .val (.int e2), .val (.int nn), .val (.ref b424), .val (.ref b426), .val (.ref b429), .val (.ref b459), .val (.ref b463), .val (.ref mX), .unset, .unset]) W469.here hx (hb hby at_152) rfl rfl rfl ?_
        refine g_lload (pc' := 156) W469.here hx (hb hby at_154) rfl rfl ?_
        refine w_ldc2J (pc' := 159) W469 hx (hw _ (List.mem_of_getElem? w_250)) (hb hby at_156) rfl ?_
        refine g_land (pc' := 160) W469.here hx (hb hby at_159) rfl ?_
        obtain ⟨tt, htt⟩ : ∃ zz_ : Int64, zz_ = (p4 &&& (2147483647 : Int64)) := ⟨_, rfl⟩
        refine g_name (congrArg Value.long htt) ?_
        have ht : 0 ≤ tt.toInt ∧ tt.toInt ≤ 2147483647 := by rw [htt]; have q := c_maskL p4 2147483647 31 (by decide) (by decide); omega
        refine g_lstore (pc' := 162) (Ls' := #[.val (.int p0), .val (.int p1), .val (.int p2), .val (.int p3), .val (.long p4), .second, .val (.int e0), .val (.int e1), .val (.int e2), .val (.int nn), .val (.ref b424), .val (.ref b426), .val (.ref b429), .val (.ref b459), .val (.ref b463), .val (.ref mX), .val (.long tt), .second]) W469.here hx (hb hby at_160) rfl rfl ?_
        refine g_aload (pc' := 164) W469.here hx (hb hby at_162) rfl rfl rfl ?_
        refine g_aload (pc' := 166) W469.here hx (hb hby at_164) rfl rfl rfl ?_
        refine g_lload (pc' := 168) W469.here hx (hb hby at_166) rfl rfl ?_
        refine w_callS (pc' := 171) (st := []) (y := (⟨"com/example/transaction_locking/transactionlocking/handle/HeldLocks", "checkRequest", "(Lcom/example/transaction_locking/transactionlocking/value/LockName;Lcom/example/transaction_locking/transactionlocking/value/LockMode;J)V"⟩ : MethodName)) W469 hx [(.ref b463), (.ref mX), (.long tt)] (hw _ (List.mem_of_getElem? w_251)) (hw _ (List.mem_of_getElem? w_252)) (hw _ (List.mem_of_getElem? w_253)) (hw _ (List.mem_of_getElem? w_254)) (by decide) (c_req l Z a0 hw hE cc fm b463 mX tt h465 W469.old G ht) all0 (by rw [hml]; rfl) (lenOf pd_35 rfl) rfl (hb hby at_168) (Nat.le_of_ble_eq_true rfl) (Nat.le_of_ble_eq_true rfl) (Nat.le_of_ble_eq_true rfl) (Nat.le_of_ble_eq_true rfl) rfl fun v470 T470 h470 W470 K470 Q470 => ?_
        have z_K470 : h465.size ≤ h470.size := K470.1
        obtain rfl := Q470
        refine g_lload (pc' := 173) W470.here hx (hb hby at_171) rfl rfl ?_
        refine g_lconst (0 : Int64) (pc' := 174) W470.here hx (hb hby at_173) rfl rfl ?_
        refine g_lcmp (pc' := 175) W470.here hx (hb hby at_174) rfl ?_
        refine g_ifN (pc' := 178) W470.here hx (hb hby at_175) rfl (flt (show ¬ ((lcmpW tt (0 : Int64)) < (0 : Int32)) from (fun q => by have z := own_lcl.mp q; have e : (0 : Int64).toInt = 0 := rfl; omega))).1 ?_
        refine g_lload (pc' := 180) W470.here hx (hb hby at_178) rfl rfl ?_
        refine w_ldc2J (pc' := 183) W470 hx (hw _ (List.mem_of_getElem? w_250)) (hb hby at_180) rfl ?_
        refine g_lcmp (pc' := 184) W470.here hx (hb hby at_183) rfl ?_
        refine g_ifN (pc' := 187) W470.here hx (hb hby at_184) rfl (flt (show ¬ ((0 : Int32) < (lcmpW tt (2147483647 : Int64))) from (fun q => by have z := own_lcg.mp q; have e : (2147483647 : Int64).toInt = 2147483647 := rfl; omega))).2.2.1 ?_
        refine g_iconst (1 : Int32) (pc' := 188) W470.here hx (hb hby at_187) rfl rfl ?_
        refine g_goto (pc' := 192) W470.here hx (hb hby at_188) rfl ?_
        refine w_retN (t := .boolean) W470 hx hh hlk hret (by simp) (hb hby at_192) (Nat.le_of_ble_eq_true rfl) (Nat.le_of_ble_eq_true rfl) ?_
        exact rfl
theorem own_steq {s : State} {args : Array Value} {t : Term} {z : Int32} (h : (Jvm.Cond.eq t (Jvm.Term.int z)).value args s none s [] = some true) : t.eval args s none [] s = some (.int z) := eqv_i (Z := s) (F := Jvm.Term.int z) (y := z) rfl h
theorem own_dig {s : State} {a0 args : Array Value} {t : Term} {a : Addr} (wa : (Cond.arrayClass .byte).before a0 s = true) (hf : Fit s) (e : t.eval args s none [] s = some (.ref a)) (E : Exa s s.heap a "[B") (h : (Jvm.Cond.eq (Jvm.Term.length t) (Jvm.Term.int (100 : Int32))).value args s none s [] = some true) : ∃ vs : List Value, Ary s s.heap a .byte vs ∧ vs.length = 100 := by
  have q := own_steq h
  obtain ⟨c', hA⟩ : ∃ c', s.arrayAt? a = some c' := by
    cases hA : s.arrayAt? a with
    | none => simp [Term.eval, e, hA] at q
    | some c' => exact ⟨c', rfl⟩
  have sp := State.arrayAt?_spec hA
  obtain ⟨cell, k, h1, h2, h3, h4, -⟩ := E
  cases h1.symm.trans sp.1
  obtain ⟨cA, kA, comp, q1, q2, q3⟩ := Cond.arrayClass_spec wa
  have e1 : "[" ++ FieldType.byte.toString = "[B" := by decide
  rw [e1] at q1
  have ec := Option.some.inj (h2.symm.trans q1)
  have A : Arr s s.heap a c' .byte := ⟨h1, ⟨(fun k z => by rw [z] at h4; cases h4), kA, by rw [ec]; exact q2, comp, q3⟩, by first | exact sp.2.2 | exact sp.2.1 | exact sp.2⟩
  have hb : c'.slots.size < 2 ^ 31 := by
    rcases Nat.lt_or_ge c'.slots.size (2 ^ 31) with z | z
    · exact z
    · simp [Term.eval, e, A.fin (Vm.Alike.refl _), Nat.not_lt.mpr z] at q
  rw [len_f e (A.fin (Vm.Alike.refl _)) hb] at q
  have q2 : c'.slots.size.toInt32 = 100 := by simpa using q
  have q3 := congrArg Int32.toInt q2
  rw [len_toInt hb] at q3
  have e2 : (100 : Int32).toInt = 100 := rfl
  have hs : c'.slots.size = 100 := by omega
  refine ⟨c'.slots.toList, ⟨c', A, rfl, by rw [Array.length_toList, hs]; decide, fun v hv => ?_⟩, by rw [Array.length_toList, hs]⟩
  obtain ⟨i, hi, rfl⟩ := List.mem_iff_getElem.mp hv
  rw [Array.length_toList] at hi
  obtain ⟨w, w1, w2⟩ := elem_fit hf A (j := i.toInt32) (fun z => z.elim (fun z => by rw [Int32.lt_iff_toInt_lt, len_toInt (by omega)] at z; simp at z; omega) fun z => by rw [i32_nat (by omega)] at z; omega)
  rw [i32_nat (by omega), Array.getElem?_eq_getElem hi] at w1
  rw [Array.getElem_toList, Option.some.inj w1]; exact w2
set_option maxRecDepth 65536 in
set_option maxHeartbeats 40000000 in
theorem comes_1 {Post : Tables → Env → Array Value → State → Outcome → State → Prop} (hpost : ∀ tb e args s v u, (limb_1_1.after args s (.returned v) u = true ∧ limb_1_2.after args s (.returned v) u = true ∧ True) → ReturnedEndW s (.returned v) u (Jvm.fieldLocs frame_1_writes args s ++ Jvm.arrayLocs frame_1_arrays args s ++ Jvm.staticLocs frame_1_statics s) 48 5568 → Post tb e args s (.returned v) u) :
    ArmFor flags0 classFile x code maxLocals ret World_1 tables_1 room_1 Calls_1 rest_1 Pre_1 Post := by
  intro l hfl _ _ p e ha hc hk s m args below hf hA hF happ hP
  obtain ⟨hcalls, hrest, hpre⟩ := hP
  obtain ⟨-, -, -, hnamed, -, -, -, hat⟩ := (Spec.applies_iff hf).mp happ
  obtain ⟨hg, hn⟩ := and_e (Cond.before_iff.mp (show (Jvm.Cond.and given_1 narrow_1).before args s = true from hpre))
  obtain ⟨hg0, hg⟩ := and_e hg
  obtain ⟨w0, w1, w2, w3, w4, rfl⟩ : ∃ w0 w1 w2 w3 w4 : Value, args = #[w0, w1, w2, w3, w4] := by
    have hs : args.size = 5 := by simpa [Cond.value, given_1] using hg0
    obtain ⟨L⟩ := args
    match L, hs with
    | [w0, w1, w2, w3, w4], _ => exact ⟨w0, w1, w2, w3, w4, rfl⟩
  have hw := fun d (hd : d ∈ tables_1) => atoms_spec (ws := Jvm.Cond.code x code maxLocals ret :: tables_1) hat d (List.mem_cons_of_mem _ hd)
  have hfit : Fit s := fun {y c} hc i hi => by
    obtain ⟨ha, rfl⟩ := Array.getElem?_eq_some_iff.mp hc
    have q := List.all_eq_true.mp ((Array.all_eq_true_iff_forall_mem.mp hF) _ (Array.getElem_mem ha)) i (List.mem_range.mpr hi)
    simpa [Array.getElem?_eq_getElem hi] using q
  obtain ⟨hg1, hg⟩ := and_e hg
  obtain ⟨p0, ep0⟩ := is_v hg1
  obtain rfl : w0 = (.int p0) := Option.some.inj ep0
  obtain ⟨hg2, hg⟩ := and_e hg
  obtain ⟨p1, ep1⟩ := is_v hg2
  obtain rfl : w1 = (.int p1) := Option.some.inj ep1
  obtain ⟨hg3, hg⟩ := and_e hg
  obtain ⟨p2, ep2⟩ := is_v hg3
  obtain rfl : w2 = (.int p2) := Option.some.inj ep2
  obtain ⟨hg4, hg⟩ := and_e hg
  obtain ⟨p3, ep3⟩ := is_v hg4
  obtain rfl : w3 = (.int p3) := Option.some.inj ep3
  have hg5 := hg
  obtain ⟨p4, ep4⟩ := isL_v hg5
  obtain rfl : w4 = (.long p4) := Option.some.inj ep4
  obtain ⟨n1, hn⟩ := and_e hn
  have n2 := hn
  have hsets := (atoms_of jdkStatics_1 (show (jdkStatics_1.foldr Cond.and restOwn_1).before _ s = true by rw [← rest_1_c_eq]; exact hrest)).1
  have hheld : ∀ p ∈ consts_1, Jvm.Lit.constHeld s p.1 p.2 := hcalls.1
  obtain ⟨mS, e_mS⟩ := exa_v n1
  obtain ⟨mX, e_mX⟩ := exa_v n2
  obtain ⟨dO, e_dO⟩ := exa_v (Cond.before_iff.mp (hsets _ (List.mem_of_getElem? (i := 12) rfl)))
  obtain ⟨vO, V_dO, l_dO⟩ := own_dig (hw _ (List.mem_of_getElem? w_24)) hfit e_dO (Exa.start e_dO (Cond.before_iff.mp (hsets _ (List.mem_of_getElem? (i := 12) rfl)))) (Cond.before_iff.mp (hsets _ (List.mem_of_getElem? (i := 13) rfl)))
  obtain ⟨dT, e_dT⟩ := exa_v (Cond.before_iff.mp (hsets _ (List.mem_of_getElem? (i := 17) rfl)))
  obtain ⟨vT, V_dT, l_dT⟩ := own_dig (hw _ (List.mem_of_getElem? w_24)) hfit e_dT (Exa.start e_dT (Cond.before_iff.mp (hsets _ (List.mem_of_getElem? (i := 17) rfl)))) (Cond.before_iff.mp (hsets _ (List.mem_of_getElem? (i := 18) rfl)))
  obtain ⟨cc, ecc⟩ := is_v (Cond.before_iff.mp (hsets _ (List.mem_of_getElem? (i := 1) rfl)))
  have hcc : ¬ cc = 0 := fun q => by
    have q1 := not_v (Cond.before_iff.mp (hsets _ (List.mem_of_getElem? (i := 2) rfl)))
    exact absurd q (gotF (Cond.eq_ints ecc (Term.int_eval 0)) q1)
  obtain ⟨fm, efm, hfm⟩ := isR_v (Cond.before_iff.mp (hsets _ (List.mem_of_getElem? (i := 8) rfl)))
  have hG : SEnv s cc fm := ⟨Sta.start ecc (Or.inl (hsets _ (List.mem_of_getElem? (i := 0) rfl))), hcc, Sta.start efm (Or.inl (hsets _ (List.mem_of_getElem? (i := 7) rfl))), hfm⟩
  have hEW : EW s _ consts_1 := (EW.cons (hw _ (List.mem_of_getElem? w_255)) (by decide) (EW.cons (hw _ (List.mem_of_getElem? w_72)) (by decide) (EW.cons (hw _ (List.mem_of_getElem? w_120)) (by decide) (EW.cons (hw _ (List.mem_of_getElem? w_167)) (by decide) (EW.cons (hw _ (List.mem_of_getElem? w_47)) (by decide) EW.nil)))))
  have hCH : CHv s consts_1 s.vm s.heap := CHv.start hEW hheld (a0 := _) (hsets _ (List.mem_of_getElem? (i := 2) rfl)) (hw _ (List.mem_of_getElem? w_24)) (hw _ (List.mem_of_getElem? w_7))
  obtain ⟨t, o, h1, h2, h3, v, L, rfl, ⟨rfl, N, -⟩, -, hq⟩ := c_law l s _ hw hEW cc fm dO dT vO vT mX mS p0 p1 p2 p3 p4 s.heap ⟨Nat.le_refl _, fun _ _ q => q⟩ hG (Sta.start e_dO (Or.inl (hsets _ (List.mem_of_getElem? (i := 11) rfl)))) (Sta.start e_dT (Or.inl (hsets _ (List.mem_of_getElem? (i := 16) rfl)))) V_dO V_dT l_dO l_dT (Sta.start e_mX (Or.inr ⟨(hw _ (List.mem_of_getElem? w_248)), (hw _ (List.mem_of_getElem? w_262))⟩)) (Sta.start e_mS (Or.inr ⟨(hw _ (List.mem_of_getElem? w_248)), (hw _ (List.mem_of_getElem? w_249))⟩))
    p e ha hc hk s m _ below hf ((Spec.applies_iff_loose hf).mp happ).1 ⟨rfl, State.Warmed39.refl s, rfl, hCH, fun _ q => nomatch q⟩ trivial
  refine ⟨t, _, h1, h2, h3, hpost _ _ _ _ _ _ ⟨Cond.after_iff.mpr rfl, Cond.after_iff.mpr (eq_i res_at (Term.int_eval (1)) rfl), trivial⟩ ⟨hq.1, hq.2.1, hq.2.2.1, (hq.2.2.2.sift fun y hy => Or.inr (N y hy)).mono (by decide) (by decide)⟩⟩
theorem main_1_1 : Claimed_1_1 := comes_1 fun _ _ _ _ _ _ h hF => ⟨h.1, hF⟩
theorem main_1_2 : Claimed_1_2 := comes_1 fun _ _ _ _ _ _ h hF => ⟨h.2.1, hF⟩
end Jvm.Pilot.@@N@@
namespace Jvm.Pilot.@@N@@
open Jvm Jvm.ClassFile Sem Op Lib Jvm.Free Jvm.Stand Jvm.Pilot.@@N@@.Jvm.D
/-! MADE BY PROGRAM (witnessworld.py) out of the Statement's table words and the real class files: 36 classes; the members and pool entries that the words name. The judged class is class 1, her method 2. -/
namespace start1
open Jvm.ClassFile
def u (s : String) : CpInfo := .utf8 (stringToUtf16 s)
/-- a pool by its gaps: so many unusable entries, then the entry; so many at the end -/
def gap : Nat → List CpInfo → List CpInfo
  | 0, r => r
  | n + 1, r => .unusable :: gap n r
def poolList (es : List (Nat × CpInfo)) (last : Nat) : List CpInfo := es.foldr (fun e r => gap e.1 (e.2 :: r)) (gap last [])
def pool (es : List (Nat × CpInfo)) (last : Nat) : Array CpInfo := ⟨poolList es last⟩
def fileOf (pool : Array CpInfo) (this : Nat) (attrs : Array Attribute := #[]) (ms : Array MethodInfo := #[]) (fl : Nat := 33) (sup : Nat := 0) (ifs : Array Nat := #[]) (fds : Array FieldInfo := #[]) : ClassFile where
  minorVersion := 0
  majorVersion := 65
  constantPool := pool
  accessFlags := fl
  thisClass := this
  superClass := sup
  interfaces := ifs
  fields := fds
  methods := ms
  attributes := attrs
def plain (name : String) (sup : Option ClassId) : Class where
  name := name
  kind := .ordinary
  loader := none
  accessFlags := 33
  super := sup
  interfaces := #[]
  cf := none
  fields := #[]
  methods := #[]
  instanceTypes := #[]
  staticTypes := #[]
  resolved := #[]
  callSites := []
  init := .initialized
  statics := none
  mirror := none

def pool0 : Array CpInfo := pool [(5, u "<init>"), (0, u "()V"), (1, .class_ 10), (1, u "java/lang/Object")] 113

def k0c0 : Code := { maxStack := 0, maxLocals := 1, code := object_method_1_code, exceptionTable := #[], attributes := #[] }
def k0m0 : Method := { name := "<init>", desc := "()V", sig := { parameters := [], returnType := none }, accessFlags := 1, code := some k0c0 }
/-- java/lang/Object -/
def k0 : Class := { plain "java/lang/Object" none with
  accessFlags := 33
  interfaces := #[]
  cf := some (fileOf pool0 8 #[] #[{ accessFlags := 1, nameIndex := 5, descriptorIndex := 6, attributes := #[] }] 33 0 #[] #[])
  fields := #[]
  methods := #[k0m0]
  instanceTypes := #[]
  staticTypes := #[]
  resolved := Array.replicate 124 none
  statics := none }

def pool1 : Array CpInfo := pool [(2, .class_ 4), (1, u "java/lang/Object"), (0, u "<init>"), (0, u "()V"), (0, .integer 2147483647), (0, .methodref 9 10), (0, .class_ 11), (0, .nameAndType 12 13), (0, u "com/example/transaction_locking/transactionlocking/handle/HeldLocksCheckRequestPinLaw"), (0, u "drawn"), (0, u "(I)C"), (0, .class_ 15), (0, u "java/lang/String"), (0, .methodref 14 17), (0, .nameAndType 5 18), (0, u "([C)V"), (0, .class_ 20), (0, u "com/example/transaction_locking/transactionlocking/value/LockName"), (0, .methodref 19 22), (0, .nameAndType 5 23), (0, u "(Ljava/lang/String;)V"), (0, .fieldref 25 26), (0, .class_ 27), (0, .nameAndType 28 29), (0, u "com/example/transaction_locking/transactionlocking/value/LockMode"), (0, u "EXCLUSIVE"), (0, u "Lcom/example/transaction_locking/transactionlocking/value/LockMode;"), (0, .fieldref 25 31), (0, .nameAndType 32 29), (0, u "SHARED"), (0, .long 2147483647), (1, .methodref 36 37), (0, .class_ 38), (0, .nameAndType 39 40), (0, u "com/example/transaction_locking/transactionlocking/handle/HeldLocks"), (0, u "checkRequest"), (0, u "(Lcom/example/transaction_locking/transactionlocking/value/LockName;Lcom/example/transaction_locking/transactionlocking/value/LockMode;J)V"), (2, u "law"), (0, u "(IIIIJ)Z")] 5

def k1m0 : Method := { name := "<init>", desc := "()V", sig := { parameters := [], returnType := none }, accessFlags := 2, code := none }
def k1c1 : Code := { maxStack := 2, maxLocals := 1, code := method_2_code, exceptionTable := #[], attributes := #[] }
def k1m1 : Method := { name := "drawn", desc := "(I)C", sig := { parameters := [.int], returnType := some .char }, accessFlags := 10, code := some k1c1 }
def k1c2 : Code := { maxStack := 4, maxLocals := 18, code := code, exceptionTable := #[], attributes := #[] }
def k1m2 : Method := { name := "law", desc := "(IIIIJ)Z", sig := { parameters := [.int, .int, .int, .int, .long], returnType := some .boolean }, accessFlags := 9, code := some k1c2 }
/-- com/example/transaction_locking/transactionlocking/handle/HeldLocksCheckRequestPinLaw -/
def k1 : Class := { plain "com/example/transaction_locking/transactionlocking/handle/HeldLocksCheckRequestPinLaw" (some 0) with
  accessFlags := 49
  interfaces := #[]
  cf := some (fileOf pool1 9 #[] #[{ accessFlags := 2, nameIndex := 5, descriptorIndex := 6, attributes := #[] }, { accessFlags := 10, nameIndex := 12, descriptorIndex := 13, attributes := #[] }, { accessFlags := 9, nameIndex := 43, descriptorIndex := 44, attributes := #[] }] 49 2 #[] #[])
  fields := #[]
  methods := #[k1m0, k1m1, k1m2]
  instanceTypes := #[]
  staticTypes := #[]
  resolved := Array.replicate 50 none
  statics := none }

def pool2 : Array CpInfo := pool [(1, .class_ 2), (0, u "java/io/Serializable"), (0, .class_ 4), (0, u "java/lang/Object")] 2

/-- java/io/Serializable -/
def k2 : Class := { plain "java/io/Serializable" (some 0) with
  accessFlags := 1537
  interfaces := #[]
  cf := some (fileOf pool2 1 #[] #[] 1537 3 #[] #[])
  fields := #[]
  methods := #[]
  instanceTypes := #[]
  staticTypes := #[]
  resolved := Array.replicate 7 none
  statics := none }

def pool3 : Array CpInfo := pool [(1, .class_ 2), (0, u "java/lang/Comparable"), (0, .class_ 4), (0, u "java/lang/Object")] 7

/-- java/lang/Comparable -/
def k3 : Class := { plain "java/lang/Comparable" (some 0) with
  accessFlags := 1537
  interfaces := #[]
  cf := some (fileOf pool3 1 #[] #[] 1537 3 #[] #[])
  fields := #[]
  methods := #[]
  instanceTypes := #[]
  staticTypes := #[]
  resolved := Array.replicate 12 none
  statics := none }

def pool4 : Array CpInfo := pool [(2, .class_ 4), (1, u "java/lang/CharSequence"), (42, .class_ 48), (0, u "java/lang/CharSequence$1CodePointIterator"), (10, .class_ 60), (0, u "java/lang/CharSequence$1CharIterator"), (5, .class_ 67), (0, u "java/lang/Object")] 63

/-- java/lang/CharSequence -/
def k4 : Class := { plain "java/lang/CharSequence" (some 0) with
  accessFlags := 1537
  interfaces := #[]
  cf := some (fileOf pool4 2 #[.nestMembers #[47, 59]] #[] 1537 66 #[] #[])
  fields := #[]
  methods := #[]
  instanceTypes := #[]
  staticTypes := #[]
  resolved := Array.replicate 131 none
  statics := none }

def pool5 : Array CpInfo := pool [(1, .class_ 2), (0, u "java/lang/constant/Constable"), (0, .class_ 4), (0, u "java/lang/Object")] 6

/-- java/lang/constant/Constable -/
def k5 : Class := { plain "java/lang/constant/Constable" (some 0) with
  accessFlags := 1537
  interfaces := #[]
  cf := some (fileOf pool5 1 #[] #[] 1537 3 #[] #[])
  fields := #[]
  methods := #[]
  instanceTypes := #[]
  staticTypes := #[]
  resolved := Array.replicate 11 none
  statics := none }

def pool6 : Array CpInfo := pool [(1, .class_ 2), (0, u "java/lang/constant/ConstantDesc"), (0, .class_ 4), (0, u "java/lang/Object")] 32

/-- java/lang/constant/ConstantDesc -/
def k6 : Class := { plain "java/lang/constant/ConstantDesc" (some 0) with
  accessFlags := 1537
  interfaces := #[]
  cf := some (fileOf pool6 1 #[] #[] 1537 3 #[] #[])
  fields := #[]
  methods := #[]
  instanceTypes := #[]
  staticTypes := #[]
  resolved := Array.replicate 37 none
  statics := none }

def pool7 : Array CpInfo := pool [(1, .methodref 2 3), (0, .class_ 4), (0, .nameAndType 5 6), (0, u "java/lang/Object"), (0, u "<init>"), (0, u "()V"), (2, .fieldref 10 11), (0, .class_ 12), (0, .nameAndType 13 14), (0, u "java/lang/String"), (0, u "value"), (0, u "[B"), (0, .fieldref 10 16), (0, .nameAndType 17 18), (0, u "coder"), (0, u "B"), (2, u "hash"), (0, u "I"), (2, u "hashIsZero"), (0, u "Z"), (0, .methodref 10 28), (0, .nameAndType 5 29), (0, u "([CIILjava/lang/Void;)V"), (8, .fieldref 10 39), (0, .nameAndType 40 26), (0, u "COMPACT_STRINGS"), (1, .class_ 44), (1, u "java/lang/StringUTF16"), (0, u "compress"), (1, .methodref 42 48), (0, .nameAndType 49 50), (0, u "coderFromArrayLen"), (0, u "([BI)B"), (3, .methodref 55 56), (0, .class_ 57), (0, .nameAndType 58 59), (0, u "java/util/Arrays"), (0, u "copyOfRange"), (0, u "([BII)[B"), (47, .class_ 109), (1, u "java/lang/StringLatin1"), (32, u "()Z"), (34, .methodref 42 178), (0, .nameAndType 45 179), (0, u "([CII)[B"), (13, .class_ 195), (1, u "java/lang/System"), (16, .methodref 193 213), (0, .nameAndType 214 215), (0, u "arraycopy"), (0, u "(Ljava/lang/Object;ILjava/lang/Object;II)V"), (118, u "()I"), (0, .methodref 10 336), (0, .nameAndType 17 337), (0, u "()B"), (2, u "()[B"), (22, u "([BI)C"), (27, u "(II)V"), (35, u "(I)C"), (61, .methodref 10 490), (0, .nameAndType 5 491), (0, u "(Ljava/lang/AbstractStringBuilder;Ljava/lang/Void;)V"), (0, .methodref 10 493), (0, .nameAndType 494 142), (0, u "isLatin1"), (0, .methodref 107 496), (0, .nameAndType 497 363), (0, u "charAt"), (3, u "checkIndex"), (4, .nameAndType 507 334), (0, u "length"), (24, u "getBytes"), (16, .methodref 550 506), (0, .class_ 551), (0, u "java/lang/AbstractStringBuilder"), (0, .methodref 550 553), (0, .nameAndType 554 340), (0, u "getValue"), (20, .class_ 576), (0, u "java/lang/CharSequence"), (22, u "CASE_INSENSITIVE_ORDER"), (0, u "Ljava/util/Comparator;"), (91, u "isEmpty"), (128, u "([BIB)V"), (188, u "([C)V"), (36, .methodref 550 493), (5, .fieldref 1054 1055), (0, .class_ 1056), (0, .nameAndType 1057 1058), (0, u "jdk/internal/util/Preconditions"), (0, u "SIOOBE_FORMATTER"), (0, u "Ljava/util/function/BiFunction;"), (0, .methodref 1054 1060), (0, .nameAndType 501 1061), (0, u "(IILjava/util/function/BiFunction;)I"), (39, u "serialPersistentFields"), (0, u "[Ljava/io/ObjectStreamField;"), (0, .class_ 1104), (0, u "java/lang/String$CaseInsensitiveComparator"), (1, .class_ 1107), (0, u "java/io/Serializable"), (0, .class_ 1109), (0, u "java/lang/Comparable"), (0, .class_ 1111), (0, u "java/lang/constant/Constable"), (0, .class_ 1113), (0, u "java/lang/constant/ConstantDesc"), (2, u "serialVersionUID"), (0, u "J"), (3, u "REPL"), (0, u "C"), (2, u "LATIN1"), (1, u "UTF16"), (105, u "(Ljava/lang/StringBuilder;)V")] 217

def k7m0 : Method := { name := "<init>", desc := "()V", sig := { parameters := [], returnType := none }, accessFlags := 1, code := none }
def k7c1 : Code := { maxStack := 5, maxLocals := 2, code := jdk_42_method_3_code, exceptionTable := #[], attributes := #[] }
def k7m1 : Method := { name := "<init>", desc := "([C)V", sig := { parameters := [(.array .char)], returnType := none }, accessFlags := 1, code := some k7c1 }
def k7c2 : Code := { maxStack := 3, maxLocals := 2, code := jdk_42_method_53_code, exceptionTable := #[], attributes := #[] }
def k7m2 : Method := { name := "<init>", desc := "(Ljava/lang/StringBuilder;)V", sig := { parameters := [(.object "java/lang/StringBuilder")], returnType := none }, accessFlags := 1, code := some k7c2 }
def k7c3 : Code := { maxStack := 2, maxLocals := 1, code := jdk_42_method_54_code, exceptionTable := #[], attributes := #[] }
def k7m3 : Method := { name := "length", desc := "()I", sig := { parameters := [], returnType := some .int }, accessFlags := 1, code := some k7c3 }
def k7c4 : Code := { maxStack := 1, maxLocals := 1, code := jdk_42_method_55_code, exceptionTable := #[], attributes := #[] }
def k7m4 : Method := { name := "isEmpty", desc := "()Z", sig := { parameters := [], returnType := some .boolean }, accessFlags := 1, code := some k7c4 }
def k7c5 : Code := { maxStack := 2, maxLocals := 2, code := jdk_42_method_56_code, exceptionTable := #[], attributes := #[] }
def k7m5 : Method := { name := "charAt", desc := "(I)C", sig := { parameters := [.int], returnType := some .char }, accessFlags := 1, code := some k7c5 }
def k7c6 : Code := { maxStack := 5, maxLocals := 4, code := jdk_42_method_147_code, exceptionTable := #[], attributes := #[] }
def k7m6 : Method := { name := "getBytes", desc := "([BIB)V", sig := { parameters := [(.array .byte), .int, .byte], returnType := none }, accessFlags := 0, code := some k7c6 }
def k7c7 : Code := { maxStack := 4, maxLocals := 6, code := jdk_42_method_149_code, exceptionTable := #[], attributes := #[] }
def k7m7 : Method := { name := "<init>", desc := "([CIILjava/lang/Void;)V", sig := { parameters := [(.array .char), .int, .int, (.object "java/lang/Void")], returnType := none }, accessFlags := 2, code := some k7c7 }
def k7c8 : Code := { maxStack := 5, maxLocals := 5, code := jdk_42_method_150_code, exceptionTable := #[], attributes := #[] }
def k7m8 : Method := { name := "<init>", desc := "(Ljava/lang/AbstractStringBuilder;Ljava/lang/Void;)V", sig := { parameters := [(.object "java/lang/AbstractStringBuilder"), (.object "java/lang/Void")], returnType := none }, accessFlags := 0, code := some k7c8 }
def k7c9 : Code := { maxStack := 1, maxLocals := 1, code := jdk_42_method_152_code, exceptionTable := #[], attributes := #[] }
def k7m9 : Method := { name := "coder", desc := "()B", sig := { parameters := [], returnType := some .byte }, accessFlags := 0, code := some k7c9 }
def k7c10 : Code := { maxStack := 1, maxLocals := 1, code := jdk_42_method_154_code, exceptionTable := #[], attributes := #[] }
def k7m10 : Method := { name := "isLatin1", desc := "()Z", sig := { parameters := [], returnType := some .boolean }, accessFlags := 0, code := some k7c10 }
def k7c11 : Code := { maxStack := 3, maxLocals := 2, code := jdk_42_method_155_code, exceptionTable := #[], attributes := #[] }
def k7m11 : Method := { name := "checkIndex", desc := "(II)V", sig := { parameters := [.int, .int], returnType := none }, accessFlags := 8, code := some k7c11 }
/-- java/lang/String -/
def k7 : Class := { plain "java/lang/String" (some 0) with
  accessFlags := 49
  interfaces := #[2, 3, 4, 5, 6]
  cf := some (fileOf pool7 10 #[.nestMembers #[1103]] #[{ accessFlags := 1, nameIndex := 5, descriptorIndex := 6, attributes := #[] }, { accessFlags := 1, nameIndex := 5, descriptorIndex := 1010, attributes := #[] }, { accessFlags := 1, nameIndex := 5, descriptorIndex := 1233, attributes := #[] }, { accessFlags := 1, nameIndex := 507, descriptorIndex := 334, attributes := #[] }, { accessFlags := 1, nameIndex := 692, descriptorIndex := 142, attributes := #[] }, { accessFlags := 1, nameIndex := 497, descriptorIndex := 427, attributes := #[] }, { accessFlags := 0, nameIndex := 532, descriptorIndex := 821, attributes := #[] }, { accessFlags := 2, nameIndex := 5, descriptorIndex := 29, attributes := #[] }, { accessFlags := 0, nameIndex := 5, descriptorIndex := 491, attributes := #[] }, { accessFlags := 0, nameIndex := 17, descriptorIndex := 337, attributes := #[] }, { accessFlags := 0, nameIndex := 494, descriptorIndex := 142, attributes := #[] }, { accessFlags := 8, nameIndex := 501, descriptorIndex := 391, attributes := #[] }] 49 2 #[1106, 1108, 575, 1110, 1112] #[{ accessFlags := 18, nameIndex := 13, descriptorIndex := 14, attributes := #[] }, { accessFlags := 18, nameIndex := 17, descriptorIndex := 18, attributes := #[] }, { accessFlags := 2, nameIndex := 21, descriptorIndex := 22, attributes := #[] }, { accessFlags := 2, nameIndex := 25, descriptorIndex := 26, attributes := #[] }, { accessFlags := 26, nameIndex := 1116, descriptorIndex := 1117, attributes := #[] }, { accessFlags := 24, nameIndex := 40, descriptorIndex := 26, attributes := #[] }, { accessFlags := 26, nameIndex := 1101, descriptorIndex := 1102, attributes := #[] }, { accessFlags := 26, nameIndex := 1121, descriptorIndex := 1122, attributes := #[] }, { accessFlags := 25, nameIndex := 599, descriptorIndex := 600, attributes := #[] }, { accessFlags := 24, nameIndex := 1125, descriptorIndex := 18, attributes := #[] }, { accessFlags := 24, nameIndex := 1127, descriptorIndex := 18, attributes := #[] }])
  fields := #[{ name := "value", type := (.array .byte), accessFlags := 18, slot := 0, constantValue := 0 }, { name := "coder", type := .byte, accessFlags := 18, slot := 1, constantValue := 0 }, { name := "hash", type := .int, accessFlags := 2, slot := 2, constantValue := 0 }, { name := "hashIsZero", type := .boolean, accessFlags := 2, slot := 3, constantValue := 0 }, { name := "serialVersionUID", type := .long, accessFlags := 26, slot := 0, constantValue := 0 }, { name := "COMPACT_STRINGS", type := .boolean, accessFlags := 24, slot := 1, constantValue := 0 }, { name := "serialPersistentFields", type := (.array (.object "java/io/ObjectStreamField")), accessFlags := 26, slot := 2, constantValue := 0 }, { name := "REPL", type := .char, accessFlags := 26, slot := 3, constantValue := 0 }, { name := "CASE_INSENSITIVE_ORDER", type := (.object "java/util/Comparator"), accessFlags := 25, slot := 4, constantValue := 0 }, { name := "LATIN1", type := .byte, accessFlags := 24, slot := 5, constantValue := 0 }, { name := "UTF16", type := .byte, accessFlags := 24, slot := 6, constantValue := 0 }]
  methods := #[k7m0, k7m1, k7m2, k7m3, k7m4, k7m5, k7m6, k7m7, k7m8, k7m9, k7m10, k7m11]
  instanceTypes := #[(.array .byte), .byte, .int, .boolean]
  staticTypes := #[.long, .boolean, (.array (.object "java/io/ObjectStreamField")), .char, (.object "java/util/Comparator"), .byte, .byte]
  resolved := Array.replicate 1451 none
  statics := some 0 }

def pool8 : Array CpInfo := pool [(6, .class_ 8), (1, u "java/lang/Object"), (0, u "<init>"), (0, u "()V"), (1, .class_ 14), (1, u "java/lang/StringUTF16"), (31, u "$assertionsDisabled"), (0, u "Z"), (13, u "HI_BYTE_SHIFT"), (0, u "I"), (2, u "LO_BYTE_SHIFT"), (49, .methodref 12 116), (0, .nameAndType 117 118), (0, u "compress"), (0, u "([CI[BII)I"), (3, u "([CII)[B"), (138, u "coderFromArrayLen"), (0, u "([BI)B"), (106, .class_ 371), (1, u "java/lang/StringUTF16$LinesSpliterator"), (58, u "MAX_LENGTH"), (196, .class_ 628), (0, u "java/lang/StringUTF16$CodePointsSpliterator"), (0, .class_ 630), (0, u "java/lang/StringUTF16$CharsSpliterator")] 4

def k8m0 : Method := { name := "<init>", desc := "()V", sig := { parameters := [], returnType := none }, accessFlags := 0, code := none }
def k8c1 : Code := { maxStack := 2, maxLocals := 2, code := jdk_52_method_15_code, exceptionTable := #[], attributes := #[] }
def k8m1 : Method := { name := "coderFromArrayLen", desc := "([BI)B", sig := { parameters := [(.array .byte), .int], returnType := some .byte }, accessFlags := 8, code := some k8c1 }
def k8c2 : Code := { maxStack := 5, maxLocals := 6, code := jdk_52_method_16_code, exceptionTable := #[], attributes := #[] }
def k8m2 : Method := { name := "compress", desc := "([CII)[B", sig := { parameters := [(.array .char), .int, .int], returnType := some (.array .byte) }, accessFlags := 9, code := some k8c2 }
def k8c3 : Code := { maxStack := 3, maxLocals := 7, code := jdk_52_method_21_code, exceptionTable := #[], attributes := #[] }
def k8m3 : Method := { name := "compress", desc := "([CI[BII)I", sig := { parameters := [(.array .char), .int, (.array .byte), .int, .int], returnType := some .int }, accessFlags := 9, code := some k8c3 }
/-- java/lang/StringUTF16 -/
def k8 : Class := { plain "java/lang/StringUTF16" (some 0) with
  accessFlags := 48
  interfaces := #[]
  cf := some (fileOf pool8 12 #[.nestMembers #[627, 629, 369]] #[{ accessFlags := 0, nameIndex := 9, descriptorIndex := 10, attributes := #[] }, { accessFlags := 8, nameIndex := 261, descriptorIndex := 262, attributes := #[] }, { accessFlags := 9, nameIndex := 117, descriptorIndex := 122, attributes := #[] }, { accessFlags := 9, nameIndex := 117, descriptorIndex := 118, attributes := #[] }] 48 6 #[] #[{ accessFlags := 26, nameIndex := 61, descriptorIndex := 62, attributes := #[] }, { accessFlags := 26, nameIndex := 65, descriptorIndex := 62, attributes := #[] }, { accessFlags := 24, nameIndex := 430, descriptorIndex := 62, attributes := #[] }, { accessFlags := 4120, nameIndex := 46, descriptorIndex := 47, attributes := #[] }])
  fields := #[{ name := "HI_BYTE_SHIFT", type := .int, accessFlags := 26, slot := 0, constantValue := 0 }, { name := "LO_BYTE_SHIFT", type := .int, accessFlags := 26, slot := 1, constantValue := 0 }, { name := "MAX_LENGTH", type := .int, accessFlags := 24, slot := 2, constantValue := 0 }, { name := "$assertionsDisabled", type := .boolean, accessFlags := 4120, slot := 3, constantValue := 0 }]
  methods := #[k8m0, k8m1, k8m2, k8m3]
  instanceTypes := #[]
  staticTypes := #[.int, .int, .int, .boolean]
  resolved := Array.replicate 635 none
  statics := none }

def pool9 : Array CpInfo := pool [(1, .methodref 2 3), (0, .class_ 4), (0, .nameAndType 5 6), (0, u "java/lang/Object"), (0, u "<init>"), (0, u "()V"), (0, .class_ 8), (0, u "java/lang/Record")] 13

def k9c0 : Code := { maxStack := 1, maxLocals := 1, code := jdk_30_method_1_code, exceptionTable := #[], attributes := #[] }
def k9m0 : Method := { name := "<init>", desc := "()V", sig := { parameters := [], returnType := none }, accessFlags := 4, code := some k9c0 }
/-- java/lang/Record -/
def k9 : Class := { plain "java/lang/Record" (some 0) with
  accessFlags := 1057
  interfaces := #[]
  cf := some (fileOf pool9 7 #[] #[{ accessFlags := 4, nameIndex := 5, descriptorIndex := 6, attributes := #[] }] 1057 2 #[] #[])
  fields := #[]
  methods := #[k9m0]
  instanceTypes := #[]
  staticTypes := #[]
  resolved := Array.replicate 22 none
  statics := none }

def pool10 : Array CpInfo := pool [(1, .class_ 2), (0, u "com/example/transaction_locking/transactionlocking/value/ExactString"), (0, .methodref 4 5), (0, .class_ 6), (0, .nameAndType 7 8), (0, u "java/lang/Record"), (0, u "<init>"), (0, u "()V"), (0, .string 10), (0, u "lock name"), (0, .methodref 1 12), (0, .nameAndType 13 14), (0, u "check"), (0, u "(Ljava/lang/String;Ljava/lang/String;)V"), (0, .fieldref 16 17), (0, .class_ 18), (0, .nameAndType 19 20), (0, u "com/example/transaction_locking/transactionlocking/value/LockName"), (0, u "value"), (0, u "Ljava/lang/String;"), (14, u "MAX_LENGTH"), (0, u "I"), (2, u "(Ljava/lang/String;)V")] 26

def k10c0 : Code := { maxStack := 2, maxLocals := 2, code := prog_34_method_1_code, exceptionTable := #[], attributes := #[] }
def k10m0 : Method := { name := "<init>", desc := "(Ljava/lang/String;)V", sig := { parameters := [(.object "java/lang/String")], returnType := none }, accessFlags := 1, code := some k10c0 }
/-- com/example/transaction_locking/transactionlocking/value/LockName -/
def k10 : Class := { plain "com/example/transaction_locking/transactionlocking/value/LockName" (some 9) with
  accessFlags := 49
  interfaces := #[]
  cf := some (fileOf pool10 16 #[] #[{ accessFlags := 1, nameIndex := 7, descriptorIndex := 39, attributes := #[] }] 49 4 #[] #[{ accessFlags := 18, nameIndex := 19, descriptorIndex := 20, attributes := #[] }, { accessFlags := 25, nameIndex := 35, descriptorIndex := 36, attributes := #[] }])
  fields := #[{ name := "value", type := (.object "java/lang/String"), accessFlags := 18, slot := 0, constantValue := 0 }, { name := "MAX_LENGTH", type := .int, accessFlags := 25, slot := 0, constantValue := 0 }]
  methods := #[k10m0]
  instanceTypes := #[(.object "java/lang/String")]
  staticTypes := #[.int]
  resolved := Array.replicate 66 none
  statics := none }

def pool11 : Array CpInfo := pool [(2, .class_ 4), (0, .nameAndType 5 6), (0, u "java/lang/Object"), (0, u "<init>"), (0, u "()V"), (0, .class_ 8), (0, u "java/lang/StringBuilder"), (0, .methodref 7 3), (0, .string 11), (0, u "a "), (0, .methodref 7 13), (0, .nameAndType 14 15), (0, u "append"), (0, u "(Ljava/lang/String;)Ljava/lang/StringBuilder;"), (0, .string 17), (0, u " has 1 to "), (0, .class_ 19), (0, u "com/example/transaction_locking/transactionlocking/value/ExactString"), (0, .methodref 7 21), (0, .nameAndType 14 22), (0, u "(I)Ljava/lang/StringBuilder;"), (0, .string 24), (0, u " characters"), (0, .methodref 7 26), (0, .nameAndType 27 28), (0, u "toString"), (0, u "()Ljava/lang/String;"), (7, .methodref 37 38), (0, .class_ 39), (0, .nameAndType 40 41), (0, u "java/lang/String"), (0, u "isEmpty"), (0, u "()Z"), (6, .methodref 37 49), (0, .nameAndType 50 51), (0, u "length"), (0, u "()I"), (4, .methodref 37 57), (0, .nameAndType 58 59), (0, u "charAt"), (0, u "(I)C"), (4, .methodref 65 66), (0, .class_ 67), (0, .nameAndType 68 69), (0, u "com/example/transaction_locking/transactionlocking/value/Quoting"), (0, u "isUnpairedSurrogate"), (0, u "(Ljava/lang/String;I)Z"), (22, u "MAX_LENGTH"), (0, u "I"), (4, u "check"), (0, u "(Ljava/lang/String;Ljava/lang/String;)V")] 3

def k11m0 : Method := { name := "<init>", desc := "()V", sig := { parameters := [], returnType := none }, accessFlags := 2, code := none }
def k11c1 : Code := { maxStack := 5, maxLocals := 6, code := prog_30_method_2_code, exceptionTable := #[], attributes := #[] }
def k11m1 : Method := { name := "check", desc := "(Ljava/lang/String;Ljava/lang/String;)V", sig := { parameters := [(.object "java/lang/String"), (.object "java/lang/String")], returnType := none }, accessFlags := 8, code := some k11c1 }
/-- com/example/transaction_locking/transactionlocking/value/ExactString -/
def k11 : Class := { plain "com/example/transaction_locking/transactionlocking/value/ExactString" (some 0) with
  accessFlags := 32
  interfaces := #[]
  cf := some (fileOf pool11 18 #[] #[{ accessFlags := 2, nameIndex := 5, descriptorIndex := 6, attributes := #[] }, { accessFlags := 8, nameIndex := 98, descriptorIndex := 99, attributes := #[] }] 32 2 #[] #[{ accessFlags := 24, nameIndex := 92, descriptorIndex := 93, attributes := #[] }])
  fields := #[{ name := "MAX_LENGTH", type := .int, accessFlags := 24, slot := 0, constantValue := 0 }]
  methods := #[k11m0, k11m1]
  instanceTypes := #[]
  staticTypes := #[.int]
  resolved := Array.replicate 103 none
  statics := none }

def pool12 : Array CpInfo := pool [(1, .class_ 2), (0, u "java/lang/Appendable"), (0, .class_ 4), (0, u "java/lang/Object")] 9

/-- java/lang/Appendable -/
def k12 : Class := { plain "java/lang/Appendable" (some 0) with
  accessFlags := 1537
  interfaces := #[]
  cf := some (fileOf pool12 1 #[] #[] 1537 3 #[] #[])
  fields := #[]
  methods := #[]
  instanceTypes := #[]
  staticTypes := #[]
  resolved := Array.replicate 14 none
  statics := none }

def pool13 : Array CpInfo := pool [(1, .class_ 2), (0, u "java/lang/String"), (0, .methodref 4 5), (0, .class_ 6), (0, .nameAndType 7 8), (0, u "java/lang/Object"), (0, u "<init>"), (0, u "()V"), (1, .class_ 12), (1, u "java/lang/AbstractStringBuilder"), (0, u "EMPTYVALUE"), (0, u "[B"), (0, .fieldref 10 16), (0, .nameAndType 17 14), (0, u "value"), (0, .fieldref 1 19), (0, .nameAndType 20 21), (0, u "COMPACT_STRINGS"), (0, u "Z"), (0, .fieldref 10 23), (0, .nameAndType 24 25), (0, u "coder"), (0, u "B"), (6, .methodref 1 33), (0, .nameAndType 34 35), (0, u "length"), (0, u "()I"), (0, .class_ 37), (0, u "java/lang/Integer"), (1, .integer 2147483647), (0, .methodref 1 41), (0, .nameAndType 24 42), (0, u "()B"), (2, u "append"), (0, u "(Ljava/lang/String;)Ljava/lang/AbstractStringBuilder;"), (1, .class_ 49), (0, u "java/lang/CharSequence"), (19, u "(Ljava/lang/String;)V"), (5, u "maybeLatin1"), (3, .fieldref 10 80), (0, .nameAndType 81 82), (0, u "count"), (0, u "I"), (0, .methodref 10 84), (0, .nameAndType 85 86), (0, u "isLatin1"), (0, u "()Z"), (13, .methodref 10 101), (0, .nameAndType 102 103), (0, u "ensureCapacityInternal"), (0, u "(I)V"), (0, .methodref 10 105), (0, .nameAndType 106 107), (0, u "newCapacity"), (0, u "(I)I"), (0, .methodref 109 110), (0, .class_ 111), (0, .nameAndType 112 113), (0, u "java/util/Arrays"), (0, u "copyOf"), (0, u "([BI)[B"), (0, .methodref 115 116), (0, .class_ 117), (0, .nameAndType 118 119), (0, u "jdk/internal/util/ArraysSupport"), (0, u "newLength"), (0, u "(III)I"), (68, u "getChars"), (19, .methodref 10 209), (0, .nameAndType 210 211), (0, u "putStringAt"), (0, u "(ILjava/lang/String;)V"), (5, u "inflateIfNeededFor"), (2, .nameAndType 221 222), (0, u "getBytes"), (0, u "([BIB)V"), (22, .methodref 36 246), (0, .nameAndType 247 107), (0, u "stringSize"), (0, .methodref 36 249), (0, .nameAndType 188 250), (0, u "(II[B)I"), (146, .methodref 10 398), (0, .nameAndType 217 69), (0, .methodref 1 220), (3, u "()[B"), (40, .class_ 445), (0, u "java/lang/Appendable"), (65, u "(I)Ljava/lang/AbstractStringBuilder;"), (40, u "getValue")] 56

def k13m0 : Method := { name := "<init>", desc := "()V", sig := { parameters := [], returnType := none }, accessFlags := 0, code := none }
def k13c1 : Code := { maxStack := 2, maxLocals := 2, code := jdk_68_method_2_code, exceptionTable := #[], attributes := #[] }
def k13m1 : Method := { name := "<init>", desc := "(I)V", sig := { parameters := [.int], returnType := none }, accessFlags := 0, code := some k13c1 }
def k13c2 : Code := { maxStack := 1, maxLocals := 1, code := jdk_68_method_6_code, exceptionTable := #[], attributes := #[] }
def k13m2 : Method := { name := "length", desc := "()I", sig := { parameters := [], returnType := some .int }, accessFlags := 1, code := some k13c2 }
def k13c3 : Code := { maxStack := 4, maxLocals := 3, code := jdk_68_method_9_code, exceptionTable := #[], attributes := #[] }
def k13m3 : Method := { name := "ensureCapacityInternal", desc := "(I)V", sig := { parameters := [.int], returnType := none }, accessFlags := 2, code := some k13c3 }
def k13c4 : Code := { maxStack := 5, maxLocals := 6, code := jdk_68_method_10_code, exceptionTable := #[], attributes := #[] }
def k13m4 : Method := { name := "newCapacity", desc := "(I)I", sig := { parameters := [.int], returnType := some .int }, accessFlags := 2, code := some k13c4 }
def k13c5 : Code := { maxStack := 3, maxLocals := 3, code := jdk_68_method_22_code, exceptionTable := #[], attributes := #[] }
def k13m5 : Method := { name := "append", desc := "(Ljava/lang/String;)Ljava/lang/AbstractStringBuilder;", sig := { parameters := [(.object "java/lang/String")], returnType := some (.object "java/lang/AbstractStringBuilder") }, accessFlags := 1, code := some k13c5 }
def k13c6 : Code := { maxStack := 4, maxLocals := 4, code := jdk_68_method_32_code, exceptionTable := #[], attributes := #[] }
def k13m6 : Method := { name := "append", desc := "(I)Ljava/lang/AbstractStringBuilder;", sig := { parameters := [.int], returnType := some (.object "java/lang/AbstractStringBuilder") }, accessFlags := 1, code := some k13c6 }
def k13c7 : Code := { maxStack := 1, maxLocals := 1, code := jdk_68_method_64_code, exceptionTable := #[], attributes := #[] }
def k13m7 : Method := { name := "getValue", desc := "()[B", sig := { parameters := [], returnType := some (.array .byte) }, accessFlags := 16, code := some k13c7 }
def k13c8 : Code := { maxStack := 1, maxLocals := 1, code := jdk_68_method_68_code, exceptionTable := #[], attributes := #[] }
def k13m8 : Method := { name := "isLatin1", desc := "()Z", sig := { parameters := [], returnType := some .boolean }, accessFlags := 16, code := some k13c8 }
def k13c9 : Code := { maxStack := 2, maxLocals := 2, code := jdk_68_method_71_code, exceptionTable := #[], attributes := #[] }
def k13m9 : Method := { name := "inflateIfNeededFor", desc := "(Ljava/lang/String;)V", sig := { parameters := [(.object "java/lang/String")], returnType := none }, accessFlags := 2, code := some k13c9 }
def k13c10 : Code := { maxStack := 4, maxLocals := 3, code := jdk_68_method_73_code, exceptionTable := #[], attributes := #[] }
def k13m10 : Method := { name := "putStringAt", desc := "(ILjava/lang/String;)V", sig := { parameters := [.int, (.object "java/lang/String")], returnType := none }, accessFlags := 2, code := some k13c10 }
/-- java/lang/AbstractStringBuilder -/
def k13 : Class := { plain "java/lang/AbstractStringBuilder" (some 0) with
  accessFlags := 1056
  interfaces := #[12, 4]
  cf := some (fileOf pool13 10 #[] #[{ accessFlags := 0, nameIndex := 7, descriptorIndex := 8, attributes := #[] }, { accessFlags := 0, nameIndex := 7, descriptorIndex := 103, attributes := #[] }, { accessFlags := 1, nameIndex := 34, descriptorIndex := 35, attributes := #[] }, { accessFlags := 2, nameIndex := 102, descriptorIndex := 103, attributes := #[] }, { accessFlags := 2, nameIndex := 106, descriptorIndex := 107, attributes := #[] }, { accessFlags := 1, nameIndex := 45, descriptorIndex := 46, attributes := #[] }, { accessFlags := 1, nameIndex := 45, descriptorIndex := 511, attributes := #[] }, { accessFlags := 16, nameIndex := 552, descriptorIndex := 403, attributes := #[] }, { accessFlags := 16, nameIndex := 85, descriptorIndex := 86, attributes := #[] }, { accessFlags := 2, nameIndex := 217, descriptorIndex := 69, attributes := #[] }, { accessFlags := 2, nameIndex := 210, descriptorIndex := 211, attributes := #[] }] 1056 4 #[444, 48] #[{ accessFlags := 0, nameIndex := 17, descriptorIndex := 14, attributes := #[] }, { accessFlags := 0, nameIndex := 24, descriptorIndex := 25, attributes := #[] }, { accessFlags := 0, nameIndex := 75, descriptorIndex := 21, attributes := #[] }, { accessFlags := 0, nameIndex := 81, descriptorIndex := 82, attributes := #[] }, { accessFlags := 26, nameIndex := 13, descriptorIndex := 14, attributes := #[] }])
  fields := #[{ name := "value", type := (.array .byte), accessFlags := 0, slot := 0, constantValue := 0 }, { name := "coder", type := .byte, accessFlags := 0, slot := 1, constantValue := 0 }, { name := "maybeLatin1", type := .boolean, accessFlags := 0, slot := 2, constantValue := 0 }, { name := "count", type := .int, accessFlags := 0, slot := 3, constantValue := 0 }, { name := "EMPTYVALUE", type := (.array .byte), accessFlags := 26, slot := 0, constantValue := 0 }]
  methods := #[k13m0, k13m1, k13m2, k13m3, k13m4, k13m5, k13m6, k13m7, k13m8, k13m9, k13m10]
  instanceTypes := #[(.array .byte), .byte, .boolean, .int]
  staticTypes := #[(.array .byte)]
  resolved := Array.replicate 609 none
  statics := none }

def pool14 : Array CpInfo := pool [(1, .methodref 2 3), (0, .class_ 4), (0, .nameAndType 5 6), (0, u "java/lang/AbstractStringBuilder"), (0, u "<init>"), (0, u "(I)V"), (11, .class_ 20), (1, u "java/lang/String"), (3, .class_ 26), (1, u "java/lang/StringBuilder"), (0, u "append"), (0, u "(Ljava/lang/String;)Ljava/lang/StringBuilder;"), (0, .methodref 2 30), (0, .nameAndType 27 31), (0, u "(Ljava/lang/String;)Ljava/lang/AbstractStringBuilder;"), (21, .methodref 2 54), (0, .nameAndType 27 55), (0, u "(I)Ljava/lang/AbstractStringBuilder;"), (81, .methodref 18 138), (0, .nameAndType 5 139), (0, u "(Ljava/lang/StringBuilder;)V"), (5, u "()V"), (10, u "()I"), (111, u "(I)Ljava/lang/StringBuilder;"), (74, .methodref 2 344), (0, .nameAndType 345 156), (0, u "length"), (3, .class_ 350), (0, u "java/lang/Appendable"), (0, .class_ 352), (0, u "java/io/Serializable"), (0, .class_ 354), (0, u "java/lang/Comparable"), (0, .class_ 356), (0, u "java/lang/CharSequence"), (0, u "serialVersionUID"), (0, u "J"), (40, u "toString"), (0, u "()Ljava/lang/String;")] 21

def k14c0 : Code := { maxStack := 2, maxLocals := 1, code := jdk_67_method_1_code, exceptionTable := #[], attributes := #[] }
def k14m0 : Method := { name := "<init>", desc := "()V", sig := { parameters := [], returnType := none }, accessFlags := 1, code := some k14c0 }
def k14c1 : Code := { maxStack := 2, maxLocals := 2, code := jdk_67_method_7_code, exceptionTable := #[], attributes := #[] }
def k14m1 : Method := { name := "append", desc := "(Ljava/lang/String;)Ljava/lang/StringBuilder;", sig := { parameters := [(.object "java/lang/String")], returnType := some (.object "java/lang/StringBuilder") }, accessFlags := 1, code := some k14c1 }
def k14c2 : Code := { maxStack := 2, maxLocals := 2, code := jdk_67_method_15_code, exceptionTable := #[], attributes := #[] }
def k14m2 : Method := { name := "append", desc := "(I)Ljava/lang/StringBuilder;", sig := { parameters := [.int], returnType := some (.object "java/lang/StringBuilder") }, accessFlags := 1, code := some k14c2 }
def k14c3 : Code := { maxStack := 3, maxLocals := 1, code := jdk_67_method_42_code, exceptionTable := #[], attributes := #[] }
def k14m3 : Method := { name := "toString", desc := "()Ljava/lang/String;", sig := { parameters := [], returnType := some (.object "java/lang/String") }, accessFlags := 1, code := some k14c3 }
def k14c4 : Code := { maxStack := 1, maxLocals := 1, code := jdk_67_method_93_code, exceptionTable := #[], attributes := #[] }
def k14m4 : Method := { name := "length", desc := "()I", sig := { parameters := [], returnType := some .int }, accessFlags := 4161, code := some k14c4 }
/-- java/lang/StringBuilder -/
def k14 : Class := { plain "java/lang/StringBuilder" (some 13) with
  accessFlags := 49
  interfaces := #[12, 2, 3, 4]
  cf := some (fileOf pool14 24 #[] #[{ accessFlags := 1, nameIndex := 5, descriptorIndex := 145, attributes := #[] }, { accessFlags := 1, nameIndex := 27, descriptorIndex := 28, attributes := #[] }, { accessFlags := 1, nameIndex := 27, descriptorIndex := 268, attributes := #[] }, { accessFlags := 1, nameIndex := 399, descriptorIndex := 400, attributes := #[] }, { accessFlags := 4161, nameIndex := 345, descriptorIndex := 156, attributes := #[] }] 49 2 #[349, 351, 353, 355] #[{ accessFlags := 24, nameIndex := 357, descriptorIndex := 358, attributes := #[] }])
  fields := #[{ name := "serialVersionUID", type := .long, accessFlags := 24, slot := 0, constantValue := 0 }]
  methods := #[k14m0, k14m1, k14m2, k14m3, k14m4]
  instanceTypes := #[(.array .byte), .byte, .boolean, .int]
  staticTypes := #[.long]
  resolved := Array.replicate 422 none
  statics := none }

def pool15 : Array CpInfo := pool [(2, .class_ 4), (1, u "java/lang/Object"), (0, u "<init>"), (0, u "()V"), (1, .class_ 10), (1, u "java/lang/System"), (0, u "allowSecurityManager"), (0, u "I"), (16, u "cons"), (0, u "Ljava/io/Console;"), (77, .class_ 110), (1, u "java/lang/System$CallersHolder"), (43, u "initialErrStream"), (0, u "Ljava/io/PrintStream;"), (19, u "security"), (0, u "Ljava/lang/SecurityManager;"), (31, .class_ 209), (0, u "java/lang/System$1"), (7, u "props"), (0, u "Ljava/util/Properties;"), (2, u "lineSeparator"), (0, u "Ljava/lang/String;"), (96, .class_ 321), (1, u "java/lang/System$LoggerFinder"), (5, .class_ 328), (0, u "java/lang/System$Logger"), (67, u "err"), (2, u "out"), (91, u "notSupportedJnuEncoding"), (15, u "in"), (17, u "initialIn"), (0, u "Ljava/io/InputStream;"), (35, u "bootLayer"), (0, u "Ljava/lang/ModuleLayer;"), (99, .class_ 664), (0, u "java/lang/System$2"), (9, u "NEVER"), (2, u "MAYBE"), (49, u "arraycopy"), (0, u "(Ljava/lang/Object;ILjava/lang/Object;II)V"), (72, .class_ 802), (0, u "java/lang/System$Logger$Level")] 31

def k15m0 : Method := { name := "<init>", desc := "()V", sig := { parameters := [], returnType := none }, accessFlags := 2, code := none }
def k15m1 : Method := { name := "arraycopy", desc := "(Ljava/lang/Object;ILjava/lang/Object;II)V", sig := { parameters := [(.object "java/lang/Object"), .int, (.object "java/lang/Object"), .int, .int], returnType := none }, accessFlags := 265, code := none }
/-- java/lang/System -/
def k15 : Class := { plain "java/lang/System" (some 0) with
  accessFlags := 49
  interfaces := #[]
  cf := some (fileOf pool15 8 #[.nestMembers #[319, 327, 801, 108, 663, 208]] #[{ accessFlags := 2, nameIndex := 5, descriptorIndex := 6, attributes := #[] }, { accessFlags := 265, nameIndex := 727, descriptorIndex := 728, attributes := #[] }] 49 2 #[] #[{ accessFlags := 25, nameIndex := 507, descriptorIndex := 526, attributes := #[] }, { accessFlags := 25, nameIndex := 399, descriptorIndex := 155, attributes := #[] }, { accessFlags := 25, nameIndex := 396, descriptorIndex := 155, attributes := #[] }, { accessFlags := 10, nameIndex := 525, descriptorIndex := 526, attributes := #[] }, { accessFlags := 26, nameIndex := 674, descriptorIndex := 12, attributes := #[] }, { accessFlags := 26, nameIndex := 677, descriptorIndex := 12, attributes := #[] }, { accessFlags := 10, nameIndex := 11, descriptorIndex := 12, attributes := #[] }, { accessFlags := 74, nameIndex := 175, descriptorIndex := 176, attributes := #[] }, { accessFlags := 10, nameIndex := 491, descriptorIndex := 222, attributes := #[] }, { accessFlags := 74, nameIndex := 29, descriptorIndex := 30, attributes := #[] }, { accessFlags := 74, nameIndex := 154, descriptorIndex := 155, attributes := #[] }, { accessFlags := 10, nameIndex := 217, descriptorIndex := 218, attributes := #[] }, { accessFlags := 10, nameIndex := 221, descriptorIndex := 222, attributes := #[] }, { accessFlags := 8, nameIndex := 562, descriptorIndex := 563, attributes := #[] }])
  fields := #[{ name := "in", type := (.object "java/io/InputStream"), accessFlags := 25, slot := 0, constantValue := 0 }, { name := "out", type := (.object "java/io/PrintStream"), accessFlags := 25, slot := 1, constantValue := 0 }, { name := "err", type := (.object "java/io/PrintStream"), accessFlags := 25, slot := 2, constantValue := 0 }, { name := "initialIn", type := (.object "java/io/InputStream"), accessFlags := 10, slot := 3, constantValue := 0 }, { name := "NEVER", type := .int, accessFlags := 26, slot := 4, constantValue := 0 }, { name := "MAYBE", type := .int, accessFlags := 26, slot := 5, constantValue := 0 }, { name := "allowSecurityManager", type := .int, accessFlags := 10, slot := 6, constantValue := 0 }, { name := "security", type := (.object "java/lang/SecurityManager"), accessFlags := 74, slot := 7, constantValue := 0 }, { name := "notSupportedJnuEncoding", type := (.object "java/lang/String"), accessFlags := 10, slot := 8, constantValue := 0 }, { name := "cons", type := (.object "java/io/Console"), accessFlags := 74, slot := 9, constantValue := 0 }, { name := "initialErrStream", type := (.object "java/io/PrintStream"), accessFlags := 74, slot := 10, constantValue := 0 }, { name := "props", type := (.object "java/util/Properties"), accessFlags := 10, slot := 11, constantValue := 0 }, { name := "lineSeparator", type := (.object "java/lang/String"), accessFlags := 10, slot := 12, constantValue := 0 }, { name := "bootLayer", type := (.object "java/lang/ModuleLayer"), accessFlags := 8, slot := 13, constantValue := 0 }]
  methods := #[k15m0, k15m1]
  instanceTypes := #[]
  staticTypes := #[(.object "java/io/InputStream"), (.object "java/io/PrintStream"), (.object "java/io/PrintStream"), (.object "java/io/InputStream"), .int, .int, .int, (.object "java/lang/SecurityManager"), (.object "java/lang/String"), (.object "java/io/Console"), (.object "java/io/PrintStream"), (.object "java/util/Properties"), (.object "java/lang/String"), (.object "java/lang/ModuleLayer")]
  resolved := Array.replicate 834 none
  statics := none }

def pool16 : Array CpInfo := pool [(9, u "<init>"), (6, .class_ 18), (1, u "java/lang/Object"), (0, u "()V"), (1, .class_ 23), (1, u "jdk/internal/util/ArraysSupport"), (0, u "LOG2_ARRAY_LONG_INDEX_SCALE"), (0, u "I"), (2, u "U"), (0, u "Ljdk/internal/misc/Unsafe;"), (8, u "BIG_ENDIAN"), (0, u "Z"), (8, u "LOG2_BYTE_BIT_SIZE"), (4, u "LOG2_ARRAY_INT_INDEX_SCALE"), (54, u "JLA"), (0, u "Ljdk/internal/access/JavaLangAccess;"), (11, u "LOG2_ARRAY_BOOLEAN_INDEX_SCALE"), (9, u "LOG2_ARRAY_BYTE_INDEX_SCALE"), (5, u "LOG2_ARRAY_CHAR_INDEX_SCALE"), (5, u "LOG2_ARRAY_SHORT_INDEX_SCALE"), (18, u "LOG2_ARRAY_FLOAT_INDEX_SCALE"), (24, u "LOG2_ARRAY_DOUBLE_INDEX_SCALE"), (6, .methodref 195 196), (0, .class_ 197), (0, .nameAndType 198 199), (0, u "java/lang/Math"), (0, u "max"), (0, u "(II)I"), (0, .integer 2147483639), (76, u "T_BOOLEAN"), (2, u "T_CHAR"), (1, u "T_FLOAT"), (1, u "T_DOUBLE"), (1, u "T_BYTE"), (1, u "T_SHORT"), (1, u "T_INT"), (1, u "T_LONG"), (1, u "SOFT_MAX_ARRAY_LENGTH"), (56, u "newLength"), (0, u "(III)I")] 25

def k16m0 : Method := { name := "<init>", desc := "()V", sig := { parameters := [], returnType := none }, accessFlags := 2, code := none }
def k16c1 : Code := { maxStack := 3, maxLocals := 4, code := jdk_48_method_27_code, exceptionTable := #[], attributes := #[] }
def k16m1 : Method := { name := "newLength", desc := "(III)I", sig := { parameters := [.int, .int, .int], returnType := some .int }, accessFlags := 9, code := some k16c1 }
/-- jdk/internal/util/ArraysSupport -/
def k16 : Class := { plain "jdk/internal/util/ArraysSupport" (some 0) with
  accessFlags := 33
  interfaces := #[]
  cf := some (fileOf pool16 21 #[] #[{ accessFlags := 2, nameIndex := 9, descriptorIndex := 19, attributes := #[] }, { accessFlags := 9, nameIndex := 351, descriptorIndex := 352, attributes := #[] }] 33 16 #[] #[{ accessFlags := 24, nameIndex := 28, descriptorIndex := 29, attributes := #[] }, { accessFlags := 26, nameIndex := 38, descriptorIndex := 39, attributes := #[] }, { accessFlags := 25, nameIndex := 121, descriptorIndex := 25, attributes := #[] }, { accessFlags := 25, nameIndex := 131, descriptorIndex := 25, attributes := #[] }, { accessFlags := 25, nameIndex := 137, descriptorIndex := 25, attributes := #[] }, { accessFlags := 25, nameIndex := 143, descriptorIndex := 25, attributes := #[] }, { accessFlags := 25, nameIndex := 53, descriptorIndex := 25, attributes := #[] }, { accessFlags := 25, nameIndex := 24, descriptorIndex := 25, attributes := #[] }, { accessFlags := 25, nameIndex := 162, descriptorIndex := 25, attributes := #[] }, { accessFlags := 25, nameIndex := 187, descriptorIndex := 25, attributes := #[] }, { accessFlags := 26, nameIndex := 48, descriptorIndex := 25, attributes := #[] }, { accessFlags := 25, nameIndex := 277, descriptorIndex := 25, attributes := #[] }, { accessFlags := 25, nameIndex := 280, descriptorIndex := 25, attributes := #[] }, { accessFlags := 25, nameIndex := 282, descriptorIndex := 25, attributes := #[] }, { accessFlags := 25, nameIndex := 284, descriptorIndex := 25, attributes := #[] }, { accessFlags := 25, nameIndex := 286, descriptorIndex := 25, attributes := #[] }, { accessFlags := 25, nameIndex := 288, descriptorIndex := 25, attributes := #[] }, { accessFlags := 25, nameIndex := 290, descriptorIndex := 25, attributes := #[] }, { accessFlags := 25, nameIndex := 292, descriptorIndex := 25, attributes := #[] }, { accessFlags := 26, nameIndex := 108, descriptorIndex := 109, attributes := #[] }, { accessFlags := 25, nameIndex := 294, descriptorIndex := 25, attributes := #[] }])
  fields := #[{ name := "U", type := (.object "jdk/internal/misc/Unsafe"), accessFlags := 24, slot := 0, constantValue := 0 }, { name := "BIG_ENDIAN", type := .boolean, accessFlags := 26, slot := 1, constantValue := 0 }, { name := "LOG2_ARRAY_BOOLEAN_INDEX_SCALE", type := .int, accessFlags := 25, slot := 2, constantValue := 0 }, { name := "LOG2_ARRAY_BYTE_INDEX_SCALE", type := .int, accessFlags := 25, slot := 3, constantValue := 0 }, { name := "LOG2_ARRAY_CHAR_INDEX_SCALE", type := .int, accessFlags := 25, slot := 4, constantValue := 0 }, { name := "LOG2_ARRAY_SHORT_INDEX_SCALE", type := .int, accessFlags := 25, slot := 5, constantValue := 0 }, { name := "LOG2_ARRAY_INT_INDEX_SCALE", type := .int, accessFlags := 25, slot := 6, constantValue := 0 }, { name := "LOG2_ARRAY_LONG_INDEX_SCALE", type := .int, accessFlags := 25, slot := 7, constantValue := 0 }, { name := "LOG2_ARRAY_FLOAT_INDEX_SCALE", type := .int, accessFlags := 25, slot := 8, constantValue := 0 }, { name := "LOG2_ARRAY_DOUBLE_INDEX_SCALE", type := .int, accessFlags := 25, slot := 9, constantValue := 0 }, { name := "LOG2_BYTE_BIT_SIZE", type := .int, accessFlags := 26, slot := 10, constantValue := 0 }, { name := "T_BOOLEAN", type := .int, accessFlags := 25, slot := 11, constantValue := 0 }, { name := "T_CHAR", type := .int, accessFlags := 25, slot := 12, constantValue := 0 }, { name := "T_FLOAT", type := .int, accessFlags := 25, slot := 13, constantValue := 0 }, { name := "T_DOUBLE", type := .int, accessFlags := 25, slot := 14, constantValue := 0 }, { name := "T_BYTE", type := .int, accessFlags := 25, slot := 15, constantValue := 0 }, { name := "T_SHORT", type := .int, accessFlags := 25, slot := 16, constantValue := 0 }, { name := "T_INT", type := .int, accessFlags := 25, slot := 17, constantValue := 0 }, { name := "T_LONG", type := .int, accessFlags := 25, slot := 18, constantValue := 0 }, { name := "JLA", type := (.object "jdk/internal/access/JavaLangAccess"), accessFlags := 26, slot := 19, constantValue := 0 }, { name := "SOFT_MAX_ARRAY_LENGTH", type := .int, accessFlags := 25, slot := 20, constantValue := 0 }]
  methods := #[k16m0, k16m1]
  instanceTypes := #[]
  staticTypes := #[(.object "jdk/internal/misc/Unsafe"), .boolean, .int, .int, .int, .int, .int, .int, .int, .int, .int, .int, .int, .int, .int, .int, .int, .int, .int, (.object "jdk/internal/access/JavaLangAccess"), .int]
  resolved := Array.replicate 378 none
  statics := none }

def pool17 : Array CpInfo := pool [(1, .class_ 2), (0, u "java/lang/Math"), (1, .class_ 6), (1, u "java/lang/Object"), (0, u "<init>"), (0, u "()V"), (89, .class_ 100), (1, u "java/lang/Math$RandomNumberGeneratorHolder"), (71, u "negativeZeroFloatBits"), (0, u "J"), (2, u "negativeZeroDoubleBits"), (21, u "max"), (2, u "min"), (43, u "$assertionsDisabled"), (0, u "Z"), (88, u "(II)I"), (2, u "twoToTheDoubleScaleDown"), (0, u "D"), (4, u "twoToTheDoubleScaleUp"), (9, u "E"), (3, u "PI"), (2, u "TAU"), (2, u "DEGREES_TO_RADIANS"), (0, u "RADIANS_TO_DEGREES")] 94

def k17m0 : Method := { name := "<init>", desc := "()V", sig := { parameters := [], returnType := none }, accessFlags := 2, code := none }
def k17c1 : Code := { maxStack := 2, maxLocals := 2, code := jdk_29_method_65_code, exceptionTable := #[], attributes := #[] }
def k17m1 : Method := { name := "max", desc := "(II)I", sig := { parameters := [.int, .int], returnType := some .int }, accessFlags := 9, code := some k17c1 }
def k17c2 : Code := { maxStack := 2, maxLocals := 2, code := jdk_29_method_69_code, exceptionTable := #[], attributes := #[] }
def k17m2 : Method := { name := "min", desc := "(II)I", sig := { parameters := [.int, .int], returnType := some .int }, accessFlags := 9, code := some k17c2 }
/-- java/lang/Math -/
def k17 : Class := { plain "java/lang/Math" (some 0) with
  accessFlags := 49
  interfaces := #[]
  cf := some (fileOf pool17 1 #[.nestMembers #[98]] #[{ accessFlags := 2, nameIndex := 7, descriptorIndex := 8, attributes := #[] }, { accessFlags := 9, nameIndex := 198, descriptorIndex := 335, attributes := #[] }, { accessFlags := 9, nameIndex := 201, descriptorIndex := 335, attributes := #[] }] 49 4 #[] #[{ accessFlags := 25, nameIndex := 354, descriptorIndex := 339, attributes := #[] }, { accessFlags := 25, nameIndex := 358, descriptorIndex := 339, attributes := #[] }, { accessFlags := 25, nameIndex := 361, descriptorIndex := 339, attributes := #[] }, { accessFlags := 26, nameIndex := 364, descriptorIndex := 339, attributes := #[] }, { accessFlags := 26, nameIndex := 365, descriptorIndex := 339, attributes := #[] }, { accessFlags := 26, nameIndex := 172, descriptorIndex := 173, attributes := #[] }, { accessFlags := 26, nameIndex := 176, descriptorIndex := 173, attributes := #[] }, { accessFlags := 8, nameIndex := 344, descriptorIndex := 339, attributes := #[] }, { accessFlags := 8, nameIndex := 338, descriptorIndex := 339, attributes := #[] }, { accessFlags := 4120, nameIndex := 245, descriptorIndex := 246, attributes := #[] }])
  fields := #[{ name := "E", type := .double, accessFlags := 25, slot := 0, constantValue := 0 }, { name := "PI", type := .double, accessFlags := 25, slot := 1, constantValue := 0 }, { name := "TAU", type := .double, accessFlags := 25, slot := 2, constantValue := 0 }, { name := "DEGREES_TO_RADIANS", type := .double, accessFlags := 26, slot := 3, constantValue := 0 }, { name := "RADIANS_TO_DEGREES", type := .double, accessFlags := 26, slot := 4, constantValue := 0 }, { name := "negativeZeroFloatBits", type := .long, accessFlags := 26, slot := 5, constantValue := 0 }, { name := "negativeZeroDoubleBits", type := .long, accessFlags := 26, slot := 6, constantValue := 0 }, { name := "twoToTheDoubleScaleUp", type := .double, accessFlags := 8, slot := 7, constantValue := 0 }, { name := "twoToTheDoubleScaleDown", type := .double, accessFlags := 8, slot := 8, constantValue := 0 }, { name := "$assertionsDisabled", type := .boolean, accessFlags := 4120, slot := 9, constantValue := 0 }]
  methods := #[k17m0, k17m1, k17m2]
  instanceTypes := #[]
  staticTypes := #[.double, .double, .double, .double, .double, .long, .long, .double, .double, .boolean]
  resolved := Array.replicate 460 none
  statics := none }

def pool18 : Array CpInfo := pool [(2, .class_ 4), (1, u "java/lang/Object"), (0, u "<init>"), (0, u "()V"), (7, .class_ 16), (1, u "java/util/Arrays"), (57, .class_ 76), (1, u "java/util/Arrays$NaturalOrder"), (36, .class_ 115), (1, u "java/util/Arrays$LegacyMergeSort"), (1, u "Z"), (21, u "copyOfRange"), (10, .methodref 151 152), (0, .class_ 153), (0, .nameAndType 154 155), (0, u "java/lang/System"), (0, u "arraycopy"), (0, u "(Ljava/lang/Object;ILjava/lang/Object;II)V"), (146, u "copyOf"), (1, .methodref 305 306), (0, .class_ 307), (0, .nameAndType 308 309), (0, u "java/lang/Math"), (0, u "min"), (0, u "(II)I"), (29, .methodref 14 340), (0, .nameAndType 341 342), (0, u "copyOfRangeByte"), (0, u "([BII)[B"), (0, .methodref 14 344), (0, .nameAndType 345 346), (0, u "checkLength"), (0, u "(II)V"), (28, .class_ 376), (0, u "java/util/Arrays$ArrayList"), (68, u "$assertionsDisabled"), (269, u "MIN_ARRAY_SORT_GRAN"), (0, u "I"), (2, u "INSERTIONSORT_THRESHOLD"), (149, u "([BI)[B"), (105, .class_ 976), (0, u "java/util/Arrays$ArrayItr")] 52

def k18m0 : Method := { name := "<init>", desc := "()V", sig := { parameters := [], returnType := none }, accessFlags := 2, code := none }
def k18c1 : Code := { maxStack := 6, maxLocals := 3, code := jdk_65_method_121_code, exceptionTable := #[], attributes := #[] }
def k18m1 : Method := { name := "copyOf", desc := "([BI)[B", sig := { parameters := [(.array .byte), .int], returnType := some (.array .byte) }, accessFlags := 9, code := some k18c1 }
def k18c2 : Code := { maxStack := 4, maxLocals := 2, code := jdk_65_method_131_code, exceptionTable := #[], attributes := #[] }
def k18m2 : Method := { name := "checkLength", desc := "(II)V", sig := { parameters := [.int, .int], returnType := none }, accessFlags := 10, code := some k18c2 }
def k18c3 : Code := { maxStack := 3, maxLocals := 3, code := jdk_65_method_132_code, exceptionTable := #[], attributes := #[] }
def k18m3 : Method := { name := "copyOfRange", desc := "([BII)[B", sig := { parameters := [(.array .byte), .int, .int], returnType := some (.array .byte) }, accessFlags := 9, code := some k18c3 }
def k18c4 : Code := { maxStack := 6, maxLocals := 5, code := jdk_65_method_133_code, exceptionTable := #[], attributes := #[] }
def k18m4 : Method := { name := "copyOfRangeByte", desc := "([BII)[B", sig := { parameters := [(.array .byte), .int, .int], returnType := some (.array .byte) }, accessFlags := 10, code := some k18c4 }
/-- java/util/Arrays -/
def k18 : Class := { plain "java/util/Arrays" (some 0) with
  accessFlags := 49
  interfaces := #[]
  cf := some (fileOf pool18 14 #[.nestMembers #[975, 375, 113, 74]] #[{ accessFlags := 2, nameIndex := 5, descriptorIndex := 6, attributes := #[] }, { accessFlags := 9, nameIndex := 302, descriptorIndex := 869, attributes := #[] }, { accessFlags := 10, nameIndex := 345, descriptorIndex := 346, attributes := #[] }, { accessFlags := 9, nameIndex := 139, descriptorIndex := 342, attributes := #[] }, { accessFlags := 10, nameIndex := 341, descriptorIndex := 342, attributes := #[] }] 49 2 #[] #[{ accessFlags := 26, nameIndex := 715, descriptorIndex := 716, attributes := #[] }, { accessFlags := 26, nameIndex := 719, descriptorIndex := 716, attributes := #[] }, { accessFlags := 4120, nameIndex := 445, descriptorIndex := 117, attributes := #[] }])
  fields := #[{ name := "MIN_ARRAY_SORT_GRAN", type := .int, accessFlags := 26, slot := 0, constantValue := 0 }, { name := "INSERTIONSORT_THRESHOLD", type := .int, accessFlags := 26, slot := 1, constantValue := 0 }, { name := "$assertionsDisabled", type := .boolean, accessFlags := 4120, slot := 2, constantValue := 0 }]
  methods := #[k18m0, k18m1, k18m2, k18m3, k18m4]
  instanceTypes := #[]
  staticTypes := #[.int, .int, .boolean]
  resolved := Array.replicate 1029 none
  statics := none }

def pool19 : Array CpInfo := pool [(2, .class_ 4), (1, u "java/lang/Object"), (0, u "<init>"), (0, u "()V"), (1, .class_ 10), (1, u "java/lang/Number"), (2, .class_ 14), (0, u "java/io/Serializable"), (0, u "serialVersionUID"), (0, u "J")] 20

def k19m0 : Method := { name := "<init>", desc := "()V", sig := { parameters := [], returnType := none }, accessFlags := 1, code := none }
/-- java/lang/Number -/
def k19 : Class := { plain "java/lang/Number" (some 0) with
  accessFlags := 1057
  interfaces := #[2]
  cf := some (fileOf pool19 8 #[] #[{ accessFlags := 1, nameIndex := 5, descriptorIndex := 6, attributes := #[] }] 1057 2 #[13] #[{ accessFlags := 26, nameIndex := 15, descriptorIndex := 16, attributes := #[] }])
  fields := #[{ name := "serialVersionUID", type := .long, accessFlags := 26, slot := 0, constantValue := 0 }]
  methods := #[k19m0]
  instanceTypes := #[]
  staticTypes := #[.long]
  resolved := Array.replicate 37 none
  statics := none }

def pool20 : Array CpInfo := pool [(1, .class_ 2), (0, u "java/lang/Integer"), (16, u "digits"), (0, u "[C"), (33, u "(I)I"), (19, u "stringSize"), (2, u "getChars"), (0, u "(II[B)I"), (4, .fieldref 1 84), (0, .nameAndType 85 86), (0, u "DigitOnes"), (0, u "[B"), (0, .fieldref 1 88), (0, .nameAndType 89 86), (0, u "DigitTens"), (99, .class_ 190), (0, u "java/lang/Integer$IntegerCache"), (3, u "I"), (8, .class_ 204), (0, u "java/lang/Number"), (2, u "value"), (94, u "TYPE"), (0, u "Ljava/lang/Class;"), (0, .class_ 305), (0, u "java/lang/Comparable"), (0, .class_ 307), (0, u "java/lang/constant/Constable"), (0, .class_ 309), (0, u "java/lang/constant/ConstantDesc"), (0, u "MIN_VALUE"), (1, u "MAX_VALUE"), (3, u "SIZE"), (1, u "BYTES"), (1, u "serialVersionUID"), (0, u "J")] 131

def k20c0 : Code := { maxStack := 4, maxLocals := 7, code := jdk_33_method_12_code, exceptionTable := #[], attributes := #[] }
def k20m0 : Method := { name := "getChars", desc := "(II[B)I", sig := { parameters := [.int, .int, (.array .byte)], returnType := some .int }, accessFlags := 8, code := some k20c0 }
def k20c1 : Code := { maxStack := 2, maxLocals := 4, code := jdk_33_method_13_code, exceptionTable := #[], attributes := #[] }
def k20m1 : Method := { name := "stringSize", desc := "(I)I", sig := { parameters := [.int], returnType := some .int }, accessFlags := 8, code := some k20c1 }
/-- java/lang/Integer -/
def k20 : Class := { plain "java/lang/Integer" (some 19) with
  accessFlags := 49
  interfaces := #[3, 5, 6]
  cf := some (fileOf pool20 1 #[.nestMembers #[189]] #[{ accessFlags := 8, nameIndex := 77, descriptorIndex := 78, attributes := #[] }, { accessFlags := 8, nameIndex := 74, descriptorIndex := 54, attributes := #[] }] 49 203 #[304, 306, 308] #[{ accessFlags := 25, nameIndex := 310, descriptorIndex := 194, attributes := #[] }, { accessFlags := 25, nameIndex := 312, descriptorIndex := 194, attributes := #[] }, { accessFlags := 25, nameIndex := 302, descriptorIndex := 303, attributes := #[] }, { accessFlags := 24, nameIndex := 19, descriptorIndex := 20, attributes := #[] }, { accessFlags := 24, nameIndex := 89, descriptorIndex := 86, attributes := #[] }, { accessFlags := 24, nameIndex := 85, descriptorIndex := 86, attributes := #[] }, { accessFlags := 18, nameIndex := 207, descriptorIndex := 194, attributes := #[] }, { accessFlags := 25, nameIndex := 316, descriptorIndex := 194, attributes := #[] }, { accessFlags := 25, nameIndex := 318, descriptorIndex := 194, attributes := #[] }, { accessFlags := 26, nameIndex := 320, descriptorIndex := 321, attributes := #[] }])
  fields := #[{ name := "MIN_VALUE", type := .int, accessFlags := 25, slot := 0, constantValue := 0 }, { name := "MAX_VALUE", type := .int, accessFlags := 25, slot := 1, constantValue := 0 }, { name := "TYPE", type := (.object "java/lang/Class"), accessFlags := 25, slot := 2, constantValue := 0 }, { name := "digits", type := (.array .char), accessFlags := 24, slot := 3, constantValue := 0 }, { name := "DigitTens", type := (.array .byte), accessFlags := 24, slot := 4, constantValue := 0 }, { name := "DigitOnes", type := (.array .byte), accessFlags := 24, slot := 5, constantValue := 0 }, { name := "value", type := .int, accessFlags := 18, slot := 0, constantValue := 0 }, { name := "SIZE", type := .int, accessFlags := 25, slot := 6, constantValue := 0 }, { name := "BYTES", type := .int, accessFlags := 25, slot := 7, constantValue := 0 }, { name := "serialVersionUID", type := .long, accessFlags := 26, slot := 8, constantValue := 0 }]
  methods := #[k20m0, k20m1]
  instanceTypes := #[.int]
  staticTypes := #[.int, .int, (.object "java/lang/Class"), (.array .char), (.array .byte), (.array .byte), .int, .int, .long]
  resolved := Array.replicate 453 none
  statics := some 1 }

def pool21 : Array CpInfo := pool [(1, .class_ 2), (0, u "java/lang/String"), (1, .class_ 6), (1, u "java/lang/Object"), (0, u "<init>"), (0, u "()V"), (0, .methodref 1 10), (0, .nameAndType 11 12), (0, u "checkIndex"), (0, u "(II)V"), (1, .class_ 16), (1, u "java/lang/StringLatin1"), (36, u "([BI)C"), (67, u "$assertionsDisabled"), (0, u "Z"), (98, .class_ 223), (1, u "java/lang/StringLatin1$LinesSpliterator"), (28, u "charAt"), (137, .class_ 391), (0, u "java/lang/StringLatin1$CharsSpliterator")] 3

def k21m0 : Method := { name := "<init>", desc := "()V", sig := { parameters := [], returnType := none }, accessFlags := 0, code := none }
def k21c1 : Code := { maxStack := 2, maxLocals := 2, code := jdk_43_method_2_code, exceptionTable := #[], attributes := #[] }
def k21m1 : Method := { name := "charAt", desc := "([BI)C", sig := { parameters := [(.array .byte), .int], returnType := some .char }, accessFlags := 9, code := some k21c1 }
/-- java/lang/StringLatin1 -/
def k21 : Class := { plain "java/lang/StringLatin1" (some 0) with
  accessFlags := 48
  interfaces := #[]
  cf := some (fileOf pool21 14 #[.nestMembers #[390, 221]] #[{ accessFlags := 0, nameIndex := 7, descriptorIndex := 8, attributes := #[] }, { accessFlags := 9, nameIndex := 252, descriptorIndex := 53, attributes := #[] }] 48 4 #[] #[{ accessFlags := 4120, nameIndex := 121, descriptorIndex := 122, attributes := #[] }])
  fields := #[{ name := "$assertionsDisabled", type := .boolean, accessFlags := 4120, slot := 0, constantValue := 0 }]
  methods := #[k21m0, k21m1]
  instanceTypes := #[]
  staticTypes := #[.boolean]
  resolved := Array.replicate 395 none
  statics := none }

def pool22 : Array CpInfo := pool [(2, .class_ 4), (1, u "java/lang/Object"), (0, u "<init>"), (0, u "()V"), (17, .class_ 26), (1, u "jdk/internal/util/Preconditions"), (6, u "checkIndex"), (21, .class_ 56), (0, u "jdk/internal/util/Preconditions$4"), (57, .class_ 115), (0, u "jdk/internal/util/Preconditions$1"), (7, u "SIOOBE_FORMATTER"), (0, u "Ljava/util/function/BiFunction;"), (0, .class_ 126), (0, u "jdk/internal/util/Preconditions$2"), (3, u "AIOOBE_FORMATTER"), (0, .class_ 132), (0, u "jdk/internal/util/Preconditions$3"), (3, u "IOOBE_FORMATTER"), (41, u "(IILjava/util/function/BiFunction;)I")] 15

def k22m0 : Method := { name := "<init>", desc := "()V", sig := { parameters := [], returnType := none }, accessFlags := 1, code := none }
def k22c1 : Code := { maxStack := 3, maxLocals := 3, code := jdk_41_method_11_code, exceptionTable := #[], attributes := #[] }
def k22m1 : Method := { name := "checkIndex", desc := "(IILjava/util/function/BiFunction;)I", sig := { parameters := [.int, .int, (.object "java/util/function/BiFunction")], returnType := some .int }, accessFlags := 9, code := some k22c1 }
/-- jdk/internal/util/Preconditions -/
def k22 : Class := { plain "jdk/internal/util/Preconditions" (some 0) with
  accessFlags := 33
  interfaces := #[]
  cf := some (fileOf pool22 24 #[.nestMembers #[55, 131, 125, 114]] #[{ accessFlags := 1, nameIndex := 5, descriptorIndex := 6, attributes := #[] }, { accessFlags := 9, nameIndex := 33, descriptorIndex := 178, attributes := #[] }] 33 2 #[] #[{ accessFlags := 25, nameIndex := 123, descriptorIndex := 124, attributes := #[] }, { accessFlags := 25, nameIndex := 130, descriptorIndex := 124, attributes := #[] }, { accessFlags := 25, nameIndex := 136, descriptorIndex := 124, attributes := #[] }])
  fields := #[{ name := "SIOOBE_FORMATTER", type := (.object "java/util/function/BiFunction"), accessFlags := 25, slot := 0, constantValue := 0 }, { name := "AIOOBE_FORMATTER", type := (.object "java/util/function/BiFunction"), accessFlags := 25, slot := 1, constantValue := 0 }, { name := "IOOBE_FORMATTER", type := (.object "java/util/function/BiFunction"), accessFlags := 25, slot := 2, constantValue := 0 }]
  methods := #[k22m0, k22m1]
  instanceTypes := #[]
  staticTypes := #[(.object "java/util/function/BiFunction"), (.object "java/util/function/BiFunction"), (.object "java/util/function/BiFunction")]
  resolved := Array.replicate 194 none
  statics := some 2 }

def pool23 : Array CpInfo := pool [(2, .class_ 4), (1, u "java/lang/Object"), (0, u "<init>"), (0, u "()V"), (0, .methodref 8 9), (0, .class_ 10), (0, .nameAndType 11 12), (0, u "java/lang/String"), (0, u "length"), (0, u "()I"), (13, .methodref 8 27), (0, .nameAndType 28 29), (0, u "charAt"), (0, u "(I)C"), (1, .class_ 33), (1, u "java/lang/Character"), (5, u "(C)Z"), (1, .class_ 43), (1, u "com/example/transaction_locking/transactionlocking/value/Quoting"), (0, u "isUnpairedSurrogate"), (0, u "(Ljava/lang/String;I)Z"), (23, .methodref 31 70), (0, .nameAndType 71 39), (0, u "isHighSurrogate"), (0, .methodref 31 73), (0, .nameAndType 74 39), (0, u "isLowSurrogate")] 7

def k23m0 : Method := { name := "<init>", desc := "()V", sig := { parameters := [], returnType := none }, accessFlags := 2, code := none }
def k23c1 : Code := { maxStack := 3, maxLocals := 3, code := prog_37_method_3_code, exceptionTable := #[], attributes := #[] }
def k23m1 : Method := { name := "isUnpairedSurrogate", desc := "(Ljava/lang/String;I)Z", sig := { parameters := [(.object "java/lang/String"), .int], returnType := some .boolean }, accessFlags := 8, code := some k23c1 }
/-- com/example/transaction_locking/transactionlocking/value/Quoting -/
def k23 : Class := { plain "com/example/transaction_locking/transactionlocking/value/Quoting" (some 0) with
  accessFlags := 32
  interfaces := #[]
  cf := some (fileOf pool23 41 #[] #[{ accessFlags := 2, nameIndex := 5, descriptorIndex := 6, attributes := #[] }, { accessFlags := 8, nameIndex := 44, descriptorIndex := 45, attributes := #[] }] 32 2 #[] #[])
  fields := #[]
  methods := #[k23m0, k23m1]
  instanceTypes := #[]
  staticTypes := #[]
  resolved := Array.replicate 82 none
  statics := none }

def pool24 : Array CpInfo := pool [(1, .class_ 2), (0, u "java/lang/Character"), (18, u "value"), (0, u "C"), (19, .class_ 44), (1, u "java/lang/Object"), (3, .class_ 50), (1, u "java/lang/Character$CharacterCache"), (24, .integer 55296), (0, .integer 56320), (3, u "isHighSurrogate"), (0, u "(C)Z"), (2, u "isLowSurrogate"), (199, u "$assertionsDisabled"), (0, u "Z"), (21, .class_ 309), (1, u "java/lang/Character$UnicodeBlock"), (73, u "TYPE"), (0, u "Ljava/lang/Class;"), (0, .class_ 386), (0, u "java/io/Serializable"), (0, .class_ 388), (0, u "java/lang/Comparable"), (0, .class_ 390), (0, u "java/lang/constant/Constable"), (0, u "MIN_RADIX"), (0, u "I"), (2, u "MAX_RADIX"), (1, u "MIN_VALUE"), (1, u "MAX_VALUE"), (3, u "UNASSIGNED"), (0, u "B"), (0, u "UPPERCASE_LETTER"), (1, u "LOWERCASE_LETTER"), (0, u "TITLECASE_LETTER"), (1, u "MODIFIER_LETTER"), (1, u "OTHER_LETTER"), (1, u "NON_SPACING_MARK"), (1, u "ENCLOSING_MARK"), (1, u "COMBINING_SPACING_MARK"), (1, u "DECIMAL_DIGIT_NUMBER"), (1, u "LETTER_NUMBER"), (1, u "OTHER_NUMBER"), (1, u "SPACE_SEPARATOR"), (1, u "LINE_SEPARATOR"), (1, u "PARAGRAPH_SEPARATOR"), (1, u "CONTROL"), (1, u "FORMAT"), (1, u "PRIVATE_USE"), (1, u "SURROGATE"), (1, u "DASH_PUNCTUATION"), (1, u "START_PUNCTUATION"), (1, u "END_PUNCTUATION"), (1, u "CONNECTOR_PUNCTUATION"), (1, u "OTHER_PUNCTUATION"), (1, u "MATH_SYMBOL"), (1, u "CURRENCY_SYMBOL"), (1, u "MODIFIER_SYMBOL"), (1, u "OTHER_SYMBOL"), (1, u "INITIAL_QUOTE_PUNCTUATION"), (1, u "FINAL_QUOTE_PUNCTUATION"), (1, u "ERROR"), (1, u "DIRECTIONALITY_UNDEFINED"), (0, u "DIRECTIONALITY_LEFT_TO_RIGHT"), (0, u "DIRECTIONALITY_RIGHT_TO_LEFT"), (0, u "DIRECTIONALITY_RIGHT_TO_LEFT_ARABIC"), (0, u "DIRECTIONALITY_EUROPEAN_NUMBER"), (0, u "DIRECTIONALITY_EUROPEAN_NUMBER_SEPARATOR"), (0, u "DIRECTIONALITY_EUROPEAN_NUMBER_TERMINATOR"), (0, u "DIRECTIONALITY_ARABIC_NUMBER"), (0, u "DIRECTIONALITY_COMMON_NUMBER_SEPARATOR"), (0, u "DIRECTIONALITY_NONSPACING_MARK"), (0, u "DIRECTIONALITY_BOUNDARY_NEUTRAL"), (0, u "DIRECTIONALITY_PARAGRAPH_SEPARATOR"), (0, u "DIRECTIONALITY_SEGMENT_SEPARATOR"), (0, u "DIRECTIONALITY_WHITESPACE"), (0, u "DIRECTIONALITY_OTHER_NEUTRALS"), (0, u "DIRECTIONALITY_LEFT_TO_RIGHT_EMBEDDING"), (0, u "DIRECTIONALITY_LEFT_TO_RIGHT_OVERRIDE"), (0, u "DIRECTIONALITY_RIGHT_TO_LEFT_EMBEDDING"), (0, u "DIRECTIONALITY_RIGHT_TO_LEFT_OVERRIDE"), (1, u "DIRECTIONALITY_POP_DIRECTIONAL_FORMAT"), (0, u "DIRECTIONALITY_LEFT_TO_RIGHT_ISOLATE"), (0, u "DIRECTIONALITY_RIGHT_TO_LEFT_ISOLATE"), (0, u "DIRECTIONALITY_FIRST_STRONG_ISOLATE"), (0, u "DIRECTIONALITY_POP_DIRECTIONAL_ISOLATE"), (0, u "MIN_HIGH_SURROGATE"), (0, u "MAX_HIGH_SURROGATE"), (1, u "MIN_LOW_SURROGATE"), (0, u "MAX_LOW_SURROGATE"), (1, u "MIN_SURROGATE"), (0, u "MAX_SURROGATE"), (0, u "MIN_SUPPLEMENTARY_CODE_POINT"), (0, u "MIN_CODE_POINT"), (0, u "MAX_CODE_POINT"), (1, u "serialVersionUID"), (0, u "J"), (2, u "SIZE"), (0, u "BYTES"), (88, .class_ 596), (0, u "java/lang/Character$UnicodeScript"), (0, .class_ 598), (0, u "java/lang/Character$Subset")] 5

def k24c0 : Code := { maxStack := 2, maxLocals := 1, code := jdk_89_method_14_code, exceptionTable := #[], attributes := #[] }
def k24m0 : Method := { name := "isHighSurrogate", desc := "(C)Z", sig := { parameters := [.char], returnType := some .boolean }, accessFlags := 9, code := some k24c0 }
def k24c1 : Code := { maxStack := 2, maxLocals := 1, code := jdk_89_method_15_code, exceptionTable := #[], attributes := #[] }
def k24m1 : Method := { name := "isLowSurrogate", desc := "(C)Z", sig := { parameters := [.char], returnType := some .boolean }, accessFlags := 9, code := some k24c1 }
/-- java/lang/Character -/
def k24 : Class := { plain "java/lang/Character" (some 0) with
  accessFlags := 49
  interfaces := #[2, 3, 5]
  cf := some (fileOf pool24 1 #[.nestMembers #[48, 595, 307, 597]] #[{ accessFlags := 9, nameIndex := 80, descriptorIndex := 81, attributes := #[] }, { accessFlags := 9, nameIndex := 84, descriptorIndex := 81, attributes := #[] }] 49 42 #[385, 387, 389] #[{ accessFlags := 25, nameIndex := 391, descriptorIndex := 392, attributes := #[] }, { accessFlags := 25, nameIndex := 395, descriptorIndex := 392, attributes := #[] }, { accessFlags := 25, nameIndex := 397, descriptorIndex := 22, attributes := #[] }, { accessFlags := 25, nameIndex := 399, descriptorIndex := 22, attributes := #[] }, { accessFlags := 25, nameIndex := 383, descriptorIndex := 384, attributes := #[] }, { accessFlags := 25, nameIndex := 403, descriptorIndex := 404, attributes := #[] }, { accessFlags := 25, nameIndex := 405, descriptorIndex := 404, attributes := #[] }, { accessFlags := 25, nameIndex := 407, descriptorIndex := 404, attributes := #[] }, { accessFlags := 25, nameIndex := 408, descriptorIndex := 404, attributes := #[] }, { accessFlags := 25, nameIndex := 410, descriptorIndex := 404, attributes := #[] }, { accessFlags := 25, nameIndex := 412, descriptorIndex := 404, attributes := #[] }, { accessFlags := 25, nameIndex := 414, descriptorIndex := 404, attributes := #[] }, { accessFlags := 25, nameIndex := 416, descriptorIndex := 404, attributes := #[] }, { accessFlags := 25, nameIndex := 418, descriptorIndex := 404, attributes := #[] }, { accessFlags := 25, nameIndex := 420, descriptorIndex := 404, attributes := #[] }, { accessFlags := 25, nameIndex := 422, descriptorIndex := 404, attributes := #[] }, { accessFlags := 25, nameIndex := 424, descriptorIndex := 404, attributes := #[] }, { accessFlags := 25, nameIndex := 426, descriptorIndex := 404, attributes := #[] }, { accessFlags := 25, nameIndex := 428, descriptorIndex := 404, attributes := #[] }, { accessFlags := 25, nameIndex := 430, descriptorIndex := 404, attributes := #[] }, { accessFlags := 25, nameIndex := 432, descriptorIndex := 404, attributes := #[] }, { accessFlags := 25, nameIndex := 434, descriptorIndex := 404, attributes := #[] }, { accessFlags := 25, nameIndex := 436, descriptorIndex := 404, attributes := #[] }, { accessFlags := 25, nameIndex := 438, descriptorIndex := 404, attributes := #[] }, { accessFlags := 25, nameIndex := 440, descriptorIndex := 404, attributes := #[] }, { accessFlags := 25, nameIndex := 442, descriptorIndex := 404, attributes := #[] }, { accessFlags := 25, nameIndex := 444, descriptorIndex := 404, attributes := #[] }, { accessFlags := 25, nameIndex := 446, descriptorIndex := 404, attributes := #[] }, { accessFlags := 25, nameIndex := 448, descriptorIndex := 404, attributes := #[] }, { accessFlags := 25, nameIndex := 450, descriptorIndex := 404, attributes := #[] }, { accessFlags := 25, nameIndex := 452, descriptorIndex := 404, attributes := #[] }, { accessFlags := 25, nameIndex := 454, descriptorIndex := 404, attributes := #[] }, { accessFlags := 25, nameIndex := 456, descriptorIndex := 404, attributes := #[] }, { accessFlags := 25, nameIndex := 458, descriptorIndex := 404, attributes := #[] }, { accessFlags := 25, nameIndex := 460, descriptorIndex := 404, attributes := #[] }, { accessFlags := 24, nameIndex := 462, descriptorIndex := 392, attributes := #[] }, { accessFlags := 25, nameIndex := 464, descriptorIndex := 404, attributes := #[] }, { accessFlags := 25, nameIndex := 465, descriptorIndex := 404, attributes := #[] }, { accessFlags := 25, nameIndex := 466, descriptorIndex := 404, attributes := #[] }, { accessFlags := 25, nameIndex := 467, descriptorIndex := 404, attributes := #[] }, { accessFlags := 25, nameIndex := 468, descriptorIndex := 404, attributes := #[] }, { accessFlags := 25, nameIndex := 469, descriptorIndex := 404, attributes := #[] }, { accessFlags := 25, nameIndex := 470, descriptorIndex := 404, attributes := #[] }, { accessFlags := 25, nameIndex := 471, descriptorIndex := 404, attributes := #[] }, { accessFlags := 25, nameIndex := 472, descriptorIndex := 404, attributes := #[] }, { accessFlags := 25, nameIndex := 473, descriptorIndex := 404, attributes := #[] }, { accessFlags := 25, nameIndex := 474, descriptorIndex := 404, attributes := #[] }, { accessFlags := 25, nameIndex := 475, descriptorIndex := 404, attributes := #[] }, { accessFlags := 25, nameIndex := 476, descriptorIndex := 404, attributes := #[] }, { accessFlags := 25, nameIndex := 477, descriptorIndex := 404, attributes := #[] }, { accessFlags := 25, nameIndex := 478, descriptorIndex := 404, attributes := #[] }, { accessFlags := 25, nameIndex := 479, descriptorIndex := 404, attributes := #[] }, { accessFlags := 25, nameIndex := 480, descriptorIndex := 404, attributes := #[] }, { accessFlags := 25, nameIndex := 481, descriptorIndex := 404, attributes := #[] }, { accessFlags := 25, nameIndex := 482, descriptorIndex := 404, attributes := #[] }, { accessFlags := 25, nameIndex := 484, descriptorIndex := 404, attributes := #[] }, { accessFlags := 25, nameIndex := 485, descriptorIndex := 404, attributes := #[] }, { accessFlags := 25, nameIndex := 486, descriptorIndex := 404, attributes := #[] }, { accessFlags := 25, nameIndex := 487, descriptorIndex := 404, attributes := #[] }, { accessFlags := 25, nameIndex := 488, descriptorIndex := 404, attributes := #[] }, { accessFlags := 25, nameIndex := 489, descriptorIndex := 22, attributes := #[] }, { accessFlags := 25, nameIndex := 490, descriptorIndex := 22, attributes := #[] }, { accessFlags := 25, nameIndex := 492, descriptorIndex := 22, attributes := #[] }, { accessFlags := 25, nameIndex := 493, descriptorIndex := 22, attributes := #[] }, { accessFlags := 25, nameIndex := 495, descriptorIndex := 22, attributes := #[] }, { accessFlags := 25, nameIndex := 496, descriptorIndex := 22, attributes := #[] }, { accessFlags := 25, nameIndex := 497, descriptorIndex := 392, attributes := #[] }, { accessFlags := 25, nameIndex := 498, descriptorIndex := 392, attributes := #[] }, { accessFlags := 25, nameIndex := 499, descriptorIndex := 392, attributes := #[] }, { accessFlags := 18, nameIndex := 21, descriptorIndex := 22, attributes := #[] }, { accessFlags := 26, nameIndex := 501, descriptorIndex := 502, attributes := #[] }, { accessFlags := 25, nameIndex := 505, descriptorIndex := 392, attributes := #[] }, { accessFlags := 25, nameIndex := 506, descriptorIndex := 392, attributes := #[] }, { accessFlags := 4120, nameIndex := 284, descriptorIndex := 285, attributes := #[] }])
  fields := #[{ name := "MIN_RADIX", type := .int, accessFlags := 25, slot := 0, constantValue := 0 }, { name := "MAX_RADIX", type := .int, accessFlags := 25, slot := 1, constantValue := 0 }, { name := "MIN_VALUE", type := .char, accessFlags := 25, slot := 2, constantValue := 0 }, { name := "MAX_VALUE", type := .char, accessFlags := 25, slot := 3, constantValue := 0 }, { name := "TYPE", type := (.object "java/lang/Class"), accessFlags := 25, slot := 4, constantValue := 0 }, { name := "UNASSIGNED", type := .byte, accessFlags := 25, slot := 5, constantValue := 0 }, { name := "UPPERCASE_LETTER", type := .byte, accessFlags := 25, slot := 6, constantValue := 0 }, { name := "LOWERCASE_LETTER", type := .byte, accessFlags := 25, slot := 7, constantValue := 0 }, { name := "TITLECASE_LETTER", type := .byte, accessFlags := 25, slot := 8, constantValue := 0 }, { name := "MODIFIER_LETTER", type := .byte, accessFlags := 25, slot := 9, constantValue := 0 }, { name := "OTHER_LETTER", type := .byte, accessFlags := 25, slot := 10, constantValue := 0 }, { name := "NON_SPACING_MARK", type := .byte, accessFlags := 25, slot := 11, constantValue := 0 }, { name := "ENCLOSING_MARK", type := .byte, accessFlags := 25, slot := 12, constantValue := 0 }, { name := "COMBINING_SPACING_MARK", type := .byte, accessFlags := 25, slot := 13, constantValue := 0 }, { name := "DECIMAL_DIGIT_NUMBER", type := .byte, accessFlags := 25, slot := 14, constantValue := 0 }, { name := "LETTER_NUMBER", type := .byte, accessFlags := 25, slot := 15, constantValue := 0 }, { name := "OTHER_NUMBER", type := .byte, accessFlags := 25, slot := 16, constantValue := 0 }, { name := "SPACE_SEPARATOR", type := .byte, accessFlags := 25, slot := 17, constantValue := 0 }, { name := "LINE_SEPARATOR", type := .byte, accessFlags := 25, slot := 18, constantValue := 0 }, { name := "PARAGRAPH_SEPARATOR", type := .byte, accessFlags := 25, slot := 19, constantValue := 0 }, { name := "CONTROL", type := .byte, accessFlags := 25, slot := 20, constantValue := 0 }, { name := "FORMAT", type := .byte, accessFlags := 25, slot := 21, constantValue := 0 }, { name := "PRIVATE_USE", type := .byte, accessFlags := 25, slot := 22, constantValue := 0 }, { name := "SURROGATE", type := .byte, accessFlags := 25, slot := 23, constantValue := 0 }, { name := "DASH_PUNCTUATION", type := .byte, accessFlags := 25, slot := 24, constantValue := 0 }, { name := "START_PUNCTUATION", type := .byte, accessFlags := 25, slot := 25, constantValue := 0 }, { name := "END_PUNCTUATION", type := .byte, accessFlags := 25, slot := 26, constantValue := 0 }, { name := "CONNECTOR_PUNCTUATION", type := .byte, accessFlags := 25, slot := 27, constantValue := 0 }, { name := "OTHER_PUNCTUATION", type := .byte, accessFlags := 25, slot := 28, constantValue := 0 }, { name := "MATH_SYMBOL", type := .byte, accessFlags := 25, slot := 29, constantValue := 0 }, { name := "CURRENCY_SYMBOL", type := .byte, accessFlags := 25, slot := 30, constantValue := 0 }, { name := "MODIFIER_SYMBOL", type := .byte, accessFlags := 25, slot := 31, constantValue := 0 }, { name := "OTHER_SYMBOL", type := .byte, accessFlags := 25, slot := 32, constantValue := 0 }, { name := "INITIAL_QUOTE_PUNCTUATION", type := .byte, accessFlags := 25, slot := 33, constantValue := 0 }, { name := "FINAL_QUOTE_PUNCTUATION", type := .byte, accessFlags := 25, slot := 34, constantValue := 0 }, { name := "ERROR", type := .int, accessFlags := 24, slot := 35, constantValue := 0 }, { name := "DIRECTIONALITY_UNDEFINED", type := .byte, accessFlags := 25, slot := 36, constantValue := 0 }, { name := "DIRECTIONALITY_LEFT_TO_RIGHT", type := .byte, accessFlags := 25, slot := 37, constantValue := 0 }, { name := "DIRECTIONALITY_RIGHT_TO_LEFT", type := .byte, accessFlags := 25, slot := 38, constantValue := 0 }, { name := "DIRECTIONALITY_RIGHT_TO_LEFT_ARABIC", type := .byte, accessFlags := 25, slot := 39, constantValue := 0 }, { name := "DIRECTIONALITY_EUROPEAN_NUMBER", type := .byte, accessFlags := 25, slot := 40, constantValue := 0 }, { name := "DIRECTIONALITY_EUROPEAN_NUMBER_SEPARATOR", type := .byte, accessFlags := 25, slot := 41, constantValue := 0 }, { name := "DIRECTIONALITY_EUROPEAN_NUMBER_TERMINATOR", type := .byte, accessFlags := 25, slot := 42, constantValue := 0 }, { name := "DIRECTIONALITY_ARABIC_NUMBER", type := .byte, accessFlags := 25, slot := 43, constantValue := 0 }, { name := "DIRECTIONALITY_COMMON_NUMBER_SEPARATOR", type := .byte, accessFlags := 25, slot := 44, constantValue := 0 }, { name := "DIRECTIONALITY_NONSPACING_MARK", type := .byte, accessFlags := 25, slot := 45, constantValue := 0 }, { name := "DIRECTIONALITY_BOUNDARY_NEUTRAL", type := .byte, accessFlags := 25, slot := 46, constantValue := 0 }, { name := "DIRECTIONALITY_PARAGRAPH_SEPARATOR", type := .byte, accessFlags := 25, slot := 47, constantValue := 0 }, { name := "DIRECTIONALITY_SEGMENT_SEPARATOR", type := .byte, accessFlags := 25, slot := 48, constantValue := 0 }, { name := "DIRECTIONALITY_WHITESPACE", type := .byte, accessFlags := 25, slot := 49, constantValue := 0 }, { name := "DIRECTIONALITY_OTHER_NEUTRALS", type := .byte, accessFlags := 25, slot := 50, constantValue := 0 }, { name := "DIRECTIONALITY_LEFT_TO_RIGHT_EMBEDDING", type := .byte, accessFlags := 25, slot := 51, constantValue := 0 }, { name := "DIRECTIONALITY_LEFT_TO_RIGHT_OVERRIDE", type := .byte, accessFlags := 25, slot := 52, constantValue := 0 }, { name := "DIRECTIONALITY_RIGHT_TO_LEFT_EMBEDDING", type := .byte, accessFlags := 25, slot := 53, constantValue := 0 }, { name := "DIRECTIONALITY_RIGHT_TO_LEFT_OVERRIDE", type := .byte, accessFlags := 25, slot := 54, constantValue := 0 }, { name := "DIRECTIONALITY_POP_DIRECTIONAL_FORMAT", type := .byte, accessFlags := 25, slot := 55, constantValue := 0 }, { name := "DIRECTIONALITY_LEFT_TO_RIGHT_ISOLATE", type := .byte, accessFlags := 25, slot := 56, constantValue := 0 }, { name := "DIRECTIONALITY_RIGHT_TO_LEFT_ISOLATE", type := .byte, accessFlags := 25, slot := 57, constantValue := 0 }, { name := "DIRECTIONALITY_FIRST_STRONG_ISOLATE", type := .byte, accessFlags := 25, slot := 58, constantValue := 0 }, { name := "DIRECTIONALITY_POP_DIRECTIONAL_ISOLATE", type := .byte, accessFlags := 25, slot := 59, constantValue := 0 }, { name := "MIN_HIGH_SURROGATE", type := .char, accessFlags := 25, slot := 60, constantValue := 0 }, { name := "MAX_HIGH_SURROGATE", type := .char, accessFlags := 25, slot := 61, constantValue := 0 }, { name := "MIN_LOW_SURROGATE", type := .char, accessFlags := 25, slot := 62, constantValue := 0 }, { name := "MAX_LOW_SURROGATE", type := .char, accessFlags := 25, slot := 63, constantValue := 0 }, { name := "MIN_SURROGATE", type := .char, accessFlags := 25, slot := 64, constantValue := 0 }, { name := "MAX_SURROGATE", type := .char, accessFlags := 25, slot := 65, constantValue := 0 }, { name := "MIN_SUPPLEMENTARY_CODE_POINT", type := .int, accessFlags := 25, slot := 66, constantValue := 0 }, { name := "MIN_CODE_POINT", type := .int, accessFlags := 25, slot := 67, constantValue := 0 }, { name := "MAX_CODE_POINT", type := .int, accessFlags := 25, slot := 68, constantValue := 0 }, { name := "value", type := .char, accessFlags := 18, slot := 0, constantValue := 0 }, { name := "serialVersionUID", type := .long, accessFlags := 26, slot := 69, constantValue := 0 }, { name := "SIZE", type := .int, accessFlags := 25, slot := 70, constantValue := 0 }, { name := "BYTES", type := .int, accessFlags := 25, slot := 71, constantValue := 0 }, { name := "$assertionsDisabled", type := .boolean, accessFlags := 4120, slot := 72, constantValue := 0 }]
  methods := #[k24m0, k24m1]
  instanceTypes := #[.char]
  staticTypes := #[.int, .int, .char, .char, (.object "java/lang/Class"), .byte, .byte, .byte, .byte, .byte, .byte, .byte, .byte, .byte, .byte, .byte, .byte, .byte, .byte, .byte, .byte, .byte, .byte, .byte, .byte, .byte, .byte, .byte, .byte, .byte, .byte, .byte, .byte, .byte, .byte, .int, .byte, .byte, .byte, .byte, .byte, .byte, .byte, .byte, .byte, .byte, .byte, .byte, .byte, .byte, .byte, .byte, .byte, .byte, .byte, .byte, .byte, .byte, .byte, .byte, .char, .char, .char, .char, .char, .char, .int, .int, .int, .long, .int, .int, .boolean]
  resolved := Array.replicate 604 none
  statics := none }

def pool25 : Array CpInfo := pool [(2, .class_ 4), (1, u "java/lang/Enum"), (0, u "name"), (0, u "Ljava/lang/String;"), (2, u "ordinal"), (0, u "I"), (1, .class_ 14), (1, u "java/lang/Object"), (4, u "hash"), (86, .class_ 108), (1, u "java/lang/Enum$EnumDesc"), (2, .class_ 112), (0, u "java/lang/constant/Constable"), (0, .class_ 114), (0, u "java/lang/Comparable"), (0, .class_ 116), (0, u "java/io/Serializable")] 87

/-- java/lang/Enum -/
def k25 : Class := { plain "java/lang/Enum" (some 0) with
  accessFlags := 1057
  interfaces := #[5, 3, 2]
  cf := some (fileOf pool25 2 #[.nestMembers #[106]] #[] 1057 12 #[111, 113, 115] #[{ accessFlags := 18, nameIndex := 5, descriptorIndex := 6, attributes := #[] }, { accessFlags := 18, nameIndex := 9, descriptorIndex := 10, attributes := #[] }, { accessFlags := 2, nameIndex := 19, descriptorIndex := 10, attributes := #[] }])
  fields := #[{ name := "name", type := (.object "java/lang/String"), accessFlags := 18, slot := 0, constantValue := 0 }, { name := "ordinal", type := .int, accessFlags := 18, slot := 1, constantValue := 0 }, { name := "hash", type := .int, accessFlags := 2, slot := 2, constantValue := 0 }]
  methods := #[]
  instanceTypes := #[(.object "java/lang/String"), .int, .int]
  staticTypes := #[]
  resolved := Array.replicate 204 none
  statics := none }

def pool26 : Array CpInfo := pool [(1, .class_ 2), (0, u "com/example/transaction_locking/transactionlocking/value/LockMode"), (2, u "SHARED"), (0, u "Lcom/example/transaction_locking/transactionlocking/value/LockMode;"), (2, u "EXCLUSIVE"), (2, u "$VALUES"), (0, u "[Lcom/example/transaction_locking/transactionlocking/value/LockMode;"), (6, .class_ 22), (1, u "java/lang/Enum")] 24

/-- com/example/transaction_locking/transactionlocking/value/LockMode -/
def k26 : Class := { plain "com/example/transaction_locking/transactionlocking/value/LockMode" (some 25) with
  accessFlags := 16433
  interfaces := #[]
  cf := some (fileOf pool26 1 #[] #[] 16433 20 #[] #[{ accessFlags := 16409, nameIndex := 5, descriptorIndex := 6, attributes := #[] }, { accessFlags := 16409, nameIndex := 9, descriptorIndex := 6, attributes := #[] }, { accessFlags := 4122, nameIndex := 12, descriptorIndex := 13, attributes := #[] }])
  fields := #[{ name := "SHARED", type := (.object "com/example/transaction_locking/transactionlocking/value/LockMode"), accessFlags := 16409, slot := 0, constantValue := 0 }, { name := "EXCLUSIVE", type := (.object "com/example/transaction_locking/transactionlocking/value/LockMode"), accessFlags := 16409, slot := 1, constantValue := 0 }, { name := "$VALUES", type := (.array (.object "com/example/transaction_locking/transactionlocking/value/LockMode")), accessFlags := 4122, slot := 2, constantValue := 0 }]
  methods := #[]
  instanceTypes := #[(.object "java/lang/String"), .int, .int]
  staticTypes := #[(.object "com/example/transaction_locking/transactionlocking/value/LockMode"), (.object "com/example/transaction_locking/transactionlocking/value/LockMode"), (.array (.object "com/example/transaction_locking/transactionlocking/value/LockMode"))]
  resolved := Array.replicate 47 none
  statics := some 3 }

def pool27 : Array CpInfo := pool [(2, .class_ 4), (1, u "java/lang/Object"), (6, .class_ 13), (1, u "com/example/transaction_locking/transactionlocking/handle/HeldLocks"), (0, u "granted"), (0, u "Ljava/util/List;"), (8, u "dialect"), (0, u "Lcom/example/transaction_locking/transactionlocking/dialect/Dialect;"), (6, u "connection"), (0, u "Ljava/sql/Connection;"), (2, u "scope"), (0, u "Lcom/example/transaction_locking/transactionlocking/dialect/Dialect$Scope;"), (25, .string 64), (0, u "try lock"), (0, .methodref 66 67), (0, .class_ 68), (0, .nameAndType 69 70), (0, u "com/example/transaction_locking/transactionlocking/handle/WaitTimeout"), (0, u "check"), (0, u "(Ljava/lang/String;Lcom/example/transaction_locking/transactionlocking/value/LockName;J)V"), (61, u "checkRequest"), (0, u "(Lcom/example/transaction_locking/transactionlocking/value/LockName;Lcom/example/transaction_locking/transactionlocking/value/LockMode;J)V")] 16

def k27c0 : Code := { maxStack := 4, maxLocals := 4, code := prog_15_method_2_code, exceptionTable := #[], attributes := #[] }
def k27m0 : Method := { name := "checkRequest", desc := "(Lcom/example/transaction_locking/transactionlocking/value/LockName;Lcom/example/transaction_locking/transactionlocking/value/LockMode;J)V", sig := { parameters := [(.object "com/example/transaction_locking/transactionlocking/value/LockName"), (.object "com/example/transaction_locking/transactionlocking/value/LockMode"), .long], returnType := none }, accessFlags := 8, code := some k27c0 }
/-- com/example/transaction_locking/transactionlocking/handle/HeldLocks -/
def k27 : Class := { plain "com/example/transaction_locking/transactionlocking/handle/HeldLocks" (some 0) with
  accessFlags := 32
  interfaces := #[]
  cf := some (fileOf pool27 11 #[] #[{ accessFlags := 8, nameIndex := 132, descriptorIndex := 133, attributes := #[] }] 32 2 #[] #[{ accessFlags := 18, nameIndex := 32, descriptorIndex := 33, attributes := #[] }, { accessFlags := 18, nameIndex := 24, descriptorIndex := 25, attributes := #[] }, { accessFlags := 18, nameIndex := 36, descriptorIndex := 37, attributes := #[] }, { accessFlags := 18, nameIndex := 14, descriptorIndex := 15, attributes := #[] }])
  fields := #[{ name := "connection", type := (.object "java/sql/Connection"), accessFlags := 18, slot := 0, constantValue := 0 }, { name := "dialect", type := (.object "com/example/transaction_locking/transactionlocking/dialect/Dialect"), accessFlags := 18, slot := 1, constantValue := 0 }, { name := "scope", type := (.object "com/example/transaction_locking/transactionlocking/dialect/Dialect$Scope"), accessFlags := 18, slot := 2, constantValue := 0 }, { name := "granted", type := (.object "java/util/List"), accessFlags := 18, slot := 3, constantValue := 0 }]
  methods := #[k27m0]
  instanceTypes := #[(.object "java/sql/Connection"), (.object "com/example/transaction_locking/transactionlocking/dialect/Dialect"), (.object "com/example/transaction_locking/transactionlocking/dialect/Dialect$Scope"), (.object "java/util/List")]
  staticTypes := #[]
  resolved := Array.replicate 150 none
  statics := none }

def pool28 : Array CpInfo := pool [(4, .class_ 6), (1, u "java/lang/Object"), (0, u "<init>"), (0, u "()V"), (0, .class_ 10), (0, u "com/example/transaction_locking/transactionlocking/handle/WaitTimeout"), (0, .long 2147483647), (33, u "MAX_MILLIS"), (0, u "J"), (3, u "check"), (0, u "(Ljava/lang/String;Lcom/example/transaction_locking/transactionlocking/value/LockName;J)V")] 3

def k28m0 : Method := { name := "<init>", desc := "()V", sig := { parameters := [], returnType := none }, accessFlags := 2, code := none }
def k28c1 : Code := { maxStack := 5, maxLocals := 4, code := prog_29_method_2_code, exceptionTable := #[], attributes := #[] }
def k28m1 : Method := { name := "check", desc := "(Ljava/lang/String;Lcom/example/transaction_locking/transactionlocking/value/LockName;J)V", sig := { parameters := [(.object "java/lang/String"), (.object "com/example/transaction_locking/transactionlocking/value/LockName"), .long], returnType := none }, accessFlags := 8, code := some k28c1 }
/-- com/example/transaction_locking/transactionlocking/handle/WaitTimeout -/
def k28 : Class := { plain "com/example/transaction_locking/transactionlocking/handle/WaitTimeout" (some 0) with
  accessFlags := 32
  interfaces := #[]
  cf := some (fileOf pool28 9 #[] #[{ accessFlags := 2, nameIndex := 7, descriptorIndex := 8, attributes := #[] }, { accessFlags := 8, nameIndex := 50, descriptorIndex := 51, attributes := #[] }] 32 4 #[] #[{ accessFlags := 24, nameIndex := 45, descriptorIndex := 46, attributes := #[] }])
  fields := #[{ name := "MAX_MILLIS", type := .long, accessFlags := 24, slot := 0, constantValue := 0 }]
  methods := #[k28m0, k28m1]
  instanceTypes := #[]
  staticTypes := #[.long]
  resolved := Array.replicate 55 none
  statics := none }

def pool29 : Array CpInfo := pool [(1, u "java/lang/Cloneable"), (0, .class_ 1), (0, u "java/lang/Object"), (0, .class_ 3)] 3

/-- java/lang/Cloneable -/
def k29 : Class := { plain "java/lang/Cloneable" (some 0) with
  accessFlags := 1537
  interfaces := #[]
  cf := some (fileOf pool29 2 #[] #[] 1537 4 #[] #[])
  fields := #[]
  methods := #[]
  instanceTypes := #[]
  staticTypes := #[]
  resolved := Array.replicate 8 none
  statics := none }

/-- the primitive byte -/
def k30 : Class := { plain "byte" none with kind := .primitive 'B', accessFlags := 0x411 }
/-- [B -/
def k31 : Class := { plain "[B" (some 0) with kind := .array 30 .byte, interfaces := #[29, 2], accessFlags := 1041 }

/-- the primitive char -/
def k32 : Class := { plain "char" none with kind := .primitive 'C', accessFlags := 0x411 }
/-- [C -/
def k33 : Class := { plain "[C" (some 0) with kind := .array 32 .char, interfaces := #[29, 2], accessFlags := 1041 }

/-- the primitive int -/
def k34 : Class := { plain "int" none with kind := .primitive 'I', accessFlags := 0x411 }
/-- [I -/
def k35 : Class := { plain "[I" (some 0) with kind := .array 34 .int, interfaces := #[29, 2], accessFlags := 1041 }

def heap : Heap := #[{ cls := 7, slots := #[.long 0, .int 1, .null, .int 0, .null, .int 0, .int 0], vm := .statics 7 },
  { cls := 20, slots := #[.int 0, .int 0, .null, .null, .ref 5, .ref 4, .int 0, .int 0, .long 0], vm := .statics 20 },
  { cls := 22, slots := #[.null, .null, .null], vm := .statics 22 },
  { cls := 26, slots := #[.ref 6, .ref 7, .null], vm := .statics 26 },
  { cls := 31, slots := #[.int 48, .int 49, .int 50, .int 51, .int 52, .int 53, .int 54, .int 55, .int 56, .int 57, .int 48, .int 49, .int 50, .int 51, .int 52, .int 53, .int 54, .int 55, .int 56, .int 57, .int 48, .int 49, .int 50, .int 51, .int 52, .int 53, .int 54, .int 55, .int 56, .int 57, .int 48, .int 49, .int 50, .int 51, .int 52, .int 53, .int 54, .int 55, .int 56, .int 57, .int 48, .int 49, .int 50, .int 51, .int 52, .int 53, .int 54, .int 55, .int 56, .int 57, .int 48, .int 49, .int 50, .int 51, .int 52, .int 53, .int 54, .int 55, .int 56, .int 57, .int 48, .int 49, .int 50, .int 51, .int 52, .int 53, .int 54, .int 55, .int 56, .int 57, .int 48, .int 49, .int 50, .int 51, .int 52, .int 53, .int 54, .int 55, .int 56, .int 57, .int 48, .int 49, .int 50, .int 51, .int 52, .int 53, .int 54, .int 55, .int 56, .int 57, .int 48, .int 49, .int 50, .int 51, .int 52, .int 53, .int 54, .int 55, .int 56, .int 57], vm := .none },
  { cls := 31, slots := #[.int 48, .int 48, .int 48, .int 48, .int 48, .int 48, .int 48, .int 48, .int 48, .int 48, .int 49, .int 49, .int 49, .int 49, .int 49, .int 49, .int 49, .int 49, .int 49, .int 49, .int 50, .int 50, .int 50, .int 50, .int 50, .int 50, .int 50, .int 50, .int 50, .int 50, .int 51, .int 51, .int 51, .int 51, .int 51, .int 51, .int 51, .int 51, .int 51, .int 51, .int 52, .int 52, .int 52, .int 52, .int 52, .int 52, .int 52, .int 52, .int 52, .int 52, .int 53, .int 53, .int 53, .int 53, .int 53, .int 53, .int 53, .int 53, .int 53, .int 53, .int 54, .int 54, .int 54, .int 54, .int 54, .int 54, .int 54, .int 54, .int 54, .int 54, .int 55, .int 55, .int 55, .int 55, .int 55, .int 55, .int 55, .int 55, .int 55, .int 55, .int 56, .int 56, .int 56, .int 56, .int 56, .int 56, .int 56, .int 56, .int 56, .int 56, .int 57, .int 57, .int 57, .int 57, .int 57, .int 57, .int 57, .int 57, .int 57, .int 57], vm := .none },
  { cls := 26, slots := #[.null, .int 0, .int 0], vm := .none },
  { cls := 26, slots := #[.null, .int 1, .int 0], vm := .none }]
def classes : Array Class := #[k0, k1, k2, k3, k4, k5, k6, k7, k8, k9, k10, k11, k12, k13, k14, k15, k16, k17, k18, k19, k20, k21, k22, k23, k24, k25, k26, k27, k28, k29, k30, k31, k32, k33, k34, k35]
def interned : List (Array UInt16 × Addr) := []
def slotsUsed : Nat := 228
def theMethod : MethodId := ⟨1, 2⟩
def args0 : Array Value := #[.int 65, .int 66, .int 67, .int 5, .long 5]
def aboutOver (below : List Frame) : State where
  vm := { classes := classes, interned := interned.toArray }
  heap := heap
  slotsUsed := slotsUsed
  threads := #[{ frames := .invoking theMethod args0 :: below }]
def below0 : List Frame := [.native { method := ⟨0, 0⟩, args := #[] }]
def about1 : State := aboutOver below0
def p0 : Program := .bare "" "" ""
def e0 : Env := launch0.env 0 0 0
theorem w_frames : about1.frames = Frame.invoking theMethod args0 :: below0 := rfl
set_option maxRecDepth 65536 in
theorem w_args : argsFit about1.vm theMethod args0 = true := by decide +kernel
set_option maxRecDepth 65536 in
theorem w_heap : heapFits about1 = true := by decide +kernel
set_option maxRecDepth 65536 in
theorem w_runnable : about1.curStatus? = some .runnable := by decide +kernel
set_option maxRecDepth 65536 in
theorem w_alone : about1.alone = true := by decide +kernel
set_option maxRecDepth 65536 in
theorem w_named : about1.methodNamed? x = some theMethod := by decide +kernel
set_option maxRecDepth 65536 in
theorem w_hears : about1.hears theMethod below0 = true := by decide +kernel
set_option maxRecDepth 65536 in
theorem w_ripe : about1.ripe theMethod args0 below0 = true := by decide +kernel
theorem w_running : about1.status = .running := rfl
set_option maxRecDepth 65536 in
theorem w_room : about1.hasRoom e0.platform room_1 = true :=
  launch0.hasRoom_least _ room_1 (by decide +kernel) (by decide +kernel) (by decide +kernel) (by decide +kernel) (by decide +kernel) (by decide +kernel)
theorem allAtoms_all (ts : List Jvm.Cond) (a : Array Jvm.Value) (st : Jvm.State) : (allAtoms ts).before a st = ts.all (fun c => c.before a st) := by
  induction ts with
  | nil => rfl
  | cons c t ih =>
    show (Jvm.Cond.and c (allAtoms t)).before a st = _
    rw [Jvm.Cond.before_and, ih, List.all_cons]
def words1 : List Jvm.Cond := Jvm.Cond.code x code maxLocals ret :: tables_1
/-- a 'code' word, met by the world's own term for the bytes: nothing is compared byte by byte -/
theorem code_word {y : MethodName} {bytes : ByteArray} {mx : Nat} {rt : Option FieldType} {a : Array Value} {s : State} {m : MethodId} {meth : Method} {c : Code} (h1 : s.methodNamed? y = some m) (h2 : s.vm.method? m = some meth) (h3 : meth.code = some c) (h4 : c.code = bytes)
    (h5 : (c.maxLocals == mx && c.exceptionTable.isEmpty && decide (c.maxStack ≤ mostOperands) && decide (meth.sig.returnType = rt) && !meth.locks && decide (parseMethodDescriptor y.desc = some meth.sig)) = true) : (Jvm.Cond.code y bytes mx rt).before a s = true := by
  simp only [Bool.and_eq_true, beq_iff_eq, Bool.not_eq_true', decide_eq_true_eq] at h5
  obtain ⟨⟨⟨⟨⟨g1, g2⟩, g3⟩, g4⟩, g5⟩, g6⟩ := h5
  simp [Cond.before, Cond.holds, Cond.value, h1, h2, h3, h4, g1, g2, g3, g4, g5, g6]
def isCode : Jvm.Cond → Bool
  | .code _ _ _ _ => true
  | _ => false
theorem all_split {L : List Jvm.Cond} {P : Jvm.Cond → Bool} (h1 : L.all (fun c => isCode c || P c) = true) (h2 : ∀ c ∈ L.filter isCode, P c = true) : L.all P = true := by
  refine List.all_eq_true.mpr fun c hc => ?_
  have h := List.all_eq_true.mp h1 c hc
  rcases Bool.eq_false_or_eq_true (isCode c) with hi | hi
  · exact h2 c (List.mem_filter.mpr ⟨hc, hi⟩)
  · simpa [hi] using h
set_option maxRecDepth 65536 in
theorem w_c0 : (Jvm.Cond.code x code maxLocals ret).before args0 about1 = true := code_word (m := ⟨1, 2⟩) (meth := k1m2) (c := k1c2) (by decide +kernel) rfl rfl rfl (by decide +kernel)
set_option maxRecDepth 65536 in
theorem w_c1 : (Jvm.Cond.code ({ cls := "com/example/transaction_locking/transactionlocking/handle/HeldLocksCheckRequestPinLaw", name := "drawn", desc := "(I)C" } : Jvm.MethodName) method_2_code (1 : Nat) (Option.some Jvm.ClassFile.FieldType.char)).before args0 about1 = true := code_word (m := ⟨1, 1⟩) (meth := k1m1) (c := k1c1) (by decide +kernel) rfl rfl rfl (by decide +kernel)
set_option maxRecDepth 65536 in
theorem w_c2 : (Jvm.Cond.code ({ cls := "java/lang/String", name := "<init>", desc := "([C)V" } : Jvm.MethodName) jdk_42_method_3_code (2 : Nat) (Option.none : Option Jvm.ClassFile.FieldType)).before args0 about1 = true := code_word (m := ⟨7, 1⟩) (meth := k7m1) (c := k7c1) (by decide +kernel) rfl rfl rfl (by decide +kernel)
set_option maxRecDepth 65536 in
theorem w_c3 : (Jvm.Cond.code ({ cls := "java/lang/String", name := "<init>", desc := "([CIILjava/lang/Void;)V" } : Jvm.MethodName) jdk_42_method_149_code (6 : Nat) (Option.none : Option Jvm.ClassFile.FieldType)).before args0 about1 = true := code_word (m := ⟨7, 7⟩) (meth := k7m7) (c := k7c7) (by decide +kernel) rfl rfl rfl (by decide +kernel)
set_option maxRecDepth 65536 in
theorem w_c4 : (Jvm.Cond.code ({ cls := "java/lang/Object", name := "<init>", desc := "()V" } : Jvm.MethodName) object_method_1_code (1 : Nat) (Option.none : Option Jvm.ClassFile.FieldType)).before args0 about1 = true := code_word (m := ⟨0, 0⟩) (meth := k0m0) (c := k0c0) (by decide +kernel) rfl rfl rfl (by decide +kernel)
set_option maxRecDepth 65536 in
theorem w_c5 : (Jvm.Cond.code ({ cls := "java/lang/StringUTF16", name := "compress", desc := "([CII)[B" } : Jvm.MethodName) jdk_52_method_16_code (6 : Nat) (Option.some (Jvm.ClassFile.FieldType.array Jvm.ClassFile.FieldType.byte))).before args0 about1 = true := code_word (m := ⟨8, 2⟩) (meth := k8m2) (c := k8c2) (by decide +kernel) rfl rfl rfl (by decide +kernel)
set_option maxRecDepth 65536 in
theorem w_c6 : (Jvm.Cond.code ({ cls := "java/lang/StringUTF16", name := "compress", desc := "([CI[BII)I" } : Jvm.MethodName) jdk_52_method_21_code (7 : Nat) (Option.some Jvm.ClassFile.FieldType.int)).before args0 about1 = true := code_word (m := ⟨8, 3⟩) (meth := k8m3) (c := k8c3) (by decide +kernel) rfl rfl rfl (by decide +kernel)
set_option maxRecDepth 65536 in
theorem w_c7 : (Jvm.Cond.code ({ cls := "java/lang/StringUTF16", name := "coderFromArrayLen", desc := "([BI)B" } : Jvm.MethodName) jdk_52_method_15_code (2 : Nat) (Option.some Jvm.ClassFile.FieldType.byte)).before args0 about1 = true := code_word (m := ⟨8, 1⟩) (meth := k8m1) (c := k8c1) (by decide +kernel) rfl rfl rfl (by decide +kernel)
set_option maxRecDepth 65536 in
theorem w_c8 : (Jvm.Cond.code ({ cls := "com/example/transaction_locking/transactionlocking/value/LockName", name := "<init>", desc := "(Ljava/lang/String;)V" } : Jvm.MethodName) prog_34_method_1_code (2 : Nat) (Option.none : Option Jvm.ClassFile.FieldType)).before args0 about1 = true := code_word (m := ⟨10, 0⟩) (meth := k10m0) (c := k10c0) (by decide +kernel) rfl rfl rfl (by decide +kernel)
set_option maxRecDepth 65536 in
theorem w_c9 : (Jvm.Cond.code ({ cls := "java/lang/Record", name := "<init>", desc := "()V" } : Jvm.MethodName) jdk_30_method_1_code (1 : Nat) (Option.none : Option Jvm.ClassFile.FieldType)).before args0 about1 = true := code_word (m := ⟨9, 0⟩) (meth := k9m0) (c := k9c0) (by decide +kernel) rfl rfl rfl (by decide +kernel)
set_option maxRecDepth 65536 in
theorem w_c10 : (Jvm.Cond.code ({ cls := "com/example/transaction_locking/transactionlocking/value/ExactString", name := "check", desc := "(Ljava/lang/String;Ljava/lang/String;)V" } : Jvm.MethodName) prog_30_method_2_code (6 : Nat) (Option.none : Option Jvm.ClassFile.FieldType)).before args0 about1 = true := code_word (m := ⟨11, 1⟩) (meth := k11m1) (c := k11c1) (by decide +kernel) rfl rfl rfl (by decide +kernel)
set_option maxRecDepth 65536 in
theorem w_c11 : (Jvm.Cond.code ({ cls := "java/lang/StringBuilder", name := "<init>", desc := "()V" } : Jvm.MethodName) jdk_67_method_1_code (1 : Nat) (Option.none : Option Jvm.ClassFile.FieldType)).before args0 about1 = true := code_word (m := ⟨14, 0⟩) (meth := k14m0) (c := k14c0) (by decide +kernel) rfl rfl rfl (by decide +kernel)
set_option maxRecDepth 65536 in
theorem w_c12 : (Jvm.Cond.code ({ cls := "java/lang/AbstractStringBuilder", name := "<init>", desc := "(I)V" } : Jvm.MethodName) jdk_68_method_2_code (2 : Nat) (Option.none : Option Jvm.ClassFile.FieldType)).before args0 about1 = true := code_word (m := ⟨13, 1⟩) (meth := k13m1) (c := k13c1) (by decide +kernel) rfl rfl rfl (by decide +kernel)
set_option maxRecDepth 65536 in
theorem w_c13 : (Jvm.Cond.code ({ cls := "java/lang/StringBuilder", name := "append", desc := "(Ljava/lang/String;)Ljava/lang/StringBuilder;" } : Jvm.MethodName) jdk_67_method_7_code (2 : Nat) (Option.some (Jvm.ClassFile.FieldType.object "java/lang/StringBuilder"))).before args0 about1 = true := code_word (m := ⟨14, 1⟩) (meth := k14m1) (c := k14c1) (by decide +kernel) rfl rfl rfl (by decide +kernel)
set_option maxRecDepth 65536 in
theorem w_c14 : (Jvm.Cond.code ({ cls := "java/lang/AbstractStringBuilder", name := "append", desc := "(Ljava/lang/String;)Ljava/lang/AbstractStringBuilder;" } : Jvm.MethodName) jdk_68_method_22_code (3 : Nat) (Option.some (Jvm.ClassFile.FieldType.object "java/lang/AbstractStringBuilder"))).before args0 about1 = true := code_word (m := ⟨13, 5⟩) (meth := k13m5) (c := k13c5) (by decide +kernel) rfl rfl rfl (by decide +kernel)
set_option maxRecDepth 65536 in
theorem w_c15 : (Jvm.Cond.code ({ cls := "java/lang/String", name := "length", desc := "()I" } : Jvm.MethodName) jdk_42_method_54_code (1 : Nat) (Option.some Jvm.ClassFile.FieldType.int)).before args0 about1 = true := code_word (m := ⟨7, 3⟩) (meth := k7m3) (c := k7c3) (by decide +kernel) rfl rfl rfl (by decide +kernel)
set_option maxRecDepth 65536 in
theorem w_c16 : (Jvm.Cond.code ({ cls := "java/lang/String", name := "coder", desc := "()B" } : Jvm.MethodName) jdk_42_method_152_code (1 : Nat) (Option.some Jvm.ClassFile.FieldType.byte)).before args0 about1 = true := code_word (m := ⟨7, 9⟩) (meth := k7m9) (c := k7c9) (by decide +kernel) rfl rfl rfl (by decide +kernel)
set_option maxRecDepth 65536 in
theorem w_c17 : (Jvm.Cond.code ({ cls := "java/lang/AbstractStringBuilder", name := "ensureCapacityInternal", desc := "(I)V" } : Jvm.MethodName) jdk_68_method_9_code (3 : Nat) (Option.none : Option Jvm.ClassFile.FieldType)).before args0 about1 = true := code_word (m := ⟨13, 3⟩) (meth := k13m3) (c := k13c3) (by decide +kernel) rfl rfl rfl (by decide +kernel)
set_option maxRecDepth 65536 in
theorem w_c18 : (Jvm.Cond.code ({ cls := "java/lang/AbstractStringBuilder", name := "putStringAt", desc := "(ILjava/lang/String;)V" } : Jvm.MethodName) jdk_68_method_73_code (3 : Nat) (Option.none : Option Jvm.ClassFile.FieldType)).before args0 about1 = true := code_word (m := ⟨13, 10⟩) (meth := k13m10) (c := k13c10) (by decide +kernel) rfl rfl rfl (by decide +kernel)
set_option maxRecDepth 65536 in
theorem w_c19 : (Jvm.Cond.code ({ cls := "java/lang/AbstractStringBuilder", name := "inflateIfNeededFor", desc := "(Ljava/lang/String;)V" } : Jvm.MethodName) jdk_68_method_71_code (2 : Nat) (Option.none : Option Jvm.ClassFile.FieldType)).before args0 about1 = true := code_word (m := ⟨13, 9⟩) (meth := k13m9) (c := k13c9) (by decide +kernel) rfl rfl rfl (by decide +kernel)
set_option maxRecDepth 65536 in
theorem w_c20 : (Jvm.Cond.code ({ cls := "java/lang/String", name := "getBytes", desc := "([BIB)V" } : Jvm.MethodName) jdk_42_method_147_code (4 : Nat) (Option.none : Option Jvm.ClassFile.FieldType)).before args0 about1 = true := code_word (m := ⟨7, 6⟩) (meth := k7m6) (c := k7c6) (by decide +kernel) rfl rfl rfl (by decide +kernel)
set_option maxRecDepth 65536 in
theorem w_c21 : (Jvm.Cond.code ({ cls := "java/lang/AbstractStringBuilder", name := "newCapacity", desc := "(I)I" } : Jvm.MethodName) jdk_68_method_10_code (6 : Nat) (Option.some Jvm.ClassFile.FieldType.int)).before args0 about1 = true := code_word (m := ⟨13, 4⟩) (meth := k13m4) (c := k13c4) (by decide +kernel) rfl rfl rfl (by decide +kernel)
set_option maxRecDepth 65536 in
theorem w_c22 : (Jvm.Cond.code ({ cls := "jdk/internal/util/ArraysSupport", name := "newLength", desc := "(III)I" } : Jvm.MethodName) jdk_48_method_27_code (4 : Nat) (Option.some Jvm.ClassFile.FieldType.int)).before args0 about1 = true := code_word (m := ⟨16, 1⟩) (meth := k16m1) (c := k16c1) (by decide +kernel) rfl rfl rfl (by decide +kernel)
set_option maxRecDepth 65536 in
theorem w_c23 : (Jvm.Cond.code ({ cls := "java/lang/Math", name := "max", desc := "(II)I" } : Jvm.MethodName) jdk_29_method_65_code (2 : Nat) (Option.some Jvm.ClassFile.FieldType.int)).before args0 about1 = true := code_word (m := ⟨17, 1⟩) (meth := k17m1) (c := k17c1) (by decide +kernel) rfl rfl rfl (by decide +kernel)
set_option maxRecDepth 65536 in
theorem w_c24 : (Jvm.Cond.code ({ cls := "java/util/Arrays", name := "copyOf", desc := "([BI)[B" } : Jvm.MethodName) jdk_65_method_121_code (3 : Nat) (Option.some (Jvm.ClassFile.FieldType.array Jvm.ClassFile.FieldType.byte))).before args0 about1 = true := code_word (m := ⟨18, 1⟩) (meth := k18m1) (c := k18c1) (by decide +kernel) rfl rfl rfl (by decide +kernel)
set_option maxRecDepth 65536 in
theorem w_c25 : (Jvm.Cond.code ({ cls := "java/lang/Math", name := "min", desc := "(II)I" } : Jvm.MethodName) jdk_29_method_69_code (2 : Nat) (Option.some Jvm.ClassFile.FieldType.int)).before args0 about1 = true := code_word (m := ⟨17, 2⟩) (meth := k17m2) (c := k17c2) (by decide +kernel) rfl rfl rfl (by decide +kernel)
set_option maxRecDepth 65536 in
theorem w_c26 : (Jvm.Cond.code ({ cls := "java/lang/StringBuilder", name := "append", desc := "(I)Ljava/lang/StringBuilder;" } : Jvm.MethodName) jdk_67_method_15_code (2 : Nat) (Option.some (Jvm.ClassFile.FieldType.object "java/lang/StringBuilder"))).before args0 about1 = true := code_word (m := ⟨14, 2⟩) (meth := k14m2) (c := k14c2) (by decide +kernel) rfl rfl rfl (by decide +kernel)
set_option maxRecDepth 65536 in
theorem w_c27 : (Jvm.Cond.code ({ cls := "java/lang/AbstractStringBuilder", name := "append", desc := "(I)Ljava/lang/AbstractStringBuilder;" } : Jvm.MethodName) jdk_68_method_32_code (4 : Nat) (Option.some (Jvm.ClassFile.FieldType.object "java/lang/AbstractStringBuilder"))).before args0 about1 = true := code_word (m := ⟨13, 6⟩) (meth := k13m6) (c := k13c6) (by decide +kernel) rfl rfl rfl (by decide +kernel)
set_option maxRecDepth 65536 in
theorem w_c28 : (Jvm.Cond.code ({ cls := "java/lang/Integer", name := "stringSize", desc := "(I)I" } : Jvm.MethodName) jdk_33_method_13_code (4 : Nat) (Option.some Jvm.ClassFile.FieldType.int)).before args0 about1 = true := code_word (m := ⟨20, 1⟩) (meth := k20m1) (c := k20c1) (by decide +kernel) rfl rfl rfl (by decide +kernel)
set_option maxRecDepth 65536 in
theorem w_c29 : (Jvm.Cond.code ({ cls := "java/lang/AbstractStringBuilder", name := "isLatin1", desc := "()Z" } : Jvm.MethodName) jdk_68_method_68_code (1 : Nat) (Option.some Jvm.ClassFile.FieldType.boolean)).before args0 about1 = true := code_word (m := ⟨13, 8⟩) (meth := k13m8) (c := k13c8) (by decide +kernel) rfl rfl rfl (by decide +kernel)
set_option maxRecDepth 65536 in
theorem w_c30 : (Jvm.Cond.code ({ cls := "java/lang/Integer", name := "getChars", desc := "(II[B)I" } : Jvm.MethodName) jdk_33_method_12_code (7 : Nat) (Option.some Jvm.ClassFile.FieldType.int)).before args0 about1 = true := code_word (m := ⟨20, 0⟩) (meth := k20m0) (c := k20c0) (by decide +kernel) rfl rfl rfl (by decide +kernel)
set_option maxRecDepth 65536 in
theorem w_c31 : (Jvm.Cond.code ({ cls := "java/lang/StringBuilder", name := "toString", desc := "()Ljava/lang/String;" } : Jvm.MethodName) jdk_67_method_42_code (1 : Nat) (Option.some (Jvm.ClassFile.FieldType.object "java/lang/String"))).before args0 about1 = true := code_word (m := ⟨14, 3⟩) (meth := k14m3) (c := k14c3) (by decide +kernel) rfl rfl rfl (by decide +kernel)
set_option maxRecDepth 65536 in
theorem w_c32 : (Jvm.Cond.code ({ cls := "java/lang/String", name := "<init>", desc := "(Ljava/lang/StringBuilder;)V" } : Jvm.MethodName) jdk_42_method_53_code (2 : Nat) (Option.none : Option Jvm.ClassFile.FieldType)).before args0 about1 = true := code_word (m := ⟨7, 2⟩) (meth := k7m2) (c := k7c2) (by decide +kernel) rfl rfl rfl (by decide +kernel)
set_option maxRecDepth 65536 in
theorem w_c33 : (Jvm.Cond.code ({ cls := "java/lang/String", name := "<init>", desc := "(Ljava/lang/AbstractStringBuilder;Ljava/lang/Void;)V" } : Jvm.MethodName) jdk_42_method_150_code (5 : Nat) (Option.none : Option Jvm.ClassFile.FieldType)).before args0 about1 = true := code_word (m := ⟨7, 8⟩) (meth := k7m8) (c := k7c8) (by decide +kernel) rfl rfl rfl (by decide +kernel)
set_option maxRecDepth 65536 in
theorem w_c34 : (Jvm.Cond.code ({ cls := "java/lang/AbstractStringBuilder", name := "getValue", desc := "()[B" } : Jvm.MethodName) jdk_68_method_64_code (1 : Nat) (Option.some (Jvm.ClassFile.FieldType.array Jvm.ClassFile.FieldType.byte))).before args0 about1 = true := code_word (m := ⟨13, 7⟩) (meth := k13m7) (c := k13c7) (by decide +kernel) rfl rfl rfl (by decide +kernel)
set_option maxRecDepth 65536 in
theorem w_c35 : (Jvm.Cond.code ({ cls := "java/lang/StringBuilder", name := "length", desc := "()I" } : Jvm.MethodName) jdk_67_method_93_code (1 : Nat) (Option.some Jvm.ClassFile.FieldType.int)).before args0 about1 = true := code_word (m := ⟨14, 4⟩) (meth := k14m4) (c := k14c4) (by decide +kernel) rfl rfl rfl (by decide +kernel)
set_option maxRecDepth 65536 in
theorem w_c36 : (Jvm.Cond.code ({ cls := "java/lang/AbstractStringBuilder", name := "length", desc := "()I" } : Jvm.MethodName) jdk_68_method_6_code (1 : Nat) (Option.some Jvm.ClassFile.FieldType.int)).before args0 about1 = true := code_word (m := ⟨13, 2⟩) (meth := k13m2) (c := k13c2) (by decide +kernel) rfl rfl rfl (by decide +kernel)
set_option maxRecDepth 65536 in
theorem w_c37 : (Jvm.Cond.code ({ cls := "java/util/Arrays", name := "copyOfRange", desc := "([BII)[B" } : Jvm.MethodName) jdk_65_method_132_code (3 : Nat) (Option.some (Jvm.ClassFile.FieldType.array Jvm.ClassFile.FieldType.byte))).before args0 about1 = true := code_word (m := ⟨18, 3⟩) (meth := k18m3) (c := k18c3) (by decide +kernel) rfl rfl rfl (by decide +kernel)
set_option maxRecDepth 65536 in
theorem w_c38 : (Jvm.Cond.code ({ cls := "java/util/Arrays", name := "copyOfRangeByte", desc := "([BII)[B" } : Jvm.MethodName) jdk_65_method_133_code (5 : Nat) (Option.some (Jvm.ClassFile.FieldType.array Jvm.ClassFile.FieldType.byte))).before args0 about1 = true := code_word (m := ⟨18, 4⟩) (meth := k18m4) (c := k18c4) (by decide +kernel) rfl rfl rfl (by decide +kernel)
set_option maxRecDepth 65536 in
theorem w_c39 : (Jvm.Cond.code ({ cls := "java/util/Arrays", name := "checkLength", desc := "(II)V" } : Jvm.MethodName) jdk_65_method_131_code (2 : Nat) (Option.none : Option Jvm.ClassFile.FieldType)).before args0 about1 = true := code_word (m := ⟨18, 2⟩) (meth := k18m2) (c := k18c2) (by decide +kernel) rfl rfl rfl (by decide +kernel)
set_option maxRecDepth 65536 in
theorem w_c40 : (Jvm.Cond.code ({ cls := "java/lang/String", name := "isEmpty", desc := "()Z" } : Jvm.MethodName) jdk_42_method_55_code (1 : Nat) (Option.some Jvm.ClassFile.FieldType.boolean)).before args0 about1 = true := code_word (m := ⟨7, 4⟩) (meth := k7m4) (c := k7c4) (by decide +kernel) rfl rfl rfl (by decide +kernel)
set_option maxRecDepth 65536 in
theorem w_c41 : (Jvm.Cond.code ({ cls := "java/lang/String", name := "charAt", desc := "(I)C" } : Jvm.MethodName) jdk_42_method_56_code (2 : Nat) (Option.some Jvm.ClassFile.FieldType.char)).before args0 about1 = true := code_word (m := ⟨7, 5⟩) (meth := k7m5) (c := k7c5) (by decide +kernel) rfl rfl rfl (by decide +kernel)
set_option maxRecDepth 65536 in
theorem w_c42 : (Jvm.Cond.code ({ cls := "java/lang/String", name := "isLatin1", desc := "()Z" } : Jvm.MethodName) jdk_42_method_154_code (1 : Nat) (Option.some Jvm.ClassFile.FieldType.boolean)).before args0 about1 = true := code_word (m := ⟨7, 10⟩) (meth := k7m10) (c := k7c10) (by decide +kernel) rfl rfl rfl (by decide +kernel)
set_option maxRecDepth 65536 in
theorem w_c43 : (Jvm.Cond.code ({ cls := "java/lang/StringLatin1", name := "charAt", desc := "([BI)C" } : Jvm.MethodName) jdk_43_method_2_code (2 : Nat) (Option.some Jvm.ClassFile.FieldType.char)).before args0 about1 = true := code_word (m := ⟨21, 1⟩) (meth := k21m1) (c := k21c1) (by decide +kernel) rfl rfl rfl (by decide +kernel)
set_option maxRecDepth 65536 in
theorem w_c44 : (Jvm.Cond.code ({ cls := "java/lang/String", name := "checkIndex", desc := "(II)V" } : Jvm.MethodName) jdk_42_method_155_code (2 : Nat) (Option.none : Option Jvm.ClassFile.FieldType)).before args0 about1 = true := code_word (m := ⟨7, 11⟩) (meth := k7m11) (c := k7c11) (by decide +kernel) rfl rfl rfl (by decide +kernel)
set_option maxRecDepth 65536 in
theorem w_c45 : (Jvm.Cond.code ({ cls := "jdk/internal/util/Preconditions", name := "checkIndex", desc := "(IILjava/util/function/BiFunction;)I" } : Jvm.MethodName) jdk_41_method_11_code (3 : Nat) (Option.some Jvm.ClassFile.FieldType.int)).before args0 about1 = true := code_word (m := ⟨22, 1⟩) (meth := k22m1) (c := k22c1) (by decide +kernel) rfl rfl rfl (by decide +kernel)
set_option maxRecDepth 65536 in
theorem w_c46 : (Jvm.Cond.code ({ cls := "com/example/transaction_locking/transactionlocking/value/Quoting", name := "isUnpairedSurrogate", desc := "(Ljava/lang/String;I)Z" } : Jvm.MethodName) prog_37_method_3_code (3 : Nat) (Option.some Jvm.ClassFile.FieldType.boolean)).before args0 about1 = true := code_word (m := ⟨23, 1⟩) (meth := k23m1) (c := k23c1) (by decide +kernel) rfl rfl rfl (by decide +kernel)
set_option maxRecDepth 65536 in
theorem w_c47 : (Jvm.Cond.code ({ cls := "java/lang/Character", name := "isHighSurrogate", desc := "(C)Z" } : Jvm.MethodName) jdk_89_method_14_code (1 : Nat) (Option.some Jvm.ClassFile.FieldType.boolean)).before args0 about1 = true := code_word (m := ⟨24, 0⟩) (meth := k24m0) (c := k24c0) (by decide +kernel) rfl rfl rfl (by decide +kernel)
set_option maxRecDepth 65536 in
theorem w_c48 : (Jvm.Cond.code ({ cls := "java/lang/Character", name := "isLowSurrogate", desc := "(C)Z" } : Jvm.MethodName) jdk_89_method_15_code (1 : Nat) (Option.some Jvm.ClassFile.FieldType.boolean)).before args0 about1 = true := code_word (m := ⟨24, 1⟩) (meth := k24m1) (c := k24c1) (by decide +kernel) rfl rfl rfl (by decide +kernel)
set_option maxRecDepth 65536 in
theorem w_c49 : (Jvm.Cond.code ({ cls := "com/example/transaction_locking/transactionlocking/handle/HeldLocks", name := "checkRequest", desc := "(Lcom/example/transaction_locking/transactionlocking/value/LockName;Lcom/example/transaction_locking/transactionlocking/value/LockMode;J)V" } : Jvm.MethodName) prog_15_method_2_code (4 : Nat) (Option.none : Option Jvm.ClassFile.FieldType)).before args0 about1 = true := code_word (m := ⟨27, 0⟩) (meth := k27m0) (c := k27c0) (by decide +kernel) rfl rfl rfl (by decide +kernel)
set_option maxRecDepth 65536 in
theorem w_c50 : (Jvm.Cond.code ({ cls := "com/example/transaction_locking/transactionlocking/handle/WaitTimeout", name := "check", desc := "(Ljava/lang/String;Lcom/example/transaction_locking/transactionlocking/value/LockName;J)V" } : Jvm.MethodName) prog_29_method_2_code (4 : Nat) (Option.none : Option Jvm.ClassFile.FieldType)).before args0 about1 = true := code_word (m := ⟨28, 1⟩) (meth := k28m1) (c := k28c1) (by decide +kernel) rfl rfl rfl (by decide +kernel)
def codes1 : List Jvm.Cond := [Jvm.Cond.code x code maxLocals ret, Jvm.Cond.code ({ cls := "com/example/transaction_locking/transactionlocking/handle/HeldLocksCheckRequestPinLaw", name := "drawn", desc := "(I)C" } : Jvm.MethodName) method_2_code (1 : Nat) (Option.some Jvm.ClassFile.FieldType.char), Jvm.Cond.code ({ cls := "java/lang/String", name := "<init>", desc := "([C)V" } : Jvm.MethodName) jdk_42_method_3_code (2 : Nat) (Option.none : Option Jvm.ClassFile.FieldType), Jvm.Cond.code ({ cls := "java/lang/String", name := "<init>", desc := "([CIILjava/lang/Void;)V" } : Jvm.MethodName) jdk_42_method_149_code (6 : Nat) (Option.none : Option Jvm.ClassFile.FieldType), Jvm.Cond.code ({ cls := "java/lang/Object", name := "<init>", desc := "()V" } : Jvm.MethodName) object_method_1_code (1 : Nat) (Option.none : Option Jvm.ClassFile.FieldType), Jvm.Cond.code ({ cls := "java/lang/StringUTF16", name := "compress", desc := "([CII)[B" } : Jvm.MethodName) jdk_52_method_16_code (6 : Nat) (Option.some (Jvm.ClassFile.FieldType.array Jvm.ClassFile.FieldType.byte)), Jvm.Cond.code ({ cls := "java/lang/StringUTF16", name := "compress", desc := "([CI[BII)I" } : Jvm.MethodName) jdk_52_method_21_code (7 : Nat) (Option.some Jvm.ClassFile.FieldType.int), Jvm.Cond.code ({ cls := "java/lang/StringUTF16", name := "coderFromArrayLen", desc := "([BI)B" } : Jvm.MethodName) jdk_52_method_15_code (2 : Nat) (Option.some Jvm.ClassFile.FieldType.byte), Jvm.Cond.code ({ cls := "com/example/transaction_locking/transactionlocking/value/LockName", name := "<init>", desc := "(Ljava/lang/String;)V" } : Jvm.MethodName) prog_34_method_1_code (2 : Nat) (Option.none : Option Jvm.ClassFile.FieldType), Jvm.Cond.code ({ cls := "java/lang/Record", name := "<init>", desc := "()V" } : Jvm.MethodName) jdk_30_method_1_code (1 : Nat) (Option.none : Option Jvm.ClassFile.FieldType), Jvm.Cond.code ({ cls := "com/example/transaction_locking/transactionlocking/value/ExactString", name := "check", desc := "(Ljava/lang/String;Ljava/lang/String;)V" } : Jvm.MethodName) prog_30_method_2_code (6 : Nat) (Option.none : Option Jvm.ClassFile.FieldType), Jvm.Cond.code ({ cls := "java/lang/StringBuilder", name := "<init>", desc := "()V" } : Jvm.MethodName) jdk_67_method_1_code (1 : Nat) (Option.none : Option Jvm.ClassFile.FieldType), Jvm.Cond.code ({ cls := "java/lang/AbstractStringBuilder", name := "<init>", desc := "(I)V" } : Jvm.MethodName) jdk_68_method_2_code (2 : Nat) (Option.none : Option Jvm.ClassFile.FieldType), Jvm.Cond.code ({ cls := "java/lang/StringBuilder", name := "append", desc := "(Ljava/lang/String;)Ljava/lang/StringBuilder;" } : Jvm.MethodName) jdk_67_method_7_code (2 : Nat) (Option.some (Jvm.ClassFile.FieldType.object "java/lang/StringBuilder")), Jvm.Cond.code ({ cls := "java/lang/AbstractStringBuilder", name := "append", desc := "(Ljava/lang/String;)Ljava/lang/AbstractStringBuilder;" } : Jvm.MethodName) jdk_68_method_22_code (3 : Nat) (Option.some (Jvm.ClassFile.FieldType.object "java/lang/AbstractStringBuilder")), Jvm.Cond.code ({ cls := "java/lang/String", name := "length", desc := "()I" } : Jvm.MethodName) jdk_42_method_54_code (1 : Nat) (Option.some Jvm.ClassFile.FieldType.int), Jvm.Cond.code ({ cls := "java/lang/String", name := "coder", desc := "()B" } : Jvm.MethodName) jdk_42_method_152_code (1 : Nat) (Option.some Jvm.ClassFile.FieldType.byte), Jvm.Cond.code ({ cls := "java/lang/AbstractStringBuilder", name := "ensureCapacityInternal", desc := "(I)V" } : Jvm.MethodName) jdk_68_method_9_code (3 : Nat) (Option.none : Option Jvm.ClassFile.FieldType), Jvm.Cond.code ({ cls := "java/lang/AbstractStringBuilder", name := "putStringAt", desc := "(ILjava/lang/String;)V" } : Jvm.MethodName) jdk_68_method_73_code (3 : Nat) (Option.none : Option Jvm.ClassFile.FieldType), Jvm.Cond.code ({ cls := "java/lang/AbstractStringBuilder", name := "inflateIfNeededFor", desc := "(Ljava/lang/String;)V" } : Jvm.MethodName) jdk_68_method_71_code (2 : Nat) (Option.none : Option Jvm.ClassFile.FieldType), Jvm.Cond.code ({ cls := "java/lang/String", name := "getBytes", desc := "([BIB)V" } : Jvm.MethodName) jdk_42_method_147_code (4 : Nat) (Option.none : Option Jvm.ClassFile.FieldType), Jvm.Cond.code ({ cls := "java/lang/AbstractStringBuilder", name := "newCapacity", desc := "(I)I" } : Jvm.MethodName) jdk_68_method_10_code (6 : Nat) (Option.some Jvm.ClassFile.FieldType.int), Jvm.Cond.code ({ cls := "jdk/internal/util/ArraysSupport", name := "newLength", desc := "(III)I" } : Jvm.MethodName) jdk_48_method_27_code (4 : Nat) (Option.some Jvm.ClassFile.FieldType.int), Jvm.Cond.code ({ cls := "java/lang/Math", name := "max", desc := "(II)I" } : Jvm.MethodName) jdk_29_method_65_code (2 : Nat) (Option.some Jvm.ClassFile.FieldType.int), Jvm.Cond.code ({ cls := "java/util/Arrays", name := "copyOf", desc := "([BI)[B" } : Jvm.MethodName) jdk_65_method_121_code (3 : Nat) (Option.some (Jvm.ClassFile.FieldType.array Jvm.ClassFile.FieldType.byte)), Jvm.Cond.code ({ cls := "java/lang/Math", name := "min", desc := "(II)I" } : Jvm.MethodName) jdk_29_method_69_code (2 : Nat) (Option.some Jvm.ClassFile.FieldType.int), Jvm.Cond.code ({ cls := "java/lang/StringBuilder", name := "append", desc := "(I)Ljava/lang/StringBuilder;" } : Jvm.MethodName) jdk_67_method_15_code (2 : Nat) (Option.some (Jvm.ClassFile.FieldType.object "java/lang/StringBuilder")), Jvm.Cond.code ({ cls := "java/lang/AbstractStringBuilder", name := "append", desc := "(I)Ljava/lang/AbstractStringBuilder;" } : Jvm.MethodName) jdk_68_method_32_code (4 : Nat) (Option.some (Jvm.ClassFile.FieldType.object "java/lang/AbstractStringBuilder")), Jvm.Cond.code ({ cls := "java/lang/Integer", name := "stringSize", desc := "(I)I" } : Jvm.MethodName) jdk_33_method_13_code (4 : Nat) (Option.some Jvm.ClassFile.FieldType.int), Jvm.Cond.code ({ cls := "java/lang/AbstractStringBuilder", name := "isLatin1", desc := "()Z" } : Jvm.MethodName) jdk_68_method_68_code (1 : Nat) (Option.some Jvm.ClassFile.FieldType.boolean), Jvm.Cond.code ({ cls := "java/lang/Integer", name := "getChars", desc := "(II[B)I" } : Jvm.MethodName) jdk_33_method_12_code (7 : Nat) (Option.some Jvm.ClassFile.FieldType.int), Jvm.Cond.code ({ cls := "java/lang/StringBuilder", name := "toString", desc := "()Ljava/lang/String;" } : Jvm.MethodName) jdk_67_method_42_code (1 : Nat) (Option.some (Jvm.ClassFile.FieldType.object "java/lang/String")), Jvm.Cond.code ({ cls := "java/lang/String", name := "<init>", desc := "(Ljava/lang/StringBuilder;)V" } : Jvm.MethodName) jdk_42_method_53_code (2 : Nat) (Option.none : Option Jvm.ClassFile.FieldType), Jvm.Cond.code ({ cls := "java/lang/String", name := "<init>", desc := "(Ljava/lang/AbstractStringBuilder;Ljava/lang/Void;)V" } : Jvm.MethodName) jdk_42_method_150_code (5 : Nat) (Option.none : Option Jvm.ClassFile.FieldType), Jvm.Cond.code ({ cls := "java/lang/AbstractStringBuilder", name := "getValue", desc := "()[B" } : Jvm.MethodName) jdk_68_method_64_code (1 : Nat) (Option.some (Jvm.ClassFile.FieldType.array Jvm.ClassFile.FieldType.byte)), Jvm.Cond.code ({ cls := "java/lang/StringBuilder", name := "length", desc := "()I" } : Jvm.MethodName) jdk_67_method_93_code (1 : Nat) (Option.some Jvm.ClassFile.FieldType.int), Jvm.Cond.code ({ cls := "java/lang/AbstractStringBuilder", name := "length", desc := "()I" } : Jvm.MethodName) jdk_68_method_6_code (1 : Nat) (Option.some Jvm.ClassFile.FieldType.int), Jvm.Cond.code ({ cls := "java/util/Arrays", name := "copyOfRange", desc := "([BII)[B" } : Jvm.MethodName) jdk_65_method_132_code (3 : Nat) (Option.some (Jvm.ClassFile.FieldType.array Jvm.ClassFile.FieldType.byte)), Jvm.Cond.code ({ cls := "java/util/Arrays", name := "copyOfRangeByte", desc := "([BII)[B" } : Jvm.MethodName) jdk_65_method_133_code (5 : Nat) (Option.some (Jvm.ClassFile.FieldType.array Jvm.ClassFile.FieldType.byte)), Jvm.Cond.code ({ cls := "java/util/Arrays", name := "checkLength", desc := "(II)V" } : Jvm.MethodName) jdk_65_method_131_code (2 : Nat) (Option.none : Option Jvm.ClassFile.FieldType), Jvm.Cond.code ({ cls := "java/lang/String", name := "isEmpty", desc := "()Z" } : Jvm.MethodName) jdk_42_method_55_code (1 : Nat) (Option.some Jvm.ClassFile.FieldType.boolean), Jvm.Cond.code ({ cls := "java/lang/String", name := "charAt", desc := "(I)C" } : Jvm.MethodName) jdk_42_method_56_code (2 : Nat) (Option.some Jvm.ClassFile.FieldType.char), Jvm.Cond.code ({ cls := "java/lang/String", name := "isLatin1", desc := "()Z" } : Jvm.MethodName) jdk_42_method_154_code (1 : Nat) (Option.some Jvm.ClassFile.FieldType.boolean), Jvm.Cond.code ({ cls := "java/lang/StringLatin1", name := "charAt", desc := "([BI)C" } : Jvm.MethodName) jdk_43_method_2_code (2 : Nat) (Option.some Jvm.ClassFile.FieldType.char), Jvm.Cond.code ({ cls := "java/lang/String", name := "checkIndex", desc := "(II)V" } : Jvm.MethodName) jdk_42_method_155_code (2 : Nat) (Option.none : Option Jvm.ClassFile.FieldType), Jvm.Cond.code ({ cls := "jdk/internal/util/Preconditions", name := "checkIndex", desc := "(IILjava/util/function/BiFunction;)I" } : Jvm.MethodName) jdk_41_method_11_code (3 : Nat) (Option.some Jvm.ClassFile.FieldType.int), Jvm.Cond.code ({ cls := "com/example/transaction_locking/transactionlocking/value/Quoting", name := "isUnpairedSurrogate", desc := "(Ljava/lang/String;I)Z" } : Jvm.MethodName) prog_37_method_3_code (3 : Nat) (Option.some Jvm.ClassFile.FieldType.boolean), Jvm.Cond.code ({ cls := "java/lang/Character", name := "isHighSurrogate", desc := "(C)Z" } : Jvm.MethodName) jdk_89_method_14_code (1 : Nat) (Option.some Jvm.ClassFile.FieldType.boolean), Jvm.Cond.code ({ cls := "java/lang/Character", name := "isLowSurrogate", desc := "(C)Z" } : Jvm.MethodName) jdk_89_method_15_code (1 : Nat) (Option.some Jvm.ClassFile.FieldType.boolean), Jvm.Cond.code ({ cls := "com/example/transaction_locking/transactionlocking/handle/HeldLocks", name := "checkRequest", desc := "(Lcom/example/transaction_locking/transactionlocking/value/LockName;Lcom/example/transaction_locking/transactionlocking/value/LockMode;J)V" } : Jvm.MethodName) prog_15_method_2_code (4 : Nat) (Option.none : Option Jvm.ClassFile.FieldType), Jvm.Cond.code ({ cls := "com/example/transaction_locking/transactionlocking/handle/WaitTimeout", name := "check", desc := "(Ljava/lang/String;Lcom/example/transaction_locking/transactionlocking/value/LockName;J)V" } : Jvm.MethodName) prog_29_method_2_code (4 : Nat) (Option.none : Option Jvm.ClassFile.FieldType)]
set_option maxRecDepth 65536 in
theorem codes_eq : words1.filter isCode = codes1 := rfl
theorem w_codes : ∀ c ∈ words1.filter isCode, c.before args0 about1 = true := by
  rw [codes_eq]
  intro c hc
  simp only [codes1, List.mem_cons, List.not_mem_nil, or_false] at hc
  rcases hc with rfl | rfl | rfl | rfl | rfl | rfl | rfl | rfl | rfl | rfl | rfl | rfl | rfl | rfl | rfl | rfl | rfl | rfl | rfl | rfl | rfl | rfl | rfl | rfl | rfl | rfl | rfl | rfl | rfl | rfl | rfl | rfl | rfl | rfl | rfl | rfl | rfl | rfl | rfl | rfl | rfl | rfl | rfl | rfl | rfl | rfl | rfl | rfl | rfl | rfl | rfl
  · exact w_c0
  · exact w_c1
  · exact w_c2
  · exact w_c3
  · exact w_c4
  · exact w_c5
  · exact w_c6
  · exact w_c7
  · exact w_c8
  · exact w_c9
  · exact w_c10
  · exact w_c11
  · exact w_c12
  · exact w_c13
  · exact w_c14
  · exact w_c15
  · exact w_c16
  · exact w_c17
  · exact w_c18
  · exact w_c19
  · exact w_c20
  · exact w_c21
  · exact w_c22
  · exact w_c23
  · exact w_c24
  · exact w_c25
  · exact w_c26
  · exact w_c27
  · exact w_c28
  · exact w_c29
  · exact w_c30
  · exact w_c31
  · exact w_c32
  · exact w_c33
  · exact w_c34
  · exact w_c35
  · exact w_c36
  · exact w_c37
  · exact w_c38
  · exact w_c39
  · exact w_c40
  · exact w_c41
  · exact w_c42
  · exact w_c43
  · exact w_c44
  · exact w_c45
  · exact w_c46
  · exact w_c47
  · exact w_c48
  · exact w_c49
  · exact w_c50
set_option maxRecDepth 65536 in
theorem w_t1 : (words1.take 24).all (fun c => isCode c || c.before args0 about1) = true := by decide +kernel
set_option maxRecDepth 65536 in
theorem w_t2 : ((words1.drop 24).take 24).all (fun c => isCode c || c.before args0 about1) = true := by decide +kernel
set_option maxRecDepth 65536 in
theorem w_t3 : (((words1.drop 24).drop 24).take 24).all (fun c => isCode c || c.before args0 about1) = true := by decide +kernel
set_option maxRecDepth 65536 in
theorem w_t4 : ((((words1.drop 24).drop 24).drop 24).take 24).all (fun c => isCode c || c.before args0 about1) = true := by decide +kernel
set_option maxRecDepth 65536 in
theorem w_t5 : (((((words1.drop 24).drop 24).drop 24).drop 24).take 24).all (fun c => isCode c || c.before args0 about1) = true := by decide +kernel
set_option maxRecDepth 65536 in
theorem w_t6 : ((((((words1.drop 24).drop 24).drop 24).drop 24).drop 24).take 24).all (fun c => isCode c || c.before args0 about1) = true := by decide +kernel
set_option maxRecDepth 65536 in
theorem w_t7 : (((((((words1.drop 24).drop 24).drop 24).drop 24).drop 24).drop 24).take 24).all (fun c => isCode c || c.before args0 about1) = true := by decide +kernel
set_option maxRecDepth 65536 in
theorem w_t8 : ((((((((words1.drop 24).drop 24).drop 24).drop 24).drop 24).drop 24).drop 24).take 24).all (fun c => isCode c || c.before args0 about1) = true := by decide +kernel
set_option maxRecDepth 65536 in
theorem w_t9 : (((((((((words1.drop 24).drop 24).drop 24).drop 24).drop 24).drop 24).drop 24).drop 24).take 24).all (fun c => isCode c || c.before args0 about1) = true := by decide +kernel
set_option maxRecDepth 65536 in
theorem w_t10 : ((((((((((words1.drop 24).drop 24).drop 24).drop 24).drop 24).drop 24).drop 24).drop 24).drop 24).take 24).all (fun c => isCode c || c.before args0 about1) = true := by decide +kernel
set_option maxRecDepth 65536 in
theorem w_t11 : (((((((((((words1.drop 24).drop 24).drop 24).drop 24).drop 24).drop 24).drop 24).drop 24).drop 24).drop 24).take 24).all (fun c => isCode c || c.before args0 about1) = true := by decide +kernel
set_option maxRecDepth 65536 in
theorem w_t12 : (((((((((((words1.drop 24).drop 24).drop 24).drop 24).drop 24).drop 24).drop 24).drop 24).drop 24).drop 24).drop 24).all (fun c => isCode c || c.before args0 about1) = true := by decide +kernel
theorem w_tables : (allAtoms (Jvm.Cond.code x code maxLocals ret :: tables_1)).before args0 about1 = true := by
  rw [allAtoms_all]
  show words1.all (fun c => c.before args0 about1) = true
  refine all_split ?_ w_codes
  rw [← List.take_append_drop 24 words1, List.all_append, w_t1, ← List.take_append_drop 24 (words1.drop 24), List.all_append, w_t2, ← List.take_append_drop 24 ((words1.drop 24).drop 24), List.all_append, w_t3, ← List.take_append_drop 24 (((words1.drop 24).drop 24).drop 24), List.all_append, w_t4, ← List.take_append_drop 24 ((((words1.drop 24).drop 24).drop 24).drop 24), List.all_append, w_t5, ← List.take_append_drop 24 (((((words1.drop 24).drop 24).drop 24).drop 24).drop 24), List.all_append, w_t6, ← List.take_append_drop 24 ((((((words1.drop 24).drop 24).drop 24).drop 24).drop 24).drop 24), List.all_append, w_t7, ← List.take_append_drop 24 (((((((words1.drop 24).drop 24).drop 24).drop 24).drop 24).drop 24).drop 24), List.all_append, w_t8, ← List.take_append_drop 24 ((((((((words1.drop 24).drop 24).drop 24).drop 24).drop 24).drop 24).drop 24).drop 24), List.all_append, w_t9, ← List.take_append_drop 24 (((((((((words1.drop 24).drop 24).drop 24).drop 24).drop 24).drop 24).drop 24).drop 24).drop 24), List.all_append, w_t10, ← List.take_append_drop 24 ((((((((((words1.drop 24).drop 24).drop 24).drop 24).drop 24).drop 24).drop 24).drop 24).drop 24).drop 24), List.all_append, w_t11, w_t12]
  rfl
set_option maxRecDepth 65536 in
theorem w_rest : rest_1_c.before args0 about1 = true := by decide +kernel
set_option maxRecDepth 65536 in
theorem w_case : (Jvm.Cond.and given_1 narrow_1).before args0 about1 = true := by decide +kernel
set_option maxRecDepth 65536 in
theorem w_consts : constsHeld consts_1 about1 := Jvm.Lit.constsHeldB_iff.mp (by decide +kernel)
theorem w_applies : (headSpec (Jvm.Cond.code x code maxLocals ret :: tables_1) room_1).applies x e0.platform about1 = true :=
  (Spec.applies_iff w_frames).mpr ⟨w_running, w_runnable, w_alone, w_named, w_hears, w_ripe, w_room, w_tables⟩
theorem atStart : AtStart classFile x code maxLocals ret World_1 tables_1 room_1 Calls_1 rest_1 Pre_1 launch0 p0 e0 about1 theMethod args0 below0 :=
  ⟨lists_1, trivial, launch0.admits_env _ _ _, launch0.least_env, fairChoices_fair.cas, fairChoices_fair.clock, w_frames, w_args, w_heap, w_applies, ⟨w_consts, trivial⟩, w_rest, w_case⟩
end start1
theorem witness_1 : WitnessClaimed_1 := ⟨start1.p0, start1.e0, start1.about1, start1.theMethod, start1.args0, start1.below0, start1.atStart⟩
end Jvm.Pilot.@@N@@
