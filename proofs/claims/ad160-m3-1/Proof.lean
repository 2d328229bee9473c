import JvmDerived
import JvmDerived.Pilot.@@N@@Statement
import JvmDerived.Pilot.@@N@@Code
set_option linter.unusedVariables false
set_option linter.unusedSimpArgs false
namespace Jvm.Pilot.@@N@@
open Jvm Jvm.ClassFile Sem Op Lib Jvm.Free Jvm.Stand Jvm.LawKit Jvm.RoadKit Bundle Jvm.Pilot.@@N@@.Jvm.D
section OwnBase
def Gets (tb : Tables) (e : Env) (below : List Frame) (P : Outcome → State → Prop) (T : State) (g : JFrame) : Prop := ∃ t o, Steps tb e below (T.setTop g) t ∧ t.status = .running ∧ Ended t below o ∧ P o t
theorem Gets.by {tb : Tables} {e : Env} {below : List Frame} {P : Outcome → State → Prop} {T T' : State} {g g' : JFrame} (h : Gets tb e below P T' g') (k : ∀ t, Steps tb e below (T'.setTop g') t → Steps tb e below (T.setTop g) t) : Gets tb e below P T g := by
  obtain ⟨t, o, h1, h2⟩ := h
  exact ⟨t, o, k t h1, h2⟩
theorem g_iloadN {tb : Tables} [Ours tb] {e : Env} {below : List Frame} {T : State} {m : MethodId} {c : Code} {P : Outcome → State → Prop} {pc pc' : Nat} {Ls : Array Slot} {st : List Value} {j : Fin 4} {v : Int32} (H : At T m c below) (hx : tb.exec = Jvm.exec) (hd : decode c.code pc = .ok (.iload_n j, 1)) (hl : Ls[j.val]? = some (.val (.int v))) (hp : pc + 1 = pc')
    (k : Gets tb e below P T (mkF m pc' Ls (.int v :: st))) : Gets tb e below P T (mkF m pc Ls (st)) := by
  subst hp; refine k.by fun t qq => ?_; exact XS.iloadN H hx rfl hd hl qq
theorem g_iload {tb : Tables} [Ours tb] {e : Env} {below : List Frame} {T : State} {m : MethodId} {c : Code} {P : Outcome → State → Prop} {pc pc' : Nat} {Ls : Array Slot} {st : List Value} {j : Nat} {v : Int32} (H : At T m c below) (hx : tb.exec = Jvm.exec) (hd : decode c.code pc = .ok (.iload j, 2)) (hl : Ls[j]? = some (.val (.int v))) (hp : pc + 2 = pc')
    (k : Gets tb e below P T (mkF m pc' Ls (.int v :: st))) : Gets tb e below P T (mkF m pc Ls (st)) := by
  subst hp; refine k.by fun t qq => ?_; exact XS.iload H hx rfl hd hl qq
theorem g_istoreN {tb : Tables} [Ours tb] {e : Env} {below : List Frame} {T : State} {m : MethodId} {c : Code} {P : Outcome → State → Prop} {pc pc' : Nat} {Ls : Array Slot} {st : List Value} {j : Fin 4} {v : Int32} {Ls' : Array Slot} (H : At T m c below) (hx : tb.exec = Jvm.exec) (hd : decode c.code pc = .ok (.istore_n j, 1)) (hl : storeLocals Ls j.val (.int v) = some Ls') (hp : pc + 1 = pc')
    (k : Gets tb e below P T (mkF m pc' Ls' (st))) : Gets tb e below P T (mkF m pc Ls (.int v :: st)) := by
  subst hp; refine k.by fun t qq => ?_; exact XS.istoreN H hx rfl hd rfl hl qq
theorem g_istore {tb : Tables} [Ours tb] {e : Env} {below : List Frame} {T : State} {m : MethodId} {c : Code} {P : Outcome → State → Prop} {pc pc' : Nat} {Ls : Array Slot} {st : List Value} {j : Nat} {v : Int32} {Ls' : Array Slot} (H : At T m c below) (hx : tb.exec = Jvm.exec) (hd : decode c.code pc = .ok (.istore j, 2)) (hl : storeLocals Ls j (.int v) = some Ls') (hp : pc + 2 = pc')
    (k : Gets tb e below P T (mkF m pc' Ls' (st))) : Gets tb e below P T (mkF m pc Ls (.int v :: st)) := by
  subst hp; refine k.by fun t qq => ?_; exact XS.istore H hx rfl hd rfl hl qq
theorem g_lloadN {tb : Tables} [Ours tb] {e : Env} {below : List Frame} {T : State} {m : MethodId} {c : Code} {P : Outcome → State → Prop} {pc pc' : Nat} {Ls : Array Slot} {st : List Value} {j : Fin 4} {v : Int64} (H : At T m c below) (hx : tb.exec = Jvm.exec) (hd : decode c.code pc = .ok (.lload_n j, 1)) (hl : Ls[j.val]? = some (.val (.long v))) (hp : pc + 1 = pc')
    (k : Gets tb e below P T (mkF m pc' Ls (.long v :: st))) : Gets tb e below P T (mkF m pc Ls (st)) := by
  subst hp; refine k.by fun t qq => ?_; exact XS.lloadN H hx rfl hd hl qq
theorem g_lload {tb : Tables} [Ours tb] {e : Env} {below : List Frame} {T : State} {m : MethodId} {c : Code} {P : Outcome → State → Prop} {pc pc' : Nat} {Ls : Array Slot} {st : List Value} {j : Nat} {v : Int64} (H : At T m c below) (hx : tb.exec = Jvm.exec) (hd : decode c.code pc = .ok (.lload j, 2)) (hl : Ls[j]? = some (.val (.long v))) (hp : pc + 2 = pc')
    (k : Gets tb e below P T (mkF m pc' Ls (.long v :: st))) : Gets tb e below P T (mkF m pc Ls (st)) := by
  subst hp; refine k.by fun t qq => ?_; exact XS.lload H hx rfl hd hl qq
theorem g_lstoreN {tb : Tables} [Ours tb] {e : Env} {below : List Frame} {T : State} {m : MethodId} {c : Code} {P : Outcome → State → Prop} {pc pc' : Nat} {Ls : Array Slot} {st : List Value} {j : Fin 4} {v : Int64} {Ls' : Array Slot} (H : At T m c below) (hx : tb.exec = Jvm.exec) (hd : decode c.code pc = .ok (.lstore_n j, 1)) (hl : storeLocals Ls j.val (.long v) = some Ls') (hp : pc + 1 = pc')
    (k : Gets tb e below P T (mkF m pc' Ls' (st))) : Gets tb e below P T (mkF m pc Ls (.long v :: st)) := by
  subst hp; refine k.by fun t qq => ?_; exact XS.lstoreN H hx rfl hd rfl hl qq
theorem g_lstore {tb : Tables} [Ours tb] {e : Env} {below : List Frame} {T : State} {m : MethodId} {c : Code} {P : Outcome → State → Prop} {pc pc' : Nat} {Ls : Array Slot} {st : List Value} {j : Nat} {v : Int64} {Ls' : Array Slot} (H : At T m c below) (hx : tb.exec = Jvm.exec) (hd : decode c.code pc = .ok (.lstore j, 2)) (hl : storeLocals Ls j (.long v) = some Ls') (hp : pc + 2 = pc')
    (k : Gets tb e below P T (mkF m pc' Ls' (st))) : Gets tb e below P T (mkF m pc Ls (.long v :: st)) := by
  subst hp; refine k.by fun t qq => ?_; exact XS.lstore H hx rfl hd rfl hl qq
theorem g_aloadN {tb : Tables} [Ours tb] {e : Env} {below : List Frame} {T : State} {m : MethodId} {c : Code} {P : Outcome → State → Prop} {pc pc' : Nat} {Ls : Array Slot} {st : List Value} {j : Fin 4} {v : Value} (H : At T m c below) (hx : tb.exec = Jvm.exec) (hd : decode c.code pc = .ok (.aload_n j, 1)) (hl : Ls[j.val]? = some (.val v)) (hv : v.isRef = true) (hp : pc + 1 = pc')
    (k : Gets tb e below P T (mkF m pc' Ls (v :: st))) : Gets tb e below P T (mkF m pc Ls (st)) := by
  subst hp; refine k.by fun t qq => ?_; exact XS.aloadN H hx rfl hd hl hv qq
theorem g_aload {tb : Tables} [Ours tb] {e : Env} {below : List Frame} {T : State} {m : MethodId} {c : Code} {P : Outcome → State → Prop} {pc pc' : Nat} {Ls : Array Slot} {st : List Value} {j : Nat} {v : Value} (H : At T m c below) (hx : tb.exec = Jvm.exec) (hd : decode c.code pc = .ok (.aload j, 2)) (hl : Ls[j]? = some (.val v)) (hv : v.isRef = true) (hp : pc + 2 = pc')
    (k : Gets tb e below P T (mkF m pc' Ls (v :: st))) : Gets tb e below P T (mkF m pc Ls (st)) := by
  subst hp; refine k.by fun t qq => ?_; exact XS.aload H hx rfl hd hl hv qq
theorem g_astoreN {tb : Tables} [Ours tb] {e : Env} {below : List Frame} {T : State} {m : MethodId} {c : Code} {P : Outcome → State → Prop} {pc pc' : Nat} {Ls : Array Slot} {st : List Value} {j : Fin 4} {v : Value} {Ls' : Array Slot} (H : At T m c below) (hx : tb.exec = Jvm.exec) (hd : decode c.code pc = .ok (.astore_n j, 1)) (hv : v.isRef = true) (hl : storeLocals Ls j.val v = some Ls') (hp : pc + 1 = pc')
    (k : Gets tb e below P T (mkF m pc' Ls' (st))) : Gets tb e below P T (mkF m pc Ls (v :: st)) := by
  subst hp; refine k.by fun t qq => ?_; exact XS.astoreN H hx rfl hd rfl hv hl qq
theorem g_astore {tb : Tables} [Ours tb] {e : Env} {below : List Frame} {T : State} {m : MethodId} {c : Code} {P : Outcome → State → Prop} {pc pc' : Nat} {Ls : Array Slot} {st : List Value} {j : Nat} {v : Value} {Ls' : Array Slot} (H : At T m c below) (hx : tb.exec = Jvm.exec) (hd : decode c.code pc = .ok (.astore j, 2)) (hv : v.isRef = true) (hl : storeLocals Ls j v = some Ls') (hp : pc + 2 = pc')
    (k : Gets tb e below P T (mkF m pc' Ls' (st))) : Gets tb e below P T (mkF m pc Ls (v :: st)) := by
  subst hp; refine k.by fun t qq => ?_; exact XS.astore H hx rfl hd rfl hv hl qq
theorem g_iconst {tb : Tables} [Ours tb] {e : Env} {below : List Frame} {T : State} {m : MethodId} {c : Code} {P : Outcome → State → Prop} {pc pc' : Nat} {Ls : Array Slot} {st : List Value} {i : Int} (v : Int32) (H : At T m c below) (hx : tb.exec = Jvm.exec) (hd : decode c.code pc = .ok (.iconst i, 1)) (hv : Int32.ofInt i = v) (hp : pc + 1 = pc')
    (k : Gets tb e below P T (mkF m pc' Ls (.int v :: st))) : Gets tb e below P T (mkF m pc Ls st) := by
  subst hp; subst hv; refine k.by fun t qq => ?_; exact XS.iconst H hx rfl hd qq
theorem g_bipush {tb : Tables} [Ours tb] {e : Env} {below : List Frame} {T : State} {m : MethodId} {c : Code} {P : Outcome → State → Prop} {pc pc' : Nat} {Ls : Array Slot} {st : List Value} {i : Int} (v : Int32) (H : At T m c below) (hx : tb.exec = Jvm.exec) (hd : decode c.code pc = .ok (.bipush i, 2)) (hv : (Int8.ofInt i).toInt32 = v) (hp : pc + 2 = pc')
    (k : Gets tb e below P T (mkF m pc' Ls (.int v :: st))) : Gets tb e below P T (mkF m pc Ls st) := by
  subst hp; subst hv; refine k.by fun t qq => ?_; exact XS.bipush H hx rfl hd qq
theorem g_sipush {tb : Tables} [Ours tb] {e : Env} {below : List Frame} {T : State} {m : MethodId} {c : Code} {P : Outcome → State → Prop} {pc pc' : Nat} {Ls : Array Slot} {st : List Value} {i : Int} (v : Int32) (H : At T m c below) (hx : tb.exec = Jvm.exec) (hd : decode c.code pc = .ok (.sipush i, 3)) (hv : (Int16.ofInt i).toInt32 = v) (hp : pc + 3 = pc')
    (k : Gets tb e below P T (mkF m pc' Ls (.int v :: st))) : Gets tb e below P T (mkF m pc Ls st) := by
  subst hp; subst hv; refine k.by fun t qq => ?_; exact XS.sipush H hx rfl hd qq
theorem g_aconstNull {tb : Tables} [Ours tb] {e : Env} {below : List Frame} {T : State} {m : MethodId} {c : Code} {P : Outcome → State → Prop} {pc pc' : Nat} {Ls : Array Slot} {st : List Value}  (H : At T m c below) (hx : tb.exec = Jvm.exec) (hd : decode c.code pc = .ok (.aconst_null, 1))  (hp : pc + 1 = pc')
    (k : Gets tb e below P T (mkF m pc' Ls (.null :: st))) : Gets tb e below P T (mkF m pc Ls (st)) := by
  subst hp; refine k.by fun t qq => ?_; exact XS.aconstNull H hx rfl hd  qq
theorem g_iadd {tb : Tables} [Ours tb] {e : Env} {below : List Frame} {T : State} {m : MethodId} {c : Code} {P : Outcome → State → Prop} {pc pc' : Nat} {Ls : Array Slot} {st : List Value} {x y : Int32} (H : At T m c below) (hx : tb.exec = Jvm.exec) (hd : decode c.code pc = .ok (.iadd, 1))  (hp : pc + 1 = pc')
    (k : Gets tb e below P T (mkF m pc' Ls (.int (x + y) :: st))) : Gets tb e below P T (mkF m pc Ls (.int y :: .int x :: st)) := by
  subst hp; refine k.by fun t qq => ?_; exact XS.iadd H hx rfl hd rfl qq
theorem g_isub {tb : Tables} [Ours tb] {e : Env} {below : List Frame} {T : State} {m : MethodId} {c : Code} {P : Outcome → State → Prop} {pc pc' : Nat} {Ls : Array Slot} {st : List Value} {x y : Int32} (H : At T m c below) (hx : tb.exec = Jvm.exec) (hd : decode c.code pc = .ok (.isub, 1))  (hp : pc + 1 = pc')
    (k : Gets tb e below P T (mkF m pc' Ls (.int (x - y) :: st))) : Gets tb e below P T (mkF m pc Ls (.int y :: .int x :: st)) := by
  subst hp; refine k.by fun t qq => ?_; exact XS.isub H hx rfl hd rfl qq
theorem g_imul {tb : Tables} [Ours tb] {e : Env} {below : List Frame} {T : State} {m : MethodId} {c : Code} {P : Outcome → State → Prop} {pc pc' : Nat} {Ls : Array Slot} {st : List Value} {x y : Int32} (H : At T m c below) (hx : tb.exec = Jvm.exec) (hd : decode c.code pc = .ok (.imul, 1))  (hp : pc + 1 = pc')
    (k : Gets tb e below P T (mkF m pc' Ls (.int (x * y) :: st))) : Gets tb e below P T (mkF m pc Ls (.int y :: .int x :: st)) := by
  subst hp; refine k.by fun t qq => ?_; exact XS.imul H hx rfl hd rfl qq
theorem g_iand {tb : Tables} [Ours tb] {e : Env} {below : List Frame} {T : State} {m : MethodId} {c : Code} {P : Outcome → State → Prop} {pc pc' : Nat} {Ls : Array Slot} {st : List Value} {x y : Int32} (H : At T m c below) (hx : tb.exec = Jvm.exec) (hd : decode c.code pc = .ok (.iand, 1))  (hp : pc + 1 = pc')
    (k : Gets tb e below P T (mkF m pc' Ls (.int (x &&& y) :: st))) : Gets tb e below P T (mkF m pc Ls (.int y :: .int x :: st)) := by
  subst hp; refine k.by fun t qq => ?_; exact XS.iand H hx rfl hd rfl qq
theorem g_ior {tb : Tables} [Ours tb] {e : Env} {below : List Frame} {T : State} {m : MethodId} {c : Code} {P : Outcome → State → Prop} {pc pc' : Nat} {Ls : Array Slot} {st : List Value} {x y : Int32} (H : At T m c below) (hx : tb.exec = Jvm.exec) (hd : decode c.code pc = .ok (.ior, 1))  (hp : pc + 1 = pc')
    (k : Gets tb e below P T (mkF m pc' Ls (.int (x ||| y) :: st))) : Gets tb e below P T (mkF m pc Ls (.int y :: .int x :: st)) := by
  subst hp; refine k.by fun t qq => ?_; exact XS.ior H hx rfl hd rfl qq
theorem g_ixor {tb : Tables} [Ours tb] {e : Env} {below : List Frame} {T : State} {m : MethodId} {c : Code} {P : Outcome → State → Prop} {pc pc' : Nat} {Ls : Array Slot} {st : List Value} {x y : Int32} (H : At T m c below) (hx : tb.exec = Jvm.exec) (hd : decode c.code pc = .ok (.ixor, 1))  (hp : pc + 1 = pc')
    (k : Gets tb e below P T (mkF m pc' Ls (.int (x ^^^ y) :: st))) : Gets tb e below P T (mkF m pc Ls (.int y :: .int x :: st)) := by
  subst hp; refine k.by fun t qq => ?_; exact XS.ixor H hx rfl hd rfl qq
theorem g_ishl {tb : Tables} [Ours tb] {e : Env} {below : List Frame} {T : State} {m : MethodId} {c : Code} {P : Outcome → State → Prop} {pc pc' : Nat} {Ls : Array Slot} {st : List Value} {x y : Int32} (H : At T m c below) (hx : tb.exec = Jvm.exec) (hd : decode c.code pc = .ok (.ishl, 1))  (hp : pc + 1 = pc')
    (k : Gets tb e below P T (mkF m pc' Ls (.int (x <<< (y &&& 31)) :: st))) : Gets tb e below P T (mkF m pc Ls (.int y :: .int x :: st)) := by
  subst hp; refine k.by fun t qq => ?_; exact XS.ishl H hx rfl hd rfl qq
theorem g_ishr {tb : Tables} [Ours tb] {e : Env} {below : List Frame} {T : State} {m : MethodId} {c : Code} {P : Outcome → State → Prop} {pc pc' : Nat} {Ls : Array Slot} {st : List Value} {x y : Int32} (H : At T m c below) (hx : tb.exec = Jvm.exec) (hd : decode c.code pc = .ok (.ishr, 1))  (hp : pc + 1 = pc')
    (k : Gets tb e below P T (mkF m pc' Ls (.int (x >>> (y &&& 31)) :: st))) : Gets tb e below P T (mkF m pc Ls (.int y :: .int x :: st)) := by
  subst hp; refine k.by fun t qq => ?_; exact XS.ishr H hx rfl hd rfl qq
theorem g_iushr {tb : Tables} [Ours tb] {e : Env} {below : List Frame} {T : State} {m : MethodId} {c : Code} {P : Outcome → State → Prop} {pc pc' : Nat} {Ls : Array Slot} {st : List Value} {x y : Int32} (H : At T m c below) (hx : tb.exec = Jvm.exec) (hd : decode c.code pc = .ok (.iushr, 1))  (hp : pc + 1 = pc')
    (k : Gets tb e below P T (mkF m pc' Ls (.int ((x.toUInt32 >>> (y &&& 31).toUInt32).toInt32) :: st))) : Gets tb e below P T (mkF m pc Ls (.int y :: .int x :: st)) := by
  subst hp; refine k.by fun t qq => ?_; exact XS.iushr H hx rfl hd rfl qq
theorem g_ladd {tb : Tables} [Ours tb] {e : Env} {below : List Frame} {T : State} {m : MethodId} {c : Code} {P : Outcome → State → Prop} {pc pc' : Nat} {Ls : Array Slot} {st : List Value} {x y : Int64} (H : At T m c below) (hx : tb.exec = Jvm.exec) (hd : decode c.code pc = .ok (.ladd, 1))  (hp : pc + 1 = pc')
    (k : Gets tb e below P T (mkF m pc' Ls (.long (x + y) :: st))) : Gets tb e below P T (mkF m pc Ls (.long y :: .long x :: st)) := by
  subst hp; refine k.by fun t qq => ?_; exact XS.ladd H hx rfl hd rfl qq
theorem g_lsub {tb : Tables} [Ours tb] {e : Env} {below : List Frame} {T : State} {m : MethodId} {c : Code} {P : Outcome → State → Prop} {pc pc' : Nat} {Ls : Array Slot} {st : List Value} {x y : Int64} (H : At T m c below) (hx : tb.exec = Jvm.exec) (hd : decode c.code pc = .ok (.lsub, 1))  (hp : pc + 1 = pc')
    (k : Gets tb e below P T (mkF m pc' Ls (.long (x - y) :: st))) : Gets tb e below P T (mkF m pc Ls (.long y :: .long x :: st)) := by
  subst hp; refine k.by fun t qq => ?_; exact XS.lsub H hx rfl hd rfl qq
theorem g_lmul {tb : Tables} [Ours tb] {e : Env} {below : List Frame} {T : State} {m : MethodId} {c : Code} {P : Outcome → State → Prop} {pc pc' : Nat} {Ls : Array Slot} {st : List Value} {x y : Int64} (H : At T m c below) (hx : tb.exec = Jvm.exec) (hd : decode c.code pc = .ok (.lmul, 1))  (hp : pc + 1 = pc')
    (k : Gets tb e below P T (mkF m pc' Ls (.long (x * y) :: st))) : Gets tb e below P T (mkF m pc Ls (.long y :: .long x :: st)) := by
  subst hp; refine k.by fun t qq => ?_; exact XS.lmul H hx rfl hd rfl qq
theorem g_land {tb : Tables} [Ours tb] {e : Env} {below : List Frame} {T : State} {m : MethodId} {c : Code} {P : Outcome → State → Prop} {pc pc' : Nat} {Ls : Array Slot} {st : List Value} {x y : Int64} (H : At T m c below) (hx : tb.exec = Jvm.exec) (hd : decode c.code pc = .ok (.land, 1))  (hp : pc + 1 = pc')
    (k : Gets tb e below P T (mkF m pc' Ls (.long (x &&& y) :: st))) : Gets tb e below P T (mkF m pc Ls (.long y :: .long x :: st)) := by
  subst hp; refine k.by fun t qq => ?_; exact XS.land H hx rfl hd rfl qq
theorem g_lor {tb : Tables} [Ours tb] {e : Env} {below : List Frame} {T : State} {m : MethodId} {c : Code} {P : Outcome → State → Prop} {pc pc' : Nat} {Ls : Array Slot} {st : List Value} {x y : Int64} (H : At T m c below) (hx : tb.exec = Jvm.exec) (hd : decode c.code pc = .ok (.lor, 1))  (hp : pc + 1 = pc')
    (k : Gets tb e below P T (mkF m pc' Ls (.long (x ||| y) :: st))) : Gets tb e below P T (mkF m pc Ls (.long y :: .long x :: st)) := by
  subst hp; refine k.by fun t qq => ?_; exact XS.lor H hx rfl hd rfl qq
theorem g_lxor {tb : Tables} [Ours tb] {e : Env} {below : List Frame} {T : State} {m : MethodId} {c : Code} {P : Outcome → State → Prop} {pc pc' : Nat} {Ls : Array Slot} {st : List Value} {x y : Int64} (H : At T m c below) (hx : tb.exec = Jvm.exec) (hd : decode c.code pc = .ok (.lxor, 1))  (hp : pc + 1 = pc')
    (k : Gets tb e below P T (mkF m pc' Ls (.long (x ^^^ y) :: st))) : Gets tb e below P T (mkF m pc Ls (.long y :: .long x :: st)) := by
  subst hp; refine k.by fun t qq => ?_; exact XS.lxor H hx rfl hd rfl qq
theorem g_lshl {tb : Tables} [Ours tb] {e : Env} {below : List Frame} {T : State} {m : MethodId} {c : Code} {P : Outcome → State → Prop} {pc pc' : Nat} {Ls : Array Slot} {st : List Value} {x : Int64} {y : Int32} (H : At T m c below) (hx : tb.exec = Jvm.exec) (hd : decode c.code pc = .ok (.lshl, 1))  (hp : pc + 1 = pc')
    (k : Gets tb e below P T (mkF m pc' Ls (.long (x <<< (y &&& 0x3f).toInt64) :: st))) : Gets tb e below P T (mkF m pc Ls (.int y :: .long x :: st)) := by
  subst hp; refine k.by fun t qq => ?_; exact XS.lshl H hx rfl hd rfl qq
theorem g_lshr {tb : Tables} [Ours tb] {e : Env} {below : List Frame} {T : State} {m : MethodId} {c : Code} {P : Outcome → State → Prop} {pc pc' : Nat} {Ls : Array Slot} {st : List Value} {x : Int64} {y : Int32} (H : At T m c below) (hx : tb.exec = Jvm.exec) (hd : decode c.code pc = .ok (.lshr, 1))  (hp : pc + 1 = pc')
    (k : Gets tb e below P T (mkF m pc' Ls (.long (x >>> (y &&& 0x3f).toInt64) :: st))) : Gets tb e below P T (mkF m pc Ls (.int y :: .long x :: st)) := by
  subst hp; refine k.by fun t qq => ?_; exact XS.lshr H hx rfl hd rfl qq
theorem g_lushr {tb : Tables} [Ours tb] {e : Env} {below : List Frame} {T : State} {m : MethodId} {c : Code} {P : Outcome → State → Prop} {pc pc' : Nat} {Ls : Array Slot} {st : List Value} {x : Int64} {y : Int32} (H : At T m c below) (hx : tb.exec = Jvm.exec) (hd : decode c.code pc = .ok (.lushr, 1))  (hp : pc + 1 = pc')
    (k : Gets tb e below P T (mkF m pc' Ls (.long ((x.toUInt64 >>> (y &&& 0x3f).toInt64.toUInt64).toInt64) :: st))) : Gets tb e below P T (mkF m pc Ls (.int y :: .long x :: st)) := by
  subst hp; refine k.by fun t qq => ?_; exact XS.lushr H hx rfl hd rfl qq
theorem g_lcmp {tb : Tables} [Ours tb] {e : Env} {below : List Frame} {T : State} {m : MethodId} {c : Code} {P : Outcome → State → Prop} {pc pc' : Nat} {Ls : Array Slot} {st : List Value} {x y : Int64} (H : At T m c below) (hx : tb.exec = Jvm.exec) (hd : decode c.code pc = .ok (.lcmp, 1))  (hp : pc + 1 = pc')
    (k : Gets tb e below P T (mkF m pc' Ls (.int (lcmpW x y) :: st))) : Gets tb e below P T (mkF m pc Ls (.long y :: .long x :: st)) := by
  subst hp; refine k.by fun t qq => ?_; exact XS.lcmp H hx rfl hd rfl qq
theorem g_ineg {tb : Tables} [Ours tb] {e : Env} {below : List Frame} {T : State} {m : MethodId} {c : Code} {P : Outcome → State → Prop} {pc pc' : Nat} {Ls : Array Slot} {st : List Value} {x : Int32} (H : At T m c below) (hx : tb.exec = Jvm.exec) (hd : decode c.code pc = .ok (.ineg, 1))  (hp : pc + 1 = pc')
    (k : Gets tb e below P T (mkF m pc' Ls (.int (-x) :: st))) : Gets tb e below P T (mkF m pc Ls (.int x :: st)) := by
  subst hp; refine k.by fun t qq => ?_; exact XS.ineg H hx rfl hd rfl qq
theorem g_i2b {tb : Tables} [Ours tb] {e : Env} {below : List Frame} {T : State} {m : MethodId} {c : Code} {P : Outcome → State → Prop} {pc pc' : Nat} {Ls : Array Slot} {st : List Value} {x : Int32} (H : At T m c below) (hx : tb.exec = Jvm.exec) (hd : decode c.code pc = .ok (.i2b, 1))  (hp : pc + 1 = pc')
    (k : Gets tb e below P T (mkF m pc' Ls (.int (x.toInt8.toInt32) :: st))) : Gets tb e below P T (mkF m pc Ls (.int x :: st)) := by
  subst hp; refine k.by fun t qq => ?_; exact XS.i2b H hx rfl hd rfl qq
theorem g_i2s {tb : Tables} [Ours tb] {e : Env} {below : List Frame} {T : State} {m : MethodId} {c : Code} {P : Outcome → State → Prop} {pc pc' : Nat} {Ls : Array Slot} {st : List Value} {x : Int32} (H : At T m c below) (hx : tb.exec = Jvm.exec) (hd : decode c.code pc = .ok (.i2s, 1))  (hp : pc + 1 = pc')
    (k : Gets tb e below P T (mkF m pc' Ls (.int (x.toInt16.toInt32) :: st))) : Gets tb e below P T (mkF m pc Ls (.int x :: st)) := by
  subst hp; refine k.by fun t qq => ?_; exact XS.i2s H hx rfl hd rfl qq
theorem g_i2c {tb : Tables} [Ours tb] {e : Env} {below : List Frame} {T : State} {m : MethodId} {c : Code} {P : Outcome → State → Prop} {pc pc' : Nat} {Ls : Array Slot} {st : List Value} {x : Int32} (H : At T m c below) (hx : tb.exec = Jvm.exec) (hd : decode c.code pc = .ok (.i2c, 1))  (hp : pc + 1 = pc')
    (k : Gets tb e below P T (mkF m pc' Ls (.int (x.toUInt32.toUInt16.toUInt32.toInt32) :: st))) : Gets tb e below P T (mkF m pc Ls (.int x :: st)) := by
  subst hp; refine k.by fun t qq => ?_; exact XS.i2c H hx rfl hd rfl qq
theorem g_i2l {tb : Tables} [Ours tb] {e : Env} {below : List Frame} {T : State} {m : MethodId} {c : Code} {P : Outcome → State → Prop} {pc pc' : Nat} {Ls : Array Slot} {st : List Value} {x : Int32} (H : At T m c below) (hx : tb.exec = Jvm.exec) (hd : decode c.code pc = .ok (.i2l, 1))  (hp : pc + 1 = pc')
    (k : Gets tb e below P T (mkF m pc' Ls (.long x.toInt64 :: st))) : Gets tb e below P T (mkF m pc Ls (.int x :: st)) := by
  subst hp; refine k.by fun t qq => ?_; exact XS.i2l H hx rfl hd rfl qq
theorem g_l2i {tb : Tables} [Ours tb] {e : Env} {below : List Frame} {T : State} {m : MethodId} {c : Code} {P : Outcome → State → Prop} {pc pc' : Nat} {Ls : Array Slot} {st : List Value} {x : Int64} (H : At T m c below) (hx : tb.exec = Jvm.exec) (hd : decode c.code pc = .ok (.l2i, 1))  (hp : pc + 1 = pc')
    (k : Gets tb e below P T (mkF m pc' Ls (.int x.toInt32 :: st))) : Gets tb e below P T (mkF m pc Ls (.long x :: st)) := by
  subst hp; refine k.by fun t qq => ?_; exact XS.l2i H hx rfl hd rfl qq
theorem g_lneg {tb : Tables} [Ours tb] {e : Env} {below : List Frame} {T : State} {m : MethodId} {c : Code} {P : Outcome → State → Prop} {pc pc' : Nat} {Ls : Array Slot} {st : List Value} {x : Int64} (H : At T m c below) (hx : tb.exec = Jvm.exec) (hd : decode c.code pc = .ok (.lneg, 1))  (hp : pc + 1 = pc')
    (k : Gets tb e below P T (mkF m pc' Ls (.long (-x) :: st))) : Gets tb e below P T (mkF m pc Ls (.long x :: st)) := by
  subst hp; refine k.by fun t qq => ?_; exact XS.lneg H hx rfl hd rfl qq
theorem g_idiv {tb : Tables} [Ours tb] {e : Env} {below : List Frame} {T : State} {m : MethodId} {c : Code} {P : Outcome → State → Prop} {pc pc' : Nat} {Ls : Array Slot} {st : List Value} {x y : Int32} (H : At T m c below) (hx : tb.exec = Jvm.exec) (hd : decode c.code pc = .ok (.idiv, 1)) (hy : y ≠ 0) (hp : pc + 1 = pc')
    (k : Gets tb e below P T (mkF m pc' Ls (.int (x / y) :: st))) : Gets tb e below P T (mkF m pc Ls (.int y :: .int x :: st)) := by
  subst hp; refine k.by fun t qq => ?_; exact XS.idiv H hx rfl hd rfl hy qq
theorem g_dup {tb : Tables} [Ours tb] {e : Env} {below : List Frame} {T : State} {m : MethodId} {c : Code} {P : Outcome → State → Prop} {pc pc' : Nat} {Ls : Array Slot} {st : List Value} {v : Value} (H : At T m c below) (hx : tb.exec = Jvm.exec) (hd : decode c.code pc = .ok (.dup, 1)) (hv : v.category = 1) (hp : pc + 1 = pc')
    (k : Gets tb e below P T (mkF m pc' Ls (v :: v :: st))) : Gets tb e below P T (mkF m pc Ls (v :: st)) := by
  subst hp; refine k.by fun t qq => ?_; exact XS.dup H hx rfl hd rfl hv qq
theorem g_pop {tb : Tables} [Ours tb] {e : Env} {below : List Frame} {T : State} {m : MethodId} {c : Code} {P : Outcome → State → Prop} {pc pc' : Nat} {Ls : Array Slot} {st : List Value} {v : Value} (H : At T m c below) (hx : tb.exec = Jvm.exec) (hd : decode c.code pc = .ok (.pop, 1)) (hv : v.category = 1) (hp : pc + 1 = pc')
    (k : Gets tb e below P T (mkF m pc' Ls (st))) : Gets tb e below P T (mkF m pc Ls (v :: st)) := by
  subst hp; refine k.by fun t qq => ?_; exact XS.pop H hx rfl hd rfl hv qq
theorem g_dupX1 {tb : Tables} [Ours tb] {e : Env} {below : List Frame} {T : State} {m : MethodId} {c : Code} {P : Outcome → State → Prop} {pc pc' : Nat} {Ls : Array Slot} {st : List Value} {v w : Value} (H : At T m c below) (hx : tb.exec = Jvm.exec) (hd : decode c.code pc = .ok (.dup_x1, 1)) (hv : v.category = 1) (hw : w.category = 1) (hp : pc + 1 = pc')
    (k : Gets tb e below P T (mkF m pc' Ls (v :: w :: v :: st))) : Gets tb e below P T (mkF m pc Ls (v :: w :: st)) := by
  subst hp; refine k.by fun t qq => ?_; exact XS.dupX1 H hx rfl hd rfl hv hw qq
theorem g_iinc {tb : Tables} [Ours tb] {e : Env} {below : List Frame} {T : State} {m : MethodId} {c : Code} {P : Outcome → State → Prop} {pc pc' : Nat} {Ls : Array Slot} {st : List Value} {j : Nat} {cst : Int} {x : Int32} {Ls' : Array Slot} (H : At T m c below) (hx : tb.exec = Jvm.exec) (hd : decode c.code pc = .ok (.iinc j cst, 3)) (hl : Ls[j]? = some (.val (.int x))) (hs : storeLocals Ls j (.int (x + Int32.ofInt cst)) = some Ls') (hp : pc + 3 = pc')
    (k : Gets tb e below P T (mkF m pc' Ls' (st))) : Gets tb e below P T (mkF m pc Ls (st)) := by
  subst hp; refine k.by fun t qq => ?_; exact XS.iinc H hx rfl hd hl hs qq
theorem g_lconst {tb : Tables} [Ours tb] {e : Env} {below : List Frame} {T : State} {m : MethodId} {c : Code} {P : Outcome → State → Prop} {pc pc' : Nat} {Ls : Array Slot} {st : List Value} {j : Fin 2} (v : Int64) (H : At T m c below) (hx : tb.exec = Jvm.exec) (hd : decode c.code pc = .ok (.lconst j, 1)) (hv : Int64.ofNat j = v) (hp : pc + 1 = pc')
    (k : Gets tb e below P T (mkF m pc' Ls (.long v :: st))) : Gets tb e below P T (mkF m pc Ls st) := by
  subst hp; subst hv; refine k.by fun t qq => ?_; exact XS.lconst H hx rfl hd qq
theorem g_irem {tb : Tables} [Ours tb] {e : Env} {below : List Frame} {T : State} {m : MethodId} {c : Code} {P : Outcome → State → Prop} {pc pc' : Nat} {Ls : Array Slot} {st : List Value} {x y : Int32} (H : At T m c below) (hx : tb.exec = Jvm.exec) (hd : decode c.code pc = .ok (.irem, 1)) (hy : y ≠ 0) (hp : pc + 1 = pc')
    (k : Gets tb e below P T (mkF m pc' Ls (.int (x % y) :: st))) : Gets tb e below P T (mkF m pc Ls (.int y :: .int x :: st)) := by
  subst hp
  have q : x - x / y * y = x % y := irem_eq_mod x y
  rw [← q] at k
  refine k.by fun t qq => ?_; exact XS.irem H hx rfl hd rfl hy qq
theorem g_goto {tb : Tables} [Ours tb] {e : Env} {below : List Frame} {T : State} {m : MethodId} {c : Code} {P : Outcome → State → Prop} {pc pc' : Nat} {Ls : Array Slot} {st : List Value} {o : Int} (H : At T m c below) (hx : tb.exec = Jvm.exec) (hd : decode c.code pc = .ok (.goto o, 3)) (hp : (pc : Int) + o = (pc' : Int))
    (k : Gets tb e below P T (mkF m pc' Ls st)) : Gets tb e below P T (mkF m pc Ls st) := by
  refine k.by fun t qq => ?_
  exact XS.goto H hx rfl (pc0 := pc) (pc' := pc') rfl hd (by rw [hp]; exact Int.natCast_nonneg _) (by rw [hp]; rfl) qq
theorem g_ifY {tb : Tables} [Ours tb] {e : Env} {below : List Frame} {T : State} {m : MethodId} {c : Code} {P : Outcome → State → Prop} {pc pc' : Nat} {Ls : Array Slot} {st : List Value} {o : Int} {cd : ClassFile.Cond} {x : Int32} (H : At T m c below) (hx : tb.exec = Jvm.exec) (hd : decode c.code pc = .ok (.ifCond cd o, 3)) (hp : (pc : Int) + o = (pc' : Int)) (q : if_icmp.holds cd x 0 = true)
    (k : Gets tb e below P T (mkF m pc' Ls st)) : Gets tb e below P T (mkF m pc Ls (.int x :: st)) := by
  refine k.by fun t qq => ?_
  exact XS.ifYes H hx rfl (pc0 := pc) (pc' := pc') rfl hd rfl ((if0 _ _).trans q) (by rw [hp]; exact Int.natCast_nonneg _) (by rw [hp]; rfl) qq
theorem g_ifN {tb : Tables} [Ours tb] {e : Env} {below : List Frame} {T : State} {m : MethodId} {c : Code} {P : Outcome → State → Prop} {pc pc' : Nat} {Ls : Array Slot} {st : List Value} {o : Int} {cd : ClassFile.Cond} {x : Int32} (H : At T m c below) (hx : tb.exec = Jvm.exec) (hd : decode c.code pc = .ok (.ifCond cd o, 3)) (hp : pc + 3 = pc') (q : if_icmp.holds cd x 0 = false)
    (k : Gets tb e below P T (mkF m pc' Ls st)) : Gets tb e below P T (mkF m pc Ls (.int x :: st)) := by
  subst hp; refine k.by fun t qq => ?_; exact XS.ifNo H hx rfl hd rfl ((if0 _ _).trans q) qq
theorem g_icmpY {tb : Tables} [Ours tb] {e : Env} {below : List Frame} {T : State} {m : MethodId} {c : Code} {P : Outcome → State → Prop} {pc pc' : Nat} {Ls : Array Slot} {st : List Value} {o : Int} {cd : ClassFile.Cond} {x y : Int32} (H : At T m c below) (hx : tb.exec = Jvm.exec) (hd : decode c.code pc = .ok (.if_icmp cd o, 3)) (hp : (pc : Int) + o = (pc' : Int)) (q : if_icmp.holds cd x y = true)
    (k : Gets tb e below P T (mkF m pc' Ls st)) : Gets tb e below P T (mkF m pc Ls (.int y :: .int x :: st)) := by
  refine k.by fun t qq => ?_
  exact XS.icmpYes H hx rfl (pc0 := pc) (pc' := pc') rfl hd rfl q (by rw [hp]; exact Int.natCast_nonneg _) (by rw [hp]; rfl) qq
theorem g_icmpN {tb : Tables} [Ours tb] {e : Env} {below : List Frame} {T : State} {m : MethodId} {c : Code} {P : Outcome → State → Prop} {pc pc' : Nat} {Ls : Array Slot} {st : List Value} {o : Int} {cd : ClassFile.Cond} {x y : Int32} (H : At T m c below) (hx : tb.exec = Jvm.exec) (hd : decode c.code pc = .ok (.if_icmp cd o, 3)) (hp : pc + 3 = pc') (q : if_icmp.holds cd x y = false)
    (k : Gets tb e below P T (mkF m pc' Ls st)) : Gets tb e below P T (mkF m pc Ls (.int y :: .int x :: st)) := by
  subst hp; refine k.by fun t qq => ?_; exact XS.icmpNo H hx rfl hd rfl q qq
theorem g_nullY {tb : Tables} [Ours tb] {e : Env} {below : List Frame} {T : State} {m : MethodId} {c : Code} {P : Outcome → State → Prop} {pc pc' : Nat} {Ls : Array Slot} {st : List Value} {o : Int} (H : At T m c below) (hx : tb.exec = Jvm.exec) (hd : decode c.code pc = .ok (.ifnull o, 3)) (hp : (pc : Int) + o = (pc' : Int))
    (k : Gets tb e below P T (mkF m pc' Ls st)) : Gets tb e below P T (mkF m pc Ls (.null :: st)) := by
  refine k.by fun t qq => ?_
  exact XS.ifnullYes H hx rfl (pc0 := pc) (pc' := pc') rfl hd rfl (by rw [hp]; exact Int.natCast_nonneg _) (by rw [hp]; rfl) qq
theorem g_nullN {tb : Tables} [Ours tb] {e : Env} {below : List Frame} {T : State} {m : MethodId} {c : Code} {P : Outcome → State → Prop} {pc pc' : Nat} {Ls : Array Slot} {st : List Value} {o : Int} {b : Addr} (H : At T m c below) (hx : tb.exec = Jvm.exec) (hd : decode c.code pc = .ok (.ifnull o, 3)) (hp : pc + 3 = pc')
    (k : Gets tb e below P T (mkF m pc' Ls st)) : Gets tb e below P T (mkF m pc Ls (.ref b :: st)) := by
  subst hp; refine k.by fun t qq => ?_; exact XS.ifnullNo H hx rfl hd rfl qq
theorem g_nonnullY {tb : Tables} [Ours tb] {e : Env} {below : List Frame} {T : State} {m : MethodId} {c : Code} {P : Outcome → State → Prop} {pc pc' : Nat} {Ls : Array Slot} {st : List Value} {o : Int} {b : Addr} (H : At T m c below) (hx : tb.exec = Jvm.exec) (hd : decode c.code pc = .ok (.ifnonnull o, 3)) (hp : (pc : Int) + o = (pc' : Int))
    (k : Gets tb e below P T (mkF m pc' Ls st)) : Gets tb e below P T (mkF m pc Ls (.ref b :: st)) := by
  refine k.by fun t qq => ?_
  exact XS.ifnonnullYes H hx rfl (pc0 := pc) (pc' := pc') rfl hd rfl (by rw [hp]; exact Int.natCast_nonneg _) (by rw [hp]; rfl) qq
theorem g_nonnullN {tb : Tables} [Ours tb] {e : Env} {below : List Frame} {T : State} {m : MethodId} {c : Code} {P : Outcome → State → Prop} {pc pc' : Nat} {Ls : Array Slot} {st : List Value} {o : Int} (H : At T m c below) (hx : tb.exec = Jvm.exec) (hd : decode c.code pc = .ok (.ifnonnull o, 3)) (hp : pc + 3 = pc')
    (k : Gets tb e below P T (mkF m pc' Ls st)) : Gets tb e below P T (mkF m pc Ls (.null :: st)) := by
  subst hp; refine k.by fun t qq => ?_; exact XS.ifnonnullNo H hx rfl hd rfl qq
theorem g_tsw {tb : Tables} [Ours tb] {e : Env} {below : List Frame} {T : State} {m : MethodId} {c : Code} {P : Outcome → State → Prop} {pc pc' : Nat} {Ls : Array Slot} {st : List Value} {dflt low high : Int} {offs : Array Int} {len : Nat} {o : Int} {i : Int32} (H : At T m c below) (hx : tb.exec = Jvm.exec) (hd : decode c.code pc = .ok (.tableswitch dflt low high offs, len)) (hin : ¬ (i.toInt < low ∨ i.toInt > high)) (hoff : offs[(i.toInt - low).toNat]? = some o) (hp : (pc : Int) + o = (pc' : Int))
    (k : Gets tb e below P T (mkF m pc' Ls st)) : Gets tb e below P T (mkF m pc Ls (.int i :: st)) := by
  refine k.by fun t qq => ?_
  exact XS.tswIn H hx rfl (pc0 := pc) (pc' := pc') rfl hd rfl hin hoff (by rw [hp]; exact Int.natCast_nonneg _) (by rw [hp]; rfl) qq
theorem g_iincV {tb : Tables} [Ours tb] {e : Env} {below : List Frame} {T : State} {m : MethodId} {c : Code} {P : Outcome → State → Prop} {pc pc' : Nat} {Ls Ls' : Array Slot} {st : List Value} {j : Nat} {cst : Int} {x : Int32} (v : Int32) (H : At T m c below) (hx : tb.exec = Jvm.exec) (hd : decode c.code pc = .ok (.iinc j cst, 3)) (hv : x + Int32.ofInt cst = v) (hl : Ls[j]? = some (.val (.int x))) (hs : storeLocals Ls j (.int v) = some Ls') (hp : pc + 3 = pc')
    (k : Gets tb e below P T (mkF m pc' Ls' st)) : Gets tb e below P T (mkF m pc Ls st) := by
  subst hp; subst hv; refine k.by fun t qq => ?_; exact XS.iinc H hx rfl hd hl hs qq
/-- an array's exact content -/
def Ary (Z : State) (h : Heap) (a : Addr) (ty : FieldType) (vs : List Value) : Prop := ∃ cl : Cell, Arr Z h a cl ty ∧ cl.slots.toList = vs ∧ vs.length < 2 ^ 31 ∧ ∀ v ∈ vs, fits ty v = true
theorem Ary.lt {Z : State} {h : Heap} {a : Addr} {ty : FieldType} {vs : List Value} (F : Ary Z h a ty vs) : a < h.size := by obtain ⟨c, A, -⟩ := F; exact A.lt
theorem Ary.len {Z : State} {h : Heap} {a : Addr} {ty : FieldType} {vs : List Value} (F : Ary Z h a ty vs) : vs.length < 2 ^ 31 := by obtain ⟨c, A, -, q, -⟩ := F; exact q
theorem Ary.keep {Z : State} {h h' : Heap} {a : Addr} {ty : FieldType} {vs : List Value} {ws : List Addr} (F : Ary Z h a ty vs) (K : Keep h h' ws) (q : a ∉ ws) : Ary Z h' a ty vs := by obtain ⟨c, A, r⟩ := F; exact ⟨c, ⟨K.2.1 a c A.1 q, A.2⟩, r⟩
theorem Ary.ext {Z : State} {h h' : Heap} {a : Addr} {ty : FieldType} {vs : List Value} (F : Ary Z h a ty vs) (E : Ext h h') : Ary Z h' a ty vs := by obtain ⟨c, A, r⟩ := F; exact ⟨c, A.ext E, r⟩
theorem Ary.made {Z : State} {h : Heap} {a : Addr} {ty : FieldType} {k : ClassId} {n : Int32} (A : Arr Z h a (newA k ty n) ty) (hn : ¬ n < 0) (hf : fits ty (defaultValue ty) = true) : Ary Z h a ty (List.replicate n.toNatClampNeg (defaultValue ty)) :=
  ⟨_, A, by simp [newA], by rw [List.length_replicate]; exact (back32 hn).2, fun v hv => by rw [(List.mem_replicate.mp hv).2]; exact hf⟩
theorem Ary.of_arv {Z : State} {h : Heap} {a : Addr} {ty : FieldType} {k : ClassId} {z : Int32} {vs : List Value} {d : Value} (F : Arv Z h a k ty z vs d) (hl : z.toNatClampNeg = vs.length) : Ary Z h a ty vs := by
  obtain ⟨c, A, -, sz, hz, H, G⟩ := F
  have e : c.slots.toList = vs := by
    apply List.ext_getElem?
    intro i
    by_cases hi : i < c.slots.size
    · have q := H i hi
      have hi' : i < vs.length := by omega
      rw [Array.getElem?_toList, q]
      simp [List.getD_eq_getElem?_getD, hi']
    · have hi' : vs.length ≤ i := by omega
      rw [Array.getElem?_toList, Array.getElem?_eq_none (by omega), List.getElem?_eq_none hi']
  refine ⟨c, A, e, by rw [← hl]; exact (back32 hz).2, fun v hv => ?_⟩
  obtain ⟨i, hi, rfl⟩ := List.mem_iff_getElem.mp hv
  have q := G i (by omega)
  rwa [List.getD_eq_getElem?_getD, List.getElem?_eq_getElem hi] at q
theorem Ary.wrote {Z : State} {h h' : Heap} {a : Addr} {ty : FieldType} {vs : List Value} {cl : Cell} {v : Value} {i : Nat} (A : Arr Z h a cl ty) (e : cl.slots.toList = vs) (hl : vs.length < 2 ^ 31) (hf : ∀ w ∈ vs, fits ty w = true) (hv : fits ty v = true) (W : Wr h h' a i v) : Ary Z h' a ty (vs.set i v) := by
  refine ⟨cl.setSlot i v, A.same W, ?_, by rw [List.length_set]; exact hl, fun w hw => ?_⟩
  · rw [← e]; simp [Cell.setSlot]
  · rcases List.mem_or_eq_of_mem_set hw with q | q
    · exact hf w q
    · rw [q]; exact hv
theorem size_of_list {cl : Cell} {vs : List Value} (e : cl.slots.toList = vs) : cl.slots.size = vs.length := by rw [← e]; simp
theorem at_of_list {cl : Cell} {vs : List Value} (e : cl.slots.toList = vs) (i : Nat) : cl.slots[i]? = vs[i]? := by rw [← e]; simp
theorem i32_nat {n : Nat} (h : n < 2 ^ 31) : n.toInt32.toNatClampNeg = n := by simp only [Int32.toNatClampNeg, len_toInt h]; rfl
end OwnBase
section OwnWalk
variable {p : Program} {l : Launch} {e : Env} {R : Room} {s : State} {m : MethodId} {args : Array Value} {below : List Frame} {meth : Method} {c : Code} {T : State} {Z : State} {a0 : Array Value} {h : Heap} {EL : List (String × Nat)} {own : String} {cells slots : Nat} {ws nw : List Addr} {P : Outcome → State → Prop} {pc pc' : Nat} {Ls : Array Slot} {st : List Value}
/-- where a walk stands -/
def Wk (p : Program) (l : Launch) (e : Env) (R : Room) (s : State) (m : MethodId) (args : Array Value) (below : List Frame) (meth : Method) (c : Code) (Z : State) (EL : List (String × Nat)) (own : String) (ws nw : List Addr) (T : State) (h : Heap) (cells slots : Nat) : Prop :=
  ∃ (locs : List Loc), Stand p l e R s m args below meth c T locs cells slots ∧ T.heap = h ∧ Z.Warmed39 s.vm ∧ s.vm.findClass own = some m.cls ∧ Fr Z.heap.size locs ∧ Ext Z.heap h ∧ Keep s.heap h ws ∧
    (∀ x : Nat, x ∈ ws → Z.heap.size ≤ x ∧ x < h.size) ∧ (∀ x : Nat, x ∈ nw → s.heap.size ≤ x ∧ Z.heap.size ≤ x ∧ x < h.size)
theorem Wk.here (W : Wk p l e R s m args below meth c Z EL own ws nw T h cells slots) : At T m c below := by obtain ⟨_, X, -⟩ := W; exact X.here
theorem Wk.old (W : Wk p l e R s m args below meth c Z EL own ws nw T h cells slots) : Ext Z.heap h := by obtain ⟨_, -, -, -, -, -, E, -⟩ := W; exact E
theorem Wk.lt (W : Wk p l e R s m args below meth c Z EL own ws nw T h cells slots) {x : Nat} (q : x ∈ nw) : x < h.size := by obtain ⟨_, -, -, -, -, -, -, -, -, n⟩ := W; exact (n x q).2.2
theorem Wk.kept (W : Wk p l e R s m args below meth c Z EL own ws nw T h cells slots) : Keep s.heap h ws := by obtain ⟨_, -, -, -, -, -, -, K, -⟩ := W; exact K
/-- a callee's contract: from the arguments as' and the heap h0 it returns a value v and a heap h' with Q v h'; of the cells of h0 at the most those at ws are written -/
def ConL (wl : List Cond) (l : Launch) (Z : State) (EL : List (String × Nat)) (y : MethodName) (bytes : ByteArray) (maxL : Nat) (ret : Option FieldType) (rm : Room) (as' : Array Value) (h0 : Heap) (ws : List Addr) (Q : Option Value → Heap → Prop) : Prop :=
  MetFree l y (head1 (Cond.code y bytes maxL ret :: wl) rm) (fun a U => a = as' ∧ Z.Warmed39 U.vm ∧ U.heap = h0) (fun _ _ _ _ _ => True)
    (fun _ U o U' => ∃ v L, o = .returned v ∧ (Q v U'.heap ∧ Fr Z.heap.size L ∧ Keep h0 U'.heap ws ∧ Ext Z.heap U'.heap) ∧ FrameEnd U o U' L rm.cells rm.slots)
abbrev Con := ConL []
/-- what a contract's body is to come to -/
def Post (s : State) (Z : State) (EL : List (String × Nat)) (rm : Room) (h0 : Heap) (ws : List Addr) (Q : Option Value → Heap → Prop) (o : Outcome) (t : State) : Prop :=
  ∃ v L, o = .returned v ∧ (Q v t.heap ∧ Fr Z.heap.size L ∧ Keep h0 t.heap ws ∧ Ext Z.heap t.heap) ∧ FrameEnd s o t L rm.cells rm.slots
theorem Con.of {wl : List Cond} {y : MethodName} {bytes : ByteArray} {maxL : Nat} {ret : Option FieldType} {rm : Room} {as' : Array Value} {h0 : Heap} {Q : Option Value → Heap → Prop} (Ls : Array Slot)
    (hy : plainFor y = true) (hE : EW Z a0 EL) (O : Ext Z.heap h0) (hws : ∀ x : Nat, x ∈ ws → Z.heap.size ≤ x ∧ x < h0.size) (hent : ∀ m, entryFrame m as' maxL = mkF m 0 Ls [])
    (body : ∀ (p : Program) (e : Env) (s : State) (m : MethodId) (below : List Frame) (meth : Method) (c : Code) (T : State), p.tables.exec = Jvm.exec → c.code = bytes → c.maxLocals = maxL → meth.name = y.name → meth.sig.returnType = ret → meth.locks = false → s.heap = h0 →
      Wk p l e rm s m as' below meth c Z EL y.cls ws [] T h0 0 0 → Gets p.tables e below (Post s Z EL rm h0 ws Q) T (mkF m 0 Ls [])) :
    ConL wl l Z EL y bytes maxL ret rm as' h0 ws Q := by
  refine MetFree.of_bodySF hy hisR ?_
  intro p e s m args below meth c s₁ Bd hml0 hP hK
  obtain ⟨rfl, hZ, hh⟩ := hP
  have hh' : s.heap = h0 := hh
  have hl : meth.locks = false := Bd.notSynchronized
  have e0 : s₁.heap = h0 := by rw [← hh, Bd.state]; rfl
  have X0 : Stand p l e rm s m args below meth c s₁ [] 0 0 := Stand.of_body Bd
  have W : Wk p l e rm s m args below meth c Z EL y.cls ws [] s₁ h0 0 0 :=
    ⟨[], X0, e0, hZ, findClass_of_methodNamed Bd.named, Fr.nil _, O, by rw [hh']; exact Keep.refl _ _, fun x hx => ⟨(hws x hx).1, (hws x hx).2⟩, fun x hx => (nomatch hx)⟩
  obtain ⟨t, o, h1, h2, h3, h4⟩ := body p e s m below meth c s₁ Bd.exec Bd.bytes hml0 (name_of_methodNamed Bd.named Bd.method).1 Bd.returns hl hh' W
  exact ⟨t, o, by rw [hent m]; exact h1, h2, h3, h4⟩
/-! ends -/
theorem w_end {rm : Room} {h0 : Heap} {Q : Option Value → Heap → Prop} (W : Wk p l e R s m args below meth c Z EL own ws nw T h cells slots) (hh : s.heap = h0) {v : Option Value} {g : JFrame} (hl : meth.locks = false) (hv : meth.sig.returnType = none → v = none)
    (st : ∀ {locs : List Loc} {fs : List Frame}, Stand p l e R s m args below meth c T locs cells slots → (∀ (f : JFrame) (acts : List Action), f.method = m → f.locked = none → f.entered = [] → (doReturn e (T.setTop f) acts v).1 = T.setFrames fs) → Steps p.tables e below (T.setTop g) (T.setFrames fs))
    (hc : cells ≤ rm.cells) (hs : slots ≤ rm.slots) (q : Q v h) : Gets p.tables e below (Post s Z EL rm h0 ws Q) T g := by
  obtain ⟨locs, X, eT, hZ, hown, hF, hO, hK, -, -⟩ := W
  obtain ⟨fs, h1, h2, h3, r1, r2⟩ := X.leave hv hl
  subst hh
  refine ⟨_, _, st X h1, h2, h3, v, locs, rfl, ⟨?_, hF, ?_, ?_⟩, ⟨_, rfl⟩, r1, r2.mono hc hs⟩
  · show Q v T.heap; rw [eT]; exact q
  · show Keep _ T.heap _; rw [eT]; exact hK
  · show Ext _ T.heap; rw [eT]; exact hO
theorem w_retI {rm : Room} {h0 : Heap} {Q : Option Value → Heap → Prop} {z : Int32} (W : Wk p l e R s m args below meth c Z EL own ws nw T h cells slots) (hx : p.tables.exec = Jvm.exec) (hh : s.heap = h0) (hl : meth.locks = false) (hret : meth.sig.returnType = some .int) (hd : decode c.code pc = .ok (.ireturn, 1)) (hc : cells ≤ rm.cells) (hs : slots ≤ rm.slots) (q : Q (some (.int z)) h) :
    Gets p.tables e below (Post s Z EL rm h0 ws Q) T (mkF m pc Ls (.int z :: st)) :=
  w_end W hh hl (fun q => by rw [hret] at q; cases q) (fun X hr => retOut X hx hret rfl (Or.inl ⟨rfl, Or.inl rfl, z, rfl⟩) hd hr) hc hs q
theorem w_retN {rm : Room} {h0 : Heap} {Q : Option Value → Heap → Prop} {z : Int32} {t : FieldType} (W : Wk p l e R s m args below meth c Z EL own ws nw T h cells slots) (hx : p.tables.exec = Jvm.exec) (hh : s.heap = h0) (hl : meth.locks = false) (hret : meth.sig.returnType = some t) (ht : t = .boolean ∨ t = .byte ∨ t = .char ∨ t = .short) (hd : decode c.code pc = .ok (.ireturn, 1)) (hc : cells ≤ rm.cells) (hs : slots ≤ rm.slots) (q : Q (some (.int (nar t z))) h) :
    Gets p.tables e below (Post s Z EL rm h0 ws Q) T (mkF m pc Ls (.int z :: st)) :=
  w_end W hh hl (fun q => by rw [hret] at q; cases q) (fun X hr => retN X hx hret ht hd hr) hc hs q
theorem w_retJ {rm : Room} {h0 : Heap} {Q : Option Value → Heap → Prop} {z : Int64} (W : Wk p l e R s m args below meth c Z EL own ws nw T h cells slots) (hx : p.tables.exec = Jvm.exec) (hh : s.heap = h0) (hl : meth.locks = false) (hret : meth.sig.returnType = some .long) (hd : decode c.code pc = .ok (.lreturn, 1)) (hc : cells ≤ rm.cells) (hs : slots ≤ rm.slots) (q : Q (some (.long z)) h) :
    Gets p.tables e below (Post s Z EL rm h0 ws Q) T (mkF m pc Ls (.long z :: st)) :=
  w_end W hh hl (fun q => by rw [hret] at q; cases q) (fun X hr => retOut X hx hret rfl (Or.inr (Or.inl ⟨rfl, rfl, z, rfl⟩)) hd hr) hc hs q
theorem w_retA {rm : Room} {h0 : Heap} {Q : Option Value → Heap → Prop} {w : Value} {t : FieldType} (W : Wk p l e R s m args below meth c Z EL own ws nw T h cells slots) (hx : p.tables.exec = Jvm.exec) (hh : s.heap = h0) (hl : meth.locks = false) (hret : meth.sig.returnType = some t) (ht : t.isReference = true) (hw : w.isRef = true) (hd : decode c.code pc = .ok (.areturn, 1)) (hc : cells ≤ rm.cells) (hs : slots ≤ rm.slots) (q : Q (some w) h) :
    Gets p.tables e below (Post s Z EL rm h0 ws Q) T (mkF m pc Ls (w :: st)) :=
  w_end W hh hl (fun q => by rw [hret] at q; cases q) (fun X hr => retOut X hx hret (by cases t <;> cases w <;> simp [FieldType.isReference, Value.isRef, narrow] at ht hw ⊢) (Or.inr (Or.inr (Or.inr (Or.inr ⟨rfl, ht, hw⟩)))) hd hr) hc hs q
theorem w_retV {rm : Room} {h0 : Heap} {Q : Option Value → Heap → Prop} (W : Wk p l e R s m args below meth c Z EL own ws nw T h cells slots) (hx : p.tables.exec = Jvm.exec) (hh : s.heap = h0) (hl : meth.locks = false) (hret : meth.sig.returnType = none) (hd : decode c.code pc = .ok (.return_, 1)) (hc : cells ≤ rm.cells) (hs : slots ≤ rm.slots) (q : Q none h) :
    Gets p.tables e below (Post s Z EL rm h0 ws Q) T (mkF m pc Ls []) :=
  w_end W hh hl (fun _ => rfl) (fun X hr => X.returnOut hx hret hd hr) hc hs q
/-! steps that leave the heap as it is -/
theorem w_get (W : Wk p l e R s m args below meth c Z EL own ws nw T h cells slots) (hx : p.tables.exec = Jvm.exec) {R0 O n d : String} {index : Nat} (w : (Cond.fieldLink own index R0 n d).before a0 Z = true) (via : Via Z R0 O n d) {a : Nat} {v : Value} (F : Fld Z h a O n d v) (hd : decode c.code pc = .ok (.getfield index, 3)) (hp : pc + 3 = pc')
    (k : ∀ T', Wk p l e R s m args below meth c Z EL own ws nw T' h cells slots → Gets p.tables e below P T' (mkF m pc' Ls (v :: st))) : Gets p.tables e below P T (mkF m pc Ls (.ref a :: st)) := by
  subst hp
  obtain ⟨locs, X, eT, hZ, hown, r⟩ := W
  obtain ⟨T', X', e', stp⟩ := getF X hx hZ hown (host := "") (Or.inl w) via eT F (g := mkF m pc Ls (.ref a :: st)) rfl rfl hd
  exact (k T' ⟨locs, X', e', hZ, hown, r⟩).by stp
theorem w_getS (W : Wk p l e R s m args below meth c Z EL own ws nw T h cells slots) (hx : p.tables.exec = Jvm.exec) {R0 O n d : String} {index : Nat} (w : (Cond.fieldLink own index R0 n d).before a0 Z = true) (via : Via Z R0 O n d) {v : Value} (F : Sta Z Z.heap O n d v) (hd : decode c.code pc = .ok (.getstatic index, 3)) (hp : pc + 3 = pc')
    (k : ∀ T', Wk p l e R s m args below meth c Z EL own ws nw T' h cells slots → Gets p.tables e below P T' (mkF m pc' Ls (v :: st))) : Gets p.tables e below P T (mkF m pc Ls st) := by
  subst hp
  have O := W.old
  obtain ⟨locs, X, eT, hZ, hown, r⟩ := W
  obtain ⟨T', X', e', stp⟩ := getS X hx hZ hown (host := "") w via eT (F.ext O) (g := mkF m pc Ls st) rfl hd
  exact (k T' ⟨locs, X', e', hZ, hown, r⟩).by stp
theorem w_ldcI (W : Wk p l e R s m args below meth c Z EL own ws nw T h cells slots) (hx : p.tables.exec = Jvm.exec) {index : Nat} {v : Int32} (w : (Cond.constant own index v).before a0 Z = true) (hd : decode c.code pc = .ok (.ldc index, 2)) (hp : pc + 2 = pc')
    (k : Gets p.tables e below P T (mkF m pc' Ls (.int v :: st))) : Gets p.tables e below P T (mkF m pc Ls st) := by
  subst hp
  obtain ⟨locs, X, eT, hZ, hown, r⟩ := W
  exact k.by fun t q => Jvm.Stand.ldcI X hx hown (mv hZ w) (g := mkF m pc Ls st) rfl hd q
theorem w_ldc2J (W : Wk p l e R s m args below meth c Z EL own ws nw T h cells slots) (hx : p.tables.exec = Jvm.exec) {index : Nat} {v : Int64} (w : (Cond.constantLong own index v).before a0 Z = true) (hd : decode c.code pc = .ok (.ldc2_w index, 3)) (hp : pc + 3 = pc')
    (k : Gets p.tables e below P T (mkF m pc' Ls (.long v :: st))) : Gets p.tables e below P T (mkF m pc Ls st) := by
  subst hp
  obtain ⟨locs, X, eT, hZ, hown, r⟩ := W
  exact k.by fun t q => Jvm.Stand.ldc2J X hx hown (mv hZ w) (g := mkF m pc Ls st) rfl hd q
theorem w_acmp (W : Wk p l e R s m args below meth c Z EL own ws nw T h cells slots) (hx : p.tables.exec = Jvm.exec) {cd : ACond} {x y : Value} {o : Int} (h1 : x.isRef = true) (h2 : y.isRef = true) (same : Bool) (hd : decode c.code pc = .ok (.if_acmp cd o, 3)) (hq : decide (x = y) = same) (ho : 0 ≤ (pc : Int) + o) (hp : pc' = if acV cd same = true then ((pc : Int) + o).toNat else pc + 3)
    (k : Gets p.tables e below P T (mkF m pc' Ls st)) : Gets p.tables e below P T (mkF m pc Ls (y :: x :: st)) := by
  obtain ⟨locs, X, r⟩ := W
  exact k.by fun t q => Jvm.RoadKit.acmp (g := mkF m pc Ls (y :: x :: st)) X hx rfl h1 h2 (pc0 := pc) (pc' := pc') rfl hd rfl hq ho hp q
theorem w_cast (W : Wk p l e R s m args below meth c Z EL own ws nw T h cells slots) (hx : p.tables.exec = Jvm.exec) {K : String} {index : Nat} (w : (Cond.classLink own index K).before a0 Z = true) {a : Nat} (F : Ins Z h a K true) (hd : decode c.code pc = .ok (.checkcast index, 3)) (hp : pc + 3 = pc')
    (k : ∀ T', Wk p l e R s m args below meth c Z EL own ws nw T' h cells slots → Gets p.tables e below P T' (mkF m pc' Ls (.ref a :: st))) : Gets p.tables e below P T (mkF m pc Ls (.ref a :: st)) := by
  subst hp
  obtain ⟨locs, X, eT, hZ, hown, r⟩ := W
  obtain ⟨T', X', e', stp⟩ := castY X hx hZ hown w eT F (g := mkF m pc Ls (.ref a :: st)) rfl rfl hd
  exact (k T' ⟨locs, X', e', hZ, hown, r⟩).by stp
theorem w_inst (W : Wk p l e R s m args below meth c Z EL own ws nw T h cells slots) (hx : p.tables.exec = Jvm.exec) {K : String} {index : Nat} (w : (Cond.classLink own index K).before a0 Z = true) {a : Nat} (F : Ins Z h a K true) (hd : decode c.code pc = .ok (.instanceof index, 3)) (hp : pc + 3 = pc')
    (k : ∀ T', Wk p l e R s m args below meth c Z EL own ws nw T' h cells slots → Gets p.tables e below P T' (mkF m pc' Ls (.int 1 :: st))) : Gets p.tables e below P T (mkF m pc Ls (.ref a :: st)) := by
  subst hp
  obtain ⟨locs, X, eT, hZ, hown, r⟩ := W
  obtain ⟨T', X', e', stp⟩ := instY X hx hZ hown w eT F (g := mkF m pc Ls (.ref a :: st)) rfl rfl hd
  exact (k T' ⟨locs, X', e', hZ, hown, r⟩).by stp
theorem w_len (W : Wk p l e R s m args below meth c Z EL own ws nw T h cells slots) (hx : p.tables.exec = Jvm.exec) {a : Nat} {ty : FieldType} {vs : List Value} (F : Ary Z h a ty vs) (hd : decode c.code pc = .ok (.arraylength, 1)) (hp : pc + 1 = pc')
    (k : Gets p.tables e below P T (mkF m pc' Ls (.int vs.length.toInt32 :: st))) : Gets p.tables e below P T (mkF m pc Ls (.ref a :: st)) := by
  subst hp
  obtain ⟨locs, X, eT, hZ, hown, r⟩ := W
  obtain ⟨cl, A, e1, -, -⟩ := F
  refine k.by fun t q => X.arraylength hx (by rw [eT]; exact A.1) (State.isArrayOf_alike hZ.alike A.2.1) (g := mkF m pc Ls (.ref a :: st)) rfl rfl hd t ?_
  rw [size_of_list e1]; exact q
theorem in_of {cl : Cell} {vs : List Value} {j : Int32} {v : Value} (e : cl.slots.toList = vs) (hj : ¬ j < 0) (hv : vs[j.toNatClampNeg]? = some v) : ¬ (j < 0 ∨ cl.slots.size ≤ j.toNatClampNeg) ∧ cl.slots[j.toNatClampNeg]? = some v := by
  refine ⟨fun q => q.elim hj fun q => ?_, by rw [at_of_list e]; exact hv⟩
  have := (List.getElem?_eq_some_iff.mp hv).1
  rw [size_of_list e] at q; omega
theorem w_caload (W : Wk p l e R s m args below meth c Z EL own ws nw T h cells slots) (hx : p.tables.exec = Jvm.exec) {a : Nat} {vs : List Value} {j : Int32} {v : Value} (F : Ary Z h a .char vs) (hj : ¬ j < 0) (hv : vs[j.toNatClampNeg]? = some v) (hd : decode c.code pc = .ok (.caload, 1)) (hp : pc + 1 = pc')
    (k : Gets p.tables e below P T (mkF m pc' Ls (v :: st))) : Gets p.tables e below P T (mkF m pc Ls (.int j :: .ref a :: st)) := by
  subst hp
  obtain ⟨locs, X, eT, hZ, hown, r⟩ := W
  obtain ⟨cl, A, e1, -, -⟩ := F
  obtain ⟨q1, q2⟩ := in_of e1 hj hv
  exact k.by fun t q => X.caload hx (by rw [eT]; exact A.1) (State.isArrayOf_alike hZ.alike A.2.1) A.2.2 q1 q2 (g := mkF m pc Ls (.int j :: .ref a :: st)) rfl rfl hd t q
theorem w_baload (W : Wk p l e R s m args below meth c Z EL own ws nw T h cells slots) (hx : p.tables.exec = Jvm.exec) {a : Nat} {vs : List Value} {j : Int32} {v : Value} (F : Ary Z h a .byte vs) (hj : ¬ j < 0) (hv : vs[j.toNatClampNeg]? = some v) (hd : decode c.code pc = .ok (.baload, 1)) (hp : pc + 1 = pc')
    (k : Gets p.tables e below P T (mkF m pc' Ls (v :: st))) : Gets p.tables e below P T (mkF m pc Ls (.int j :: .ref a :: st)) := by
  subst hp
  obtain ⟨locs, X, eT, hZ, hown, r⟩ := W
  obtain ⟨cl, A, e1, -, -⟩ := F
  obtain ⟨q1, q2⟩ := in_of e1 hj hv
  exact k.by fun t q => X.baloadBytes hx (by rw [eT]; exact A.1) (State.isArrayOf_alike hZ.alike A.2.1) A.2.2 q1 q2 (g := mkF m pc Ls (.int j :: .ref a :: st)) rfl rfl hd t q
theorem w_iaload (W : Wk p l e R s m args below meth c Z EL own ws nw T h cells slots) (hx : p.tables.exec = Jvm.exec) {a : Nat} {vs : List Value} {j : Int32} {v : Value} (F : Ary Z h a .int vs) (hj : ¬ j < 0) (hv : vs[j.toNatClampNeg]? = some v) (hd : decode c.code pc = .ok (.iaload, 1)) (hp : pc + 1 = pc')
    (k : Gets p.tables e below P T (mkF m pc' Ls (v :: st))) : Gets p.tables e below P T (mkF m pc Ls (.int j :: .ref a :: st)) := by
  subst hp
  obtain ⟨locs, X, eT, hZ, hown, r⟩ := W
  obtain ⟨cl, A, e1, -, -⟩ := F
  obtain ⟨q1, q2⟩ := in_of e1 hj hv
  exact k.by fun t q => X.iaload hx (by rw [eT]; exact A.1) (State.isArrayOf_alike hZ.alike A.2.1) A.2.2 q1 q2 (g := mkF m pc Ls (.int j :: .ref a :: st)) rfl rfl hd t q
theorem w_aaload (W : Wk p l e R s m args below meth c Z EL own ws nw T h cells slots) (hx : p.tables.exec = Jvm.exec) {a : Nat} {ty : FieldType} {vs : List Value} {j : Int32} {v : Value} (F : Ary Z h a ty vs) (hty : ty.isReference = true) (hj : ¬ j < 0) (hv : vs[j.toNatClampNeg]? = some v) (hd : decode c.code pc = .ok (.aaload, 1)) (hp : pc + 1 = pc')
    (k : Gets p.tables e below P T (mkF m pc' Ls (v :: st))) : Gets p.tables e below P T (mkF m pc Ls (.int j :: .ref a :: st)) := by
  subst hp
  obtain ⟨locs, X, eT, hZ, hown, r⟩ := W
  obtain ⟨cl, A, e1, -, -⟩ := F
  obtain ⟨q1, q2⟩ := in_of e1 hj hv
  exact k.by fun t q => X.aaload hx (by rw [eT]; exact A.1) (State.isArrayOf_alike hZ.alike A.2.1) hty A.2.2 q1 q2 (g := mkF m pc Ls (.int j :: .ref a :: st)) rfl rfl hd t q
theorem w_aaloadA (W : Wk p l e R s m args below meth c Z EL own ws nw T h cells slots) (hx : p.tables.exec = Jvm.exec) {a : Nat} {ty : FieldType} {cl : Cell} {j : Int32} {v : Value} (A : Arr Z h a cl ty) (hty : ty.isReference = true) (hin : ¬ (j < 0 ∨ cl.slots.size ≤ j.toNatClampNeg)) (hv : cl.slots[j.toNatClampNeg]? = some v) (hd : decode c.code pc = .ok (.aaload, 1)) (hp : pc + 1 = pc')
    (k : Gets p.tables e below P T (mkF m pc' Ls (v :: st))) : Gets p.tables e below P T (mkF m pc Ls (.int j :: .ref a :: st)) := by
  subst hp
  obtain ⟨locs, X, eT, hZ, hown, r⟩ := W
  exact k.by fun t q => X.aaload hx (by rw [eT]; exact A.1) (State.isArrayOf_alike hZ.alike A.2.1) hty A.2.2 hin hv (g := mkF m pc Ls (.int j :: .ref a :: st)) rfl rfl hd t q
theorem w_initO (W : Wk p l e R s m args below meth c Z EL own ws nw T h cells slots) (hx : p.tables.exec = Jvm.exec) {idx : Nat} (w1 : (Cond.methodLink own idx Lib.objectInit).before a0 Z = true) (w2 : (Cond.instanceMethod Lib.objectInit).before a0 Z = true) (w3 : (Cond.code Lib.objectInit ⟨#[0xb1]⟩ 1 none).before a0 Z = true) {a : Nat} (hsz : Ls.size = c.maxLocals) (hd : decode c.code pc = .ok (.invokespecial idx, 3)) (hf : 1 ≤ R.frames) (hW : (st.map fun v => v.category).sum + 12 ≤ R.locals) (hp : pc + 3 = pc')
    (k : ∀ T', Wk p l e R s m args below meth c Z EL own ws nw T' h cells slots → Gets p.tables e below P T' (mkF m pc' Ls st)) : Gets p.tables e below P T (mkF m pc Ls (.ref a :: st)) := by
  subst hp
  obtain ⟨locs, X, eT, hZ, hown, r⟩ := W
  obtain ⟨T', X', e', stp⟩ := initO X hx hZ hown w1 w2 w3 eT (g := mkF m pc Ls (.ref a :: st)) rfl hsz rfl hd hf (W := (st.map fun v => v.category).sum) (by show 2 * 0 + _ ≤ _; omega) hW
  exact (k T' ⟨locs, X', e', hZ, hown, r⟩).by stp
/-! steps that move the heap -/
theorem w_new (W : Wk p l e R s m args below meth c Z EL own ws nw T h cells slots) (hx : p.tables.exec = Jvm.exec) {C : String} {index n : Nat} (w : (Cond.classLink own index C).before a0 Z = true) (wi : (Cond.instantiable C n).before a0 Z = true) (wz : (Cond.initialized C).before a0 Z = true) (hd : decode c.code pc = .ok (.new index, 3)) (hc : cells + 1 ≤ R.cells) (hl : slots + n ≤ R.slots) (hp : pc + 3 = pc')
    (k : ∀ (T' : State) (h' : Heap) (b : Nat), b = h.size → Wk p l e R s m args below meth c Z EL own ws (b :: nw) T' h' (cells + 1) (slots + n) → Keep h h' [] → Exa Z h' b C → (∀ {O nm d : String} {ty : FieldType}, Laid Z a0 C O nm d → parseFieldDescriptor d = some ty → Fld Z h' b O nm d (defaultValue ty)) → Gets p.tables e below P T' (mkF m pc' Ls (.ref b :: st))) : Gets p.tables e below P T (mkF m pc Ls st) := by
  subst hp
  obtain ⟨locs, X, eT, hZ, hown, hF, hO, hK, n1, n2⟩ := W
  obtain ⟨T', h', X', e', E, A, D, -, stp⟩ := newO X hx hZ hown w wi wz eT (g := mkF m pc Ls st) rfl hd hc hl
  have hn : h.size < h'.size := A.lt
  have hs : s.heap.size ≤ h.size := hK.1
  refine (k T' h' h.size rfl ⟨locs, X', e', hZ, hown, hF, ⟨Nat.le_trans hO.1 E.1, fun a c q => E.2 a c (hO.2 a c q)⟩, hK.ext E, fun x hx => ?_, fun x hx => ?_⟩ ((Keep.refl h []).ext E) A D).by stp
  · obtain ⟨a, b⟩ := n1 x hx
    exact ⟨a, Nat.lt_of_lt_of_le b E.1⟩
  · rcases List.mem_cons.mp hx with rfl | hx
    · exact ⟨hs, hO.1, hn⟩
    · obtain ⟨a, b, c⟩ := n2 x hx
      exact ⟨a, b, Nat.lt_of_lt_of_le c E.1⟩
theorem w_newarr (W : Wk p l e R s m args below meth c Z EL own ws nw T h cells slots) (hx : p.tables.exec = Jvm.exec) {aty : ArrayType} (w : (Cond.arrayClass (newarray.typeOf aty)).before a0 Z = true) {n : Int32} (hd : decode c.code pc = .ok (.newarray aty, 2)) (hn : ¬ n < 0) {cap : Nat} (hcap : n.toNatClampNeg ≤ cap) (hb : cap * 8 ≤ 536870912) (hc : cells + 1 ≤ R.cells) (hl : slots + cap ≤ R.slots) (hf : fits (newarray.typeOf aty) (defaultValue (newarray.typeOf aty)) = true) (hp : pc + 2 = pc')
    (k : ∀ (T' : State) (h' : Heap) (b : Nat), b = h.size → Wk p l e R s m args below meth c Z EL own ws (b :: nw) T' h' (cells + 1) (slots + cap) → Keep h h' [] → Ary Z h' b (newarray.typeOf aty) (List.replicate n.toNatClampNeg (defaultValue (newarray.typeOf aty))) → Gets p.tables e below P T' (mkF m pc' Ls (.ref b :: st))) : Gets p.tables e below P T (mkF m pc Ls (.int n :: st)) := by
  subst hp
  obtain ⟨locs, X, eT, hZ, hown, hF, hO, hK, n1, n2⟩ := W
  obtain ⟨T', h', cA, X', e', E, A, stp⟩ := newP X hx hZ w eT (g := mkF m pc Ls (.int n :: st)) rfl hd rfl hn hcap hb hc hl
  have hn' : h.size < h'.size := A.lt
  have hs : s.heap.size ≤ h.size := hK.1
  refine (k T' h' h.size rfl ⟨locs, X', e', hZ, hown, hF, ⟨Nat.le_trans hO.1 E.1, fun a c q => E.2 a c (hO.2 a c q)⟩, hK.ext E, fun x hx => ?_, fun x hx => ?_⟩ ((Keep.refl h []).ext E) (Ary.made A hn hf)).by stp
  · obtain ⟨a, b⟩ := n1 x hx
    exact ⟨a, Nat.lt_of_lt_of_le b E.1⟩
  · rcases List.mem_cons.mp hx with rfl | hx
    · exact ⟨hs, hO.1, hn'⟩
    · obtain ⟨a, b, c⟩ := n2 x hx
      exact ⟨a, b, Nat.lt_of_lt_of_le c E.1⟩
theorem Wk.wrote {locs : List Loc} {T' : State} {h' : Heap} {a : Nat} {sl : Nat} {v : Value} (ha : a ∈ ws ++ nw) (WW : Wr h h' a sl v) (X' : Stand p l e R s m args below meth c T' (locs ++ [⟨a, sl⟩]) cells slots) (e' : T'.heap = h')
    (r : Z.Warmed39 s.vm ∧ s.vm.findClass own = some m.cls ∧ Fr Z.heap.size locs ∧ Ext Z.heap h ∧ Keep s.heap h ws ∧ (∀ x : Nat, x ∈ ws → Z.heap.size ≤ x ∧ x < h.size) ∧ (∀ x : Nat, x ∈ nw → s.heap.size ≤ x ∧ Z.heap.size ≤ x ∧ x < h.size)) :
    Wk p l e R s m args below meth c Z EL own ws nw T' h' cells slots := by
  obtain ⟨hZ, hown, hF, hO, hK, n1, n2⟩ := r
  have sz := WW.size
  have key : Z.heap.size ≤ a ∧ (a ∈ ws ∨ s.heap.size ≤ a) := by
    rcases List.mem_append.mp ha with q | q
    · exact ⟨(n1 a q).1, Or.inl q⟩
    · exact ⟨(n2 a q).2.1, Or.inr (n2 a q).1⟩
  have K1 : Keep h h' [a] := Keep.of_wr WW
  refine ⟨locs ++ [⟨a, sl⟩], X', e', hZ, hown, Fr.snoc X' hF key.1, ⟨by have := hO.1; omega, fun x cc q => K1.2.1 x cc (hO.2 x cc q) fun z => ?_⟩, hK.wr WW key.2, fun x hx => ?_, fun x hx => ?_⟩
  · cases List.mem_singleton.mp z
    have := (Array.getElem?_eq_some_iff.mp q).1
    omega
  · obtain ⟨q1, q2⟩ := n1 x hx
    exact ⟨q1, by omega⟩
  · obtain ⟨q1, q2, q3⟩ := n2 x hx
    exact ⟨q1, q2, by omega⟩
theorem w_put (W : Wk p l e R s m args below meth c Z EL own ws nw T h cells slots) (hx : p.tables.exec = Jvm.exec) {R0 O n d C : String} {index kk : Nat} {ty : FieldType} (w : (Cond.fieldLink own index R0 n d).before a0 Z = true) (via : Via Z R0 O n d) {a : Nat} {v old : Value} (F : Fld Z h a O n d old) (E : Exa Z h a C) (L : (Cond.lays C O n d).before a0 Z = true ∨ ((Cond.laysFinal C O n d).before a0 Z = true ∧ own = O ∧ meth.name = "<init>")) (wi : (Cond.instantiable C kk).before a0 Z = true)
    (hty : parseFieldDescriptor d = some ty) (hn : narrow ty v = v) (hf : fits ty v = true) (ha : a ∈ ws ++ nw) (hd : decode c.code pc = .ok (.putfield index, 3)) (hp : pc + 3 = pc')
    (k : ∀ T' h', Wk p l e R s m args below meth c Z EL own ws nw T' h' cells slots → Keep h h' [a] → Wr h h' a (Jvm.RoadKit.slotOf Z O n d) v → Fld Z h' a O n d v → Exa Z h' a C → Gets p.tables e below P T' (mkF m pc' Ls st)) : Gets p.tables e below P T (mkF m pc Ls (v :: .ref a :: st)) := by
  subst hp
  obtain ⟨locs, X, eT, r⟩ := W
  obtain ⟨T', h', X', e', WW, stp⟩ := putF X hx r.1 r.2.1 (host := "") (Or.inl w) via eT F E L wi hty hn hf (g := mkF m pc Ls (v :: .ref a :: st)) rfl rfl hd
  exact (k T' h' (Wk.wrote ha WW X' e' r) (Keep.of_wr WW) WW (F.same WW) (E.wr WW)).by stp
theorem w_putN (W : Wk p l e R s m args below meth c Z EL own ws nw T h cells slots) (hx : p.tables.exec = Jvm.exec) {R0 O n d C : String} {index kk : Nat} {ty : FieldType} (w : (Cond.fieldLink own index R0 n d).before a0 Z = true) (via : Via Z R0 O n d) {a : Nat} {v v' old : Value} (F : Fld Z h a O n d old) (E : Exa Z h a C) (L : (Cond.lays C O n d).before a0 Z = true ∨ ((Cond.laysFinal C O n d).before a0 Z = true ∧ own = O ∧ meth.name = "<init>")) (wi : (Cond.instantiable C kk).before a0 Z = true)
    (hty : parseFieldDescriptor d = some ty) (hn : narrow ty v = v') (hf : fits ty v' = true) (ha : a ∈ ws ++ nw) (hd : decode c.code pc = .ok (.putfield index, 3)) (hp : pc + 3 = pc')
    (k : ∀ T' h', Wk p l e R s m args below meth c Z EL own ws nw T' h' cells slots → Keep h h' [a] → Wr h h' a (Jvm.RoadKit.slotOf Z O n d) v' → Fld Z h' a O n d v' → Exa Z h' a C → Gets p.tables e below P T' (mkF m pc' Ls st)) : Gets p.tables e below P T (mkF m pc Ls (v :: .ref a :: st)) := by
  subst hp
  obtain ⟨locs, X, eT, r⟩ := W
  obtain ⟨T', h', X', e', WW, stp⟩ := putFN X hx r.1 r.2.1 w via eT F E L wi hty hn hf (g := mkF m pc Ls (v :: .ref a :: st)) rfl rfl hd
  exact (k T' h' (Wk.wrote ha WW X' e' r) (Keep.of_wr WW) WW (F.same WW) (E.wr WW)).by stp
theorem w_castore (W : Wk p l e R s m args below meth c Z EL own ws nw T h cells slots) (hx : p.tables.exec = Jvm.exec) {a : Nat} {vs : List Value} {j x : Int32} (F : Ary Z h a .char vs) (hj : ¬ j < 0) (hi : j.toNatClampNeg < vs.length) (ha : a ∈ ws ++ nw) {x' : Int32} (hq : nar .char x = x') (hd : decode c.code pc = .ok (.castore, 1)) (hp : pc + 1 = pc')
    (k : ∀ T' h', Wk p l e R s m args below meth c Z EL own ws nw T' h' cells slots → Keep h h' [a] → Ary Z h' a .char (vs.set j.toNatClampNeg (.int x')) → Gets p.tables e below P T' (mkF m pc' Ls st)) : Gets p.tables e below P T (mkF m pc Ls (.int x :: .int j :: .ref a :: st)) := by
  subst hp; subst hq
  obtain ⟨locs, X, eT, r⟩ := W
  obtain ⟨cl, A, e1, e2, e3⟩ := F
  obtain ⟨T', h', X', e', WW, stp⟩ := stC X hx r.1 eT A (j := j) (x := x) (fun q => q.elim hj fun q => by rw [size_of_list e1] at q; omega) (g := mkF m pc Ls (.int x :: .int j :: .ref a :: st)) rfl rfl hd
  exact (k T' h' (Wk.wrote ha WW X' e' r) (Keep.of_wr WW) (Ary.wrote A e1 e2 e3 (fits_nar_char x) WW)).by stp
theorem w_bastore (W : Wk p l e R s m args below meth c Z EL own ws nw T h cells slots) (hx : p.tables.exec = Jvm.exec) {a : Nat} {vs : List Value} {j x : Int32} (F : Ary Z h a .byte vs) (hj : ¬ j < 0) (hi : j.toNatClampNeg < vs.length) (ha : a ∈ ws ++ nw) {x' : Int32} (hq : x.toInt8.toInt32 = x') (hd : decode c.code pc = .ok (.bastore, 1)) (hp : pc + 1 = pc')
    (k : ∀ T' h', Wk p l e R s m args below meth c Z EL own ws nw T' h' cells slots → Keep h h' [a] → Ary Z h' a .byte (vs.set j.toNatClampNeg (.int x')) → Gets p.tables e below P T' (mkF m pc' Ls st)) : Gets p.tables e below P T (mkF m pc Ls (.int x :: .int j :: .ref a :: st)) := by
  subst hp; subst hq
  obtain ⟨locs, X, eT, r⟩ := W
  obtain ⟨cl, A, e1, e2, e3⟩ := F
  obtain ⟨T', h', X', e', WW, stp⟩ := stB X hx r.1 eT A (j := j) (x := x) (fun q => q.elim hj fun q => by rw [size_of_list e1] at q; omega) (g := mkF m pc Ls (.int x :: .int j :: .ref a :: st)) rfl rfl hd
  exact (k T' h' (Wk.wrote ha WW X' e' r) (Keep.of_wr WW) (Ary.wrote A e1 e2 e3 (fits_nar_byte x) WW)).by stp
theorem w_iastore (W : Wk p l e R s m args below meth c Z EL own ws nw T h cells slots) (hx : p.tables.exec = Jvm.exec) {a : Nat} {vs : List Value} {j x : Int32} (F : Ary Z h a .int vs) (hj : ¬ j < 0) (hi : j.toNatClampNeg < vs.length) (ha : a ∈ ws ++ nw) (hd : decode c.code pc = .ok (.iastore, 1)) (hp : pc + 1 = pc')
    (k : ∀ T' h', Wk p l e R s m args below meth c Z EL own ws nw T' h' cells slots → Keep h h' [a] → Ary Z h' a .int (vs.set j.toNatClampNeg (.int x)) → Gets p.tables e below P T' (mkF m pc' Ls st)) : Gets p.tables e below P T (mkF m pc Ls (.int x :: .int j :: .ref a :: st)) := by
  subst hp
  obtain ⟨locs, X, eT, r⟩ := W
  obtain ⟨cl, A, e1, e2, e3⟩ := F
  obtain ⟨T', h', X', e', WW, stp⟩ := stI X hx r.1 eT A (j := j) (x := x) (fun q => q.elim hj fun q => by rw [size_of_list e1] at q; omega) (g := mkF m pc Ls (.int x :: .int j :: .ref a :: st)) rfl rfl hd
  exact (k T' h' (Wk.wrote ha WW X' e' r) (Keep.of_wr WW) (Ary.wrote A e1 e2 e3 rfl WW)).by stp
/-! calls -/
theorem backC {y : MethodName} {bytes : ByteArray} {maxL : Nat} {ret : Option FieldType} {rm : Room} {len W : Nat} {as' : Array Value} {Q : Option Value → Heap → Prop} {wsc : List Addr}
    (hM : Con l Z EL y bytes maxL ret rm as' h wsc Q) (hZ : Z.Warmed39 s.vm) (wc : (Cond.code y bytes maxL ret).before a0 Z = true) (wz : (Cond.initialized y.cls).before a0 Z = true) (hf : rm.frames + 1 ≤ R.frames) (hl : W + (maxL + 11) + rm.locals ≤ R.locals) :
    Back l R p e below s args y len W (fun A a => a = as' ∧ A.U.heap = h ∧ A.cells + rm.cells ≤ R.cells ∧ A.slots + rm.slots ≤ R.slots)
      (fun A _ v B => ∃ L, (Q v B.U.heap ∧ Fr Z.heap.size L ∧ Keep h B.U.heap wsc ∧ Ext Z.heap B.U.heap) ∧ B.locs = A.locs ++ L ∧ B.cells = A.cells + rm.cells ∧ B.slots = A.slots + rm.slots) :=
  backOf (Q := fun v h' L => Q v h' ∧ Fr Z.heap.size L ∧ Keep h h' wsc ∧ Ext Z.heap h') hM hZ wc wz hf hl
theorem Wk.called {locs L : List Loc} {T' : State} {h' : Heap} {wsc : List Addr} {c' s' : Nat} (hw : ∀ x ∈ wsc, x ∈ ws ++ nw) (X' : Stand p l e R s m args below meth c T' (locs ++ L) c' s') (e' : T'.heap = h') (F : Fr Z.heap.size L) (K : Keep h h' wsc) (O' : Ext Z.heap h')
    (r : Z.Warmed39 s.vm ∧ s.vm.findClass own = some m.cls ∧ Fr Z.heap.size locs ∧ Ext Z.heap h ∧ Keep s.heap h ws ∧ (∀ x : Nat, x ∈ ws → Z.heap.size ≤ x ∧ x < h.size) ∧ (∀ x : Nat, x ∈ nw → s.heap.size ≤ x ∧ Z.heap.size ≤ x ∧ x < h.size)) :
    Wk p l e R s m args below meth c Z EL own ws nw T' h' c' s' := by
  obtain ⟨hZ, hown, hF, hO, hK, n1, n2⟩ := r
  have sz := K.1
  refine ⟨locs ++ L, X', e', hZ, hown, Fr.app hF F, O', hK.trans K (fun x hx => ?_), fun x hx => ?_, fun x hx => ?_⟩
  · rcases List.mem_append.mp (hw x hx) with q | q
    · exact Or.inl q
    · exact Or.inr (n2 x q).1
  · obtain ⟨q1, q2⟩ := n1 x hx
    exact ⟨q1, by omega⟩
  · obtain ⟨q1, q2, q3⟩ := n2 x hx
    exact ⟨q1, q2, by omega⟩
theorem w_callS (W : Wk p l e R s m args below meth c Z EL own ws nw T h cells slots) (hx : p.tables.exec = Jvm.exec) {index : Nat} {y : MethodName} {bytes : ByteArray} {maxL : Nat} {ret : Option FieldType} {rm : Room} {Q : Option Value → Heap → Prop} {wsc : List Addr} (argsL : List Value)
    (w1 : (Cond.methodLink own index y).before a0 Z = true) (w2 : (Cond.static y).before a0 Z = true) (w3 : (Cond.initialized y.cls).before a0 Z = true) (w4 : (Cond.code y bytes maxL ret).before a0 Z = true) (hy : y.cls ≠ "java/lang/invoke/MethodHandle" ∧ y.cls ≠ "java/lang/invoke/VarHandle")
    (H : Con l Z EL y bytes maxL ret rm argsL.toArray h wsc Q) (hwc : ∀ x ∈ wsc, x ∈ ws ++ nw) (hsz : Ls.size = c.maxLocals) (hlen : ∀ sig, parseMethodDescriptor y.desc = some sig → argsL.length = sig.parameters.length) {stk : List Value} (hstk : stk = argsL.reverse ++ st) (hd : decode c.code pc = .ok (.invokestatic index, 3))
    (hf : rm.frames + 1 ≤ R.frames) (hl : (st.map fun v => v.category).sum + (maxL + 11) + rm.locals ≤ R.locals) (hc : cells + rm.cells ≤ R.cells) (hs : slots + rm.slots ≤ R.slots) (hp : pc + 3 = pc')
    (k : ∀ v T' h', Wk p l e R s m args below meth c Z EL own ws nw T' h' (cells + rm.cells) (slots + rm.slots) → Keep h h' wsc → Q v h' → Gets p.tables e below P T' (mkF m pc' Ls (v.toList ++ st))) : Gets p.tables e below P T (mkF m pc Ls stk) := by
  subst hp
  obtain ⟨locs, X, eT, r⟩ := W
  obtain ⟨hZ, hown, hF, hO, hK, n1, n2⟩ := id r
  obtain ⟨v, vm1, ⟨T', L', c', s'⟩, -, X', ⟨L, ⟨q1, q2, q3, q4⟩, l1, l2, l3⟩, stp⟩ := Jvm.LawKit.callS X hx (y := y) hown (mv hZ w1) (mv hZ w2) (mv hZ w3) (mv hZ w4) hy (backC (W := (st.map fun v => v.category).sum) H hZ w4 w3 hf hl) (g := mkF m pc Ls stk) rfl hsz (argsL := argsL) (rest := st) hlen hstk (by show 2 * 0 + _ ≤ _; omega) hd (fun _ _ => ⟨rfl, eT, hc, hs⟩)
  dsimp only [Pt.U, Pt.locs, Pt.cells, Pt.slots] at X' q1 q3 q4 l1 l2 l3 stp
  subst l1 l2 l3
  exact (k v T' _ (Wk.called (h' := T'.heap) hwc X' rfl q2 q3 q4 r) q3 q1).by fun t q => stp t q
theorem w_special (W : Wk p l e R s m args below meth c Z EL own ws nw T h cells slots) (hx : p.tables.exec = Jvm.exec) {index : Nat} {y : MethodName} {bytes : ByteArray} {maxL : Nat} {rm : Room} {Q : Option Value → Heap → Prop} {wsc : List Addr} {a : Nat} (argsL : List Value) (hy1 : y.name = "<init>")
    (w1 : (Cond.methodLink own index y).before a0 Z = true) (w2 : (Cond.instanceMethod y).before a0 Z = true) (w3 : (Cond.initialized y.cls).before a0 Z = true) (w4 : (Cond.code y bytes maxL none).before a0 Z = true) (hy : y.cls ≠ "java/lang/invoke/MethodHandle" ∧ y.cls ≠ "java/lang/invoke/VarHandle")
    (H : Con l Z EL y bytes maxL none rm (.ref a :: argsL).toArray h wsc Q) (hwc : ∀ x ∈ wsc, x ∈ ws ++ nw) (hsz : Ls.size = c.maxLocals) (hlen : ∀ sig, parseMethodDescriptor y.desc = some sig → argsL.length = sig.parameters.length) {stk : List Value} (hstk : stk = argsL.reverse ++ .ref a :: st) (hd : decode c.code pc = .ok (.invokespecial index, 3))
    (hf : rm.frames + 1 ≤ R.frames) (hl : (st.map fun v => v.category).sum + (maxL + 11) + rm.locals ≤ R.locals) (hc : cells + rm.cells ≤ R.cells) (hs : slots + rm.slots ≤ R.slots) (hp : pc + 3 = pc')
    (k : ∀ v T' h', Wk p l e R s m args below meth c Z EL own ws nw T' h' (cells + rm.cells) (slots + rm.slots) → Keep h h' wsc → Q v h' → Gets p.tables e below P T' (mkF m pc' Ls (v.toList ++ st))) : Gets p.tables e below P T (mkF m pc Ls stk) := by
  subst hp
  obtain ⟨locs, X, eT, r⟩ := W
  obtain ⟨hZ, hown, hF, hO, hK, n1, n2⟩ := id r
  obtain ⟨v, vm1, ⟨T', L', c', s'⟩, -, X', ⟨L, ⟨q1, q2, q3, q4⟩, l1, l2, l3⟩, stp⟩ := X.specialBack hx (y := y) hy1 hown (mv hZ w1) (mv hZ w2) (mv hZ w4) hy (backC (W := (st.map fun v => v.category).sum) H hZ w4 w3 hf hl) (g := mkF m pc Ls stk) rfl hsz (Steps.refl _) (a := a) (argsL := argsL) (rest := st) hlen hstk (by show 2 * 0 + _ ≤ _; omega) hd (fun _ _ => ⟨rfl, eT, hc, hs⟩)
  dsimp only [Pt.U, Pt.locs, Pt.cells, Pt.slots] at X' q1 q3 q4 l1 l2 l3 stp
  subst l1 l2 l3
  exact (k v T' _ (Wk.called (h' := T'.heap) hwc X' rfl q2 q3 q4 r) q3 q1).by fun t q => stp.trans q
theorem w_virtual (W : Wk p l e R s m args below meth c Z EL own ws nw T h cells slots) (hx : p.tables.exec = Jvm.exec) {index : Nat} {y z : MethodName} {C : String} {bytes : ByteArray} {maxL : Nat} {ret : Option FieldType} {rm : Room} {Q : Option Value → Heap → Prop} {wsc : List Addr} {a : Nat} (argsL : List Value)
    (w1 : (Cond.methodLink own index y).before a0 Z = true) (w2 : (Cond.declares y).before a0 Z = true) (hnf : ∀ {U : State}, Z.Warmed39 U.vm → NotFace U y) (w3 : (Cond.selects C y z).before a0 Z = true) (w5 : (Cond.instanceMethod z).before a0 Z = true) (w6 : (Cond.initialized z.cls).before a0 Z = true) (w4 : (Cond.code z bytes maxL ret).before a0 Z = true) (hy : y.cls ≠ "java/lang/invoke/MethodHandle" ∧ y.cls ≠ "java/lang/invoke/VarHandle")
    (H : Con l Z EL z bytes maxL ret rm (.ref a :: argsL).toArray h wsc Q) (E : Exa Z h a C) (hwc : ∀ x ∈ wsc, x ∈ ws ++ nw) (hsz : Ls.size = c.maxLocals) (hlen : ∀ sig, parseMethodDescriptor y.desc = some sig → argsL.length = sig.parameters.length) {stk : List Value} (hstk : stk = argsL.reverse ++ .ref a :: st) (hd : decode c.code pc = .ok (.invokevirtual index, 3))
    (hf : rm.frames + 1 ≤ R.frames) (hl : (st.map fun v => v.category).sum + (maxL + 11) + rm.locals ≤ R.locals) (hc : cells + rm.cells ≤ R.cells) (hs : slots + rm.slots ≤ R.slots) (hp : pc + 3 = pc')
    (k : ∀ v T' h', Wk p l e R s m args below meth c Z EL own ws nw T' h' (cells + rm.cells) (slots + rm.slots) → Keep h h' wsc → Q v h' → Gets p.tables e below P T' (mkF m pc' Ls (v.toList ++ st))) : Gets p.tables e below P T (mkF m pc Ls stk) := by
  subst hp
  obtain ⟨locs, X, eT, r⟩ := W
  obtain ⟨hZ, hown, hF, hO, hK, n1, n2⟩ := id r
  obtain ⟨cq, kq, qa, qb, qc⟩ := isOf hZ eT E
  obtain ⟨v, vm1, ⟨T', L', c', s'⟩, -, X', ⟨L, ⟨q1, q2, q3, q4⟩, l1, l2, l3⟩, stp⟩ := X.virtualBack hx (y := y) (z := z) hown (mv hZ w1) (mv hZ w2) (hnf (U := s) hZ) (mv hZ w3) (mv hZ w5) hy (backC (W := (st.map fun v => v.category).sum) H hZ w4 w6 hf hl) qa qc (g := mkF m pc Ls stk) rfl hsz (Steps.refl _) (argsL := argsL) (rest := st) hlen hstk (by show 2 * 0 + _ ≤ _; omega) hd (fun _ _ => ⟨rfl, eT, hc, hs⟩)
  dsimp only [Pt.U, Pt.locs, Pt.cells, Pt.slots] at X' q1 q3 q4 l1 l2 l3 stp
  subst l1 l2 l3
  exact (k v T' _ (Wk.called (h' := T'.heap) hwc X' rfl q2 q3 q4 r) q3 q1).by fun t q => stp.trans q
theorem w_virtualUp (W : Wk p l e R s m args below meth c Z EL own ws nw T h cells slots) (hx : p.tables.exec = Jvm.exec) {index : Nat} {y z : MethodName} {C owner : String} {bytes : ByteArray} {maxL : Nat} {ret : Option FieldType} {rm : Room} {Q : Option Value → Heap → Prop} {wsc : List Addr} {a : Nat} (argsL : List Value)
    (w1 : (Cond.methodLink own index y).before a0 Z = true) (w7 : (Cond.sameMethod y.cls owner y.name y.desc).before a0 Z = true) (w2 : (Cond.declares ⟨owner, y.name, y.desc⟩).before a0 Z = true) (w3 : (Cond.selects C y z).before a0 Z = true) (w5 : (Cond.instanceMethod z).before a0 Z = true) (w6 : (Cond.initialized z.cls).before a0 Z = true) (w4 : (Cond.code z bytes maxL ret).before a0 Z = true) (hy : owner ≠ "java/lang/invoke/MethodHandle" ∧ owner ≠ "java/lang/invoke/VarHandle")
    (H : Con l Z EL z bytes maxL ret rm (.ref a :: argsL).toArray h wsc Q) (E : Exa Z h a C) (hwc : ∀ x ∈ wsc, x ∈ ws ++ nw) (hsz : Ls.size = c.maxLocals) (hlen : ∀ sig, parseMethodDescriptor y.desc = some sig → argsL.length = sig.parameters.length) {stk : List Value} (hstk : stk = argsL.reverse ++ .ref a :: st) (hd : decode c.code pc = .ok (.invokevirtual index, 3))
    (hf : rm.frames + 1 ≤ R.frames) (hl : (st.map fun v => v.category).sum + (maxL + 11) + rm.locals ≤ R.locals) (hc : cells + rm.cells ≤ R.cells) (hs : slots + rm.slots ≤ R.slots) (hp : pc + 3 = pc')
    (k : ∀ v T' h', Wk p l e R s m args below meth c Z EL own ws nw T' h' (cells + rm.cells) (slots + rm.slots) → Keep h h' wsc → Q v h' → Gets p.tables e below P T' (mkF m pc' Ls (v.toList ++ st))) : Gets p.tables e below P T (mkF m pc Ls stk) := by
  subst hp
  obtain ⟨locs, X, eT, r⟩ := W
  obtain ⟨hZ, hown, hF, hO, hK, n1, n2⟩ := id r
  obtain ⟨cq, kq, qa, qb, qc⟩ := isOf hZ eT E
  obtain ⟨v, vm1, ⟨T', L', c', s'⟩, -, X', ⟨L, ⟨q1, q2, q3, q4⟩, l1, l2, l3⟩, stp⟩ := X.virtualBackUp hx (x := y) (y := z) hown (mv hZ w1) (mv hZ w7) (mv hZ w2) hy (mv hZ w3) (mv hZ w5) (backC (W := (st.map fun v => v.category).sum) H hZ w4 w6 hf hl) qa qc (g := mkF m pc Ls stk) rfl hsz (Steps.refl _) (argsL := argsL) (rest := st) hlen hstk (by show 2 * 0 + _ ≤ _; omega) hd (fun _ _ => ⟨rfl, eT, hc, hs⟩)
  dsimp only [Pt.U, Pt.locs, Pt.cells, Pt.slots] at X' q1 q3 q4 l1 l2 l3 stp
  subst l1 l2 l3
  exact (k v T' _ (Wk.called (h' := T'.heap) hwc X' rfl q2 q3 q4 r) q3 q1).by fun t q => stp.trans q
theorem nfS {y z : MethodName} {C : String} (w : (Cond.selects C y y).before a0 Z = true) {U : State} (hZ : Z.Warmed39 U.vm) : NotFace U y := notFace_of_selects (args := #[]) (mv hZ w)
theorem w_iface (W : Wk p l e R s m args below meth c Z EL own ws nw T h cells slots) (hx : p.tables.exec = Jvm.exec) {index count : Nat} {y z : MethodName} {C : String} {bytes : ByteArray} {maxL : Nat} {ret : Option FieldType} {rm : Room} {Q : Option Value → Heap → Prop} {wsc : List Addr} {a : Nat} (argsL : List Value)
    (w1 : (Cond.methodLink own index y).before a0 Z = true) (w2 : (Cond.declares y).before a0 Z = true) (w7 : (Cond.interfaceMethod y.cls y.cls y.name y.desc).before a0 Z = true) (w3 : (Cond.selects C y z).before a0 Z = true) (w5 : (Cond.instanceMethod z).before a0 Z = true) (w8 : (Cond.publicMethod z).before a0 Z = true) (w9 : (Cond.unhidden C y.name y.desc).before a0 Z = true) (w10 : (Cond.castable C y.cls).before a0 Z = true) (w6 : (Cond.initialized z.cls).before a0 Z = true) (w4 : (Cond.code z bytes maxL ret).before a0 Z = true) (hy : y.cls ≠ "java/lang/invoke/MethodHandle" ∧ y.cls ≠ "java/lang/invoke/VarHandle")
    (H : Con l Z EL z bytes maxL ret rm (.ref a :: argsL).toArray h wsc Q) (E : Exa Z h a C) (hwc : ∀ x ∈ wsc, x ∈ ws ++ nw) (hsz : Ls.size = c.maxLocals) (hlen : ∀ sig, parseMethodDescriptor y.desc = some sig → argsL.length = sig.parameters.length) {stk : List Value} (hstk : stk = argsL.reverse ++ .ref a :: st) (hd : decode c.code pc = .ok (.invokeinterface index count, 5))
    (hf : rm.frames + 1 ≤ R.frames) (hl : (st.map fun v => v.category).sum + (maxL + 11) + rm.locals ≤ R.locals) (hc : cells + rm.cells ≤ R.cells) (hs : slots + rm.slots ≤ R.slots) (hp : pc + 5 = pc')
    (k : ∀ v T' h', Wk p l e R s m args below meth c Z EL own ws nw T' h' (cells + rm.cells) (slots + rm.slots) → Keep h h' wsc → Q v h' → Gets p.tables e below P T' (mkF m pc' Ls (v.toList ++ st))) : Gets p.tables e below P T (mkF m pc Ls stk) := by
  subst hp
  obtain ⟨locs, X, eT, r⟩ := W
  obtain ⟨hZ, hown, hF, hO, hK, n1, n2⟩ := id r
  obtain ⟨cq, kq, qa, qb, qc⟩ := isOf hZ eT E
  obtain ⟨v, vm1, ⟨T', L', c', s'⟩, -, X', ⟨L, ⟨q1, q2, q3, q4⟩, l1, l2, l3⟩, stp⟩ := X.interfaceBack hx (xi := y) (y := z) hown (mv hZ w1) (mv hZ w2) (mv hZ w7 (by simp [Cond.onTables, Cond.keepsFace, Cond.keeps, Cond.steady, Cond.faceAtom, hy.1, hy.2])) (mv hZ w3) (mv hZ w5) (mv hZ w8) (mv hZ w9) (mv hZ w10) hy (backC (W := (st.map fun v => v.category).sum) H hZ w4 w6 hf hl) qa qb qc (g := mkF m pc Ls stk) rfl hsz (Steps.refl _) (argsL := argsL) (rest := st) hlen hstk (by show 2 * 0 + _ ≤ _; omega) hd (fun _ _ => ⟨rfl, eT, hc, hs⟩)
  dsimp only [Pt.U, Pt.locs, Pt.cells, Pt.slots] at X' q1 q3 q4 l1 l2 l3 stp
  subst l1 l2 l3
  exact (k v T' _ (Wk.called (h' := T'.heap) hwc X' rfl q2 q3 q4 r) q3 q1).by fun t q => stp.trans q
end OwnWalk
section OwnPure
variable {p : Program} {l : Launch} {e : Env} {R : Room} {s : State} {m : MethodId} {args : Array Value} {below : List Frame} {meth : Method} {c : Code} {T : State} {Z : State} {a0 : Array Value} {h : Heap} {EL : List (String × Nat)} {own : String} {cells slots : Nat} {ws nw : List Addr} {P : Outcome → State → Prop} {pc pc' : Nat} {Ls : Array Slot} {st : List Value}
/-- it returns r and leaves the heap as it was -/
def pureQ (r : Option Value) (h : Heap) : Option Value → Heap → Prop := fun v h' => v = r ∧ h' = h
theorem w_callSp (W : Wk p l e R s m args below meth c Z EL own ws nw T h cells slots) (hx : p.tables.exec = Jvm.exec) {index : Nat} {y : MethodName} {bytes : ByteArray} {maxL : Nat} {ret : Option FieldType} {rm : Room} {r : Option Value} (argsL : List Value)
    (w1 : (Cond.methodLink own index y).before a0 Z = true) (w2 : (Cond.static y).before a0 Z = true) (w3 : (Cond.initialized y.cls).before a0 Z = true) (w4 : (Cond.code y bytes maxL ret).before a0 Z = true) (hy : y.cls ≠ "java/lang/invoke/MethodHandle" ∧ y.cls ≠ "java/lang/invoke/VarHandle")
    (H : Con l Z EL y bytes maxL ret rm argsL.toArray h [] (pureQ r h)) (hsz : Ls.size = c.maxLocals) (hlen : ∀ sig, parseMethodDescriptor y.desc = some sig → argsL.length = sig.parameters.length) {stk : List Value} (hstk : stk = argsL.reverse ++ st) (hd : decode c.code pc = .ok (.invokestatic index, 3))
    (hf : rm.frames + 1 ≤ R.frames) (hl : (st.map fun v => v.category).sum + (maxL + 11) + rm.locals ≤ R.locals) (hc : rm.cells = 0) (hs : rm.slots = 0) (hc' : cells ≤ R.cells) (hs' : slots ≤ R.slots) (hp : pc + 3 = pc')
    (k : ∀ T', Wk p l e R s m args below meth c Z EL own ws nw T' h cells slots → Gets p.tables e below P T' (mkF m pc' Ls (r.toList ++ st))) : Gets p.tables e below P T (mkF m pc Ls stk) :=
  w_callS W hx argsL w1 w2 w3 w4 hy H all0 hsz hlen hstk hd hf hl (by rw [hc]; exact hc') (by rw [hs]; exact hs') hp fun v T' h' W' K q => by
    obtain ⟨e1, e2⟩ := q
    subst e1; rw [e2] at W'; rw [hc, hs] at W'; exact k T' W'
theorem w_virtualp (W : Wk p l e R s m args below meth c Z EL own ws nw T h cells slots) (hx : p.tables.exec = Jvm.exec) {index : Nat} {y z : MethodName} {C : String} {bytes : ByteArray} {maxL : Nat} {ret : Option FieldType} {rm : Room} {r : Option Value} {a : Nat} (argsL : List Value)
    (w1 : (Cond.methodLink own index y).before a0 Z = true) (w2 : (Cond.declares y).before a0 Z = true) (hnf : ∀ {U : State}, Z.Warmed39 U.vm → NotFace U y) (w3 : (Cond.selects C y z).before a0 Z = true) (w5 : (Cond.instanceMethod z).before a0 Z = true) (w6 : (Cond.initialized z.cls).before a0 Z = true) (w4 : (Cond.code z bytes maxL ret).before a0 Z = true) (hy : y.cls ≠ "java/lang/invoke/MethodHandle" ∧ y.cls ≠ "java/lang/invoke/VarHandle")
    (H : Con l Z EL z bytes maxL ret rm (.ref a :: argsL).toArray h [] (pureQ r h)) (E : Exa Z h a C) (hsz : Ls.size = c.maxLocals) (hlen : ∀ sig, parseMethodDescriptor y.desc = some sig → argsL.length = sig.parameters.length) {stk : List Value} (hstk : stk = argsL.reverse ++ .ref a :: st) (hd : decode c.code pc = .ok (.invokevirtual index, 3))
    (hf : rm.frames + 1 ≤ R.frames) (hl : (st.map fun v => v.category).sum + (maxL + 11) + rm.locals ≤ R.locals) (hc : rm.cells = 0) (hs : rm.slots = 0) (hc' : cells ≤ R.cells) (hs' : slots ≤ R.slots) (hp : pc + 3 = pc')
    (k : ∀ T', Wk p l e R s m args below meth c Z EL own ws nw T' h cells slots → Gets p.tables e below P T' (mkF m pc' Ls (r.toList ++ st))) : Gets p.tables e below P T (mkF m pc Ls stk) :=
  w_virtual W hx argsL w1 w2 hnf w3 w5 w6 w4 hy H E all0 hsz hlen hstk hd hf hl (by rw [hc]; exact hc') (by rw [hs]; exact hs') hp fun v T' h' W' K q => by
    obtain ⟨e1, e2⟩ := q
    subst e1; rw [e2] at W'; rw [hc, hs] at W'; exact k T' W'
theorem w_virtualUpp (W : Wk p l e R s m args below meth c Z EL own ws nw T h cells slots) (hx : p.tables.exec = Jvm.exec) {index : Nat} {y z : MethodName} {C owner : String} {bytes : ByteArray} {maxL : Nat} {ret : Option FieldType} {rm : Room} {r : Option Value} {a : Nat} (argsL : List Value)
    (w1 : (Cond.methodLink own index y).before a0 Z = true) (w7 : (Cond.sameMethod y.cls owner y.name y.desc).before a0 Z = true) (w2 : (Cond.declares ⟨owner, y.name, y.desc⟩).before a0 Z = true) (w3 : (Cond.selects C y z).before a0 Z = true) (w5 : (Cond.instanceMethod z).before a0 Z = true) (w6 : (Cond.initialized z.cls).before a0 Z = true) (w4 : (Cond.code z bytes maxL ret).before a0 Z = true) (hy : owner ≠ "java/lang/invoke/MethodHandle" ∧ owner ≠ "java/lang/invoke/VarHandle")
    (H : Con l Z EL z bytes maxL ret rm (.ref a :: argsL).toArray h [] (pureQ r h)) (E : Exa Z h a C) (hsz : Ls.size = c.maxLocals) (hlen : ∀ sig, parseMethodDescriptor y.desc = some sig → argsL.length = sig.parameters.length) {stk : List Value} (hstk : stk = argsL.reverse ++ .ref a :: st) (hd : decode c.code pc = .ok (.invokevirtual index, 3))
    (hf : rm.frames + 1 ≤ R.frames) (hl : (st.map fun v => v.category).sum + (maxL + 11) + rm.locals ≤ R.locals) (hc : rm.cells = 0) (hs : rm.slots = 0) (hc' : cells ≤ R.cells) (hs' : slots ≤ R.slots) (hp : pc + 3 = pc')
    (k : ∀ T', Wk p l e R s m args below meth c Z EL own ws nw T' h cells slots → Gets p.tables e below P T' (mkF m pc' Ls (r.toList ++ st))) : Gets p.tables e below P T (mkF m pc Ls stk) :=
  w_virtualUp W hx argsL w1 w7 w2 w3 w5 w6 w4 hy H E all0 hsz hlen hstk hd hf hl (by rw [hc]; exact hc') (by rw [hs]; exact hs') hp fun v T' h' W' K q => by
    obtain ⟨e1, e2⟩ := q
    subst e1; rw [e2] at W'; rw [hc, hs] at W'; exact k T' W'
theorem w_ifacep (W : Wk p l e R s m args below meth c Z EL own ws nw T h cells slots) (hx : p.tables.exec = Jvm.exec) {index count : Nat} {y z : MethodName} {C : String} {bytes : ByteArray} {maxL : Nat} {ret : Option FieldType} {rm : Room} {r : Option Value} {a : Nat} (argsL : List Value)
    (w1 : (Cond.methodLink own index y).before a0 Z = true) (w2 : (Cond.declares y).before a0 Z = true) (w7 : (Cond.interfaceMethod y.cls y.cls y.name y.desc).before a0 Z = true) (w3 : (Cond.selects C y z).before a0 Z = true) (w5 : (Cond.instanceMethod z).before a0 Z = true) (w8 : (Cond.publicMethod z).before a0 Z = true) (w9 : (Cond.unhidden C y.name y.desc).before a0 Z = true) (w10 : (Cond.castable C y.cls).before a0 Z = true) (w6 : (Cond.initialized z.cls).before a0 Z = true) (w4 : (Cond.code z bytes maxL ret).before a0 Z = true) (hy : y.cls ≠ "java/lang/invoke/MethodHandle" ∧ y.cls ≠ "java/lang/invoke/VarHandle")
    (H : Con l Z EL z bytes maxL ret rm (.ref a :: argsL).toArray h [] (pureQ r h)) (E : Exa Z h a C) (hsz : Ls.size = c.maxLocals) (hlen : ∀ sig, parseMethodDescriptor y.desc = some sig → argsL.length = sig.parameters.length) {stk : List Value} (hstk : stk = argsL.reverse ++ .ref a :: st) (hd : decode c.code pc = .ok (.invokeinterface index count, 5))
    (hf : rm.frames + 1 ≤ R.frames) (hl : (st.map fun v => v.category).sum + (maxL + 11) + rm.locals ≤ R.locals) (hc : rm.cells = 0) (hs : rm.slots = 0) (hc' : cells ≤ R.cells) (hs' : slots ≤ R.slots) (hp : pc + 5 = pc')
    (k : ∀ T', Wk p l e R s m args below meth c Z EL own ws nw T' h cells slots → Gets p.tables e below P T' (mkF m pc' Ls (r.toList ++ st))) : Gets p.tables e below P T (mkF m pc Ls stk) :=
  w_iface W hx argsL w1 w2 w7 w3 w5 w8 w9 w10 w6 w4 hy H E all0 hsz hlen hstk hd hf hl (by rw [hc]; exact hc') (by rw [hs]; exact hs') hp fun v T' h' W' K q => by
    obtain ⟨e1, e2⟩ := q
    subst e1; rw [e2] at W'; rw [hc, hs] at W'; exact k T' W'
theorem g_name {tb : Tables} {v w : Value} (q : w = v) (k : Gets tb e below P T (mkF m pc Ls (w :: st))) : Gets tb e below P T (mkF m pc Ls (v :: st)) := q ▸ k
end OwnPure
section OwnFresh
variable {p : Program} {l : Launch} {e : Env} {R : Room} {s : State} {m : MethodId} {args : Array Value} {below : List Frame} {meth : Method} {c : Code} {T : State} {Z : State} {a0 : Array Value} {h : Heap} {EL : List (String × Nat)} {own : String} {cells slots : Nat} {ws nw : List Addr} {P : Outcome → State → Prop} {pc pc' : Nat} {Ls : Array Slot} {st : List Value}
def ConF (l : Launch) (Z : State) (EL : List (String × Nat)) (y : MethodName) (bytes : ByteArray) (maxL : Nat) (ret : Option FieldType) (rm : Room) (as' : Array Value) (h0 : Heap) (ws : List Addr) (Q : List Addr → Option Value → Heap → Prop) : Prop :=
  MetFree l y (head1 [Cond.code y bytes maxL ret] rm) (fun a U => a = as' ∧ Z.Warmed39 U.vm ∧ U.heap = h0) (fun _ _ _ _ _ => True)
    (fun _ U o U' => ∃ v L N, o = .returned v ∧ (Q N v U'.heap ∧ Fr Z.heap.size L ∧ Keep h0 U'.heap ws ∧ Ext Z.heap U'.heap ∧ ∀ x : Nat, x ∈ N → h0.size ≤ x ∧ x < U'.heap.size) ∧ FrameEnd U o U' L rm.cells rm.slots)
def PostF (s : State) (Z : State) (EL : List (String × Nat)) (rm : Room) (h0 : Heap) (ws : List Addr) (Q : List Addr → Option Value → Heap → Prop) (o : Outcome) (t : State) : Prop :=
  ∃ v L N, o = .returned v ∧ (Q N v t.heap ∧ Fr Z.heap.size L ∧ Keep h0 t.heap ws ∧ Ext Z.heap t.heap ∧ ∀ x : Nat, x ∈ N → h0.size ≤ x ∧ x < t.heap.size) ∧ FrameEnd s o t L rm.cells rm.slots
theorem ConF.of {y : MethodName} {bytes : ByteArray} {maxL : Nat} {ret : Option FieldType} {rm : Room} {as' : Array Value} {h0 : Heap} {Q : List Addr → Option Value → Heap → Prop} (Ls : Array Slot)
    (hy : plainFor y = true) (hE : EW Z a0 EL) (O : Ext Z.heap h0) (hws : ∀ x : Nat, x ∈ ws → Z.heap.size ≤ x ∧ x < h0.size) (hent : ∀ m, entryFrame m as' maxL = mkF m 0 Ls [])
    (body : ∀ (p : Program) (e : Env) (s : State) (m : MethodId) (below : List Frame) (meth : Method) (c : Code) (T : State), p.tables.exec = Jvm.exec → c.code = bytes → c.maxLocals = maxL → meth.name = y.name → meth.sig.returnType = ret → meth.locks = false → s.heap = h0 →
      Wk p l e rm s m as' below meth c Z EL y.cls ws [] T h0 0 0 → Gets p.tables e below (PostF s Z EL rm h0 ws Q) T (mkF m 0 Ls [])) :
    ConF l Z EL y bytes maxL ret rm as' h0 ws Q := by
  refine MetFree.of_bodySF hy hisR ?_
  intro p e s m args below meth c s₁ Bd hml0 hP hK
  obtain ⟨rfl, hZ, hh⟩ := hP
  have hh' : s.heap = h0 := hh
  have hl : meth.locks = false := Bd.notSynchronized
  have e0 : s₁.heap = h0 := by rw [← hh, Bd.state]; rfl
  have X0 : Stand p l e rm s m args below meth c s₁ [] 0 0 := Stand.of_body Bd
  have W : Wk p l e rm s m args below meth c Z EL y.cls ws [] s₁ h0 0 0 :=
    ⟨[], X0, e0, hZ, findClass_of_methodNamed Bd.named, Fr.nil _, O, by rw [hh']; exact Keep.refl _ _, fun x hx => ⟨(hws x hx).1, (hws x hx).2⟩, fun x hx => (nomatch hx)⟩
  obtain ⟨t, o, h1, h2, h3, h4⟩ := body p e s m below meth c s₁ Bd.exec Bd.bytes hml0 (name_of_methodNamed Bd.named Bd.method).1 Bd.returns hl hh' W
  exact ⟨t, o, by rw [hent m]; exact h1, h2, h3, h4⟩
theorem w_endF {rm : Room} {h0 : Heap} {Q : List Addr → Option Value → Heap → Prop} (W : Wk p l e R s m args below meth c Z EL own ws nw T h cells slots) (hh : s.heap = h0) {v : Option Value} {g : JFrame} (hl : meth.locks = false) (hv : meth.sig.returnType = none → v = none)
    (st : ∀ {locs : List Loc} {fs : List Frame}, Stand p l e R s m args below meth c T locs cells slots → (∀ (f : JFrame) (acts : List Action), f.method = m → f.locked = none → f.entered = [] → (doReturn e (T.setTop f) acts v).1 = T.setFrames fs) → Steps p.tables e below (T.setTop g) (T.setFrames fs))
    (hc : cells ≤ rm.cells) (hs : slots ≤ rm.slots) (N : List Addr) (hN : ∀ x ∈ N, x ∈ nw) (q : Q N v h) : Gets p.tables e below (PostF s Z EL rm h0 ws Q) T g := by
  obtain ⟨locs, X, eT, hZ, hown, hF, hO, hK, -, n2⟩ := W
  obtain ⟨fs, h1, h2, h3, r1, r2⟩ := X.leave hv hl
  subst hh
  refine ⟨_, _, st X h1, h2, h3, v, locs, N, rfl, ⟨?_, hF, ?_, ?_, ?_⟩, ⟨_, rfl⟩, r1, r2.mono hc hs⟩
  · show Q N v T.heap; rw [eT]; exact q
  · show Keep _ T.heap _; rw [eT]; exact hK
  · show Ext _ T.heap; rw [eT]; exact hO
  · intro x hx
    obtain ⟨q1, q2, q3⟩ := n2 x (hN x hx)
    exact ⟨q1, by show x < T.heap.size; rw [eT]; exact q3⟩
theorem w_retAF {rm : Room} {h0 : Heap} {Q : List Addr → Option Value → Heap → Prop} {w : Value} {t : FieldType} (W : Wk p l e R s m args below meth c Z EL own ws nw T h cells slots) (hx : p.tables.exec = Jvm.exec) (hh : s.heap = h0) (hl : meth.locks = false) (hret : meth.sig.returnType = some t) (ht : t.isReference = true) (hw : w.isRef = true) (hd : decode c.code pc = .ok (.areturn, 1)) (hc : cells ≤ rm.cells) (hs : slots ≤ rm.slots) (N : List Addr) (hN : ∀ x ∈ N, x ∈ nw) (q : Q N (some w) h) :
    Gets p.tables e below (PostF s Z EL rm h0 ws Q) T (mkF m pc Ls (w :: st)) :=
  w_endF W hh hl (fun q => by rw [hret] at q; cases q) (fun X hr => retOut X hx hret (by cases t <;> cases w <;> simp [FieldType.isReference, Value.isRef, narrow] at ht hw ⊢) (Or.inr (Or.inr (Or.inr (Or.inr ⟨rfl, ht, hw⟩)))) hd hr) hc hs N hN q
theorem w_retVF {rm : Room} {h0 : Heap} {Q : List Addr → Option Value → Heap → Prop} (W : Wk p l e R s m args below meth c Z EL own ws nw T h cells slots) (hx : p.tables.exec = Jvm.exec) (hh : s.heap = h0) (hl : meth.locks = false) (hret : meth.sig.returnType = none) (hd : decode c.code pc = .ok (.return_, 1)) (hc : cells ≤ rm.cells) (hs : slots ≤ rm.slots) (N : List Addr) (hN : ∀ x ∈ N, x ∈ nw) (q : Q N none h) :
    Gets p.tables e below (PostF s Z EL rm h0 ws Q) T (mkF m pc Ls []) :=
  w_endF W hh hl (fun _ => rfl) (fun X hr => X.returnOut hx hret hd hr) hc hs N hN q
theorem w_retIF {rm : Room} {h0 : Heap} {Q : List Addr → Option Value → Heap → Prop} {z : Int32} (W : Wk p l e R s m args below meth c Z EL own ws nw T h cells slots) (hx : p.tables.exec = Jvm.exec) (hh : s.heap = h0) (hl : meth.locks = false) (hret : meth.sig.returnType = some .int) (hd : decode c.code pc = .ok (.ireturn, 1)) (hc : cells ≤ rm.cells) (hs : slots ≤ rm.slots) (N : List Addr) (hN : ∀ x ∈ N, x ∈ nw) (q : Q N (some (.int z)) h) :
    Gets p.tables e below (PostF s Z EL rm h0 ws Q) T (mkF m pc Ls (.int z :: st)) :=
  w_endF W hh hl (fun q => by rw [hret] at q; cases q) (fun X hr => retOut X hx hret rfl (Or.inl ⟨rfl, Or.inl rfl, z, rfl⟩) hd hr) hc hs N hN q
theorem backCF {y : MethodName} {bytes : ByteArray} {maxL : Nat} {ret : Option FieldType} {rm : Room} {len W : Nat} {as' : Array Value} {Q : List Addr → Option Value → Heap → Prop} {wsc : List Addr}
    (hM : ConF l Z EL y bytes maxL ret rm as' h wsc Q) (hZ : Z.Warmed39 s.vm) (wc : (Cond.code y bytes maxL ret).before a0 Z = true) (wz : (Cond.initialized y.cls).before a0 Z = true) (hf : rm.frames + 1 ≤ R.frames) (hl : W + (maxL + 11) + rm.locals ≤ R.locals) :
    Back l R p e below s args y len W (fun A a => a = as' ∧ A.U.heap = h ∧ A.cells + rm.cells ≤ R.cells ∧ A.slots + rm.slots ≤ R.slots)
      (fun A _ v B => ∃ L, (∃ N, Q N v B.U.heap ∧ Fr Z.heap.size L ∧ Keep h B.U.heap wsc ∧ Ext Z.heap B.U.heap ∧ ∀ x : Nat, x ∈ N → h.size ≤ x ∧ x < B.U.heap.size) ∧ B.locs = A.locs ++ L ∧ B.cells = A.cells + rm.cells ∧ B.slots = A.slots + rm.slots) :=
  backOf (Q := fun v h' L => ∃ N, Q N v h' ∧ Fr Z.heap.size L ∧ Keep h h' wsc ∧ Ext Z.heap h' ∧ ∀ x : Nat, x ∈ N → h.size ≤ x ∧ x < h'.size) (MetFree.mono hM (fun _ _ q => q) (fun _ _ _ _ _ q => q) (fun _ _ _ _ _ ⟨v, L, N, h1, h2, h3⟩ => ⟨v, L, h1, ⟨N, h2⟩, h3⟩)) hZ wc wz hf hl
theorem Wk.calledF {locs L : List Loc} {T' : State} {h' : Heap} {wsc N : List Addr} {c' s' : Nat} (hw : ∀ x ∈ wsc, x ∈ ws ++ nw) (X' : Stand p l e R s m args below meth c T' (locs ++ L) c' s') (e' : T'.heap = h') (F : Fr Z.heap.size L) (K : Keep h h' wsc) (O' : Ext Z.heap h') (hN : ∀ x : Nat, x ∈ N → h.size ≤ x ∧ x < h'.size)
    (r : Z.Warmed39 s.vm ∧ s.vm.findClass own = some m.cls ∧ Fr Z.heap.size locs ∧ Ext Z.heap h ∧ Keep s.heap h ws ∧ (∀ x : Nat, x ∈ ws → Z.heap.size ≤ x ∧ x < h.size) ∧ (∀ x : Nat, x ∈ nw → s.heap.size ≤ x ∧ Z.heap.size ≤ x ∧ x < h.size)) :
    Wk p l e R s m args below meth c Z EL own ws (N ++ nw) T' h' c' s' := by
  obtain ⟨hZ, hown, hF, hO, hK, n1, n2⟩ := r
  have sz := K.1
  refine ⟨locs ++ L, X', e', hZ, hown, Fr.app hF F, O', hK.trans K (fun x hx => ?_), fun x hx => ?_, fun x hx => ?_⟩
  · rcases List.mem_append.mp (hw x hx) with q | q
    · exact Or.inl q
    · exact Or.inr (n2 x q).1
  · obtain ⟨q1, q2⟩ := n1 x hx
    exact ⟨q1, by omega⟩
  · have ks := hK.1
    have os := hO.1
    rcases List.mem_append.mp hx with hx | hx
    · obtain ⟨q1, q2⟩ := hN x hx
      exact ⟨by omega, by omega, q2⟩
    · obtain ⟨q1, q2, q3⟩ := n2 x hx
      exact ⟨q1, q2, by omega⟩
theorem w_callSF (W : Wk p l e R s m args below meth c Z EL own ws nw T h cells slots) (hx : p.tables.exec = Jvm.exec) {index : Nat} {y : MethodName} {bytes : ByteArray} {maxL : Nat} {ret : Option FieldType} {rm : Room} {Q : List Addr → Option Value → Heap → Prop} {wsc : List Addr} (argsL : List Value)
    (w1 : (Cond.methodLink own index y).before a0 Z = true) (w2 : (Cond.static y).before a0 Z = true) (w3 : (Cond.initialized y.cls).before a0 Z = true) (w4 : (Cond.code y bytes maxL ret).before a0 Z = true) (hy : y.cls ≠ "java/lang/invoke/MethodHandle" ∧ y.cls ≠ "java/lang/invoke/VarHandle")
    (H : ConF l Z EL y bytes maxL ret rm argsL.toArray h wsc Q) (hwc : ∀ x ∈ wsc, x ∈ ws ++ nw) (hsz : Ls.size = c.maxLocals) (hlen : ∀ sig, parseMethodDescriptor y.desc = some sig → argsL.length = sig.parameters.length) {stk : List Value} (hstk : stk = argsL.reverse ++ st) (hd : decode c.code pc = .ok (.invokestatic index, 3))
    (hf : rm.frames + 1 ≤ R.frames) (hl : (st.map fun v => v.category).sum + (maxL + 11) + rm.locals ≤ R.locals) (hc : cells + rm.cells ≤ R.cells) (hs : slots + rm.slots ≤ R.slots) (hp : pc + 3 = pc')
    (k : ∀ N v T' h', Wk p l e R s m args below meth c Z EL own ws (N ++ nw) T' h' (cells + rm.cells) (slots + rm.slots) → Keep h h' wsc → (∀ x : Nat, x ∈ N → h.size ≤ x ∧ x < h'.size) → Q N v h' → Gets p.tables e below P T' (mkF m pc' Ls (v.toList ++ st))) : Gets p.tables e below P T (mkF m pc Ls stk) := by
  subst hp
  obtain ⟨locs, X, eT, r⟩ := W
  obtain ⟨hZ, hown, hF, hO, hK, n1, n2⟩ := id r
  obtain ⟨v, vm1, ⟨T', L', c', s'⟩, -, X', ⟨L, ⟨N, q1, q2, q3, q4, q5⟩, l1, l2, l3⟩, stp⟩ := Jvm.LawKit.callS X hx (y := y) hown (mv hZ w1) (mv hZ w2) (mv hZ w3) (mv hZ w4) hy (backCF (W := (st.map fun v => v.category).sum) H hZ w4 w3 hf hl) (g := mkF m pc Ls stk) rfl hsz (argsL := argsL) (rest := st) hlen hstk (by show 2 * 0 + _ ≤ _; omega) hd (fun _ _ => ⟨rfl, eT, hc, hs⟩)
  dsimp only [Pt.U, Pt.locs, Pt.cells, Pt.slots] at X' q1 q3 q4 q5 l1 l2 l3 stp
  subst l1 l2 l3
  exact (k N v T' _ (Wk.calledF (h' := T'.heap) hwc X' rfl q2 q3 q4 q5 r) q3 q5 q1).by fun t q => stp t q
theorem w_specialF (W : Wk p l e R s m args below meth c Z EL own ws nw T h cells slots) (hx : p.tables.exec = Jvm.exec) {index : Nat} {y : MethodName} {bytes : ByteArray} {maxL : Nat} {rm : Room} {Q : List Addr → Option Value → Heap → Prop} {wsc : List Addr} {a : Nat} (argsL : List Value) (hy1 : y.name = "<init>")
    (w1 : (Cond.methodLink own index y).before a0 Z = true) (w2 : (Cond.instanceMethod y).before a0 Z = true) (w3 : (Cond.initialized y.cls).before a0 Z = true) (w4 : (Cond.code y bytes maxL none).before a0 Z = true) (hy : y.cls ≠ "java/lang/invoke/MethodHandle" ∧ y.cls ≠ "java/lang/invoke/VarHandle")
    (H : ConF l Z EL y bytes maxL none rm (.ref a :: argsL).toArray h wsc Q) (hwc : ∀ x ∈ wsc, x ∈ ws ++ nw) (hsz : Ls.size = c.maxLocals) (hlen : ∀ sig, parseMethodDescriptor y.desc = some sig → argsL.length = sig.parameters.length) {stk : List Value} (hstk : stk = argsL.reverse ++ .ref a :: st) (hd : decode c.code pc = .ok (.invokespecial index, 3))
    (hf : rm.frames + 1 ≤ R.frames) (hl : (st.map fun v => v.category).sum + (maxL + 11) + rm.locals ≤ R.locals) (hc : cells + rm.cells ≤ R.cells) (hs : slots + rm.slots ≤ R.slots) (hp : pc + 3 = pc')
    (k : ∀ N v T' h', Wk p l e R s m args below meth c Z EL own ws (N ++ nw) T' h' (cells + rm.cells) (slots + rm.slots) → Keep h h' wsc → (∀ x : Nat, x ∈ N → h.size ≤ x ∧ x < h'.size) → Q N v h' → Gets p.tables e below P T' (mkF m pc' Ls (v.toList ++ st))) : Gets p.tables e below P T (mkF m pc Ls stk) := by
  subst hp
  obtain ⟨locs, X, eT, r⟩ := W
  obtain ⟨hZ, hown, hF, hO, hK, n1, n2⟩ := id r
  obtain ⟨v, vm1, ⟨T', L', c', s'⟩, -, X', ⟨L, ⟨N, q1, q2, q3, q4, q5⟩, l1, l2, l3⟩, stp⟩ := X.specialBack hx (y := y) hy1 hown (mv hZ w1) (mv hZ w2) (mv hZ w4) hy (backCF (W := (st.map fun v => v.category).sum) H hZ w4 w3 hf hl) (g := mkF m pc Ls stk) rfl hsz (Steps.refl _) (a := a) (argsL := argsL) (rest := st) hlen hstk (by show 2 * 0 + _ ≤ _; omega) hd (fun _ _ => ⟨rfl, eT, hc, hs⟩)
  dsimp only [Pt.U, Pt.locs, Pt.cells, Pt.slots] at X' q1 q3 q4 q5 l1 l2 l3 stp
  subst l1 l2 l3
  exact (k N v T' _ (Wk.calledF (h' := T'.heap) hwc X' rfl q2 q3 q4 q5 r) q3 q5 q1).by fun t q => stp.trans q
theorem w_virtualF (W : Wk p l e R s m args below meth c Z EL own ws nw T h cells slots) (hx : p.tables.exec = Jvm.exec) {index : Nat} {y z : MethodName} {C : String} {bytes : ByteArray} {maxL : Nat} {ret : Option FieldType} {rm : Room} {Q : List Addr → Option Value → Heap → Prop} {wsc : List Addr} {a : Nat} (argsL : List Value)
    (w1 : (Cond.methodLink own index y).before a0 Z = true) (w2 : (Cond.declares y).before a0 Z = true) (hnf : ∀ {U : State}, Z.Warmed39 U.vm → NotFace U y) (w3 : (Cond.selects C y z).before a0 Z = true) (w5 : (Cond.instanceMethod z).before a0 Z = true) (w6 : (Cond.initialized z.cls).before a0 Z = true) (w4 : (Cond.code z bytes maxL ret).before a0 Z = true) (hy : y.cls ≠ "java/lang/invoke/MethodHandle" ∧ y.cls ≠ "java/lang/invoke/VarHandle")
    (H : ConF l Z EL z bytes maxL ret rm (.ref a :: argsL).toArray h wsc Q) (E : Exa Z h a C) (hwc : ∀ x ∈ wsc, x ∈ ws ++ nw) (hsz : Ls.size = c.maxLocals) (hlen : ∀ sig, parseMethodDescriptor y.desc = some sig → argsL.length = sig.parameters.length) {stk : List Value} (hstk : stk = argsL.reverse ++ .ref a :: st) (hd : decode c.code pc = .ok (.invokevirtual index, 3))
    (hf : rm.frames + 1 ≤ R.frames) (hl : (st.map fun v => v.category).sum + (maxL + 11) + rm.locals ≤ R.locals) (hc : cells + rm.cells ≤ R.cells) (hs : slots + rm.slots ≤ R.slots) (hp : pc + 3 = pc')
    (k : ∀ N v T' h', Wk p l e R s m args below meth c Z EL own ws (N ++ nw) T' h' (cells + rm.cells) (slots + rm.slots) → Keep h h' wsc → (∀ x : Nat, x ∈ N → h.size ≤ x ∧ x < h'.size) → Q N v h' → Gets p.tables e below P T' (mkF m pc' Ls (v.toList ++ st))) : Gets p.tables e below P T (mkF m pc Ls stk) := by
  subst hp
  obtain ⟨locs, X, eT, r⟩ := W
  obtain ⟨hZ, hown, hF, hO, hK, n1, n2⟩ := id r
  obtain ⟨cq, kq, qa, qb, qc⟩ := isOf hZ eT E
  obtain ⟨v, vm1, ⟨T', L', c', s'⟩, -, X', ⟨L, ⟨N, q1, q2, q3, q4, q5⟩, l1, l2, l3⟩, stp⟩ := X.virtualBack hx (y := y) (z := z) hown (mv hZ w1) (mv hZ w2) (hnf (U := s) hZ) (mv hZ w3) (mv hZ w5) hy (backCF (W := (st.map fun v => v.category).sum) H hZ w4 w6 hf hl) qa qc (g := mkF m pc Ls stk) rfl hsz (Steps.refl _) (argsL := argsL) (rest := st) hlen hstk (by show 2 * 0 + _ ≤ _; omega) hd (fun _ _ => ⟨rfl, eT, hc, hs⟩)
  dsimp only [Pt.U, Pt.locs, Pt.cells, Pt.slots] at X' q1 q3 q4 q5 l1 l2 l3 stp
  subst l1 l2 l3
  exact (k N v T' _ (Wk.calledF (h' := T'.heap) hwc X' rfl q2 q3 q4 q5 r) q3 q5 q1).by fun t q => stp.trans q
theorem w_virtualUpF (W : Wk p l e R s m args below meth c Z EL own ws nw T h cells slots) (hx : p.tables.exec = Jvm.exec) {index : Nat} {y z : MethodName} {C owner : String} {bytes : ByteArray} {maxL : Nat} {ret : Option FieldType} {rm : Room} {Q : List Addr → Option Value → Heap → Prop} {wsc : List Addr} {a : Nat} (argsL : List Value)
    (w1 : (Cond.methodLink own index y).before a0 Z = true) (w7 : (Cond.sameMethod y.cls owner y.name y.desc).before a0 Z = true) (w2 : (Cond.declares ⟨owner, y.name, y.desc⟩).before a0 Z = true) (w3 : (Cond.selects C y z).before a0 Z = true) (w5 : (Cond.instanceMethod z).before a0 Z = true) (w6 : (Cond.initialized z.cls).before a0 Z = true) (w4 : (Cond.code z bytes maxL ret).before a0 Z = true) (hy : owner ≠ "java/lang/invoke/MethodHandle" ∧ owner ≠ "java/lang/invoke/VarHandle")
    (H : ConF l Z EL z bytes maxL ret rm (.ref a :: argsL).toArray h wsc Q) (E : Exa Z h a C) (hwc : ∀ x ∈ wsc, x ∈ ws ++ nw) (hsz : Ls.size = c.maxLocals) (hlen : ∀ sig, parseMethodDescriptor y.desc = some sig → argsL.length = sig.parameters.length) {stk : List Value} (hstk : stk = argsL.reverse ++ .ref a :: st) (hd : decode c.code pc = .ok (.invokevirtual index, 3))
    (hf : rm.frames + 1 ≤ R.frames) (hl : (st.map fun v => v.category).sum + (maxL + 11) + rm.locals ≤ R.locals) (hc : cells + rm.cells ≤ R.cells) (hs : slots + rm.slots ≤ R.slots) (hp : pc + 3 = pc')
    (k : ∀ N v T' h', Wk p l e R s m args below meth c Z EL own ws (N ++ nw) T' h' (cells + rm.cells) (slots + rm.slots) → Keep h h' wsc → (∀ x : Nat, x ∈ N → h.size ≤ x ∧ x < h'.size) → Q N v h' → Gets p.tables e below P T' (mkF m pc' Ls (v.toList ++ st))) : Gets p.tables e below P T (mkF m pc Ls stk) := by
  subst hp
  obtain ⟨locs, X, eT, r⟩ := W
  obtain ⟨hZ, hown, hF, hO, hK, n1, n2⟩ := id r
  obtain ⟨cq, kq, qa, qb, qc⟩ := isOf hZ eT E
  obtain ⟨v, vm1, ⟨T', L', c', s'⟩, -, X', ⟨L, ⟨N, q1, q2, q3, q4, q5⟩, l1, l2, l3⟩, stp⟩ := X.virtualBackUp hx (x := y) (y := z) hown (mv hZ w1) (mv hZ w7) (mv hZ w2) hy (mv hZ w3) (mv hZ w5) (backCF (W := (st.map fun v => v.category).sum) H hZ w4 w6 hf hl) qa qc (g := mkF m pc Ls stk) rfl hsz (Steps.refl _) (argsL := argsL) (rest := st) hlen hstk (by show 2 * 0 + _ ≤ _; omega) hd (fun _ _ => ⟨rfl, eT, hc, hs⟩)
  dsimp only [Pt.U, Pt.locs, Pt.cells, Pt.slots] at X' q1 q3 q4 q5 l1 l2 l3 stp
  subst l1 l2 l3
  exact (k N v T' _ (Wk.calledF (h' := T'.heap) hwc X' rfl q2 q3 q4 q5 r) q3 q5 q1).by fun t q => stp.trans q
theorem w_ifaceF (W : Wk p l e R s m args below meth c Z EL own ws nw T h cells slots) (hx : p.tables.exec = Jvm.exec) {index count : Nat} {y z : MethodName} {C : String} {bytes : ByteArray} {maxL : Nat} {ret : Option FieldType} {rm : Room} {Q : List Addr → Option Value → Heap → Prop} {wsc : List Addr} {a : Nat} (argsL : List Value)
    (w1 : (Cond.methodLink own index y).before a0 Z = true) (w2 : (Cond.declares y).before a0 Z = true) (w7 : (Cond.interfaceMethod y.cls y.cls y.name y.desc).before a0 Z = true) (w3 : (Cond.selects C y z).before a0 Z = true) (w5 : (Cond.instanceMethod z).before a0 Z = true) (w8 : (Cond.publicMethod z).before a0 Z = true) (w9 : (Cond.unhidden C y.name y.desc).before a0 Z = true) (w10 : (Cond.castable C y.cls).before a0 Z = true) (w6 : (Cond.initialized z.cls).before a0 Z = true) (w4 : (Cond.code z bytes maxL ret).before a0 Z = true) (hy : y.cls ≠ "java/lang/invoke/MethodHandle" ∧ y.cls ≠ "java/lang/invoke/VarHandle")
    (H : ConF l Z EL z bytes maxL ret rm (.ref a :: argsL).toArray h wsc Q) (E : Exa Z h a C) (hwc : ∀ x ∈ wsc, x ∈ ws ++ nw) (hsz : Ls.size = c.maxLocals) (hlen : ∀ sig, parseMethodDescriptor y.desc = some sig → argsL.length = sig.parameters.length) {stk : List Value} (hstk : stk = argsL.reverse ++ .ref a :: st) (hd : decode c.code pc = .ok (.invokeinterface index count, 5))
    (hf : rm.frames + 1 ≤ R.frames) (hl : (st.map fun v => v.category).sum + (maxL + 11) + rm.locals ≤ R.locals) (hc : cells + rm.cells ≤ R.cells) (hs : slots + rm.slots ≤ R.slots) (hp : pc + 5 = pc')
    (k : ∀ N v T' h', Wk p l e R s m args below meth c Z EL own ws (N ++ nw) T' h' (cells + rm.cells) (slots + rm.slots) → Keep h h' wsc → (∀ x : Nat, x ∈ N → h.size ≤ x ∧ x < h'.size) → Q N v h' → Gets p.tables e below P T' (mkF m pc' Ls (v.toList ++ st))) : Gets p.tables e below P T (mkF m pc Ls stk) := by
  subst hp
  obtain ⟨locs, X, eT, r⟩ := W
  obtain ⟨hZ, hown, hF, hO, hK, n1, n2⟩ := id r
  obtain ⟨cq, kq, qa, qb, qc⟩ := isOf hZ eT E
  obtain ⟨v, vm1, ⟨T', L', c', s'⟩, -, X', ⟨L, ⟨N, q1, q2, q3, q4, q5⟩, l1, l2, l3⟩, stp⟩ := X.interfaceBack hx (xi := y) (y := z) hown (mv hZ w1) (mv hZ w2) (mv hZ w7 (by simp [Cond.onTables, Cond.keepsFace, Cond.keeps, Cond.steady, Cond.faceAtom, hy.1, hy.2])) (mv hZ w3) (mv hZ w5) (mv hZ w8) (mv hZ w9) (mv hZ w10) hy (backCF (W := (st.map fun v => v.category).sum) H hZ w4 w6 hf hl) qa qb qc (g := mkF m pc Ls stk) rfl hsz (Steps.refl _) (argsL := argsL) (rest := st) hlen hstk (by show 2 * 0 + _ ≤ _; omega) hd (fun _ _ => ⟨rfl, eT, hc, hs⟩)
  dsimp only [Pt.U, Pt.locs, Pt.cells, Pt.slots] at X' q1 q3 q4 q5 l1 l2 l3 stp
  subst l1 l2 l3
  exact (k N v T' _ (Wk.calledF (h' := T'.heap) hwc X' rfl q2 q3 q4 q5 r) q3 q5 q1).by fun t q => stp.trans q
end OwnFresh
theorem w_0 : tables_1[0]? = some (Jvm.Cond.methodLink "com/example/itihasa/itihasa/model/TextRequireLengthPinLaw" (27 : Nat) ({ cls := "com/example/itihasa/itihasa/model/TextRequireLengthPinLaw", name := "draw", desc := "(JII)C" } : Jvm.MethodName)) := rfl
theorem w_1 : tables_1[1]? = some (Jvm.Cond.static ({ cls := "com/example/itihasa/itihasa/model/TextRequireLengthPinLaw", name := "draw", desc := "(JII)C" } : Jvm.MethodName)) := rfl
theorem w_2 : tables_1[2]? = some (Jvm.Cond.initialized "com/example/itihasa/itihasa/model/TextRequireLengthPinLaw") := rfl
theorem w_3 : tables_1[3]? = some (Jvm.Cond.code ({ cls := "com/example/itihasa/itihasa/model/TextRequireLengthPinLaw", name := "draw", desc := "(JII)C" } : Jvm.MethodName) method_2_code (5 : Nat) (Option.some Jvm.ClassFile.FieldType.char)) := rfl
theorem w_4 : tables_1[4]? = some (Jvm.Cond.constantLong "com/example/itihasa/itihasa/model/TextRequireLengthPinLaw" (7 : Nat) (65535 : Int64)) := rfl
theorem w_5 : tables_1[5]? = some (Jvm.Cond.constant "com/example/itihasa/itihasa/model/TextRequireLengthPinLaw" (9 : Nat) (55296 : Int32)) := rfl
theorem w_6 : tables_1[6]? = some (Jvm.Cond.methodLink "com/example/itihasa/itihasa/model/TextRequireLengthPinLaw" (31 : Nat) ({ cls := "com/example/itihasa/itihasa/model/TextRequireLengthPinLaw", name := "pair", desc := "(CC)I" } : Jvm.MethodName)) := rfl
theorem w_7 : tables_1[7]? = some (Jvm.Cond.static ({ cls := "com/example/itihasa/itihasa/model/TextRequireLengthPinLaw", name := "pair", desc := "(CC)I" } : Jvm.MethodName)) := rfl
theorem w_8 : tables_1[8]? = some (Jvm.Cond.code ({ cls := "com/example/itihasa/itihasa/model/TextRequireLengthPinLaw", name := "pair", desc := "(CC)I" } : Jvm.MethodName) method_5_code (2 : Nat) (Option.some Jvm.ClassFile.FieldType.int)) := rfl
theorem w_9 : tables_1[9]? = some (Jvm.Cond.methodLink "com/example/itihasa/itihasa/model/TextRequireLengthPinLaw" (13 : Nat) ({ cls := "com/example/itihasa/itihasa/model/TextRequireLengthPinLaw", name := "isHigh", desc := "(C)Z" } : Jvm.MethodName)) := rfl
theorem w_10 : tables_1[10]? = some (Jvm.Cond.static ({ cls := "com/example/itihasa/itihasa/model/TextRequireLengthPinLaw", name := "isHigh", desc := "(C)Z" } : Jvm.MethodName)) := rfl
theorem w_11 : tables_1[11]? = some (Jvm.Cond.code ({ cls := "com/example/itihasa/itihasa/model/TextRequireLengthPinLaw", name := "isHigh", desc := "(C)Z" } : Jvm.MethodName) method_3_code (1 : Nat) (Option.some Jvm.ClassFile.FieldType.boolean)) := rfl
theorem w_12 : tables_1[12]? = some (Jvm.Cond.constant "com/example/itihasa/itihasa/model/TextRequireLengthPinLaw" (35 : Nat) (2147483647 : Int32)) := rfl
theorem w_13 : tables_1[13]? = some (Jvm.Cond.methodLink "com/example/itihasa/itihasa/model/TextRequireLengthPinLaw" (36 : Nat) ({ cls := "java/lang/Math", name := "max", desc := "(II)I" } : Jvm.MethodName)) := rfl
theorem w_14 : tables_1[14]? = some (Jvm.Cond.static ({ cls := "java/lang/Math", name := "max", desc := "(II)I" } : Jvm.MethodName)) := rfl
theorem w_15 : tables_1[15]? = some (Jvm.Cond.initialized "java/lang/Math") := rfl
theorem w_16 : tables_1[16]? = some (Jvm.Cond.code ({ cls := "java/lang/Math", name := "max", desc := "(II)I" } : Jvm.MethodName) jdk_29_method_65_code (2 : Nat) (Option.some Jvm.ClassFile.FieldType.int)) := rfl
theorem w_17 : tables_1[17]? = some (Jvm.Cond.methodLink "com/example/itihasa/itihasa/model/TextRequireLengthPinLaw" (42 : Nat) ({ cls := "com/example/itihasa/itihasa/model/TextRequireLengthPinLaw", name := "build", desc := "(ICCCC)Ljava/lang/String;" } : Jvm.MethodName)) := rfl
theorem w_18 : tables_1[18]? = some (Jvm.Cond.static ({ cls := "com/example/itihasa/itihasa/model/TextRequireLengthPinLaw", name := "build", desc := "(ICCCC)Ljava/lang/String;" } : Jvm.MethodName)) := rfl
theorem w_19 : tables_1[19]? = some (Jvm.Cond.code ({ cls := "com/example/itihasa/itihasa/model/TextRequireLengthPinLaw", name := "build", desc := "(ICCCC)Ljava/lang/String;" } : Jvm.MethodName) method_6_code (5 : Nat) (Option.some (Jvm.ClassFile.FieldType.object "java/lang/String"))) := rfl
theorem w_20 : tables_1[20]? = some (Jvm.Cond.classLink "com/example/itihasa/itihasa/model/TextRequireLengthPinLaw" (22 : Nat) "java/lang/String") := rfl
theorem w_21 : tables_1[21]? = some (Jvm.Cond.instantiable "java/lang/String" (4 : Nat)) := rfl
theorem w_22 : tables_1[22]? = some (Jvm.Cond.initialized "java/lang/String") := rfl
theorem w_23 : tables_1[23]? = some (Jvm.Cond.arrayClass Jvm.ClassFile.FieldType.char) := rfl
theorem w_24 : tables_1[24]? = some (Jvm.Cond.methodLink "com/example/itihasa/itihasa/model/TextRequireLengthPinLaw" (24 : Nat) ({ cls := "java/lang/String", name := "<init>", desc := "([C)V" } : Jvm.MethodName)) := rfl
theorem w_25 : tables_1[25]? = some (Jvm.Cond.instanceMethod ({ cls := "java/lang/String", name := "<init>", desc := "([C)V" } : Jvm.MethodName)) := rfl
theorem w_26 : tables_1[26]? = some (Jvm.Cond.code ({ cls := "java/lang/String", name := "<init>", desc := "([C)V" } : Jvm.MethodName) jdk_42_method_3_code (2 : Nat) (Option.none : Option Jvm.ClassFile.FieldType)) := rfl
theorem w_27 : tables_1[27]? = some (Jvm.Cond.methodLink "java/lang/String" (27 : Nat) ({ cls := "java/lang/String", name := "<init>", desc := "([CIILjava/lang/Void;)V" } : Jvm.MethodName)) := rfl
theorem w_28 : tables_1[28]? = some (Jvm.Cond.instanceMethod ({ cls := "java/lang/String", name := "<init>", desc := "([CIILjava/lang/Void;)V" } : Jvm.MethodName)) := rfl
theorem w_30 : tables_1[30]? = some (Jvm.Cond.code ({ cls := "java/lang/String", name := "<init>", desc := "([CIILjava/lang/Void;)V" } : Jvm.MethodName) jdk_42_method_149_code (6 : Nat) (Option.none : Option Jvm.ClassFile.FieldType)) := rfl
theorem w_31 : tables_1[31]? = some (Jvm.Cond.methodLink "java/lang/String" (1 : Nat) ({ cls := "java/lang/Object", name := "<init>", desc := "()V" } : Jvm.MethodName)) := rfl
theorem w_32 : tables_1[32]? = some (Jvm.Cond.instanceMethod ({ cls := "java/lang/Object", name := "<init>", desc := "()V" } : Jvm.MethodName)) := rfl
theorem w_33 : tables_1[33]? = some (Jvm.Cond.code ({ cls := "java/lang/Object", name := "<init>", desc := "()V" } : Jvm.MethodName) object_method_1_code (1 : Nat) (Option.none : Option Jvm.ClassFile.FieldType)) := rfl
theorem w_34 : tables_1[34]? = some (Jvm.Cond.fieldLink "java/lang/String" (38 : Nat) "java/lang/String" "COMPACT_STRINGS" "Z") := rfl
theorem w_35 : tables_1[35]? = some (Jvm.Cond.methodLink "java/lang/String" (177 : Nat) ({ cls := "java/lang/StringUTF16", name := "compress", desc := "([CII)[B" } : Jvm.MethodName)) := rfl
theorem w_36 : tables_1[36]? = some (Jvm.Cond.static ({ cls := "java/lang/StringUTF16", name := "compress", desc := "([CII)[B" } : Jvm.MethodName)) := rfl
theorem w_37 : tables_1[37]? = some (Jvm.Cond.initialized "java/lang/StringUTF16") := rfl
theorem w_38 : tables_1[38]? = some (Jvm.Cond.code ({ cls := "java/lang/StringUTF16", name := "compress", desc := "([CII)[B" } : Jvm.MethodName) jdk_52_method_16_code (6 : Nat) (Option.some (Jvm.ClassFile.FieldType.array Jvm.ClassFile.FieldType.byte))) := rfl
theorem w_39 : tables_1[39]? = some (Jvm.Cond.arrayClass Jvm.ClassFile.FieldType.byte) := rfl
theorem w_40 : tables_1[40]? = some (Jvm.Cond.methodLink "java/lang/StringUTF16" (115 : Nat) ({ cls := "java/lang/StringUTF16", name := "compress", desc := "([CI[BII)I" } : Jvm.MethodName)) := rfl
theorem w_41 : tables_1[41]? = some (Jvm.Cond.static ({ cls := "java/lang/StringUTF16", name := "compress", desc := "([CI[BII)I" } : Jvm.MethodName)) := rfl
theorem w_42 : tables_1[42]? = some (Jvm.Cond.code ({ cls := "java/lang/StringUTF16", name := "compress", desc := "([CI[BII)I" } : Jvm.MethodName) jdk_52_method_21_code (7 : Nat) (Option.some Jvm.ClassFile.FieldType.int)) := rfl
theorem w_43 : tables_1[43]? = some (Jvm.Cond.methodLink "java/lang/StringUTF16" (119 : Nat) ({ cls := "java/lang/StringUTF16", name := "toBytes", desc := "([CII)[B" } : Jvm.MethodName)) := rfl
theorem w_44 : tables_1[44]? = some (Jvm.Cond.static ({ cls := "java/lang/StringUTF16", name := "toBytes", desc := "([CII)[B" } : Jvm.MethodName)) := rfl
theorem w_45 : tables_1[45]? = some (Jvm.Cond.code ({ cls := "java/lang/StringUTF16", name := "toBytes", desc := "([CII)[B" } : Jvm.MethodName) jdk_52_method_14_code (5 : Nat) (Option.some (Jvm.ClassFile.FieldType.array Jvm.ClassFile.FieldType.byte))) := rfl
theorem w_46 : tables_1[46]? = some (Jvm.Cond.methodLink "java/lang/StringUTF16" (107 : Nat) ({ cls := "java/lang/StringUTF16", name := "newBytesFor", desc := "(I)[B" } : Jvm.MethodName)) := rfl
theorem w_47 : tables_1[47]? = some (Jvm.Cond.static ({ cls := "java/lang/StringUTF16", name := "newBytesFor", desc := "(I)[B" } : Jvm.MethodName)) := rfl
theorem w_48 : tables_1[48]? = some (Jvm.Cond.code ({ cls := "java/lang/StringUTF16", name := "newBytesFor", desc := "(I)[B" } : Jvm.MethodName) jdk_52_method_2_code (1 : Nat) (Option.some (Jvm.ClassFile.FieldType.array Jvm.ClassFile.FieldType.byte))) := rfl
theorem w_49 : tables_1[49]? = some (Jvm.Cond.methodLink "java/lang/StringUTF16" (11 : Nat) ({ cls := "java/lang/StringUTF16", name := "newBytesLength", desc := "(I)I" } : Jvm.MethodName)) := rfl
theorem w_50 : tables_1[50]? = some (Jvm.Cond.static ({ cls := "java/lang/StringUTF16", name := "newBytesLength", desc := "(I)I" } : Jvm.MethodName)) := rfl
theorem w_51 : tables_1[51]? = some (Jvm.Cond.code ({ cls := "java/lang/StringUTF16", name := "newBytesLength", desc := "(I)I" } : Jvm.MethodName) jdk_52_method_3_code (1 : Nat) (Option.some Jvm.ClassFile.FieldType.int)) := rfl
theorem w_52 : tables_1[52]? = some (Jvm.Cond.constant "java/lang/StringUTF16" (20 : Nat) (1073741823 : Int32)) := rfl
theorem w_53 : tables_1[53]? = some (Jvm.Cond.methodLink "java/lang/StringUTF16" (111 : Nat) ({ cls := "java/lang/StringUTF16", name := "putChar", desc := "([BII)V" } : Jvm.MethodName)) := rfl
theorem w_54 : tables_1[54]? = some (Jvm.Cond.static ({ cls := "java/lang/StringUTF16", name := "putChar", desc := "([BII)V" } : Jvm.MethodName)) := rfl
theorem w_55 : tables_1[55]? = some (Jvm.Cond.code ({ cls := "java/lang/StringUTF16", name := "putChar", desc := "([BII)V" } : Jvm.MethodName) jdk_52_method_4_code (3 : Nat) (Option.none : Option Jvm.ClassFile.FieldType)) := rfl
theorem w_56 : tables_1[56]? = some (Jvm.Cond.fieldLink "java/lang/StringUTF16" (44 : Nat) "java/lang/StringUTF16" "$assertionsDisabled" "Z") := rfl
theorem w_57 : tables_1[57]? = some (Jvm.Cond.fieldLink "java/lang/StringUTF16" (59 : Nat) "java/lang/StringUTF16" "HI_BYTE_SHIFT" "I") := rfl
theorem w_58 : tables_1[58]? = some (Jvm.Cond.fieldLink "java/lang/StringUTF16" (63 : Nat) "java/lang/StringUTF16" "LO_BYTE_SHIFT" "I") := rfl
theorem w_59 : tables_1[59]? = some (Jvm.Cond.methodLink "java/lang/StringUTF16" (71 : Nat) ({ cls := "java/lang/StringUTF16", name := "getChar", desc := "([BI)C" } : Jvm.MethodName)) := rfl
theorem w_60 : tables_1[60]? = some (Jvm.Cond.static ({ cls := "java/lang/StringUTF16", name := "getChar", desc := "([BI)C" } : Jvm.MethodName)) := rfl
theorem w_61 : tables_1[61]? = some (Jvm.Cond.code ({ cls := "java/lang/StringUTF16", name := "getChar", desc := "([BI)C" } : Jvm.MethodName) jdk_52_method_5_code (2 : Nat) (Option.some Jvm.ClassFile.FieldType.char)) := rfl
theorem w_62 : tables_1[62]? = some (Jvm.Cond.methodLink "java/lang/String" (47 : Nat) ({ cls := "java/lang/StringUTF16", name := "coderFromArrayLen", desc := "([BI)B" } : Jvm.MethodName)) := rfl
theorem w_63 : tables_1[63]? = some (Jvm.Cond.static ({ cls := "java/lang/StringUTF16", name := "coderFromArrayLen", desc := "([BI)B" } : Jvm.MethodName)) := rfl
theorem w_64 : tables_1[64]? = some (Jvm.Cond.code ({ cls := "java/lang/StringUTF16", name := "coderFromArrayLen", desc := "([BI)B" } : Jvm.MethodName) jdk_52_method_15_code (2 : Nat) (Option.some Jvm.ClassFile.FieldType.byte)) := rfl
theorem w_65 : tables_1[65]? = some (Jvm.Cond.fieldLink "java/lang/String" (15 : Nat) "java/lang/String" "coder" "B") := rfl
theorem w_66 : tables_1[66]? = some (Jvm.Cond.laysFinal "java/lang/String" "java/lang/String" "coder" "B") := rfl
theorem w_67 : tables_1[67]? = some (Jvm.Cond.fieldLink "java/lang/String" (9 : Nat) "java/lang/String" "value" "[B") := rfl
theorem w_68 : tables_1[68]? = some (Jvm.Cond.laysFinal "java/lang/String" "java/lang/String" "value" "[B") := rfl
theorem w_69 : tables_1[69]? = some (Jvm.Cond.methodLink "com/example/itihasa/itihasa/model/TextRequireLengthPinLaw" (46 : Nat) ({ cls := "java/lang/String", name := "valueOf", desc := "(C)Ljava/lang/String;" } : Jvm.MethodName)) := rfl
theorem w_70 : tables_1[70]? = some (Jvm.Cond.static ({ cls := "java/lang/String", name := "valueOf", desc := "(C)Ljava/lang/String;" } : Jvm.MethodName)) := rfl
theorem w_71 : tables_1[71]? = some (Jvm.Cond.code ({ cls := "java/lang/String", name := "valueOf", desc := "(C)Ljava/lang/String;" } : Jvm.MethodName) jdk_42_method_139_code (1 : Nat) (Option.some (Jvm.ClassFile.FieldType.object "java/lang/String"))) := rfl
theorem w_72 : tables_1[72]? = some (Jvm.Cond.methodLink "java/lang/String" (1015 : Nat) ({ cls := "java/lang/StringLatin1", name := "canEncode", desc := "(C)Z" } : Jvm.MethodName)) := rfl
theorem w_73 : tables_1[73]? = some (Jvm.Cond.static ({ cls := "java/lang/StringLatin1", name := "canEncode", desc := "(C)Z" } : Jvm.MethodName)) := rfl
theorem w_74 : tables_1[74]? = some (Jvm.Cond.initialized "java/lang/StringLatin1") := rfl
theorem w_75 : tables_1[75]? = some (Jvm.Cond.code ({ cls := "java/lang/StringLatin1", name := "canEncode", desc := "(C)Z" } : Jvm.MethodName) jdk_43_method_3_code (1 : Nat) (Option.some Jvm.ClassFile.FieldType.boolean)) := rfl
theorem w_76 : tables_1[76]? = some (Jvm.Cond.classLink "java/lang/String" (10 : Nat) "java/lang/String") := rfl
theorem w_77 : tables_1[77]? = some (Jvm.Cond.methodLink "java/lang/String" (1018 : Nat) ({ cls := "java/lang/StringLatin1", name := "toBytes", desc := "(C)[B" } : Jvm.MethodName)) := rfl
theorem w_78 : tables_1[78]? = some (Jvm.Cond.static ({ cls := "java/lang/StringLatin1", name := "toBytes", desc := "(C)[B" } : Jvm.MethodName)) := rfl
theorem w_79 : tables_1[79]? = some (Jvm.Cond.code ({ cls := "java/lang/StringLatin1", name := "toBytes", desc := "(C)[B" } : Jvm.MethodName) jdk_43_method_46_code (1 : Nat) (Option.some (Jvm.ClassFile.FieldType.array Jvm.ClassFile.FieldType.byte))) := rfl
theorem w_80 : tables_1[80]? = some (Jvm.Cond.methodLink "java/lang/String" (209 : Nat) ({ cls := "java/lang/String", name := "<init>", desc := "([BB)V" } : Jvm.MethodName)) := rfl
theorem w_81 : tables_1[81]? = some (Jvm.Cond.instanceMethod ({ cls := "java/lang/String", name := "<init>", desc := "([BB)V" } : Jvm.MethodName)) := rfl
theorem w_82 : tables_1[82]? = some (Jvm.Cond.code ({ cls := "java/lang/String", name := "<init>", desc := "([BB)V" } : Jvm.MethodName) jdk_42_method_151_code (3 : Nat) (Option.none : Option Jvm.ClassFile.FieldType)) := rfl
theorem w_83 : tables_1[83]? = some (Jvm.Cond.methodLink "com/example/itihasa/itihasa/model/TextRequireLengthPinLaw" (50 : Nat) ({ cls := "com/example/itihasa/itihasa/model/Text", name := "requireLength", desc := "(Ljava/lang/String;Ljava/lang/String;I)V" } : Jvm.MethodName)) := rfl
theorem w_84 : tables_1[84]? = some (Jvm.Cond.static ({ cls := "com/example/itihasa/itihasa/model/Text", name := "requireLength", desc := "(Ljava/lang/String;Ljava/lang/String;I)V" } : Jvm.MethodName)) := rfl
theorem w_85 : tables_1[85]? = some (Jvm.Cond.initialized "com/example/itihasa/itihasa/model/Text") := rfl
theorem w_86 : tables_1[86]? = some (Jvm.Cond.code ({ cls := "com/example/itihasa/itihasa/model/Text", name := "requireLength", desc := "(Ljava/lang/String;Ljava/lang/String;I)V" } : Jvm.MethodName) prog_6_method_4_code (4 : Nat) (Option.none : Option Jvm.ClassFile.FieldType)) := rfl
theorem w_87 : tables_1[87]? = some (Jvm.Cond.methodLink "com/example/itihasa/itihasa/model/Text" (29 : Nat) ({ cls := "java/lang/String", name := "isEmpty", desc := "()Z" } : Jvm.MethodName)) := rfl
theorem w_88 : tables_1[88]? = some (Jvm.Cond.declares ({ cls := "java/lang/String", name := "isEmpty", desc := "()Z" } : Jvm.MethodName)) := rfl
theorem w_89 : tables_1[89]? = some (Jvm.Cond.instanceMethod ({ cls := "java/lang/String", name := "isEmpty", desc := "()Z" } : Jvm.MethodName)) := rfl
theorem w_90 : tables_1[90]? = some (Jvm.Cond.selects "java/lang/String" ({ cls := "java/lang/String", name := "isEmpty", desc := "()Z" } : Jvm.MethodName) ({ cls := "java/lang/String", name := "isEmpty", desc := "()Z" } : Jvm.MethodName)) := rfl
theorem w_91 : tables_1[91]? = some (Jvm.Cond.code ({ cls := "java/lang/String", name := "isEmpty", desc := "()Z" } : Jvm.MethodName) jdk_42_method_55_code (1 : Nat) (Option.some Jvm.ClassFile.FieldType.boolean)) := rfl
theorem w_92 : tables_1[92]? = some (Jvm.Cond.methodLink "com/example/itihasa/itihasa/model/Text" (44 : Nat) ({ cls := "java/lang/String", name := "length", desc := "()I" } : Jvm.MethodName)) := rfl
theorem w_93 : tables_1[93]? = some (Jvm.Cond.declares ({ cls := "java/lang/String", name := "length", desc := "()I" } : Jvm.MethodName)) := rfl
theorem w_94 : tables_1[94]? = some (Jvm.Cond.instanceMethod ({ cls := "java/lang/String", name := "length", desc := "()I" } : Jvm.MethodName)) := rfl
theorem w_95 : tables_1[95]? = some (Jvm.Cond.selects "java/lang/String" ({ cls := "java/lang/String", name := "length", desc := "()I" } : Jvm.MethodName) ({ cls := "java/lang/String", name := "length", desc := "()I" } : Jvm.MethodName)) := rfl
theorem w_96 : tables_1[96]? = some (Jvm.Cond.code ({ cls := "java/lang/String", name := "length", desc := "()I" } : Jvm.MethodName) jdk_42_method_54_code (1 : Nat) (Option.some Jvm.ClassFile.FieldType.int)) := rfl
theorem w_97 : tables_1[97]? = some (Jvm.Cond.methodLink "java/lang/String" (335 : Nat) ({ cls := "java/lang/String", name := "coder", desc := "()B" } : Jvm.MethodName)) := rfl
theorem w_98 : tables_1[98]? = some (Jvm.Cond.declares ({ cls := "java/lang/String", name := "coder", desc := "()B" } : Jvm.MethodName)) := rfl
theorem w_99 : tables_1[99]? = some (Jvm.Cond.instanceMethod ({ cls := "java/lang/String", name := "coder", desc := "()B" } : Jvm.MethodName)) := rfl
theorem w_100 : tables_1[100]? = some (Jvm.Cond.selects "java/lang/String" ({ cls := "java/lang/String", name := "coder", desc := "()B" } : Jvm.MethodName) ({ cls := "java/lang/String", name := "coder", desc := "()B" } : Jvm.MethodName)) := rfl
theorem w_101 : tables_1[101]? = some (Jvm.Cond.code ({ cls := "java/lang/String", name := "coder", desc := "()B" } : Jvm.MethodName) jdk_42_method_152_code (1 : Nat) (Option.some Jvm.ClassFile.FieldType.byte)) := rfl
theorem w_102 : tables_1[102]? = some (Jvm.Cond.methodLink "com/example/itihasa/itihasa/model/Text" (48 : Nat) ({ cls := "java/lang/String", name := "codePointCount", desc := "(II)I" } : Jvm.MethodName)) := rfl
theorem w_103 : tables_1[103]? = some (Jvm.Cond.declares ({ cls := "java/lang/String", name := "codePointCount", desc := "(II)I" } : Jvm.MethodName)) := rfl
theorem w_104 : tables_1[104]? = some (Jvm.Cond.instanceMethod ({ cls := "java/lang/String", name := "codePointCount", desc := "(II)I" } : Jvm.MethodName)) := rfl
theorem w_105 : tables_1[105]? = some (Jvm.Cond.selects "java/lang/String" ({ cls := "java/lang/String", name := "codePointCount", desc := "(II)I" } : Jvm.MethodName) ({ cls := "java/lang/String", name := "codePointCount", desc := "(II)I" } : Jvm.MethodName)) := rfl
theorem w_106 : tables_1[106]? = some (Jvm.Cond.code ({ cls := "java/lang/String", name := "codePointCount", desc := "(II)I" } : Jvm.MethodName) jdk_42_method_59_code (3 : Nat) (Option.some Jvm.ClassFile.FieldType.int)) := rfl
theorem w_107 : tables_1[107]? = some (Jvm.Cond.methodLink "java/lang/String" (505 : Nat) ({ cls := "java/lang/String", name := "length", desc := "()I" } : Jvm.MethodName)) := rfl
theorem w_108 : tables_1[108]? = some (Jvm.Cond.methodLink "java/lang/String" (511 : Nat) ({ cls := "java/util/Objects", name := "checkFromToIndex", desc := "(III)I" } : Jvm.MethodName)) := rfl
theorem w_109 : tables_1[109]? = some (Jvm.Cond.static ({ cls := "java/util/Objects", name := "checkFromToIndex", desc := "(III)I" } : Jvm.MethodName)) := rfl
theorem w_110 : tables_1[110]? = some (Jvm.Cond.initialized "java/util/Objects") := rfl
theorem w_111 : tables_1[111]? = some (Jvm.Cond.code ({ cls := "java/util/Objects", name := "checkFromToIndex", desc := "(III)I" } : Jvm.MethodName) jdk_31_method_18_code (3 : Nat) (Option.some Jvm.ClassFile.FieldType.int)) := rfl
theorem w_112 : tables_1[112]? = some (Jvm.Cond.methodLink "java/util/Objects" (111 : Nat) ({ cls := "jdk/internal/util/Preconditions", name := "checkFromToIndex", desc := "(IIILjava/util/function/BiFunction;)I" } : Jvm.MethodName)) := rfl
theorem w_113 : tables_1[113]? = some (Jvm.Cond.static ({ cls := "jdk/internal/util/Preconditions", name := "checkFromToIndex", desc := "(IIILjava/util/function/BiFunction;)I" } : Jvm.MethodName)) := rfl
theorem w_114 : tables_1[114]? = some (Jvm.Cond.initialized "jdk/internal/util/Preconditions") := rfl
theorem w_115 : tables_1[115]? = some (Jvm.Cond.code ({ cls := "jdk/internal/util/Preconditions", name := "checkFromToIndex", desc := "(IIILjava/util/function/BiFunction;)I" } : Jvm.MethodName) jdk_41_method_12_code (4 : Nat) (Option.some Jvm.ClassFile.FieldType.int)) := rfl
theorem w_116 : tables_1[116]? = some (Jvm.Cond.methodLink "java/lang/String" (492 : Nat) ({ cls := "java/lang/String", name := "isLatin1", desc := "()Z" } : Jvm.MethodName)) := rfl
theorem w_117 : tables_1[117]? = some (Jvm.Cond.declares ({ cls := "java/lang/String", name := "isLatin1", desc := "()Z" } : Jvm.MethodName)) := rfl
theorem w_118 : tables_1[118]? = some (Jvm.Cond.instanceMethod ({ cls := "java/lang/String", name := "isLatin1", desc := "()Z" } : Jvm.MethodName)) := rfl
theorem w_119 : tables_1[119]? = some (Jvm.Cond.selects "java/lang/String" ({ cls := "java/lang/String", name := "isLatin1", desc := "()Z" } : Jvm.MethodName) ({ cls := "java/lang/String", name := "isLatin1", desc := "()Z" } : Jvm.MethodName)) := rfl
theorem w_120 : tables_1[120]? = some (Jvm.Cond.code ({ cls := "java/lang/String", name := "isLatin1", desc := "()Z" } : Jvm.MethodName) jdk_42_method_154_code (1 : Nat) (Option.some Jvm.ClassFile.FieldType.boolean)) := rfl
theorem w_121 : tables_1[121]? = some (Jvm.Cond.methodLink "java/lang/String" (514 : Nat) ({ cls := "java/lang/StringUTF16", name := "codePointCount", desc := "([BII)I" } : Jvm.MethodName)) := rfl
theorem w_122 : tables_1[122]? = some (Jvm.Cond.static ({ cls := "java/lang/StringUTF16", name := "codePointCount", desc := "([BII)I" } : Jvm.MethodName)) := rfl
theorem w_123 : tables_1[123]? = some (Jvm.Cond.code ({ cls := "java/lang/StringUTF16", name := "codePointCount", desc := "([BII)I" } : Jvm.MethodName) jdk_52_method_12_code (3 : Nat) (Option.some Jvm.ClassFile.FieldType.int)) := rfl
theorem w_124 : tables_1[124]? = some (Jvm.Cond.methodLink "java/lang/StringUTF16" (100 : Nat) ({ cls := "java/lang/StringUTF16", name := "codePointCount", desc := "([BIIZ)I" } : Jvm.MethodName)) := rfl
theorem w_125 : tables_1[125]? = some (Jvm.Cond.static ({ cls := "java/lang/StringUTF16", name := "codePointCount", desc := "([BIIZ)I" } : Jvm.MethodName)) := rfl
theorem w_126 : tables_1[126]? = some (Jvm.Cond.code ({ cls := "java/lang/StringUTF16", name := "codePointCount", desc := "([BIIZ)I" } : Jvm.MethodName) jdk_52_method_11_code (6 : Nat) (Option.some Jvm.ClassFile.FieldType.int)) := rfl
theorem w_127 : tables_1[127]? = some (Jvm.Cond.methodLink "java/lang/StringUTF16" (75 : Nat) ({ cls := "java/lang/Character", name := "isHighSurrogate", desc := "(C)Z" } : Jvm.MethodName)) := rfl
theorem w_128 : tables_1[128]? = some (Jvm.Cond.static ({ cls := "java/lang/Character", name := "isHighSurrogate", desc := "(C)Z" } : Jvm.MethodName)) := rfl
theorem w_129 : tables_1[129]? = some (Jvm.Cond.initialized "java/lang/Character") := rfl
theorem w_130 : tables_1[130]? = some (Jvm.Cond.code ({ cls := "java/lang/Character", name := "isHighSurrogate", desc := "(C)Z" } : Jvm.MethodName) jdk_89_method_14_code (1 : Nat) (Option.some Jvm.ClassFile.FieldType.boolean)) := rfl
theorem w_131 : tables_1[131]? = some (Jvm.Cond.constant "java/lang/Character" (75 : Nat) (55296 : Int32)) := rfl
theorem w_132 : tables_1[132]? = some (Jvm.Cond.constant "com/example/itihasa/itihasa/model/TextRequireLengthPinLaw" (10 : Nat) (56319 : Int32)) := rfl
theorem w_133 : tables_1[133]? = some (Jvm.Cond.constant "java/lang/Character" (76 : Nat) (56320 : Int32)) := rfl
theorem w_134 : tables_1[134]? = some (Jvm.Cond.methodLink "com/example/itihasa/itihasa/model/TextRequireLengthPinLaw" (19 : Nat) ({ cls := "com/example/itihasa/itihasa/model/TextRequireLengthPinLaw", name := "isLow", desc := "(C)Z" } : Jvm.MethodName)) := rfl
theorem w_135 : tables_1[135]? = some (Jvm.Cond.static ({ cls := "com/example/itihasa/itihasa/model/TextRequireLengthPinLaw", name := "isLow", desc := "(C)Z" } : Jvm.MethodName)) := rfl
theorem w_136 : tables_1[136]? = some (Jvm.Cond.code ({ cls := "com/example/itihasa/itihasa/model/TextRequireLengthPinLaw", name := "isLow", desc := "(C)Z" } : Jvm.MethodName) method_4_code (1 : Nat) (Option.some Jvm.ClassFile.FieldType.boolean)) := rfl
theorem w_137 : tables_1[137]? = some (Jvm.Cond.constant "com/example/itihasa/itihasa/model/TextRequireLengthPinLaw" (11 : Nat) (56320 : Int32)) := rfl
theorem w_138 : tables_1[138]? = some (Jvm.Cond.methodLink "java/lang/StringUTF16" (81 : Nat) ({ cls := "java/lang/Character", name := "isLowSurrogate", desc := "(C)Z" } : Jvm.MethodName)) := rfl
theorem w_139 : tables_1[139]? = some (Jvm.Cond.static ({ cls := "java/lang/Character", name := "isLowSurrogate", desc := "(C)Z" } : Jvm.MethodName)) := rfl
theorem w_140 : tables_1[140]? = some (Jvm.Cond.code ({ cls := "java/lang/Character", name := "isLowSurrogate", desc := "(C)Z" } : Jvm.MethodName) jdk_89_method_15_code (1 : Nat) (Option.some Jvm.ClassFile.FieldType.boolean)) := rfl
theorem w_141 : tables_1[141]? = some (Jvm.Cond.constant "com/example/itihasa/itihasa/model/TextRequireLengthPinLaw" (12 : Nat) (57343 : Int32)) := rfl
theorem w_142 : tables_1[142]? = some (Jvm.Cond.constant "java/lang/Character" (77 : Nat) (57344 : Int32)) := rfl
theorem d_jdk_29_65_0 : decode jdk_29_method_65_code 0 = .ok (.iload_n 0, 1) := by decide +kernel
theorem d_jdk_29_65_1 : decode jdk_29_method_65_code 1 = .ok (.iload_n 1, 1) := by decide +kernel
theorem d_jdk_29_65_2 : decode jdk_29_method_65_code 2 = .ok (.if_icmp .lt 7, 3) := by decide +kernel
theorem d_jdk_29_65_5 : decode jdk_29_method_65_code 5 = .ok (.iload_n 0, 1) := by decide +kernel
theorem d_jdk_29_65_6 : decode jdk_29_method_65_code 6 = .ok (.goto 4, 3) := by decide +kernel
theorem d_jdk_29_65_9 : decode jdk_29_method_65_code 9 = .ok (.iload_n 1, 1) := by decide +kernel
theorem d_jdk_29_65_10 : decode jdk_29_method_65_code 10 = .ok (.ireturn, 1) := by decide +kernel
theorem d_jdk_31_18_0 : decode jdk_31_method_18_code 0 = .ok (.iload_n 0, 1) := by decide +kernel
theorem d_jdk_31_18_1 : decode jdk_31_method_18_code 1 = .ok (.iload_n 1, 1) := by decide +kernel
theorem d_jdk_31_18_2 : decode jdk_31_method_18_code 2 = .ok (.iload_n 2, 1) := by decide +kernel
theorem d_jdk_31_18_3 : decode jdk_31_method_18_code 3 = .ok (.aconst_null, 1) := by decide +kernel
theorem d_jdk_31_18_4 : decode jdk_31_method_18_code 4 = .ok (.invokestatic 111, 3) := by decide +kernel
theorem d_jdk_31_18_7 : decode jdk_31_method_18_code 7 = .ok (.ireturn, 1) := by decide +kernel
theorem d_jdk_41_12_0 : decode jdk_41_method_12_code 0 = .ok (.iload_n 0, 1) := by decide +kernel
theorem d_jdk_41_12_1 : decode jdk_41_method_12_code 1 = .ok (.ifCond .lt 13, 3) := by decide +kernel
theorem d_jdk_41_12_4 : decode jdk_41_method_12_code 4 = .ok (.iload_n 0, 1) := by decide +kernel
theorem d_jdk_41_12_5 : decode jdk_41_method_12_code 5 = .ok (.iload_n 1, 1) := by decide +kernel
theorem d_jdk_41_12_6 : decode jdk_41_method_12_code 6 = .ok (.if_icmp .gt 8, 3) := by decide +kernel
theorem d_jdk_41_12_9 : decode jdk_41_method_12_code 9 = .ok (.iload_n 1, 1) := by decide +kernel
theorem d_jdk_41_12_10 : decode jdk_41_method_12_code 10 = .ok (.iload_n 2, 1) := by decide +kernel
theorem d_jdk_41_12_11 : decode jdk_41_method_12_code 11 = .ok (.if_icmp .le 11, 3) := by decide +kernel
theorem d_jdk_41_12_22 : decode jdk_41_method_12_code 22 = .ok (.iload_n 0, 1) := by decide +kernel
theorem d_jdk_41_12_23 : decode jdk_41_method_12_code 23 = .ok (.ireturn, 1) := by decide +kernel
theorem d_jdk_42_139_0 : decode jdk_42_method_139_code 0 = .ok (.getstatic 38, 3) := by decide +kernel
theorem d_jdk_42_139_3 : decode jdk_42_method_139_code 3 = .ok (.ifCond .eq 23, 3) := by decide +kernel
theorem d_jdk_42_139_6 : decode jdk_42_method_139_code 6 = .ok (.iload_n 0, 1) := by decide +kernel
theorem d_jdk_42_139_7 : decode jdk_42_method_139_code 7 = .ok (.invokestatic 1015, 3) := by decide +kernel
theorem d_jdk_42_139_10 : decode jdk_42_method_139_code 10 = .ok (.ifCond .eq 16, 3) := by decide +kernel
theorem d_jdk_42_139_13 : decode jdk_42_method_139_code 13 = .ok (.new 10, 3) := by decide +kernel
theorem d_jdk_42_139_16 : decode jdk_42_method_139_code 16 = .ok (.dup, 1) := by decide +kernel
theorem d_jdk_42_139_17 : decode jdk_42_method_139_code 17 = .ok (.iload_n 0, 1) := by decide +kernel
theorem d_jdk_42_139_18 : decode jdk_42_method_139_code 18 = .ok (.invokestatic 1018, 3) := by decide +kernel
theorem d_jdk_42_139_21 : decode jdk_42_method_139_code 21 = .ok (.iconst 0, 1) := by decide +kernel
theorem d_jdk_42_139_22 : decode jdk_42_method_139_code 22 = .ok (.invokespecial 209, 3) := by decide +kernel
theorem d_jdk_42_139_25 : decode jdk_42_method_139_code 25 = .ok (.areturn, 1) := by decide +kernel
theorem d_jdk_42_149_0 : decode jdk_42_method_149_code 0 = .ok (.aload_n 0, 1) := by decide +kernel
theorem d_jdk_42_149_1 : decode jdk_42_method_149_code 1 = .ok (.invokespecial 1, 3) := by decide +kernel
theorem d_jdk_42_149_4 : decode jdk_42_method_149_code 4 = .ok (.iload_n 3, 1) := by decide +kernel
theorem d_jdk_42_149_5 : decode jdk_42_method_149_code 5 = .ok (.ifCond .ne 22, 3) := by decide +kernel
theorem d_jdk_42_149_27 : decode jdk_42_method_149_code 27 = .ok (.getstatic 38, 3) := by decide +kernel
theorem d_jdk_42_149_30 : decode jdk_42_method_149_code 30 = .ok (.ifCond .eq 28, 3) := by decide +kernel
theorem d_jdk_42_149_33 : decode jdk_42_method_149_code 33 = .ok (.aload_n 1, 1) := by decide +kernel
theorem d_jdk_42_149_34 : decode jdk_42_method_149_code 34 = .ok (.iload_n 2, 1) := by decide +kernel
theorem d_jdk_42_149_35 : decode jdk_42_method_149_code 35 = .ok (.iload_n 3, 1) := by decide +kernel
theorem d_jdk_42_149_36 : decode jdk_42_method_149_code 36 = .ok (.invokestatic 177, 3) := by decide +kernel
theorem d_jdk_42_149_39 : decode jdk_42_method_149_code 39 = .ok (.astore 5, 2) := by decide +kernel
theorem d_jdk_42_149_41 : decode jdk_42_method_149_code 41 = .ok (.aload_n 0, 1) := by decide +kernel
theorem d_jdk_42_149_42 : decode jdk_42_method_149_code 42 = .ok (.aload 5, 2) := by decide +kernel
theorem d_jdk_42_149_44 : decode jdk_42_method_149_code 44 = .ok (.iload_n 3, 1) := by decide +kernel
theorem d_jdk_42_149_45 : decode jdk_42_method_149_code 45 = .ok (.invokestatic 47, 3) := by decide +kernel
theorem d_jdk_42_149_48 : decode jdk_42_method_149_code 48 = .ok (.putfield 15, 3) := by decide +kernel
theorem d_jdk_42_149_51 : decode jdk_42_method_149_code 51 = .ok (.aload_n 0, 1) := by decide +kernel
theorem d_jdk_42_149_52 : decode jdk_42_method_149_code 52 = .ok (.aload 5, 2) := by decide +kernel
theorem d_jdk_42_149_54 : decode jdk_42_method_149_code 54 = .ok (.putfield 9, 3) := by decide +kernel
theorem d_jdk_42_149_57 : decode jdk_42_method_149_code 57 = .ok (.return_, 1) := by decide +kernel
theorem d_jdk_42_151_0 : decode jdk_42_method_151_code 0 = .ok (.aload_n 0, 1) := by decide +kernel
theorem d_jdk_42_151_1 : decode jdk_42_method_151_code 1 = .ok (.invokespecial 1, 3) := by decide +kernel
theorem d_jdk_42_151_4 : decode jdk_42_method_151_code 4 = .ok (.aload_n 0, 1) := by decide +kernel
theorem d_jdk_42_151_5 : decode jdk_42_method_151_code 5 = .ok (.aload_n 1, 1) := by decide +kernel
theorem d_jdk_42_151_6 : decode jdk_42_method_151_code 6 = .ok (.putfield 9, 3) := by decide +kernel
theorem d_jdk_42_151_9 : decode jdk_42_method_151_code 9 = .ok (.aload_n 0, 1) := by decide +kernel
theorem d_jdk_42_151_10 : decode jdk_42_method_151_code 10 = .ok (.iload_n 2, 1) := by decide +kernel
theorem d_jdk_42_151_11 : decode jdk_42_method_151_code 11 = .ok (.putfield 15, 3) := by decide +kernel
theorem d_jdk_42_151_14 : decode jdk_42_method_151_code 14 = .ok (.return_, 1) := by decide +kernel
theorem d_jdk_42_152_0 : decode jdk_42_method_152_code 0 = .ok (.getstatic 38, 3) := by decide +kernel
theorem d_jdk_42_152_3 : decode jdk_42_method_152_code 3 = .ok (.ifCond .eq 10, 3) := by decide +kernel
theorem d_jdk_42_152_6 : decode jdk_42_method_152_code 6 = .ok (.aload_n 0, 1) := by decide +kernel
theorem d_jdk_42_152_7 : decode jdk_42_method_152_code 7 = .ok (.getfield 15, 3) := by decide +kernel
theorem d_jdk_42_152_10 : decode jdk_42_method_152_code 10 = .ok (.goto 4, 3) := by decide +kernel
theorem d_jdk_42_152_14 : decode jdk_42_method_152_code 14 = .ok (.ireturn, 1) := by decide +kernel
theorem d_jdk_42_154_0 : decode jdk_42_method_154_code 0 = .ok (.getstatic 38, 3) := by decide +kernel
theorem d_jdk_42_154_3 : decode jdk_42_method_154_code 3 = .ok (.ifCond .eq 14, 3) := by decide +kernel
theorem d_jdk_42_154_6 : decode jdk_42_method_154_code 6 = .ok (.aload_n 0, 1) := by decide +kernel
theorem d_jdk_42_154_7 : decode jdk_42_method_154_code 7 = .ok (.getfield 15, 3) := by decide +kernel
theorem d_jdk_42_154_10 : decode jdk_42_method_154_code 10 = .ok (.ifCond .ne 7, 3) := by decide +kernel
theorem d_jdk_42_154_13 : decode jdk_42_method_154_code 13 = .ok (.iconst 1, 1) := by decide +kernel
theorem d_jdk_42_154_14 : decode jdk_42_method_154_code 14 = .ok (.goto 4, 3) := by decide +kernel
theorem d_jdk_42_154_17 : decode jdk_42_method_154_code 17 = .ok (.iconst 0, 1) := by decide +kernel
theorem d_jdk_42_154_18 : decode jdk_42_method_154_code 18 = .ok (.ireturn, 1) := by decide +kernel
theorem d_jdk_42_3_0 : decode jdk_42_method_3_code 0 = .ok (.aload_n 0, 1) := by decide +kernel
theorem d_jdk_42_3_1 : decode jdk_42_method_3_code 1 = .ok (.aload_n 1, 1) := by decide +kernel
theorem d_jdk_42_3_2 : decode jdk_42_method_3_code 2 = .ok (.iconst 0, 1) := by decide +kernel
theorem d_jdk_42_3_3 : decode jdk_42_method_3_code 3 = .ok (.aload_n 1, 1) := by decide +kernel
theorem d_jdk_42_3_4 : decode jdk_42_method_3_code 4 = .ok (.arraylength, 1) := by decide +kernel
theorem d_jdk_42_3_5 : decode jdk_42_method_3_code 5 = .ok (.aconst_null, 1) := by decide +kernel
theorem d_jdk_42_3_6 : decode jdk_42_method_3_code 6 = .ok (.invokespecial 27, 3) := by decide +kernel
theorem d_jdk_42_3_9 : decode jdk_42_method_3_code 9 = .ok (.return_, 1) := by decide +kernel
theorem d_jdk_42_54_0 : decode jdk_42_method_54_code 0 = .ok (.aload_n 0, 1) := by decide +kernel
theorem d_jdk_42_54_1 : decode jdk_42_method_54_code 1 = .ok (.getfield 9, 3) := by decide +kernel
theorem d_jdk_42_54_4 : decode jdk_42_method_54_code 4 = .ok (.arraylength, 1) := by decide +kernel
theorem d_jdk_42_54_5 : decode jdk_42_method_54_code 5 = .ok (.aload_n 0, 1) := by decide +kernel
theorem d_jdk_42_54_6 : decode jdk_42_method_54_code 6 = .ok (.invokevirtual 335, 3) := by decide +kernel
theorem d_jdk_42_54_9 : decode jdk_42_method_54_code 9 = .ok (.ishr, 1) := by decide +kernel
theorem d_jdk_42_54_10 : decode jdk_42_method_54_code 10 = .ok (.ireturn, 1) := by decide +kernel
theorem d_jdk_42_55_0 : decode jdk_42_method_55_code 0 = .ok (.aload_n 0, 1) := by decide +kernel
theorem d_jdk_42_55_1 : decode jdk_42_method_55_code 1 = .ok (.getfield 9, 3) := by decide +kernel
theorem d_jdk_42_55_4 : decode jdk_42_method_55_code 4 = .ok (.arraylength, 1) := by decide +kernel
theorem d_jdk_42_55_5 : decode jdk_42_method_55_code 5 = .ok (.ifCond .ne 7, 3) := by decide +kernel
theorem d_jdk_42_55_8 : decode jdk_42_method_55_code 8 = .ok (.iconst 1, 1) := by decide +kernel
theorem d_jdk_42_55_9 : decode jdk_42_method_55_code 9 = .ok (.goto 4, 3) := by decide +kernel
theorem d_jdk_42_55_12 : decode jdk_42_method_55_code 12 = .ok (.iconst 0, 1) := by decide +kernel
theorem d_jdk_42_55_13 : decode jdk_42_method_55_code 13 = .ok (.ireturn, 1) := by decide +kernel
theorem d_jdk_42_59_0 : decode jdk_42_method_59_code 0 = .ok (.iload_n 1, 1) := by decide +kernel
theorem d_jdk_42_59_1 : decode jdk_42_method_59_code 1 = .ok (.iload_n 2, 1) := by decide +kernel
theorem d_jdk_42_59_2 : decode jdk_42_method_59_code 2 = .ok (.aload_n 0, 1) := by decide +kernel
theorem d_jdk_42_59_3 : decode jdk_42_method_59_code 3 = .ok (.invokevirtual 505, 3) := by decide +kernel
theorem d_jdk_42_59_6 : decode jdk_42_method_59_code 6 = .ok (.invokestatic 511, 3) := by decide +kernel
theorem d_jdk_42_59_9 : decode jdk_42_method_59_code 9 = .ok (.pop, 1) := by decide +kernel
theorem d_jdk_42_59_10 : decode jdk_42_method_59_code 10 = .ok (.aload_n 0, 1) := by decide +kernel
theorem d_jdk_42_59_11 : decode jdk_42_method_59_code 11 = .ok (.invokevirtual 492, 3) := by decide +kernel
theorem d_jdk_42_59_14 : decode jdk_42_method_59_code 14 = .ok (.ifCond .eq 7, 3) := by decide +kernel
theorem d_jdk_42_59_17 : decode jdk_42_method_59_code 17 = .ok (.iload_n 2, 1) := by decide +kernel
theorem d_jdk_42_59_18 : decode jdk_42_method_59_code 18 = .ok (.iload_n 1, 1) := by decide +kernel
theorem d_jdk_42_59_19 : decode jdk_42_method_59_code 19 = .ok (.isub, 1) := by decide +kernel
theorem d_jdk_42_59_20 : decode jdk_42_method_59_code 20 = .ok (.ireturn, 1) := by decide +kernel
theorem d_jdk_42_59_21 : decode jdk_42_method_59_code 21 = .ok (.aload_n 0, 1) := by decide +kernel
theorem d_jdk_42_59_22 : decode jdk_42_method_59_code 22 = .ok (.getfield 9, 3) := by decide +kernel
theorem d_jdk_42_59_25 : decode jdk_42_method_59_code 25 = .ok (.iload_n 1, 1) := by decide +kernel
theorem d_jdk_42_59_26 : decode jdk_42_method_59_code 26 = .ok (.iload_n 2, 1) := by decide +kernel
theorem d_jdk_42_59_27 : decode jdk_42_method_59_code 27 = .ok (.invokestatic 514, 3) := by decide +kernel
theorem d_jdk_42_59_30 : decode jdk_42_method_59_code 30 = .ok (.ireturn, 1) := by decide +kernel
theorem d_jdk_43_3_0 : decode jdk_43_method_3_code 0 = .ok (.iload_n 0, 1) := by decide +kernel
theorem d_jdk_43_3_1 : decode jdk_43_method_3_code 1 = .ok (.sipush 255, 3) := by decide +kernel
theorem d_jdk_43_3_4 : decode jdk_43_method_3_code 4 = .ok (.if_icmp .gt 7, 3) := by decide +kernel
theorem d_jdk_43_3_7 : decode jdk_43_method_3_code 7 = .ok (.iconst 1, 1) := by decide +kernel
theorem d_jdk_43_3_8 : decode jdk_43_method_3_code 8 = .ok (.goto 4, 3) := by decide +kernel
theorem d_jdk_43_3_12 : decode jdk_43_method_3_code 12 = .ok (.ireturn, 1) := by decide +kernel
theorem d_jdk_43_46_0 : decode jdk_43_method_46_code 0 = .ok (.iconst 1, 1) := by decide +kernel
theorem d_jdk_43_46_1 : decode jdk_43_method_46_code 1 = .ok (.newarray .byte, 2) := by decide +kernel
theorem d_jdk_43_46_3 : decode jdk_43_method_46_code 3 = .ok (.dup, 1) := by decide +kernel
theorem d_jdk_43_46_4 : decode jdk_43_method_46_code 4 = .ok (.iconst 0, 1) := by decide +kernel
theorem d_jdk_43_46_5 : decode jdk_43_method_46_code 5 = .ok (.iload_n 0, 1) := by decide +kernel
theorem d_jdk_43_46_6 : decode jdk_43_method_46_code 6 = .ok (.i2b, 1) := by decide +kernel
theorem d_jdk_43_46_7 : decode jdk_43_method_46_code 7 = .ok (.bastore, 1) := by decide +kernel
theorem d_jdk_43_46_8 : decode jdk_43_method_46_code 8 = .ok (.areturn, 1) := by decide +kernel
theorem d_jdk_52_11_0 : decode jdk_52_method_11_code 0 = .ok (.getstatic 44, 3) := by decide +kernel
theorem d_jdk_52_11_3 : decode jdk_52_method_11_code 3 = .ok (.ifCond .ne 16, 3) := by decide +kernel
theorem d_jdk_52_11_19 : decode jdk_52_method_11_code 19 = .ok (.iload_n 2, 1) := by decide +kernel
theorem d_jdk_52_11_20 : decode jdk_52_method_11_code 20 = .ok (.iload_n 1, 1) := by decide +kernel
theorem d_jdk_52_11_21 : decode jdk_52_method_11_code 21 = .ok (.isub, 1) := by decide +kernel
theorem d_jdk_52_11_22 : decode jdk_52_method_11_code 22 = .ok (.istore 4, 2) := by decide +kernel
theorem d_jdk_52_11_24 : decode jdk_52_method_11_code 24 = .ok (.iload_n 1, 1) := by decide +kernel
theorem d_jdk_52_11_25 : decode jdk_52_method_11_code 25 = .ok (.istore 5, 2) := by decide +kernel
theorem d_jdk_52_11_27 : decode jdk_52_method_11_code 27 = .ok (.iload_n 3, 1) := by decide +kernel
theorem d_jdk_52_11_28 : decode jdk_52_method_11_code 28 = .ok (.ifCond .eq 16, 3) := by decide +kernel
theorem d_jdk_52_11_44 : decode jdk_52_method_11_code 44 = .ok (.iload 5, 2) := by decide +kernel
theorem d_jdk_52_11_46 : decode jdk_52_method_11_code 46 = .ok (.iload_n 2, 1) := by decide +kernel
theorem d_jdk_52_11_47 : decode jdk_52_method_11_code 47 = .ok (.iconst 1, 1) := by decide +kernel
theorem d_jdk_52_11_48 : decode jdk_52_method_11_code 48 = .ok (.isub, 1) := by decide +kernel
theorem d_jdk_52_11_49 : decode jdk_52_method_11_code 49 = .ok (.if_icmp .ge 39, 3) := by decide +kernel
theorem d_jdk_52_11_52 : decode jdk_52_method_11_code 52 = .ok (.aload_n 0, 1) := by decide +kernel
theorem d_jdk_52_11_53 : decode jdk_52_method_11_code 53 = .ok (.iload 5, 2) := by decide +kernel
theorem d_jdk_52_11_55 : decode jdk_52_method_11_code 55 = .ok (.iinc 5 1, 3) := by decide +kernel
theorem d_jdk_52_11_58 : decode jdk_52_method_11_code 58 = .ok (.invokestatic 71, 3) := by decide +kernel
theorem d_jdk_52_11_61 : decode jdk_52_method_11_code 61 = .ok (.invokestatic 75, 3) := by decide +kernel
theorem d_jdk_52_11_64 : decode jdk_52_method_11_code 64 = .ok (.ifCond .eq (-20), 3) := by decide +kernel
theorem d_jdk_52_11_67 : decode jdk_52_method_11_code 67 = .ok (.aload_n 0, 1) := by decide +kernel
theorem d_jdk_52_11_68 : decode jdk_52_method_11_code 68 = .ok (.iload 5, 2) := by decide +kernel
theorem d_jdk_52_11_70 : decode jdk_52_method_11_code 70 = .ok (.invokestatic 71, 3) := by decide +kernel
theorem d_jdk_52_11_73 : decode jdk_52_method_11_code 73 = .ok (.invokestatic 81, 3) := by decide +kernel
theorem d_jdk_52_11_76 : decode jdk_52_method_11_code 76 = .ok (.ifCond .eq (-32), 3) := by decide +kernel
theorem d_jdk_52_11_79 : decode jdk_52_method_11_code 79 = .ok (.iinc 4 (-1), 3) := by decide +kernel
theorem d_jdk_52_11_82 : decode jdk_52_method_11_code 82 = .ok (.iinc 5 1, 3) := by decide +kernel
theorem d_jdk_52_11_85 : decode jdk_52_method_11_code 85 = .ok (.goto (-41), 3) := by decide +kernel
theorem d_jdk_52_11_88 : decode jdk_52_method_11_code 88 = .ok (.iload 4, 2) := by decide +kernel
theorem d_jdk_52_11_90 : decode jdk_52_method_11_code 90 = .ok (.ireturn, 1) := by decide +kernel
theorem d_jdk_52_12_0 : decode jdk_52_method_12_code 0 = .ok (.aload_n 0, 1) := by decide +kernel
theorem d_jdk_52_12_1 : decode jdk_52_method_12_code 1 = .ok (.iload_n 1, 1) := by decide +kernel
theorem d_jdk_52_12_2 : decode jdk_52_method_12_code 2 = .ok (.iload_n 2, 1) := by decide +kernel
theorem d_jdk_52_12_3 : decode jdk_52_method_12_code 3 = .ok (.iconst 0, 1) := by decide +kernel
theorem d_jdk_52_12_4 : decode jdk_52_method_12_code 4 = .ok (.invokestatic 100, 3) := by decide +kernel
theorem d_jdk_52_12_7 : decode jdk_52_method_12_code 7 = .ok (.ireturn, 1) := by decide +kernel
theorem d_jdk_52_14_0 : decode jdk_52_method_14_code 0 = .ok (.iload_n 2, 1) := by decide +kernel
theorem d_jdk_52_14_1 : decode jdk_52_method_14_code 1 = .ok (.invokestatic 107, 3) := by decide +kernel
theorem d_jdk_52_14_4 : decode jdk_52_method_14_code 4 = .ok (.astore_n 3, 1) := by decide +kernel
theorem d_jdk_52_14_5 : decode jdk_52_method_14_code 5 = .ok (.iconst 0, 1) := by decide +kernel
theorem d_jdk_52_14_6 : decode jdk_52_method_14_code 6 = .ok (.istore 4, 2) := by decide +kernel
theorem d_jdk_52_14_8 : decode jdk_52_method_14_code 8 = .ok (.iload 4, 2) := by decide +kernel
theorem d_jdk_52_14_10 : decode jdk_52_method_14_code 10 = .ok (.iload_n 2, 1) := by decide +kernel
theorem d_jdk_52_14_11 : decode jdk_52_method_14_code 11 = .ok (.if_icmp .ge 21, 3) := by decide +kernel
theorem d_jdk_52_14_14 : decode jdk_52_method_14_code 14 = .ok (.aload_n 3, 1) := by decide +kernel
theorem d_jdk_52_14_15 : decode jdk_52_method_14_code 15 = .ok (.iload 4, 2) := by decide +kernel
theorem d_jdk_52_14_17 : decode jdk_52_method_14_code 17 = .ok (.aload_n 0, 1) := by decide +kernel
theorem d_jdk_52_14_18 : decode jdk_52_method_14_code 18 = .ok (.iload_n 1, 1) := by decide +kernel
theorem d_jdk_52_14_19 : decode jdk_52_method_14_code 19 = .ok (.caload, 1) := by decide +kernel
theorem d_jdk_52_14_20 : decode jdk_52_method_14_code 20 = .ok (.invokestatic 111, 3) := by decide +kernel
theorem d_jdk_52_14_23 : decode jdk_52_method_14_code 23 = .ok (.iinc 1 1, 3) := by decide +kernel
theorem d_jdk_52_14_26 : decode jdk_52_method_14_code 26 = .ok (.iinc 4 1, 3) := by decide +kernel
theorem d_jdk_52_14_29 : decode jdk_52_method_14_code 29 = .ok (.goto (-21), 3) := by decide +kernel
theorem d_jdk_52_14_32 : decode jdk_52_method_14_code 32 = .ok (.aload_n 3, 1) := by decide +kernel
theorem d_jdk_52_14_33 : decode jdk_52_method_14_code 33 = .ok (.areturn, 1) := by decide +kernel
theorem d_jdk_52_15_0 : decode jdk_52_method_15_code 0 = .ok (.iload_n 1, 1) := by decide +kernel
theorem d_jdk_52_15_1 : decode jdk_52_method_15_code 1 = .ok (.aload_n 0, 1) := by decide +kernel
theorem d_jdk_52_15_2 : decode jdk_52_method_15_code 2 = .ok (.arraylength, 1) := by decide +kernel
theorem d_jdk_52_15_3 : decode jdk_52_method_15_code 3 = .ok (.isub, 1) := by decide +kernel
theorem d_jdk_52_15_4 : decode jdk_52_method_15_code 4 = .ok (.bipush 31, 2) := by decide +kernel
theorem d_jdk_52_15_6 : decode jdk_52_method_15_code 6 = .ok (.iushr, 1) := by decide +kernel
theorem d_jdk_52_15_7 : decode jdk_52_method_15_code 7 = .ok (.i2b, 1) := by decide +kernel
theorem d_jdk_52_15_8 : decode jdk_52_method_15_code 8 = .ok (.ireturn, 1) := by decide +kernel
theorem d_jdk_52_16_0 : decode jdk_52_method_16_code 0 = .ok (.iload_n 2, 1) := by decide +kernel
theorem d_jdk_52_16_1 : decode jdk_52_method_16_code 1 = .ok (.newarray .byte, 2) := by decide +kernel
theorem d_jdk_52_16_3 : decode jdk_52_method_16_code 3 = .ok (.astore_n 3, 1) := by decide +kernel
theorem d_jdk_52_16_4 : decode jdk_52_method_16_code 4 = .ok (.aload_n 0, 1) := by decide +kernel
theorem d_jdk_52_16_5 : decode jdk_52_method_16_code 5 = .ok (.iload_n 1, 1) := by decide +kernel
theorem d_jdk_52_16_6 : decode jdk_52_method_16_code 6 = .ok (.aload_n 3, 1) := by decide +kernel
theorem d_jdk_52_16_7 : decode jdk_52_method_16_code 7 = .ok (.iconst 0, 1) := by decide +kernel
theorem d_jdk_52_16_8 : decode jdk_52_method_16_code 8 = .ok (.iload_n 2, 1) := by decide +kernel
theorem d_jdk_52_16_9 : decode jdk_52_method_16_code 9 = .ok (.invokestatic 115, 3) := by decide +kernel
theorem d_jdk_52_16_12 : decode jdk_52_method_16_code 12 = .ok (.istore 4, 2) := by decide +kernel
theorem d_jdk_52_16_14 : decode jdk_52_method_16_code 14 = .ok (.iload 4, 2) := by decide +kernel
theorem d_jdk_52_16_16 : decode jdk_52_method_16_code 16 = .ok (.iload_n 2, 1) := by decide +kernel
theorem d_jdk_52_16_17 : decode jdk_52_method_16_code 17 = .ok (.if_icmp .eq 40, 3) := by decide +kernel
theorem d_jdk_52_16_20 : decode jdk_52_method_16_code 20 = .ok (.aload_n 0, 1) := by decide +kernel
theorem d_jdk_52_16_21 : decode jdk_52_method_16_code 21 = .ok (.iload_n 1, 1) := by decide +kernel
theorem d_jdk_52_16_22 : decode jdk_52_method_16_code 22 = .ok (.iload_n 2, 1) := by decide +kernel
theorem d_jdk_52_16_23 : decode jdk_52_method_16_code 23 = .ok (.invokestatic 119, 3) := by decide +kernel
theorem d_jdk_52_16_26 : decode jdk_52_method_16_code 26 = .ok (.astore 5, 2) := by decide +kernel
theorem d_jdk_52_16_28 : decode jdk_52_method_16_code 28 = .ok (.aload 5, 2) := by decide +kernel
theorem d_jdk_52_16_30 : decode jdk_52_method_16_code 30 = .ok (.iload 4, 2) := by decide +kernel
theorem d_jdk_52_16_32 : decode jdk_52_method_16_code 32 = .ok (.invokestatic 71, 3) := by decide +kernel
theorem d_jdk_52_16_35 : decode jdk_52_method_16_code 35 = .ok (.sipush 255, 3) := by decide +kernel
theorem d_jdk_52_16_38 : decode jdk_52_method_16_code 38 = .ok (.if_icmp .gt 16, 3) := by decide +kernel
theorem d_jdk_52_16_54 : decode jdk_52_method_16_code 54 = .ok (.aload 5, 2) := by decide +kernel
theorem d_jdk_52_16_56 : decode jdk_52_method_16_code 56 = .ok (.areturn, 1) := by decide +kernel
theorem d_jdk_52_16_57 : decode jdk_52_method_16_code 57 = .ok (.aload_n 3, 1) := by decide +kernel
theorem d_jdk_52_16_58 : decode jdk_52_method_16_code 58 = .ok (.areturn, 1) := by decide +kernel
theorem d_jdk_52_21_0 : decode jdk_52_method_21_code 0 = .ok (.iconst 0, 1) := by decide +kernel
theorem d_jdk_52_21_1 : decode jdk_52_method_21_code 1 = .ok (.istore 5, 2) := by decide +kernel
theorem d_jdk_52_21_3 : decode jdk_52_method_21_code 3 = .ok (.iload 5, 2) := by decide +kernel
theorem d_jdk_52_21_5 : decode jdk_52_method_21_code 5 = .ok (.iload 4, 2) := by decide +kernel
theorem d_jdk_52_21_7 : decode jdk_52_method_21_code 7 = .ok (.if_icmp .ge 37, 3) := by decide +kernel
theorem d_jdk_52_21_10 : decode jdk_52_method_21_code 10 = .ok (.aload_n 0, 1) := by decide +kernel
theorem d_jdk_52_21_11 : decode jdk_52_method_21_code 11 = .ok (.iload_n 1, 1) := by decide +kernel
theorem d_jdk_52_21_12 : decode jdk_52_method_21_code 12 = .ok (.caload, 1) := by decide +kernel
theorem d_jdk_52_21_13 : decode jdk_52_method_21_code 13 = .ok (.istore 6, 2) := by decide +kernel
theorem d_jdk_52_21_15 : decode jdk_52_method_21_code 15 = .ok (.iload 6, 2) := by decide +kernel
theorem d_jdk_52_21_17 : decode jdk_52_method_21_code 17 = .ok (.sipush 255, 3) := by decide +kernel
theorem d_jdk_52_21_20 : decode jdk_52_method_21_code 20 = .ok (.if_icmp .le 6, 3) := by decide +kernel
theorem d_jdk_52_21_23 : decode jdk_52_method_21_code 23 = .ok (.iload 5, 2) := by decide +kernel
theorem d_jdk_52_21_25 : decode jdk_52_method_21_code 25 = .ok (.ireturn, 1) := by decide +kernel
theorem d_jdk_52_21_26 : decode jdk_52_method_21_code 26 = .ok (.aload_n 2, 1) := by decide +kernel
theorem d_jdk_52_21_27 : decode jdk_52_method_21_code 27 = .ok (.iload_n 3, 1) := by decide +kernel
theorem d_jdk_52_21_28 : decode jdk_52_method_21_code 28 = .ok (.iload 6, 2) := by decide +kernel
theorem d_jdk_52_21_30 : decode jdk_52_method_21_code 30 = .ok (.i2b, 1) := by decide +kernel
theorem d_jdk_52_21_31 : decode jdk_52_method_21_code 31 = .ok (.bastore, 1) := by decide +kernel
theorem d_jdk_52_21_32 : decode jdk_52_method_21_code 32 = .ok (.iinc 1 1, 3) := by decide +kernel
theorem d_jdk_52_21_35 : decode jdk_52_method_21_code 35 = .ok (.iinc 3 1, 3) := by decide +kernel
theorem d_jdk_52_21_38 : decode jdk_52_method_21_code 38 = .ok (.iinc 5 1, 3) := by decide +kernel
theorem d_jdk_52_21_41 : decode jdk_52_method_21_code 41 = .ok (.goto (-38), 3) := by decide +kernel
theorem d_jdk_52_21_44 : decode jdk_52_method_21_code 44 = .ok (.iload 4, 2) := by decide +kernel
theorem d_jdk_52_21_46 : decode jdk_52_method_21_code 46 = .ok (.ireturn, 1) := by decide +kernel
theorem d_jdk_52_2_0 : decode jdk_52_method_2_code 0 = .ok (.iload_n 0, 1) := by decide +kernel
theorem d_jdk_52_2_1 : decode jdk_52_method_2_code 1 = .ok (.invokestatic 11, 3) := by decide +kernel
theorem d_jdk_52_2_4 : decode jdk_52_method_2_code 4 = .ok (.newarray .byte, 2) := by decide +kernel
theorem d_jdk_52_2_6 : decode jdk_52_method_2_code 6 = .ok (.areturn, 1) := by decide +kernel
theorem d_jdk_52_3_0 : decode jdk_52_method_3_code 0 = .ok (.iload_n 0, 1) := by decide +kernel
theorem d_jdk_52_3_1 : decode jdk_52_method_3_code 1 = .ok (.ifCond .ge 11, 3) := by decide +kernel
theorem d_jdk_52_3_12 : decode jdk_52_method_3_code 12 = .ok (.iload_n 0, 1) := by decide +kernel
theorem d_jdk_52_3_13 : decode jdk_52_method_3_code 13 = .ok (.ldc 20, 2) := by decide +kernel
theorem d_jdk_52_3_15 : decode jdk_52_method_3_code 15 = .ok (.if_icmp .lt 40, 3) := by decide +kernel
theorem d_jdk_52_3_55 : decode jdk_52_method_3_code 55 = .ok (.iload_n 0, 1) := by decide +kernel
theorem d_jdk_52_3_56 : decode jdk_52_method_3_code 56 = .ok (.iconst 1, 1) := by decide +kernel
theorem d_jdk_52_3_57 : decode jdk_52_method_3_code 57 = .ok (.ishl, 1) := by decide +kernel
theorem d_jdk_52_3_58 : decode jdk_52_method_3_code 58 = .ok (.ireturn, 1) := by decide +kernel
theorem d_jdk_52_4_0 : decode jdk_52_method_4_code 0 = .ok (.getstatic 44, 3) := by decide +kernel
theorem d_jdk_52_4_3 : decode jdk_52_method_4_code 3 = .ok (.ifCond .ne 25, 3) := by decide +kernel
theorem d_jdk_52_4_28 : decode jdk_52_method_4_code 28 = .ok (.iload_n 1, 1) := by decide +kernel
theorem d_jdk_52_4_29 : decode jdk_52_method_4_code 29 = .ok (.iconst 1, 1) := by decide +kernel
theorem d_jdk_52_4_30 : decode jdk_52_method_4_code 30 = .ok (.ishl, 1) := by decide +kernel
theorem d_jdk_52_4_31 : decode jdk_52_method_4_code 31 = .ok (.istore_n 1, 1) := by decide +kernel
theorem d_jdk_52_4_32 : decode jdk_52_method_4_code 32 = .ok (.aload_n 0, 1) := by decide +kernel
theorem d_jdk_52_4_33 : decode jdk_52_method_4_code 33 = .ok (.iload_n 1, 1) := by decide +kernel
theorem d_jdk_52_4_34 : decode jdk_52_method_4_code 34 = .ok (.iinc 1 1, 3) := by decide +kernel
theorem d_jdk_52_4_37 : decode jdk_52_method_4_code 37 = .ok (.iload_n 2, 1) := by decide +kernel
theorem d_jdk_52_4_38 : decode jdk_52_method_4_code 38 = .ok (.getstatic 59, 3) := by decide +kernel
theorem d_jdk_52_4_41 : decode jdk_52_method_4_code 41 = .ok (.ishr, 1) := by decide +kernel
theorem d_jdk_52_4_42 : decode jdk_52_method_4_code 42 = .ok (.i2b, 1) := by decide +kernel
theorem d_jdk_52_4_43 : decode jdk_52_method_4_code 43 = .ok (.bastore, 1) := by decide +kernel
theorem d_jdk_52_4_44 : decode jdk_52_method_4_code 44 = .ok (.aload_n 0, 1) := by decide +kernel
theorem d_jdk_52_4_45 : decode jdk_52_method_4_code 45 = .ok (.iload_n 1, 1) := by decide +kernel
theorem d_jdk_52_4_46 : decode jdk_52_method_4_code 46 = .ok (.iload_n 2, 1) := by decide +kernel
theorem d_jdk_52_4_47 : decode jdk_52_method_4_code 47 = .ok (.getstatic 63, 3) := by decide +kernel
theorem d_jdk_52_4_50 : decode jdk_52_method_4_code 50 = .ok (.ishr, 1) := by decide +kernel
theorem d_jdk_52_4_51 : decode jdk_52_method_4_code 51 = .ok (.i2b, 1) := by decide +kernel
theorem d_jdk_52_4_52 : decode jdk_52_method_4_code 52 = .ok (.bastore, 1) := by decide +kernel
theorem d_jdk_52_4_53 : decode jdk_52_method_4_code 53 = .ok (.return_, 1) := by decide +kernel
theorem d_jdk_52_5_0 : decode jdk_52_method_5_code 0 = .ok (.getstatic 44, 3) := by decide +kernel
theorem d_jdk_52_5_3 : decode jdk_52_method_5_code 3 = .ok (.ifCond .ne 25, 3) := by decide +kernel
theorem d_jdk_52_5_28 : decode jdk_52_method_5_code 28 = .ok (.iload_n 1, 1) := by decide +kernel
theorem d_jdk_52_5_29 : decode jdk_52_method_5_code 29 = .ok (.iconst 1, 1) := by decide +kernel
theorem d_jdk_52_5_30 : decode jdk_52_method_5_code 30 = .ok (.ishl, 1) := by decide +kernel
theorem d_jdk_52_5_31 : decode jdk_52_method_5_code 31 = .ok (.istore_n 1, 1) := by decide +kernel
theorem d_jdk_52_5_32 : decode jdk_52_method_5_code 32 = .ok (.aload_n 0, 1) := by decide +kernel
theorem d_jdk_52_5_33 : decode jdk_52_method_5_code 33 = .ok (.iload_n 1, 1) := by decide +kernel
theorem d_jdk_52_5_34 : decode jdk_52_method_5_code 34 = .ok (.iinc 1 1, 3) := by decide +kernel
theorem d_jdk_52_5_37 : decode jdk_52_method_5_code 37 = .ok (.baload, 1) := by decide +kernel
theorem d_jdk_52_5_38 : decode jdk_52_method_5_code 38 = .ok (.sipush 255, 3) := by decide +kernel
theorem d_jdk_52_5_41 : decode jdk_52_method_5_code 41 = .ok (.iand, 1) := by decide +kernel
theorem d_jdk_52_5_42 : decode jdk_52_method_5_code 42 = .ok (.getstatic 59, 3) := by decide +kernel
theorem d_jdk_52_5_45 : decode jdk_52_method_5_code 45 = .ok (.ishl, 1) := by decide +kernel
theorem d_jdk_52_5_46 : decode jdk_52_method_5_code 46 = .ok (.aload_n 0, 1) := by decide +kernel
theorem d_jdk_52_5_47 : decode jdk_52_method_5_code 47 = .ok (.iload_n 1, 1) := by decide +kernel
theorem d_jdk_52_5_48 : decode jdk_52_method_5_code 48 = .ok (.baload, 1) := by decide +kernel
theorem d_jdk_52_5_49 : decode jdk_52_method_5_code 49 = .ok (.sipush 255, 3) := by decide +kernel
theorem d_jdk_52_5_52 : decode jdk_52_method_5_code 52 = .ok (.iand, 1) := by decide +kernel
theorem d_jdk_52_5_53 : decode jdk_52_method_5_code 53 = .ok (.getstatic 63, 3) := by decide +kernel
theorem d_jdk_52_5_56 : decode jdk_52_method_5_code 56 = .ok (.ishl, 1) := by decide +kernel
theorem d_jdk_52_5_57 : decode jdk_52_method_5_code 57 = .ok (.ior, 1) := by decide +kernel
theorem d_jdk_52_5_58 : decode jdk_52_method_5_code 58 = .ok (.i2c, 1) := by decide +kernel
theorem d_jdk_52_5_59 : decode jdk_52_method_5_code 59 = .ok (.ireturn, 1) := by decide +kernel
theorem d_jdk_89_14_0 : decode jdk_89_method_14_code 0 = .ok (.iload_n 0, 1) := by decide +kernel
theorem d_jdk_89_14_1 : decode jdk_89_method_14_code 1 = .ok (.ldc 75, 2) := by decide +kernel
theorem d_jdk_89_14_3 : decode jdk_89_method_14_code 3 = .ok (.if_icmp .lt 13, 3) := by decide +kernel
theorem d_jdk_89_14_6 : decode jdk_89_method_14_code 6 = .ok (.iload_n 0, 1) := by decide +kernel
theorem d_jdk_89_14_7 : decode jdk_89_method_14_code 7 = .ok (.ldc 76, 2) := by decide +kernel
theorem d_jdk_89_14_9 : decode jdk_89_method_14_code 9 = .ok (.if_icmp .ge 7, 3) := by decide +kernel
theorem d_jdk_89_14_12 : decode jdk_89_method_14_code 12 = .ok (.iconst 1, 1) := by decide +kernel
theorem d_jdk_89_14_13 : decode jdk_89_method_14_code 13 = .ok (.goto 4, 3) := by decide +kernel
theorem d_jdk_89_14_16 : decode jdk_89_method_14_code 16 = .ok (.iconst 0, 1) := by decide +kernel
theorem d_jdk_89_14_17 : decode jdk_89_method_14_code 17 = .ok (.ireturn, 1) := by decide +kernel
theorem d_jdk_89_15_0 : decode jdk_89_method_15_code 0 = .ok (.iload_n 0, 1) := by decide +kernel
theorem d_jdk_89_15_1 : decode jdk_89_method_15_code 1 = .ok (.ldc 76, 2) := by decide +kernel
theorem d_jdk_89_15_3 : decode jdk_89_method_15_code 3 = .ok (.if_icmp .lt 13, 3) := by decide +kernel
theorem d_jdk_89_15_6 : decode jdk_89_method_15_code 6 = .ok (.iload_n 0, 1) := by decide +kernel
theorem d_jdk_89_15_7 : decode jdk_89_method_15_code 7 = .ok (.ldc 77, 2) := by decide +kernel
theorem d_jdk_89_15_9 : decode jdk_89_method_15_code 9 = .ok (.if_icmp .ge 7, 3) := by decide +kernel
theorem d_jdk_89_15_12 : decode jdk_89_method_15_code 12 = .ok (.iconst 1, 1) := by decide +kernel
theorem d_jdk_89_15_13 : decode jdk_89_method_15_code 13 = .ok (.goto 4, 3) := by decide +kernel
theorem d_jdk_89_15_16 : decode jdk_89_method_15_code 16 = .ok (.iconst 0, 1) := by decide +kernel
theorem d_jdk_89_15_17 : decode jdk_89_method_15_code 17 = .ok (.ireturn, 1) := by decide +kernel
theorem d_method_2_0 : decode method_2_code 0 = .ok (.lload_n 0, 1) := by decide +kernel
theorem d_method_2_1 : decode method_2_code 1 = .ok (.bipush 16, 2) := by decide +kernel
theorem d_method_2_3 : decode method_2_code 3 = .ok (.iload_n 3, 1) := by decide +kernel
theorem d_method_2_4 : decode method_2_code 4 = .ok (.imul, 1) := by decide +kernel
theorem d_method_2_5 : decode method_2_code 5 = .ok (.lushr, 1) := by decide +kernel
theorem d_method_2_6 : decode method_2_code 6 = .ok (.ldc2_w 7, 3) := by decide +kernel
theorem d_method_2_9 : decode method_2_code 9 = .ok (.land, 1) := by decide +kernel
theorem d_method_2_10 : decode method_2_code 10 = .ok (.l2i, 1) := by decide +kernel
theorem d_method_2_11 : decode method_2_code 11 = .ok (.istore 4, 2) := by decide +kernel
theorem d_method_2_13 : decode method_2_code 13 = .ok (.iload_n 2, 1) := by decide +kernel
theorem d_method_2_14 : decode method_2_code 14 = .ok (.iload_n 3, 1) := by decide +kernel
theorem d_method_2_15 : decode method_2_code 15 = .ok (.iushr, 1) := by decide +kernel
theorem d_method_2_16 : decode method_2_code 16 = .ok (.iconst 1, 1) := by decide +kernel
theorem d_method_2_17 : decode method_2_code 17 = .ok (.iand, 1) := by decide +kernel
theorem d_method_2_18 : decode method_2_code 18 = .ok (.ifCond .eq 14, 3) := by decide +kernel
theorem d_method_2_21 : decode method_2_code 21 = .ok (.ldc 9, 2) := by decide +kernel
theorem d_method_2_23 : decode method_2_code 23 = .ok (.iload 4, 2) := by decide +kernel
theorem d_method_2_25 : decode method_2_code 25 = .ok (.sipush 2047, 3) := by decide +kernel
theorem d_method_2_28 : decode method_2_code 28 = .ok (.iand, 1) := by decide +kernel
theorem d_method_2_29 : decode method_2_code 29 = .ok (.ior, 1) := by decide +kernel
theorem d_method_2_30 : decode method_2_code 30 = .ok (.istore 4, 2) := by decide +kernel
theorem d_method_2_32 : decode method_2_code 32 = .ok (.iload 4, 2) := by decide +kernel
theorem d_method_2_34 : decode method_2_code 34 = .ok (.i2c, 1) := by decide +kernel
theorem d_method_2_35 : decode method_2_code 35 = .ok (.ireturn, 1) := by decide +kernel
theorem d_method_3_0 : decode method_3_code 0 = .ok (.iload_n 0, 1) := by decide +kernel
theorem d_method_3_1 : decode method_3_code 1 = .ok (.ldc 9, 2) := by decide +kernel
theorem d_method_3_3 : decode method_3_code 3 = .ok (.if_icmp .lt 13, 3) := by decide +kernel
theorem d_method_3_6 : decode method_3_code 6 = .ok (.iload_n 0, 1) := by decide +kernel
theorem d_method_3_7 : decode method_3_code 7 = .ok (.ldc 10, 2) := by decide +kernel
theorem d_method_3_9 : decode method_3_code 9 = .ok (.if_icmp .gt 7, 3) := by decide +kernel
theorem d_method_3_12 : decode method_3_code 12 = .ok (.iconst 1, 1) := by decide +kernel
theorem d_method_3_13 : decode method_3_code 13 = .ok (.goto 4, 3) := by decide +kernel
theorem d_method_3_16 : decode method_3_code 16 = .ok (.iconst 0, 1) := by decide +kernel
theorem d_method_3_17 : decode method_3_code 17 = .ok (.ireturn, 1) := by decide +kernel
theorem d_method_4_0 : decode method_4_code 0 = .ok (.iload_n 0, 1) := by decide +kernel
theorem d_method_4_1 : decode method_4_code 1 = .ok (.ldc 11, 2) := by decide +kernel
theorem d_method_4_3 : decode method_4_code 3 = .ok (.if_icmp .lt 13, 3) := by decide +kernel
theorem d_method_4_6 : decode method_4_code 6 = .ok (.iload_n 0, 1) := by decide +kernel
theorem d_method_4_7 : decode method_4_code 7 = .ok (.ldc 12, 2) := by decide +kernel
theorem d_method_4_9 : decode method_4_code 9 = .ok (.if_icmp .gt 7, 3) := by decide +kernel
theorem d_method_4_12 : decode method_4_code 12 = .ok (.iconst 1, 1) := by decide +kernel
theorem d_method_4_13 : decode method_4_code 13 = .ok (.goto 4, 3) := by decide +kernel
theorem d_method_4_16 : decode method_4_code 16 = .ok (.iconst 0, 1) := by decide +kernel
theorem d_method_4_17 : decode method_4_code 17 = .ok (.ireturn, 1) := by decide +kernel
theorem d_method_5_0 : decode method_5_code 0 = .ok (.iload_n 0, 1) := by decide +kernel
theorem d_method_5_1 : decode method_5_code 1 = .ok (.invokestatic 13, 3) := by decide +kernel
theorem d_method_5_4 : decode method_5_code 4 = .ok (.ifCond .eq 12, 3) := by decide +kernel
theorem d_method_5_7 : decode method_5_code 7 = .ok (.iload_n 1, 1) := by decide +kernel
theorem d_method_5_8 : decode method_5_code 8 = .ok (.invokestatic 19, 3) := by decide +kernel
theorem d_method_5_11 : decode method_5_code 11 = .ok (.ifCond .eq 5, 3) := by decide +kernel
theorem d_method_5_14 : decode method_5_code 14 = .ok (.iconst 1, 1) := by decide +kernel
theorem d_method_5_15 : decode method_5_code 15 = .ok (.ireturn, 1) := by decide +kernel
theorem d_method_5_16 : decode method_5_code 16 = .ok (.iconst 0, 1) := by decide +kernel
theorem d_method_5_17 : decode method_5_code 17 = .ok (.ireturn, 1) := by decide +kernel
theorem d_method_6_0 : decode method_6_code 0 = .ok (.iload_n 0, 1) := by decide +kernel
theorem d_method_6_1 : decode method_6_code 1 = .ok (.iconst 1, 1) := by decide +kernel
theorem d_method_6_2 : decode method_6_code 2 = .ok (.if_icmp .ne 18, 3) := by decide +kernel
theorem d_method_6_5 : decode method_6_code 5 = .ok (.new 22, 3) := by decide +kernel
theorem d_method_6_8 : decode method_6_code 8 = .ok (.dup, 1) := by decide +kernel
theorem d_method_6_9 : decode method_6_code 9 = .ok (.iconst 1, 1) := by decide +kernel
theorem d_method_6_10 : decode method_6_code 10 = .ok (.newarray .char, 2) := by decide +kernel
theorem d_method_6_12 : decode method_6_code 12 = .ok (.dup, 1) := by decide +kernel
theorem d_method_6_13 : decode method_6_code 13 = .ok (.iconst 0, 1) := by decide +kernel
theorem d_method_6_14 : decode method_6_code 14 = .ok (.iload_n 1, 1) := by decide +kernel
theorem d_method_6_15 : decode method_6_code 15 = .ok (.castore, 1) := by decide +kernel
theorem d_method_6_16 : decode method_6_code 16 = .ok (.invokespecial 24, 3) := by decide +kernel
theorem d_method_6_19 : decode method_6_code 19 = .ok (.areturn, 1) := by decide +kernel
theorem d_method_6_20 : decode method_6_code 20 = .ok (.iload_n 0, 1) := by decide +kernel
theorem d_method_6_21 : decode method_6_code 21 = .ok (.iconst 2, 1) := by decide +kernel
theorem d_method_6_22 : decode method_6_code 22 = .ok (.if_icmp .ne 22, 3) := by decide +kernel
theorem d_method_6_25 : decode method_6_code 25 = .ok (.new 22, 3) := by decide +kernel
theorem d_method_6_28 : decode method_6_code 28 = .ok (.dup, 1) := by decide +kernel
theorem d_method_6_29 : decode method_6_code 29 = .ok (.iconst 2, 1) := by decide +kernel
theorem d_method_6_30 : decode method_6_code 30 = .ok (.newarray .char, 2) := by decide +kernel
theorem d_method_6_32 : decode method_6_code 32 = .ok (.dup, 1) := by decide +kernel
theorem d_method_6_33 : decode method_6_code 33 = .ok (.iconst 0, 1) := by decide +kernel
theorem d_method_6_34 : decode method_6_code 34 = .ok (.iload_n 1, 1) := by decide +kernel
theorem d_method_6_35 : decode method_6_code 35 = .ok (.castore, 1) := by decide +kernel
theorem d_method_6_36 : decode method_6_code 36 = .ok (.dup, 1) := by decide +kernel
theorem d_method_6_37 : decode method_6_code 37 = .ok (.iconst 1, 1) := by decide +kernel
theorem d_method_6_38 : decode method_6_code 38 = .ok (.iload_n 2, 1) := by decide +kernel
theorem d_method_6_39 : decode method_6_code 39 = .ok (.castore, 1) := by decide +kernel
theorem d_method_6_40 : decode method_6_code 40 = .ok (.invokespecial 24, 3) := by decide +kernel
theorem d_method_6_43 : decode method_6_code 43 = .ok (.areturn, 1) := by decide +kernel
theorem d_method_6_44 : decode method_6_code 44 = .ok (.iload_n 0, 1) := by decide +kernel
theorem d_method_6_45 : decode method_6_code 45 = .ok (.iconst 3, 1) := by decide +kernel
theorem d_method_6_46 : decode method_6_code 46 = .ok (.if_icmp .ne 26, 3) := by decide +kernel
theorem d_method_6_49 : decode method_6_code 49 = .ok (.new 22, 3) := by decide +kernel
theorem d_method_6_52 : decode method_6_code 52 = .ok (.dup, 1) := by decide +kernel
theorem d_method_6_53 : decode method_6_code 53 = .ok (.iconst 3, 1) := by decide +kernel
theorem d_method_6_54 : decode method_6_code 54 = .ok (.newarray .char, 2) := by decide +kernel
theorem d_method_6_56 : decode method_6_code 56 = .ok (.dup, 1) := by decide +kernel
theorem d_method_6_57 : decode method_6_code 57 = .ok (.iconst 0, 1) := by decide +kernel
theorem d_method_6_58 : decode method_6_code 58 = .ok (.iload_n 1, 1) := by decide +kernel
theorem d_method_6_59 : decode method_6_code 59 = .ok (.castore, 1) := by decide +kernel
theorem d_method_6_60 : decode method_6_code 60 = .ok (.dup, 1) := by decide +kernel
theorem d_method_6_61 : decode method_6_code 61 = .ok (.iconst 1, 1) := by decide +kernel
theorem d_method_6_62 : decode method_6_code 62 = .ok (.iload_n 2, 1) := by decide +kernel
theorem d_method_6_63 : decode method_6_code 63 = .ok (.castore, 1) := by decide +kernel
theorem d_method_6_64 : decode method_6_code 64 = .ok (.dup, 1) := by decide +kernel
theorem d_method_6_65 : decode method_6_code 65 = .ok (.iconst 2, 1) := by decide +kernel
theorem d_method_6_66 : decode method_6_code 66 = .ok (.iload_n 3, 1) := by decide +kernel
theorem d_method_6_67 : decode method_6_code 67 = .ok (.castore, 1) := by decide +kernel
theorem d_method_6_68 : decode method_6_code 68 = .ok (.invokespecial 24, 3) := by decide +kernel
theorem d_method_6_71 : decode method_6_code 71 = .ok (.areturn, 1) := by decide +kernel
theorem d_method_6_72 : decode method_6_code 72 = .ok (.new 22, 3) := by decide +kernel
theorem d_method_6_75 : decode method_6_code 75 = .ok (.dup, 1) := by decide +kernel
theorem d_method_6_76 : decode method_6_code 76 = .ok (.iconst 4, 1) := by decide +kernel
theorem d_method_6_77 : decode method_6_code 77 = .ok (.newarray .char, 2) := by decide +kernel
theorem d_method_6_79 : decode method_6_code 79 = .ok (.dup, 1) := by decide +kernel
theorem d_method_6_80 : decode method_6_code 80 = .ok (.iconst 0, 1) := by decide +kernel
theorem d_method_6_81 : decode method_6_code 81 = .ok (.iload_n 1, 1) := by decide +kernel
theorem d_method_6_82 : decode method_6_code 82 = .ok (.castore, 1) := by decide +kernel
theorem d_method_6_83 : decode method_6_code 83 = .ok (.dup, 1) := by decide +kernel
theorem d_method_6_84 : decode method_6_code 84 = .ok (.iconst 1, 1) := by decide +kernel
theorem d_method_6_85 : decode method_6_code 85 = .ok (.iload_n 2, 1) := by decide +kernel
theorem d_method_6_86 : decode method_6_code 86 = .ok (.castore, 1) := by decide +kernel
theorem d_method_6_87 : decode method_6_code 87 = .ok (.dup, 1) := by decide +kernel
theorem d_method_6_88 : decode method_6_code 88 = .ok (.iconst 2, 1) := by decide +kernel
theorem d_method_6_89 : decode method_6_code 89 = .ok (.iload_n 3, 1) := by decide +kernel
theorem d_method_6_90 : decode method_6_code 90 = .ok (.castore, 1) := by decide +kernel
theorem d_method_6_91 : decode method_6_code 91 = .ok (.dup, 1) := by decide +kernel
theorem d_method_6_92 : decode method_6_code 92 = .ok (.iconst 3, 1) := by decide +kernel
theorem d_method_6_93 : decode method_6_code 93 = .ok (.iload 4, 2) := by decide +kernel
theorem d_method_6_95 : decode method_6_code 95 = .ok (.castore, 1) := by decide +kernel
theorem d_method_6_96 : decode method_6_code 96 = .ok (.invokespecial 24, 3) := by decide +kernel
theorem d_method_6_99 : decode method_6_code 99 = .ok (.areturn, 1) := by decide +kernel
theorem d_prog_6_4_0 : decode prog_6_method_4_code 0 = .ok (.aload_n 0, 1) := by decide +kernel
theorem d_prog_6_4_1 : decode prog_6_method_4_code 1 = .ok (.invokevirtual 29, 3) := by decide +kernel
theorem d_prog_6_4_4 : decode prog_6_method_4_code 4 = .ok (.ifCond .eq 19, 3) := by decide +kernel
theorem d_prog_6_4_23 : decode prog_6_method_4_code 23 = .ok (.aload_n 0, 1) := by decide +kernel
theorem d_prog_6_4_24 : decode prog_6_method_4_code 24 = .ok (.iconst 0, 1) := by decide +kernel
theorem d_prog_6_4_25 : decode prog_6_method_4_code 25 = .ok (.aload_n 0, 1) := by decide +kernel
theorem d_prog_6_4_26 : decode prog_6_method_4_code 26 = .ok (.invokevirtual 44, 3) := by decide +kernel
theorem d_prog_6_4_29 : decode prog_6_method_4_code 29 = .ok (.invokevirtual 48, 3) := by decide +kernel
theorem d_prog_6_4_32 : decode prog_6_method_4_code 32 = .ok (.istore_n 3, 1) := by decide +kernel
theorem d_prog_6_4_33 : decode prog_6_method_4_code 33 = .ok (.iload_n 3, 1) := by decide +kernel
theorem d_prog_6_4_34 : decode prog_6_method_4_code 34 = .ok (.iload_n 2, 1) := by decide +kernel
theorem d_prog_6_4_35 : decode prog_6_method_4_code 35 = .ok (.if_icmp .le 20, 3) := by decide +kernel
theorem d_prog_6_4_55 : decode prog_6_method_4_code 55 = .ok (.return_, 1) := by decide +kernel
theorem pd_0 : parseMethodDescriptor "(I)I" = some ⟨[.int], some .int⟩ := by decide +kernel
theorem pd_1 : parseMethodDescriptor "(I)[B" = some ⟨[.int], some (.array .byte)⟩ := by decide +kernel
theorem pd_2 : parseMethodDescriptor "([BII)V" = some ⟨[(.array .byte), .int, .int], none⟩ := by decide +kernel
theorem pd_3 : parseMethodDescriptor "([CI[BII)I" = some ⟨[(.array .char), .int, (.array .byte), .int, .int], some .int⟩ := by decide +kernel
theorem pd_4 : parseMethodDescriptor "([CII)[B" = some ⟨[(.array .char), .int, .int], some (.array .byte)⟩ := by decide +kernel
theorem pd_5 : parseMethodDescriptor "([BI)C" = some ⟨[(.array .byte), .int], some .char⟩ := by decide +kernel
theorem pd_6 : parseMethodDescriptor "([BI)B" = some ⟨[(.array .byte), .int], some .byte⟩ := by decide +kernel
theorem pd_7 : parseMethodDescriptor "([CIILjava/lang/Void;)V" = some ⟨[(.array .char), .int, .int, (.object "java/lang/Void")], none⟩ := by decide +kernel
theorem pd_8 : parseMethodDescriptor "()B" = some ⟨[], some .byte⟩ := by decide +kernel
theorem pd_9 : parseMethodDescriptor "(C)Z" = some ⟨[.char], some .boolean⟩ := by decide +kernel
theorem pd_10 : parseMethodDescriptor "(C)[B" = some ⟨[.char], some (.array .byte)⟩ := by decide +kernel
theorem pd_11 : parseMethodDescriptor "([BB)V" = some ⟨[(.array .byte), .byte], none⟩ := by decide +kernel
theorem pd_12 : parseMethodDescriptor "([C)V" = some ⟨[(.array .char)], none⟩ := by decide +kernel
theorem pd_13 : parseMethodDescriptor "(IIILjava/util/function/BiFunction;)I" = some ⟨[.int, .int, .int, (.object "java/util/function/BiFunction")], some .int⟩ := by decide +kernel
theorem pd_14 : parseMethodDescriptor "([BIIZ)I" = some ⟨[(.array .byte), .int, .int, .boolean], some .int⟩ := by decide +kernel
theorem pd_15 : parseMethodDescriptor "()I" = some ⟨[], some .int⟩ := by decide +kernel
theorem pd_16 : parseMethodDescriptor "(III)I" = some ⟨[.int, .int, .int], some .int⟩ := by decide +kernel
theorem pd_17 : parseMethodDescriptor "()Z" = some ⟨[], some .boolean⟩ := by decide +kernel
theorem pd_18 : parseMethodDescriptor "([BII)I" = some ⟨[(.array .byte), .int, .int], some .int⟩ := by decide +kernel
theorem pd_19 : parseMethodDescriptor "(II)I" = some ⟨[.int, .int], some .int⟩ := by decide +kernel
theorem pd_20 : parseMethodDescriptor "(JII)C" = some ⟨[.long, .int, .int], some .char⟩ := by decide +kernel
theorem pd_21 : parseMethodDescriptor "(ICCCC)Ljava/lang/String;" = some ⟨[.int, .char, .char, .char, .char], some (.object "java/lang/String")⟩ := by decide +kernel
theorem pd_22 : parseMethodDescriptor "(C)Ljava/lang/String;" = some ⟨[.char], some (.object "java/lang/String")⟩ := by decide +kernel
theorem pd_23 : parseMethodDescriptor "(Ljava/lang/String;Ljava/lang/String;I)V" = some ⟨[(.object "java/lang/String"), (.object "java/lang/String"), .int], none⟩ := by decide +kernel
theorem pd_24 : parseMethodDescriptor "(CC)I" = some ⟨[.char, .char], some .int⟩ := by decide +kernel
theorem pn_0 : plainName "java/lang/StringUTF16" = true := by first | (simp [plainName, overriddenIn]; done) | decide +kernel
theorem pn_1 : plainName "java/lang/String" = true := by first | (simp [plainName, overriddenIn]; done) | decide +kernel
theorem pn_2 : plainName "java/lang/StringLatin1" = true := by first | (simp [plainName, overriddenIn]; done) | decide +kernel
theorem pn_3 : plainName "com/example/itihasa/itihasa/model/TextRequireLengthPinLaw" = true := by first | (simp [plainName, overriddenIn]; done) | decide +kernel
theorem pn_4 : plainName "java/lang/Character" = true := by first | (simp [plainName, overriddenIn]; done) | decide +kernel
theorem pn_5 : plainName "jdk/internal/util/Preconditions" = true := by first | (simp [plainName, overriddenIn]; done) | decide +kernel
theorem pn_6 : plainName "java/util/Objects" = true := by first | (simp [plainName, overriddenIn]; done) | decide +kernel
theorem pn_7 : plainName "com/example/itihasa/itihasa/model/Text" = true := by first | (simp [plainName, overriddenIn]; done) | decide +kernel
theorem own_t55296 : (55296 : Int32).toInt = 55296 := rfl
theorem own_t56319 : (56319 : Int32).toInt = 56319 := rfl
theorem own_t56320 : (56320 : Int32).toInt = 56320 := rfl
theorem own_t57343 : (57343 : Int32).toInt = 57343 := rfl
theorem own_t57344 : (57344 : Int32).toInt = 57344 := rfl
theorem own_t0 : (0 : Int32).toInt = 0 := rfl
theorem own_t1 : (1 : Int32).toInt = 1 := rfl
theorem own_t2 : (2 : Int32).toInt = 2 := rfl
theorem own_t3 : (3 : Int32).toInt = 3 := rfl
theorem own_t4 : (4 : Int32).toInt = 4 := rfl
theorem own_all0 {P : Int32 → Prop} : ∀ c ∈ ([] : List Int32), P c := fun _ q => nomatch q
theorem own_allS {P : Int32 → Prop} {a : Int32} {L : List Int32} (q : P a) (r : ∀ c ∈ L, P c) : ∀ c ∈ a :: L, P c := fun x z => (List.mem_cons.mp z).elim (fun u => u ▸ q) (r x)
def latB (c : Int32) : Value := .int c.toInt8.toInt32
/-- the object at a is a Latin-1 String of the chars cs; its bytes lie at b -/
def SL (Z : State) (h : Heap) (a b : Nat) (cs : List Int32) : Prop := Exa Z h a "java/lang/String" ∧ Fld Z h a "java/lang/String" "coder" "B" (.int 0) ∧ Fld Z h a "java/lang/String" "value" "[B" (.ref b) ∧ Ary Z h b .byte (cs.map latB) ∧ ∀ c ∈ cs, 0 ≤ c.toInt ∧ c.toInt ≤ 255
theorem SL.keep {Z : State} {h h' : Heap} {a b : Addr} {cs : List Int32} {ws : List Addr} (S : SL Z h a b cs) (K : Keep h h' ws) (qa : a ∉ ws) (qb : b ∉ ws) : SL Z h' a b cs := by
  obtain ⟨E, F1, F2, V, q⟩ := S
  exact ⟨E.keep K, F1.keep K qa, F2.keep K qa, V.keep K qb, q⟩
theorem SL.lt {Z : State} {h : Heap} {a b : Addr} {cs : List Int32} (S : SL Z h a b cs) : a < h.size := S.1.lt
theorem SL.ltb {Z : State} {h : Heap} {a b : Addr} {cs : List Int32} (S : SL Z h a b cs) : b < h.size := S.2.2.2.1.lt
theorem own_b8 (c : Int32) : c.toInt8.toInt32.toInt8.toInt32 = c.toInt8.toInt32 := by simp
theorem own_toInt {n : Nat} (h : n < 2 ^ 31) : n.toInt32.toInt = n := len_toInt h
theorem own_ltn {i n : Nat} (h : i < n) (hn : n < 2 ^ 31) : i.toInt32 < n.toInt32 := by
  rw [Int32.lt_iff_toInt_lt, own_toInt (by omega), own_toInt hn]; omega
theorem own_nltn {i n : Nat} (h : n ≤ i) (hn : i < 2 ^ 31) : ¬ i.toInt32 < n.toInt32 := by
  rw [Int32.lt_iff_toInt_lt, own_toInt hn, own_toInt (by omega)]; omega
theorem own_nneg {n : Nat} (hn : n < 2 ^ 31) : ¬ n.toInt32 < 0 := by
  rw [Int32.lt_iff_toInt_lt, own_toInt hn]; simp
theorem own_succ (i : Nat) : i.toInt32 + Int32.ofInt 1 = (i + 1).toInt32 := by
  show Int32.ofNat i + Int32.ofInt 1 = Int32.ofNat (i + 1)
  rw [Int32.ofNat_add]; rfl
theorem own_fill {cs : List Int32} {bs : List Value} {i : Nat} {c : Int32} (hl : bs.length = cs.length) (hc : cs[i]? = some c) : ((cs.take i).map latB ++ bs.drop i).set i (latB c) = (cs.take (i + 1)).map latB ++ bs.drop (i + 1) := by
  have hi : i < cs.length := (List.getElem?_eq_some_iff.mp hc).1
  have e1 : ((cs.take i).map latB).length = i := by simp; omega
  have e2 : bs.drop i = bs[i] :: bs.drop (i + 1) := List.drop_eq_getElem_cons (by omega)
  have e3 : cs.take (i + 1) = cs.take i ++ [c] := by rw [List.take_add_one, hc]; rfl
  rw [List.set_append_right _ _ (by omega), e1, e2, e3, Nat.sub_self, List.set_cons_zero, List.map_append, List.append_assoc]
  rfl
theorem own_back (c : Int32) (h : 0 ≤ c.toInt ∧ c.toInt ≤ 255) : nar .char (c.toInt8.toInt32 &&& 255).toUInt32.toUInt16.toUInt32.toInt32 = c := by
  have e : ∀ n : Fin 256, nar .char ((Int32.ofNat n.1).toInt8.toInt32 &&& 255).toUInt32.toUInt16.toUInt32.toInt32 = Int32.ofNat n.1 := by decide +kernel
  have q : c = Int32.ofNat c.toInt.toNat := by
    apply Int32.toInt_inj.mp
    rw [show Int32.ofNat c.toInt.toNat = c.toInt.toNat.toInt32 from rfl, own_toInt (by omega)]; omega
  rw [q]
  exact e ⟨c.toInt.toNat, by omega⟩
theorem own_csub (n : Int32) : (((n - n).toUInt32 >>> ((31 : Int32) &&& 31).toUInt32).toInt32).toInt8.toInt32 = 0 := by
  rw [Int32.sub_self]; decide
theorem own_nchar {c : Int32} (h : 0 ≤ c.toInt ∧ c.toInt < 65536) : nar .char c = c := by
  have q := c_i2c c
  apply Int32.toInt_inj.mp
  show c.toUInt32.toUInt16.toUInt32.toInt32.toInt = c.toInt
  omega
/-- the JDK's statics that String's methods read -/
def SEnv (Z : State) (cc : Int32) (fm : Value) : Prop := Sta Z Z.heap "java/lang/String" "COMPACT_STRINGS" "Z" (.int cc) ∧ ¬ cc = 0 ∧ Sta Z Z.heap "jdk/internal/util/Preconditions" "SIOOBE_FORMATTER" "Ljava/util/function/BiFunction;" fm ∧ fm.isRef = true
def loB (c : Int32) : Value := .int c.toInt8.toInt32
def hiB (c : Int32) : Value := .int (c >>> ((8 : Int32) &&& 31)).toInt8.toInt32
def utfB : List Int32 → List Value
  | [] => []
  | c :: t => loB c :: hiB c :: utfB t
theorem own_ulen : ∀ cs : List Int32, (utfB cs).length = 2 * cs.length
  | [] => rfl
  | c :: t => by simp only [utfB, List.length_cons, own_ulen t]; omega
theorem own_uapp : ∀ xs ys : List Int32, utfB (xs ++ ys) = utfB xs ++ utfB ys
  | [], ys => rfl
  | c :: t, ys => by simp only [List.cons_append, utfB, own_uapp t ys]
theorem own_uget : ∀ (cs : List Int32) (i : Nat) (c : Int32), cs[i]? = some c → (utfB cs)[2 * i]? = some (loB c) ∧ (utfB cs)[2 * i + 1]? = some (hiB c)
  | [], i, c, h => by simp at h
  | d :: t, 0, c, h => by simp at h; subst h; exact ⟨rfl, rfl⟩
  | d :: t, i + 1, c, h => by
    have q := own_uget t i c (by simpa using h)
    exact ⟨by rw [show 2 * (i + 1) = 2 * i + 1 + 1 from by omega]; simpa [utfB] using q.1, by rw [show 2 * (i + 1) + 1 = 2 * i + 1 + 1 + 1 from by omega]; simpa [utfB] using q.2⟩
theorem own_ufill {cs : List Int32} {bs : List Value} {i : Nat} {c : Int32} (hl : bs.length = 2 * cs.length) (hc : cs[i]? = some c) : ((utfB (cs.take i) ++ bs.drop (2 * i)).set (2 * i) (loB c)).set (2 * i + 1) (hiB c) = utfB (cs.take (i + 1)) ++ bs.drop (2 * (i + 1)) := by
  have hi : i < cs.length := (List.getElem?_eq_some_iff.mp hc).1
  have e1 : (utfB (cs.take i)).length = 2 * i := by rw [own_ulen, List.length_take]; omega
  have e2 : bs.drop (2 * i) = bs[2 * i] :: bs[2 * i + 1] :: bs.drop (2 * i + 1 + 1) := by
    rw [List.drop_eq_getElem_cons (by omega), List.drop_eq_getElem_cons (i := 2 * i + 1) (by omega)]
  have e3 : cs.take (i + 1) = cs.take i ++ [c] := by rw [List.take_add_one, hc]; rfl
  rw [List.set_append_right _ _ (by omega), List.set_append_right _ _ (by omega), e1, e2, e3, own_uapp, List.append_assoc, Nat.sub_self, show 2 * i + 1 - 2 * i = 1 from by omega, show 2 * (i + 1) = 2 * i + 1 + 1 from by omega]
  rfl
theorem own_u16 (c : Int32) (h : 0 ≤ c.toInt ∧ c.toInt < 65536) : nar .char ((((c.toInt8.toInt32 &&& (255 : Int32)) <<< ((0 : Int32) &&& 31)) ||| (((c >>> ((8 : Int32) &&& 31)).toInt8.toInt32 &&& (255 : Int32)) <<< ((8 : Int32) &&& 31))).toUInt32.toUInt16.toUInt32.toInt32) = c := by
  have a1 := c_mask c.toInt8.toInt32 255 8 (by decide) (by decide)
  have a2 := (c_i2b c).1
  have a3 := c_ishl (c.toInt8.toInt32 &&& (255 : Int32)) 0 0 (by decide)
  have r3 := rng32 ((c.toInt8.toInt32 &&& (255 : Int32)) <<< ((0 : Int32) &&& 31))
  have b0 := c_ishr c 8 8 (by decide)
  have b1 := c_mask (c >>> ((8 : Int32) &&& 31)).toInt8.toInt32 255 8 (by decide) (by decide)
  have b2 := (c_i2b (c >>> ((8 : Int32) &&& 31))).1
  have b3 := c_ishl ((c >>> ((8 : Int32) &&& 31)).toInt8.toInt32 &&& (255 : Int32)) 8 8 (by decide)
  have r4 := rng32 (((c >>> ((8 : Int32) &&& 31)).toInt8.toInt32 &&& (255 : Int32)) <<< ((8 : Int32) &&& 31))
  generalize (c.toInt8.toInt32 &&& (255 : Int32)) <<< ((0 : Int32) &&& 31) = X at *
  generalize ((c >>> ((8 : Int32) &&& 31)).toInt8.toInt32 &&& (255 : Int32)) <<< ((8 : Int32) &&& 31) = Y at *
  have o := c_or' X Y 8 (by decide) 256 (by decide) (by omega) (by omega) (by omega)
  have r5 := rng32 (X ||| Y)
  generalize X ||| Y = W at *
  have e : W.toInt = c.toInt := by omega
  have e2 : W = c := Int32.toInt_inj.mp e
  subst e2
  have q := c_i2c W
  have e3 : W.toUInt32.toUInt16.toUInt32.toInt32 = W := by apply Int32.toInt_inj.mp; omega
  rw [e3]; exact own_nchar h
theorem own_shr0 (x : Int32) : x >>> ((0 : Int32) &&& 31) = x := by
  apply Int32.toInt_inj.mp
  rw [c_ishr x 0 0 rfl]
  simp
theorem own_shl1 {k : Nat} (h : k < 2 ^ 29) : k.toInt32 <<< ((1 : Int32) &&& 31) = (2 * k).toInt32 := by
  apply Int32.toInt_inj.mp
  have a := c_ishl k.toInt32 1 1 (by decide)
  have r := rng32 (k.toInt32 <<< ((1 : Int32) &&& 31))
  rw [own_toInt (by omega)] at a ⊢
  omega
theorem own_shr1 {k : Nat} (h : k < 2 ^ 29) : (2 * k).toInt32 >>> ((1 : Int32) &&& 31) = k.toInt32 := by
  apply Int32.toInt_inj.mp
  rw [c_ishr _ 1 1 (by decide), own_toInt (by omega), own_toInt (by omega)]
  omega
theorem own_csub1 {k : Nat} (h0 : 0 < k) (h : k < 2 ^ 29) : (((k.toInt32 - (2 * k).toInt32).toUInt32 >>> ((31 : Int32) &&& 31).toUInt32).toInt32).toInt8.toInt32 = 1 := by
  have a := c_iushr (k.toInt32 - (2 * k).toInt32) 31 31 (by decide) (by decide)
  have b := c_isub k.toInt32 (2 * k).toInt32
  have r := rng32 (k.toInt32 - (2 * k).toInt32)
  rw [own_toInt (by omega), own_toInt (by omega)] at b
  have e : ((k.toInt32 - (2 * k).toInt32).toUInt32 >>> ((31 : Int32) &&& 31).toUInt32).toInt32 = 1 := by
    apply Int32.toInt_inj.mp
    rw [a]
    have : (1 : Int32).toInt = 1 := rfl
    omega
  rw [e]; rfl
/-- a UTF-16 String -/
def SU (Z : State) (h : Heap) (a b : Addr) (cs : List Int32) : Prop := Exa Z h a "java/lang/String" ∧ Fld Z h a "java/lang/String" "coder" "B" (.int 1) ∧ Fld Z h a "java/lang/String" "value" "[B" (.ref b) ∧ Ary Z h b .byte (utfB cs) ∧ (∀ c ∈ cs, 0 ≤ c.toInt ∧ c.toInt < 65536) ∧ cs.length < 2 ^ 29
def SG (Z : State) (h : Heap) (a b : Addr) (cs : List Int32) : Prop := SL Z h a b cs ∨ SU Z h a b cs
theorem SU.keep {Z : State} {h h' : Heap} {a b : Addr} {cs : List Int32} {ws : List Addr} (S : SU Z h a b cs) (K : Keep h h' ws) (qa : a ∉ ws) (qb : b ∉ ws) : SU Z h' a b cs := by
  obtain ⟨E, F1, F2, V, q⟩ := S
  exact ⟨E.keep K, F1.keep K qa, F2.keep K qa, V.keep K qb, q⟩
theorem SG.keep {Z : State} {h h' : Heap} {a b : Addr} {cs : List Int32} {ws : List Addr} (S : SG Z h a b cs) (K : Keep h h' ws) (qa : a ∉ ws) (qb : b ∉ ws) : SG Z h' a b cs := S.imp (fun s => s.keep K qa qb) (fun s => s.keep K qa qb)
theorem SG.exa {Z : State} {h : Heap} {a b : Addr} {cs : List Int32} (S : SG Z h a b cs) : Exa Z h a "java/lang/String" := S.elim (fun s => s.1) (fun s => s.1)
theorem SG.lt {Z : State} {h : Heap} {a b : Addr} {cs : List Int32} (S : SG Z h a b cs) : a < h.size := S.exa.lt
theorem SG.ltb {Z : State} {h : Heap} {a b : Addr} {cs : List Int32} (S : SG Z h a b cs) : b < h.size := S.elim (fun s => s.2.2.2.1.lt) (fun s => s.2.2.2.1.lt)
def SEnvU (Z : State) : Prop := Sta Z Z.heap "java/lang/StringUTF16" "$assertionsDisabled" "Z" (.int 1) ∧ Sta Z Z.heap "java/lang/StringUTF16" "HI_BYTE_SHIFT" "I" (.int 0) ∧ Sta Z Z.heap "java/lang/StringUTF16" "LO_BYTE_SHIFT" "I" (.int 8)
set_option maxRecDepth 65536 in
set_option maxHeartbeats 40000000 in
theorem c_nbl (l : Launch) (Z : State) (a0 : Array Value) (hw : ∀ d ∈ tables_1, d.before a0 Z = true) (hE : EW Z a0 ([] : List (String × Nat))) (k : Nat) (h0 : Heap) (O : Ext Z.heap h0) (hk : k < 2 ^ 29) :
    Con l Z ([] : List (String × Nat)) (⟨"java/lang/StringUTF16", "newBytesLength", "(I)I"⟩ : MethodName) jdk_52_method_3_code 1 (Option.some Jvm.ClassFile.FieldType.int) ({ frames := 0, cells := 0, slots := 0, locals := 0 } : Room) #[(.int k.toInt32)] h0 [] (pureQ (some (.int (2 * k).toInt32)) h0) := by
  refine Con.of (a0 := a0) #[.val (.int k.toInt32)] (plainFor_of_name pn_0) hE O all0 (fun m => by first | (simp [entryFrame, mkF, argsToLocals, Value.category]; done) | rfl) ?_
  intro p e s m below meth c T0 hx hby hml hnm hret hlk hh W0
  refine g_iloadN (pc' := 1) W0.here hx (hb hby d_jdk_52_3_0) rfl rfl ?_
  refine g_ifY (pc' := 12) W0.here hx (hb hby d_jdk_52_3_1) rfl (flt (show ¬ (k.toInt32 < (0 : Int32)) from (own_nneg (by omega)))).2.1 ?_
  refine g_iloadN (pc' := 13) W0.here hx (hb hby d_jdk_52_3_12) rfl rfl ?_
  refine w_ldcI (pc' := 15) W0 hx (hw _ (List.mem_of_getElem? w_52)) (hb hby d_jdk_52_3_13) rfl ?_
  refine g_icmpY (pc' := 55) W0.here hx (hb hby d_jdk_52_3_15) rfl (tlt (show k.toInt32 < (1073741823 : Int32) from (by rw [Int32.lt_iff_toInt_lt, own_toInt (by omega)]; have : (1073741823 : Int32).toInt = 1073741823 := rfl; omega))).1 ?_
  refine g_iloadN (pc' := 56) W0.here hx (hb hby d_jdk_52_3_55) rfl rfl ?_
  refine g_iconst (1 : Int32) (pc' := 57) W0.here hx (hb hby d_jdk_52_3_56) rfl rfl ?_
  refine g_ishl (pc' := 58) W0.here hx (hb hby d_jdk_52_3_57) rfl ?_
  refine w_retI W0 hx hh hlk hret (hb hby d_jdk_52_3_58) (Nat.le_of_ble_eq_true rfl) (Nat.le_of_ble_eq_true rfl) ?_
  exact ⟨congrArg (fun z => some (Value.int z)) (own_shl1 hk), rfl⟩
set_option maxRecDepth 65536 in
set_option maxHeartbeats 40000000 in
theorem c_nbf (l : Launch) (Z : State) (a0 : Array Value) (hw : ∀ d ∈ tables_1, d.before a0 Z = true) (hE : EW Z a0 ([] : List (String × Nat))) (k : Nat) (h0 : Heap) (O : Ext Z.heap h0) (hk : k ≤ 4) :
    ConF l Z ([] : List (String × Nat)) (⟨"java/lang/StringUTF16", "newBytesFor", "(I)[B"⟩ : MethodName) jdk_52_method_2_code 1 (Option.some (Jvm.ClassFile.FieldType.array Jvm.ClassFile.FieldType.byte)) ({ frames := 1, cells := 1, slots := 8, locals := 12 } : Room) #[(.int k.toInt32)] h0 [] (fun N v h => ∃ ba : Nat, N = [ba] ∧ v = some (.ref ba) ∧ Ary Z h ba .byte (List.replicate (2 * k) (.int 0))) := by
  refine ConF.of (a0 := a0) #[.val (.int k.toInt32)] (plainFor_of_name pn_0) hE O all0 (fun m => by first | (simp [entryFrame, mkF, argsToLocals, Value.category]; done) | rfl) ?_
  intro p e s m below meth c T0 hx hby hml hnm hret hlk hh W0
  refine g_iloadN (pc' := 1) W0.here hx (hb hby d_jdk_52_2_0) rfl rfl ?_
  refine w_callSp (pc' := 4) (st := []) (y := (⟨"java/lang/StringUTF16", "newBytesLength", "(I)I"⟩ : MethodName)) W0 hx [(.int k.toInt32)] (hw _ (List.mem_of_getElem? w_49)) (hw _ (List.mem_of_getElem? w_50)) (hw _ (List.mem_of_getElem? w_37)) (hw _ (List.mem_of_getElem? w_51)) (by decide) (c_nbl l Z a0 hw hE k h0 W0.old (by omega)) (by rw [hml]; rfl) (lenOf pd_0 rfl) rfl (hb hby d_jdk_52_2_1) (Nat.le_of_ble_eq_true rfl) (Nat.le_of_ble_eq_true rfl) rfl rfl (Nat.le_of_ble_eq_true rfl) (Nat.le_of_ble_eq_true rfl) rfl fun T1 W1 => ?_
  refine w_newarr (pc' := 6) (cap := 8) W1 hx (hw _ (List.mem_of_getElem? w_39)) (hb hby d_jdk_52_2_4) (own_nneg (by omega)) (by rw [i32_nat (by omega)]; omega) (Nat.le_of_ble_eq_true rfl) (Nat.le_of_ble_eq_true rfl) (Nat.le_of_ble_eq_true rfl) rfl rfl fun T2 h2 b2 g2 W2 K2 V2 => ?_
  have z_K2 : h0.size ≤ h2.size := K2.1
  have lt_b2 : b2 < h2.size := W2.lt (List.mem_cons_self ..)
  rw [i32_nat (by omega)] at V2
  refine w_retAF W2 hx hh hlk hret rfl rfl (hb hby d_jdk_52_2_6) (Nat.le_of_ble_eq_true rfl) (Nat.le_of_ble_eq_true rfl) [b2] (allS (List.mem_of_getElem? (i := 0) rfl) all0) ?_
  exact ⟨_, rfl, rfl, V2⟩
set_option maxRecDepth 65536 in
set_option maxHeartbeats 40000000 in
theorem c_putChar (l : Launch) (Z : State) (a0 : Array Value) (hw : ∀ d ∈ tables_1, d.before a0 Z = true) (hE : EW Z a0 ([] : List (String × Nat))) (cc : Int32) (fm : Value) (ba i : Nat) (cv : Int32) (bs : List Value) (h0 : Heap) (O : Ext Z.heap h0) (G : SEnv Z cc fm) (GU : SEnvU Z) (VB : Ary Z h0 ba .byte bs) (hi : 2 * i + 1 < bs.length) (hbl : bs.length < 2 ^ 29) (hz : Z.heap.size ≤ ba) :
    Con l Z ([] : List (String × Nat)) (⟨"java/lang/StringUTF16", "putChar", "([BII)V"⟩ : MethodName) jdk_52_method_4_code 3 (Option.none : Option Jvm.ClassFile.FieldType) ({ frames := 0, cells := 0, slots := 0, locals := 0 } : Room) #[(.ref ba), (.int i.toInt32), (.int cv)] h0 [ba] (fun v h => v = none ∧ Ary Z h ba .byte ((bs.set (2 * i) (loB cv)).set (2 * i + 1) (hiB cv))) := by
  refine Con.of (a0 := a0) #[.val (.ref ba), .val (.int i.toInt32), .val (.int cv)] (plainFor_of_name pn_0) hE O (allS ⟨hz, VB.lt⟩ all0) (fun m => by first | (simp [entryFrame, mkF, argsToLocals, Value.category]; done) | rfl) ?_
  intro p e s m below meth c T0 hx hby hml hnm hret hlk hh W0
  refine w_getS (pc' := 3) W0 hx (hw _ (List.mem_of_getElem? w_56)) Via.refl GU.1 (hb hby d_jdk_52_4_0) rfl fun T3 W3 => ?_
  refine g_ifY (pc' := 28) W3.here hx (hb hby d_jdk_52_4_3) rfl (feq (show ¬ ((1 : Int32) = (0 : Int32)) from (by decide))).2 ?_
  refine g_iloadN (pc' := 29) W3.here hx (hb hby d_jdk_52_4_28) rfl rfl ?_
  refine g_iconst (1 : Int32) (pc' := 30) W3.here hx (hb hby d_jdk_52_4_29) rfl rfl ?_
  refine g_ishl (pc' := 31) W3.here hx (hb hby d_jdk_52_4_30) rfl ?_
  refine g_name (w := .int (2 * i).toInt32) (congrArg Value.int (own_shl1 (by omega)).symm) ?_
  refine g_istoreN (pc' := 32) (Ls' := #[.val (.ref ba), .val (.int (2 * i).toInt32), .val (.int cv)]) W3.here hx (hb hby d_jdk_52_4_31) rfl rfl ?_
  refine g_aloadN (pc' := 33) W3.here hx (hb hby d_jdk_52_4_32) rfl rfl rfl ?_
  refine g_iloadN (pc' := 34) W3.here hx (hb hby d_jdk_52_4_33) rfl rfl ?_
  refine g_iincV (2 * i + 1).toInt32 (pc' := 37) (Ls' := #[.val (.ref ba), .val (.int (2 * i + 1).toInt32), .val (.int cv)]) W3.here hx (hb hby d_jdk_52_4_34) (own_succ (2 * i)) rfl rfl rfl ?_
  refine g_iloadN (pc' := 38) W3.here hx (hb hby d_jdk_52_4_37) rfl rfl ?_
  refine w_getS (pc' := 41) W3 hx (hw _ (List.mem_of_getElem? w_57)) Via.refl GU.2.1 (hb hby d_jdk_52_4_38) rfl fun T4 W4 => ?_
  refine g_ishr (pc' := 42) W4.here hx (hb hby d_jdk_52_4_41) rfl ?_
  refine g_i2b (pc' := 43) W4.here hx (hb hby d_jdk_52_4_42) rfl ?_
  refine w_bastore (pc' := 44) (x' := cv.toInt8.toInt32) W4 hx VB (own_nneg (by omega)) (by rw [i32_nat (by omega)]; first | omega | (simp; omega)) (List.mem_of_getElem? (i := 0) rfl) (by rw [own_shr0, own_b8]) (hb hby d_jdk_52_4_43) rfl fun T5 h5 W5 K5 V5 => ?_
  have z_K5 : h0.size ≤ h5.size := K5.1
  have V5 : Ary Z h5 ba .byte (bs.set (2 * i) (loB cv)) := by rw [i32_nat (by omega)] at V5; exact V5
  refine g_aloadN (pc' := 45) W5.here hx (hb hby d_jdk_52_4_44) rfl rfl rfl ?_
  refine g_iloadN (pc' := 46) W5.here hx (hb hby d_jdk_52_4_45) rfl rfl ?_
  refine g_iloadN (pc' := 47) W5.here hx (hb hby d_jdk_52_4_46) rfl rfl ?_
  refine w_getS (pc' := 50) W5 hx (hw _ (List.mem_of_getElem? w_58)) Via.refl GU.2.2 (hb hby d_jdk_52_4_47) rfl fun T6 W6 => ?_
  refine g_ishr (pc' := 51) W6.here hx (hb hby d_jdk_52_4_50) rfl ?_
  refine g_i2b (pc' := 52) W6.here hx (hb hby d_jdk_52_4_51) rfl ?_
  refine w_bastore (pc' := 53) (x' := (cv >>> ((8 : Int32) &&& 31)).toInt8.toInt32) W6 hx V5 (own_nneg (by omega)) (by rw [i32_nat (by omega)]; first | omega | (simp; omega)) (List.mem_of_getElem? (i := 0) rfl) (own_b8 _) (hb hby d_jdk_52_4_52) rfl fun T7 h7 W7 K7 V7 => ?_
  have z_K7 : h5.size ≤ h7.size := K7.1
  have V7 : Ary Z h7 ba .byte ((bs.set (2 * i) (loB cv)).set (2 * i + 1) (hiB cv)) := by rw [i32_nat (by omega)] at V7; exact V7
  refine w_retV W7 hx hh hlk hret (hb hby d_jdk_52_4_53) (Nat.le_of_ble_eq_true rfl) (Nat.le_of_ble_eq_true rfl) ?_
  exact ⟨rfl, V7⟩
set_option maxRecDepth 65536 in
set_option maxHeartbeats 40000000 in
theorem c_getChar (l : Launch) (Z : State) (a0 : Array Value) (hw : ∀ d ∈ tables_1, d.before a0 Z = true) (hE : EW Z a0 ([] : List (String × Nat))) (cc : Int32) (fm : Value) (ba i : Nat) (cv : Int32) (bs : List Value) (h0 : Heap) (O : Ext Z.heap h0) (G : SEnv Z cc fm) (GU : SEnvU Z) (VB : Ary Z h0 ba .byte bs) (hi : i < 2 ^ 28) (hg1 : bs[2 * i]? = some (loB cv)) (hg2 : bs[2 * i + 1]? = some (hiB cv)) (hcv : 0 ≤ cv.toInt ∧ cv.toInt < 65536) :
    Con l Z ([] : List (String × Nat)) (⟨"java/lang/StringUTF16", "getChar", "([BI)C"⟩ : MethodName) jdk_52_method_5_code 2 (Option.some Jvm.ClassFile.FieldType.char) ({ frames := 0, cells := 0, slots := 0, locals := 0 } : Room) #[(.ref ba), (.int i.toInt32)] h0 [] (pureQ (some (.int cv)) h0) := by
  refine Con.of (a0 := a0) #[.val (.ref ba), .val (.int i.toInt32)] (plainFor_of_name pn_0) hE O all0 (fun m => by first | (simp [entryFrame, mkF, argsToLocals, Value.category]; done) | rfl) ?_
  intro p e s m below meth c T0 hx hby hml hnm hret hlk hh W0
  refine w_getS (pc' := 3) W0 hx (hw _ (List.mem_of_getElem? w_56)) Via.refl GU.1 (hb hby d_jdk_52_5_0) rfl fun T8 W8 => ?_
  refine g_ifY (pc' := 28) W8.here hx (hb hby d_jdk_52_5_3) rfl (feq (show ¬ ((1 : Int32) = (0 : Int32)) from (by decide))).2 ?_
  refine g_iloadN (pc' := 29) W8.here hx (hb hby d_jdk_52_5_28) rfl rfl ?_
  refine g_iconst (1 : Int32) (pc' := 30) W8.here hx (hb hby d_jdk_52_5_29) rfl rfl ?_
  refine g_ishl (pc' := 31) W8.here hx (hb hby d_jdk_52_5_30) rfl ?_
  refine g_name (w := .int (2 * i).toInt32) (congrArg Value.int (own_shl1 (by omega)).symm) ?_
  refine g_istoreN (pc' := 32) (Ls' := #[.val (.ref ba), .val (.int (2 * i).toInt32)]) W8.here hx (hb hby d_jdk_52_5_31) rfl rfl ?_
  refine g_aloadN (pc' := 33) W8.here hx (hb hby d_jdk_52_5_32) rfl rfl rfl ?_
  refine g_iloadN (pc' := 34) W8.here hx (hb hby d_jdk_52_5_33) rfl rfl ?_
  refine g_iincV (2 * i + 1).toInt32 (pc' := 37) (Ls' := #[.val (.ref ba), .val (.int (2 * i + 1).toInt32)]) W8.here hx (hb hby d_jdk_52_5_34) (own_succ (2 * i)) rfl rfl rfl ?_
  refine w_baload (pc' := 38) (v := (.int cv.toInt8.toInt32)) W8 hx VB (own_nneg (by omega)) (by rw [i32_nat (by omega)]; exact hg1) (hb hby d_jdk_52_5_37) rfl ?_
  refine g_sipush (255 : Int32) (pc' := 41) W8.here hx (hb hby d_jdk_52_5_38) rfl rfl ?_
  refine g_iand (pc' := 42) W8.here hx (hb hby d_jdk_52_5_41) rfl ?_
  refine w_getS (pc' := 45) W8 hx (hw _ (List.mem_of_getElem? w_57)) Via.refl GU.2.1 (hb hby d_jdk_52_5_42) rfl fun T9 W9 => ?_
  refine g_ishl (pc' := 46) W9.here hx (hb hby d_jdk_52_5_45) rfl ?_
  refine g_aloadN (pc' := 47) W9.here hx (hb hby d_jdk_52_5_46) rfl rfl rfl ?_
  refine g_iloadN (pc' := 48) W9.here hx (hb hby d_jdk_52_5_47) rfl rfl ?_
  refine w_baload (pc' := 49) (v := (.int (cv >>> ((8 : Int32) &&& 31)).toInt8.toInt32)) W9 hx VB (own_nneg (by omega)) (by rw [i32_nat (by omega)]; exact hg2) (hb hby d_jdk_52_5_48) rfl ?_
  refine g_sipush (255 : Int32) (pc' := 52) W9.here hx (hb hby d_jdk_52_5_49) rfl rfl ?_
  refine g_iand (pc' := 53) W9.here hx (hb hby d_jdk_52_5_52) rfl ?_
  refine w_getS (pc' := 56) W9 hx (hw _ (List.mem_of_getElem? w_58)) Via.refl GU.2.2 (hb hby d_jdk_52_5_53) rfl fun T10 W10 => ?_
  refine g_ishl (pc' := 57) W10.here hx (hb hby d_jdk_52_5_56) rfl ?_
  refine g_ior (pc' := 58) W10.here hx (hb hby d_jdk_52_5_57) rfl ?_
  refine g_i2c (pc' := 59) W10.here hx (hb hby d_jdk_52_5_58) rfl ?_
  refine w_retN (t := .char) W10 hx hh hlk hret (by simp) (hb hby d_jdk_52_5_59) (Nat.le_of_ble_eq_true rfl) (Nat.le_of_ble_eq_true rfl) ?_
  exact ⟨congrArg (fun z => some (Value.int z)) (own_u16 cv hcv), rfl⟩
set_option maxRecDepth 65536 in
set_option maxHeartbeats 40000000 in
theorem c_toBytes (l : Launch) (Z : State) (a0 : Array Value) (hw : ∀ d ∈ tables_1, d.before a0 Z = true) (hE : EW Z a0 ([] : List (String × Nat))) (cc : Int32) (fm : Value) (ca : Nat) (cs : List Int32) (h0 : Heap) (O : Ext Z.heap h0) (G : SEnv Z cc fm) (GU : SEnvU Z) (hn : cs.length ≤ 4) (hch : ∀ c ∈ cs, 0 ≤ c.toInt ∧ c.toInt < 65536) (VA : Ary Z h0 ca .char (cs.map Value.int))  :
    Con l Z ([] : List (String × Nat)) (⟨"java/lang/StringUTF16", "toBytes", "([CII)[B"⟩ : MethodName) jdk_52_method_14_code 5 (Option.some (Jvm.ClassFile.FieldType.array Jvm.ClassFile.FieldType.byte)) ({ frames := 2, cells := 1, slots := 8, locals := 24 } : Room) #[(.ref ca), (.int (0 : Int32)), (.int cs.length.toInt32)] h0 [] (fun v h => ∃ ba : Nat, v = some (.ref ba) ∧ h0.size ≤ ba ∧ Ary Z h ba .byte (utfB cs)) := by
  refine Con.of (a0 := a0) #[.val (.ref ca), .val (.int (0 : Int32)), .val (.int cs.length.toInt32), .unset, .unset] (plainFor_of_name pn_0) hE O all0 (fun m => by first | (simp [entryFrame, mkF, argsToLocals, Value.category]; done) | rfl) ?_
  intro p e s m below meth c T0 hx hby hml hnm hret hlk hh W0
  have hn31 : cs.length < 2 ^ 29 := by omega
  have lt_ca : ca < h0.size := VA.lt
  refine g_iloadN (pc' := 1) W0.here hx (hb hby d_jdk_52_14_0) rfl rfl ?_
  refine w_callSF (pc' := 4) (st := []) (y := (⟨"java/lang/StringUTF16", "newBytesFor", "(I)[B"⟩ : MethodName)) W0 hx [(.int cs.length.toInt32)] (hw _ (List.mem_of_getElem? w_46)) (hw _ (List.mem_of_getElem? w_47)) (hw _ (List.mem_of_getElem? w_37)) (hw _ (List.mem_of_getElem? w_48)) (by decide) (c_nbf l Z a0 hw hE cs.length h0 W0.old hn) all0 (by rw [hml]; rfl) (lenOf pd_1 rfl) rfl (hb hby d_jdk_52_14_1) (Nat.le_of_ble_eq_true rfl) (Nat.le_of_ble_eq_true rfl) (Nat.le_of_ble_eq_true rfl) (Nat.le_of_ble_eq_true rfl) rfl fun N11 v11 T11 h11 W11 K11 G11 Q11 => ?_
  have z_K11 : h0.size ≤ h11.size := K11.1
  obtain ⟨ba12, rfl, rfl, V12⟩ := Q11
  have gz12 := (G11 ba12 (List.mem_cons_self ..)).1
  have ne_ca_ba12 : ca ≠ ba12 := by omega
  have lt_ba12 : ba12 < h11.size := V12.lt
  refine g_astoreN (pc' := 5) (Ls' := #[.val (.ref ca), .val (.int (0 : Int32)), .val (.int cs.length.toInt32), .val (.ref ba12), .unset]) W11.here hx (hb hby d_jdk_52_14_4) rfl rfl rfl ?_
  refine g_iconst (0 : Int32) (pc' := 6) W11.here hx (hb hby d_jdk_52_14_5) rfl rfl ?_
  refine g_istore (pc' := 8) (Ls' := #[.val (.ref ca), .val (.int (0 : Int32)), .val (.int cs.length.toInt32), .val (.ref ba12), .val (.int (0 : Int32))]) W11.here hx (hb hby d_jdk_52_14_6) rfl rfl ?_
  obtain ⟨ba, hba⟩ : ∃ z : Nat, z = ba12 := ⟨_, rfl⟩
  have hzb : Z.heap.size ≤ ba := by have := O.1; omega
  obtain ⟨bs, hbs⟩ : ∃ z : List Value, z = List.replicate (2 * cs.length) (.int 0) := ⟨_, rfl⟩
  have hbl : bs.length = 2 * cs.length := by rw [hbs]; simp
  have hneb : ca ≠ ba := by omega
  have c13 := (VA.keep K11 nin0)
  have LOOP : ∀ (k i : Nat), i + k = cs.length → ∀ (TL : State) (hL : Heap), Wk p l e ({ frames := 2, cells := 1, slots := 8, locals := 24 } : Room) s m #[(.ref ca), (.int (0 : Int32)), (.int cs.length.toInt32)] below meth c Z ([] : List (String × Nat)) "java/lang/StringUTF16" [] [ba] TL hL 1 8 → Keep h11 hL [ba] → Ary Z hL ba .byte (utfB (cs.take i) ++ bs.drop (2 * i)) → Gets p.tables e below (Post s Z ([] : List (String × Nat)) ({ frames := 2, cells := 1, slots := 8, locals := 24 } : Room) h0 [] (fun v h => ∃ ba : Nat, v = some (.ref ba) ∧ h0.size ≤ ba ∧ Ary Z h ba .byte (utfB cs))) TL (mkF m 8 #[.val (.ref ca), .val (.int i.toInt32), .val (.int cs.length.toInt32), .val (.ref ba), .val (.int i.toInt32)] []) := by
    intro k
    induction k with
    | zero =>
      intro i hi TL hL WL KL VBL
      have VAL := (c13).keep KL (ninS hneb nin0)
      refine g_iload (pc' := 10) WL.here hx (hb hby d_jdk_52_14_8) rfl rfl ?_
      refine g_iloadN (pc' := 11) WL.here hx (hb hby d_jdk_52_14_10) rfl rfl ?_
      refine g_icmpY (pc' := 32) WL.here hx (hb hby d_jdk_52_14_11) rfl (flt (show ¬ (i.toInt32 < cs.length.toInt32) from (own_nltn (by omega) (by omega)))).2.1 ?_
      refine g_aloadN (pc' := 33) WL.here hx (hb hby d_jdk_52_14_32) rfl rfl rfl ?_
      refine w_retA WL hx hh hlk hret rfl rfl (hb hby d_jdk_52_14_33) (Nat.le_of_ble_eq_true rfl) (Nat.le_of_ble_eq_true rfl) ?_
      have e1 : i = cs.length := by omega
      subst e1
      rw [List.take_length, List.drop_eq_nil_of_le (by omega), List.append_nil] at VBL
      exact ⟨_, rfl, by omega, VBL⟩
    | succ k ih =>
      intro i hi TL hL WL KL VBL
      have VAL := (c13).keep KL (ninS hneb nin0)
      obtain ⟨ci, hci⟩ : ∃ ci, cs[i]? = some ci := ⟨_, List.getElem?_eq_getElem (by omega)⟩
      refine g_iload (pc' := 10) WL.here hx (hb hby d_jdk_52_14_8) rfl rfl ?_
      refine g_iloadN (pc' := 11) WL.here hx (hb hby d_jdk_52_14_10) rfl rfl ?_
      refine g_icmpN (pc' := 14) WL.here hx (hb hby d_jdk_52_14_11) rfl (tlt (show i.toInt32 < cs.length.toInt32 from (own_ltn (by omega) (by omega)))).2.1 ?_
      refine g_aloadN (pc' := 15) WL.here hx (hb hby d_jdk_52_14_14) rfl rfl rfl ?_
      refine g_iload (pc' := 17) WL.here hx (hb hby d_jdk_52_14_15) rfl rfl ?_
      refine g_aloadN (pc' := 18) WL.here hx (hb hby d_jdk_52_14_17) rfl rfl rfl ?_
      refine g_iloadN (pc' := 19) WL.here hx (hb hby d_jdk_52_14_18) rfl rfl ?_
      refine w_caload (pc' := 20) (v := (.int ci)) WL hx VAL (own_nneg (by omega)) (by rw [i32_nat (by omega), List.getElem?_map, hci]; rfl) (hb hby d_jdk_52_14_19) rfl ?_
      refine w_callS (pc' := 23) (st := []) (y := (⟨"java/lang/StringUTF16", "putChar", "([BII)V"⟩ : MethodName)) WL hx [(.ref ba), (.int i.toInt32), (.int ci)] (hw _ (List.mem_of_getElem? w_53)) (hw _ (List.mem_of_getElem? w_54)) (hw _ (List.mem_of_getElem? w_37)) (hw _ (List.mem_of_getElem? w_55)) (by decide) (c_putChar l Z a0 hw hE cc fm ba i ci _ hL WL.old G GU VBL (by rw [List.length_append, own_ulen, List.length_take, List.length_drop]; omega) (by rw [List.length_append, own_ulen, List.length_take, List.length_drop]; omega) hzb) (allS (List.mem_of_getElem? (i := 0) rfl) all0) (by rw [hml]; rfl) (lenOf pd_2 rfl) rfl (hb hby d_jdk_52_14_20) (Nat.le_of_ble_eq_true rfl) (Nat.le_of_ble_eq_true rfl) (Nat.le_of_ble_eq_true rfl) (Nat.le_of_ble_eq_true rfl) rfl fun v14 T14 h14 W14 K14 Q14 => ?_
      have z_K14 : hL.size ≤ h14.size := K14.1
      obtain ⟨rfl, V15⟩ := Q14
      rw [own_ufill hbl hci] at V15
      refine g_iincV (i + 1).toInt32 (pc' := 26) (Ls' := #[.val (.ref ca), .val (.int (i + 1).toInt32), .val (.int cs.length.toInt32), .val (.ref ba), .val (.int i.toInt32)]) W14.here hx (hb hby d_jdk_52_14_23) (own_succ i) rfl rfl rfl ?_
      refine g_iincV (i + 1).toInt32 (pc' := 29) (Ls' := #[.val (.ref ca), .val (.int (i + 1).toInt32), .val (.int cs.length.toInt32), .val (.ref ba), .val (.int (i + 1).toInt32)]) W14.here hx (hb hby d_jdk_52_14_26) (own_succ i) rfl rfl rfl ?_
      refine g_goto (pc' := 8) W14.here hx (hb hby d_jdk_52_14_29) rfl ?_
      exact ih (i + 1) (by omega) _ _ W14 (KL.trans K14 (fun x q => Or.inl q)) V15
  rw [← hba] at V12 W11 ⊢
  rw [← hbs] at V12
  exact LOOP cs.length 0 (by omega) _ _ W11 (Keep.refl _ _) (by simpa [utfB] using V12)
theorem own_pre1 {cs : List Int32} {i : Nat} {ci : Int32} (H : ∀ c ∈ cs.take i, ¬ (255 : Int32) < c) (hc : cs[i]? = some ci) (q : ¬ (255 : Int32) < ci) : ∀ c ∈ cs.take (i + 1), ¬ (255 : Int32) < c := fun c hm => by
  rw [List.take_add_one, hc] at hm
  rcases List.mem_append.mp hm with z | z
  · exact H c z
  · simp at z; rw [z]; exact q
set_option maxRecDepth 65536 in
set_option maxHeartbeats 40000000 in
theorem c_compr (l : Launch) (Z : State) (a0 : Array Value) (hw : ∀ d ∈ tables_1, d.before a0 Z = true) (hE : EW Z a0 ([] : List (String × Nat))) (ca ba : Nat) (cs : List Int32) (bs : List Value) (h0 : Heap) (O : Ext Z.heap h0) (hn : cs.length ≤ 4) (hch : ∀ c ∈ cs, 0 ≤ c.toInt ∧ c.toInt < 65536) (VA : Ary Z h0 ca .char (cs.map Value.int)) (VB : Ary Z h0 ba .byte bs) (hbl : bs.length = cs.length) (hne : ca ≠ ba) (hz : Z.heap.size ≤ ba) :
    Con l Z ([] : List (String × Nat)) (⟨"java/lang/StringUTF16", "compress", "([CI[BII)I"⟩ : MethodName) jdk_52_method_21_code 7 (Option.some Jvm.ClassFile.FieldType.int) ({ frames := 0, cells := 0, slots := 0, locals := 0 } : Room) #[(.ref ca), (.int (0 : Int32)), (.ref ba), (.int (0 : Int32)), (.int cs.length.toInt32)] h0 [ba] (fun v h => (v = some (.int cs.length.toInt32) ∧ (∀ c ∈ cs, ¬ (255 : Int32) < c) ∧ Ary Z h ba .byte (cs.map latB)) ∨ (∃ (i : Nat) (ci : Int32), i < cs.length ∧ cs[i]? = some ci ∧ (255 : Int32) < ci ∧ v = some (.int i.toInt32))) := by
  refine Con.of (a0 := a0) #[.val (.ref ca), .val (.int (0 : Int32)), .val (.ref ba), .val (.int (0 : Int32)), .val (.int cs.length.toInt32), .unset, .unset] (plainFor_of_name pn_0) hE O (allS ⟨hz, VB.lt⟩ all0) (fun m => by first | (simp [entryFrame, mkF, argsToLocals, Value.category]; done) | rfl) ?_
  intro p e s m below meth c T0 hx hby hml hnm hret hlk hh W0
  have hn31 : cs.length < 2 ^ 29 := by omega
  refine g_iconst (0 : Int32) (pc' := 1) W0.here hx (hb hby d_jdk_52_21_0) rfl rfl ?_
  refine g_istore (pc' := 3) (Ls' := #[.val (.ref ca), .val (.int (0 : Int32)), .val (.ref ba), .val (.int (0 : Int32)), .val (.int cs.length.toInt32), .val (.int (0 : Int32)), .unset]) W0.here hx (hb hby d_jdk_52_21_1) rfl rfl ?_
  have LOOP : ∀ (k i : Nat), i + k = cs.length → ∀ (TL : State) (hL : Heap) (o6 : Slot), One o6 → Wk p l e ({ frames := 0, cells := 0, slots := 0, locals := 0 } : Room) s m #[(.ref ca), (.int (0 : Int32)), (.ref ba), (.int (0 : Int32)), (.int cs.length.toInt32)] below meth c Z ([] : List (String × Nat)) "java/lang/StringUTF16" [ba] [] TL hL 0 0 → Keep h0 hL [ba] → Ary Z hL ba .byte ((cs.take i).map latB ++ bs.drop i) → (∀ c ∈ cs.take i, ¬ (255 : Int32) < c) → Gets p.tables e below (Post s Z ([] : List (String × Nat)) ({ frames := 0, cells := 0, slots := 0, locals := 0 } : Room) h0 [ba] (fun v h => (v = some (.int cs.length.toInt32) ∧ (∀ c ∈ cs, ¬ (255 : Int32) < c) ∧ Ary Z h ba .byte (cs.map latB)) ∨ (∃ (i : Nat) (ci : Int32), i < cs.length ∧ cs[i]? = some ci ∧ (255 : Int32) < ci ∧ v = some (.int i.toInt32)))) TL (mkF m 3 #[.val (.ref ca), .val (.int i.toInt32), .val (.ref ba), .val (.int i.toInt32), .val (.int cs.length.toInt32), .val (.int i.toInt32), o6] []) := by
    intro k
    induction k with
    | zero =>
      intro i hi TL hL o6 ho6 WL KL VBL HP
      have VAL := VA.keep KL (ninS hne nin0)
      refine g_iload (pc' := 5) WL.here hx (hb hby d_jdk_52_21_3) rfl rfl ?_
      refine g_iload (pc' := 7) WL.here hx (hb hby d_jdk_52_21_5) rfl rfl ?_
      refine g_icmpY (pc' := 44) WL.here hx (hb hby d_jdk_52_21_7) rfl (flt (show ¬ (i.toInt32 < cs.length.toInt32) from (own_nltn (by omega) (by omega)))).2.1 ?_
      refine g_iload (pc' := 46) WL.here hx (hb hby d_jdk_52_21_44) rfl rfl ?_
      refine w_retI WL hx hh hlk hret (hb hby d_jdk_52_21_46) (Nat.le_of_ble_eq_true rfl) (Nat.le_of_ble_eq_true rfl) ?_
      have e1 : i = cs.length := by omega
      subst e1
      rw [List.take_length] at HP VBL
      rw [List.drop_eq_nil_of_le (by omega), List.append_nil] at VBL
      exact Or.inl ⟨rfl, HP, VBL⟩
    | succ k ih =>
      intro i hi TL hL o6 ho6 WL KL VBL HP
      have VAL := VA.keep KL (ninS hne nin0)
      have hi2 : i < cs.length := by omega
      obtain ⟨ci, hci⟩ : ∃ ci, cs[i]? = some ci := ⟨_, List.getElem?_eq_getElem hi2⟩
      refine g_iload (pc' := 5) WL.here hx (hb hby d_jdk_52_21_3) rfl rfl ?_
      refine g_iload (pc' := 7) WL.here hx (hb hby d_jdk_52_21_5) rfl rfl ?_
      refine g_icmpN (pc' := 10) WL.here hx (hb hby d_jdk_52_21_7) rfl (tlt (show i.toInt32 < cs.length.toInt32 from (own_ltn hi2 (by omega)))).2.1 ?_
      refine g_aloadN (pc' := 11) WL.here hx (hb hby d_jdk_52_21_10) rfl rfl rfl ?_
      refine g_iloadN (pc' := 12) WL.here hx (hb hby d_jdk_52_21_11) rfl rfl ?_
      refine w_caload (pc' := 13) (v := (.int ci)) WL hx VAL (own_nneg (by omega)) (by rw [i32_nat (by omega), List.getElem?_map, hci]; rfl) (hb hby d_jdk_52_21_12) rfl ?_
      refine g_istore (pc' := 15) (Ls' := #[.val (.ref ca), .val (.int i.toInt32), .val (.ref ba), .val (.int i.toInt32), .val (.int cs.length.toInt32), .val (.int i.toInt32), .val (.int ci)]) WL.here hx (hb hby d_jdk_52_21_13) (XS.store1 (o := o6) rfl ho6 rfl) rfl ?_
      refine g_iload (pc' := 17) WL.here hx (hb hby d_jdk_52_21_15) rfl rfl ?_
      refine g_sipush (255 : Int32) (pc' := 20) WL.here hx (hb hby d_jdk_52_21_17) rfl rfl ?_
      by_cases hc20_16 : (255 : Int32) < ci
      · refine g_icmpN (pc' := 23) WL.here hx (hb hby d_jdk_52_21_20) rfl (tlt hc20_16).2.2.2 ?_
        refine g_iload (pc' := 25) WL.here hx (hb hby d_jdk_52_21_23) rfl rfl ?_
        refine w_retI WL hx hh hlk hret (hb hby d_jdk_52_21_25) (Nat.le_of_ble_eq_true rfl) (Nat.le_of_ble_eq_true rfl) ?_
        exact Or.inr ⟨i, ci, hi2, hci, hc20_16, rfl⟩
      · refine g_icmpY (pc' := 26) WL.here hx (hb hby d_jdk_52_21_20) rfl (flt hc20_16).2.2.2 ?_
        refine g_aloadN (pc' := 27) WL.here hx (hb hby d_jdk_52_21_26) rfl rfl rfl ?_
        refine g_iloadN (pc' := 28) WL.here hx (hb hby d_jdk_52_21_27) rfl rfl ?_
        refine g_iload (pc' := 30) WL.here hx (hb hby d_jdk_52_21_28) rfl rfl ?_
        refine g_i2b (pc' := 31) WL.here hx (hb hby d_jdk_52_21_30) rfl ?_
        refine w_bastore (pc' := 32) (x' := ci.toInt8.toInt32) WL hx VBL (own_nneg (by omega)) (by rw [i32_nat (by omega)]; simp; omega) (List.mem_of_getElem? (i := 0) rfl) (own_b8 ci) (hb hby d_jdk_52_21_31) rfl fun T17 h17 W17 K17 V17 => ?_
        have z_K17 : hL.size ≤ h17.size := K17.1
        have V17 : Ary Z h17 ba .byte ((cs.take (i + 1)).map latB ++ bs.drop (i + 1)) := by rw [i32_nat (by omega)] at V17; rw [← own_fill hbl hci]; exact V17
        refine g_iincV (i + 1).toInt32 (pc' := 35) (Ls' := #[.val (.ref ca), .val (.int (i + 1).toInt32), .val (.ref ba), .val (.int i.toInt32), .val (.int cs.length.toInt32), .val (.int i.toInt32), .val (.int ci)]) W17.here hx (hb hby d_jdk_52_21_32) (own_succ i) rfl rfl rfl ?_
        refine g_iincV (i + 1).toInt32 (pc' := 38) (Ls' := #[.val (.ref ca), .val (.int (i + 1).toInt32), .val (.ref ba), .val (.int (i + 1).toInt32), .val (.int cs.length.toInt32), .val (.int i.toInt32), .val (.int ci)]) W17.here hx (hb hby d_jdk_52_21_35) (own_succ i) rfl rfl rfl ?_
        refine g_iincV (i + 1).toInt32 (pc' := 41) (Ls' := #[.val (.ref ca), .val (.int (i + 1).toInt32), .val (.ref ba), .val (.int (i + 1).toInt32), .val (.int cs.length.toInt32), .val (.int (i + 1).toInt32), .val (.int ci)]) W17.here hx (hb hby d_jdk_52_21_38) (own_succ i) rfl rfl rfl ?_
        refine g_goto (pc' := 3) W17.here hx (hb hby d_jdk_52_21_41) rfl ?_
        exact ih (i + 1) (by omega) _ _ _ (One.val rfl) W17 (KL.trans K17 (fun x q => Or.inl q)) V17 (own_pre1 HP hci hc20_16)
  exact LOOP cs.length 0 (by omega) _ _ _ One.u W0 (Keep.refl _ _) (by simpa using VB) (by simp)
theorem own_n32 {n k : Nat} (hn : n < 2 ^ 31) (hk : k < 2 ^ 31) : n.toInt32 = k.toInt32 ↔ n = k := by
  constructor
  · intro q
    have := congrArg Int32.toInt q
    rw [own_toInt hn, own_toInt hk] at this; omega
  · intro q; rw [q]
set_option maxRecDepth 65536 in
set_option maxHeartbeats 40000000 in
theorem c_compress (l : Launch) (Z : State) (a0 : Array Value) (hw : ∀ d ∈ tables_1, d.before a0 Z = true) (hE : EW Z a0 ([] : List (String × Nat))) (cc : Int32) (fm : Value) (ca : Nat) (cs : List Int32) (h0 : Heap) (O : Ext Z.heap h0) (G : SEnv Z cc fm) (GU : SEnvU Z) (hn : cs.length ≤ 4) (hch : ∀ c ∈ cs, 0 ≤ c.toInt ∧ c.toInt < 65536) (VA : Ary Z h0 ca .char (cs.map Value.int))  :
    Con l Z ([] : List (String × Nat)) (⟨"java/lang/StringUTF16", "compress", "([CII)[B"⟩ : MethodName) jdk_52_method_16_code 6 (Option.some (Jvm.ClassFile.FieldType.array Jvm.ClassFile.FieldType.byte)) ({ frames := 3, cells := 2, slots := 12, locals := 40 } : Room) #[(.ref ca), (.int (0 : Int32)), (.int cs.length.toInt32)] h0 [] (fun v h => ∃ (ba : Nat) (bs : List Value), v = some (.ref ba) ∧ h0.size ≤ ba ∧ Ary Z h ba .byte bs ∧ (((∀ c ∈ cs, ¬ (255 : Int32) < c) ∧ bs = cs.map latB) ∨ ((∃ c ∈ cs, (255 : Int32) < c) ∧ bs = utfB cs))) := by
  refine Con.of (a0 := a0) #[.val (.ref ca), .val (.int (0 : Int32)), .val (.int cs.length.toInt32), .unset, .unset, .unset] (plainFor_of_name pn_0) hE O all0 (fun m => by first | (simp [entryFrame, mkF, argsToLocals, Value.category]; done) | rfl) ?_
  intro p e s m below meth c T0 hx hby hml hnm hret hlk hh W0
  have hn31 : cs.length < 2 ^ 29 := by omega
  have lt_ca : ca < h0.size := VA.lt
  refine g_iloadN (pc' := 1) W0.here hx (hb hby d_jdk_52_16_0) rfl rfl ?_
  refine w_newarr (pc' := 3) (cap := 4) W0 hx (hw _ (List.mem_of_getElem? w_39)) (hb hby d_jdk_52_16_1) (own_nneg (by omega)) (by rw [i32_nat (by omega)]; exact hn) (Nat.le_of_ble_eq_true rfl) (Nat.le_of_ble_eq_true rfl) (Nat.le_of_ble_eq_true rfl) rfl rfl fun T18 h18 b18 g18 W18 K18 V18 => ?_
  have z_K18 : h0.size ≤ h18.size := K18.1
  have ne_ca_b18 : ca ≠ b18 := by omega
  have lt_b18 : b18 < h18.size := W18.lt (List.mem_cons_self ..)
  have V19 : Ary Z h18 b18 .byte (List.replicate cs.length (.int 0)) := by rw [i32_nat (by omega)] at V18; exact V18
  refine g_astoreN (pc' := 4) (Ls' := #[.val (.ref ca), .val (.int (0 : Int32)), .val (.int cs.length.toInt32), .val (.ref b18), .unset, .unset]) W18.here hx (hb hby d_jdk_52_16_3) rfl rfl rfl ?_
  refine g_aloadN (pc' := 5) W18.here hx (hb hby d_jdk_52_16_4) rfl rfl rfl ?_
  refine g_iloadN (pc' := 6) W18.here hx (hb hby d_jdk_52_16_5) rfl rfl ?_
  refine g_aloadN (pc' := 7) W18.here hx (hb hby d_jdk_52_16_6) rfl rfl rfl ?_
  refine g_iconst (0 : Int32) (pc' := 8) W18.here hx (hb hby d_jdk_52_16_7) rfl rfl ?_
  refine g_iloadN (pc' := 9) W18.here hx (hb hby d_jdk_52_16_8) rfl rfl ?_
  have c20 := (VA.keep K18 nin0)
  refine w_callS (pc' := 12) (st := []) (y := (⟨"java/lang/StringUTF16", "compress", "([CI[BII)I"⟩ : MethodName)) W18 hx [(.ref ca), (.int (0 : Int32)), (.ref b18), (.int (0 : Int32)), (.int cs.length.toInt32)] (hw _ (List.mem_of_getElem? w_40)) (hw _ (List.mem_of_getElem? w_41)) (hw _ (List.mem_of_getElem? w_37)) (hw _ (List.mem_of_getElem? w_42)) (by decide) (c_compr l Z a0 hw hE ca b18 cs _ h18 W18.old hn hch c20 V19 (by simp) ne_ca_b18 (by have := O.1; omega)) (allS (List.mem_of_getElem? (i := 0) rfl) all0) (by rw [hml]; rfl) (lenOf pd_3 rfl) rfl (hb hby d_jdk_52_16_9) (Nat.le_of_ble_eq_true rfl) (Nat.le_of_ble_eq_true rfl) (Nat.le_of_ble_eq_true rfl) (Nat.le_of_ble_eq_true rfl) rfl fun v21 T21 h21 W21 K21 Q21 => ?_
  have z_K21 : h18.size ≤ h21.size := K21.1
  rcases Q21 with ⟨rfl, hlat, V22⟩ | ⟨gi, gc, hgi, hgc, hbig, rfl⟩
  · have hz9 := hlat
    refine g_istore (pc' := 14) (Ls' := #[.val (.ref ca), .val (.int (0 : Int32)), .val (.int cs.length.toInt32), .val (.ref b18), .val (.int cs.length.toInt32), .unset]) W21.here hx (hb hby d_jdk_52_16_12) rfl rfl ?_
    refine g_iload (pc' := 16) W21.here hx (hb hby d_jdk_52_16_14) rfl rfl ?_
    refine g_iloadN (pc' := 17) W21.here hx (hb hby d_jdk_52_16_16) rfl rfl ?_
    refine g_icmpY (pc' := 57) W21.here hx (hb hby d_jdk_52_16_17) rfl (teq (show cs.length.toInt32 = cs.length.toInt32 from rfl)).1 ?_
    refine g_aloadN (pc' := 58) W21.here hx (hb hby d_jdk_52_16_57) rfl rfl rfl ?_
    refine w_retA W21 hx hh hlk hret rfl rfl (hb hby d_jdk_52_16_58) (Nat.le_of_ble_eq_true rfl) (Nat.le_of_ble_eq_true rfl) ?_
    exact ⟨_, _, rfl, by omega, V22, Or.inl ⟨hlat, rfl⟩⟩
  · have hz9 := hbig
    refine g_istore (pc' := 14) (Ls' := #[.val (.ref ca), .val (.int (0 : Int32)), .val (.int cs.length.toInt32), .val (.ref b18), .val (.int gi.toInt32), .unset]) W21.here hx (hb hby d_jdk_52_16_12) rfl rfl ?_
    refine g_iload (pc' := 16) W21.here hx (hb hby d_jdk_52_16_14) rfl rfl ?_
    refine g_iloadN (pc' := 17) W21.here hx (hb hby d_jdk_52_16_16) rfl rfl ?_
    refine g_icmpN (pc' := 20) W21.here hx (hb hby d_jdk_52_16_17) rfl (feq (show ¬ (gi.toInt32 = cs.length.toInt32) from (fun q => by have := (own_n32 (by omega) (by omega)).mp q; omega))).1 ?_
    refine g_aloadN (pc' := 21) W21.here hx (hb hby d_jdk_52_16_20) rfl rfl rfl ?_
    refine g_iloadN (pc' := 22) W21.here hx (hb hby d_jdk_52_16_21) rfl rfl ?_
    refine g_iloadN (pc' := 23) W21.here hx (hb hby d_jdk_52_16_22) rfl rfl ?_
    have c23 := (c20.keep K21 (ninS ne_ca_b18 nin0))
    refine w_callS (pc' := 26) (st := []) (y := (⟨"java/lang/StringUTF16", "toBytes", "([CII)[B"⟩ : MethodName)) W21 hx [(.ref ca), (.int (0 : Int32)), (.int cs.length.toInt32)] (hw _ (List.mem_of_getElem? w_43)) (hw _ (List.mem_of_getElem? w_44)) (hw _ (List.mem_of_getElem? w_37)) (hw _ (List.mem_of_getElem? w_45)) (by decide) (c_toBytes l Z a0 hw hE cc fm ca cs h21 W21.old G GU hn hch c23) all0 (by rw [hml]; rfl) (lenOf pd_4 rfl) rfl (hb hby d_jdk_52_16_23) (Nat.le_of_ble_eq_true rfl) (Nat.le_of_ble_eq_true rfl) (Nat.le_of_ble_eq_true rfl) (Nat.le_of_ble_eq_true rfl) rfl fun v24 T24 h24 W24 K24 Q24 => ?_
    have z_K24 : h21.size ≤ h24.size := K24.1
    obtain ⟨ba25, rfl, gz25, V25⟩ := Q24
    have ne_ca_ba25 : ca ≠ ba25 := by omega
    have ne_b18_ba25 : b18 ≠ ba25 := by omega
    have lt_ba25 : ba25 < h24.size := V25.lt
    refine g_astore (pc' := 28) (Ls' := #[.val (.ref ca), .val (.int (0 : Int32)), .val (.int cs.length.toInt32), .val (.ref b18), .val (.int gi.toInt32), .val (.ref ba25)]) W24.here hx (hb hby d_jdk_52_16_26) rfl rfl rfl ?_
    refine g_aload (pc' := 30) W24.here hx (hb hby d_jdk_52_16_28) rfl rfl rfl ?_
    refine g_iload (pc' := 32) W24.here hx (hb hby d_jdk_52_16_30) rfl rfl ?_
    refine w_callSp (pc' := 35) (st := []) (y := (⟨"java/lang/StringUTF16", "getChar", "([BI)C"⟩ : MethodName)) W24 hx [(.ref ba25), (.int gi.toInt32)] (hw _ (List.mem_of_getElem? w_59)) (hw _ (List.mem_of_getElem? w_60)) (hw _ (List.mem_of_getElem? w_37)) (hw _ (List.mem_of_getElem? w_61)) (by decide) (c_getChar l Z a0 hw hE cc fm ba25 gi gc _ h24 W24.old G GU V25 (by omega) (own_uget cs gi gc hgc).1 (own_uget cs gi gc hgc).2 (hch gc (List.mem_of_getElem? hgc))) (by rw [hml]; rfl) (lenOf pd_5 rfl) rfl (hb hby d_jdk_52_16_32) (Nat.le_of_ble_eq_true rfl) (Nat.le_of_ble_eq_true rfl) rfl rfl (Nat.le_of_ble_eq_true rfl) (Nat.le_of_ble_eq_true rfl) rfl fun T26 W26 => ?_
    refine g_sipush (255 : Int32) (pc' := 38) W26.here hx (hb hby d_jdk_52_16_35) rfl rfl ?_
    refine g_icmpY (pc' := 54) W26.here hx (hb hby d_jdk_52_16_38) rfl (tlt (show (255 : Int32) < gc from hbig)).2.2.1 ?_
    refine g_aload (pc' := 56) W26.here hx (hb hby d_jdk_52_16_54) rfl rfl rfl ?_
    refine w_retA W26 hx hh hlk hret rfl rfl (hb hby d_jdk_52_16_56) (Nat.le_of_ble_eq_true rfl) (Nat.le_of_ble_eq_true rfl) ?_
    exact ⟨_, _, rfl, by omega, V25, Or.inr ⟨⟨gc, List.mem_of_getElem? hgc, hbig⟩, rfl⟩⟩
set_option maxRecDepth 65536 in
set_option maxHeartbeats 40000000 in
theorem c_coderFromL (l : Launch) (Z : State) (a0 : Array Value) (hw : ∀ d ∈ tables_1, d.before a0 Z = true) (hE : EW Z a0 ([] : List (String × Nat))) (ba : Nat) (cs : List Int32) (bs : List Value) (h0 : Heap) (O : Ext Z.heap h0) (VB : Ary Z h0 ba .byte bs) (hbl : bs.length = cs.length) (hpos : 0 < cs.length) (hn : cs.length < 2 ^ 29) :
    Con l Z ([] : List (String × Nat)) (⟨"java/lang/StringUTF16", "coderFromArrayLen", "([BI)B"⟩ : MethodName) jdk_52_method_15_code 2 (Option.some Jvm.ClassFile.FieldType.byte) ({ frames := 0, cells := 0, slots := 0, locals := 0 } : Room) #[(.ref ba), (.int cs.length.toInt32)] h0 [] (pureQ (some (.int 0)) h0) := by
  refine Con.of (a0 := a0) #[.val (.ref ba), .val (.int cs.length.toInt32)] (plainFor_of_name pn_0) hE O all0 (fun m => by first | (simp [entryFrame, mkF, argsToLocals, Value.category]; done) | rfl) ?_
  intro p e s m below meth c T0 hx hby hml hnm hret hlk hh W0
  refine g_iloadN (pc' := 1) W0.here hx (hb hby d_jdk_52_15_0) rfl rfl ?_
  refine g_aloadN (pc' := 2) W0.here hx (hb hby d_jdk_52_15_1) rfl rfl rfl ?_
  refine w_len (pc' := 3) W0 hx VB (hb hby d_jdk_52_15_2) rfl ?_
  refine g_name (w := .int cs.length.toInt32) (congrArg Value.int (by rw [hbl])) ?_
  refine g_isub (pc' := 4) W0.here hx (hb hby d_jdk_52_15_3) rfl ?_
  refine g_bipush (31 : Int32) (pc' := 6) W0.here hx (hb hby d_jdk_52_15_4) rfl rfl ?_
  refine g_iushr (pc' := 7) W0.here hx (hb hby d_jdk_52_15_6) rfl ?_
  refine g_i2b (pc' := 8) W0.here hx (hb hby d_jdk_52_15_7) rfl ?_
  refine w_retN (t := .byte) W0 hx hh hlk hret (by simp) (hb hby d_jdk_52_15_8) (Nat.le_of_ble_eq_true rfl) (Nat.le_of_ble_eq_true rfl) ?_
  exact ⟨congrArg (fun z => some (Value.int z)) (by rw [own_csub]; rfl), rfl⟩
set_option maxRecDepth 65536 in
set_option maxHeartbeats 40000000 in
theorem c_coderFromU (l : Launch) (Z : State) (a0 : Array Value) (hw : ∀ d ∈ tables_1, d.before a0 Z = true) (hE : EW Z a0 ([] : List (String × Nat))) (ba : Nat) (cs : List Int32) (bs : List Value) (h0 : Heap) (O : Ext Z.heap h0) (VB : Ary Z h0 ba .byte bs) (hbl : bs.length = 2 * cs.length) (hpos : 0 < cs.length) (hn : cs.length < 2 ^ 29) :
    Con l Z ([] : List (String × Nat)) (⟨"java/lang/StringUTF16", "coderFromArrayLen", "([BI)B"⟩ : MethodName) jdk_52_method_15_code 2 (Option.some Jvm.ClassFile.FieldType.byte) ({ frames := 0, cells := 0, slots := 0, locals := 0 } : Room) #[(.ref ba), (.int cs.length.toInt32)] h0 [] (pureQ (some (.int 1)) h0) := by
  refine Con.of (a0 := a0) #[.val (.ref ba), .val (.int cs.length.toInt32)] (plainFor_of_name pn_0) hE O all0 (fun m => by first | (simp [entryFrame, mkF, argsToLocals, Value.category]; done) | rfl) ?_
  intro p e s m below meth c T0 hx hby hml hnm hret hlk hh W0
  refine g_iloadN (pc' := 1) W0.here hx (hb hby d_jdk_52_15_0) rfl rfl ?_
  refine g_aloadN (pc' := 2) W0.here hx (hb hby d_jdk_52_15_1) rfl rfl rfl ?_
  refine w_len (pc' := 3) W0 hx VB (hb hby d_jdk_52_15_2) rfl ?_
  refine g_name (w := .int (2 * cs.length).toInt32) (congrArg Value.int (by rw [hbl])) ?_
  refine g_isub (pc' := 4) W0.here hx (hb hby d_jdk_52_15_3) rfl ?_
  refine g_bipush (31 : Int32) (pc' := 6) W0.here hx (hb hby d_jdk_52_15_4) rfl rfl ?_
  refine g_iushr (pc' := 7) W0.here hx (hb hby d_jdk_52_15_6) rfl ?_
  refine g_i2b (pc' := 8) W0.here hx (hb hby d_jdk_52_15_7) rfl ?_
  refine w_retN (t := .byte) W0 hx hh hlk hret (by simp) (hb hby d_jdk_52_15_8) (Nat.le_of_ble_eq_true rfl) (Nat.le_of_ble_eq_true rfl) ?_
  exact ⟨congrArg (fun z => some (Value.int z)) (by rw [own_csub1 hpos hn]; rfl), rfl⟩
theorem own_pos0 {n : Nat} (h : 0 < n) (hn : n < 2 ^ 31) : ¬ n.toInt32 = 0 := fun q => by
  have := congrArg Int32.toInt q
  rw [own_toInt hn] at this
  simp at this; omega
theorem own_nil {cs : List Int32} (hn : cs.length < 2 ^ 31) (q : cs.length.toInt32 = (0 : Int32)) : cs = [] := by
  cases cs with
  | nil => rfl
  | cons a t => exact absurd q (own_pos0 (by simp) hn)
theorem own_lat2 {cs : List Int32} (h : ∀ c ∈ cs, 0 ≤ c.toInt ∧ c.toInt < 65536) (q : ∀ c ∈ cs, ¬ (255 : Int32) < c) : ∀ c ∈ cs, 0 ≤ c.toInt ∧ c.toInt ≤ 255 := fun c hc => by
  have a := h c hc
  have b := q c hc
  rw [Int32.lt_iff_toInt_lt] at b
  have e : (255 : Int32).toInt = 255 := rfl
  omega
set_option maxRecDepth 65536 in
set_option maxHeartbeats 40000000 in
theorem c_str4 (l : Launch) (Z : State) (a0 : Array Value) (hw : ∀ d ∈ tables_1, d.before a0 Z = true) (hE : EW Z a0 ([] : List (String × Nat))) (cc : Int32) (fm : Value) (o ca : Nat) (cs : List Int32) (h0 : Heap) (O : Ext Z.heap h0) (G : SEnv Z cc fm) (GU : SEnvU Z) (hpos : 0 < cs.length) (hn : cs.length ≤ 4) (hch : ∀ c ∈ cs, 0 ≤ c.toInt ∧ c.toInt < 65536) (VA : Ary Z h0 ca .char (cs.map Value.int)) (hz : Z.heap.size ≤ o) (E0 : Exa Z h0 o "java/lang/String") (u1 u2 : Value) (F1 : Fld Z h0 o "java/lang/String" "coder" "B" u1) (F2 : Fld Z h0 o "java/lang/String" "value" "[B" u2) (hoc : o ≠ ca)  :
    Con l Z ([] : List (String × Nat)) (⟨"java/lang/String", "<init>", "([CIILjava/lang/Void;)V"⟩ : MethodName) jdk_42_method_149_code 6 (Option.none : Option Jvm.ClassFile.FieldType) ({ frames := 4, cells := 2, slots := 12, locals := 57 } : Room) #[(.ref o), (.ref ca), (.int (0 : Int32)), (.int cs.length.toInt32), .null] h0 [o] (fun v h => v = none ∧ ∃ b : Nat, SG Z h o b cs) := by
  refine Con.of (a0 := a0) #[.val (.ref o), .val (.ref ca), .val (.int (0 : Int32)), .val (.int cs.length.toInt32), .val .null, .unset] (plainFor_of_name pn_1) hE O (allS ⟨hz, E0.lt⟩ all0) (fun m => by first | (simp [entryFrame, mkF, argsToLocals, Value.category]; done) | rfl) ?_
  intro p e s m below meth c T0 hx hby hml hnm hret hlk hh W0
  have hn31 : cs.length < 2 ^ 29 := by omega
  have lt_ca : ca < h0.size := VA.lt
  have lt_o : o < h0.size := E0.lt
  refine g_aloadN (pc' := 1) W0.here hx (hb hby d_jdk_42_149_0) rfl rfl rfl ?_
  refine w_initO (pc' := 4) W0 hx (hw _ (List.mem_of_getElem? w_31)) (hw _ (List.mem_of_getElem? w_32)) (hw _ (List.mem_of_getElem? w_33)) (by rw [hml]; rfl) (hb hby d_jdk_42_149_1) (Nat.le_of_ble_eq_true rfl) (Nat.le_of_ble_eq_true rfl) rfl fun T27 W27 => ?_
  refine g_iloadN (pc' := 5) W27.here hx (hb hby d_jdk_42_149_4) rfl rfl ?_
  refine g_ifY (pc' := 27) W27.here hx (hb hby d_jdk_42_149_5) rfl (feq (show ¬ (cs.length.toInt32 = (0 : Int32)) from (own_pos0 hpos (by omega)))).2 ?_
  refine w_getS (pc' := 30) W27 hx (hw _ (List.mem_of_getElem? w_34)) Via.refl G.1 (hb hby d_jdk_42_149_27) rfl fun T28 W28 => ?_
  refine g_ifN (pc' := 33) W28.here hx (hb hby d_jdk_42_149_30) rfl (feq (show ¬ (cc = (0 : Int32)) from G.2.1)).1 ?_
  refine g_aloadN (pc' := 34) W28.here hx (hb hby d_jdk_42_149_33) rfl rfl rfl ?_
  refine g_iloadN (pc' := 35) W28.here hx (hb hby d_jdk_42_149_34) rfl rfl ?_
  refine g_iloadN (pc' := 36) W28.here hx (hb hby d_jdk_42_149_35) rfl rfl ?_
  refine w_callS (pc' := 39) (st := []) (y := (⟨"java/lang/StringUTF16", "compress", "([CII)[B"⟩ : MethodName)) W28 hx [(.ref ca), (.int (0 : Int32)), (.int cs.length.toInt32)] (hw _ (List.mem_of_getElem? w_35)) (hw _ (List.mem_of_getElem? w_36)) (hw _ (List.mem_of_getElem? w_37)) (hw _ (List.mem_of_getElem? w_38)) (by decide) (c_compress l Z a0 hw hE cc fm ca cs h0 W28.old G GU hn hch VA) all0 (by rw [hml]; rfl) (lenOf pd_4 rfl) rfl (hb hby d_jdk_42_149_36) (Nat.le_of_ble_eq_true rfl) (Nat.le_of_ble_eq_true rfl) (Nat.le_of_ble_eq_true rfl) (Nat.le_of_ble_eq_true rfl) rfl fun v29 T29 h29 W29 K29 Q29 => ?_
  have z_K29 : h0.size ≤ h29.size := K29.1
  obtain ⟨ba30, bs, rfl, gz30, V30, hcase⟩ := Q29
  have ne_ca_ba30 : ca ≠ ba30 := by omega
  have ne_o_ba30 : o ≠ ba30 := by omega
  have lt_ba30 : ba30 < h29.size := V30.lt
  rcases hcase with ⟨hlat, rfl⟩ | ⟨hbig, rfl⟩
  · have hz8 := hlat
    refine g_astore (pc' := 41) (Ls' := #[.val (.ref o), .val (.ref ca), .val (.int (0 : Int32)), .val (.int cs.length.toInt32), .val .null, .val (.ref ba30)]) W29.here hx (hb hby d_jdk_42_149_39) rfl rfl rfl ?_
    refine g_aloadN (pc' := 42) W29.here hx (hb hby d_jdk_42_149_41) rfl rfl rfl ?_
    refine g_aload (pc' := 44) W29.here hx (hb hby d_jdk_42_149_42) rfl rfl rfl ?_
    refine g_iloadN (pc' := 45) W29.here hx (hb hby d_jdk_42_149_44) rfl rfl ?_
    refine w_callSp (pc' := 48) (st := [(.ref o)]) (y := (⟨"java/lang/StringUTF16", "coderFromArrayLen", "([BI)B"⟩ : MethodName)) W29 hx [(.ref ba30), (.int cs.length.toInt32)] (hw _ (List.mem_of_getElem? w_62)) (hw _ (List.mem_of_getElem? w_63)) (hw _ (List.mem_of_getElem? w_37)) (hw _ (List.mem_of_getElem? w_64)) (by decide) (c_coderFromL l Z a0 hw hE ba30 cs _ h29 W29.old V30 (by simp) hpos hn31) (by rw [hml]; rfl) (lenOf pd_6 rfl) rfl (hb hby d_jdk_42_149_45) (Nat.le_of_ble_eq_true rfl) (Nat.le_of_ble_eq_true rfl) rfl rfl (Nat.le_of_ble_eq_true rfl) (Nat.le_of_ble_eq_true rfl) rfl fun T31 W31 => ?_
    have c32 := (F1.keep K29 nin0)
    have c33 := (E0.keep K29)
    refine w_putN (pc' := 51) (v' := (.int (0 : Int32))) W31 hx (hw _ (List.mem_of_getElem? w_65)) Via.refl c32 c33 (Or.inr ⟨(hw _ (List.mem_of_getElem? w_66)), rfl, hnm⟩) (hw _ (List.mem_of_getElem? w_21)) (ty := .byte) (by decide) rfl rfl (List.mem_of_getElem? (i := 0) rfl) (hb hby d_jdk_42_149_48) rfl fun T34 h34 W34 K34 R34 F34 A34 => ?_
    have c35 := (F2.keep K29 nin0)
    have z_K34 : h29.size ≤ h34.size := K34.1
    have c36 := (c35.other R34 (Or.inr (slot_ne (Or.inr (hw _ (List.mem_of_getElem? w_68))) (Or.inr (hw _ (List.mem_of_getElem? w_66))) (by decide) (t := (.array .byte)) (t' := .byte) (by decide) (by decide))))
    refine g_aloadN (pc' := 52) W34.here hx (hb hby d_jdk_42_149_51) rfl rfl rfl ?_
    refine g_aload (pc' := 54) W34.here hx (hb hby d_jdk_42_149_52) rfl rfl rfl ?_
    refine w_put (pc' := 57) W34 hx (hw _ (List.mem_of_getElem? w_67)) Via.refl c36 A34 (Or.inr ⟨(hw _ (List.mem_of_getElem? w_68)), rfl, hnm⟩) (hw _ (List.mem_of_getElem? w_21)) (ty := (.array .byte)) (by decide) rfl rfl (List.mem_of_getElem? (i := 0) rfl) (hb hby d_jdk_42_149_54) rfl fun T37 h37 W37 K37 R37 F37 A37 => ?_
    have z_K37 : h34.size ≤ h37.size := K37.1
    have c38 := (F34.other R37 (Or.inr (slot_ne (Or.inr (hw _ (List.mem_of_getElem? w_66))) (Or.inr (hw _ (List.mem_of_getElem? w_68))) (by decide) (t := .byte) (t' := (.array .byte)) (by decide) (by decide))))
    have c39 := ((V30.keep K34 (ninS (Ne.symm ne_o_ba30) nin0)).keep K37 (ninS (Ne.symm ne_o_ba30) nin0))
    refine w_retV W37 hx hh hlk hret (hb hby d_jdk_42_149_57) (Nat.le_of_ble_eq_true rfl) (Nat.le_of_ble_eq_true rfl) ?_
    exact ⟨rfl, ba30, Or.inl ⟨A37, c38, F37, c39, own_lat2 hch hlat⟩⟩
  · have hz8 := hbig
    refine g_astore (pc' := 41) (Ls' := #[.val (.ref o), .val (.ref ca), .val (.int (0 : Int32)), .val (.int cs.length.toInt32), .val .null, .val (.ref ba30)]) W29.here hx (hb hby d_jdk_42_149_39) rfl rfl rfl ?_
    refine g_aloadN (pc' := 42) W29.here hx (hb hby d_jdk_42_149_41) rfl rfl rfl ?_
    refine g_aload (pc' := 44) W29.here hx (hb hby d_jdk_42_149_42) rfl rfl rfl ?_
    refine g_iloadN (pc' := 45) W29.here hx (hb hby d_jdk_42_149_44) rfl rfl ?_
    refine w_callSp (pc' := 48) (st := [(.ref o)]) (y := (⟨"java/lang/StringUTF16", "coderFromArrayLen", "([BI)B"⟩ : MethodName)) W29 hx [(.ref ba30), (.int cs.length.toInt32)] (hw _ (List.mem_of_getElem? w_62)) (hw _ (List.mem_of_getElem? w_63)) (hw _ (List.mem_of_getElem? w_37)) (hw _ (List.mem_of_getElem? w_64)) (by decide) (c_coderFromU l Z a0 hw hE ba30 cs _ h29 W29.old V30 (own_ulen cs) hpos hn31) (by rw [hml]; rfl) (lenOf pd_6 rfl) rfl (hb hby d_jdk_42_149_45) (Nat.le_of_ble_eq_true rfl) (Nat.le_of_ble_eq_true rfl) rfl rfl (Nat.le_of_ble_eq_true rfl) (Nat.le_of_ble_eq_true rfl) rfl fun T40 W40 => ?_
    have c41 := (F1.keep K29 nin0)
    have c42 := (E0.keep K29)
    refine w_putN (pc' := 51) (v' := (.int (1 : Int32))) W40 hx (hw _ (List.mem_of_getElem? w_65)) Via.refl c41 c42 (Or.inr ⟨(hw _ (List.mem_of_getElem? w_66)), rfl, hnm⟩) (hw _ (List.mem_of_getElem? w_21)) (ty := .byte) (by decide) rfl rfl (List.mem_of_getElem? (i := 0) rfl) (hb hby d_jdk_42_149_48) rfl fun T43 h43 W43 K43 R43 F43 A43 => ?_
    have c44 := (F2.keep K29 nin0)
    have z_K43 : h29.size ≤ h43.size := K43.1
    have c45 := (c44.other R43 (Or.inr (slot_ne (Or.inr (hw _ (List.mem_of_getElem? w_68))) (Or.inr (hw _ (List.mem_of_getElem? w_66))) (by decide) (t := (.array .byte)) (t' := .byte) (by decide) (by decide))))
    refine g_aloadN (pc' := 52) W43.here hx (hb hby d_jdk_42_149_51) rfl rfl rfl ?_
    refine g_aload (pc' := 54) W43.here hx (hb hby d_jdk_42_149_52) rfl rfl rfl ?_
    refine w_put (pc' := 57) W43 hx (hw _ (List.mem_of_getElem? w_67)) Via.refl c45 A43 (Or.inr ⟨(hw _ (List.mem_of_getElem? w_68)), rfl, hnm⟩) (hw _ (List.mem_of_getElem? w_21)) (ty := (.array .byte)) (by decide) rfl rfl (List.mem_of_getElem? (i := 0) rfl) (hb hby d_jdk_42_149_54) rfl fun T46 h46 W46 K46 R46 F46 A46 => ?_
    have z_K46 : h43.size ≤ h46.size := K46.1
    have c47 := (F43.other R46 (Or.inr (slot_ne (Or.inr (hw _ (List.mem_of_getElem? w_66))) (Or.inr (hw _ (List.mem_of_getElem? w_68))) (by decide) (t := .byte) (t' := (.array .byte)) (by decide) (by decide))))
    have c48 := ((V30.keep K43 (ninS (Ne.symm ne_o_ba30) nin0)).keep K46 (ninS (Ne.symm ne_o_ba30) nin0))
    refine w_retV W46 hx hh hlk hret (hb hby d_jdk_42_149_57) (Nat.le_of_ble_eq_true rfl) (Nat.le_of_ble_eq_true rfl) ?_
    exact ⟨rfl, ba30, Or.inr ⟨A46, c47, F46, c48, hch, hn31⟩⟩
set_option maxRecDepth 65536 in
set_option maxHeartbeats 40000000 in
theorem c_strC (l : Launch) (Z : State) (a0 : Array Value) (hw : ∀ d ∈ tables_1, d.before a0 Z = true) (hE : EW Z a0 ([] : List (String × Nat))) (cc : Int32) (fm : Value) (o ca : Nat) (cs : List Int32) (h0 : Heap) (O : Ext Z.heap h0) (G : SEnv Z cc fm) (GU : SEnvU Z) (hpos : 0 < cs.length) (hn : cs.length ≤ 4) (hch : ∀ c ∈ cs, 0 ≤ c.toInt ∧ c.toInt < 65536) (VA : Ary Z h0 ca .char (cs.map Value.int)) (hz : Z.heap.size ≤ o) (E0 : Exa Z h0 o "java/lang/String") (u1 u2 : Value) (F1 : Fld Z h0 o "java/lang/String" "coder" "B" u1) (F2 : Fld Z h0 o "java/lang/String" "value" "[B" u2) (hoc : o ≠ ca)  :
    Con l Z ([] : List (String × Nat)) (⟨"java/lang/String", "<init>", "([C)V"⟩ : MethodName) jdk_42_method_3_code 2 (Option.none : Option Jvm.ClassFile.FieldType) ({ frames := 5, cells := 2, slots := 12, locals := 74 } : Room) #[(.ref o), (.ref ca)] h0 [o] (fun v h => v = none ∧ ∃ b : Nat, SG Z h o b cs) := by
  refine Con.of (a0 := a0) #[.val (.ref o), .val (.ref ca)] (plainFor_of_name pn_1) hE O (allS ⟨hz, E0.lt⟩ all0) (fun m => by first | (simp [entryFrame, mkF, argsToLocals, Value.category]; done) | rfl) ?_
  intro p e s m below meth c T0 hx hby hml hnm hret hlk hh W0
  have hn31 : cs.length < 2 ^ 29 := by omega
  have lt_ca : ca < h0.size := VA.lt
  have lt_o : o < h0.size := E0.lt
  refine g_aloadN (pc' := 1) W0.here hx (hb hby d_jdk_42_3_0) rfl rfl rfl ?_
  refine g_aloadN (pc' := 2) W0.here hx (hb hby d_jdk_42_3_1) rfl rfl rfl ?_
  refine g_iconst (0 : Int32) (pc' := 3) W0.here hx (hb hby d_jdk_42_3_2) rfl rfl ?_
  refine g_aloadN (pc' := 4) W0.here hx (hb hby d_jdk_42_3_3) rfl rfl rfl ?_
  refine w_len (pc' := 5) W0 hx VA (hb hby d_jdk_42_3_4) rfl ?_
  refine g_name (w := .int cs.length.toInt32) (congrArg Value.int (by rw [List.length_map])) ?_
  refine g_aconstNull (pc' := 6) W0.here hx (hb hby d_jdk_42_3_5) rfl ?_
  refine w_special (pc' := 9) (st := []) (y := (⟨"java/lang/String", "<init>", "([CIILjava/lang/Void;)V"⟩ : MethodName)) (a := o) W0 hx [(.ref ca), (.int (0 : Int32)), (.int cs.length.toInt32), .null] rfl (hw _ (List.mem_of_getElem? w_27)) (hw _ (List.mem_of_getElem? w_28)) (hw _ (List.mem_of_getElem? w_22)) (hw _ (List.mem_of_getElem? w_30)) (by decide) (c_str4 l Z a0 hw hE cc fm o ca cs h0 W0.old G GU hpos hn hch VA (by have := O.1; omega) E0 _ _ F1 F2 hoc) (allS (List.mem_of_getElem? (i := 0) rfl) all0) (by rw [hml]; rfl) (lenOf pd_7 rfl) rfl (hb hby d_jdk_42_3_6) (Nat.le_of_ble_eq_true rfl) (Nat.le_of_ble_eq_true rfl) (Nat.le_of_ble_eq_true rfl) (Nat.le_of_ble_eq_true rfl) rfl fun v49 T49 h49 W49 K49 Q49 => ?_
  have z_K49 : h0.size ≤ h49.size := K49.1
  obtain ⟨rfl, sb50, S50⟩ := Q49
  have ES50 := S50.exa
  have lt_sb50 : sb50 < h49.size := S50.ltb
  refine w_retV W49 hx hh hlk hret (hb hby d_jdk_42_3_9) (Nat.le_of_ble_eq_true rfl) (Nat.le_of_ble_eq_true rfl) ?_
  exact ⟨rfl, _, S50⟩
set_option maxRecDepth 65536 in
set_option maxHeartbeats 40000000 in
theorem c_coderL (l : Launch) (Z : State) (a0 : Array Value) (hw : ∀ d ∈ tables_1, d.before a0 Z = true) (hE : EW Z a0 ([] : List (String × Nat))) (cc : Int32) (fm : Value) (a b : Nat) (cs : List Int32)  (h0 : Heap) (O : Ext Z.heap h0) (G : SEnv Z cc fm) (GU : SEnvU Z) (S0 : SL Z h0 a b cs)  :
    Con l Z ([] : List (String × Nat)) (⟨"java/lang/String", "coder", "()B"⟩ : MethodName) jdk_42_method_152_code 1 (Option.some Jvm.ClassFile.FieldType.byte) ({ frames := 0, cells := 0, slots := 0, locals := 0 } : Room) #[(.ref a)] h0 [] (pureQ (some (.int 0)) h0) := by
  refine Con.of (a0 := a0) #[.val (.ref a)] (plainFor_of_name pn_1) hE O all0 (fun m => by first | (simp [entryFrame, mkF, argsToLocals, Value.category]; done) | rfl) ?_
  intro p e s m below meth c T0 hx hby hml hnm hret hlk hh W0
  obtain ⟨E_a, FC_a, FV_a, V_b, L_a⟩ := id S0
  have hl29 : cs.length < 2 ^ 31 := by have := V_b.len; simpa using this
  refine w_getS (pc' := 3) W0 hx (hw _ (List.mem_of_getElem? w_34)) Via.refl G.1 (hb hby d_jdk_42_152_0) rfl fun T55 W55 => ?_
  refine g_ifN (pc' := 6) W55.here hx (hb hby d_jdk_42_152_3) rfl (feq (show ¬ (cc = (0 : Int32)) from G.2.1)).1 ?_
  refine g_aloadN (pc' := 7) W55.here hx (hb hby d_jdk_42_152_6) rfl rfl rfl ?_
  refine w_get (pc' := 10) W55 hx (hw _ (List.mem_of_getElem? w_65)) Via.refl FC_a (hb hby d_jdk_42_152_7) rfl fun T56 W56 => ?_
  refine g_goto (pc' := 14) W56.here hx (hb hby d_jdk_42_152_10) rfl ?_
  refine w_retN (t := .byte) W56 hx hh hlk hret (by simp) (hb hby d_jdk_42_152_14) (Nat.le_of_ble_eq_true rfl) (Nat.le_of_ble_eq_true rfl) ?_
  exact ⟨rfl, rfl⟩
set_option maxRecDepth 65536 in
set_option maxHeartbeats 40000000 in
theorem c_coderU (l : Launch) (Z : State) (a0 : Array Value) (hw : ∀ d ∈ tables_1, d.before a0 Z = true) (hE : EW Z a0 ([] : List (String × Nat))) (cc : Int32) (fm : Value) (a b : Nat) (cs : List Int32)  (h0 : Heap) (O : Ext Z.heap h0) (G : SEnv Z cc fm) (GU : SEnvU Z) (S0 : SU Z h0 a b cs)  :
    Con l Z ([] : List (String × Nat)) (⟨"java/lang/String", "coder", "()B"⟩ : MethodName) jdk_42_method_152_code 1 (Option.some Jvm.ClassFile.FieldType.byte) ({ frames := 0, cells := 0, slots := 0, locals := 0 } : Room) #[(.ref a)] h0 [] (pureQ (some (.int 1)) h0) := by
  refine Con.of (a0 := a0) #[.val (.ref a)] (plainFor_of_name pn_1) hE O all0 (fun m => by first | (simp [entryFrame, mkF, argsToLocals, Value.category]; done) | rfl) ?_
  intro p e s m below meth c T0 hx hby hml hnm hret hlk hh W0
  obtain ⟨E_a, FC_a, FV_a, V_b, L_a, hl29⟩ := id S0
  refine w_getS (pc' := 3) W0 hx (hw _ (List.mem_of_getElem? w_34)) Via.refl G.1 (hb hby d_jdk_42_152_0) rfl fun T57 W57 => ?_
  refine g_ifN (pc' := 6) W57.here hx (hb hby d_jdk_42_152_3) rfl (feq (show ¬ (cc = (0 : Int32)) from G.2.1)).1 ?_
  refine g_aloadN (pc' := 7) W57.here hx (hb hby d_jdk_42_152_6) rfl rfl rfl ?_
  refine w_get (pc' := 10) W57 hx (hw _ (List.mem_of_getElem? w_65)) Via.refl FC_a (hb hby d_jdk_42_152_7) rfl fun T58 W58 => ?_
  refine g_goto (pc' := 14) W58.here hx (hb hby d_jdk_42_152_10) rfl ?_
  refine w_retN (t := .byte) W58 hx hh hlk hret (by simp) (hb hby d_jdk_42_152_14) (Nat.le_of_ble_eq_true rfl) (Nat.le_of_ble_eq_true rfl) ?_
  exact ⟨rfl, rfl⟩
set_option maxRecDepth 65536 in
set_option maxHeartbeats 40000000 in
theorem c_lengthL (l : Launch) (Z : State) (a0 : Array Value) (hw : ∀ d ∈ tables_1, d.before a0 Z = true) (hE : EW Z a0 ([] : List (String × Nat))) (cc : Int32) (fm : Value) (a b : Nat) (cs : List Int32)  (h0 : Heap) (O : Ext Z.heap h0) (G : SEnv Z cc fm) (GU : SEnvU Z) (S0 : SL Z h0 a b cs)  :
    Con l Z ([] : List (String × Nat)) (⟨"java/lang/String", "length", "()I"⟩ : MethodName) jdk_42_method_54_code 1 (Option.some Jvm.ClassFile.FieldType.int) ({ frames := 1, cells := 0, slots := 0, locals := 13 } : Room) #[(.ref a)] h0 [] (pureQ (some (.int cs.length.toInt32)) h0) := by
  refine Con.of (a0 := a0) #[.val (.ref a)] (plainFor_of_name pn_1) hE O all0 (fun m => by first | (simp [entryFrame, mkF, argsToLocals, Value.category]; done) | rfl) ?_
  intro p e s m below meth c T0 hx hby hml hnm hret hlk hh W0
  obtain ⟨E_a, FC_a, FV_a, V_b, L_a⟩ := id S0
  have hl29 : cs.length < 2 ^ 31 := by have := V_b.len; simpa using this
  refine g_aloadN (pc' := 1) W0.here hx (hb hby d_jdk_42_54_0) rfl rfl rfl ?_
  refine w_get (pc' := 4) W0 hx (hw _ (List.mem_of_getElem? w_67)) Via.refl FV_a (hb hby d_jdk_42_54_1) rfl fun T63 W63 => ?_
  refine w_len (pc' := 5) W63 hx V_b (hb hby d_jdk_42_54_4) rfl ?_
  refine g_name (w := .int cs.length.toInt32) (congrArg Value.int (by rw [List.length_map])) ?_
  refine g_aloadN (pc' := 6) W63.here hx (hb hby d_jdk_42_54_5) rfl rfl rfl ?_
  refine w_virtualp (pc' := 9) (st := [(.int cs.length.toInt32)]) (y := (⟨"java/lang/String", "coder", "()B"⟩ : MethodName)) (z := (⟨"java/lang/String", "coder", "()B"⟩ : MethodName)) (a := a) W63 hx [] (hw _ (List.mem_of_getElem? w_97)) (hw _ (List.mem_of_getElem? w_98)) (nfS (z := (⟨"java/lang/String", "coder", "()B"⟩ : MethodName)) (hw _ (List.mem_of_getElem? w_100))) (hw _ (List.mem_of_getElem? w_100)) (hw _ (List.mem_of_getElem? w_99)) (hw _ (List.mem_of_getElem? w_22)) (hw _ (List.mem_of_getElem? w_101)) (by decide) (c_coderL l Z a0 hw hE cc fm a b cs  h0 W63.old G GU S0 ) E_a (by rw [hml]; rfl) (lenOf pd_8 rfl) rfl (hb hby d_jdk_42_54_6) (Nat.le_of_ble_eq_true rfl) (Nat.le_of_ble_eq_true rfl) rfl rfl (Nat.le_of_ble_eq_true rfl) (Nat.le_of_ble_eq_true rfl) rfl fun T64 W64 => ?_
  refine g_ishr (pc' := 10) W64.here hx (hb hby d_jdk_42_54_9) rfl ?_
  refine w_retI W64 hx hh hlk hret (hb hby d_jdk_42_54_10) (Nat.le_of_ble_eq_true rfl) (Nat.le_of_ble_eq_true rfl) ?_
  exact ⟨congrArg (fun z => some (Value.int z)) (own_shr0 _), rfl⟩
set_option maxRecDepth 65536 in
set_option maxHeartbeats 40000000 in
theorem c_lengthU (l : Launch) (Z : State) (a0 : Array Value) (hw : ∀ d ∈ tables_1, d.before a0 Z = true) (hE : EW Z a0 ([] : List (String × Nat))) (cc : Int32) (fm : Value) (a b : Nat) (cs : List Int32)  (h0 : Heap) (O : Ext Z.heap h0) (G : SEnv Z cc fm) (GU : SEnvU Z) (S0 : SU Z h0 a b cs)  :
    Con l Z ([] : List (String × Nat)) (⟨"java/lang/String", "length", "()I"⟩ : MethodName) jdk_42_method_54_code 1 (Option.some Jvm.ClassFile.FieldType.int) ({ frames := 1, cells := 0, slots := 0, locals := 13 } : Room) #[(.ref a)] h0 [] (pureQ (some (.int cs.length.toInt32)) h0) := by
  refine Con.of (a0 := a0) #[.val (.ref a)] (plainFor_of_name pn_1) hE O all0 (fun m => by first | (simp [entryFrame, mkF, argsToLocals, Value.category]; done) | rfl) ?_
  intro p e s m below meth c T0 hx hby hml hnm hret hlk hh W0
  obtain ⟨E_a, FC_a, FV_a, V_b, L_a, hl29⟩ := id S0
  refine g_aloadN (pc' := 1) W0.here hx (hb hby d_jdk_42_54_0) rfl rfl rfl ?_
  refine w_get (pc' := 4) W0 hx (hw _ (List.mem_of_getElem? w_67)) Via.refl FV_a (hb hby d_jdk_42_54_1) rfl fun T65 W65 => ?_
  refine w_len (pc' := 5) W65 hx V_b (hb hby d_jdk_42_54_4) rfl ?_
  refine g_name (w := .int (2 * cs.length).toInt32) (congrArg Value.int (by rw [own_ulen])) ?_
  refine g_aloadN (pc' := 6) W65.here hx (hb hby d_jdk_42_54_5) rfl rfl rfl ?_
  refine w_virtualp (pc' := 9) (st := [(.int (2 * cs.length).toInt32)]) (y := (⟨"java/lang/String", "coder", "()B"⟩ : MethodName)) (z := (⟨"java/lang/String", "coder", "()B"⟩ : MethodName)) (a := a) W65 hx [] (hw _ (List.mem_of_getElem? w_97)) (hw _ (List.mem_of_getElem? w_98)) (nfS (z := (⟨"java/lang/String", "coder", "()B"⟩ : MethodName)) (hw _ (List.mem_of_getElem? w_100))) (hw _ (List.mem_of_getElem? w_100)) (hw _ (List.mem_of_getElem? w_99)) (hw _ (List.mem_of_getElem? w_22)) (hw _ (List.mem_of_getElem? w_101)) (by decide) (c_coderU l Z a0 hw hE cc fm a b cs  h0 W65.old G GU S0 ) E_a (by rw [hml]; rfl) (lenOf pd_8 rfl) rfl (hb hby d_jdk_42_54_6) (Nat.le_of_ble_eq_true rfl) (Nat.le_of_ble_eq_true rfl) rfl rfl (Nat.le_of_ble_eq_true rfl) (Nat.le_of_ble_eq_true rfl) rfl fun T66 W66 => ?_
  refine g_ishr (pc' := 10) W66.here hx (hb hby d_jdk_42_54_9) rfl ?_
  refine w_retI W66 hx hh hlk hret (hb hby d_jdk_42_54_10) (Nat.le_of_ble_eq_true rfl) (Nat.le_of_ble_eq_true rfl) ?_
  exact ⟨congrArg (fun z => some (Value.int z)) (own_shr1 hl29), rfl⟩
theorem c_length (l : Launch) (Z : State) (a0 : Array Value) (hw : ∀ d ∈ tables_1, d.before a0 Z = true) (hE : EW Z a0 ([] : List (String × Nat))) (cc : Int32) (fm : Value) (a b : Nat) (cs : List Int32)  (h0 : Heap) (O : Ext Z.heap h0) (G : SEnv Z cc fm) (GU : SEnvU Z) (S0 : SG Z h0 a b cs)  :
       Con l Z ([] : List (String × Nat)) (⟨"java/lang/String", "length", "()I"⟩ : MethodName) jdk_42_method_54_code 1 (Option.some Jvm.ClassFile.FieldType.int) ({ frames := 1, cells := 0, slots := 0, locals := 13 } : Room) #[(.ref a)] h0 [] (pureQ (some (.int cs.length.toInt32)) h0) := by
  rcases S0 with S0 | S0
  · exact c_lengthL l Z a0 hw hE cc fm a b cs h0 O G GU S0
  · exact c_lengthU l Z a0 hw hE cc fm a b cs h0 O G GU S0
theorem own_half {n : Nat} (hn : n < 2 ^ 29) (q : (2 * n).toInt32 = (0 : Int32)) : n.toInt32 = 0 := by
  have e : (2 * n).toInt32 = (0 : Nat).toInt32 := q
  have := (own_n32 (by omega) (by omega)).mp e
  have e2 : n = 0 := by omega
  rw [e2]; rfl
set_option maxRecDepth 65536 in
set_option maxHeartbeats 40000000 in
theorem c_isEmptyL (l : Launch) (Z : State) (a0 : Array Value) (hw : ∀ d ∈ tables_1, d.before a0 Z = true) (hE : EW Z a0 ([] : List (String × Nat))) (cc : Int32) (fm : Value) (a b : Nat) (cs : List Int32)  (h0 : Heap) (O : Ext Z.heap h0) (G : SEnv Z cc fm) (GU : SEnvU Z) (S0 : SL Z h0 a b cs)  :
    Con l Z ([] : List (String × Nat)) (⟨"java/lang/String", "isEmpty", "()Z"⟩ : MethodName) jdk_42_method_55_code 1 (Option.some Jvm.ClassFile.FieldType.boolean) ({ frames := 0, cells := 0, slots := 0, locals := 0 } : Room) #[(.ref a)] h0 [] (pureQ (some (.int (if cs = [] then 1 else 0))) h0) := by
  refine Con.of (a0 := a0) #[.val (.ref a)] (plainFor_of_name pn_1) hE O all0 (fun m => by first | (simp [entryFrame, mkF, argsToLocals, Value.category]; done) | rfl) ?_
  intro p e s m below meth c T0 hx hby hml hnm hret hlk hh W0
  obtain ⟨E_a, FC_a, FV_a, V_b, L_a⟩ := id S0
  have hl29 : cs.length < 2 ^ 31 := by have := V_b.len; simpa using this
  refine g_aloadN (pc' := 1) W0.here hx (hb hby d_jdk_42_55_0) rfl rfl rfl ?_
  refine w_get (pc' := 4) W0 hx (hw _ (List.mem_of_getElem? w_67)) Via.refl FV_a (hb hby d_jdk_42_55_1) rfl fun T71 W71 => ?_
  refine w_len (pc' := 5) W71 hx V_b (hb hby d_jdk_42_55_4) rfl ?_
  refine g_name (w := .int cs.length.toInt32) (congrArg Value.int (by rw [List.length_map])) ?_
  by_cases hc5_72 : cs.length.toInt32 = (0 : Int32)
  · refine g_ifN (pc' := 8) W71.here hx (hb hby d_jdk_42_55_5) rfl (teq hc5_72).2 ?_
    refine g_iconst (1 : Int32) (pc' := 9) W71.here hx (hb hby d_jdk_42_55_8) rfl rfl ?_
    refine g_goto (pc' := 13) W71.here hx (hb hby d_jdk_42_55_9) rfl ?_
    refine w_retN (t := .boolean) W71 hx hh hlk hret (by simp) (hb hby d_jdk_42_55_13) (Nat.le_of_ble_eq_true rfl) (Nat.le_of_ble_eq_true rfl) ?_
    exact ⟨by rw [if_pos (own_nil hl29 hc5_72)]; rfl, rfl⟩
  · refine g_ifY (pc' := 12) W71.here hx (hb hby d_jdk_42_55_5) rfl (feq hc5_72).2 ?_
    refine g_iconst (0 : Int32) (pc' := 13) W71.here hx (hb hby d_jdk_42_55_12) rfl rfl ?_
    refine w_retN (t := .boolean) W71 hx hh hlk hret (by simp) (hb hby d_jdk_42_55_13) (Nat.le_of_ble_eq_true rfl) (Nat.le_of_ble_eq_true rfl) ?_
    exact ⟨by rw [if_neg (fun q => hc5_72 (by rw [q]; rfl))]; rfl, rfl⟩
set_option maxRecDepth 65536 in
set_option maxHeartbeats 40000000 in
theorem c_isEmptyU (l : Launch) (Z : State) (a0 : Array Value) (hw : ∀ d ∈ tables_1, d.before a0 Z = true) (hE : EW Z a0 ([] : List (String × Nat))) (cc : Int32) (fm : Value) (a b : Nat) (cs : List Int32)  (h0 : Heap) (O : Ext Z.heap h0) (G : SEnv Z cc fm) (GU : SEnvU Z) (S0 : SU Z h0 a b cs)  :
    Con l Z ([] : List (String × Nat)) (⟨"java/lang/String", "isEmpty", "()Z"⟩ : MethodName) jdk_42_method_55_code 1 (Option.some Jvm.ClassFile.FieldType.boolean) ({ frames := 0, cells := 0, slots := 0, locals := 0 } : Room) #[(.ref a)] h0 [] (pureQ (some (.int (if cs = [] then 1 else 0))) h0) := by
  refine Con.of (a0 := a0) #[.val (.ref a)] (plainFor_of_name pn_1) hE O all0 (fun m => by first | (simp [entryFrame, mkF, argsToLocals, Value.category]; done) | rfl) ?_
  intro p e s m below meth c T0 hx hby hml hnm hret hlk hh W0
  obtain ⟨E_a, FC_a, FV_a, V_b, L_a, hl29⟩ := id S0
  refine g_aloadN (pc' := 1) W0.here hx (hb hby d_jdk_42_55_0) rfl rfl rfl ?_
  refine w_get (pc' := 4) W0 hx (hw _ (List.mem_of_getElem? w_67)) Via.refl FV_a (hb hby d_jdk_42_55_1) rfl fun T73 W73 => ?_
  refine w_len (pc' := 5) W73 hx V_b (hb hby d_jdk_42_55_4) rfl ?_
  refine g_name (w := .int (2 * cs.length).toInt32) (congrArg Value.int (by rw [own_ulen])) ?_
  by_cases hc5_74 : (2 * cs.length).toInt32 = (0 : Int32)
  · refine g_ifN (pc' := 8) W73.here hx (hb hby d_jdk_42_55_5) rfl (teq hc5_74).2 ?_
    refine g_iconst (1 : Int32) (pc' := 9) W73.here hx (hb hby d_jdk_42_55_8) rfl rfl ?_
    refine g_goto (pc' := 13) W73.here hx (hb hby d_jdk_42_55_9) rfl ?_
    refine w_retN (t := .boolean) W73 hx hh hlk hret (by simp) (hb hby d_jdk_42_55_13) (Nat.le_of_ble_eq_true rfl) (Nat.le_of_ble_eq_true rfl) ?_
    exact ⟨by rw [if_pos (own_nil (by omega) (own_half hl29 hc5_74))]; rfl, rfl⟩
  · refine g_ifY (pc' := 12) W73.here hx (hb hby d_jdk_42_55_5) rfl (feq hc5_74).2 ?_
    refine g_iconst (0 : Int32) (pc' := 13) W73.here hx (hb hby d_jdk_42_55_12) rfl rfl ?_
    refine w_retN (t := .boolean) W73 hx hh hlk hret (by simp) (hb hby d_jdk_42_55_13) (Nat.le_of_ble_eq_true rfl) (Nat.le_of_ble_eq_true rfl) ?_
    exact ⟨by rw [if_neg (fun q => hc5_74 (by rw [q]; rfl))]; rfl, rfl⟩
theorem c_isEmpty (l : Launch) (Z : State) (a0 : Array Value) (hw : ∀ d ∈ tables_1, d.before a0 Z = true) (hE : EW Z a0 ([] : List (String × Nat))) (cc : Int32) (fm : Value) (a b : Nat) (cs : List Int32)  (h0 : Heap) (O : Ext Z.heap h0) (G : SEnv Z cc fm) (GU : SEnvU Z) (S0 : SG Z h0 a b cs)  :
       Con l Z ([] : List (String × Nat)) (⟨"java/lang/String", "isEmpty", "()Z"⟩ : MethodName) jdk_42_method_55_code 1 (Option.some Jvm.ClassFile.FieldType.boolean) ({ frames := 0, cells := 0, slots := 0, locals := 0 } : Room) #[(.ref a)] h0 [] (pureQ (some (.int (if cs = [] then 1 else 0))) h0) := by
  rcases S0 with S0 | S0
  · exact c_isEmptyL l Z a0 hw hE cc fm a b cs h0 O G GU S0
  · exact c_isEmptyU l Z a0 hw hE cc fm a b cs h0 O G GU S0
theorem own_n255 {c : Int32} (h : 0 ≤ c.toInt ∧ c.toInt ≤ 255) : ¬ (255 : Int32) < c := by
  rw [Int32.lt_iff_toInt_lt]; have : (255 : Int32).toInt = 255 := rfl; omega
set_option maxRecDepth 65536 in
set_option maxHeartbeats 40000000 in
theorem c_canEnc (l : Launch) (Z : State) (a0 : Array Value) (hw : ∀ d ∈ tables_1, d.before a0 Z = true) (hE : EW Z a0 ([] : List (String × Nat))) (cv : Int32) (h0 : Heap) (O : Ext Z.heap h0) (hc0 : 0 ≤ cv.toInt ∧ cv.toInt ≤ 255) :
    Con l Z ([] : List (String × Nat)) (⟨"java/lang/StringLatin1", "canEncode", "(C)Z"⟩ : MethodName) jdk_43_method_3_code 1 (Option.some Jvm.ClassFile.FieldType.boolean) ({ frames := 0, cells := 0, slots := 0, locals := 0 } : Room) #[(.int cv)] h0 [] (pureQ (some (.int 1)) h0) := by
  refine Con.of (a0 := a0) #[.val (.int cv)] (plainFor_of_name pn_2) hE O all0 (fun m => by first | (simp [entryFrame, mkF, argsToLocals, Value.category]; done) | rfl) ?_
  intro p e s m below meth c T0 hx hby hml hnm hret hlk hh W0
  refine g_iloadN (pc' := 1) W0.here hx (hb hby d_jdk_43_3_0) rfl rfl ?_
  refine g_sipush (255 : Int32) (pc' := 4) W0.here hx (hb hby d_jdk_43_3_1) rfl rfl ?_
  refine g_icmpN (pc' := 7) W0.here hx (hb hby d_jdk_43_3_4) rfl (flt (show ¬ ((255 : Int32) < cv) from (own_n255 hc0))).2.2.1 ?_
  refine g_iconst (1 : Int32) (pc' := 8) W0.here hx (hb hby d_jdk_43_3_7) rfl rfl ?_
  refine g_goto (pc' := 12) W0.here hx (hb hby d_jdk_43_3_8) rfl ?_
  refine w_retN (t := .boolean) W0 hx hh hlk hret (by simp) (hb hby d_jdk_43_3_12) (Nat.le_of_ble_eq_true rfl) (Nat.le_of_ble_eq_true rfl) ?_
  exact ⟨rfl, rfl⟩
set_option maxRecDepth 65536 in
set_option maxHeartbeats 40000000 in
theorem c_toBytesC (l : Launch) (Z : State) (a0 : Array Value) (hw : ∀ d ∈ tables_1, d.before a0 Z = true) (hE : EW Z a0 ([] : List (String × Nat))) (cv : Int32) (h0 : Heap) (O : Ext Z.heap h0)  :
    Con l Z ([] : List (String × Nat)) (⟨"java/lang/StringLatin1", "toBytes", "(C)[B"⟩ : MethodName) jdk_43_method_46_code 1 (Option.some (Jvm.ClassFile.FieldType.array Jvm.ClassFile.FieldType.byte)) ({ frames := 0, cells := 1, slots := 1, locals := 0 } : Room) #[(.int cv)] h0 [] (fun v h => ∃ ba : Nat, v = some (.ref ba) ∧ h0.size ≤ ba ∧ Ary Z h ba .byte ([cv].map latB)) := by
  refine Con.of (a0 := a0) #[.val (.int cv)] (plainFor_of_name pn_2) hE O all0 (fun m => by first | (simp [entryFrame, mkF, argsToLocals, Value.category]; done) | rfl) ?_
  intro p e s m below meth c T0 hx hby hml hnm hret hlk hh W0
  refine g_iconst (1 : Int32) (pc' := 1) W0.here hx (hb hby d_jdk_43_46_0) rfl rfl ?_
  refine w_newarr (pc' := 3) (cap := 1) W0 hx (hw _ (List.mem_of_getElem? w_39)) (hb hby d_jdk_43_46_1) (by decide) (Nat.le_refl _) (Nat.le_of_ble_eq_true rfl) (Nat.le_of_ble_eq_true rfl) (Nat.le_of_ble_eq_true rfl) rfl rfl fun T75 h75 b75 g75 W75 K75 V75 => ?_
  have z_K75 : h0.size ≤ h75.size := K75.1
  have lt_b75 : b75 < h75.size := W75.lt (List.mem_cons_self ..)
  have V75 : Ary Z h75 b75 .byte [(.int (0 : Int32))] := V75
  refine g_dup (pc' := 4) W75.here hx (hb hby d_jdk_43_46_3) rfl rfl ?_
  refine g_iconst (0 : Int32) (pc' := 5) W75.here hx (hb hby d_jdk_43_46_4) rfl rfl ?_
  refine g_iloadN (pc' := 6) W75.here hx (hb hby d_jdk_43_46_5) rfl rfl ?_
  refine g_i2b (pc' := 7) W75.here hx (hb hby d_jdk_43_46_6) rfl ?_
  refine w_bastore (pc' := 8) (x' := cv.toInt8.toInt32) W75 hx V75 (by decide) (Nat.lt_of_lt_of_le (Nat.lt_succ_self _) (Nat.le_of_ble_eq_true rfl)) (List.mem_of_getElem? (i := 0) rfl) (own_b8 cv) (hb hby d_jdk_43_46_7) rfl fun T76 h76 W76 K76 V76 => ?_
  have z_K76 : h75.size ≤ h76.size := K76.1
  have V76 : Ary Z h76 b75 .byte [(.int cv.toInt8.toInt32)] := V76
  refine w_retA W76 hx hh hlk hret rfl rfl (hb hby d_jdk_43_46_8) (Nat.le_of_ble_eq_true rfl) (Nat.le_of_ble_eq_true rfl) ?_
  exact ⟨_, rfl, by omega, V76⟩
set_option maxRecDepth 65536 in
set_option maxHeartbeats 40000000 in
theorem c_sinitBB (l : Launch) (Z : State) (a0 : Array Value) (hw : ∀ d ∈ tables_1, d.before a0 Z = true) (hE : EW Z a0 ([] : List (String × Nat))) (o bb : Nat) (cs : List Int32) (h0 : Heap) (O : Ext Z.heap h0) (hz : Z.heap.size ≤ o) (E0 : Exa Z h0 o "java/lang/String") (u1 u2 : Value) (F1 : Fld Z h0 o "java/lang/String" "coder" "B" u1) (F2 : Fld Z h0 o "java/lang/String" "value" "[B" u2) (VB : Ary Z h0 bb .byte (cs.map latB)) (hch : ∀ c ∈ cs, 0 ≤ c.toInt ∧ c.toInt ≤ 255) (hob : o ≠ bb) :
    Con l Z ([] : List (String × Nat)) (⟨"java/lang/String", "<init>", "([BB)V"⟩ : MethodName) jdk_42_method_151_code 3 (Option.none : Option Jvm.ClassFile.FieldType) ({ frames := 1, cells := 0, slots := 0, locals := 12 } : Room) #[(.ref o), (.ref bb), (.int (0 : Int32))] h0 [o] (fun v h => v = none ∧ SL Z h o bb cs) := by
  refine Con.of (a0 := a0) #[.val (.ref o), .val (.ref bb), .val (.int (0 : Int32))] (plainFor_of_name pn_1) hE O (allS ⟨hz, E0.lt⟩ all0) (fun m => by first | (simp [entryFrame, mkF, argsToLocals, Value.category]; done) | rfl) ?_
  intro p e s m below meth c T0 hx hby hml hnm hret hlk hh W0
  refine g_aloadN (pc' := 1) W0.here hx (hb hby d_jdk_42_151_0) rfl rfl rfl ?_
  refine w_initO (pc' := 4) W0 hx (hw _ (List.mem_of_getElem? w_31)) (hw _ (List.mem_of_getElem? w_32)) (hw _ (List.mem_of_getElem? w_33)) (by rw [hml]; rfl) (hb hby d_jdk_42_151_1) (Nat.le_of_ble_eq_true rfl) (Nat.le_of_ble_eq_true rfl) rfl fun T77 W77 => ?_
  refine g_aloadN (pc' := 5) W77.here hx (hb hby d_jdk_42_151_4) rfl rfl rfl ?_
  refine g_aloadN (pc' := 6) W77.here hx (hb hby d_jdk_42_151_5) rfl rfl rfl ?_
  refine w_put (pc' := 9) W77 hx (hw _ (List.mem_of_getElem? w_67)) Via.refl F2 E0 (Or.inr ⟨(hw _ (List.mem_of_getElem? w_68)), rfl, hnm⟩) (hw _ (List.mem_of_getElem? w_21)) (ty := (.array .byte)) (by decide) rfl rfl (List.mem_of_getElem? (i := 0) rfl) (hb hby d_jdk_42_151_6) rfl fun T78 h78 W78 K78 R78 F78 A78 => ?_
  have z_K78 : h0.size ≤ h78.size := K78.1
  have c79 := (F1.other R78 (Or.inr (slot_ne (Or.inr (hw _ (List.mem_of_getElem? w_66))) (Or.inr (hw _ (List.mem_of_getElem? w_68))) (by decide) (t := .byte) (t' := (.array .byte)) (by decide) (by decide))))
  refine g_aloadN (pc' := 10) W78.here hx (hb hby d_jdk_42_151_9) rfl rfl rfl ?_
  refine g_iloadN (pc' := 11) W78.here hx (hb hby d_jdk_42_151_10) rfl rfl ?_
  refine w_putN (pc' := 14) (v' := (.int (0 : Int32))) W78 hx (hw _ (List.mem_of_getElem? w_65)) Via.refl c79 A78 (Or.inr ⟨(hw _ (List.mem_of_getElem? w_66)), rfl, hnm⟩) (hw _ (List.mem_of_getElem? w_21)) (ty := .byte) (by decide) rfl rfl (List.mem_of_getElem? (i := 0) rfl) (hb hby d_jdk_42_151_11) rfl fun T80 h80 W80 K80 R80 F80 A80 => ?_
  have z_K80 : h78.size ≤ h80.size := K80.1
  have c81 := (F78.other R80 (Or.inr (slot_ne (Or.inr (hw _ (List.mem_of_getElem? w_68))) (Or.inr (hw _ (List.mem_of_getElem? w_66))) (by decide) (t := (.array .byte)) (t' := .byte) (by decide) (by decide))))
  have c82 := ((VB.keep K78 (ninS (Ne.symm hob) nin0)).keep K80 (ninS (Ne.symm hob) nin0))
  refine w_retV W80 hx hh hlk hret (hb hby d_jdk_42_151_14) (Nat.le_of_ble_eq_true rfl) (Nat.le_of_ble_eq_true rfl) ?_
  exact ⟨rfl, A80, F80, c81, c82, hch⟩
set_option maxRecDepth 65536 in
set_option maxHeartbeats 40000000 in
theorem c_valueOfC (l : Launch) (Z : State) (a0 : Array Value) (hw : ∀ d ∈ tables_1, d.before a0 Z = true) (hE : EW Z a0 ([] : List (String × Nat))) (cc : Int32) (fm : Value) (cv : Int32) (h0 : Heap) (O : Ext Z.heap h0) (G : SEnv Z cc fm) (GU : SEnvU Z) (hc0 : 0 ≤ cv.toInt ∧ cv.toInt ≤ 255) :
    Con l Z ([] : List (String × Nat)) (⟨"java/lang/String", "valueOf", "(C)Ljava/lang/String;"⟩ : MethodName) jdk_42_method_139_code 1 (Option.some (Jvm.ClassFile.FieldType.object "java/lang/String")) ({ frames := 2, cells := 2, slots := 5, locals := 27 } : Room) #[(.int cv)] h0 [] (fun v h => ∃ (a b : Nat), v = some (.ref a) ∧ h0.size ≤ a ∧ SL Z h a b [cv]) := by
  refine Con.of (a0 := a0) #[.val (.int cv)] (plainFor_of_name pn_1) hE O all0 (fun m => by first | (simp [entryFrame, mkF, argsToLocals, Value.category]; done) | rfl) ?_
  intro p e s m below meth c T0 hx hby hml hnm hret hlk hh W0
  refine w_getS (pc' := 3) W0 hx (hw _ (List.mem_of_getElem? w_34)) Via.refl G.1 (hb hby d_jdk_42_139_0) rfl fun T83 W83 => ?_
  refine g_ifN (pc' := 6) W83.here hx (hb hby d_jdk_42_139_3) rfl (feq (show ¬ (cc = (0 : Int32)) from G.2.1)).1 ?_
  refine g_iloadN (pc' := 7) W83.here hx (hb hby d_jdk_42_139_6) rfl rfl ?_
  refine w_callSp (pc' := 10) (st := []) (y := (⟨"java/lang/StringLatin1", "canEncode", "(C)Z"⟩ : MethodName)) W83 hx [(.int cv)] (hw _ (List.mem_of_getElem? w_72)) (hw _ (List.mem_of_getElem? w_73)) (hw _ (List.mem_of_getElem? w_74)) (hw _ (List.mem_of_getElem? w_75)) (by decide) (c_canEnc l Z a0 hw hE cv h0 W83.old hc0) (by rw [hml]; rfl) (lenOf pd_9 rfl) rfl (hb hby d_jdk_42_139_7) (Nat.le_of_ble_eq_true rfl) (Nat.le_of_ble_eq_true rfl) rfl rfl (Nat.le_of_ble_eq_true rfl) (Nat.le_of_ble_eq_true rfl) rfl fun T84 W84 => ?_
  refine g_ifN (pc' := 13) W84.here hx (hb hby d_jdk_42_139_10) rfl (feq (show ¬ ((1 : Int32) = (0 : Int32)) from (by decide))).1 ?_
  refine w_new (pc' := 16) W84 hx (hw _ (List.mem_of_getElem? w_76)) (hw _ (List.mem_of_getElem? w_21)) (hw _ (List.mem_of_getElem? w_22)) (hb hby d_jdk_42_139_13) (Nat.le_of_ble_eq_true rfl) (Nat.le_of_ble_eq_true rfl) rfl fun T85 h85 b85 g85 W85 K85 A85 D85 => ?_
  have z_K85 : h0.size ≤ h85.size := K85.1
  have lt_b85 : b85 < h85.size := W85.lt (List.mem_cons_self ..)
  have F85_coder : Fld Z h85 b85 "java/lang/String" "coder" "B" (.int (0 : Int32)) := D85 (Or.inr (hw _ (List.mem_of_getElem? w_66))) (ty := .byte) (by decide)
  have F85_value : Fld Z h85 b85 "java/lang/String" "value" "[B" .null := D85 (Or.inr (hw _ (List.mem_of_getElem? w_68))) (ty := (.array .byte)) (by decide)
  refine g_dup (pc' := 17) W85.here hx (hb hby d_jdk_42_139_16) rfl rfl ?_
  refine g_iloadN (pc' := 18) W85.here hx (hb hby d_jdk_42_139_17) rfl rfl ?_
  refine w_callS (pc' := 21) (st := [(.ref b85), (.ref b85)]) (y := (⟨"java/lang/StringLatin1", "toBytes", "(C)[B"⟩ : MethodName)) W85 hx [(.int cv)] (hw _ (List.mem_of_getElem? w_77)) (hw _ (List.mem_of_getElem? w_78)) (hw _ (List.mem_of_getElem? w_74)) (hw _ (List.mem_of_getElem? w_79)) (by decide) (c_toBytesC l Z a0 hw hE cv h85 W85.old) all0 (by rw [hml]; rfl) (lenOf pd_10 rfl) rfl (hb hby d_jdk_42_139_18) (Nat.le_of_ble_eq_true rfl) (Nat.le_of_ble_eq_true rfl) (Nat.le_of_ble_eq_true rfl) (Nat.le_of_ble_eq_true rfl) rfl fun v86 T86 h86 W86 K86 Q86 => ?_
  have z_K86 : h85.size ≤ h86.size := K86.1
  obtain ⟨ba87, rfl, gz87, V87⟩ := Q86
  have ne_b85_ba87 : b85 ≠ ba87 := by omega
  have lt_ba87 : ba87 < h86.size := V87.lt
  refine g_iconst (0 : Int32) (pc' := 22) W86.here hx (hb hby d_jdk_42_139_21) rfl rfl ?_
  have c88 := (A85.keep K86)
  have c89 := (F85_coder.keep K86 nin0)
  have c90 := (F85_value.keep K86 nin0)
  refine w_special (pc' := 25) (st := [(.ref b85)]) (y := (⟨"java/lang/String", "<init>", "([BB)V"⟩ : MethodName)) (a := b85) W86 hx [(.ref ba87), (.int (0 : Int32))] rfl (hw _ (List.mem_of_getElem? w_80)) (hw _ (List.mem_of_getElem? w_81)) (hw _ (List.mem_of_getElem? w_22)) (hw _ (List.mem_of_getElem? w_82)) (by decide) (c_sinitBB l Z a0 hw hE b85 ba87 [cv] h86 W86.old (by have := O.1; omega) c88 _ _ c89 c90 V87 (own_allS hc0 own_all0) ne_b85_ba87) (allS (List.mem_of_getElem? (i := 0) rfl) all0) (by rw [hml]; rfl) (lenOf pd_11 rfl) rfl (hb hby d_jdk_42_139_22) (Nat.le_of_ble_eq_true rfl) (Nat.le_of_ble_eq_true rfl) (Nat.le_of_ble_eq_true rfl) (Nat.le_of_ble_eq_true rfl) rfl fun v91 T91 h91 W91 K91 Q91 => ?_
  have z_K91 : h86.size ≤ h91.size := K91.1
  obtain ⟨rfl, S92⟩ := Q91
  have ES92 := S92.1
  refine w_retA W91 hx hh hlk hret rfl rfl (hb hby d_jdk_42_139_25) (Nat.le_of_ble_eq_true rfl) (Nat.le_of_ble_eq_true rfl) ?_
  exact ⟨_, _, rfl, by omega, S92⟩
theorem own_byte (x : Int32) : 0 ≤ ((x &&& (255 : Int32)).toUInt32.toUInt16.toUInt32.toInt32).toInt ∧ ((x &&& (255 : Int32)).toUInt32.toUInt16.toUInt32.toInt32).toInt ≤ 255 := by
  rw [i2c_mask, c_mask x 255 8 (by decide) (by decide)]
  omega
theorem own_c16 {c : Int32} (h : 0 ≤ c.toInt ∧ c.toInt ≤ 255) : 0 ≤ c.toInt ∧ c.toInt < 65536 := by omega
def hiI (c : Int32) : Int32 := if 55296 ≤ c.toInt ∧ c.toInt ≤ 56319 then 1 else 0
def loI (c : Int32) : Int32 := if 56320 ≤ c.toInt ∧ c.toInt ≤ 57343 then 1 else 0
def prI (c d : Int32) : Int32 := if hiI c = 0 then 0 else if loI d = 0 then 0 else 1
def prs : List Int32 → Nat
  | c :: d :: t => if hiI c = 0 ∨ loI d = 0 then prs (d :: t) else 1 + prs t
  | _ => 0
theorem own_disj (c : Int32) : hiI c = 0 ∨ loI c = 0 := by
  by_cases h : 55296 ≤ c.toInt ∧ c.toInt ≤ 56319
  · right; simp only [loI]; rw [if_neg (by omega)]
  · left; simp only [hiI]; rw [if_neg h]
theorem own_prsN {cs : List Int32} {i : Nat} {c d : Int32} (hc : cs[i]? = some c) (hd : cs[i + 1]? = some d) (q : hiI c = 0 ∨ loI d = 0) : prs (cs.drop i) = prs (cs.drop (i + 1)) := by
  obtain ⟨h1, e1⟩ := List.getElem?_eq_some_iff.mp hc
  obtain ⟨h2, e2⟩ := List.getElem?_eq_some_iff.mp hd
  rw [List.drop_eq_getElem_cons h1, List.drop_eq_getElem_cons h2, e1, e2, prs, if_pos q]
theorem own_prsY {cs : List Int32} {i : Nat} {c d : Int32} (hc : cs[i]? = some c) (hd : cs[i + 1]? = some d) (q1 : ¬ hiI c = 0) (q2 : ¬ loI d = 0) : prs (cs.drop i) = 1 + prs (cs.drop (i + 2)) := by
  obtain ⟨h1, e1⟩ := List.getElem?_eq_some_iff.mp hc
  obtain ⟨h2, e2⟩ := List.getElem?_eq_some_iff.mp hd
  rw [List.drop_eq_getElem_cons h1, List.drop_eq_getElem_cons h2, e1, e2, prs, if_neg (fun q => q.elim q1 q2)]
theorem own_prs0 {cs : List Int32} {i : Nat} (h : cs.length ≤ i + 1) : prs (cs.drop i) = 0 := by
  have q : (cs.drop i).length ≤ 1 := by rw [List.length_drop]; omega
  generalize cs.drop i = t at q
  match t, q with
  | [], _ => rfl
  | [_], _ => rfl
theorem own_prsle : ∀ cs : List Int32, 2 * prs cs ≤ cs.length
  | [] => Nat.zero_le _
  | [_] => Nat.zero_le _
  | c :: d :: t => by
    have a := own_prsle (d :: t)
    have b := own_prsle t
    simp only [List.length_cons] at *
    rw [prs]; split <;> omega
theorem own_prsL : ∀ cs : List Int32, (∀ c ∈ cs, 0 ≤ c.toInt ∧ c.toInt ≤ 255) → prs cs = 0
  | [], _ => rfl
  | [_], _ => rfl
  | c :: d :: t, h => by
    have hc := h c (by simp)
    have q : hiI c = 0 := by simp only [hiI]; rw [if_neg (by omega)]
    rw [prs, if_pos (Or.inl q)]
    exact own_prsL (d :: t) fun x hx => h x (List.mem_cons_of_mem _ hx)
theorem own_lt1 {i n : Nat} (hi : i < 2 ^ 31) (hn : n < 2 ^ 31) : (i.toInt32 < n.toInt32 - (1 : Int32)) ↔ i + 1 < n := by
  have q := c_isub n.toInt32 1
  have r := rng32 (n.toInt32 - 1)
  rw [Int32.lt_iff_toInt_lt]
  rw [own_toInt hn] at q
  have e1 : (1 : Int32).toInt = 1 := rfl
  rw [own_toInt hi]
  omega
theorem own_dec1 {n q : Nat} (hn : n < 2 ^ 31) (hq : q < n) : (n - q).toInt32 + Int32.ofInt (-1) = (n - (q + 1)).toInt32 := by
  apply Int32.toInt_inj.mp
  have a := c_iadd (n - q).toInt32 (Int32.ofInt (-1))
  have r := rng32 ((n - q).toInt32 + Int32.ofInt (-1))
  have e1 : (Int32.ofInt (-1)).toInt = -1 := rfl
  rw [own_toInt (by omega)] at *
  omega
theorem own_cnt1 (c0 : Int32) : (1 : Int32) - (0 : Int32) = ([c0].length - prs [c0]).toInt32 := by
  first | (simp [prs]; done) | (simp [prs]; rfl)
theorem own_cnt2 (c0 c1 : Int32) : (2 : Int32) - ((0 : Int32) + prI c0 c1) = ([c0, c1].length - prs [c0, c1]).toInt32 := by
  by_cases h0 : hiI c0 = 0 <;> by_cases l1 : loI c1 = 0 <;> simp [prI, prs, h0, l1] <;> rfl
theorem own_cnt3 (c0 c1 c2 : Int32) : (3 : Int32) - (((0 : Int32) + prI c0 c1) + prI c1 c2) = ([c0, c1, c2].length - prs [c0, c1, c2]).toInt32 := by
  have d1 := own_disj c1
  by_cases h0 : hiI c0 = 0 <;> by_cases l1 : loI c1 = 0 <;> by_cases h1 : hiI c1 = 0 <;> by_cases l2 : loI c2 = 0 <;> first | (exfalso; simp [h1, l1] at d1; done) | (simp [prI, prs, h0, l1, h1, l2] <;> rfl)
theorem own_cnt4 (c0 c1 c2 c3 : Int32) : (4 : Int32) - ((((0 : Int32) + prI c0 c1) + prI c1 c2) + prI c2 c3) = ([c0, c1, c2, c3].length - prs [c0, c1, c2, c3]).toInt32 := by
  have d1 := own_disj c1
  have d2 := own_disj c2
  by_cases h0 : hiI c0 = 0 <;> by_cases l1 : loI c1 = 0 <;> by_cases h1 : hiI c1 = 0 <;> by_cases l2 : loI c2 = 0 <;> by_cases h2 : hiI c2 = 0 <;> by_cases l3 : loI c3 = 0 <;> first | (exfalso; simp [h1, l1] at d1; done) | (exfalso; simp [h2, l2] at d2; done) | (simp [prI, prs, h0, l1, h1, l2, h2, l3] <;> rfl)
set_option maxRecDepth 65536 in
set_option maxHeartbeats 40000000 in
theorem c_isHigh (l : Launch) (Z : State) (a0 : Array Value) (hw : ∀ d ∈ tables_1, d.before a0 Z = true) (hE : EW Z a0 ([] : List (String × Nat))) (xc : Int32) (h0 : Heap) (O : Ext Z.heap h0)  :
    Con l Z ([] : List (String × Nat)) (⟨"com/example/itihasa/itihasa/model/TextRequireLengthPinLaw", "isHigh", "(C)Z"⟩ : MethodName) method_3_code 1 (Option.some Jvm.ClassFile.FieldType.boolean) ({ frames := 0, cells := 0, slots := 0, locals := 0 } : Room) #[(.int xc)] h0 [] (pureQ (some (.int (hiI xc))) h0) := by
  refine Con.of (a0 := a0) #[.val (.int xc)] (plainFor_of_name pn_3) hE O all0 (fun m => by first | (simp [entryFrame, mkF, argsToLocals, Value.category]; done) | rfl) ?_
  intro p e s m below meth c T0 hx hby hml hnm hret hlk hh W0
  refine g_iloadN (pc' := 1) W0.here hx (hb hby d_method_3_0) rfl rfl ?_
  refine w_ldcI (pc' := 3) W0 hx (hw _ (List.mem_of_getElem? w_5)) (hb hby d_method_3_1) rfl ?_
  by_cases hc3_93 : xc < (55296 : Int32)
  · refine g_icmpY (pc' := 16) W0.here hx (hb hby d_method_3_3) rfl (tlt hc3_93).1 ?_
    refine g_iconst (0 : Int32) (pc' := 17) W0.here hx (hb hby d_method_3_16) rfl rfl ?_
    refine w_retN (t := .boolean) W0 hx hh hlk hret (by simp) (hb hby d_method_3_17) (Nat.le_of_ble_eq_true rfl) (Nat.le_of_ble_eq_true rfl) ?_
    refine ⟨congrArg (fun z => some (Value.int z)) ?_, rfl⟩
    simp only [Int32.lt_iff_toInt_lt, own_t55296, own_t56319, own_t56320, own_t57343, own_t57344, own_t0, own_t1] at hc3_93
    show _ = hiI xc
    simp only [hiI]
    rw [if_neg (by omega)]; rfl
  · refine g_icmpN (pc' := 6) W0.here hx (hb hby d_method_3_3) rfl (flt hc3_93).1 ?_
    refine g_iloadN (pc' := 7) W0.here hx (hb hby d_method_3_6) rfl rfl ?_
    refine w_ldcI (pc' := 9) W0 hx (hw _ (List.mem_of_getElem? w_132)) (hb hby d_method_3_7) rfl ?_
    by_cases hc9_94 : (56319 : Int32) < xc
    · refine g_icmpY (pc' := 16) W0.here hx (hb hby d_method_3_9) rfl (tlt hc9_94).2.2.1 ?_
      refine g_iconst (0 : Int32) (pc' := 17) W0.here hx (hb hby d_method_3_16) rfl rfl ?_
      refine w_retN (t := .boolean) W0 hx hh hlk hret (by simp) (hb hby d_method_3_17) (Nat.le_of_ble_eq_true rfl) (Nat.le_of_ble_eq_true rfl) ?_
      refine ⟨congrArg (fun z => some (Value.int z)) ?_, rfl⟩
      simp only [Int32.lt_iff_toInt_lt, own_t55296, own_t56319, own_t56320, own_t57343, own_t57344, own_t0, own_t1] at hc3_93 hc9_94
      show _ = hiI xc
      simp only [hiI]
      rw [if_neg (by omega)]; rfl
    · refine g_icmpN (pc' := 12) W0.here hx (hb hby d_method_3_9) rfl (flt hc9_94).2.2.1 ?_
      refine g_iconst (1 : Int32) (pc' := 13) W0.here hx (hb hby d_method_3_12) rfl rfl ?_
      refine g_goto (pc' := 17) W0.here hx (hb hby d_method_3_13) rfl ?_
      refine w_retN (t := .boolean) W0 hx hh hlk hret (by simp) (hb hby d_method_3_17) (Nat.le_of_ble_eq_true rfl) (Nat.le_of_ble_eq_true rfl) ?_
      refine ⟨congrArg (fun z => some (Value.int z)) ?_, rfl⟩
      simp only [Int32.lt_iff_toInt_lt, own_t55296, own_t56319, own_t56320, own_t57343, own_t57344, own_t0, own_t1] at hc3_93 hc9_94
      show _ = hiI xc
      simp only [hiI]
      rw [if_pos (by omega)]; rfl
set_option maxRecDepth 65536 in
set_option maxHeartbeats 40000000 in
theorem c_isLow (l : Launch) (Z : State) (a0 : Array Value) (hw : ∀ d ∈ tables_1, d.before a0 Z = true) (hE : EW Z a0 ([] : List (String × Nat))) (xc : Int32) (h0 : Heap) (O : Ext Z.heap h0)  :
    Con l Z ([] : List (String × Nat)) (⟨"com/example/itihasa/itihasa/model/TextRequireLengthPinLaw", "isLow", "(C)Z"⟩ : MethodName) method_4_code 1 (Option.some Jvm.ClassFile.FieldType.boolean) ({ frames := 0, cells := 0, slots := 0, locals := 0 } : Room) #[(.int xc)] h0 [] (pureQ (some (.int (loI xc))) h0) := by
  refine Con.of (a0 := a0) #[.val (.int xc)] (plainFor_of_name pn_3) hE O all0 (fun m => by first | (simp [entryFrame, mkF, argsToLocals, Value.category]; done) | rfl) ?_
  intro p e s m below meth c T0 hx hby hml hnm hret hlk hh W0
  refine g_iloadN (pc' := 1) W0.here hx (hb hby d_method_4_0) rfl rfl ?_
  refine w_ldcI (pc' := 3) W0 hx (hw _ (List.mem_of_getElem? w_137)) (hb hby d_method_4_1) rfl ?_
  by_cases hc3_95 : xc < (56320 : Int32)
  · refine g_icmpY (pc' := 16) W0.here hx (hb hby d_method_4_3) rfl (tlt hc3_95).1 ?_
    refine g_iconst (0 : Int32) (pc' := 17) W0.here hx (hb hby d_method_4_16) rfl rfl ?_
    refine w_retN (t := .boolean) W0 hx hh hlk hret (by simp) (hb hby d_method_4_17) (Nat.le_of_ble_eq_true rfl) (Nat.le_of_ble_eq_true rfl) ?_
    refine ⟨congrArg (fun z => some (Value.int z)) ?_, rfl⟩
    simp only [Int32.lt_iff_toInt_lt, own_t55296, own_t56319, own_t56320, own_t57343, own_t57344, own_t0, own_t1] at hc3_95
    show _ = loI xc
    simp only [loI]
    rw [if_neg (by omega)]; rfl
  · refine g_icmpN (pc' := 6) W0.here hx (hb hby d_method_4_3) rfl (flt hc3_95).1 ?_
    refine g_iloadN (pc' := 7) W0.here hx (hb hby d_method_4_6) rfl rfl ?_
    refine w_ldcI (pc' := 9) W0 hx (hw _ (List.mem_of_getElem? w_141)) (hb hby d_method_4_7) rfl ?_
    by_cases hc9_96 : (57343 : Int32) < xc
    · refine g_icmpY (pc' := 16) W0.here hx (hb hby d_method_4_9) rfl (tlt hc9_96).2.2.1 ?_
      refine g_iconst (0 : Int32) (pc' := 17) W0.here hx (hb hby d_method_4_16) rfl rfl ?_
      refine w_retN (t := .boolean) W0 hx hh hlk hret (by simp) (hb hby d_method_4_17) (Nat.le_of_ble_eq_true rfl) (Nat.le_of_ble_eq_true rfl) ?_
      refine ⟨congrArg (fun z => some (Value.int z)) ?_, rfl⟩
      simp only [Int32.lt_iff_toInt_lt, own_t55296, own_t56319, own_t56320, own_t57343, own_t57344, own_t0, own_t1] at hc3_95 hc9_96
      show _ = loI xc
      simp only [loI]
      rw [if_neg (by omega)]; rfl
    · refine g_icmpN (pc' := 12) W0.here hx (hb hby d_method_4_9) rfl (flt hc9_96).2.2.1 ?_
      refine g_iconst (1 : Int32) (pc' := 13) W0.here hx (hb hby d_method_4_12) rfl rfl ?_
      refine g_goto (pc' := 17) W0.here hx (hb hby d_method_4_13) rfl ?_
      refine w_retN (t := .boolean) W0 hx hh hlk hret (by simp) (hb hby d_method_4_17) (Nat.le_of_ble_eq_true rfl) (Nat.le_of_ble_eq_true rfl) ?_
      refine ⟨congrArg (fun z => some (Value.int z)) ?_, rfl⟩
      simp only [Int32.lt_iff_toInt_lt, own_t55296, own_t56319, own_t56320, own_t57343, own_t57344, own_t0, own_t1] at hc3_95 hc9_96
      show _ = loI xc
      simp only [loI]
      rw [if_pos (by omega)]; rfl
set_option maxRecDepth 65536 in
set_option maxHeartbeats 40000000 in
theorem c_chHigh (l : Launch) (Z : State) (a0 : Array Value) (hw : ∀ d ∈ tables_1, d.before a0 Z = true) (hE : EW Z a0 ([] : List (String × Nat))) (xc : Int32) (h0 : Heap) (O : Ext Z.heap h0)  :
    Con l Z ([] : List (String × Nat)) (⟨"java/lang/Character", "isHighSurrogate", "(C)Z"⟩ : MethodName) jdk_89_method_14_code 1 (Option.some Jvm.ClassFile.FieldType.boolean) ({ frames := 0, cells := 0, slots := 0, locals := 0 } : Room) #[(.int xc)] h0 [] (pureQ (some (.int (hiI xc))) h0) := by
  refine Con.of (a0 := a0) #[.val (.int xc)] (plainFor_of_name pn_4) hE O all0 (fun m => by first | (simp [entryFrame, mkF, argsToLocals, Value.category]; done) | rfl) ?_
  intro p e s m below meth c T0 hx hby hml hnm hret hlk hh W0
  refine g_iloadN (pc' := 1) W0.here hx (hb hby d_jdk_89_14_0) rfl rfl ?_
  refine w_ldcI (pc' := 3) W0 hx (hw _ (List.mem_of_getElem? w_131)) (hb hby d_jdk_89_14_1) rfl ?_
  by_cases hc3_97 : xc < (55296 : Int32)
  · refine g_icmpY (pc' := 16) W0.here hx (hb hby d_jdk_89_14_3) rfl (tlt hc3_97).1 ?_
    refine g_iconst (0 : Int32) (pc' := 17) W0.here hx (hb hby d_jdk_89_14_16) rfl rfl ?_
    refine w_retN (t := .boolean) W0 hx hh hlk hret (by simp) (hb hby d_jdk_89_14_17) (Nat.le_of_ble_eq_true rfl) (Nat.le_of_ble_eq_true rfl) ?_
    refine ⟨congrArg (fun z => some (Value.int z)) ?_, rfl⟩
    simp only [Int32.lt_iff_toInt_lt, own_t55296, own_t56319, own_t56320, own_t57343, own_t57344, own_t0, own_t1] at hc3_97
    show _ = hiI xc
    simp only [hiI]
    rw [if_neg (by omega)]; rfl
  · refine g_icmpN (pc' := 6) W0.here hx (hb hby d_jdk_89_14_3) rfl (flt hc3_97).1 ?_
    refine g_iloadN (pc' := 7) W0.here hx (hb hby d_jdk_89_14_6) rfl rfl ?_
    refine w_ldcI (pc' := 9) W0 hx (hw _ (List.mem_of_getElem? w_133)) (hb hby d_jdk_89_14_7) rfl ?_
    by_cases hc9_98 : xc < (56320 : Int32)
    · refine g_icmpN (pc' := 12) W0.here hx (hb hby d_jdk_89_14_9) rfl (tlt hc9_98).2.1 ?_
      refine g_iconst (1 : Int32) (pc' := 13) W0.here hx (hb hby d_jdk_89_14_12) rfl rfl ?_
      refine g_goto (pc' := 17) W0.here hx (hb hby d_jdk_89_14_13) rfl ?_
      refine w_retN (t := .boolean) W0 hx hh hlk hret (by simp) (hb hby d_jdk_89_14_17) (Nat.le_of_ble_eq_true rfl) (Nat.le_of_ble_eq_true rfl) ?_
      refine ⟨congrArg (fun z => some (Value.int z)) ?_, rfl⟩
      simp only [Int32.lt_iff_toInt_lt, own_t55296, own_t56319, own_t56320, own_t57343, own_t57344, own_t0, own_t1] at hc3_97 hc9_98
      show _ = hiI xc
      simp only [hiI]
      rw [if_pos (by omega)]; rfl
    · refine g_icmpY (pc' := 16) W0.here hx (hb hby d_jdk_89_14_9) rfl (flt hc9_98).2.1 ?_
      refine g_iconst (0 : Int32) (pc' := 17) W0.here hx (hb hby d_jdk_89_14_16) rfl rfl ?_
      refine w_retN (t := .boolean) W0 hx hh hlk hret (by simp) (hb hby d_jdk_89_14_17) (Nat.le_of_ble_eq_true rfl) (Nat.le_of_ble_eq_true rfl) ?_
      refine ⟨congrArg (fun z => some (Value.int z)) ?_, rfl⟩
      simp only [Int32.lt_iff_toInt_lt, own_t55296, own_t56319, own_t56320, own_t57343, own_t57344, own_t0, own_t1] at hc3_97 hc9_98
      show _ = hiI xc
      simp only [hiI]
      rw [if_neg (by omega)]; rfl
set_option maxRecDepth 65536 in
set_option maxHeartbeats 40000000 in
theorem c_chLow (l : Launch) (Z : State) (a0 : Array Value) (hw : ∀ d ∈ tables_1, d.before a0 Z = true) (hE : EW Z a0 ([] : List (String × Nat))) (xc : Int32) (h0 : Heap) (O : Ext Z.heap h0)  :
    Con l Z ([] : List (String × Nat)) (⟨"java/lang/Character", "isLowSurrogate", "(C)Z"⟩ : MethodName) jdk_89_method_15_code 1 (Option.some Jvm.ClassFile.FieldType.boolean) ({ frames := 0, cells := 0, slots := 0, locals := 0 } : Room) #[(.int xc)] h0 [] (pureQ (some (.int (loI xc))) h0) := by
  refine Con.of (a0 := a0) #[.val (.int xc)] (plainFor_of_name pn_4) hE O all0 (fun m => by first | (simp [entryFrame, mkF, argsToLocals, Value.category]; done) | rfl) ?_
  intro p e s m below meth c T0 hx hby hml hnm hret hlk hh W0
  refine g_iloadN (pc' := 1) W0.here hx (hb hby d_jdk_89_15_0) rfl rfl ?_
  refine w_ldcI (pc' := 3) W0 hx (hw _ (List.mem_of_getElem? w_133)) (hb hby d_jdk_89_15_1) rfl ?_
  by_cases hc3_99 : xc < (56320 : Int32)
  · refine g_icmpY (pc' := 16) W0.here hx (hb hby d_jdk_89_15_3) rfl (tlt hc3_99).1 ?_
    refine g_iconst (0 : Int32) (pc' := 17) W0.here hx (hb hby d_jdk_89_15_16) rfl rfl ?_
    refine w_retN (t := .boolean) W0 hx hh hlk hret (by simp) (hb hby d_jdk_89_15_17) (Nat.le_of_ble_eq_true rfl) (Nat.le_of_ble_eq_true rfl) ?_
    refine ⟨congrArg (fun z => some (Value.int z)) ?_, rfl⟩
    simp only [Int32.lt_iff_toInt_lt, own_t55296, own_t56319, own_t56320, own_t57343, own_t57344, own_t0, own_t1] at hc3_99
    show _ = loI xc
    simp only [loI]
    rw [if_neg (by omega)]; rfl
  · refine g_icmpN (pc' := 6) W0.here hx (hb hby d_jdk_89_15_3) rfl (flt hc3_99).1 ?_
    refine g_iloadN (pc' := 7) W0.here hx (hb hby d_jdk_89_15_6) rfl rfl ?_
    refine w_ldcI (pc' := 9) W0 hx (hw _ (List.mem_of_getElem? w_142)) (hb hby d_jdk_89_15_7) rfl ?_
    by_cases hc9_100 : xc < (57344 : Int32)
    · refine g_icmpN (pc' := 12) W0.here hx (hb hby d_jdk_89_15_9) rfl (tlt hc9_100).2.1 ?_
      refine g_iconst (1 : Int32) (pc' := 13) W0.here hx (hb hby d_jdk_89_15_12) rfl rfl ?_
      refine g_goto (pc' := 17) W0.here hx (hb hby d_jdk_89_15_13) rfl ?_
      refine w_retN (t := .boolean) W0 hx hh hlk hret (by simp) (hb hby d_jdk_89_15_17) (Nat.le_of_ble_eq_true rfl) (Nat.le_of_ble_eq_true rfl) ?_
      refine ⟨congrArg (fun z => some (Value.int z)) ?_, rfl⟩
      simp only [Int32.lt_iff_toInt_lt, own_t55296, own_t56319, own_t56320, own_t57343, own_t57344, own_t0, own_t1] at hc3_99 hc9_100
      show _ = loI xc
      simp only [loI]
      rw [if_pos (by omega)]; rfl
    · refine g_icmpY (pc' := 16) W0.here hx (hb hby d_jdk_89_15_9) rfl (flt hc9_100).2.1 ?_
      refine g_iconst (0 : Int32) (pc' := 17) W0.here hx (hb hby d_jdk_89_15_16) rfl rfl ?_
      refine w_retN (t := .boolean) W0 hx hh hlk hret (by simp) (hb hby d_jdk_89_15_17) (Nat.le_of_ble_eq_true rfl) (Nat.le_of_ble_eq_true rfl) ?_
      refine ⟨congrArg (fun z => some (Value.int z)) ?_, rfl⟩
      simp only [Int32.lt_iff_toInt_lt, own_t55296, own_t56319, own_t56320, own_t57343, own_t57344, own_t0, own_t1] at hc3_99 hc9_100
      show _ = loI xc
      simp only [loI]
      rw [if_neg (by omega)]; rfl
set_option maxRecDepth 65536 in
set_option maxHeartbeats 40000000 in
theorem c_pair (l : Launch) (Z : State) (a0 : Array Value) (hw : ∀ d ∈ tables_1, d.before a0 Z = true) (hE : EW Z a0 ([] : List (String × Nat))) (xa xb : Int32) (h0 : Heap) (O : Ext Z.heap h0)  :
    Con l Z ([] : List (String × Nat)) (⟨"com/example/itihasa/itihasa/model/TextRequireLengthPinLaw", "pair", "(CC)I"⟩ : MethodName) method_5_code 2 (Option.some Jvm.ClassFile.FieldType.int) ({ frames := 1, cells := 0, slots := 0, locals := 12 } : Room) #[(.int xa), (.int xb)] h0 [] (pureQ (some (.int (prI xa xb))) h0) := by
  refine Con.of (a0 := a0) #[.val (.int xa), .val (.int xb)] (plainFor_of_name pn_3) hE O all0 (fun m => by first | (simp [entryFrame, mkF, argsToLocals, Value.category]; done) | rfl) ?_
  intro p e s m below meth c T0 hx hby hml hnm hret hlk hh W0
  refine g_iloadN (pc' := 1) W0.here hx (hb hby d_method_5_0) rfl rfl ?_
  refine w_callSp (pc' := 4) (st := []) (y := (⟨"com/example/itihasa/itihasa/model/TextRequireLengthPinLaw", "isHigh", "(C)Z"⟩ : MethodName)) W0 hx [(.int xa)] (hw _ (List.mem_of_getElem? w_9)) (hw _ (List.mem_of_getElem? w_10)) (hw _ (List.mem_of_getElem? w_2)) (hw _ (List.mem_of_getElem? w_11)) (by decide) (c_isHigh l Z a0 hw hE xa h0 W0.old) (by rw [hml]; rfl) (lenOf pd_9 rfl) rfl (hb hby d_method_5_1) (Nat.le_of_ble_eq_true rfl) (Nat.le_of_ble_eq_true rfl) rfl rfl (Nat.le_of_ble_eq_true rfl) (Nat.le_of_ble_eq_true rfl) rfl fun T101 W101 => ?_
  by_cases hc4_102 : (hiI xa) = (0 : Int32)
  · refine g_ifY (pc' := 16) W101.here hx (hb hby d_method_5_4) rfl (teq hc4_102).1 ?_
    refine g_iconst (0 : Int32) (pc' := 17) W101.here hx (hb hby d_method_5_16) rfl rfl ?_
    refine w_retI W101 hx hh hlk hret (hb hby d_method_5_17) (Nat.le_of_ble_eq_true rfl) (Nat.le_of_ble_eq_true rfl) ?_
    exact ⟨congrArg (fun z => some (Value.int z)) (by show _ = prI xa xb; unfold prI; rw [if_pos hc4_102]), rfl⟩
  · refine g_ifN (pc' := 7) W101.here hx (hb hby d_method_5_4) rfl (feq hc4_102).1 ?_
    refine g_iloadN (pc' := 8) W101.here hx (hb hby d_method_5_7) rfl rfl ?_
    refine w_callSp (pc' := 11) (st := []) (y := (⟨"com/example/itihasa/itihasa/model/TextRequireLengthPinLaw", "isLow", "(C)Z"⟩ : MethodName)) W101 hx [(.int xb)] (hw _ (List.mem_of_getElem? w_134)) (hw _ (List.mem_of_getElem? w_135)) (hw _ (List.mem_of_getElem? w_2)) (hw _ (List.mem_of_getElem? w_136)) (by decide) (c_isLow l Z a0 hw hE xb h0 W101.old) (by rw [hml]; rfl) (lenOf pd_9 rfl) rfl (hb hby d_method_5_8) (Nat.le_of_ble_eq_true rfl) (Nat.le_of_ble_eq_true rfl) rfl rfl (Nat.le_of_ble_eq_true rfl) (Nat.le_of_ble_eq_true rfl) rfl fun T103 W103 => ?_
    by_cases hc11_104 : (loI xb) = (0 : Int32)
    · refine g_ifY (pc' := 16) W103.here hx (hb hby d_method_5_11) rfl (teq hc11_104).1 ?_
      refine g_iconst (0 : Int32) (pc' := 17) W103.here hx (hb hby d_method_5_16) rfl rfl ?_
      refine w_retI W103 hx hh hlk hret (hb hby d_method_5_17) (Nat.le_of_ble_eq_true rfl) (Nat.le_of_ble_eq_true rfl) ?_
      exact ⟨congrArg (fun z => some (Value.int z)) (by show _ = prI xa xb; unfold prI; rw [if_neg hc4_102, if_pos hc11_104]), rfl⟩
    · refine g_ifN (pc' := 14) W103.here hx (hb hby d_method_5_11) rfl (feq hc11_104).1 ?_
      refine g_iconst (1 : Int32) (pc' := 15) W103.here hx (hb hby d_method_5_14) rfl rfl ?_
      refine w_retI W103 hx hh hlk hret (hb hby d_method_5_15) (Nat.le_of_ble_eq_true rfl) (Nat.le_of_ble_eq_true rfl) ?_
      exact ⟨congrArg (fun z => some (Value.int z)) (by show _ = prI xa xb; unfold prI; rw [if_neg hc4_102, if_neg hc11_104]), rfl⟩
theorem own_narc (z : Int32) : 0 ≤ (nar .char z).toInt ∧ (nar .char z).toInt < 65536 := by
  have := c_i2c z
  have e : nar .char z = z.toUInt32.toUInt16.toUInt32.toInt32 := rfl
  rw [e]; omega
set_option maxRecDepth 65536 in
set_option maxHeartbeats 40000000 in
theorem c_draw (l : Launch) (Z : State) (a0 : Array Value) (hw : ∀ d ∈ tables_1, d.before a0 Z = true) (hE : EW Z a0 ([] : List (String × Nat))) (xa : Int64) (xb xi : Int32) (h0 : Heap) (O : Ext Z.heap h0)  :
    Con l Z ([] : List (String × Nat)) (⟨"com/example/itihasa/itihasa/model/TextRequireLengthPinLaw", "draw", "(JII)C"⟩ : MethodName) method_2_code 5 (Option.some Jvm.ClassFile.FieldType.char) ({ frames := 0, cells := 0, slots := 0, locals := 0 } : Room) #[(.long xa), (.int xb), (.int xi)] h0 [] (fun v h => ∃ c : Int32, v = some (.int c) ∧ 0 ≤ c.toInt ∧ c.toInt < 65536) := by
  refine Con.of (a0 := a0) #[.val (.long xa), .second, .val (.int xb), .val (.int xi), .unset] (plainFor_of_name pn_3) hE O all0 (fun m => by first | (simp [entryFrame, mkF, argsToLocals, Value.category]; done) | rfl) ?_
  intro p e s m below meth c T0 hx hby hml hnm hret hlk hh W0
  refine g_lloadN (pc' := 1) W0.here hx (hb hby d_method_2_0) rfl rfl ?_
  refine g_bipush (16 : Int32) (pc' := 3) W0.here hx (hb hby d_method_2_1) rfl rfl ?_
  refine g_iloadN (pc' := 4) W0.here hx (hb hby d_method_2_3) rfl rfl ?_
  refine g_imul (pc' := 5) W0.here hx (hb hby d_method_2_4) rfl ?_
  refine g_lushr (pc' := 6) W0.here hx (hb hby d_method_2_5) rfl ?_
  refine w_ldc2J (pc' := 9) W0 hx (hw _ (List.mem_of_getElem? w_4)) (hb hby d_method_2_6) rfl ?_
  refine g_land (pc' := 10) W0.here hx (hb hby d_method_2_9) rfl ?_
  refine g_l2i (pc' := 11) W0.here hx (hb hby d_method_2_10) rfl ?_
  refine g_istore (pc' := 13) (Ls' := #[.val (.long xa), .second, .val (.int xb), .val (.int xi), .val (.int ((((xa.toUInt64 >>> (((16 : Int32) * xi) &&& 0x3f).toInt64.toUInt64).toInt64) &&& (65535 : Int64)).toInt32))]) W0.here hx (hb hby d_method_2_11) rfl rfl ?_
  refine g_iloadN (pc' := 14) W0.here hx (hb hby d_method_2_13) rfl rfl ?_
  refine g_iloadN (pc' := 15) W0.here hx (hb hby d_method_2_14) rfl rfl ?_
  refine g_iushr (pc' := 16) W0.here hx (hb hby d_method_2_15) rfl ?_
  refine g_iconst (1 : Int32) (pc' := 17) W0.here hx (hb hby d_method_2_16) rfl rfl ?_
  refine g_iand (pc' := 18) W0.here hx (hb hby d_method_2_17) rfl ?_
  by_cases hc18_105 : (((xb.toUInt32 >>> (xi &&& 31).toUInt32).toInt32) &&& (1 : Int32)) = (0 : Int32)
  · refine g_ifY (pc' := 32) W0.here hx (hb hby d_method_2_18) rfl (teq hc18_105).1 ?_
    refine g_iload (pc' := 34) W0.here hx (hb hby d_method_2_32) rfl rfl ?_
    refine g_i2c (pc' := 35) W0.here hx (hb hby d_method_2_34) rfl ?_
    refine w_retN (t := .char) W0 hx hh hlk hret (by simp) (hb hby d_method_2_35) (Nat.le_of_ble_eq_true rfl) (Nat.le_of_ble_eq_true rfl) ?_
    exact ⟨_, rfl, own_narc _⟩
  · refine g_ifN (pc' := 21) W0.here hx (hb hby d_method_2_18) rfl (feq hc18_105).1 ?_
    refine w_ldcI (pc' := 23) W0 hx (hw _ (List.mem_of_getElem? w_5)) (hb hby d_method_2_21) rfl ?_
    refine g_iload (pc' := 25) W0.here hx (hb hby d_method_2_23) rfl rfl ?_
    refine g_sipush (2047 : Int32) (pc' := 28) W0.here hx (hb hby d_method_2_25) rfl rfl ?_
    refine g_iand (pc' := 29) W0.here hx (hb hby d_method_2_28) rfl ?_
    refine g_ior (pc' := 30) W0.here hx (hb hby d_method_2_29) rfl ?_
    refine g_istore (pc' := 32) (Ls' := #[.val (.long xa), .second, .val (.int xb), .val (.int xi), .val (.int ((55296 : Int32) ||| (((((xa.toUInt64 >>> (((16 : Int32) * xi) &&& 0x3f).toInt64.toUInt64).toInt64) &&& (65535 : Int64)).toInt32) &&& (2047 : Int32))))]) W0.here hx (hb hby d_method_2_30) rfl rfl ?_
    refine g_iload (pc' := 34) W0.here hx (hb hby d_method_2_32) rfl rfl ?_
    refine g_i2c (pc' := 35) W0.here hx (hb hby d_method_2_34) rfl ?_
    refine w_retN (t := .char) W0 hx hh hlk hret (by simp) (hb hby d_method_2_35) (Nat.le_of_ble_eq_true rfl) (Nat.le_of_ble_eq_true rfl) ?_
    exact ⟨_, rfl, own_narc _⟩
set_option maxRecDepth 65536 in
set_option maxHeartbeats 40000000 in
theorem c_max (l : Launch) (Z : State) (a0 : Array Value) (hw : ∀ d ∈ tables_1, d.before a0 Z = true) (hE : EW Z a0 ([] : List (String × Nat))) (ya yb : Int32) (h0 : Heap) (O : Ext Z.heap h0)  :
    Con l Z ([] : List (String × Nat)) (⟨"java/lang/Math", "max", "(II)I"⟩ : MethodName) jdk_29_method_65_code 2 (Option.some Jvm.ClassFile.FieldType.int) ({ frames := 0, cells := 0, slots := 0, locals := 0 } : Room) #[(.int ya), (.int yb)] h0 [] (pureQ (some (.int (if ya < yb then yb else ya))) h0) := by
  refine Con.of (a0 := a0) #[.val (.int ya), .val (.int yb)] (Jvm.Free.JP.mathPlain rfl (by decide +kernel)) hE O all0 (fun m => by first | (simp [entryFrame, mkF, argsToLocals, Value.category]; done) | rfl) ?_
  intro p e s m below meth c T0 hx hby hml hnm hret hlk hh W0
  refine g_iloadN (pc' := 1) W0.here hx (hb hby d_jdk_29_65_0) rfl rfl ?_
  refine g_iloadN (pc' := 2) W0.here hx (hb hby d_jdk_29_65_1) rfl rfl ?_
  by_cases hc2_106 : ya < yb
  · refine g_icmpY (pc' := 9) W0.here hx (hb hby d_jdk_29_65_2) rfl (tlt hc2_106).1 ?_
    refine g_iloadN (pc' := 10) W0.here hx (hb hby d_jdk_29_65_9) rfl rfl ?_
    refine w_retI W0 hx hh hlk hret (hb hby d_jdk_29_65_10) (Nat.le_of_ble_eq_true rfl) (Nat.le_of_ble_eq_true rfl) ?_
    exact ⟨by rw [if_pos hc2_106], rfl⟩
  · refine g_icmpN (pc' := 5) W0.here hx (hb hby d_jdk_29_65_2) rfl (flt hc2_106).1 ?_
    refine g_iloadN (pc' := 6) W0.here hx (hb hby d_jdk_29_65_5) rfl rfl ?_
    refine g_goto (pc' := 10) W0.here hx (hb hby d_jdk_29_65_6) rfl ?_
    refine w_retI W0 hx hh hlk hret (hb hby d_jdk_29_65_10) (Nat.le_of_ble_eq_true rfl) (Nat.le_of_ble_eq_true rfl) ?_
    exact ⟨by rw [if_neg hc2_106], rfl⟩
set_option maxRecDepth 65536 in
set_option maxHeartbeats 40000000 in
theorem c_build1 (l : Launch) (Z : State) (a0 : Array Value) (hw : ∀ d ∈ tables_1, d.before a0 Z = true) (hE : EW Z a0 ([] : List (String × Nat))) (cc : Int32) (fm : Value) (c0 c1 c2 c3 : Int32) (h0 : Heap) (O : Ext Z.heap h0) (G : SEnv Z cc fm) (GU : SEnvU Z) (r_c0 : 0 ≤ c0.toInt ∧ c0.toInt < 65536) (r_c1 : 0 ≤ c1.toInt ∧ c1.toInt < 65536) (r_c2 : 0 ≤ c2.toInt ∧ c2.toInt < 65536) (r_c3 : 0 ≤ c3.toInt ∧ c3.toInt < 65536)  :
    Con l Z ([] : List (String × Nat)) (⟨"com/example/itihasa/itihasa/model/TextRequireLengthPinLaw", "build", "(ICCCC)Ljava/lang/String;"⟩ : MethodName) method_6_code 5 (Option.some (Jvm.ClassFile.FieldType.object "java/lang/String")) ({ frames := 6, cells := 4, slots := 17, locals := 88 } : Room) #[(.int (1 : Int32)), (.int c0), (.int c1), (.int c2), (.int c3)] h0 [] (fun v h => ∃ a b : Nat, v = some (.ref a) ∧ SG Z h a b [c0]) := by
  refine Con.of (a0 := a0) #[.val (.int (1 : Int32)), .val (.int c0), .val (.int c1), .val (.int c2), .val (.int c3)] (plainFor_of_name pn_3) hE O all0 (fun m => by first | (simp [entryFrame, mkF, argsToLocals, Value.category]; done) | rfl) ?_
  intro p e s m below meth c T0 hx hby hml hnm hret hlk hh W0
  refine g_iloadN (pc' := 1) W0.here hx (hb hby d_method_6_0) rfl rfl ?_
  refine g_iconst (1 : Int32) (pc' := 2) W0.here hx (hb hby d_method_6_1) rfl rfl ?_
  refine g_icmpN (pc' := 5) W0.here hx (hb hby d_method_6_2) rfl (teq (show (1 : Int32) = (1 : Int32) from (by decide))).2 ?_
  refine w_new (pc' := 8) W0 hx (hw _ (List.mem_of_getElem? w_20)) (hw _ (List.mem_of_getElem? w_21)) (hw _ (List.mem_of_getElem? w_22)) (hb hby d_method_6_5) (Nat.le_of_ble_eq_true rfl) (Nat.le_of_ble_eq_true rfl) rfl fun T107 h107 b107 g107 W107 K107 A107 D107 => ?_
  have z_K107 : h0.size ≤ h107.size := K107.1
  have lt_b107 : b107 < h107.size := W107.lt (List.mem_cons_self ..)
  have F107_coder : Fld Z h107 b107 "java/lang/String" "coder" "B" (.int (0 : Int32)) := D107 (Or.inr (hw _ (List.mem_of_getElem? w_66))) (ty := .byte) (by decide)
  have F107_value : Fld Z h107 b107 "java/lang/String" "value" "[B" .null := D107 (Or.inr (hw _ (List.mem_of_getElem? w_68))) (ty := (.array .byte)) (by decide)
  refine g_dup (pc' := 9) W107.here hx (hb hby d_method_6_8) rfl rfl ?_
  refine g_iconst (1 : Int32) (pc' := 10) W107.here hx (hb hby d_method_6_9) rfl rfl ?_
  refine w_newarr (pc' := 12) (cap := 1) W107 hx (hw _ (List.mem_of_getElem? w_23)) (hb hby d_method_6_10) (by decide) (Nat.le_refl _) (Nat.le_of_ble_eq_true rfl) (Nat.le_of_ble_eq_true rfl) (Nat.le_of_ble_eq_true rfl) rfl rfl fun T108 h108 b108 g108 W108 K108 V108 => ?_
  have z_K108 : h107.size ≤ h108.size := K108.1
  have ne_b107_b108 : b107 ≠ b108 := by omega
  have lt_b108 : b108 < h108.size := W108.lt (List.mem_cons_self ..)
  have V108 : Ary Z h108 b108 .char [(.int (0 : Int32))] := V108
  refine g_dup (pc' := 13) W108.here hx (hb hby d_method_6_12) rfl rfl ?_
  refine g_iconst (0 : Int32) (pc' := 14) W108.here hx (hb hby d_method_6_13) rfl rfl ?_
  refine g_iloadN (pc' := 15) W108.here hx (hb hby d_method_6_14) rfl rfl ?_
  refine w_castore (pc' := 16) (x' := c0) W108 hx V108 (by decide) (Nat.lt_of_lt_of_le (Nat.lt_succ_self _) (Nat.le_of_ble_eq_true rfl)) (List.mem_of_getElem? (i := 0) rfl) (own_nchar r_c0) (hb hby d_method_6_15) rfl fun T109 h109 W109 K109 V109 => ?_
  have z_K109 : h108.size ≤ h109.size := K109.1
  have V109 : Ary Z h109 b108 .char [(.int c0)] := V109
  have c110 := ((A107.keep K108).keep K109)
  have c111 := ((F107_coder.keep K108 nin0).keep K109 (ninS ne_b107_b108 nin0))
  have c112 := ((F107_value.keep K108 nin0).keep K109 (ninS ne_b107_b108 nin0))
  refine w_special (pc' := 19) (st := [(.ref b107)]) (y := (⟨"java/lang/String", "<init>", "([C)V"⟩ : MethodName)) (a := b107) W109 hx [(.ref b108)] rfl (hw _ (List.mem_of_getElem? w_24)) (hw _ (List.mem_of_getElem? w_25)) (hw _ (List.mem_of_getElem? w_22)) (hw _ (List.mem_of_getElem? w_26)) (by decide) (c_strC l Z a0 hw hE cc fm b107 b108 [c0] h109 W109.old G GU (Nat.succ_pos _) (Nat.le_of_ble_eq_true rfl) (own_allS r_c0 own_all0) V109 (by have := O.1; omega) c110 _ _ c111 c112 ne_b107_b108) (allS (List.mem_of_getElem? (i := 1) rfl) all0) (by rw [hml]; rfl) (lenOf pd_12 rfl) rfl (hb hby d_method_6_16) (Nat.le_of_ble_eq_true rfl) (Nat.le_of_ble_eq_true rfl) (Nat.le_of_ble_eq_true rfl) (Nat.le_of_ble_eq_true rfl) rfl fun v113 T113 h113 W113 K113 Q113 => ?_
  have z_K113 : h109.size ≤ h113.size := K113.1
  obtain ⟨rfl, sb114, S114⟩ := Q113
  have ES114 := S114.exa
  have lt_sb114 : sb114 < h113.size := S114.ltb
  refine w_retA W113 hx hh hlk hret rfl rfl (hb hby d_method_6_19) (Nat.le_of_ble_eq_true rfl) (Nat.le_of_ble_eq_true rfl) ?_
  exact ⟨_, _, rfl, S114⟩
set_option maxRecDepth 65536 in
set_option maxHeartbeats 40000000 in
theorem c_build2 (l : Launch) (Z : State) (a0 : Array Value) (hw : ∀ d ∈ tables_1, d.before a0 Z = true) (hE : EW Z a0 ([] : List (String × Nat))) (cc : Int32) (fm : Value) (c0 c1 c2 c3 : Int32) (h0 : Heap) (O : Ext Z.heap h0) (G : SEnv Z cc fm) (GU : SEnvU Z) (r_c0 : 0 ≤ c0.toInt ∧ c0.toInt < 65536) (r_c1 : 0 ≤ c1.toInt ∧ c1.toInt < 65536) (r_c2 : 0 ≤ c2.toInt ∧ c2.toInt < 65536) (r_c3 : 0 ≤ c3.toInt ∧ c3.toInt < 65536)  :
    Con l Z ([] : List (String × Nat)) (⟨"com/example/itihasa/itihasa/model/TextRequireLengthPinLaw", "build", "(ICCCC)Ljava/lang/String;"⟩ : MethodName) method_6_code 5 (Option.some (Jvm.ClassFile.FieldType.object "java/lang/String")) ({ frames := 6, cells := 4, slots := 18, locals := 88 } : Room) #[(.int (2 : Int32)), (.int c0), (.int c1), (.int c2), (.int c3)] h0 [] (fun v h => ∃ a b : Nat, v = some (.ref a) ∧ SG Z h a b [c0, c1]) := by
  refine Con.of (a0 := a0) #[.val (.int (2 : Int32)), .val (.int c0), .val (.int c1), .val (.int c2), .val (.int c3)] (plainFor_of_name pn_3) hE O all0 (fun m => by first | (simp [entryFrame, mkF, argsToLocals, Value.category]; done) | rfl) ?_
  intro p e s m below meth c T0 hx hby hml hnm hret hlk hh W0
  refine g_iloadN (pc' := 1) W0.here hx (hb hby d_method_6_0) rfl rfl ?_
  refine g_iconst (1 : Int32) (pc' := 2) W0.here hx (hb hby d_method_6_1) rfl rfl ?_
  refine g_icmpY (pc' := 20) W0.here hx (hb hby d_method_6_2) rfl (feq (show ¬ ((2 : Int32) = (1 : Int32)) from (by decide))).2 ?_
  refine g_iloadN (pc' := 21) W0.here hx (hb hby d_method_6_20) rfl rfl ?_
  refine g_iconst (2 : Int32) (pc' := 22) W0.here hx (hb hby d_method_6_21) rfl rfl ?_
  refine g_icmpN (pc' := 25) W0.here hx (hb hby d_method_6_22) rfl (teq (show (2 : Int32) = (2 : Int32) from (by decide))).2 ?_
  refine w_new (pc' := 28) W0 hx (hw _ (List.mem_of_getElem? w_20)) (hw _ (List.mem_of_getElem? w_21)) (hw _ (List.mem_of_getElem? w_22)) (hb hby d_method_6_25) (Nat.le_of_ble_eq_true rfl) (Nat.le_of_ble_eq_true rfl) rfl fun T115 h115 b115 g115 W115 K115 A115 D115 => ?_
  have z_K115 : h0.size ≤ h115.size := K115.1
  have lt_b115 : b115 < h115.size := W115.lt (List.mem_cons_self ..)
  have F115_coder : Fld Z h115 b115 "java/lang/String" "coder" "B" (.int (0 : Int32)) := D115 (Or.inr (hw _ (List.mem_of_getElem? w_66))) (ty := .byte) (by decide)
  have F115_value : Fld Z h115 b115 "java/lang/String" "value" "[B" .null := D115 (Or.inr (hw _ (List.mem_of_getElem? w_68))) (ty := (.array .byte)) (by decide)
  refine g_dup (pc' := 29) W115.here hx (hb hby d_method_6_28) rfl rfl ?_
  refine g_iconst (2 : Int32) (pc' := 30) W115.here hx (hb hby d_method_6_29) rfl rfl ?_
  refine w_newarr (pc' := 32) (cap := 2) W115 hx (hw _ (List.mem_of_getElem? w_23)) (hb hby d_method_6_30) (by decide) (Nat.le_refl _) (Nat.le_of_ble_eq_true rfl) (Nat.le_of_ble_eq_true rfl) (Nat.le_of_ble_eq_true rfl) rfl rfl fun T116 h116 b116 g116 W116 K116 V116 => ?_
  have z_K116 : h115.size ≤ h116.size := K116.1
  have ne_b115_b116 : b115 ≠ b116 := by omega
  have lt_b116 : b116 < h116.size := W116.lt (List.mem_cons_self ..)
  have V116 : Ary Z h116 b116 .char [(.int (0 : Int32)), (.int (0 : Int32))] := V116
  refine g_dup (pc' := 33) W116.here hx (hb hby d_method_6_32) rfl rfl ?_
  refine g_iconst (0 : Int32) (pc' := 34) W116.here hx (hb hby d_method_6_33) rfl rfl ?_
  refine g_iloadN (pc' := 35) W116.here hx (hb hby d_method_6_34) rfl rfl ?_
  refine w_castore (pc' := 36) (x' := c0) W116 hx V116 (by decide) (Nat.lt_of_lt_of_le (Nat.lt_succ_self _) (Nat.le_of_ble_eq_true rfl)) (List.mem_of_getElem? (i := 0) rfl) (own_nchar r_c0) (hb hby d_method_6_35) rfl fun T117 h117 W117 K117 V117 => ?_
  have z_K117 : h116.size ≤ h117.size := K117.1
  have V117 : Ary Z h117 b116 .char [(.int c0), (.int (0 : Int32))] := V117
  refine g_dup (pc' := 37) W117.here hx (hb hby d_method_6_36) rfl rfl ?_
  refine g_iconst (1 : Int32) (pc' := 38) W117.here hx (hb hby d_method_6_37) rfl rfl ?_
  refine g_iloadN (pc' := 39) W117.here hx (hb hby d_method_6_38) rfl rfl ?_
  refine w_castore (pc' := 40) (x' := c1) W117 hx V117 (by decide) (Nat.lt_of_lt_of_le (Nat.lt_succ_self _) (Nat.le_of_ble_eq_true rfl)) (List.mem_of_getElem? (i := 0) rfl) (own_nchar r_c1) (hb hby d_method_6_39) rfl fun T118 h118 W118 K118 V118 => ?_
  have z_K118 : h117.size ≤ h118.size := K118.1
  have V118 : Ary Z h118 b116 .char [(.int c0), (.int c1)] := V118
  have c119 := (((A115.keep K116).keep K117).keep K118)
  have c120 := (((F115_coder.keep K116 nin0).keep K117 (ninS ne_b115_b116 nin0)).keep K118 (ninS ne_b115_b116 nin0))
  have c121 := (((F115_value.keep K116 nin0).keep K117 (ninS ne_b115_b116 nin0)).keep K118 (ninS ne_b115_b116 nin0))
  refine w_special (pc' := 43) (st := [(.ref b115)]) (y := (⟨"java/lang/String", "<init>", "([C)V"⟩ : MethodName)) (a := b115) W118 hx [(.ref b116)] rfl (hw _ (List.mem_of_getElem? w_24)) (hw _ (List.mem_of_getElem? w_25)) (hw _ (List.mem_of_getElem? w_22)) (hw _ (List.mem_of_getElem? w_26)) (by decide) (c_strC l Z a0 hw hE cc fm b115 b116 [c0, c1] h118 W118.old G GU (Nat.succ_pos _) (Nat.le_of_ble_eq_true rfl) (own_allS r_c0 (own_allS r_c1 own_all0)) V118 (by have := O.1; omega) c119 _ _ c120 c121 ne_b115_b116) (allS (List.mem_of_getElem? (i := 1) rfl) all0) (by rw [hml]; rfl) (lenOf pd_12 rfl) rfl (hb hby d_method_6_40) (Nat.le_of_ble_eq_true rfl) (Nat.le_of_ble_eq_true rfl) (Nat.le_of_ble_eq_true rfl) (Nat.le_of_ble_eq_true rfl) rfl fun v122 T122 h122 W122 K122 Q122 => ?_
  have z_K122 : h118.size ≤ h122.size := K122.1
  obtain ⟨rfl, sb123, S123⟩ := Q122
  have ES123 := S123.exa
  have lt_sb123 : sb123 < h122.size := S123.ltb
  refine w_retA W122 hx hh hlk hret rfl rfl (hb hby d_method_6_43) (Nat.le_of_ble_eq_true rfl) (Nat.le_of_ble_eq_true rfl) ?_
  exact ⟨_, _, rfl, S123⟩
set_option maxRecDepth 65536 in
set_option maxHeartbeats 40000000 in
theorem c_build3 (l : Launch) (Z : State) (a0 : Array Value) (hw : ∀ d ∈ tables_1, d.before a0 Z = true) (hE : EW Z a0 ([] : List (String × Nat))) (cc : Int32) (fm : Value) (c0 c1 c2 c3 : Int32) (h0 : Heap) (O : Ext Z.heap h0) (G : SEnv Z cc fm) (GU : SEnvU Z) (r_c0 : 0 ≤ c0.toInt ∧ c0.toInt < 65536) (r_c1 : 0 ≤ c1.toInt ∧ c1.toInt < 65536) (r_c2 : 0 ≤ c2.toInt ∧ c2.toInt < 65536) (r_c3 : 0 ≤ c3.toInt ∧ c3.toInt < 65536)  :
    Con l Z ([] : List (String × Nat)) (⟨"com/example/itihasa/itihasa/model/TextRequireLengthPinLaw", "build", "(ICCCC)Ljava/lang/String;"⟩ : MethodName) method_6_code 5 (Option.some (Jvm.ClassFile.FieldType.object "java/lang/String")) ({ frames := 6, cells := 4, slots := 19, locals := 88 } : Room) #[(.int (3 : Int32)), (.int c0), (.int c1), (.int c2), (.int c3)] h0 [] (fun v h => ∃ a b : Nat, v = some (.ref a) ∧ SG Z h a b [c0, c1, c2]) := by
  refine Con.of (a0 := a0) #[.val (.int (3 : Int32)), .val (.int c0), .val (.int c1), .val (.int c2), .val (.int c3)] (plainFor_of_name pn_3) hE O all0 (fun m => by first | (simp [entryFrame, mkF, argsToLocals, Value.category]; done) | rfl) ?_
  intro p e s m below meth c T0 hx hby hml hnm hret hlk hh W0
  refine g_iloadN (pc' := 1) W0.here hx (hb hby d_method_6_0) rfl rfl ?_
  refine g_iconst (1 : Int32) (pc' := 2) W0.here hx (hb hby d_method_6_1) rfl rfl ?_
  refine g_icmpY (pc' := 20) W0.here hx (hb hby d_method_6_2) rfl (feq (show ¬ ((3 : Int32) = (1 : Int32)) from (by decide))).2 ?_
  refine g_iloadN (pc' := 21) W0.here hx (hb hby d_method_6_20) rfl rfl ?_
  refine g_iconst (2 : Int32) (pc' := 22) W0.here hx (hb hby d_method_6_21) rfl rfl ?_
  refine g_icmpY (pc' := 44) W0.here hx (hb hby d_method_6_22) rfl (feq (show ¬ ((3 : Int32) = (2 : Int32)) from (by decide))).2 ?_
  refine g_iloadN (pc' := 45) W0.here hx (hb hby d_method_6_44) rfl rfl ?_
  refine g_iconst (3 : Int32) (pc' := 46) W0.here hx (hb hby d_method_6_45) rfl rfl ?_
  refine g_icmpN (pc' := 49) W0.here hx (hb hby d_method_6_46) rfl (teq (show (3 : Int32) = (3 : Int32) from (by decide))).2 ?_
  refine w_new (pc' := 52) W0 hx (hw _ (List.mem_of_getElem? w_20)) (hw _ (List.mem_of_getElem? w_21)) (hw _ (List.mem_of_getElem? w_22)) (hb hby d_method_6_49) (Nat.le_of_ble_eq_true rfl) (Nat.le_of_ble_eq_true rfl) rfl fun T124 h124 b124 g124 W124 K124 A124 D124 => ?_
  have z_K124 : h0.size ≤ h124.size := K124.1
  have lt_b124 : b124 < h124.size := W124.lt (List.mem_cons_self ..)
  have F124_coder : Fld Z h124 b124 "java/lang/String" "coder" "B" (.int (0 : Int32)) := D124 (Or.inr (hw _ (List.mem_of_getElem? w_66))) (ty := .byte) (by decide)
  have F124_value : Fld Z h124 b124 "java/lang/String" "value" "[B" .null := D124 (Or.inr (hw _ (List.mem_of_getElem? w_68))) (ty := (.array .byte)) (by decide)
  refine g_dup (pc' := 53) W124.here hx (hb hby d_method_6_52) rfl rfl ?_
  refine g_iconst (3 : Int32) (pc' := 54) W124.here hx (hb hby d_method_6_53) rfl rfl ?_
  refine w_newarr (pc' := 56) (cap := 3) W124 hx (hw _ (List.mem_of_getElem? w_23)) (hb hby d_method_6_54) (by decide) (Nat.le_refl _) (Nat.le_of_ble_eq_true rfl) (Nat.le_of_ble_eq_true rfl) (Nat.le_of_ble_eq_true rfl) rfl rfl fun T125 h125 b125 g125 W125 K125 V125 => ?_
  have z_K125 : h124.size ≤ h125.size := K125.1
  have ne_b124_b125 : b124 ≠ b125 := by omega
  have lt_b125 : b125 < h125.size := W125.lt (List.mem_cons_self ..)
  have V125 : Ary Z h125 b125 .char [(.int (0 : Int32)), (.int (0 : Int32)), (.int (0 : Int32))] := V125
  refine g_dup (pc' := 57) W125.here hx (hb hby d_method_6_56) rfl rfl ?_
  refine g_iconst (0 : Int32) (pc' := 58) W125.here hx (hb hby d_method_6_57) rfl rfl ?_
  refine g_iloadN (pc' := 59) W125.here hx (hb hby d_method_6_58) rfl rfl ?_
  refine w_castore (pc' := 60) (x' := c0) W125 hx V125 (by decide) (Nat.lt_of_lt_of_le (Nat.lt_succ_self _) (Nat.le_of_ble_eq_true rfl)) (List.mem_of_getElem? (i := 0) rfl) (own_nchar r_c0) (hb hby d_method_6_59) rfl fun T126 h126 W126 K126 V126 => ?_
  have z_K126 : h125.size ≤ h126.size := K126.1
  have V126 : Ary Z h126 b125 .char [(.int c0), (.int (0 : Int32)), (.int (0 : Int32))] := V126
  refine g_dup (pc' := 61) W126.here hx (hb hby d_method_6_60) rfl rfl ?_
  refine g_iconst (1 : Int32) (pc' := 62) W126.here hx (hb hby d_method_6_61) rfl rfl ?_
  refine g_iloadN (pc' := 63) W126.here hx (hb hby d_method_6_62) rfl rfl ?_
  refine w_castore (pc' := 64) (x' := c1) W126 hx V126 (by decide) (Nat.lt_of_lt_of_le (Nat.lt_succ_self _) (Nat.le_of_ble_eq_true rfl)) (List.mem_of_getElem? (i := 0) rfl) (own_nchar r_c1) (hb hby d_method_6_63) rfl fun T127 h127 W127 K127 V127 => ?_
  have z_K127 : h126.size ≤ h127.size := K127.1
  have V127 : Ary Z h127 b125 .char [(.int c0), (.int c1), (.int (0 : Int32))] := V127
  refine g_dup (pc' := 65) W127.here hx (hb hby d_method_6_64) rfl rfl ?_
  refine g_iconst (2 : Int32) (pc' := 66) W127.here hx (hb hby d_method_6_65) rfl rfl ?_
  refine g_iloadN (pc' := 67) W127.here hx (hb hby d_method_6_66) rfl rfl ?_
  refine w_castore (pc' := 68) (x' := c2) W127 hx V127 (by decide) (Nat.lt_of_lt_of_le (Nat.lt_succ_self _) (Nat.le_of_ble_eq_true rfl)) (List.mem_of_getElem? (i := 0) rfl) (own_nchar r_c2) (hb hby d_method_6_67) rfl fun T128 h128 W128 K128 V128 => ?_
  have z_K128 : h127.size ≤ h128.size := K128.1
  have V128 : Ary Z h128 b125 .char [(.int c0), (.int c1), (.int c2)] := V128
  have c129 := ((((A124.keep K125).keep K126).keep K127).keep K128)
  have c130 := ((((F124_coder.keep K125 nin0).keep K126 (ninS ne_b124_b125 nin0)).keep K127 (ninS ne_b124_b125 nin0)).keep K128 (ninS ne_b124_b125 nin0))
  have c131 := ((((F124_value.keep K125 nin0).keep K126 (ninS ne_b124_b125 nin0)).keep K127 (ninS ne_b124_b125 nin0)).keep K128 (ninS ne_b124_b125 nin0))
  refine w_special (pc' := 71) (st := [(.ref b124)]) (y := (⟨"java/lang/String", "<init>", "([C)V"⟩ : MethodName)) (a := b124) W128 hx [(.ref b125)] rfl (hw _ (List.mem_of_getElem? w_24)) (hw _ (List.mem_of_getElem? w_25)) (hw _ (List.mem_of_getElem? w_22)) (hw _ (List.mem_of_getElem? w_26)) (by decide) (c_strC l Z a0 hw hE cc fm b124 b125 [c0, c1, c2] h128 W128.old G GU (Nat.succ_pos _) (Nat.le_of_ble_eq_true rfl) (own_allS r_c0 (own_allS r_c1 (own_allS r_c2 own_all0))) V128 (by have := O.1; omega) c129 _ _ c130 c131 ne_b124_b125) (allS (List.mem_of_getElem? (i := 1) rfl) all0) (by rw [hml]; rfl) (lenOf pd_12 rfl) rfl (hb hby d_method_6_68) (Nat.le_of_ble_eq_true rfl) (Nat.le_of_ble_eq_true rfl) (Nat.le_of_ble_eq_true rfl) (Nat.le_of_ble_eq_true rfl) rfl fun v132 T132 h132 W132 K132 Q132 => ?_
  have z_K132 : h128.size ≤ h132.size := K132.1
  obtain ⟨rfl, sb133, S133⟩ := Q132
  have ES133 := S133.exa
  have lt_sb133 : sb133 < h132.size := S133.ltb
  refine w_retA W132 hx hh hlk hret rfl rfl (hb hby d_method_6_71) (Nat.le_of_ble_eq_true rfl) (Nat.le_of_ble_eq_true rfl) ?_
  exact ⟨_, _, rfl, S133⟩
set_option maxRecDepth 65536 in
set_option maxHeartbeats 40000000 in
theorem c_build4 (l : Launch) (Z : State) (a0 : Array Value) (hw : ∀ d ∈ tables_1, d.before a0 Z = true) (hE : EW Z a0 ([] : List (String × Nat))) (cc : Int32) (fm : Value) (c0 c1 c2 c3 : Int32) (h0 : Heap) (O : Ext Z.heap h0) (G : SEnv Z cc fm) (GU : SEnvU Z) (r_c0 : 0 ≤ c0.toInt ∧ c0.toInt < 65536) (r_c1 : 0 ≤ c1.toInt ∧ c1.toInt < 65536) (r_c2 : 0 ≤ c2.toInt ∧ c2.toInt < 65536) (r_c3 : 0 ≤ c3.toInt ∧ c3.toInt < 65536)  :
    Con l Z ([] : List (String × Nat)) (⟨"com/example/itihasa/itihasa/model/TextRequireLengthPinLaw", "build", "(ICCCC)Ljava/lang/String;"⟩ : MethodName) method_6_code 5 (Option.some (Jvm.ClassFile.FieldType.object "java/lang/String")) ({ frames := 6, cells := 4, slots := 20, locals := 88 } : Room) #[(.int (4 : Int32)), (.int c0), (.int c1), (.int c2), (.int c3)] h0 [] (fun v h => ∃ a b : Nat, v = some (.ref a) ∧ SG Z h a b [c0, c1, c2, c3]) := by
  refine Con.of (a0 := a0) #[.val (.int (4 : Int32)), .val (.int c0), .val (.int c1), .val (.int c2), .val (.int c3)] (plainFor_of_name pn_3) hE O all0 (fun m => by first | (simp [entryFrame, mkF, argsToLocals, Value.category]; done) | rfl) ?_
  intro p e s m below meth c T0 hx hby hml hnm hret hlk hh W0
  refine g_iloadN (pc' := 1) W0.here hx (hb hby d_method_6_0) rfl rfl ?_
  refine g_iconst (1 : Int32) (pc' := 2) W0.here hx (hb hby d_method_6_1) rfl rfl ?_
  refine g_icmpY (pc' := 20) W0.here hx (hb hby d_method_6_2) rfl (feq (show ¬ ((4 : Int32) = (1 : Int32)) from (by decide))).2 ?_
  refine g_iloadN (pc' := 21) W0.here hx (hb hby d_method_6_20) rfl rfl ?_
  refine g_iconst (2 : Int32) (pc' := 22) W0.here hx (hb hby d_method_6_21) rfl rfl ?_
  refine g_icmpY (pc' := 44) W0.here hx (hb hby d_method_6_22) rfl (feq (show ¬ ((4 : Int32) = (2 : Int32)) from (by decide))).2 ?_
  refine g_iloadN (pc' := 45) W0.here hx (hb hby d_method_6_44) rfl rfl ?_
  refine g_iconst (3 : Int32) (pc' := 46) W0.here hx (hb hby d_method_6_45) rfl rfl ?_
  refine g_icmpY (pc' := 72) W0.here hx (hb hby d_method_6_46) rfl (feq (show ¬ ((4 : Int32) = (3 : Int32)) from (by decide))).2 ?_
  refine w_new (pc' := 75) W0 hx (hw _ (List.mem_of_getElem? w_20)) (hw _ (List.mem_of_getElem? w_21)) (hw _ (List.mem_of_getElem? w_22)) (hb hby d_method_6_72) (Nat.le_of_ble_eq_true rfl) (Nat.le_of_ble_eq_true rfl) rfl fun T134 h134 b134 g134 W134 K134 A134 D134 => ?_
  have z_K134 : h0.size ≤ h134.size := K134.1
  have lt_b134 : b134 < h134.size := W134.lt (List.mem_cons_self ..)
  have F134_coder : Fld Z h134 b134 "java/lang/String" "coder" "B" (.int (0 : Int32)) := D134 (Or.inr (hw _ (List.mem_of_getElem? w_66))) (ty := .byte) (by decide)
  have F134_value : Fld Z h134 b134 "java/lang/String" "value" "[B" .null := D134 (Or.inr (hw _ (List.mem_of_getElem? w_68))) (ty := (.array .byte)) (by decide)
  refine g_dup (pc' := 76) W134.here hx (hb hby d_method_6_75) rfl rfl ?_
  refine g_iconst (4 : Int32) (pc' := 77) W134.here hx (hb hby d_method_6_76) rfl rfl ?_
  refine w_newarr (pc' := 79) (cap := 4) W134 hx (hw _ (List.mem_of_getElem? w_23)) (hb hby d_method_6_77) (by decide) (Nat.le_refl _) (Nat.le_of_ble_eq_true rfl) (Nat.le_of_ble_eq_true rfl) (Nat.le_of_ble_eq_true rfl) rfl rfl fun T135 h135 b135 g135 W135 K135 V135 => ?_
  have z_K135 : h134.size ≤ h135.size := K135.1
  have ne_b134_b135 : b134 ≠ b135 := by omega
  have lt_b135 : b135 < h135.size := W135.lt (List.mem_cons_self ..)
  have V135 : Ary Z h135 b135 .char [(.int (0 : Int32)), (.int (0 : Int32)), (.int (0 : Int32)), (.int (0 : Int32))] := V135
  refine g_dup (pc' := 80) W135.here hx (hb hby d_method_6_79) rfl rfl ?_
  refine g_iconst (0 : Int32) (pc' := 81) W135.here hx (hb hby d_method_6_80) rfl rfl ?_
  refine g_iloadN (pc' := 82) W135.here hx (hb hby d_method_6_81) rfl rfl ?_
  refine w_castore (pc' := 83) (x' := c0) W135 hx V135 (by decide) (Nat.lt_of_lt_of_le (Nat.lt_succ_self _) (Nat.le_of_ble_eq_true rfl)) (List.mem_of_getElem? (i := 0) rfl) (own_nchar r_c0) (hb hby d_method_6_82) rfl fun T136 h136 W136 K136 V136 => ?_
  have z_K136 : h135.size ≤ h136.size := K136.1
  have V136 : Ary Z h136 b135 .char [(.int c0), (.int (0 : Int32)), (.int (0 : Int32)), (.int (0 : Int32))] := V136
  refine g_dup (pc' := 84) W136.here hx (hb hby d_method_6_83) rfl rfl ?_
  refine g_iconst (1 : Int32) (pc' := 85) W136.here hx (hb hby d_method_6_84) rfl rfl ?_
  refine g_iloadN (pc' := 86) W136.here hx (hb hby d_method_6_85) rfl rfl ?_
  refine w_castore (pc' := 87) (x' := c1) W136 hx V136 (by decide) (Nat.lt_of_lt_of_le (Nat.lt_succ_self _) (Nat.le_of_ble_eq_true rfl)) (List.mem_of_getElem? (i := 0) rfl) (own_nchar r_c1) (hb hby d_method_6_86) rfl fun T137 h137 W137 K137 V137 => ?_
  have z_K137 : h136.size ≤ h137.size := K137.1
  have V137 : Ary Z h137 b135 .char [(.int c0), (.int c1), (.int (0 : Int32)), (.int (0 : Int32))] := V137
  refine g_dup (pc' := 88) W137.here hx (hb hby d_method_6_87) rfl rfl ?_
  refine g_iconst (2 : Int32) (pc' := 89) W137.here hx (hb hby d_method_6_88) rfl rfl ?_
  refine g_iloadN (pc' := 90) W137.here hx (hb hby d_method_6_89) rfl rfl ?_
  refine w_castore (pc' := 91) (x' := c2) W137 hx V137 (by decide) (Nat.lt_of_lt_of_le (Nat.lt_succ_self _) (Nat.le_of_ble_eq_true rfl)) (List.mem_of_getElem? (i := 0) rfl) (own_nchar r_c2) (hb hby d_method_6_90) rfl fun T138 h138 W138 K138 V138 => ?_
  have z_K138 : h137.size ≤ h138.size := K138.1
  have V138 : Ary Z h138 b135 .char [(.int c0), (.int c1), (.int c2), (.int (0 : Int32))] := V138
  refine g_dup (pc' := 92) W138.here hx (hb hby d_method_6_91) rfl rfl ?_
  refine g_iconst (3 : Int32) (pc' := 93) W138.here hx (hb hby d_method_6_92) rfl rfl ?_
  refine g_iload (pc' := 95) W138.here hx (hb hby d_method_6_93) rfl rfl ?_
  refine w_castore (pc' := 96) (x' := c3) W138 hx V138 (by decide) (Nat.lt_of_lt_of_le (Nat.lt_succ_self _) (Nat.le_of_ble_eq_true rfl)) (List.mem_of_getElem? (i := 0) rfl) (own_nchar r_c3) (hb hby d_method_6_95) rfl fun T139 h139 W139 K139 V139 => ?_
  have z_K139 : h138.size ≤ h139.size := K139.1
  have V139 : Ary Z h139 b135 .char [(.int c0), (.int c1), (.int c2), (.int c3)] := V139
  have c140 := (((((A134.keep K135).keep K136).keep K137).keep K138).keep K139)
  have c141 := (((((F134_coder.keep K135 nin0).keep K136 (ninS ne_b134_b135 nin0)).keep K137 (ninS ne_b134_b135 nin0)).keep K138 (ninS ne_b134_b135 nin0)).keep K139 (ninS ne_b134_b135 nin0))
  have c142 := (((((F134_value.keep K135 nin0).keep K136 (ninS ne_b134_b135 nin0)).keep K137 (ninS ne_b134_b135 nin0)).keep K138 (ninS ne_b134_b135 nin0)).keep K139 (ninS ne_b134_b135 nin0))
  refine w_special (pc' := 99) (st := [(.ref b134)]) (y := (⟨"java/lang/String", "<init>", "([C)V"⟩ : MethodName)) (a := b134) W139 hx [(.ref b135)] rfl (hw _ (List.mem_of_getElem? w_24)) (hw _ (List.mem_of_getElem? w_25)) (hw _ (List.mem_of_getElem? w_22)) (hw _ (List.mem_of_getElem? w_26)) (by decide) (c_strC l Z a0 hw hE cc fm b134 b135 [c0, c1, c2, c3] h139 W139.old G GU (Nat.succ_pos _) (Nat.le_of_ble_eq_true rfl) (own_allS r_c0 (own_allS r_c1 (own_allS r_c2 (own_allS r_c3 own_all0)))) V139 (by have := O.1; omega) c140 _ _ c141 c142 ne_b134_b135) (allS (List.mem_of_getElem? (i := 1) rfl) all0) (by rw [hml]; rfl) (lenOf pd_12 rfl) rfl (hb hby d_method_6_96) (Nat.le_of_ble_eq_true rfl) (Nat.le_of_ble_eq_true rfl) (Nat.le_of_ble_eq_true rfl) (Nat.le_of_ble_eq_true rfl) rfl fun v143 T143 h143 W143 K143 Q143 => ?_
  have z_K143 : h139.size ≤ h143.size := K143.1
  obtain ⟨rfl, sb144, S144⟩ := Q143
  have ES144 := S144.exa
  have lt_sb144 : sb144 < h143.size := S144.ltb
  refine w_retA W143 hx hh hlk hret rfl rfl (hb hby d_method_6_99) (Nat.le_of_ble_eq_true rfl) (Nat.le_of_ble_eq_true rfl) ?_
  exact ⟨_, _, rfl, S144⟩
set_option maxRecDepth 65536 in
set_option maxHeartbeats 40000000 in
theorem c_cft4 (l : Launch) (Z : State) (a0 : Array Value) (hw : ∀ d ∈ tables_1, d.before a0 Z = true) (hE : EW Z a0 ([] : List (String × Nat))) (n : Int32) (h0 : Heap) (O : Ext Z.heap h0) (hn0 : ¬ n < 0) :
    Con l Z ([] : List (String × Nat)) (⟨"jdk/internal/util/Preconditions", "checkFromToIndex", "(IIILjava/util/function/BiFunction;)I"⟩ : MethodName) jdk_41_method_12_code 4 (Option.some Jvm.ClassFile.FieldType.int) ({ frames := 0, cells := 0, slots := 0, locals := 0 } : Room) #[(.int (0 : Int32)), (.int n), (.int n), .null] h0 [] (pureQ (some (.int 0)) h0) := by
  refine Con.of (a0 := a0) #[.val (.int (0 : Int32)), .val (.int n), .val (.int n), .val .null] (plainFor_of_name pn_5) hE O all0 (fun m => by first | (simp [entryFrame, mkF, argsToLocals, Value.category]; done) | rfl) ?_
  intro p e s m below meth c T0 hx hby hml hnm hret hlk hh W0
  refine g_iloadN (pc' := 1) W0.here hx (hb hby d_jdk_41_12_0) rfl rfl ?_
  refine g_ifN (pc' := 4) W0.here hx (hb hby d_jdk_41_12_1) rfl (flt (show ¬ ((0 : Int32) < (0 : Int32)) from (by decide))).1 ?_
  refine g_iloadN (pc' := 5) W0.here hx (hb hby d_jdk_41_12_4) rfl rfl ?_
  refine g_iloadN (pc' := 6) W0.here hx (hb hby d_jdk_41_12_5) rfl rfl ?_
  refine g_icmpN (pc' := 9) W0.here hx (hb hby d_jdk_41_12_6) rfl (flt (show ¬ (n < (0 : Int32)) from hn0)).2.2.1 ?_
  refine g_iloadN (pc' := 10) W0.here hx (hb hby d_jdk_41_12_9) rfl rfl ?_
  refine g_iloadN (pc' := 11) W0.here hx (hb hby d_jdk_41_12_10) rfl rfl ?_
  refine g_icmpY (pc' := 22) W0.here hx (hb hby d_jdk_41_12_11) rfl (flt (show ¬ (n < n) from (by rw [Int32.lt_iff_toInt_lt]; omega))).2.2.2 ?_
  refine g_iloadN (pc' := 23) W0.here hx (hb hby d_jdk_41_12_22) rfl rfl ?_
  refine w_retI W0 hx hh hlk hret (hb hby d_jdk_41_12_23) (Nat.le_of_ble_eq_true rfl) (Nat.le_of_ble_eq_true rfl) ?_
  exact ⟨rfl, rfl⟩
set_option maxRecDepth 65536 in
set_option maxHeartbeats 40000000 in
theorem c_cft3 (l : Launch) (Z : State) (a0 : Array Value) (hw : ∀ d ∈ tables_1, d.before a0 Z = true) (hE : EW Z a0 ([] : List (String × Nat))) (n : Int32) (h0 : Heap) (O : Ext Z.heap h0) (hn0 : ¬ n < 0) :
    Con l Z ([] : List (String × Nat)) (⟨"java/util/Objects", "checkFromToIndex", "(III)I"⟩ : MethodName) jdk_31_method_18_code 3 (Option.some Jvm.ClassFile.FieldType.int) ({ frames := 1, cells := 0, slots := 0, locals := 15 } : Room) #[(.int (0 : Int32)), (.int n), (.int n)] h0 [] (pureQ (some (.int 0)) h0) := by
  refine Con.of (a0 := a0) #[.val (.int (0 : Int32)), .val (.int n), .val (.int n)] (plainFor_of_name pn_6) hE O all0 (fun m => by first | (simp [entryFrame, mkF, argsToLocals, Value.category]; done) | rfl) ?_
  intro p e s m below meth c T0 hx hby hml hnm hret hlk hh W0
  refine g_iloadN (pc' := 1) W0.here hx (hb hby d_jdk_31_18_0) rfl rfl ?_
  refine g_iloadN (pc' := 2) W0.here hx (hb hby d_jdk_31_18_1) rfl rfl ?_
  refine g_iloadN (pc' := 3) W0.here hx (hb hby d_jdk_31_18_2) rfl rfl ?_
  refine g_aconstNull (pc' := 4) W0.here hx (hb hby d_jdk_31_18_3) rfl ?_
  refine w_callSp (pc' := 7) (st := []) (y := (⟨"jdk/internal/util/Preconditions", "checkFromToIndex", "(IIILjava/util/function/BiFunction;)I"⟩ : MethodName)) W0 hx [(.int (0 : Int32)), (.int n), (.int n), .null] (hw _ (List.mem_of_getElem? w_112)) (hw _ (List.mem_of_getElem? w_113)) (hw _ (List.mem_of_getElem? w_114)) (hw _ (List.mem_of_getElem? w_115)) (by decide) (c_cft4 l Z a0 hw hE n h0 W0.old hn0) (by rw [hml]; rfl) (lenOf pd_13 rfl) rfl (hb hby d_jdk_31_18_4) (Nat.le_of_ble_eq_true rfl) (Nat.le_of_ble_eq_true rfl) rfl rfl (Nat.le_of_ble_eq_true rfl) (Nat.le_of_ble_eq_true rfl) rfl fun T145 W145 => ?_
  refine w_retI W145 hx hh hlk hret (hb hby d_jdk_31_18_7) (Nat.le_of_ble_eq_true rfl) (Nat.le_of_ble_eq_true rfl) ?_
  exact ⟨rfl, rfl⟩
set_option maxRecDepth 65536 in
set_option maxHeartbeats 40000000 in
theorem c_isLatL (l : Launch) (Z : State) (a0 : Array Value) (hw : ∀ d ∈ tables_1, d.before a0 Z = true) (hE : EW Z a0 ([] : List (String × Nat))) (cc : Int32) (fm : Value) (a b : Nat) (cs : List Int32)  (h0 : Heap) (O : Ext Z.heap h0) (G : SEnv Z cc fm) (GU : SEnvU Z) (S0 : SL Z h0 a b cs)  :
    Con l Z ([] : List (String × Nat)) (⟨"java/lang/String", "isLatin1", "()Z"⟩ : MethodName) jdk_42_method_154_code 1 (Option.some Jvm.ClassFile.FieldType.boolean) ({ frames := 0, cells := 0, slots := 0, locals := 0 } : Room) #[(.ref a)] h0 [] (pureQ (some (.int 1)) h0) := by
  refine Con.of (a0 := a0) #[.val (.ref a)] (plainFor_of_name pn_1) hE O all0 (fun m => by first | (simp [entryFrame, mkF, argsToLocals, Value.category]; done) | rfl) ?_
  intro p e s m below meth c T0 hx hby hml hnm hret hlk hh W0
  obtain ⟨E_a, FC_a, FV_a, V_b, L_a⟩ := id S0
  have hl29 : cs.length < 2 ^ 31 := by have := V_b.len; simpa using this
  refine w_getS (pc' := 3) W0 hx (hw _ (List.mem_of_getElem? w_34)) Via.refl G.1 (hb hby d_jdk_42_154_0) rfl fun T150 W150 => ?_
  refine g_ifN (pc' := 6) W150.here hx (hb hby d_jdk_42_154_3) rfl (feq (show ¬ (cc = (0 : Int32)) from G.2.1)).1 ?_
  refine g_aloadN (pc' := 7) W150.here hx (hb hby d_jdk_42_154_6) rfl rfl rfl ?_
  refine w_get (pc' := 10) W150 hx (hw _ (List.mem_of_getElem? w_65)) Via.refl FC_a (hb hby d_jdk_42_154_7) rfl fun T151 W151 => ?_
  refine g_ifN (pc' := 13) W151.here hx (hb hby d_jdk_42_154_10) rfl (teq (show (0 : Int32) = (0 : Int32) from (by decide))).2 ?_
  refine g_iconst (1 : Int32) (pc' := 14) W151.here hx (hb hby d_jdk_42_154_13) rfl rfl ?_
  refine g_goto (pc' := 18) W151.here hx (hb hby d_jdk_42_154_14) rfl ?_
  refine w_retN (t := .boolean) W151 hx hh hlk hret (by simp) (hb hby d_jdk_42_154_18) (Nat.le_of_ble_eq_true rfl) (Nat.le_of_ble_eq_true rfl) ?_
  exact ⟨rfl, rfl⟩
set_option maxRecDepth 65536 in
set_option maxHeartbeats 40000000 in
theorem c_isLatU (l : Launch) (Z : State) (a0 : Array Value) (hw : ∀ d ∈ tables_1, d.before a0 Z = true) (hE : EW Z a0 ([] : List (String × Nat))) (cc : Int32) (fm : Value) (a b : Nat) (cs : List Int32)  (h0 : Heap) (O : Ext Z.heap h0) (G : SEnv Z cc fm) (GU : SEnvU Z) (S0 : SU Z h0 a b cs)  :
    Con l Z ([] : List (String × Nat)) (⟨"java/lang/String", "isLatin1", "()Z"⟩ : MethodName) jdk_42_method_154_code 1 (Option.some Jvm.ClassFile.FieldType.boolean) ({ frames := 0, cells := 0, slots := 0, locals := 0 } : Room) #[(.ref a)] h0 [] (pureQ (some (.int 0)) h0) := by
  refine Con.of (a0 := a0) #[.val (.ref a)] (plainFor_of_name pn_1) hE O all0 (fun m => by first | (simp [entryFrame, mkF, argsToLocals, Value.category]; done) | rfl) ?_
  intro p e s m below meth c T0 hx hby hml hnm hret hlk hh W0
  obtain ⟨E_a, FC_a, FV_a, V_b, L_a, hl29⟩ := id S0
  refine w_getS (pc' := 3) W0 hx (hw _ (List.mem_of_getElem? w_34)) Via.refl G.1 (hb hby d_jdk_42_154_0) rfl fun T152 W152 => ?_
  refine g_ifN (pc' := 6) W152.here hx (hb hby d_jdk_42_154_3) rfl (feq (show ¬ (cc = (0 : Int32)) from G.2.1)).1 ?_
  refine g_aloadN (pc' := 7) W152.here hx (hb hby d_jdk_42_154_6) rfl rfl rfl ?_
  refine w_get (pc' := 10) W152 hx (hw _ (List.mem_of_getElem? w_65)) Via.refl FC_a (hb hby d_jdk_42_154_7) rfl fun T153 W153 => ?_
  refine g_ifY (pc' := 17) W153.here hx (hb hby d_jdk_42_154_10) rfl (feq (show ¬ ((1 : Int32) = (0 : Int32)) from (by decide))).2 ?_
  refine g_iconst (0 : Int32) (pc' := 18) W153.here hx (hb hby d_jdk_42_154_17) rfl rfl ?_
  refine w_retN (t := .boolean) W153 hx hh hlk hret (by simp) (hb hby d_jdk_42_154_18) (Nat.le_of_ble_eq_true rfl) (Nat.le_of_ble_eq_true rfl) ?_
  exact ⟨rfl, rfl⟩
set_option maxRecDepth 65536 in
set_option maxHeartbeats 40000000 in
theorem c_ucpc4 (l : Launch) (Z : State) (a0 : Array Value) (hw : ∀ d ∈ tables_1, d.before a0 Z = true) (hE : EW Z a0 ([] : List (String × Nat))) (cc : Int32) (fm : Value) (a b : Nat) (cs : List Int32)  (h0 : Heap) (O : Ext Z.heap h0) (G : SEnv Z cc fm) (GU : SEnvU Z) (hl28 : cs.length ≤ 2 ^ 28) (S0 : SU Z h0 a b cs)  :
    Con l Z ([] : List (String × Nat)) (⟨"java/lang/StringUTF16", "codePointCount", "([BIIZ)I"⟩ : MethodName) jdk_52_method_11_code 6 (Option.some Jvm.ClassFile.FieldType.int) ({ frames := 1, cells := 0, slots := 0, locals := 13 } : Room) #[(.ref b), (.int (0 : Int32)), (.int cs.length.toInt32), (.int (0 : Int32))] h0 [] (pureQ (some (.int (cs.length - prs cs).toInt32)) h0) := by
  refine Con.of (a0 := a0) #[.val (.ref b), .val (.int (0 : Int32)), .val (.int cs.length.toInt32), .val (.int (0 : Int32)), .unset, .unset] (plainFor_of_name pn_0) hE O all0 (fun m => by first | (simp [entryFrame, mkF, argsToLocals, Value.category]; done) | rfl) ?_
  intro p e s m below meth c T0 hx hby hml hnm hret hlk hh W0
  obtain ⟨E_a, FC_a, FV_a, V_b, L_a, hl29⟩ := id S0
  refine w_getS (pc' := 3) W0 hx (hw _ (List.mem_of_getElem? w_56)) Via.refl GU.1 (hb hby d_jdk_52_11_0) rfl fun T154 W154 => ?_
  refine g_ifY (pc' := 19) W154.here hx (hb hby d_jdk_52_11_3) rfl (feq (show ¬ ((1 : Int32) = (0 : Int32)) from (by decide))).2 ?_
  refine g_iloadN (pc' := 20) W154.here hx (hb hby d_jdk_52_11_19) rfl rfl ?_
  refine g_iloadN (pc' := 21) W154.here hx (hb hby d_jdk_52_11_20) rfl rfl ?_
  refine g_isub (pc' := 22) W154.here hx (hb hby d_jdk_52_11_21) rfl ?_
  refine g_name (w := .int (cs.length - 0).toInt32) (congrArg Value.int (by simp)) ?_
  refine g_istore (pc' := 24) (Ls' := #[.val (.ref b), .val (.int (0 : Int32)), .val (.int cs.length.toInt32), .val (.int (0 : Int32)), .val (.int (cs.length - 0).toInt32), .unset]) W154.here hx (hb hby d_jdk_52_11_22) rfl rfl ?_
  refine g_iloadN (pc' := 25) W154.here hx (hb hby d_jdk_52_11_24) rfl rfl ?_
  refine g_istore (pc' := 27) (Ls' := #[.val (.ref b), .val (.int (0 : Int32)), .val (.int cs.length.toInt32), .val (.int (0 : Int32)), .val (.int (cs.length - 0).toInt32), .val (.int (0 : Int32))]) W154.here hx (hb hby d_jdk_52_11_25) rfl rfl ?_
  refine g_iloadN (pc' := 28) W154.here hx (hb hby d_jdk_52_11_27) rfl rfl ?_
  refine g_ifY (pc' := 44) W154.here hx (hb hby d_jdk_52_11_28) rfl (teq (show (0 : Int32) = (0 : Int32) from (by decide))).1 ?_
  have hple := own_prsle cs
  have LOOP : ∀ (k i q : Nat), cs.length ≤ i + k → i ≤ cs.length → q + prs (cs.drop i) = prs cs → ∀ (TL : State), Wk p l e ({ frames := 1, cells := 0, slots := 0, locals := 13 } : Room) s m #[(.ref b), (.int (0 : Int32)), (.int cs.length.toInt32), (.int (0 : Int32))] below meth c Z ([] : List (String × Nat)) "java/lang/StringUTF16" [] [] TL h0 0 0 → Gets p.tables e below (Post s Z ([] : List (String × Nat)) ({ frames := 1, cells := 0, slots := 0, locals := 13 } : Room) h0 [] (pureQ (some (.int (cs.length - prs cs).toInt32)) h0)) TL (mkF m 44 #[.val (.ref b), .val (.int (0 : Int32)), .val (.int cs.length.toInt32), .val (.int (0 : Int32)), .val (.int (cs.length - q).toInt32), .val (.int i.toInt32)] []) := by
    intro k
    induction k with
    | zero =>
      intro i q hik hiN hq TL WL
      have hlt : ¬ i + 1 < cs.length := by omega
      refine g_iload (pc' := 46) WL.here hx (hb hby d_jdk_52_11_44) rfl rfl ?_
      refine g_iloadN (pc' := 47) WL.here hx (hb hby d_jdk_52_11_46) rfl rfl ?_
      refine g_iconst (1 : Int32) (pc' := 48) WL.here hx (hb hby d_jdk_52_11_47) rfl rfl ?_
      refine g_isub (pc' := 49) WL.here hx (hb hby d_jdk_52_11_48) rfl ?_
      refine g_icmpY (pc' := 88) WL.here hx (hb hby d_jdk_52_11_49) rfl (flt (show ¬ (i.toInt32 < (cs.length.toInt32 - (1 : Int32))) from (fun z => hlt ((own_lt1 (by omega) (by omega)).mp z)))).2.1 ?_
      refine g_iload (pc' := 90) WL.here hx (hb hby d_jdk_52_11_88) rfl rfl ?_
      refine w_retI WL hx hh hlk hret (hb hby d_jdk_52_11_90) (Nat.le_of_ble_eq_true rfl) (Nat.le_of_ble_eq_true rfl) ?_
      have e1 := own_prs0 (cs := cs) (i := i) (by omega)
      exact ⟨by rw [show q = prs cs by omega], rfl⟩
    | succ k ih =>
      intro i q hik hiN hq TL WL
      by_cases hlt : i + 1 < cs.length
      · obtain ⟨ci, hci⟩ : ∃ z, cs[i]? = some z := ⟨_, List.getElem?_eq_getElem (by omega)⟩
        obtain ⟨di, hdi⟩ : ∃ z, cs[i + 1]? = some z := ⟨_, List.getElem?_eq_getElem hlt⟩
        refine g_iload (pc' := 46) WL.here hx (hb hby d_jdk_52_11_44) rfl rfl ?_
        refine g_iloadN (pc' := 47) WL.here hx (hb hby d_jdk_52_11_46) rfl rfl ?_
        refine g_iconst (1 : Int32) (pc' := 48) WL.here hx (hb hby d_jdk_52_11_47) rfl rfl ?_
        refine g_isub (pc' := 49) WL.here hx (hb hby d_jdk_52_11_48) rfl ?_
        refine g_icmpN (pc' := 52) WL.here hx (hb hby d_jdk_52_11_49) rfl (tlt (show i.toInt32 < (cs.length.toInt32 - (1 : Int32)) from ((own_lt1 (by omega) (by omega)).mpr hlt))).2.1 ?_
        refine g_aloadN (pc' := 53) WL.here hx (hb hby d_jdk_52_11_52) rfl rfl rfl ?_
        refine g_iload (pc' := 55) WL.here hx (hb hby d_jdk_52_11_53) rfl rfl ?_
        refine g_iincV (i + 1).toInt32 (pc' := 58) (Ls' := #[.val (.ref b), .val (.int (0 : Int32)), .val (.int cs.length.toInt32), .val (.int (0 : Int32)), .val (.int (cs.length - q).toInt32), .val (.int (i + 1).toInt32)]) WL.here hx (hb hby d_jdk_52_11_55) (own_succ i) rfl rfl rfl ?_
        refine w_callSp (pc' := 61) (st := []) (y := (⟨"java/lang/StringUTF16", "getChar", "([BI)C"⟩ : MethodName)) WL hx [(.ref b), (.int i.toInt32)] (hw _ (List.mem_of_getElem? w_59)) (hw _ (List.mem_of_getElem? w_60)) (hw _ (List.mem_of_getElem? w_37)) (hw _ (List.mem_of_getElem? w_61)) (by decide) (c_getChar l Z a0 hw hE cc fm b i ci _ h0 WL.old G GU V_b (by omega) (own_uget cs i ci hci).1 (own_uget cs i ci hci).2 (L_a ci (List.mem_of_getElem? hci))) (by rw [hml]; rfl) (lenOf pd_5 rfl) rfl (hb hby d_jdk_52_11_58) (Nat.le_of_ble_eq_true rfl) (Nat.le_of_ble_eq_true rfl) rfl rfl (Nat.le_of_ble_eq_true rfl) (Nat.le_of_ble_eq_true rfl) rfl fun T155 W155 => ?_
        refine w_callSp (pc' := 64) (st := []) (y := (⟨"java/lang/Character", "isHighSurrogate", "(C)Z"⟩ : MethodName)) W155 hx [(.int ci)] (hw _ (List.mem_of_getElem? w_127)) (hw _ (List.mem_of_getElem? w_128)) (hw _ (List.mem_of_getElem? w_129)) (hw _ (List.mem_of_getElem? w_130)) (by decide) (c_chHigh l Z a0 hw hE ci h0 W155.old) (by rw [hml]; rfl) (lenOf pd_9 rfl) rfl (hb hby d_jdk_52_11_61) (Nat.le_of_ble_eq_true rfl) (Nat.le_of_ble_eq_true rfl) rfl rfl (Nat.le_of_ble_eq_true rfl) (Nat.le_of_ble_eq_true rfl) rfl fun T156 W156 => ?_
        by_cases hc64_157 : (hiI ci) = (0 : Int32)
        · refine g_ifY (pc' := 44) W156.here hx (hb hby d_jdk_52_11_64) rfl (teq hc64_157).1 ?_
          exact ih (i + 1) q (by omega) (by omega) (by rw [← own_prsN hci hdi (Or.inl hc64_157)]; exact hq) _ W156
        · refine g_ifN (pc' := 67) W156.here hx (hb hby d_jdk_52_11_64) rfl (feq hc64_157).1 ?_
          refine g_aloadN (pc' := 68) W156.here hx (hb hby d_jdk_52_11_67) rfl rfl rfl ?_
          refine g_iload (pc' := 70) W156.here hx (hb hby d_jdk_52_11_68) rfl rfl ?_
          refine w_callSp (pc' := 73) (st := []) (y := (⟨"java/lang/StringUTF16", "getChar", "([BI)C"⟩ : MethodName)) W156 hx [(.ref b), (.int (i + 1).toInt32)] (hw _ (List.mem_of_getElem? w_59)) (hw _ (List.mem_of_getElem? w_60)) (hw _ (List.mem_of_getElem? w_37)) (hw _ (List.mem_of_getElem? w_61)) (by decide) (c_getChar l Z a0 hw hE cc fm b (i + 1) di _ h0 W156.old G GU V_b (by omega) (own_uget cs (i + 1) di hdi).1 (own_uget cs (i + 1) di hdi).2 (L_a di (List.mem_of_getElem? hdi))) (by rw [hml]; rfl) (lenOf pd_5 rfl) rfl (hb hby d_jdk_52_11_70) (Nat.le_of_ble_eq_true rfl) (Nat.le_of_ble_eq_true rfl) rfl rfl (Nat.le_of_ble_eq_true rfl) (Nat.le_of_ble_eq_true rfl) rfl fun T158 W158 => ?_
          refine w_callSp (pc' := 76) (st := []) (y := (⟨"java/lang/Character", "isLowSurrogate", "(C)Z"⟩ : MethodName)) W158 hx [(.int di)] (hw _ (List.mem_of_getElem? w_138)) (hw _ (List.mem_of_getElem? w_139)) (hw _ (List.mem_of_getElem? w_129)) (hw _ (List.mem_of_getElem? w_140)) (by decide) (c_chLow l Z a0 hw hE di h0 W158.old) (by rw [hml]; rfl) (lenOf pd_9 rfl) rfl (hb hby d_jdk_52_11_73) (Nat.le_of_ble_eq_true rfl) (Nat.le_of_ble_eq_true rfl) rfl rfl (Nat.le_of_ble_eq_true rfl) (Nat.le_of_ble_eq_true rfl) rfl fun T159 W159 => ?_
          by_cases hc76_160 : (loI di) = (0 : Int32)
          · refine g_ifY (pc' := 44) W159.here hx (hb hby d_jdk_52_11_76) rfl (teq hc76_160).1 ?_
            exact ih (i + 1) q (by omega) (by omega) (by rw [← own_prsN hci hdi (Or.inr hc76_160)]; exact hq) _ W159
          · refine g_ifN (pc' := 79) W159.here hx (hb hby d_jdk_52_11_76) rfl (feq hc76_160).1 ?_
            refine g_iincV (cs.length - (q + 1)).toInt32 (pc' := 82) (Ls' := #[.val (.ref b), .val (.int (0 : Int32)), .val (.int cs.length.toInt32), .val (.int (0 : Int32)), .val (.int (cs.length - (q + 1)).toInt32), .val (.int (i + 1).toInt32)]) W159.here hx (hb hby d_jdk_52_11_79) (own_dec1 (by omega) (by have := own_prsY hci hdi hc64_157 hc76_160; omega)) rfl rfl rfl ?_
            refine g_iincV (i + 2).toInt32 (pc' := 85) (Ls' := #[.val (.ref b), .val (.int (0 : Int32)), .val (.int cs.length.toInt32), .val (.int (0 : Int32)), .val (.int (cs.length - (q + 1)).toInt32), .val (.int (i + 2).toInt32)]) W159.here hx (hb hby d_jdk_52_11_82) (own_succ (i + 1)) rfl rfl rfl ?_
            refine g_goto (pc' := 44) W159.here hx (hb hby d_jdk_52_11_85) rfl ?_
            exact ih (i + 2) (q + 1) (by omega) (by omega) (by have := own_prsY hci hdi hc64_157 hc76_160; omega) _ W159
      · have hlt' := hlt
        refine g_iload (pc' := 46) WL.here hx (hb hby d_jdk_52_11_44) rfl rfl ?_
        refine g_iloadN (pc' := 47) WL.here hx (hb hby d_jdk_52_11_46) rfl rfl ?_
        refine g_iconst (1 : Int32) (pc' := 48) WL.here hx (hb hby d_jdk_52_11_47) rfl rfl ?_
        refine g_isub (pc' := 49) WL.here hx (hb hby d_jdk_52_11_48) rfl ?_
        refine g_icmpY (pc' := 88) WL.here hx (hb hby d_jdk_52_11_49) rfl (flt (show ¬ (i.toInt32 < (cs.length.toInt32 - (1 : Int32))) from (fun z => hlt ((own_lt1 (by omega) (by omega)).mp z)))).2.1 ?_
        refine g_iload (pc' := 90) WL.here hx (hb hby d_jdk_52_11_88) rfl rfl ?_
        refine w_retI WL hx hh hlk hret (hb hby d_jdk_52_11_90) (Nat.le_of_ble_eq_true rfl) (Nat.le_of_ble_eq_true rfl) ?_
        have e1 := own_prs0 (cs := cs) (i := i) (by omega)
        exact ⟨by rw [show q = prs cs by omega], rfl⟩
  exact LOOP cs.length 0 0 (by omega) (by omega) (by simp) _ W154
set_option maxRecDepth 65536 in
set_option maxHeartbeats 40000000 in
theorem c_ucpc3 (l : Launch) (Z : State) (a0 : Array Value) (hw : ∀ d ∈ tables_1, d.before a0 Z = true) (hE : EW Z a0 ([] : List (String × Nat))) (cc : Int32) (fm : Value) (a b : Nat) (cs : List Int32)  (h0 : Heap) (O : Ext Z.heap h0) (G : SEnv Z cc fm) (GU : SEnvU Z) (hl28 : cs.length ≤ 2 ^ 28) (S0 : SU Z h0 a b cs)  :
    Con l Z ([] : List (String × Nat)) (⟨"java/lang/StringUTF16", "codePointCount", "([BII)I"⟩ : MethodName) jdk_52_method_12_code 3 (Option.some Jvm.ClassFile.FieldType.int) ({ frames := 2, cells := 0, slots := 0, locals := 30 } : Room) #[(.ref b), (.int (0 : Int32)), (.int cs.length.toInt32)] h0 [] (pureQ (some (.int (cs.length - prs cs).toInt32)) h0) := by
  refine Con.of (a0 := a0) #[.val (.ref b), .val (.int (0 : Int32)), .val (.int cs.length.toInt32)] (plainFor_of_name pn_0) hE O all0 (fun m => by first | (simp [entryFrame, mkF, argsToLocals, Value.category]; done) | rfl) ?_
  intro p e s m below meth c T0 hx hby hml hnm hret hlk hh W0
  obtain ⟨E_a, FC_a, FV_a, V_b, L_a, hl29⟩ := id S0
  refine g_aloadN (pc' := 1) W0.here hx (hb hby d_jdk_52_12_0) rfl rfl rfl ?_
  refine g_iloadN (pc' := 2) W0.here hx (hb hby d_jdk_52_12_1) rfl rfl ?_
  refine g_iloadN (pc' := 3) W0.here hx (hb hby d_jdk_52_12_2) rfl rfl ?_
  refine g_iconst (0 : Int32) (pc' := 4) W0.here hx (hb hby d_jdk_52_12_3) rfl rfl ?_
  refine w_callSp (pc' := 7) (st := []) (y := (⟨"java/lang/StringUTF16", "codePointCount", "([BIIZ)I"⟩ : MethodName)) W0 hx [(.ref b), (.int (0 : Int32)), (.int cs.length.toInt32), (.int (0 : Int32))] (hw _ (List.mem_of_getElem? w_124)) (hw _ (List.mem_of_getElem? w_125)) (hw _ (List.mem_of_getElem? w_37)) (hw _ (List.mem_of_getElem? w_126)) (by decide) (c_ucpc4 l Z a0 hw hE cc fm a b cs h0 W0.old G GU hl28 S0) (by rw [hml]; rfl) (lenOf pd_14 rfl) rfl (hb hby d_jdk_52_12_4) (Nat.le_of_ble_eq_true rfl) (Nat.le_of_ble_eq_true rfl) rfl rfl (Nat.le_of_ble_eq_true rfl) (Nat.le_of_ble_eq_true rfl) rfl fun T161 W161 => ?_
  refine w_retI W161 hx hh hlk hret (hb hby d_jdk_52_12_7) (Nat.le_of_ble_eq_true rfl) (Nat.le_of_ble_eq_true rfl) ?_
  exact ⟨rfl, rfl⟩
set_option maxRecDepth 65536 in
set_option maxHeartbeats 40000000 in
theorem c_cpcL (l : Launch) (Z : State) (a0 : Array Value) (hw : ∀ d ∈ tables_1, d.before a0 Z = true) (hE : EW Z a0 ([] : List (String × Nat))) (cc : Int32) (fm : Value) (a b : Nat) (cs : List Int32)  (h0 : Heap) (O : Ext Z.heap h0) (G : SEnv Z cc fm) (GU : SEnvU Z) (S0 : SL Z h0 a b cs) (hl28 : cs.length ≤ 2 ^ 28)  :
    Con l Z ([] : List (String × Nat)) (⟨"java/lang/String", "codePointCount", "(II)I"⟩ : MethodName) jdk_42_method_59_code 3 (Option.some Jvm.ClassFile.FieldType.int) ({ frames := 3, cells := 0, slots := 0, locals := 44 } : Room) #[(.ref a), (.int (0 : Int32)), (.int cs.length.toInt32)] h0 [] (pureQ (some (.int (cs.length - prs cs).toInt32)) h0) := by
  refine Con.of (a0 := a0) #[.val (.ref a), .val (.int (0 : Int32)), .val (.int cs.length.toInt32)] (plainFor_of_name pn_1) hE O all0 (fun m => by first | (simp [entryFrame, mkF, argsToLocals, Value.category]; done) | rfl) ?_
  intro p e s m below meth c T0 hx hby hml hnm hret hlk hh W0
  obtain ⟨E_a, FC_a, FV_a, V_b, L_a⟩ := id S0
  have hl29 : cs.length < 2 ^ 31 := by have := V_b.len; simpa using this
  refine g_iloadN (pc' := 1) W0.here hx (hb hby d_jdk_42_59_0) rfl rfl ?_
  refine g_iloadN (pc' := 2) W0.here hx (hb hby d_jdk_42_59_1) rfl rfl ?_
  refine g_aloadN (pc' := 3) W0.here hx (hb hby d_jdk_42_59_2) rfl rfl rfl ?_
  refine w_virtualp (pc' := 6) (st := [(.int cs.length.toInt32), (.int (0 : Int32))]) (y := (⟨"java/lang/String", "length", "()I"⟩ : MethodName)) (z := (⟨"java/lang/String", "length", "()I"⟩ : MethodName)) (a := a) W0 hx [] (hw _ (List.mem_of_getElem? w_107)) (hw _ (List.mem_of_getElem? w_93)) (nfS (z := (⟨"java/lang/String", "length", "()I"⟩ : MethodName)) (hw _ (List.mem_of_getElem? w_95))) (hw _ (List.mem_of_getElem? w_95)) (hw _ (List.mem_of_getElem? w_94)) (hw _ (List.mem_of_getElem? w_22)) (hw _ (List.mem_of_getElem? w_96)) (by decide) (c_length l Z a0 hw hE cc fm a b cs  h0 W0.old G GU (show SG Z h0 a b cs from Or.inl S0) ) E_a (by rw [hml]; rfl) (lenOf pd_15 rfl) rfl (hb hby d_jdk_42_59_3) (Nat.le_of_ble_eq_true rfl) (Nat.le_of_ble_eq_true rfl) rfl rfl (Nat.le_of_ble_eq_true rfl) (Nat.le_of_ble_eq_true rfl) rfl fun T170 W170 => ?_
  refine w_callSp (pc' := 9) (st := []) (y := (⟨"java/util/Objects", "checkFromToIndex", "(III)I"⟩ : MethodName)) W170 hx [(.int (0 : Int32)), (.int cs.length.toInt32), (.int cs.length.toInt32)] (hw _ (List.mem_of_getElem? w_108)) (hw _ (List.mem_of_getElem? w_109)) (hw _ (List.mem_of_getElem? w_110)) (hw _ (List.mem_of_getElem? w_111)) (by decide) (c_cft3 l Z a0 hw hE cs.length.toInt32 h0 W170.old (own_nneg (by omega))) (by rw [hml]; rfl) (lenOf pd_16 rfl) rfl (hb hby d_jdk_42_59_6) (Nat.le_of_ble_eq_true rfl) (Nat.le_of_ble_eq_true rfl) rfl rfl (Nat.le_of_ble_eq_true rfl) (Nat.le_of_ble_eq_true rfl) rfl fun T171 W171 => ?_
  refine g_pop (pc' := 10) W171.here hx (hb hby d_jdk_42_59_9) rfl rfl ?_
  refine g_aloadN (pc' := 11) W171.here hx (hb hby d_jdk_42_59_10) rfl rfl rfl ?_
  refine w_virtualp (pc' := 14) (st := []) (y := (⟨"java/lang/String", "isLatin1", "()Z"⟩ : MethodName)) (z := (⟨"java/lang/String", "isLatin1", "()Z"⟩ : MethodName)) (a := a) W171 hx [] (hw _ (List.mem_of_getElem? w_116)) (hw _ (List.mem_of_getElem? w_117)) (nfS (z := (⟨"java/lang/String", "isLatin1", "()Z"⟩ : MethodName)) (hw _ (List.mem_of_getElem? w_119))) (hw _ (List.mem_of_getElem? w_119)) (hw _ (List.mem_of_getElem? w_118)) (hw _ (List.mem_of_getElem? w_22)) (hw _ (List.mem_of_getElem? w_120)) (by decide) (c_isLatL l Z a0 hw hE cc fm a b cs  h0 W171.old G GU S0 ) E_a (by rw [hml]; rfl) (lenOf pd_17 rfl) rfl (hb hby d_jdk_42_59_11) (Nat.le_of_ble_eq_true rfl) (Nat.le_of_ble_eq_true rfl) rfl rfl (Nat.le_of_ble_eq_true rfl) (Nat.le_of_ble_eq_true rfl) rfl fun T172 W172 => ?_
  refine g_ifN (pc' := 17) W172.here hx (hb hby d_jdk_42_59_14) rfl (feq (show ¬ ((1 : Int32) = (0 : Int32)) from (by decide))).1 ?_
  refine g_iloadN (pc' := 18) W172.here hx (hb hby d_jdk_42_59_17) rfl rfl ?_
  refine g_iloadN (pc' := 19) W172.here hx (hb hby d_jdk_42_59_18) rfl rfl ?_
  refine g_isub (pc' := 20) W172.here hx (hb hby d_jdk_42_59_19) rfl ?_
  refine w_retI W172 hx hh hlk hret (hb hby d_jdk_42_59_20) (Nat.le_of_ble_eq_true rfl) (Nat.le_of_ble_eq_true rfl) ?_
  exact ⟨by rw [own_prsL cs L_a]; simp, rfl⟩
set_option maxRecDepth 65536 in
set_option maxHeartbeats 40000000 in
theorem c_cpcU (l : Launch) (Z : State) (a0 : Array Value) (hw : ∀ d ∈ tables_1, d.before a0 Z = true) (hE : EW Z a0 ([] : List (String × Nat))) (cc : Int32) (fm : Value) (a b : Nat) (cs : List Int32)  (h0 : Heap) (O : Ext Z.heap h0) (G : SEnv Z cc fm) (GU : SEnvU Z) (S0 : SU Z h0 a b cs) (hl28 : cs.length ≤ 2 ^ 28)  :
    Con l Z ([] : List (String × Nat)) (⟨"java/lang/String", "codePointCount", "(II)I"⟩ : MethodName) jdk_42_method_59_code 3 (Option.some Jvm.ClassFile.FieldType.int) ({ frames := 3, cells := 0, slots := 0, locals := 44 } : Room) #[(.ref a), (.int (0 : Int32)), (.int cs.length.toInt32)] h0 [] (pureQ (some (.int (cs.length - prs cs).toInt32)) h0) := by
  refine Con.of (a0 := a0) #[.val (.ref a), .val (.int (0 : Int32)), .val (.int cs.length.toInt32)] (plainFor_of_name pn_1) hE O all0 (fun m => by first | (simp [entryFrame, mkF, argsToLocals, Value.category]; done) | rfl) ?_
  intro p e s m below meth c T0 hx hby hml hnm hret hlk hh W0
  obtain ⟨E_a, FC_a, FV_a, V_b, L_a, hl29⟩ := id S0
  refine g_iloadN (pc' := 1) W0.here hx (hb hby d_jdk_42_59_0) rfl rfl ?_
  refine g_iloadN (pc' := 2) W0.here hx (hb hby d_jdk_42_59_1) rfl rfl ?_
  refine g_aloadN (pc' := 3) W0.here hx (hb hby d_jdk_42_59_2) rfl rfl rfl ?_
  refine w_virtualp (pc' := 6) (st := [(.int cs.length.toInt32), (.int (0 : Int32))]) (y := (⟨"java/lang/String", "length", "()I"⟩ : MethodName)) (z := (⟨"java/lang/String", "length", "()I"⟩ : MethodName)) (a := a) W0 hx [] (hw _ (List.mem_of_getElem? w_107)) (hw _ (List.mem_of_getElem? w_93)) (nfS (z := (⟨"java/lang/String", "length", "()I"⟩ : MethodName)) (hw _ (List.mem_of_getElem? w_95))) (hw _ (List.mem_of_getElem? w_95)) (hw _ (List.mem_of_getElem? w_94)) (hw _ (List.mem_of_getElem? w_22)) (hw _ (List.mem_of_getElem? w_96)) (by decide) (c_length l Z a0 hw hE cc fm a b cs  h0 W0.old G GU (show SG Z h0 a b cs from Or.inr S0) ) E_a (by rw [hml]; rfl) (lenOf pd_15 rfl) rfl (hb hby d_jdk_42_59_3) (Nat.le_of_ble_eq_true rfl) (Nat.le_of_ble_eq_true rfl) rfl rfl (Nat.le_of_ble_eq_true rfl) (Nat.le_of_ble_eq_true rfl) rfl fun T173 W173 => ?_
  refine w_callSp (pc' := 9) (st := []) (y := (⟨"java/util/Objects", "checkFromToIndex", "(III)I"⟩ : MethodName)) W173 hx [(.int (0 : Int32)), (.int cs.length.toInt32), (.int cs.length.toInt32)] (hw _ (List.mem_of_getElem? w_108)) (hw _ (List.mem_of_getElem? w_109)) (hw _ (List.mem_of_getElem? w_110)) (hw _ (List.mem_of_getElem? w_111)) (by decide) (c_cft3 l Z a0 hw hE cs.length.toInt32 h0 W173.old (own_nneg (by omega))) (by rw [hml]; rfl) (lenOf pd_16 rfl) rfl (hb hby d_jdk_42_59_6) (Nat.le_of_ble_eq_true rfl) (Nat.le_of_ble_eq_true rfl) rfl rfl (Nat.le_of_ble_eq_true rfl) (Nat.le_of_ble_eq_true rfl) rfl fun T174 W174 => ?_
  refine g_pop (pc' := 10) W174.here hx (hb hby d_jdk_42_59_9) rfl rfl ?_
  refine g_aloadN (pc' := 11) W174.here hx (hb hby d_jdk_42_59_10) rfl rfl rfl ?_
  refine w_virtualp (pc' := 14) (st := []) (y := (⟨"java/lang/String", "isLatin1", "()Z"⟩ : MethodName)) (z := (⟨"java/lang/String", "isLatin1", "()Z"⟩ : MethodName)) (a := a) W174 hx [] (hw _ (List.mem_of_getElem? w_116)) (hw _ (List.mem_of_getElem? w_117)) (nfS (z := (⟨"java/lang/String", "isLatin1", "()Z"⟩ : MethodName)) (hw _ (List.mem_of_getElem? w_119))) (hw _ (List.mem_of_getElem? w_119)) (hw _ (List.mem_of_getElem? w_118)) (hw _ (List.mem_of_getElem? w_22)) (hw _ (List.mem_of_getElem? w_120)) (by decide) (c_isLatU l Z a0 hw hE cc fm a b cs  h0 W174.old G GU S0 ) E_a (by rw [hml]; rfl) (lenOf pd_17 rfl) rfl (hb hby d_jdk_42_59_11) (Nat.le_of_ble_eq_true rfl) (Nat.le_of_ble_eq_true rfl) rfl rfl (Nat.le_of_ble_eq_true rfl) (Nat.le_of_ble_eq_true rfl) rfl fun T175 W175 => ?_
  refine g_ifY (pc' := 21) W175.here hx (hb hby d_jdk_42_59_14) rfl (teq (show (0 : Int32) = (0 : Int32) from (by decide))).1 ?_
  refine g_aloadN (pc' := 22) W175.here hx (hb hby d_jdk_42_59_21) rfl rfl rfl ?_
  refine w_get (pc' := 25) W175 hx (hw _ (List.mem_of_getElem? w_67)) Via.refl FV_a (hb hby d_jdk_42_59_22) rfl fun T176 W176 => ?_
  refine g_iloadN (pc' := 26) W176.here hx (hb hby d_jdk_42_59_25) rfl rfl ?_
  refine g_iloadN (pc' := 27) W176.here hx (hb hby d_jdk_42_59_26) rfl rfl ?_
  refine w_callSp (pc' := 30) (st := []) (y := (⟨"java/lang/StringUTF16", "codePointCount", "([BII)I"⟩ : MethodName)) W176 hx [(.ref b), (.int (0 : Int32)), (.int cs.length.toInt32)] (hw _ (List.mem_of_getElem? w_121)) (hw _ (List.mem_of_getElem? w_122)) (hw _ (List.mem_of_getElem? w_37)) (hw _ (List.mem_of_getElem? w_123)) (by decide) (c_ucpc3 l Z a0 hw hE cc fm a b cs h0 W176.old G GU hl28 S0) (by rw [hml]; rfl) (lenOf pd_18 rfl) rfl (hb hby d_jdk_42_59_27) (Nat.le_of_ble_eq_true rfl) (Nat.le_of_ble_eq_true rfl) rfl rfl (Nat.le_of_ble_eq_true rfl) (Nat.le_of_ble_eq_true rfl) rfl fun T177 W177 => ?_
  refine w_retI W177 hx hh hlk hret (hb hby d_jdk_42_59_30) (Nat.le_of_ble_eq_true rfl) (Nat.le_of_ble_eq_true rfl) ?_
  exact ⟨rfl, rfl⟩
theorem c_cpc (l : Launch) (Z : State) (a0 : Array Value) (hw : ∀ d ∈ tables_1, d.before a0 Z = true) (hE : EW Z a0 ([] : List (String × Nat))) (cc : Int32) (fm : Value) (a b : Nat) (cs : List Int32)  (h0 : Heap) (O : Ext Z.heap h0) (G : SEnv Z cc fm) (GU : SEnvU Z) (S0 : SG Z h0 a b cs) (hl28 : cs.length ≤ 2 ^ 28)  :
       Con l Z ([] : List (String × Nat)) (⟨"java/lang/String", "codePointCount", "(II)I"⟩ : MethodName) jdk_42_method_59_code 3 (Option.some Jvm.ClassFile.FieldType.int) ({ frames := 3, cells := 0, slots := 0, locals := 44 } : Room) #[(.ref a), (.int (0 : Int32)), (.int cs.length.toInt32)] h0 [] (pureQ (some (.int (cs.length - prs cs).toInt32)) h0) := by
  rcases S0 with S0 | S0
  · exact c_cpcL l Z a0 hw hE cc fm a b cs h0 O G GU S0 hl28
  · exact c_cpcU l Z a0 hw hE cc fm a b cs h0 O G GU S0 hl28
set_option maxRecDepth 65536 in
set_option maxHeartbeats 40000000 in
theorem c_req (l : Launch) (Z : State) (a0 : Array Value) (hw : ∀ d ∈ tables_1, d.before a0 Z = true) (hE : EW Z a0 ([] : List (String × Nat))) (cc : Int32) (fm : Value) (a b : Nat) (cs : List Int32) (wv : Value) (mx : Int32) (h0 : Heap) (O : Ext Z.heap h0) (G : SEnv Z cc fm) (GU : SEnvU Z) (hwv : wv.isRef = true) (S0 : SG Z h0 a b cs) (hl28 : cs.length ≤ 2 ^ 28) (hne : ¬ cs = []) (hmx : ¬ mx < (cs.length - prs cs).toInt32) :
    Con l Z ([] : List (String × Nat)) (⟨"com/example/itihasa/itihasa/model/Text", "requireLength", "(Ljava/lang/String;Ljava/lang/String;I)V"⟩ : MethodName) prog_6_method_4_code 4 (Option.none : Option Jvm.ClassFile.FieldType) ({ frames := 4, cells := 0, slots := 0, locals := 58 } : Room) #[(.ref a), wv, (.int mx)] h0 [] (pureQ none h0) := by
  refine Con.of (a0 := a0) #[.val (.ref a), .val wv, .val (.int mx), .unset] (plainFor_of_name pn_7) hE O all0 (fun m => by rcases ref_cases hwv with rfl | ⟨_, rfl⟩ <;> rfl) ?_
  intro p e s m below meth c T0 hx hby hml hnm hret hlk hh W0
  have ES0 := S0.exa
  have lt_a : a < h0.size := S0.lt
  have lt_b : b < h0.size := S0.ltb
  refine g_aloadN (pc' := 1) W0.here hx (hb hby d_prog_6_4_0) rfl rfl rfl ?_
  refine w_virtualp (pc' := 4) (st := []) (y := (⟨"java/lang/String", "isEmpty", "()Z"⟩ : MethodName)) (z := (⟨"java/lang/String", "isEmpty", "()Z"⟩ : MethodName)) (a := a) W0 hx [] (hw _ (List.mem_of_getElem? w_87)) (hw _ (List.mem_of_getElem? w_88)) (nfS (z := (⟨"java/lang/String", "isEmpty", "()Z"⟩ : MethodName)) (hw _ (List.mem_of_getElem? w_90))) (hw _ (List.mem_of_getElem? w_90)) (hw _ (List.mem_of_getElem? w_89)) (hw _ (List.mem_of_getElem? w_22)) (hw _ (List.mem_of_getElem? w_91)) (by decide) (c_isEmpty l Z a0 hw hE cc fm a b cs  h0 W0.old G GU S0 ) ES0 (by rw [hml]; rfl) (lenOf pd_17 rfl) rfl (hb hby d_prog_6_4_1) (Nat.le_of_ble_eq_true rfl) (Nat.le_of_ble_eq_true rfl) rfl rfl (Nat.le_of_ble_eq_true rfl) (Nat.le_of_ble_eq_true rfl) rfl fun T178 W178 => ?_
  refine g_ifY (pc' := 23) W178.here hx (hb hby d_prog_6_4_4) rfl (teq (show (if cs = [] then (1 : Int32) else 0) = (0 : Int32) from (by rw [if_neg hne]))).1 ?_
  refine g_aloadN (pc' := 24) W178.here hx (hb hby d_prog_6_4_23) rfl rfl rfl ?_
  refine g_iconst (0 : Int32) (pc' := 25) W178.here hx (hb hby d_prog_6_4_24) rfl rfl ?_
  refine g_aloadN (pc' := 26) W178.here hx (hb hby d_prog_6_4_25) rfl rfl rfl ?_
  refine w_virtualp (pc' := 29) (st := [(.int (0 : Int32)), (.ref a)]) (y := (⟨"java/lang/String", "length", "()I"⟩ : MethodName)) (z := (⟨"java/lang/String", "length", "()I"⟩ : MethodName)) (a := a) W178 hx [] (hw _ (List.mem_of_getElem? w_92)) (hw _ (List.mem_of_getElem? w_93)) (nfS (z := (⟨"java/lang/String", "length", "()I"⟩ : MethodName)) (hw _ (List.mem_of_getElem? w_95))) (hw _ (List.mem_of_getElem? w_95)) (hw _ (List.mem_of_getElem? w_94)) (hw _ (List.mem_of_getElem? w_22)) (hw _ (List.mem_of_getElem? w_96)) (by decide) (c_length l Z a0 hw hE cc fm a b cs  h0 W178.old G GU S0 ) ES0 (by rw [hml]; rfl) (lenOf pd_15 rfl) rfl (hb hby d_prog_6_4_26) (Nat.le_of_ble_eq_true rfl) (Nat.le_of_ble_eq_true rfl) rfl rfl (Nat.le_of_ble_eq_true rfl) (Nat.le_of_ble_eq_true rfl) rfl fun T179 W179 => ?_
  refine w_virtualp (pc' := 32) (st := []) (y := (⟨"java/lang/String", "codePointCount", "(II)I"⟩ : MethodName)) (z := (⟨"java/lang/String", "codePointCount", "(II)I"⟩ : MethodName)) (a := a) W179 hx [(.int (0 : Int32)), (.int cs.length.toInt32)] (hw _ (List.mem_of_getElem? w_102)) (hw _ (List.mem_of_getElem? w_103)) (nfS (z := (⟨"java/lang/String", "codePointCount", "(II)I"⟩ : MethodName)) (hw _ (List.mem_of_getElem? w_105))) (hw _ (List.mem_of_getElem? w_105)) (hw _ (List.mem_of_getElem? w_104)) (hw _ (List.mem_of_getElem? w_22)) (hw _ (List.mem_of_getElem? w_106)) (by decide) (c_cpc l Z a0 hw hE cc fm a b cs h0 W179.old G GU S0 hl28) ES0 (by rw [hml]; rfl) (lenOf pd_19 rfl) rfl (hb hby d_prog_6_4_29) (Nat.le_of_ble_eq_true rfl) (Nat.le_of_ble_eq_true rfl) rfl rfl (Nat.le_of_ble_eq_true rfl) (Nat.le_of_ble_eq_true rfl) rfl fun T180 W180 => ?_
  refine g_istoreN (pc' := 33) (Ls' := #[.val (.ref a), .val wv, .val (.int mx), .val (.int (cs.length - prs cs).toInt32)]) W180.here hx (hb hby d_prog_6_4_32) rfl rfl ?_
  refine g_iloadN (pc' := 34) W180.here hx (hb hby d_prog_6_4_33) rfl rfl ?_
  refine g_iloadN (pc' := 35) W180.here hx (hb hby d_prog_6_4_34) rfl rfl ?_
  refine g_icmpY (pc' := 55) W180.here hx (hb hby d_prog_6_4_35) rfl (flt (show ¬ (mx < (cs.length - prs cs).toInt32) from hmx)).2.2.2 ?_
  refine w_retV W180 hx hh hlk hret (hb hby d_prog_6_4_55) (Nat.le_of_ble_eq_true rfl) (Nat.le_of_ble_eq_true rfl) ?_
  exact ⟨rfl, rfl⟩
set_option maxRecDepth 65536 in
set_option maxHeartbeats 40000000 in
theorem c_law (l : Launch) (Z : State) (a0 : Array Value) (hw : ∀ d ∈ tables_1, d.before a0 Z = true) (hE : EW Z a0 ([] : List (String × Nat))) (cc : Int32) (fm : Value) (p0 : Int64) (p1 p2 p3 p4 p5 : Int32) (h0 : Heap) (O : Ext Z.heap h0) (G : SEnv Z cc fm) (GU : SEnvU Z)  :
    ConL tables_1 l Z ([] : List (String × Nat)) x code maxLocals ret room_1 #[(.long p0), (.int p1), (.int p2), (.int p3), (.int p4), (.int p5)] h0 [] (fun v _ => v = some (.int 1)) := by
  refine Con.of (a0 := a0) #[.val (.long p0), .second, .val (.int p1), .val (.int p2), .val (.int p3), .val (.int p4), .val (.int p5), .unset, .unset, .unset, .unset, .unset, .unset, .unset, .unset, .unset, .unset] (plainFor_of_name pn_3) hE O all0 (fun m => by first | (simp [entryFrame, mkF, argsToLocals, Value.category, maxLocals]; done) | rfl) ?_
  intro p e s m below meth c T0 hx hby hml hnm hret hlk hh W0
  refine g_iconst (1 : Int32) (pc' := 1) W0.here hx (hb hby at_0) rfl rfl ?_
  refine g_iloadN (pc' := 2) W0.here hx (hb hby at_1) rfl rfl ?_
  refine g_iconst (3 : Int32) (pc' := 3) W0.here hx (hb hby at_2) rfl rfl ?_
  refine g_iand (pc' := 4) W0.here hx (hb hby at_3) rfl ?_
  refine g_iadd (pc' := 5) W0.here hx (hb hby at_4) rfl ?_
  obtain ⟨nn, hnn⟩ : ∃ zz_ : Int32, zz_ = ((1 : Int32) + (p2 &&& (3 : Int32))) := ⟨_, rfl⟩
  refine g_name (congrArg Value.int hnn) ?_
  have hn4 : 1 ≤ nn.toInt ∧ nn.toInt ≤ 4 := by rw [hnn]; have q := c_mask p2 3 2 (by decide) (by decide); have q2 := c_iadd 1 (p2 &&& 3); have r := rng32 (1 + (p2 &&& 3)); have e1 : (1 : Int32).toInt = 1 := rfl; omega
  by_cases h1 : nn = (1 : Int32)
  · refine g_name (w := .int (1 : Int32)) (congrArg Value.int h1.symm) ?_
    refine g_istore (pc' := 7) (Ls' := #[.val (.long p0), .second, .val (.int p1), .val (.int p2), .val (.int p3), .val (.int p4), .val (.int p5), .val (.int (1 : Int32)), .unset, .unset, .unset, .unset, .unset, .unset, .unset, .unset, .unset]) W0.here hx (hb hby at_5) rfl rfl ?_
    refine g_lloadN (pc' := 8) W0.here hx (hb hby at_7) rfl rfl ?_
    refine g_iloadN (pc' := 9) W0.here hx (hb hby at_8) rfl rfl ?_
    refine g_iconst (0 : Int32) (pc' := 10) W0.here hx (hb hby at_9) rfl rfl ?_
    refine w_callS (pc' := 13) (st := []) (y := (⟨"com/example/itihasa/itihasa/model/TextRequireLengthPinLaw", "draw", "(JII)C"⟩ : MethodName)) W0 hx [(.long p0), (.int p1), (.int (0 : Int32))] (hw _ (List.mem_of_getElem? w_0)) (hw _ (List.mem_of_getElem? w_1)) (hw _ (List.mem_of_getElem? w_2)) (hw _ (List.mem_of_getElem? w_3)) (by decide) (c_draw l Z a0 hw hE p0 p1 (0 : Int32) h0 W0.old) all0 (by rw [hml]; rfl) (lenOf pd_20 rfl) rfl (hb hby at_10) (Nat.le_of_ble_eq_true rfl) (Nat.le_of_ble_eq_true rfl) (Nat.le_of_ble_eq_true rfl) (Nat.le_of_ble_eq_true rfl) rfl fun v181 T181 h181 W181 K181 Q181 => ?_
    have z_K181 : h0.size ≤ h181.size := K181.1
    obtain ⟨c0, rfl, r_c0⟩ := Q181
    refine g_istore (pc' := 15) (Ls' := #[.val (.long p0), .second, .val (.int p1), .val (.int p2), .val (.int p3), .val (.int p4), .val (.int p5), .val (.int (1 : Int32)), .val (.int c0), .unset, .unset, .unset, .unset, .unset, .unset, .unset, .unset]) W181.here hx (hb hby at_13) rfl rfl ?_
    refine g_lloadN (pc' := 16) W181.here hx (hb hby at_15) rfl rfl ?_
    refine g_iloadN (pc' := 17) W181.here hx (hb hby at_16) rfl rfl ?_
    refine g_iconst (1 : Int32) (pc' := 18) W181.here hx (hb hby at_17) rfl rfl ?_
    refine w_callS (pc' := 21) (st := []) (y := (⟨"com/example/itihasa/itihasa/model/TextRequireLengthPinLaw", "draw", "(JII)C"⟩ : MethodName)) W181 hx [(.long p0), (.int p1), (.int (1 : Int32))] (hw _ (List.mem_of_getElem? w_0)) (hw _ (List.mem_of_getElem? w_1)) (hw _ (List.mem_of_getElem? w_2)) (hw _ (List.mem_of_getElem? w_3)) (by decide) (c_draw l Z a0 hw hE p0 p1 (1 : Int32) h181 W181.old) all0 (by rw [hml]; rfl) (lenOf pd_20 rfl) rfl (hb hby at_18) (Nat.le_of_ble_eq_true rfl) (Nat.le_of_ble_eq_true rfl) (Nat.le_of_ble_eq_true rfl) (Nat.le_of_ble_eq_true rfl) rfl fun v182 T182 h182 W182 K182 Q182 => ?_
    have z_K182 : h181.size ≤ h182.size := K182.1
    obtain ⟨c1, rfl, r_c1⟩ := Q182
    refine g_istore (pc' := 23) (Ls' := #[.val (.long p0), .second, .val (.int p1), .val (.int p2), .val (.int p3), .val (.int p4), .val (.int p5), .val (.int (1 : Int32)), .val (.int c0), .val (.int c1), .unset, .unset, .unset, .unset, .unset, .unset, .unset]) W182.here hx (hb hby at_21) rfl rfl ?_
    refine g_lloadN (pc' := 24) W182.here hx (hb hby at_23) rfl rfl ?_
    refine g_iloadN (pc' := 25) W182.here hx (hb hby at_24) rfl rfl ?_
    refine g_iconst (2 : Int32) (pc' := 26) W182.here hx (hb hby at_25) rfl rfl ?_
    refine w_callS (pc' := 29) (st := []) (y := (⟨"com/example/itihasa/itihasa/model/TextRequireLengthPinLaw", "draw", "(JII)C"⟩ : MethodName)) W182 hx [(.long p0), (.int p1), (.int (2 : Int32))] (hw _ (List.mem_of_getElem? w_0)) (hw _ (List.mem_of_getElem? w_1)) (hw _ (List.mem_of_getElem? w_2)) (hw _ (List.mem_of_getElem? w_3)) (by decide) (c_draw l Z a0 hw hE p0 p1 (2 : Int32) h182 W182.old) all0 (by rw [hml]; rfl) (lenOf pd_20 rfl) rfl (hb hby at_26) (Nat.le_of_ble_eq_true rfl) (Nat.le_of_ble_eq_true rfl) (Nat.le_of_ble_eq_true rfl) (Nat.le_of_ble_eq_true rfl) rfl fun v183 T183 h183 W183 K183 Q183 => ?_
    have z_K183 : h182.size ≤ h183.size := K183.1
    obtain ⟨c2, rfl, r_c2⟩ := Q183
    refine g_istore (pc' := 31) (Ls' := #[.val (.long p0), .second, .val (.int p1), .val (.int p2), .val (.int p3), .val (.int p4), .val (.int p5), .val (.int (1 : Int32)), .val (.int c0), .val (.int c1), .val (.int c2), .unset, .unset, .unset, .unset, .unset, .unset]) W183.here hx (hb hby at_29) rfl rfl ?_
    refine g_lloadN (pc' := 32) W183.here hx (hb hby at_31) rfl rfl ?_
    refine g_iloadN (pc' := 33) W183.here hx (hb hby at_32) rfl rfl ?_
    refine g_iconst (3 : Int32) (pc' := 34) W183.here hx (hb hby at_33) rfl rfl ?_
    refine w_callS (pc' := 37) (st := []) (y := (⟨"com/example/itihasa/itihasa/model/TextRequireLengthPinLaw", "draw", "(JII)C"⟩ : MethodName)) W183 hx [(.long p0), (.int p1), (.int (3 : Int32))] (hw _ (List.mem_of_getElem? w_0)) (hw _ (List.mem_of_getElem? w_1)) (hw _ (List.mem_of_getElem? w_2)) (hw _ (List.mem_of_getElem? w_3)) (by decide) (c_draw l Z a0 hw hE p0 p1 (3 : Int32) h183 W183.old) all0 (by rw [hml]; rfl) (lenOf pd_20 rfl) rfl (hb hby at_34) (Nat.le_of_ble_eq_true rfl) (Nat.le_of_ble_eq_true rfl) (Nat.le_of_ble_eq_true rfl) (Nat.le_of_ble_eq_true rfl) rfl fun v184 T184 h184 W184 K184 Q184 => ?_
    have z_K184 : h183.size ≤ h184.size := K184.1
    obtain ⟨c3, rfl, r_c3⟩ := Q184
    refine g_istore (pc' := 39) (Ls' := #[.val (.long p0), .second, .val (.int p1), .val (.int p2), .val (.int p3), .val (.int p4), .val (.int p5), .val (.int (1 : Int32)), .val (.int c0), .val (.int c1), .val (.int c2), .val (.int c3), .unset, .unset, .unset, .unset, .unset]) W184.here hx (hb hby at_37) rfl rfl ?_
    refine g_iconst (0 : Int32) (pc' := 40) W184.here hx (hb hby at_39) rfl rfl ?_
    refine g_istore (pc' := 42) (Ls' := #[.val (.long p0), .second, .val (.int p1), .val (.int p2), .val (.int p3), .val (.int p4), .val (.int p5), .val (.int (1 : Int32)), .val (.int c0), .val (.int c1), .val (.int c2), .val (.int c3), .val (.int (0 : Int32)), .unset, .unset, .unset, .unset]) W184.here hx (hb hby at_40) rfl rfl ?_
    refine g_iload (pc' := 44) W184.here hx (hb hby at_42) rfl rfl ?_
    refine g_iconst (2 : Int32) (pc' := 45) W184.here hx (hb hby at_44) rfl rfl ?_
    refine g_icmpY (pc' := 60) W184.here hx (hb hby at_45) rfl (tlt (show (1 : Int32) < (2 : Int32) from (by decide))).1 ?_
    refine g_iload (pc' := 62) W184.here hx (hb hby at_60) rfl rfl ?_
    refine g_iconst (3 : Int32) (pc' := 63) W184.here hx (hb hby at_62) rfl rfl ?_
    refine g_icmpY (pc' := 78) W184.here hx (hb hby at_63) rfl (tlt (show (1 : Int32) < (3 : Int32) from (by decide))).1 ?_
    refine g_iload (pc' := 80) W184.here hx (hb hby at_78) rfl rfl ?_
    refine g_iconst (4 : Int32) (pc' := 81) W184.here hx (hb hby at_80) rfl rfl ?_
    refine g_icmpY (pc' := 96) W184.here hx (hb hby at_81) rfl (tlt (show (1 : Int32) < (4 : Int32) from (by decide))).1 ?_
    refine g_iload (pc' := 98) W184.here hx (hb hby at_96) rfl rfl ?_
    refine g_iload (pc' := 100) W184.here hx (hb hby at_98) rfl rfl ?_
    refine g_isub (pc' := 101) W184.here hx (hb hby at_100) rfl ?_
    obtain ⟨cnt, hcnt⟩ : ∃ zz_ : Int32, zz_ = ((1 : Int32) - (0 : Int32)) := ⟨_, rfl⟩
    refine g_name (congrArg Value.int hcnt) ?_
    have hcnt' := hcnt.trans (own_cnt1 c0)
    refine g_istore (pc' := 103) (Ls' := #[.val (.long p0), .second, .val (.int p1), .val (.int p2), .val (.int p3), .val (.int p4), .val (.int p5), .val (.int (1 : Int32)), .val (.int c0), .val (.int c1), .val (.int c2), .val (.int c3), .val (.int (0 : Int32)), .val (.int cnt), .unset, .unset, .unset]) W184.here hx (hb hby at_101) rfl rfl ?_
    refine g_iload (pc' := 105) W184.here hx (hb hby at_103) rfl rfl ?_
    refine g_iload (pc' := 107) W184.here hx (hb hby at_105) rfl rfl ?_
    refine w_ldcI (pc' := 109) W184 hx (hw _ (List.mem_of_getElem? w_12)) (hb hby at_107) rfl ?_
    refine g_iand (pc' := 110) W184.here hx (hb hby at_109) rfl ?_
    refine w_callSp (pc' := 113) (st := []) (y := (⟨"java/lang/Math", "max", "(II)I"⟩ : MethodName)) W184 hx [(.int cnt), (.int (p3 &&& (2147483647 : Int32)))] (hw _ (List.mem_of_getElem? w_13)) (hw _ (List.mem_of_getElem? w_14)) (hw _ (List.mem_of_getElem? w_15)) (hw _ (List.mem_of_getElem? w_16)) (by decide) (c_max l Z a0 hw hE cnt (p3 &&& (2147483647 : Int32)) h184 W184.old) (by rw [hml]; rfl) (lenOf pd_19 rfl) rfl (hb hby at_110) (Nat.le_of_ble_eq_true rfl) (Nat.le_of_ble_eq_true rfl) rfl rfl (Nat.le_of_ble_eq_true rfl) (Nat.le_of_ble_eq_true rfl) rfl fun T185 W185 => ?_
    obtain ⟨mx, hmx0⟩ : ∃ zz_ : Int32, zz_ = (if cnt < (p3 &&& (2147483647 : Int32)) then (p3 &&& (2147483647 : Int32)) else cnt) := ⟨_, rfl⟩
    refine g_name (congrArg Value.int hmx0) ?_
    have hmx : ¬ mx < cnt := by rw [hmx0]; split <;> (rw [Int32.lt_iff_toInt_lt] at *; omega)
    refine g_istore (pc' := 115) (Ls' := #[.val (.long p0), .second, .val (.int p1), .val (.int p2), .val (.int p3), .val (.int p4), .val (.int p5), .val (.int (1 : Int32)), .val (.int c0), .val (.int c1), .val (.int c2), .val (.int c3), .val (.int (0 : Int32)), .val (.int cnt), .val (.int mx), .unset, .unset]) W185.here hx (hb hby at_113) rfl rfl ?_
    refine g_iload (pc' := 117) W185.here hx (hb hby at_115) rfl rfl ?_
    refine g_iconst (1 : Int32) (pc' := 118) W185.here hx (hb hby at_117) rfl rfl ?_
    refine g_iand (pc' := 119) W185.here hx (hb hby at_118) rfl ?_
    by_cases hc119_186 : (p4 &&& (1 : Int32)) = (0 : Int32)
    · refine g_ifY (pc' := 126) W185.here hx (hb hby at_119) rfl (teq hc119_186).1 ?_
      refine g_iload (pc' := 128) W185.here hx (hb hby at_126) rfl rfl ?_
      refine g_iload (pc' := 130) W185.here hx (hb hby at_128) rfl rfl ?_
      refine g_iload (pc' := 132) W185.here hx (hb hby at_130) rfl rfl ?_
      refine g_iload (pc' := 134) W185.here hx (hb hby at_132) rfl rfl ?_
      refine g_iload (pc' := 136) W185.here hx (hb hby at_134) rfl rfl ?_
      refine w_callS (pc' := 139) (st := []) (y := (⟨"com/example/itihasa/itihasa/model/TextRequireLengthPinLaw", "build", "(ICCCC)Ljava/lang/String;"⟩ : MethodName)) W185 hx [(.int (1 : Int32)), (.int c0), (.int c1), (.int c2), (.int c3)] (hw _ (List.mem_of_getElem? w_17)) (hw _ (List.mem_of_getElem? w_18)) (hw _ (List.mem_of_getElem? w_2)) (hw _ (List.mem_of_getElem? w_19)) (by decide) (c_build1 l Z a0 hw hE cc fm c0 c1 c2 c3 h184 W185.old G GU r_c0 r_c1 r_c2 r_c3) all0 (by rw [hml]; rfl) (lenOf pd_21 rfl) rfl (hb hby at_136) (Nat.le_of_ble_eq_true rfl) (Nat.le_of_ble_eq_true rfl) (Nat.le_of_ble_eq_true rfl) (Nat.le_of_ble_eq_true rfl) rfl fun v187 T187 h187 W187 K187 Q187 => ?_
      have z_K187 : h184.size ≤ h187.size := K187.1
      obtain ⟨sa188, sb188, rfl, S188⟩ := Q187
      have ES188 := S188.exa
      have lt_sa188 : sa188 < h187.size := S188.lt
      have lt_sb188 : sb188 < h187.size := S188.ltb
      refine g_astore (pc' := 141) (Ls' := #[.val (.long p0), .second, .val (.int p1), .val (.int p2), .val (.int p3), .val (.int p4), .val (.int p5), .val (.int (1 : Int32)), .val (.int c0), .val (.int c1), .val (.int c2), .val (.int c3), .val (.int (0 : Int32)), .val (.int cnt), .val (.int mx), .val (.ref sa188), .unset]) W187.here hx (hb hby at_139) rfl rfl rfl ?_
      refine g_iload (pc' := 143) W187.here hx (hb hby at_141) rfl rfl ?_
      refine g_sipush (255 : Int32) (pc' := 146) W187.here hx (hb hby at_143) rfl rfl ?_
      refine g_iand (pc' := 147) W187.here hx (hb hby at_146) rfl ?_
      refine g_i2c (pc' := 148) W187.here hx (hb hby at_147) rfl ?_
      obtain ⟨kw, hkw⟩ : ∃ zz_ : Int32, zz_ = ((p5 &&& (255 : Int32)).toUInt32.toUInt16.toUInt32.toInt32) := ⟨_, rfl⟩
      refine g_name (congrArg Value.int hkw) ?_
      have hlw : 0 ≤ kw.toInt ∧ kw.toInt ≤ 255 := by rw [hkw]; exact own_byte _
      refine w_callS (pc' := 151) (st := []) (y := (⟨"java/lang/String", "valueOf", "(C)Ljava/lang/String;"⟩ : MethodName)) W187 hx [(.int kw)] (hw _ (List.mem_of_getElem? w_69)) (hw _ (List.mem_of_getElem? w_70)) (hw _ (List.mem_of_getElem? w_22)) (hw _ (List.mem_of_getElem? w_71)) (by decide) (c_valueOfC l Z a0 hw hE cc fm kw h187 W187.old G GU hlw) all0 (by rw [hml]; rfl) (lenOf pd_22 rfl) rfl (hb hby at_148) (Nat.le_of_ble_eq_true rfl) (Nat.le_of_ble_eq_true rfl) (Nat.le_of_ble_eq_true rfl) (Nat.le_of_ble_eq_true rfl) rfl fun v189 T189 h189 W189 K189 Q189 => ?_
      have z_K189 : h187.size ≤ h189.size := K189.1
      obtain ⟨va190, vb190, rfl, gz190, S190⟩ := Q189
      have S190g : SG Z h189 va190 vb190 [kw] := Or.inl S190
      have ES190g := S190g.exa
      have lt_va190 : va190 < h189.size := S190g.lt
      have lt_vb190 : vb190 < h189.size := S190g.ltb
      refine g_astore (pc' := 153) (Ls' := #[.val (.long p0), .second, .val (.int p1), .val (.int p2), .val (.int p3), .val (.int p4), .val (.int p5), .val (.int (1 : Int32)), .val (.int c0), .val (.int c1), .val (.int c2), .val (.int c3), .val (.int (0 : Int32)), .val (.int cnt), .val (.int mx), .val (.ref sa188), .val (.ref va190)]) W189.here hx (hb hby at_151) rfl rfl rfl ?_
      refine g_aload (pc' := 155) W189.here hx (hb hby at_153) rfl rfl rfl ?_
      refine g_aload (pc' := 157) W189.here hx (hb hby at_155) rfl rfl rfl ?_
      refine g_iload (pc' := 159) W189.here hx (hb hby at_157) rfl rfl ?_
      have c191 := (S188.keep K189 nin0 nin0)
      refine w_callSp (pc' := 162) (st := []) (y := (⟨"com/example/itihasa/itihasa/model/Text", "requireLength", "(Ljava/lang/String;Ljava/lang/String;I)V"⟩ : MethodName)) W189 hx [(.ref sa188), (.ref va190), (.int mx)] (hw _ (List.mem_of_getElem? w_83)) (hw _ (List.mem_of_getElem? w_84)) (hw _ (List.mem_of_getElem? w_85)) (hw _ (List.mem_of_getElem? w_86)) (by decide) (c_req l Z a0 hw hE cc fm sa188 sb188 [c0] (.ref va190) mx h189 W189.old G GU rfl c191 (Nat.le_of_ble_eq_true rfl) (by simp) (by rw [← hcnt']; exact hmx)) (by rw [hml]; rfl) (lenOf pd_23 rfl) rfl (hb hby at_159) (Nat.le_of_ble_eq_true rfl) (Nat.le_of_ble_eq_true rfl) rfl rfl (Nat.le_of_ble_eq_true rfl) (Nat.le_of_ble_eq_true rfl) rfl fun T192 W192 => ?_
      refine g_iconst (1 : Int32) (pc' := 163) W192.here hx (hb hby at_162) rfl rfl ?_
      refine w_retN (t := .boolean) W192 hx hh hlk hret (by simp) (hb hby at_163) (Nat.le_of_ble_eq_true rfl) (Nat.le_of_ble_eq_true rfl) ?_
      exact rfl
    · refine g_ifN (pc' := 122) W185.here hx (hb hby at_119) rfl (feq hc119_186).1 ?_
      refine g_iload (pc' := 124) W185.here hx (hb hby at_122) rfl rfl ?_
      refine g_istore (pc' := 126) (Ls' := #[.val (.long p0), .second, .val (.int p1), .val (.int p2), .val (.int p3), .val (.int p4), .val (.int p5), .val (.int (1 : Int32)), .val (.int c0), .val (.int c1), .val (.int c2), .val (.int c3), .val (.int (0 : Int32)), .val (.int cnt), .val (.int cnt), .unset, .unset]) W185.here hx (hb hby at_124) rfl rfl ?_
      refine g_iload (pc' := 128) W185.here hx (hb hby at_126) rfl rfl ?_
      refine g_iload (pc' := 130) W185.here hx (hb hby at_128) rfl rfl ?_
      refine g_iload (pc' := 132) W185.here hx (hb hby at_130) rfl rfl ?_
      refine g_iload (pc' := 134) W185.here hx (hb hby at_132) rfl rfl ?_
      refine g_iload (pc' := 136) W185.here hx (hb hby at_134) rfl rfl ?_
      refine w_callS (pc' := 139) (st := []) (y := (⟨"com/example/itihasa/itihasa/model/TextRequireLengthPinLaw", "build", "(ICCCC)Ljava/lang/String;"⟩ : MethodName)) W185 hx [(.int (1 : Int32)), (.int c0), (.int c1), (.int c2), (.int c3)] (hw _ (List.mem_of_getElem? w_17)) (hw _ (List.mem_of_getElem? w_18)) (hw _ (List.mem_of_getElem? w_2)) (hw _ (List.mem_of_getElem? w_19)) (by decide) (c_build1 l Z a0 hw hE cc fm c0 c1 c2 c3 h184 W185.old G GU r_c0 r_c1 r_c2 r_c3) all0 (by rw [hml]; rfl) (lenOf pd_21 rfl) rfl (hb hby at_136) (Nat.le_of_ble_eq_true rfl) (Nat.le_of_ble_eq_true rfl) (Nat.le_of_ble_eq_true rfl) (Nat.le_of_ble_eq_true rfl) rfl fun v193 T193 h193 W193 K193 Q193 => ?_
      have z_K193 : h184.size ≤ h193.size := K193.1
      obtain ⟨sa194, sb194, rfl, S194⟩ := Q193
      have ES194 := S194.exa
      have lt_sa194 : sa194 < h193.size := S194.lt
      have lt_sb194 : sb194 < h193.size := S194.ltb
      refine g_astore (pc' := 141) (Ls' := #[.val (.long p0), .second, .val (.int p1), .val (.int p2), .val (.int p3), .val (.int p4), .val (.int p5), .val (.int (1 : Int32)), .val (.int c0), .val (.int c1), .val (.int c2), .val (.int c3), .val (.int (0 : Int32)), .val (.int cnt), .val (.int cnt), .val (.ref sa194), .unset]) W193.here hx (hb hby at_139) rfl rfl rfl ?_
      refine g_iload (pc' := 143) W193.here hx (hb hby at_141) rfl rfl ?_
      refine g_sipush (255 : Int32) (pc' := 146) W193.here hx (hb hby at_143) rfl rfl ?_
      refine g_iand (pc' := 147) W193.here hx (hb hby at_146) rfl ?_
      refine g_i2c (pc' := 148) W193.here hx (hb hby at_147) rfl ?_
      obtain ⟨kw, hkw⟩ : ∃ zz_ : Int32, zz_ = ((p5 &&& (255 : Int32)).toUInt32.toUInt16.toUInt32.toInt32) := ⟨_, rfl⟩
      refine g_name (congrArg Value.int hkw) ?_
      have hlw : 0 ≤ kw.toInt ∧ kw.toInt ≤ 255 := by rw [hkw]; exact own_byte _
      refine w_callS (pc' := 151) (st := []) (y := (⟨"java/lang/String", "valueOf", "(C)Ljava/lang/String;"⟩ : MethodName)) W193 hx [(.int kw)] (hw _ (List.mem_of_getElem? w_69)) (hw _ (List.mem_of_getElem? w_70)) (hw _ (List.mem_of_getElem? w_22)) (hw _ (List.mem_of_getElem? w_71)) (by decide) (c_valueOfC l Z a0 hw hE cc fm kw h193 W193.old G GU hlw) all0 (by rw [hml]; rfl) (lenOf pd_22 rfl) rfl (hb hby at_148) (Nat.le_of_ble_eq_true rfl) (Nat.le_of_ble_eq_true rfl) (Nat.le_of_ble_eq_true rfl) (Nat.le_of_ble_eq_true rfl) rfl fun v195 T195 h195 W195 K195 Q195 => ?_
      have z_K195 : h193.size ≤ h195.size := K195.1
      obtain ⟨va196, vb196, rfl, gz196, S196⟩ := Q195
      have S196g : SG Z h195 va196 vb196 [kw] := Or.inl S196
      have ES196g := S196g.exa
      have lt_va196 : va196 < h195.size := S196g.lt
      have lt_vb196 : vb196 < h195.size := S196g.ltb
      refine g_astore (pc' := 153) (Ls' := #[.val (.long p0), .second, .val (.int p1), .val (.int p2), .val (.int p3), .val (.int p4), .val (.int p5), .val (.int (1 : Int32)), .val (.int c0), .val (.int c1), .val (.int c2), .val (.int c3), .val (.int (0 : Int32)), .val (.int cnt), .val (.int cnt), .val (.ref sa194), .val (.ref va196)]) W195.here hx (hb hby at_151) rfl rfl rfl ?_
      refine g_aload (pc' := 155) W195.here hx (hb hby at_153) rfl rfl rfl ?_
      refine g_aload (pc' := 157) W195.here hx (hb hby at_155) rfl rfl rfl ?_
      refine g_iload (pc' := 159) W195.here hx (hb hby at_157) rfl rfl ?_
      have c197 := (S194.keep K195 nin0 nin0)
      refine w_callSp (pc' := 162) (st := []) (y := (⟨"com/example/itihasa/itihasa/model/Text", "requireLength", "(Ljava/lang/String;Ljava/lang/String;I)V"⟩ : MethodName)) W195 hx [(.ref sa194), (.ref va196), (.int cnt)] (hw _ (List.mem_of_getElem? w_83)) (hw _ (List.mem_of_getElem? w_84)) (hw _ (List.mem_of_getElem? w_85)) (hw _ (List.mem_of_getElem? w_86)) (by decide) (c_req l Z a0 hw hE cc fm sa194 sb194 [c0] (.ref va196) cnt h195 W195.old G GU rfl c197 (Nat.le_of_ble_eq_true rfl) (by simp) (by rw [← hcnt', Int32.lt_iff_toInt_lt]; omega)) (by rw [hml]; rfl) (lenOf pd_23 rfl) rfl (hb hby at_159) (Nat.le_of_ble_eq_true rfl) (Nat.le_of_ble_eq_true rfl) rfl rfl (Nat.le_of_ble_eq_true rfl) (Nat.le_of_ble_eq_true rfl) rfl fun T198 W198 => ?_
      refine g_iconst (1 : Int32) (pc' := 163) W198.here hx (hb hby at_162) rfl rfl ?_
      refine w_retN (t := .boolean) W198 hx hh hlk hret (by simp) (hb hby at_163) (Nat.le_of_ble_eq_true rfl) (Nat.le_of_ble_eq_true rfl) ?_
      exact rfl
  · by_cases h2 : nn = (2 : Int32)
    · refine g_name (w := .int (2 : Int32)) (congrArg Value.int h2.symm) ?_
      refine g_istore (pc' := 7) (Ls' := #[.val (.long p0), .second, .val (.int p1), .val (.int p2), .val (.int p3), .val (.int p4), .val (.int p5), .val (.int (2 : Int32)), .unset, .unset, .unset, .unset, .unset, .unset, .unset, .unset, .unset]) W0.here hx (hb hby at_5) rfl rfl ?_
      refine g_lloadN (pc' := 8) W0.here hx (hb hby at_7) rfl rfl ?_
      refine g_iloadN (pc' := 9) W0.here hx (hb hby at_8) rfl rfl ?_
      refine g_iconst (0 : Int32) (pc' := 10) W0.here hx (hb hby at_9) rfl rfl ?_
      refine w_callS (pc' := 13) (st := []) (y := (⟨"com/example/itihasa/itihasa/model/TextRequireLengthPinLaw", "draw", "(JII)C"⟩ : MethodName)) W0 hx [(.long p0), (.int p1), (.int (0 : Int32))] (hw _ (List.mem_of_getElem? w_0)) (hw _ (List.mem_of_getElem? w_1)) (hw _ (List.mem_of_getElem? w_2)) (hw _ (List.mem_of_getElem? w_3)) (by decide) (c_draw l Z a0 hw hE p0 p1 (0 : Int32) h0 W0.old) all0 (by rw [hml]; rfl) (lenOf pd_20 rfl) rfl (hb hby at_10) (Nat.le_of_ble_eq_true rfl) (Nat.le_of_ble_eq_true rfl) (Nat.le_of_ble_eq_true rfl) (Nat.le_of_ble_eq_true rfl) rfl fun v199 T199 h199 W199 K199 Q199 => ?_
      have z_K199 : h0.size ≤ h199.size := K199.1
      obtain ⟨c0, rfl, r_c0⟩ := Q199
      refine g_istore (pc' := 15) (Ls' := #[.val (.long p0), .second, .val (.int p1), .val (.int p2), .val (.int p3), .val (.int p4), .val (.int p5), .val (.int (2 : Int32)), .val (.int c0), .unset, .unset, .unset, .unset, .unset, .unset, .unset, .unset]) W199.here hx (hb hby at_13) rfl rfl ?_
      refine g_lloadN (pc' := 16) W199.here hx (hb hby at_15) rfl rfl ?_
      refine g_iloadN (pc' := 17) W199.here hx (hb hby at_16) rfl rfl ?_
      refine g_iconst (1 : Int32) (pc' := 18) W199.here hx (hb hby at_17) rfl rfl ?_
      refine w_callS (pc' := 21) (st := []) (y := (⟨"com/example/itihasa/itihasa/model/TextRequireLengthPinLaw", "draw", "(JII)C"⟩ : MethodName)) W199 hx [(.long p0), (.int p1), (.int (1 : Int32))] (hw _ (List.mem_of_getElem? w_0)) (hw _ (List.mem_of_getElem? w_1)) (hw _ (List.mem_of_getElem? w_2)) (hw _ (List.mem_of_getElem? w_3)) (by decide) (c_draw l Z a0 hw hE p0 p1 (1 : Int32) h199 W199.old) all0 (by rw [hml]; rfl) (lenOf pd_20 rfl) rfl (hb hby at_18) (Nat.le_of_ble_eq_true rfl) (Nat.le_of_ble_eq_true rfl) (Nat.le_of_ble_eq_true rfl) (Nat.le_of_ble_eq_true rfl) rfl fun v200 T200 h200 W200 K200 Q200 => ?_
      have z_K200 : h199.size ≤ h200.size := K200.1
      obtain ⟨c1, rfl, r_c1⟩ := Q200
      refine g_istore (pc' := 23) (Ls' := #[.val (.long p0), .second, .val (.int p1), .val (.int p2), .val (.int p3), .val (.int p4), .val (.int p5), .val (.int (2 : Int32)), .val (.int c0), .val (.int c1), .unset, .unset, .unset, .unset, .unset, .unset, .unset]) W200.here hx (hb hby at_21) rfl rfl ?_
      refine g_lloadN (pc' := 24) W200.here hx (hb hby at_23) rfl rfl ?_
      refine g_iloadN (pc' := 25) W200.here hx (hb hby at_24) rfl rfl ?_
      refine g_iconst (2 : Int32) (pc' := 26) W200.here hx (hb hby at_25) rfl rfl ?_
      refine w_callS (pc' := 29) (st := []) (y := (⟨"com/example/itihasa/itihasa/model/TextRequireLengthPinLaw", "draw", "(JII)C"⟩ : MethodName)) W200 hx [(.long p0), (.int p1), (.int (2 : Int32))] (hw _ (List.mem_of_getElem? w_0)) (hw _ (List.mem_of_getElem? w_1)) (hw _ (List.mem_of_getElem? w_2)) (hw _ (List.mem_of_getElem? w_3)) (by decide) (c_draw l Z a0 hw hE p0 p1 (2 : Int32) h200 W200.old) all0 (by rw [hml]; rfl) (lenOf pd_20 rfl) rfl (hb hby at_26) (Nat.le_of_ble_eq_true rfl) (Nat.le_of_ble_eq_true rfl) (Nat.le_of_ble_eq_true rfl) (Nat.le_of_ble_eq_true rfl) rfl fun v201 T201 h201 W201 K201 Q201 => ?_
      have z_K201 : h200.size ≤ h201.size := K201.1
      obtain ⟨c2, rfl, r_c2⟩ := Q201
      refine g_istore (pc' := 31) (Ls' := #[.val (.long p0), .second, .val (.int p1), .val (.int p2), .val (.int p3), .val (.int p4), .val (.int p5), .val (.int (2 : Int32)), .val (.int c0), .val (.int c1), .val (.int c2), .unset, .unset, .unset, .unset, .unset, .unset]) W201.here hx (hb hby at_29) rfl rfl ?_
      refine g_lloadN (pc' := 32) W201.here hx (hb hby at_31) rfl rfl ?_
      refine g_iloadN (pc' := 33) W201.here hx (hb hby at_32) rfl rfl ?_
      refine g_iconst (3 : Int32) (pc' := 34) W201.here hx (hb hby at_33) rfl rfl ?_
      refine w_callS (pc' := 37) (st := []) (y := (⟨"com/example/itihasa/itihasa/model/TextRequireLengthPinLaw", "draw", "(JII)C"⟩ : MethodName)) W201 hx [(.long p0), (.int p1), (.int (3 : Int32))] (hw _ (List.mem_of_getElem? w_0)) (hw _ (List.mem_of_getElem? w_1)) (hw _ (List.mem_of_getElem? w_2)) (hw _ (List.mem_of_getElem? w_3)) (by decide) (c_draw l Z a0 hw hE p0 p1 (3 : Int32) h201 W201.old) all0 (by rw [hml]; rfl) (lenOf pd_20 rfl) rfl (hb hby at_34) (Nat.le_of_ble_eq_true rfl) (Nat.le_of_ble_eq_true rfl) (Nat.le_of_ble_eq_true rfl) (Nat.le_of_ble_eq_true rfl) rfl fun v202 T202 h202 W202 K202 Q202 => ?_
      have z_K202 : h201.size ≤ h202.size := K202.1
      obtain ⟨c3, rfl, r_c3⟩ := Q202
      refine g_istore (pc' := 39) (Ls' := #[.val (.long p0), .second, .val (.int p1), .val (.int p2), .val (.int p3), .val (.int p4), .val (.int p5), .val (.int (2 : Int32)), .val (.int c0), .val (.int c1), .val (.int c2), .val (.int c3), .unset, .unset, .unset, .unset, .unset]) W202.here hx (hb hby at_37) rfl rfl ?_
      refine g_iconst (0 : Int32) (pc' := 40) W202.here hx (hb hby at_39) rfl rfl ?_
      refine g_istore (pc' := 42) (Ls' := #[.val (.long p0), .second, .val (.int p1), .val (.int p2), .val (.int p3), .val (.int p4), .val (.int p5), .val (.int (2 : Int32)), .val (.int c0), .val (.int c1), .val (.int c2), .val (.int c3), .val (.int (0 : Int32)), .unset, .unset, .unset, .unset]) W202.here hx (hb hby at_40) rfl rfl ?_
      refine g_iload (pc' := 44) W202.here hx (hb hby at_42) rfl rfl ?_
      refine g_iconst (2 : Int32) (pc' := 45) W202.here hx (hb hby at_44) rfl rfl ?_
      refine g_icmpN (pc' := 48) W202.here hx (hb hby at_45) rfl (flt (show ¬ ((2 : Int32) < (2 : Int32)) from (by decide))).1 ?_
      refine g_iload (pc' := 50) W202.here hx (hb hby at_48) rfl rfl ?_
      refine g_iload (pc' := 52) W202.here hx (hb hby at_50) rfl rfl ?_
      refine g_iload (pc' := 54) W202.here hx (hb hby at_52) rfl rfl ?_
      refine w_callSp (pc' := 57) (st := [(.int (0 : Int32))]) (y := (⟨"com/example/itihasa/itihasa/model/TextRequireLengthPinLaw", "pair", "(CC)I"⟩ : MethodName)) W202 hx [(.int c0), (.int c1)] (hw _ (List.mem_of_getElem? w_6)) (hw _ (List.mem_of_getElem? w_7)) (hw _ (List.mem_of_getElem? w_2)) (hw _ (List.mem_of_getElem? w_8)) (by decide) (c_pair l Z a0 hw hE c0 c1 h202 W202.old) (by rw [hml]; rfl) (lenOf pd_24 rfl) rfl (hb hby at_54) (Nat.le_of_ble_eq_true rfl) (Nat.le_of_ble_eq_true rfl) rfl rfl (Nat.le_of_ble_eq_true rfl) (Nat.le_of_ble_eq_true rfl) rfl fun T203 W203 => ?_
      refine g_iadd (pc' := 58) W203.here hx (hb hby at_57) rfl ?_
      refine g_istore (pc' := 60) (Ls' := #[.val (.long p0), .second, .val (.int p1), .val (.int p2), .val (.int p3), .val (.int p4), .val (.int p5), .val (.int (2 : Int32)), .val (.int c0), .val (.int c1), .val (.int c2), .val (.int c3), .val (.int ((0 : Int32) + (prI c0 c1))), .unset, .unset, .unset, .unset]) W203.here hx (hb hby at_58) rfl rfl ?_
      refine g_iload (pc' := 62) W203.here hx (hb hby at_60) rfl rfl ?_
      refine g_iconst (3 : Int32) (pc' := 63) W203.here hx (hb hby at_62) rfl rfl ?_
      refine g_icmpY (pc' := 78) W203.here hx (hb hby at_63) rfl (tlt (show (2 : Int32) < (3 : Int32) from (by decide))).1 ?_
      refine g_iload (pc' := 80) W203.here hx (hb hby at_78) rfl rfl ?_
      refine g_iconst (4 : Int32) (pc' := 81) W203.here hx (hb hby at_80) rfl rfl ?_
      refine g_icmpY (pc' := 96) W203.here hx (hb hby at_81) rfl (tlt (show (2 : Int32) < (4 : Int32) from (by decide))).1 ?_
      refine g_iload (pc' := 98) W203.here hx (hb hby at_96) rfl rfl ?_
      refine g_iload (pc' := 100) W203.here hx (hb hby at_98) rfl rfl ?_
      refine g_isub (pc' := 101) W203.here hx (hb hby at_100) rfl ?_
      obtain ⟨cnt, hcnt⟩ : ∃ zz_ : Int32, zz_ = ((2 : Int32) - ((0 : Int32) + (prI c0 c1))) := ⟨_, rfl⟩
      refine g_name (congrArg Value.int hcnt) ?_
      have hcnt' := hcnt.trans (own_cnt2 c0 c1)
      refine g_istore (pc' := 103) (Ls' := #[.val (.long p0), .second, .val (.int p1), .val (.int p2), .val (.int p3), .val (.int p4), .val (.int p5), .val (.int (2 : Int32)), .val (.int c0), .val (.int c1), .val (.int c2), .val (.int c3), .val (.int ((0 : Int32) + (prI c0 c1))), .val (.int cnt), .unset, .unset, .unset]) W203.here hx (hb hby at_101) rfl rfl ?_
      refine g_iload (pc' := 105) W203.here hx (hb hby at_103) rfl rfl ?_
      refine g_iload (pc' := 107) W203.here hx (hb hby at_105) rfl rfl ?_
      refine w_ldcI (pc' := 109) W203 hx (hw _ (List.mem_of_getElem? w_12)) (hb hby at_107) rfl ?_
      refine g_iand (pc' := 110) W203.here hx (hb hby at_109) rfl ?_
      refine w_callSp (pc' := 113) (st := []) (y := (⟨"java/lang/Math", "max", "(II)I"⟩ : MethodName)) W203 hx [(.int cnt), (.int (p3 &&& (2147483647 : Int32)))] (hw _ (List.mem_of_getElem? w_13)) (hw _ (List.mem_of_getElem? w_14)) (hw _ (List.mem_of_getElem? w_15)) (hw _ (List.mem_of_getElem? w_16)) (by decide) (c_max l Z a0 hw hE cnt (p3 &&& (2147483647 : Int32)) h202 W203.old) (by rw [hml]; rfl) (lenOf pd_19 rfl) rfl (hb hby at_110) (Nat.le_of_ble_eq_true rfl) (Nat.le_of_ble_eq_true rfl) rfl rfl (Nat.le_of_ble_eq_true rfl) (Nat.le_of_ble_eq_true rfl) rfl fun T204 W204 => ?_
      obtain ⟨mx, hmx0⟩ : ∃ zz_ : Int32, zz_ = (if cnt < (p3 &&& (2147483647 : Int32)) then (p3 &&& (2147483647 : Int32)) else cnt) := ⟨_, rfl⟩
      refine g_name (congrArg Value.int hmx0) ?_
      have hmx : ¬ mx < cnt := by rw [hmx0]; split <;> (rw [Int32.lt_iff_toInt_lt] at *; omega)
      refine g_istore (pc' := 115) (Ls' := #[.val (.long p0), .second, .val (.int p1), .val (.int p2), .val (.int p3), .val (.int p4), .val (.int p5), .val (.int (2 : Int32)), .val (.int c0), .val (.int c1), .val (.int c2), .val (.int c3), .val (.int ((0 : Int32) + (prI c0 c1))), .val (.int cnt), .val (.int mx), .unset, .unset]) W204.here hx (hb hby at_113) rfl rfl ?_
      refine g_iload (pc' := 117) W204.here hx (hb hby at_115) rfl rfl ?_
      refine g_iconst (1 : Int32) (pc' := 118) W204.here hx (hb hby at_117) rfl rfl ?_
      refine g_iand (pc' := 119) W204.here hx (hb hby at_118) rfl ?_
      by_cases hc119_205 : (p4 &&& (1 : Int32)) = (0 : Int32)
      · refine g_ifY (pc' := 126) W204.here hx (hb hby at_119) rfl (teq hc119_205).1 ?_
        refine g_iload (pc' := 128) W204.here hx (hb hby at_126) rfl rfl ?_
        refine g_iload (pc' := 130) W204.here hx (hb hby at_128) rfl rfl ?_
        refine g_iload (pc' := 132) W204.here hx (hb hby at_130) rfl rfl ?_
        refine g_iload (pc' := 134) W204.here hx (hb hby at_132) rfl rfl ?_
        refine g_iload (pc' := 136) W204.here hx (hb hby at_134) rfl rfl ?_
        refine w_callS (pc' := 139) (st := []) (y := (⟨"com/example/itihasa/itihasa/model/TextRequireLengthPinLaw", "build", "(ICCCC)Ljava/lang/String;"⟩ : MethodName)) W204 hx [(.int (2 : Int32)), (.int c0), (.int c1), (.int c2), (.int c3)] (hw _ (List.mem_of_getElem? w_17)) (hw _ (List.mem_of_getElem? w_18)) (hw _ (List.mem_of_getElem? w_2)) (hw _ (List.mem_of_getElem? w_19)) (by decide) (c_build2 l Z a0 hw hE cc fm c0 c1 c2 c3 h202 W204.old G GU r_c0 r_c1 r_c2 r_c3) all0 (by rw [hml]; rfl) (lenOf pd_21 rfl) rfl (hb hby at_136) (Nat.le_of_ble_eq_true rfl) (Nat.le_of_ble_eq_true rfl) (Nat.le_of_ble_eq_true rfl) (Nat.le_of_ble_eq_true rfl) rfl fun v206 T206 h206 W206 K206 Q206 => ?_
        have z_K206 : h202.size ≤ h206.size := K206.1
        obtain ⟨sa207, sb207, rfl, S207⟩ := Q206
        have ES207 := S207.exa
        have lt_sa207 : sa207 < h206.size := S207.lt
        have lt_sb207 : sb207 < h206.size := S207.ltb
        refine g_astore (pc' := 141) (Ls' := #[.val (.long p0), .second, .val (.int p1), .val (.int p2), .val (.int p3), .val (.int p4), .val (.int p5), .val (.int (2 : Int32)), .val (.int c0), .val (.int c1), .val (.int c2), .val (.int c3), .val (.int ((0 : Int32) + (prI c0 c1))), .val (.int cnt), .val (.int mx), .val (.ref sa207), .unset]) W206.here hx (hb hby at_139) rfl rfl rfl ?_
        refine g_iload (pc' := 143) W206.here hx (hb hby at_141) rfl rfl ?_
        refine g_sipush (255 : Int32) (pc' := 146) W206.here hx (hb hby at_143) rfl rfl ?_
        refine g_iand (pc' := 147) W206.here hx (hb hby at_146) rfl ?_
        refine g_i2c (pc' := 148) W206.here hx (hb hby at_147) rfl ?_
        obtain ⟨kw, hkw⟩ : ∃ zz_ : Int32, zz_ = ((p5 &&& (255 : Int32)).toUInt32.toUInt16.toUInt32.toInt32) := ⟨_, rfl⟩
        refine g_name (congrArg Value.int hkw) ?_
        have hlw : 0 ≤ kw.toInt ∧ kw.toInt ≤ 255 := by rw [hkw]; exact own_byte _
        refine w_callS (pc' := 151) (st := []) (y := (⟨"java/lang/String", "valueOf", "(C)Ljava/lang/String;"⟩ : MethodName)) W206 hx [(.int kw)] (hw _ (List.mem_of_getElem? w_69)) (hw _ (List.mem_of_getElem? w_70)) (hw _ (List.mem_of_getElem? w_22)) (hw _ (List.mem_of_getElem? w_71)) (by decide) (c_valueOfC l Z a0 hw hE cc fm kw h206 W206.old G GU hlw) all0 (by rw [hml]; rfl) (lenOf pd_22 rfl) rfl (hb hby at_148) (Nat.le_of_ble_eq_true rfl) (Nat.le_of_ble_eq_true rfl) (Nat.le_of_ble_eq_true rfl) (Nat.le_of_ble_eq_true rfl) rfl fun v208 T208 h208 W208 K208 Q208 => ?_
        have z_K208 : h206.size ≤ h208.size := K208.1
        obtain ⟨va209, vb209, rfl, gz209, S209⟩ := Q208
        have S209g : SG Z h208 va209 vb209 [kw] := Or.inl S209
        have ES209g := S209g.exa
        have lt_va209 : va209 < h208.size := S209g.lt
        have lt_vb209 : vb209 < h208.size := S209g.ltb
        refine g_astore (pc' := 153) (Ls' := #[.val (.long p0), .second, .val (.int p1), .val (.int p2), .val (.int p3), .val (.int p4), .val (.int p5), .val (.int (2 : Int32)), .val (.int c0), .val (.int c1), .val (.int c2), .val (.int c3), .val (.int ((0 : Int32) + (prI c0 c1))), .val (.int cnt), .val (.int mx), .val (.ref sa207), .val (.ref va209)]) W208.here hx (hb hby at_151) rfl rfl rfl ?_
        refine g_aload (pc' := 155) W208.here hx (hb hby at_153) rfl rfl rfl ?_
        refine g_aload (pc' := 157) W208.here hx (hb hby at_155) rfl rfl rfl ?_
        refine g_iload (pc' := 159) W208.here hx (hb hby at_157) rfl rfl ?_
        have c210 := (S207.keep K208 nin0 nin0)
        refine w_callSp (pc' := 162) (st := []) (y := (⟨"com/example/itihasa/itihasa/model/Text", "requireLength", "(Ljava/lang/String;Ljava/lang/String;I)V"⟩ : MethodName)) W208 hx [(.ref sa207), (.ref va209), (.int mx)] (hw _ (List.mem_of_getElem? w_83)) (hw _ (List.mem_of_getElem? w_84)) (hw _ (List.mem_of_getElem? w_85)) (hw _ (List.mem_of_getElem? w_86)) (by decide) (c_req l Z a0 hw hE cc fm sa207 sb207 [c0, c1] (.ref va209) mx h208 W208.old G GU rfl c210 (Nat.le_of_ble_eq_true rfl) (by simp) (by rw [← hcnt']; exact hmx)) (by rw [hml]; rfl) (lenOf pd_23 rfl) rfl (hb hby at_159) (Nat.le_of_ble_eq_true rfl) (Nat.le_of_ble_eq_true rfl) rfl rfl (Nat.le_of_ble_eq_true rfl) (Nat.le_of_ble_eq_true rfl) rfl fun T211 W211 => ?_
        refine g_iconst (1 : Int32) (pc' := 163) W211.here hx (hb hby at_162) rfl rfl ?_
        refine w_retN (t := .boolean) W211 hx hh hlk hret (by simp) (hb hby at_163) (Nat.le_of_ble_eq_true rfl) (Nat.le_of_ble_eq_true rfl) ?_
        exact rfl
      · refine g_ifN (pc' := 122) W204.here hx (hb hby at_119) rfl (feq hc119_205).1 ?_
        refine g_iload (pc' := 124) W204.here hx (hb hby at_122) rfl rfl ?_
        refine g_istore (pc' := 126) (Ls' := #[.val (.long p0), .second, .val (.int p1), .val (.int p2), .val (.int p3), .val (.int p4), .val (.int p5), .val (.int (2 : Int32)), .val (.int c0), .val (.int c1), .val (.int c2), .val (.int c3), .val (.int ((0 : Int32) + (prI c0 c1))), .val (.int cnt), .val (.int cnt), .unset, .unset]) W204.here hx (hb hby at_124) rfl rfl ?_
        refine g_iload (pc' := 128) W204.here hx (hb hby at_126) rfl rfl ?_
        refine g_iload (pc' := 130) W204.here hx (hb hby at_128) rfl rfl ?_
        refine g_iload (pc' := 132) W204.here hx (hb hby at_130) rfl rfl ?_
        refine g_iload (pc' := 134) W204.here hx (hb hby at_132) rfl rfl ?_
        refine g_iload (pc' := 136) W204.here hx (hb hby at_134) rfl rfl ?_
        refine w_callS (pc' := 139) (st := []) (y := (⟨"com/example/itihasa/itihasa/model/TextRequireLengthPinLaw", "build", "(ICCCC)Ljava/lang/String;"⟩ : MethodName)) W204 hx [(.int (2 : Int32)), (.int c0), (.int c1), (.int c2), (.int c3)] (hw _ (List.mem_of_getElem? w_17)) (hw _ (List.mem_of_getElem? w_18)) (hw _ (List.mem_of_getElem? w_2)) (hw _ (List.mem_of_getElem? w_19)) (by decide) (c_build2 l Z a0 hw hE cc fm c0 c1 c2 c3 h202 W204.old G GU r_c0 r_c1 r_c2 r_c3) all0 (by rw [hml]; rfl) (lenOf pd_21 rfl) rfl (hb hby at_136) (Nat.le_of_ble_eq_true rfl) (Nat.le_of_ble_eq_true rfl) (Nat.le_of_ble_eq_true rfl) (Nat.le_of_ble_eq_true rfl) rfl fun v212 T212 h212 W212 K212 Q212 => ?_
        have z_K212 : h202.size ≤ h212.size := K212.1
        obtain ⟨sa213, sb213, rfl, S213⟩ := Q212
        have ES213 := S213.exa
        have lt_sa213 : sa213 < h212.size := S213.lt
        have lt_sb213 : sb213 < h212.size := S213.ltb
        refine g_astore (pc' := 141) (Ls' := #[.val (.long p0), .second, .val (.int p1), .val (.int p2), .val (.int p3), .val (.int p4), .val (.int p5), .val (.int (2 : Int32)), .val (.int c0), .val (.int c1), .val (.int c2), .val (.int c3), .val (.int ((0 : Int32) + (prI c0 c1))), .val (.int cnt), .val (.int cnt), .val (.ref sa213), .unset]) W212.here hx (hb hby at_139) rfl rfl rfl ?_
        refine g_iload (pc' := 143) W212.here hx (hb hby at_141) rfl rfl ?_
        refine g_sipush (255 : Int32) (pc' := 146) W212.here hx (hb hby at_143) rfl rfl ?_
        refine g_iand (pc' := 147) W212.here hx (hb hby at_146) rfl ?_
        refine g_i2c (pc' := 148) W212.here hx (hb hby at_147) rfl ?_
        obtain ⟨kw, hkw⟩ : ∃ zz_ : Int32, zz_ = ((p5 &&& (255 : Int32)).toUInt32.toUInt16.toUInt32.toInt32) := ⟨_, rfl⟩
        refine g_name (congrArg Value.int hkw) ?_
        have hlw : 0 ≤ kw.toInt ∧ kw.toInt ≤ 255 := by rw [hkw]; exact own_byte _
        refine w_callS (pc' := 151) (st := []) (y := (⟨"java/lang/String", "valueOf", "(C)Ljava/lang/String;"⟩ : MethodName)) W212 hx [(.int kw)] (hw _ (List.mem_of_getElem? w_69)) (hw _ (List.mem_of_getElem? w_70)) (hw _ (List.mem_of_getElem? w_22)) (hw _ (List.mem_of_getElem? w_71)) (by decide) (c_valueOfC l Z a0 hw hE cc fm kw h212 W212.old G GU hlw) all0 (by rw [hml]; rfl) (lenOf pd_22 rfl) rfl (hb hby at_148) (Nat.le_of_ble_eq_true rfl) (Nat.le_of_ble_eq_true rfl) (Nat.le_of_ble_eq_true rfl) (Nat.le_of_ble_eq_true rfl) rfl fun v214 T214 h214 W214 K214 Q214 => ?_
        have z_K214 : h212.size ≤ h214.size := K214.1
        obtain ⟨va215, vb215, rfl, gz215, S215⟩ := Q214
        have S215g : SG Z h214 va215 vb215 [kw] := Or.inl S215
        have ES215g := S215g.exa
        have lt_va215 : va215 < h214.size := S215g.lt
        have lt_vb215 : vb215 < h214.size := S215g.ltb
        refine g_astore (pc' := 153) (Ls' := #[.val (.long p0), .second, .val (.int p1), .val (.int p2), .val (.int p3), .val (.int p4), .val (.int p5), .val (.int (2 : Int32)), .val (.int c0), .val (.int c1), .val (.int c2), .val (.int c3), .val (.int ((0 : Int32) + (prI c0 c1))), .val (.int cnt), .val (.int cnt), .val (.ref sa213), .val (.ref va215)]) W214.here hx (hb hby at_151) rfl rfl rfl ?_
        refine g_aload (pc' := 155) W214.here hx (hb hby at_153) rfl rfl rfl ?_
        refine g_aload (pc' := 157) W214.here hx (hb hby at_155) rfl rfl rfl ?_
        refine g_iload (pc' := 159) W214.here hx (hb hby at_157) rfl rfl ?_
        have c216 := (S213.keep K214 nin0 nin0)
        refine w_callSp (pc' := 162) (st := []) (y := (⟨"com/example/itihasa/itihasa/model/Text", "requireLength", "(Ljava/lang/String;Ljava/lang/String;I)V"⟩ : MethodName)) W214 hx [(.ref sa213), (.ref va215), (.int cnt)] (hw _ (List.mem_of_getElem? w_83)) (hw _ (List.mem_of_getElem? w_84)) (hw _ (List.mem_of_getElem? w_85)) (hw _ (List.mem_of_getElem? w_86)) (by decide) (c_req l Z a0 hw hE cc fm sa213 sb213 [c0, c1] (.ref va215) cnt h214 W214.old G GU rfl c216 (Nat.le_of_ble_eq_true rfl) (by simp) (by rw [← hcnt', Int32.lt_iff_toInt_lt]; omega)) (by rw [hml]; rfl) (lenOf pd_23 rfl) rfl (hb hby at_159) (Nat.le_of_ble_eq_true rfl) (Nat.le_of_ble_eq_true rfl) rfl rfl (Nat.le_of_ble_eq_true rfl) (Nat.le_of_ble_eq_true rfl) rfl fun T217 W217 => ?_
        refine g_iconst (1 : Int32) (pc' := 163) W217.here hx (hb hby at_162) rfl rfl ?_
        refine w_retN (t := .boolean) W217 hx hh hlk hret (by simp) (hb hby at_163) (Nat.le_of_ble_eq_true rfl) (Nat.le_of_ble_eq_true rfl) ?_
        exact rfl
    · by_cases h3 : nn = (3 : Int32)
      · refine g_name (w := .int (3 : Int32)) (congrArg Value.int h3.symm) ?_
        refine g_istore (pc' := 7) (Ls' := #[.val (.long p0), .second, .val (.int p1), .val (.int p2), .val (.int p3), .val (.int p4), .val (.int p5), .val (.int (3 : Int32)), .unset, .unset, .unset, .unset, .unset, .unset, .unset, .unset, .unset]) W0.here hx (hb hby at_5) rfl rfl ?_
        refine g_lloadN (pc' := 8) W0.here hx (hb hby at_7) rfl rfl ?_
        refine g_iloadN (pc' := 9) W0.here hx (hb hby at_8) rfl rfl ?_
        refine g_iconst (0 : Int32) (pc' := 10) W0.here hx (hb hby at_9) rfl rfl ?_
        refine w_callS (pc' := 13) (st := []) (y := (⟨"com/example/itihasa/itihasa/model/TextRequireLengthPinLaw", "draw", "(JII)C"⟩ : MethodName)) W0 hx [(.long p0), (.int p1), (.int (0 : Int32))] (hw _ (List.mem_of_getElem? w_0)) (hw _ (List.mem_of_getElem? w_1)) (hw _ (List.mem_of_getElem? w_2)) (hw _ (List.mem_of_getElem? w_3)) (by decide) (c_draw l Z a0 hw hE p0 p1 (0 : Int32) h0 W0.old) all0 (by rw [hml]; rfl) (lenOf pd_20 rfl) rfl (hb hby at_10) (Nat.le_of_ble_eq_true rfl) (Nat.le_of_ble_eq_true rfl) (Nat.le_of_ble_eq_true rfl) (Nat.le_of_ble_eq_true rfl) rfl fun v218 T218 h218 W218 K218 Q218 => ?_
        have z_K218 : h0.size ≤ h218.size := K218.1
        obtain ⟨c0, rfl, r_c0⟩ := Q218
        refine g_istore (pc' := 15) (Ls' := #[.val (.long p0), .second, .val (.int p1), .val (.int p2), .val (.int p3), .val (.int p4), .val (.int p5), .val (.int (3 : Int32)), .val (.int c0), .unset, .unset, .unset, .unset, .unset, .unset, .unset, .unset]) W218.here hx (hb hby at_13) rfl rfl ?_
        refine g_lloadN (pc' := 16) W218.here hx (hb hby at_15) rfl rfl ?_
        refine g_iloadN (pc' := 17) W218.here hx (hb hby at_16) rfl rfl ?_
        refine g_iconst (1 : Int32) (pc' := 18) W218.here hx (hb hby at_17) rfl rfl ?_
        refine w_callS (pc' := 21) (st := []) (y := (⟨"com/example/itihasa/itihasa/model/TextRequireLengthPinLaw", "draw", "(JII)C"⟩ : MethodName)) W218 hx [(.long p0), (.int p1), (.int (1 : Int32))] (hw _ (List.mem_of_getElem? w_0)) (hw _ (List.mem_of_getElem? w_1)) (hw _ (List.mem_of_getElem? w_2)) (hw _ (List.mem_of_getElem? w_3)) (by decide) (c_draw l Z a0 hw hE p0 p1 (1 : Int32) h218 W218.old) all0 (by rw [hml]; rfl) (lenOf pd_20 rfl) rfl (hb hby at_18) (Nat.le_of_ble_eq_true rfl) (Nat.le_of_ble_eq_true rfl) (Nat.le_of_ble_eq_true rfl) (Nat.le_of_ble_eq_true rfl) rfl fun v219 T219 h219 W219 K219 Q219 => ?_
        have z_K219 : h218.size ≤ h219.size := K219.1
        obtain ⟨c1, rfl, r_c1⟩ := Q219
        refine g_istore (pc' := 23) (Ls' := #[.val (.long p0), .second, .val (.int p1), .val (.int p2), .val (.int p3), .val (.int p4), .val (.int p5), .val (.int (3 : Int32)), .val (.int c0), .val (.int c1), .unset, .unset, .unset, .unset, .unset, .unset, .unset]) W219.here hx (hb hby at_21) rfl rfl ?_
        refine g_lloadN (pc' := 24) W219.here hx (hb hby at_23) rfl rfl ?_
        refine g_iloadN (pc' := 25) W219.here hx (hb hby at_24) rfl rfl ?_
        refine g_iconst (2 : Int32) (pc' := 26) W219.here hx (hb hby at_25) rfl rfl ?_
        refine w_callS (pc' := 29) (st := []) (y := (⟨"com/example/itihasa/itihasa/model/TextRequireLengthPinLaw", "draw", "(JII)C"⟩ : MethodName)) W219 hx [(.long p0), (.int p1), (.int (2 : Int32))] (hw _ (List.mem_of_getElem? w_0)) (hw _ (List.mem_of_getElem? w_1)) (hw _ (List.mem_of_getElem? w_2)) (hw _ (List.mem_of_getElem? w_3)) (by decide) (c_draw l Z a0 hw hE p0 p1 (2 : Int32) h219 W219.old) all0 (by rw [hml]; rfl) (lenOf pd_20 rfl) rfl (hb hby at_26) (Nat.le_of_ble_eq_true rfl) (Nat.le_of_ble_eq_true rfl) (Nat.le_of_ble_eq_true rfl) (Nat.le_of_ble_eq_true rfl) rfl fun v220 T220 h220 W220 K220 Q220 => ?_
        have z_K220 : h219.size ≤ h220.size := K220.1
        obtain ⟨c2, rfl, r_c2⟩ := Q220
        refine g_istore (pc' := 31) (Ls' := #[.val (.long p0), .second, .val (.int p1), .val (.int p2), .val (.int p3), .val (.int p4), .val (.int p5), .val (.int (3 : Int32)), .val (.int c0), .val (.int c1), .val (.int c2), .unset, .unset, .unset, .unset, .unset, .unset]) W220.here hx (hb hby at_29) rfl rfl ?_
        refine g_lloadN (pc' := 32) W220.here hx (hb hby at_31) rfl rfl ?_
        refine g_iloadN (pc' := 33) W220.here hx (hb hby at_32) rfl rfl ?_
        refine g_iconst (3 : Int32) (pc' := 34) W220.here hx (hb hby at_33) rfl rfl ?_
        refine w_callS (pc' := 37) (st := []) (y := (⟨"com/example/itihasa/itihasa/model/TextRequireLengthPinLaw", "draw", "(JII)C"⟩ : MethodName)) W220 hx [(.long p0), (.int p1), (.int (3 : Int32))] (hw _ (List.mem_of_getElem? w_0)) (hw _ (List.mem_of_getElem? w_1)) (hw _ (List.mem_of_getElem? w_2)) (hw _ (List.mem_of_getElem? w_3)) (by decide) (c_draw l Z a0 hw hE p0 p1 (3 : Int32) h220 W220.old) all0 (by rw [hml]; rfl) (lenOf pd_20 rfl) rfl (hb hby at_34) (Nat.le_of_ble_eq_true rfl) (Nat.le_of_ble_eq_true rfl) (Nat.le_of_ble_eq_true rfl) (Nat.le_of_ble_eq_true rfl) rfl fun v221 T221 h221 W221 K221 Q221 => ?_
        have z_K221 : h220.size ≤ h221.size := K221.1
        obtain ⟨c3, rfl, r_c3⟩ := Q221
        refine g_istore (pc' := 39) (Ls' := #[.val (.long p0), .second, .val (.int p1), .val (.int p2), .val (.int p3), .val (.int p4), .val (.int p5), .val (.int (3 : Int32)), .val (.int c0), .val (.int c1), .val (.int c2), .val (.int c3), .unset, .unset, .unset, .unset, .unset]) W221.here hx (hb hby at_37) rfl rfl ?_
        refine g_iconst (0 : Int32) (pc' := 40) W221.here hx (hb hby at_39) rfl rfl ?_
        refine g_istore (pc' := 42) (Ls' := #[.val (.long p0), .second, .val (.int p1), .val (.int p2), .val (.int p3), .val (.int p4), .val (.int p5), .val (.int (3 : Int32)), .val (.int c0), .val (.int c1), .val (.int c2), .val (.int c3), .val (.int (0 : Int32)), .unset, .unset, .unset, .unset]) W221.here hx (hb hby at_40) rfl rfl ?_
        refine g_iload (pc' := 44) W221.here hx (hb hby at_42) rfl rfl ?_
        refine g_iconst (2 : Int32) (pc' := 45) W221.here hx (hb hby at_44) rfl rfl ?_
        refine g_icmpN (pc' := 48) W221.here hx (hb hby at_45) rfl (flt (show ¬ ((3 : Int32) < (2 : Int32)) from (by decide))).1 ?_
        refine g_iload (pc' := 50) W221.here hx (hb hby at_48) rfl rfl ?_
        refine g_iload (pc' := 52) W221.here hx (hb hby at_50) rfl rfl ?_
        refine g_iload (pc' := 54) W221.here hx (hb hby at_52) rfl rfl ?_
        refine w_callSp (pc' := 57) (st := [(.int (0 : Int32))]) (y := (⟨"com/example/itihasa/itihasa/model/TextRequireLengthPinLaw", "pair", "(CC)I"⟩ : MethodName)) W221 hx [(.int c0), (.int c1)] (hw _ (List.mem_of_getElem? w_6)) (hw _ (List.mem_of_getElem? w_7)) (hw _ (List.mem_of_getElem? w_2)) (hw _ (List.mem_of_getElem? w_8)) (by decide) (c_pair l Z a0 hw hE c0 c1 h221 W221.old) (by rw [hml]; rfl) (lenOf pd_24 rfl) rfl (hb hby at_54) (Nat.le_of_ble_eq_true rfl) (Nat.le_of_ble_eq_true rfl) rfl rfl (Nat.le_of_ble_eq_true rfl) (Nat.le_of_ble_eq_true rfl) rfl fun T222 W222 => ?_
        refine g_iadd (pc' := 58) W222.here hx (hb hby at_57) rfl ?_
        refine g_istore (pc' := 60) (Ls' := #[.val (.long p0), .second, .val (.int p1), .val (.int p2), .val (.int p3), .val (.int p4), .val (.int p5), .val (.int (3 : Int32)), .val (.int c0), .val (.int c1), .val (.int c2), .val (.int c3), .val (.int ((0 : Int32) + (prI c0 c1))), .unset, .unset, .unset, .unset]) W222.here hx (hb hby at_58) rfl rfl ?_
        refine g_iload (pc' := 62) W222.here hx (hb hby at_60) rfl rfl ?_
        refine g_iconst (3 : Int32) (pc' := 63) W222.here hx (hb hby at_62) rfl rfl ?_
        refine g_icmpN (pc' := 66) W222.here hx (hb hby at_63) rfl (flt (show ¬ ((3 : Int32) < (3 : Int32)) from (by decide))).1 ?_
        refine g_iload (pc' := 68) W222.here hx (hb hby at_66) rfl rfl ?_
        refine g_iload (pc' := 70) W222.here hx (hb hby at_68) rfl rfl ?_
        refine g_iload (pc' := 72) W222.here hx (hb hby at_70) rfl rfl ?_
        refine w_callSp (pc' := 75) (st := [(.int ((0 : Int32) + (prI c0 c1)))]) (y := (⟨"com/example/itihasa/itihasa/model/TextRequireLengthPinLaw", "pair", "(CC)I"⟩ : MethodName)) W222 hx [(.int c1), (.int c2)] (hw _ (List.mem_of_getElem? w_6)) (hw _ (List.mem_of_getElem? w_7)) (hw _ (List.mem_of_getElem? w_2)) (hw _ (List.mem_of_getElem? w_8)) (by decide) (c_pair l Z a0 hw hE c1 c2 h221 W222.old) (by rw [hml]; rfl) (lenOf pd_24 rfl) rfl (hb hby at_72) (Nat.le_of_ble_eq_true rfl) (Nat.le_of_ble_eq_true rfl) rfl rfl (Nat.le_of_ble_eq_true rfl) (Nat.le_of_ble_eq_true rfl) rfl fun T223 W223 => ?_
        refine g_iadd (pc' := 76) W223.here hx (hb hby at_75) rfl ?_
        refine g_istore (pc' := 78) (Ls' := #[.val (.long p0), .second, .val (.int p1), .val (.int p2), .val (.int p3), .val (.int p4), .val (.int p5), .val (.int (3 : Int32)), .val (.int c0), .val (.int c1), .val (.int c2), .val (.int c3), .val (.int (((0 : Int32) + (prI c0 c1)) + (prI c1 c2))), .unset, .unset, .unset, .unset]) W223.here hx (hb hby at_76) rfl rfl ?_
        refine g_iload (pc' := 80) W223.here hx (hb hby at_78) rfl rfl ?_
        refine g_iconst (4 : Int32) (pc' := 81) W223.here hx (hb hby at_80) rfl rfl ?_
        refine g_icmpY (pc' := 96) W223.here hx (hb hby at_81) rfl (tlt (show (3 : Int32) < (4 : Int32) from (by decide))).1 ?_
        refine g_iload (pc' := 98) W223.here hx (hb hby at_96) rfl rfl ?_
        refine g_iload (pc' := 100) W223.here hx (hb hby at_98) rfl rfl ?_
        refine g_isub (pc' := 101) W223.here hx (hb hby at_100) rfl ?_
        obtain ⟨cnt, hcnt⟩ : ∃ zz_ : Int32, zz_ = ((3 : Int32) - (((0 : Int32) + (prI c0 c1)) + (prI c1 c2))) := ⟨_, rfl⟩
        refine g_name (congrArg Value.int hcnt) ?_
        have hcnt' := hcnt.trans (own_cnt3 c0 c1 c2)
        refine g_istore (pc' := 103) (Ls' := #[.val (.long p0), .second, .val (.int p1), .val (.int p2), .val (.int p3), .val (.int p4), .val (.int p5), .val (.int (3 : Int32)), .val (.int c0), .val (.int c1), .val (.int c2), .val (.int c3), .val (.int (((0 : Int32) + (prI c0 c1)) + (prI c1 c2))), .val (.int cnt), .unset, .unset, .unset]) W223.here hx (hb hby at_101) rfl rfl ?_
        refine g_iload (pc' := 105) W223.here hx (hb hby at_103) rfl rfl ?_
        refine g_iload (pc' := 107) W223.here hx (hb hby at_105) rfl rfl ?_
        refine w_ldcI (pc' := 109) W223 hx (hw _ (List.mem_of_getElem? w_12)) (hb hby at_107) rfl ?_
        refine g_iand (pc' := 110) W223.here hx (hb hby at_109) rfl ?_
        refine w_callSp (pc' := 113) (st := []) (y := (⟨"java/lang/Math", "max", "(II)I"⟩ : MethodName)) W223 hx [(.int cnt), (.int (p3 &&& (2147483647 : Int32)))] (hw _ (List.mem_of_getElem? w_13)) (hw _ (List.mem_of_getElem? w_14)) (hw _ (List.mem_of_getElem? w_15)) (hw _ (List.mem_of_getElem? w_16)) (by decide) (c_max l Z a0 hw hE cnt (p3 &&& (2147483647 : Int32)) h221 W223.old) (by rw [hml]; rfl) (lenOf pd_19 rfl) rfl (hb hby at_110) (Nat.le_of_ble_eq_true rfl) (Nat.le_of_ble_eq_true rfl) rfl rfl (Nat.le_of_ble_eq_true rfl) (Nat.le_of_ble_eq_true rfl) rfl fun T224 W224 => ?_
        obtain ⟨mx, hmx0⟩ : ∃ zz_ : Int32, zz_ = (if cnt < (p3 &&& (2147483647 : Int32)) then (p3 &&& (2147483647 : Int32)) else cnt) := ⟨_, rfl⟩
        refine g_name (congrArg Value.int hmx0) ?_
        have hmx : ¬ mx < cnt := by rw [hmx0]; split <;> (rw [Int32.lt_iff_toInt_lt] at *; omega)
        refine g_istore (pc' := 115) (Ls' := #[.val (.long p0), .second, .val (.int p1), .val (.int p2), .val (.int p3), .val (.int p4), .val (.int p5), .val (.int (3 : Int32)), .val (.int c0), .val (.int c1), .val (.int c2), .val (.int c3), .val (.int (((0 : Int32) + (prI c0 c1)) + (prI c1 c2))), .val (.int cnt), .val (.int mx), .unset, .unset]) W224.here hx (hb hby at_113) rfl rfl ?_
        refine g_iload (pc' := 117) W224.here hx (hb hby at_115) rfl rfl ?_
        refine g_iconst (1 : Int32) (pc' := 118) W224.here hx (hb hby at_117) rfl rfl ?_
        refine g_iand (pc' := 119) W224.here hx (hb hby at_118) rfl ?_
        by_cases hc119_225 : (p4 &&& (1 : Int32)) = (0 : Int32)
        · refine g_ifY (pc' := 126) W224.here hx (hb hby at_119) rfl (teq hc119_225).1 ?_
          refine g_iload (pc' := 128) W224.here hx (hb hby at_126) rfl rfl ?_
          refine g_iload (pc' := 130) W224.here hx (hb hby at_128) rfl rfl ?_
          refine g_iload (pc' := 132) W224.here hx (hb hby at_130) rfl rfl ?_
          refine g_iload (pc' := 134) W224.here hx (hb hby at_132) rfl rfl ?_
          refine g_iload (pc' := 136) W224.here hx (hb hby at_134) rfl rfl ?_
          refine w_callS (pc' := 139) (st := []) (y := (⟨"com/example/itihasa/itihasa/model/TextRequireLengthPinLaw", "build", "(ICCCC)Ljava/lang/String;"⟩ : MethodName)) W224 hx [(.int (3 : Int32)), (.int c0), (.int c1), (.int c2), (.int c3)] (hw _ (List.mem_of_getElem? w_17)) (hw _ (List.mem_of_getElem? w_18)) (hw _ (List.mem_of_getElem? w_2)) (hw _ (List.mem_of_getElem? w_19)) (by decide) (c_build3 l Z a0 hw hE cc fm c0 c1 c2 c3 h221 W224.old G GU r_c0 r_c1 r_c2 r_c3) all0 (by rw [hml]; rfl) (lenOf pd_21 rfl) rfl (hb hby at_136) (Nat.le_of_ble_eq_true rfl) (Nat.le_of_ble_eq_true rfl) (Nat.le_of_ble_eq_true rfl) (Nat.le_of_ble_eq_true rfl) rfl fun v226 T226 h226 W226 K226 Q226 => ?_
          have z_K226 : h221.size ≤ h226.size := K226.1
          obtain ⟨sa227, sb227, rfl, S227⟩ := Q226
          have ES227 := S227.exa
          have lt_sa227 : sa227 < h226.size := S227.lt
          have lt_sb227 : sb227 < h226.size := S227.ltb
          refine g_astore (pc' := 141) (Ls' := #[.val (.long p0), .second, .val (.int p1), .val (.int p2), .val (.int p3), .val (.int p4), .val (.int p5), .val (.int (3 : Int32)), .val (.int c0), .val (.int c1), .val (.int c2), .val (.int c3), .val (.int (((0 : Int32) + (prI c0 c1)) + (prI c1 c2))), .val (.int cnt), .val (.int mx), .val (.ref sa227), .unset]) W226.here hx (hb hby at_139) rfl rfl rfl ?_
          refine g_iload (pc' := 143) W226.here hx (hb hby at_141) rfl rfl ?_
          refine g_sipush (255 : Int32) (pc' := 146) W226.here hx (hb hby at_143) rfl rfl ?_
          refine g_iand (pc' := 147) W226.here hx (hb hby at_146) rfl ?_
          refine g_i2c (pc' := 148) W226.here hx (hb hby at_147) rfl ?_
          obtain ⟨kw, hkw⟩ : ∃ zz_ : Int32, zz_ = ((p5 &&& (255 : Int32)).toUInt32.toUInt16.toUInt32.toInt32) := ⟨_, rfl⟩
          refine g_name (congrArg Value.int hkw) ?_
          have hlw : 0 ≤ kw.toInt ∧ kw.toInt ≤ 255 := by rw [hkw]; exact own_byte _
          refine w_callS (pc' := 151) (st := []) (y := (⟨"java/lang/String", "valueOf", "(C)Ljava/lang/String;"⟩ : MethodName)) W226 hx [(.int kw)] (hw _ (List.mem_of_getElem? w_69)) (hw _ (List.mem_of_getElem? w_70)) (hw _ (List.mem_of_getElem? w_22)) (hw _ (List.mem_of_getElem? w_71)) (by decide) (c_valueOfC l Z a0 hw hE cc fm kw h226 W226.old G GU hlw) all0 (by rw [hml]; rfl) (lenOf pd_22 rfl) rfl (hb hby at_148) (Nat.le_of_ble_eq_true rfl) (Nat.le_of_ble_eq_true rfl) (Nat.le_of_ble_eq_true rfl) (Nat.le_of_ble_eq_true rfl) rfl fun v228 T228 h228 W228 K228 Q228 => ?_
          have z_K228 : h226.size ≤ h228.size := K228.1
          obtain ⟨va229, vb229, rfl, gz229, S229⟩ := Q228
          have S229g : SG Z h228 va229 vb229 [kw] := Or.inl S229
          have ES229g := S229g.exa
          have lt_va229 : va229 < h228.size := S229g.lt
          have lt_vb229 : vb229 < h228.size := S229g.ltb
          refine g_astore (pc' := 153) (Ls' := #[.val (.long p0), .second, .val (.int p1), .val (.int p2), .val (.int p3), .val (.int p4), .val (.int p5), .val (.int (3 : Int32)), .val (.int c0), .val (.int c1), .val (.int c2), .val (.int c3), .val (.int (((0 : Int32) + (prI c0 c1)) + (prI c1 c2))), .val (.int cnt), .val (.int mx), .val (.ref sa227), .val (.ref va229)]) W228.here hx (hb hby at_151) rfl rfl rfl ?_
          refine g_aload (pc' := 155) W228.here hx (hb hby at_153) rfl rfl rfl ?_
          refine g_aload (pc' := 157) W228.here hx (hb hby at_155) rfl rfl rfl ?_
          refine g_iload (pc' := 159) W228.here hx (hb hby at_157) rfl rfl ?_
          have c230 := (S227.keep K228 nin0 nin0)
          refine w_callSp (pc' := 162) (st := []) (y := (⟨"com/example/itihasa/itihasa/model/Text", "requireLength", "(Ljava/lang/String;Ljava/lang/String;I)V"⟩ : MethodName)) W228 hx [(.ref sa227), (.ref va229), (.int mx)] (hw _ (List.mem_of_getElem? w_83)) (hw _ (List.mem_of_getElem? w_84)) (hw _ (List.mem_of_getElem? w_85)) (hw _ (List.mem_of_getElem? w_86)) (by decide) (c_req l Z a0 hw hE cc fm sa227 sb227 [c0, c1, c2] (.ref va229) mx h228 W228.old G GU rfl c230 (Nat.le_of_ble_eq_true rfl) (by simp) (by rw [← hcnt']; exact hmx)) (by rw [hml]; rfl) (lenOf pd_23 rfl) rfl (hb hby at_159) (Nat.le_of_ble_eq_true rfl) (Nat.le_of_ble_eq_true rfl) rfl rfl (Nat.le_of_ble_eq_true rfl) (Nat.le_of_ble_eq_true rfl) rfl fun T231 W231 => ?_
          refine g_iconst (1 : Int32) (pc' := 163) W231.here hx (hb hby at_162) rfl rfl ?_
          refine w_retN (t := .boolean) W231 hx hh hlk hret (by simp) (hb hby at_163) (Nat.le_of_ble_eq_true rfl) (Nat.le_of_ble_eq_true rfl) ?_
          exact rfl
        · refine g_ifN (pc' := 122) W224.here hx (hb hby at_119) rfl (feq hc119_225).1 ?_
          refine g_iload (pc' := 124) W224.here hx (hb hby at_122) rfl rfl ?_
          refine g_istore (pc' := 126) (Ls' := #[.val (.long p0), .second, .val (.int p1), .val (.int p2), .val (.int p3), .val (.int p4), .val (.int p5), .val (.int (3 : Int32)), .val (.int c0), .val (.int c1), .val (.int c2), .val (.int c3), .val (.int (((0 : Int32) + (prI c0 c1)) + (prI c1 c2))), .val (.int cnt), .val (.int cnt), .unset, .unset]) W224.here hx (hb hby at_124) rfl rfl ?_
          refine g_iload (pc' := 128) W224.here hx (hb hby at_126) rfl rfl ?_
          refine g_iload (pc' := 130) W224.here hx (hb hby at_128) rfl rfl ?_
          refine g_iload (pc' := 132) W224.here hx (hb hby at_130) rfl rfl ?_
          refine g_iload (pc' := 134) W224.here hx (hb hby at_132) rfl rfl ?_
          refine g_iload (pc' := 136) W224.here hx (hb hby at_134) rfl rfl ?_
          refine w_callS (pc' := 139) (st := []) (y := (⟨"com/example/itihasa/itihasa/model/TextRequireLengthPinLaw", "build", "(ICCCC)Ljava/lang/String;"⟩ : MethodName)) W224 hx [(.int (3 : Int32)), (.int c0), (.int c1), (.int c2), (.int c3)] (hw _ (List.mem_of_getElem? w_17)) (hw _ (List.mem_of_getElem? w_18)) (hw _ (List.mem_of_getElem? w_2)) (hw _ (List.mem_of_getElem? w_19)) (by decide) (c_build3 l Z a0 hw hE cc fm c0 c1 c2 c3 h221 W224.old G GU r_c0 r_c1 r_c2 r_c3) all0 (by rw [hml]; rfl) (lenOf pd_21 rfl) rfl (hb hby at_136) (Nat.le_of_ble_eq_true rfl) (Nat.le_of_ble_eq_true rfl) (Nat.le_of_ble_eq_true rfl) (Nat.le_of_ble_eq_true rfl) rfl fun v232 T232 h232 W232 K232 Q232 => ?_
          have z_K232 : h221.size ≤ h232.size := K232.1
          obtain ⟨sa233, sb233, rfl, S233⟩ := Q232
          have ES233 := S233.exa
          have lt_sa233 : sa233 < h232.size := S233.lt
          have lt_sb233 : sb233 < h232.size := S233.ltb
          refine g_astore (pc' := 141) (Ls' := #[.val (.long p0), .second, .val (.int p1), .val (.int p2), .val (.int p3), .val (.int p4), .val (.int p5), .val (.int (3 : Int32)), .val (.int c0), .val (.int c1), .val (.int c2), .val (.int c3), .val (.int (((0 : Int32) + (prI c0 c1)) + (prI c1 c2))), .val (.int cnt), .val (.int cnt), .val (.ref sa233), .unset]) W232.here hx (hb hby at_139) rfl rfl rfl ?_
          refine g_iload (pc' := 143) W232.here hx (hb hby at_141) rfl rfl ?_
          refine g_sipush (255 : Int32) (pc' := 146) W232.here hx (hb hby at_143) rfl rfl ?_
          refine g_iand (pc' := 147) W232.here hx (hb hby at_146) rfl ?_
          refine g_i2c (pc' := 148) W232.here hx (hb hby at_147) rfl ?_
          obtain ⟨kw, hkw⟩ : ∃ zz_ : Int32, zz_ = ((p5 &&& (255 : Int32)).toUInt32.toUInt16.toUInt32.toInt32) := ⟨_, rfl⟩
          refine g_name (congrArg Value.int hkw) ?_
          have hlw : 0 ≤ kw.toInt ∧ kw.toInt ≤ 255 := by rw [hkw]; exact own_byte _
          refine w_callS (pc' := 151) (st := []) (y := (⟨"java/lang/String", "valueOf", "(C)Ljava/lang/String;"⟩ : MethodName)) W232 hx [(.int kw)] (hw _ (List.mem_of_getElem? w_69)) (hw _ (List.mem_of_getElem? w_70)) (hw _ (List.mem_of_getElem? w_22)) (hw _ (List.mem_of_getElem? w_71)) (by decide) (c_valueOfC l Z a0 hw hE cc fm kw h232 W232.old G GU hlw) all0 (by rw [hml]; rfl) (lenOf pd_22 rfl) rfl (hb hby at_148) (Nat.le_of_ble_eq_true rfl) (Nat.le_of_ble_eq_true rfl) (Nat.le_of_ble_eq_true rfl) (Nat.le_of_ble_eq_true rfl) rfl fun v234 T234 h234 W234 K234 Q234 => ?_
          have z_K234 : h232.size ≤ h234.size := K234.1
          obtain ⟨va235, vb235, rfl, gz235, S235⟩ := Q234
          have S235g : SG Z h234 va235 vb235 [kw] := Or.inl S235
          have ES235g := S235g.exa
          have lt_va235 : va235 < h234.size := S235g.lt
          have lt_vb235 : vb235 < h234.size := S235g.ltb
          refine g_astore (pc' := 153) (Ls' := #[.val (.long p0), .second, .val (.int p1), .val (.int p2), .val (.int p3), .val (.int p4), .val (.int p5), .val (.int (3 : Int32)), .val (.int c0), .val (.int c1), .val (.int c2), .val (.int c3), .val (.int (((0 : Int32) + (prI c0 c1)) + (prI c1 c2))), .val (.int cnt), .val (.int cnt), .val (.ref sa233), .val (.ref va235)]) W234.here hx (hb hby at_151) rfl rfl rfl ?_
          refine g_aload (pc' := 155) W234.here hx (hb hby at_153) rfl rfl rfl ?_
          refine g_aload (pc' := 157) W234.here hx (hb hby at_155) rfl rfl rfl ?_
          refine g_iload (pc' := 159) W234.here hx (hb hby at_157) rfl rfl ?_
          have c236 := (S233.keep K234 nin0 nin0)
          refine w_callSp (pc' := 162) (st := []) (y := (⟨"com/example/itihasa/itihasa/model/Text", "requireLength", "(Ljava/lang/String;Ljava/lang/String;I)V"⟩ : MethodName)) W234 hx [(.ref sa233), (.ref va235), (.int cnt)] (hw _ (List.mem_of_getElem? w_83)) (hw _ (List.mem_of_getElem? w_84)) (hw _ (List.mem_of_getElem? w_85)) (hw _ (List.mem_of_getElem? w_86)) (by decide) (c_req l Z a0 hw hE cc fm sa233 sb233 [c0, c1, c2] (.ref va235) cnt h234 W234.old G GU rfl c236 (Nat.le_of_ble_eq_true rfl) (by simp) (by rw [← hcnt', Int32.lt_iff_toInt_lt]; omega)) (by rw [hml]; rfl) (lenOf pd_23 rfl) rfl (hb hby at_159) (Nat.le_of_ble_eq_true rfl) (Nat.le_of_ble_eq_true rfl) rfl rfl (Nat.le_of_ble_eq_true rfl) (Nat.le_of_ble_eq_true rfl) rfl fun T237 W237 => ?_
          refine g_iconst (1 : Int32) (pc' := 163) W237.here hx (hb hby at_162) rfl rfl ?_
          refine w_retN (t := .boolean) W237 hx hh hlk hret (by simp) (hb hby at_163) (Nat.le_of_ble_eq_true rfl) (Nat.le_of_ble_eq_true rfl) ?_
          exact rfl
      · have h4 : nn = (4 : Int32) := by simp only [← Int32.toInt_inj, own_t1, own_t2, own_t3, own_t4] at *; omega
        refine g_name (w := .int (4 : Int32)) (congrArg Value.int h4.symm) ?_
        refine g_istore (pc' := 7) (Ls' := #[.val (.long p0), .second, .val (.int p1), .val (.int p2), .val (.int p3), .val (.int p4), .val (.int p5), .val (.int (4 : Int32)), .unset, .unset, .unset, .unset, .unset, .unset, .unset, .unset, .unset]) W0.here hx (hb hby at_5) rfl rfl ?_
        refine g_lloadN (pc' := 8) W0.here hx (hb hby at_7) rfl rfl ?_
        refine g_iloadN (pc' := 9) W0.here hx (hb hby at_8) rfl rfl ?_
        refine g_iconst (0 : Int32) (pc' := 10) W0.here hx (hb hby at_9) rfl rfl ?_
        refine w_callS (pc' := 13) (st := []) (y := (⟨"com/example/itihasa/itihasa/model/TextRequireLengthPinLaw", "draw", "(JII)C"⟩ : MethodName)) W0 hx [(.long p0), (.int p1), (.int (0 : Int32))] (hw _ (List.mem_of_getElem? w_0)) (hw _ (List.mem_of_getElem? w_1)) (hw _ (List.mem_of_getElem? w_2)) (hw _ (List.mem_of_getElem? w_3)) (by decide) (c_draw l Z a0 hw hE p0 p1 (0 : Int32) h0 W0.old) all0 (by rw [hml]; rfl) (lenOf pd_20 rfl) rfl (hb hby at_10) (Nat.le_of_ble_eq_true rfl) (Nat.le_of_ble_eq_true rfl) (Nat.le_of_ble_eq_true rfl) (Nat.le_of_ble_eq_true rfl) rfl fun v238 T238 h238 W238 K238 Q238 => ?_
        have z_K238 : h0.size ≤ h238.size := K238.1
        obtain ⟨c0, rfl, r_c0⟩ := Q238
        refine g_istore (pc' := 15) (Ls' := #[.val (.long p0), .second, .val (.int p1), .val (.int p2), .val (.int p3), .val (.int p4), .val (.int p5), .val (.int (4 : Int32)), .val (.int c0), .unset, .unset, .unset, .unset, .unset, .unset, .unset, .unset]) W238.here hx (hb hby at_13) rfl rfl ?_
        refine g_lloadN (pc' := 16) W238.here hx (hb hby at_15) rfl rfl ?_
        refine g_iloadN (pc' := 17) W238.here hx (hb hby at_16) rfl rfl ?_
        refine g_iconst (1 : Int32) (pc' := 18) W238.here hx (hb hby at_17) rfl rfl ?_
        refine w_callS (pc' := 21) (st := []) (y := (⟨"com/example/itihasa/itihasa/model/TextRequireLengthPinLaw", "draw", "(JII)C"⟩ : MethodName)) W238 hx [(.long p0), (.int p1), (.int (1 : Int32))] (hw _ (List.mem_of_getElem? w_0)) (hw _ (List.mem_of_getElem? w_1)) (hw _ (List.mem_of_getElem? w_2)) (hw _ (List.mem_of_getElem? w_3)) (by decide) (c_draw l Z a0 hw hE p0 p1 (1 : Int32) h238 W238.old) all0 (by rw [hml]; rfl) (lenOf pd_20 rfl) rfl (hb hby at_18) (Nat.le_of_ble_eq_true rfl) (Nat.le_of_ble_eq_true rfl) (Nat.le_of_ble_eq_true rfl) (Nat.le_of_ble_eq_true rfl) rfl fun v239 T239 h239 W239 K239 Q239 => ?_
        have z_K239 : h238.size ≤ h239.size := K239.1
        obtain ⟨c1, rfl, r_c1⟩ := Q239
        refine g_istore (pc' := 23) (Ls' := #[.val (.long p0), .second, .val (.int p1), .val (.int p2), .val (.int p3), .val (.int p4), .val (.int p5), .val (.int (4 : Int32)), .val (.int c0), .val (.int c1), .unset, .unset, .unset, .unset, .unset, .unset, .unset]) W239.here hx (hb hby at_21) rfl rfl ?_
        refine g_lloadN (pc' := 24) W239.here hx (hb hby at_23) rfl rfl ?_
        refine g_iloadN (pc' := 25) W239.here hx (hb hby at_24) rfl rfl ?_
        refine g_iconst (2 : Int32) (pc' := 26) W239.here hx (hb hby at_25) rfl rfl ?_
        refine w_callS (pc' := 29) (st := []) (y := (⟨"com/example/itihasa/itihasa/model/TextRequireLengthPinLaw", "draw", "(JII)C"⟩ : MethodName)) W239 hx [(.long p0), (.int p1), (.int (2 : Int32))] (hw _ (List.mem_of_getElem? w_0)) (hw _ (List.mem_of_getElem? w_1)) (hw _ (List.mem_of_getElem? w_2)) (hw _ (List.mem_of_getElem? w_3)) (by decide) (c_draw l Z a0 hw hE p0 p1 (2 : Int32) h239 W239.old) all0 (by rw [hml]; rfl) (lenOf pd_20 rfl) rfl (hb hby at_26) (Nat.le_of_ble_eq_true rfl) (Nat.le_of_ble_eq_true rfl) (Nat.le_of_ble_eq_true rfl) (Nat.le_of_ble_eq_true rfl) rfl fun v240 T240 h240 W240 K240 Q240 => ?_
        have z_K240 : h239.size ≤ h240.size := K240.1
        obtain ⟨c2, rfl, r_c2⟩ := Q240
        refine g_istore (pc' := 31) (Ls' := #[.val (.long p0), .second, .val (.int p1), .val (.int p2), .val (.int p3), .val (.int p4), .val (.int p5), .val (.int (4 : Int32)), .val (.int c0), .val (.int c1), .val (.int c2), .unset, .unset, .unset, .unset, .unset, .unset]) W240.here hx (hb hby at_29) rfl rfl ?_
        refine g_lloadN (pc' := 32) W240.here hx (hb hby at_31) rfl rfl ?_
        refine g_iloadN (pc' := 33) W240.here hx (hb hby at_32) rfl rfl ?_
        refine g_iconst (3 : Int32) (pc' := 34) W240.here hx (hb hby at_33) rfl rfl ?_
        refine w_callS (pc' := 37) (st := []) (y := (⟨"com/example/itihasa/itihasa/model/TextRequireLengthPinLaw", "draw", "(JII)C"⟩ : MethodName)) W240 hx [(.long p0), (.int p1), (.int (3 : Int32))] (hw _ (List.mem_of_getElem? w_0)) (hw _ (List.mem_of_getElem? w_1)) (hw _ (List.mem_of_getElem? w_2)) (hw _ (List.mem_of_getElem? w_3)) (by decide) (c_draw l Z a0 hw hE p0 p1 (3 : Int32) h240 W240.old) all0 (by rw [hml]; rfl) (lenOf pd_20 rfl) rfl (hb hby at_34) (Nat.le_of_ble_eq_true rfl) (Nat.le_of_ble_eq_true rfl) (Nat.le_of_ble_eq_true rfl) (Nat.le_of_ble_eq_true rfl) rfl fun v241 T241 h241 W241 K241 Q241 => ?_
        have z_K241 : h240.size ≤ h241.size := K241.1
        obtain ⟨c3, rfl, r_c3⟩ := Q241
        refine g_istore (pc' := 39) (Ls' := #[.val (.long p0), .second, .val (.int p1), .val (.int p2), .val (.int p3), .val (.int p4), .val (.int p5), .val (.int (4 : Int32)), .val (.int c0), .val (.int c1), .val (.int c2), .val (.int c3), .unset, .unset, .unset, .unset, .unset]) W241.here hx (hb hby at_37) rfl rfl ?_
        refine g_iconst (0 : Int32) (pc' := 40) W241.here hx (hb hby at_39) rfl rfl ?_
        refine g_istore (pc' := 42) (Ls' := #[.val (.long p0), .second, .val (.int p1), .val (.int p2), .val (.int p3), .val (.int p4), .val (.int p5), .val (.int (4 : Int32)), .val (.int c0), .val (.int c1), .val (.int c2), .val (.int c3), .val (.int (0 : Int32)), .unset, .unset, .unset, .unset]) W241.here hx (hb hby at_40) rfl rfl ?_
        refine g_iload (pc' := 44) W241.here hx (hb hby at_42) rfl rfl ?_
        refine g_iconst (2 : Int32) (pc' := 45) W241.here hx (hb hby at_44) rfl rfl ?_
        refine g_icmpN (pc' := 48) W241.here hx (hb hby at_45) rfl (flt (show ¬ ((4 : Int32) < (2 : Int32)) from (by decide))).1 ?_
        refine g_iload (pc' := 50) W241.here hx (hb hby at_48) rfl rfl ?_
        refine g_iload (pc' := 52) W241.here hx (hb hby at_50) rfl rfl ?_
        refine g_iload (pc' := 54) W241.here hx (hb hby at_52) rfl rfl ?_
        refine w_callSp (pc' := 57) (st := [(.int (0 : Int32))]) (y := (⟨"com/example/itihasa/itihasa/model/TextRequireLengthPinLaw", "pair", "(CC)I"⟩ : MethodName)) W241 hx [(.int c0), (.int c1)] (hw _ (List.mem_of_getElem? w_6)) (hw _ (List.mem_of_getElem? w_7)) (hw _ (List.mem_of_getElem? w_2)) (hw _ (List.mem_of_getElem? w_8)) (by decide) (c_pair l Z a0 hw hE c0 c1 h241 W241.old) (by rw [hml]; rfl) (lenOf pd_24 rfl) rfl (hb hby at_54) (Nat.le_of_ble_eq_true rfl) (Nat.le_of_ble_eq_true rfl) rfl rfl (Nat.le_of_ble_eq_true rfl) (Nat.le_of_ble_eq_true rfl) rfl fun T242 W242 => ?_
        refine g_iadd (pc' := 58) W242.here hx (hb hby at_57) rfl ?_
        refine g_istore (pc' := 60) (Ls' := #[.val (.long p0), .second, .val (.int p1), .val (.int p2), .val (.int p3), .val (.int p4), .val (.int p5), .val (.int (4 : Int32)), .val (.int c0), .val (.int c1), .val (.int c2), .val (.int c3), .val (.int ((0 : Int32) + (prI c0 c1))), .unset, .unset, .unset, .unset]) W242.here hx (hb hby at_58) rfl rfl ?_
        refine g_iload (pc' := 62) W242.here hx (hb hby at_60) rfl rfl ?_
        refine g_iconst (3 : Int32) (pc' := 63) W242.here hx (hb hby at_62) rfl rfl ?_
        refine g_icmpN (pc' := 66) W242.here hx (hb hby at_63) rfl (flt (show ¬ ((4 : Int32) < (3 : Int32)) from (by decide))).1 ?_
        refine g_iload (pc' := 68) W242.here hx (hb hby at_66) rfl rfl ?_
        refine g_iload (pc' := 70) W242.here hx (hb hby at_68) rfl rfl ?_
        refine g_iload (pc' := 72) W242.here hx (hb hby at_70) rfl rfl ?_
        refine w_callSp (pc' := 75) (st := [(.int ((0 : Int32) + (prI c0 c1)))]) (y := (⟨"com/example/itihasa/itihasa/model/TextRequireLengthPinLaw", "pair", "(CC)I"⟩ : MethodName)) W242 hx [(.int c1), (.int c2)] (hw _ (List.mem_of_getElem? w_6)) (hw _ (List.mem_of_getElem? w_7)) (hw _ (List.mem_of_getElem? w_2)) (hw _ (List.mem_of_getElem? w_8)) (by decide) (c_pair l Z a0 hw hE c1 c2 h241 W242.old) (by rw [hml]; rfl) (lenOf pd_24 rfl) rfl (hb hby at_72) (Nat.le_of_ble_eq_true rfl) (Nat.le_of_ble_eq_true rfl) rfl rfl (Nat.le_of_ble_eq_true rfl) (Nat.le_of_ble_eq_true rfl) rfl fun T243 W243 => ?_
        refine g_iadd (pc' := 76) W243.here hx (hb hby at_75) rfl ?_
        refine g_istore (pc' := 78) (Ls' := #[.val (.long p0), .second, .val (.int p1), .val (.int p2), .val (.int p3), .val (.int p4), .val (.int p5), .val (.int (4 : Int32)), .val (.int c0), .val (.int c1), .val (.int c2), .val (.int c3), .val (.int (((0 : Int32) + (prI c0 c1)) + (prI c1 c2))), .unset, .unset, .unset, .unset]) W243.here hx (hb hby at_76) rfl rfl ?_
        refine g_iload (pc' := 80) W243.here hx (hb hby at_78) rfl rfl ?_
        refine g_iconst (4 : Int32) (pc' := 81) W243.here hx (hb hby at_80) rfl rfl ?_
        refine g_icmpN (pc' := 84) W243.here hx (hb hby at_81) rfl (flt (show ¬ ((4 : Int32) < (4 : Int32)) from (by decide))).1 ?_
        refine g_iload (pc' := 86) W243.here hx (hb hby at_84) rfl rfl ?_
        refine g_iload (pc' := 88) W243.here hx (hb hby at_86) rfl rfl ?_
        refine g_iload (pc' := 90) W243.here hx (hb hby at_88) rfl rfl ?_
        refine w_callSp (pc' := 93) (st := [(.int (((0 : Int32) + (prI c0 c1)) + (prI c1 c2)))]) (y := (⟨"com/example/itihasa/itihasa/model/TextRequireLengthPinLaw", "pair", "(CC)I"⟩ : MethodName)) W243 hx [(.int c2), (.int c3)] (hw _ (List.mem_of_getElem? w_6)) (hw _ (List.mem_of_getElem? w_7)) (hw _ (List.mem_of_getElem? w_2)) (hw _ (List.mem_of_getElem? w_8)) (by decide) (c_pair l Z a0 hw hE c2 c3 h241 W243.old) (by rw [hml]; rfl) (lenOf pd_24 rfl) rfl (hb hby at_90) (Nat.le_of_ble_eq_true rfl) (Nat.le_of_ble_eq_true rfl) rfl rfl (Nat.le_of_ble_eq_true rfl) (Nat.le_of_ble_eq_true rfl) rfl fun T244 W244 => ?_
        refine g_iadd (pc' := 94) W244.here hx (hb hby at_93) rfl ?_
        refine g_istore (pc' := 96) (Ls' := #[.val (.long p0), .second, .val (.int p1), .val (.int p2), .val (.int p3), .val (.int p4), .val (.int p5), .val (.int (4 : Int32)), .val (.int c0), .val (.int c1), .val (.int c2), .val (.int c3), .val (.int ((((0 : Int32) + (prI c0 c1)) + (prI c1 c2)) + (prI c2 c3))), .unset, .unset, .unset, .unset]) W244.here hx (hb hby at_94) rfl rfl ?_
        refine g_iload (pc' := 98) W244.here hx (hb hby at_96) rfl rfl ?_
        refine g_iload (pc' := 100) W244.here hx (hb hby at_98) rfl rfl ?_
        refine g_isub (pc' := 101) W244.here hx (hb hby at_100) rfl ?_
        obtain ⟨cnt, hcnt⟩ : ∃ zz_ : Int32, zz_ = ((4 : Int32) - ((((0 : Int32) + (prI c0 c1)) + (prI c1 c2)) + (prI c2 c3))) := ⟨_, rfl⟩
        refine g_name (congrArg Value.int hcnt) ?_
        have hcnt' := hcnt.trans (own_cnt4 c0 c1 c2 c3)
        refine g_istore (pc' := 103) (Ls' := #[.val (.long p0), .second, .val (.int p1), .val (.int p2), .val (.int p3), .val (.int p4), .val (.int p5), .val (.int (4 : Int32)), .val (.int c0), .val (.int c1), .val (.int c2), .val (.int c3), .val (.int ((((0 : Int32) + (prI c0 c1)) + (prI c1 c2)) + (prI c2 c3))), .val (.int cnt), .unset, .unset, .unset]) W244.here hx (hb hby at_101) rfl rfl ?_
        refine g_iload (pc' := 105) W244.here hx (hb hby at_103) rfl rfl ?_
        refine g_iload (pc' := 107) W244.here hx (hb hby at_105) rfl rfl ?_
        refine w_ldcI (pc' := 109) W244 hx (hw _ (List.mem_of_getElem? w_12)) (hb hby at_107) rfl ?_
        refine g_iand (pc' := 110) W244.here hx (hb hby at_109) rfl ?_
        refine w_callSp (pc' := 113) (st := []) (y := (⟨"java/lang/Math", "max", "(II)I"⟩ : MethodName)) W244 hx [(.int cnt), (.int (p3 &&& (2147483647 : Int32)))] (hw _ (List.mem_of_getElem? w_13)) (hw _ (List.mem_of_getElem? w_14)) (hw _ (List.mem_of_getElem? w_15)) (hw _ (List.mem_of_getElem? w_16)) (by decide) (c_max l Z a0 hw hE cnt (p3 &&& (2147483647 : Int32)) h241 W244.old) (by rw [hml]; rfl) (lenOf pd_19 rfl) rfl (hb hby at_110) (Nat.le_of_ble_eq_true rfl) (Nat.le_of_ble_eq_true rfl) rfl rfl (Nat.le_of_ble_eq_true rfl) (Nat.le_of_ble_eq_true rfl) rfl fun T245 W245 => ?_
        obtain ⟨mx, hmx0⟩ : ∃ zz_ : Int32, zz_ = (if cnt < (p3 &&& (2147483647 : Int32)) then (p3 &&& (2147483647 : Int32)) else cnt) := ⟨_, rfl⟩
        refine g_name (congrArg Value.int hmx0) ?_
        have hmx : ¬ mx < cnt := by rw [hmx0]; split <;> (rw [Int32.lt_iff_toInt_lt] at *; omega)
        refine g_istore (pc' := 115) (Ls' := #[.val (.long p0), .second, .val (.int p1), .val (.int p2), .val (.int p3), .val (.int p4), .val (.int p5), .val (.int (4 : Int32)), .val (.int c0), .val (.int c1), .val (.int c2), .val (.int c3), .val (.int ((((0 : Int32) + (prI c0 c1)) + (prI c1 c2)) + (prI c2 c3))), .val (.int cnt), .val (.int mx), .unset, .unset]) W245.here hx (hb hby at_113) rfl rfl ?_
        refine g_iload (pc' := 117) W245.here hx (hb hby at_115) rfl rfl ?_
        refine g_iconst (1 : Int32) (pc' := 118) W245.here hx (hb hby at_117) rfl rfl ?_
        refine g_iand (pc' := 119) W245.here hx (hb hby at_118) rfl ?_
        by_cases hc119_246 : (p4 &&& (1 : Int32)) = (0 : Int32)
        · refine g_ifY (pc' := 126) W245.here hx (hb hby at_119) rfl (teq hc119_246).1 ?_
          refine g_iload (pc' := 128) W245.here hx (hb hby at_126) rfl rfl ?_
          refine g_iload (pc' := 130) W245.here hx (hb hby at_128) rfl rfl ?_
          refine g_iload (pc' := 132) W245.here hx (hb hby at_130) rfl rfl ?_
          refine g_iload (pc' := 134) W245.here hx (hb hby at_132) rfl rfl ?_
          refine g_iload (pc' := 136) W245.here hx (hb hby at_134) rfl rfl ?_
          refine w_callS (pc' := 139) (st := []) (y := (⟨"com/example/itihasa/itihasa/model/TextRequireLengthPinLaw", "build", "(ICCCC)Ljava/lang/String;"⟩ : MethodName)) W245 hx [(.int (4 : Int32)), (.int c0), (.int c1), (.int c2), (.int c3)] (hw _ (List.mem_of_getElem? w_17)) (hw _ (List.mem_of_getElem? w_18)) (hw _ (List.mem_of_getElem? w_2)) (hw _ (List.mem_of_getElem? w_19)) (by decide) (c_build4 l Z a0 hw hE cc fm c0 c1 c2 c3 h241 W245.old G GU r_c0 r_c1 r_c2 r_c3) all0 (by rw [hml]; rfl) (lenOf pd_21 rfl) rfl (hb hby at_136) (Nat.le_of_ble_eq_true rfl) (Nat.le_of_ble_eq_true rfl) (Nat.le_of_ble_eq_true rfl) (Nat.le_of_ble_eq_true rfl) rfl fun v247 T247 h247 W247 K247 Q247 => ?_
          have z_K247 : h241.size ≤ h247.size := K247.1
          obtain ⟨sa248, sb248, rfl, S248⟩ := Q247
          have ES248 := S248.exa
          have lt_sa248 : sa248 < h247.size := S248.lt
          have lt_sb248 : sb248 < h247.size := S248.ltb
          refine g_astore (pc' := 141) (Ls' := #[.val (.long p0), .second, .val (.int p1), .val (.int p2), .val (.int p3), .val (.int p4), .val (.int p5), .val (.int (4 : Int32)), .val (.int c0), .val (.int c1), .val (.int c2), .val (.int c3), .val (.int ((((0 : Int32) + (prI c0 c1)) + (prI c1 c2)) + (prI c2 c3))), .val (.int cnt), .val (.int mx), .val (.ref sa248), .unset]) W247.here hx (hb hby at_139) rfl rfl rfl ?_
          refine g_iload (pc' := 143) W247.here hx (hb hby at_141) rfl rfl ?_
          refine g_sipush (255 : Int32) (pc' := 146) W247.here hx (hb hby at_143) rfl rfl ?_
          refine g_iand (pc' := 147) W247.here hx (hb hby at_146) rfl ?_
          refine g_i2c (pc' := 148) W247.here hx (hb hby at_147) rfl ?_
          obtain ⟨kw, hkw⟩ : ∃ zz_ : Int32, zz_ = ((p5 &&& (255 : Int32)).toUInt32.toUInt16.toUInt32.toInt32) := ⟨_, rfl⟩
          refine g_name (congrArg Value.int hkw) ?_
          have hlw : 0 ≤ kw.toInt ∧ kw.toInt ≤ 255 := by rw [hkw]; exact own_byte _
          refine w_callS (pc' := 151) (st := []) (y := (⟨"java/lang/String", "valueOf", "(C)Ljava/lang/String;"⟩ : MethodName)) W247 hx [(.int kw)] (hw _ (List.mem_of_getElem? w_69)) (hw _ (List.mem_of_getElem? w_70)) (hw _ (List.mem_of_getElem? w_22)) (hw _ (List.mem_of_getElem? w_71)) (by decide) (c_valueOfC l Z a0 hw hE cc fm kw h247 W247.old G GU hlw) all0 (by rw [hml]; rfl) (lenOf pd_22 rfl) rfl (hb hby at_148) (Nat.le_of_ble_eq_true rfl) (Nat.le_of_ble_eq_true rfl) (Nat.le_of_ble_eq_true rfl) (Nat.le_of_ble_eq_true rfl) rfl fun v249 T249 h249 W249 K249 Q249 => ?_
          have z_K249 : h247.size ≤ h249.size := K249.1
          obtain ⟨va250, vb250, rfl, gz250, S250⟩ := Q249
          have S250g : SG Z h249 va250 vb250 [kw] := Or.inl S250
          have ES250g := S250g.exa
          have lt_va250 : va250 < h249.size := S250g.lt
          have lt_vb250 : vb250 < h249.size := S250g.ltb
          refine g_astore (pc' := 153) (Ls' := #[.val (.long p0), .second, .val (.int p1), .val (.int p2), .val (.int p3), .val (.int p4), .val (.int p5), .val (.int (4 : Int32)), .val (.int c0), .val (.int c1), .val (.int c2), .val (.int c3), .val (.int ((((0 : Int32) + (prI c0 c1)) + (prI c1 c2)) + (prI c2 c3))), .val (.int cnt), .val (.int mx), .val (.ref sa248), .val (.ref va250)]) W249.here hx (hb hby at_151) rfl rfl rfl ?_
          refine g_aload (pc' := 155) W249.here hx (hb hby at_153) rfl rfl rfl ?_
          refine g_aload (pc' := 157) W249.here hx (hb hby at_155) rfl rfl rfl ?_
          refine g_iload (pc' := 159) W249.here hx (hb hby at_157) rfl rfl ?_
          have c251 := (S248.keep K249 nin0 nin0)
          refine w_callSp (pc' := 162) (st := []) (y := (⟨"com/example/itihasa/itihasa/model/Text", "requireLength", "(Ljava/lang/String;Ljava/lang/String;I)V"⟩ : MethodName)) W249 hx [(.ref sa248), (.ref va250), (.int mx)] (hw _ (List.mem_of_getElem? w_83)) (hw _ (List.mem_of_getElem? w_84)) (hw _ (List.mem_of_getElem? w_85)) (hw _ (List.mem_of_getElem? w_86)) (by decide) (c_req l Z a0 hw hE cc fm sa248 sb248 [c0, c1, c2, c3] (.ref va250) mx h249 W249.old G GU rfl c251 (Nat.le_of_ble_eq_true rfl) (by simp) (by rw [← hcnt']; exact hmx)) (by rw [hml]; rfl) (lenOf pd_23 rfl) rfl (hb hby at_159) (Nat.le_of_ble_eq_true rfl) (Nat.le_of_ble_eq_true rfl) rfl rfl (Nat.le_of_ble_eq_true rfl) (Nat.le_of_ble_eq_true rfl) rfl fun T252 W252 => ?_
          refine g_iconst (1 : Int32) (pc' := 163) W252.here hx (hb hby at_162) rfl rfl ?_
          refine w_retN (t := .boolean) W252 hx hh hlk hret (by simp) (hb hby at_163) (Nat.le_of_ble_eq_true rfl) (Nat.le_of_ble_eq_true rfl) ?_
          exact rfl
        · refine g_ifN (pc' := 122) W245.here hx (hb hby at_119) rfl (feq hc119_246).1 ?_
          refine g_iload (pc' := 124) W245.here hx (hb hby at_122) rfl rfl ?_
          refine g_istore (pc' := 126) (Ls' := #[.val (.long p0), .second, .val (.int p1), .val (.int p2), .val (.int p3), .val (.int p4), .val (.int p5), .val (.int (4 : Int32)), .val (.int c0), .val (.int c1), .val (.int c2), .val (.int c3), .val (.int ((((0 : Int32) + (prI c0 c1)) + (prI c1 c2)) + (prI c2 c3))), .val (.int cnt), .val (.int cnt), .unset, .unset]) W245.here hx (hb hby at_124) rfl rfl ?_
          refine g_iload (pc' := 128) W245.here hx (hb hby at_126) rfl rfl ?_
          refine g_iload (pc' := 130) W245.here hx (hb hby at_128) rfl rfl ?_
          refine g_iload (pc' := 132) W245.here hx (hb hby at_130) rfl rfl ?_
          refine g_iload (pc' := 134) W245.here hx (hb hby at_132) rfl rfl ?_
          refine g_iload (pc' := 136) W245.here hx (hb hby at_134) rfl rfl ?_
          refine w_callS (pc' := 139) (st := []) (y := (⟨"com/example/itihasa/itihasa/model/TextRequireLengthPinLaw", "build", "(ICCCC)Ljava/lang/String;"⟩ : MethodName)) W245 hx [(.int (4 : Int32)), (.int c0), (.int c1), (.int c2), (.int c3)] (hw _ (List.mem_of_getElem? w_17)) (hw _ (List.mem_of_getElem? w_18)) (hw _ (List.mem_of_getElem? w_2)) (hw _ (List.mem_of_getElem? w_19)) (by decide) (c_build4 l Z a0 hw hE cc fm c0 c1 c2 c3 h241 W245.old G GU r_c0 r_c1 r_c2 r_c3) all0 (by rw [hml]; rfl) (lenOf pd_21 rfl) rfl (hb hby at_136) (Nat.le_of_ble_eq_true rfl) (Nat.le_of_ble_eq_true rfl) (Nat.le_of_ble_eq_true rfl) (Nat.le_of_ble_eq_true rfl) rfl fun v253 T253 h253 W253 K253 Q253 => ?_
          have z_K253 : h241.size ≤ h253.size := K253.1
          obtain ⟨sa254, sb254, rfl, S254⟩ := Q253
          have ES254 := S254.exa
          have lt_sa254 : sa254 < h253.size := S254.lt
          have lt_sb254 : sb254 < h253.size := S254.ltb
          refine g_astore (pc' := 141) (Ls' := #[.val (.long p0), .second, .val (.int p1), .val (.int p2), .val (.int p3), .val (.int p4), .val (.int p5), .val (.int (4 : Int32)), .val (.int c0), .val (.int c1), .val (.int c2), .val (.int c3), .val (.int ((((0 : Int32) + (prI c0 c1)) + (prI c1 c2)) + (prI c2 c3))), .val (.int cnt), .val (.int cnt), .val (.ref sa254), .unset]) W253.here hx (hb hby at_139) rfl rfl rfl ?_
          refine g_iload (pc' := 143) W253.here hx (hb hby at_141) rfl rfl ?_
          refine g_sipush (255 : Int32) (pc' := 146) W253.here hx (hb hby at_143) rfl rfl ?_
          refine g_iand (pc' := 147) W253.here hx (hb hby at_146) rfl ?_
          refine g_i2c (pc' := 148) W253.here hx (hb hby at_147) rfl ?_
          obtain ⟨kw, hkw⟩ : ∃ zz_ : Int32, zz_ = ((p5 &&& (255 : Int32)).toUInt32.toUInt16.toUInt32.toInt32) := ⟨_, rfl⟩
          refine g_name (congrArg Value.int hkw) ?_
          have hlw : 0 ≤ kw.toInt ∧ kw.toInt ≤ 255 := by rw [hkw]; exact own_byte _
          refine w_callS (pc' := 151) (st := []) (y := (⟨"java/lang/String", "valueOf", "(C)Ljava/lang/String;"⟩ : MethodName)) W253 hx [(.int kw)] (hw _ (List.mem_of_getElem? w_69)) (hw _ (List.mem_of_getElem? w_70)) (hw _ (List.mem_of_getElem? w_22)) (hw _ (List.mem_of_getElem? w_71)) (by decide) (c_valueOfC l Z a0 hw hE cc fm kw h253 W253.old G GU hlw) all0 (by rw [hml]; rfl) (lenOf pd_22 rfl) rfl (hb hby at_148) (Nat.le_of_ble_eq_true rfl) (Nat.le_of_ble_eq_true rfl) (Nat.le_of_ble_eq_true rfl) (Nat.le_of_ble_eq_true rfl) rfl fun v255 T255 h255 W255 K255 Q255 => ?_
          have z_K255 : h253.size ≤ h255.size := K255.1
          obtain ⟨va256, vb256, rfl, gz256, S256⟩ := Q255
          have S256g : SG Z h255 va256 vb256 [kw] := Or.inl S256
          have ES256g := S256g.exa
          have lt_va256 : va256 < h255.size := S256g.lt
          have lt_vb256 : vb256 < h255.size := S256g.ltb
          refine g_astore (pc' := 153) (Ls' := #[.val (.long p0), .second, .val (.int p1), .val (.int p2), .val (.int p3), .val (.int p4), .val (.int p5), .val (.int (4 : Int32)), .val (.int c0), .val (.int c1), .val (.int c2), .val (.int c3), .val (.int ((((0 : Int32) + (prI c0 c1)) + (prI c1 c2)) + (prI c2 c3))), .val (.int cnt), .val (.int cnt), .val (.ref sa254), .val (.ref va256)]) W255.here hx (hb hby at_151) rfl rfl rfl ?_
          refine g_aload (pc' := 155) W255.here hx (hb hby at_153) rfl rfl rfl ?_
          refine g_aload (pc' := 157) W255.here hx (hb hby at_155) rfl rfl rfl ?_
          refine g_iload (pc' := 159) W255.here hx (hb hby at_157) rfl rfl ?_
          have c257 := (S254.keep K255 nin0 nin0)
          refine w_callSp (pc' := 162) (st := []) (y := (⟨"com/example/itihasa/itihasa/model/Text", "requireLength", "(Ljava/lang/String;Ljava/lang/String;I)V"⟩ : MethodName)) W255 hx [(.ref sa254), (.ref va256), (.int cnt)] (hw _ (List.mem_of_getElem? w_83)) (hw _ (List.mem_of_getElem? w_84)) (hw _ (List.mem_of_getElem? w_85)) (hw _ (List.mem_of_getElem? w_86)) (by decide) (c_req l Z a0 hw hE cc fm sa254 sb254 [c0, c1, c2, c3] (.ref va256) cnt h255 W255.old G GU rfl c257 (Nat.le_of_ble_eq_true rfl) (by simp) (by rw [← hcnt', Int32.lt_iff_toInt_lt]; omega)) (by rw [hml]; rfl) (lenOf pd_23 rfl) rfl (hb hby at_159) (Nat.le_of_ble_eq_true rfl) (Nat.le_of_ble_eq_true rfl) rfl rfl (Nat.le_of_ble_eq_true rfl) (Nat.le_of_ble_eq_true rfl) rfl fun T258 W258 => ?_
          refine g_iconst (1 : Int32) (pc' := 163) W258.here hx (hb hby at_162) rfl rfl ?_
          refine w_retN (t := .boolean) W258 hx hh hlk hret (by simp) (hb hby at_163) (Nat.le_of_ble_eq_true rfl) (Nat.le_of_ble_eq_true rfl) ?_
          exact rfl
set_option maxRecDepth 65536 in
set_option maxHeartbeats 40000000 in
theorem comes_1 {Post : Tables → Env → Array Value → State → Outcome → State → Prop} (hpost : ∀ tb e args s v u, (limb_1_1.after args s (.returned v) u = true ∧ limb_1_2.after args s (.returned v) u = true ∧ True) → FrameEnd s (.returned v) u (Jvm.fieldLocs frame_1_writes args s ++ Jvm.arrayLocs frame_1_arrays args s ++ Jvm.staticLocs frame_1_statics s) 24 128 → Post tb e args s (.returned v) u) :
    ArmFor flags0 classFile x code maxLocals ret World_1 tables_1 room_1 Calls_1 rest_1 Pre_1 Post := by
  intro l hfl _ _ p e ha hc hk s m args below hf hA hF happ hP
  obtain ⟨hcalls, hrest, hpre⟩ := hP
  obtain ⟨-, -, -, hnamed, -, -, -, hat⟩ := (Spec.applies_iff hf).mp happ
  obtain ⟨hg, hn⟩ := and_e (Cond.before_iff.mp (show (Jvm.Cond.and given_1 narrow_1).before args s = true from hpre))
  obtain ⟨hg0, hg⟩ := and_e hg
  obtain ⟨w0, w1, w2, w3, w4, w5, rfl⟩ : ∃ w0 w1 w2 w3 w4 w5 : Value, args = #[w0, w1, w2, w3, w4, w5] := by
    have hs : args.size = 6 := by simpa [Cond.value, given_1] using hg0
    obtain ⟨L⟩ := args
    match L, hs with
    | [w0, w1, w2, w3, w4, w5], _ => exact ⟨w0, w1, w2, w3, w4, w5, rfl⟩
  have hw := fun d (hd : d ∈ tables_1) => atoms_spec (ws := Jvm.Cond.code x code maxLocals ret :: tables_1) hat d (List.mem_cons_of_mem _ hd)
  have hfit : Fit s := fun {y c} hc i hi => by
    obtain ⟨ha, rfl⟩ := Array.getElem?_eq_some_iff.mp hc
    have q := List.all_eq_true.mp ((Array.all_eq_true_iff_forall_mem.mp hF) _ (Array.getElem_mem ha)) i (List.mem_range.mpr hi)
    simpa [Array.getElem?_eq_getElem hi] using q
  obtain ⟨hg1, hg⟩ := and_e hg
  obtain ⟨p0, ep0⟩ := isL_v hg1
  obtain rfl : w0 = (.long p0) := Option.some.inj ep0
  obtain ⟨hg2, hg⟩ := and_e hg
  obtain ⟨p1, ep1⟩ := is_v hg2
  obtain rfl : w1 = (.int p1) := Option.some.inj ep1
  obtain ⟨hg3, hg⟩ := and_e hg
  obtain ⟨p2, ep2⟩ := is_v hg3
  obtain rfl : w2 = (.int p2) := Option.some.inj ep2
  obtain ⟨hg4, hg⟩ := and_e hg
  obtain ⟨p3, ep3⟩ := is_v hg4
  obtain rfl : w3 = (.int p3) := Option.some.inj ep3
  obtain ⟨hg5, hg⟩ := and_e hg
  obtain ⟨p4, ep4⟩ := is_v hg5
  obtain rfl : w4 = (.int p4) := Option.some.inj ep4
  have hg6 := hg
  obtain ⟨p5, ep5⟩ := is_v hg6
  obtain rfl : w5 = (.int p5) := Option.some.inj ep5
  have n1 := hn
  have hsets := (atoms_of jdkStatics_1 (show (jdkStatics_1.foldr Cond.and restOwn_1).before _ s = true by rw [← rest_1_c_eq]; exact hrest)).1
  obtain ⟨cc, ecc⟩ := is_v (Cond.before_iff.mp (hsets _ (List.mem_of_getElem? (i := 1) rfl)))
  have hcc : ¬ cc = 0 := fun q => by
    have q1 := not_v (Cond.before_iff.mp (hsets _ (List.mem_of_getElem? (i := 2) rfl)))
    exact absurd q (gotF (Cond.eq_ints ecc (Term.int_eval 0)) q1)
  obtain ⟨fm, efm, hfm⟩ := isR_v (Cond.before_iff.mp (hsets _ (List.mem_of_getElem? (i := 8) rfl)))
  have hG : SEnv s cc fm := ⟨Sta.start ecc (Or.inl (hsets _ (List.mem_of_getElem? (i := 0) rfl))), hcc, Sta.start efm (Or.inl (hsets _ (List.mem_of_getElem? (i := 7) rfl))), hfm⟩
  have hEW : EW s #[] ([] : List (String × Nat)) := EW.nil
  have hU__assertionsDisabled : Sta s s.heap "java/lang/StringUTF16" "$assertionsDisabled" "Z" (.int 1) := Sta.start (eqv_i (Z := s) (F := Jvm.Term.int (1 : Int32)) (y := 1) rfl (Cond.before_iff.mp (hsets _ (List.mem_of_getElem? (i := 12) rfl)))) (Or.inl (hsets _ (List.mem_of_getElem? (i := 11) rfl)))
  have hU_HI_BYTE_SHIFT : Sta s s.heap "java/lang/StringUTF16" "HI_BYTE_SHIFT" "I" (.int 0) := Sta.start (eqv_i (Z := s) (F := Jvm.Term.int (0 : Int32)) (y := 0) rfl (Cond.before_iff.mp (hsets _ (List.mem_of_getElem? (i := 15) rfl)))) (Or.inl (hsets _ (List.mem_of_getElem? (i := 14) rfl)))
  have hU_LO_BYTE_SHIFT : Sta s s.heap "java/lang/StringUTF16" "LO_BYTE_SHIFT" "I" (.int 8) := Sta.start (eqv_i (Z := s) (F := Jvm.Term.int (8 : Int32)) (y := 8) rfl (Cond.before_iff.mp (hsets _ (List.mem_of_getElem? (i := 18) rfl)))) (Or.inl (hsets _ (List.mem_of_getElem? (i := 17) rfl)))
  have hGU : SEnvU s := ⟨hU__assertionsDisabled, hU_HI_BYTE_SHIFT, hU_LO_BYTE_SHIFT⟩
  obtain ⟨t, o, h1, h2, h3, v, L, rfl, ⟨rfl, N, -⟩, hq⟩ := c_law l s _ hw EW.nil cc fm p0 p1 p2 p3 p4 p5 s.heap ⟨Nat.le_refl _, fun _ _ q => q⟩ hG hGU
    p e ha hc hk s m _ below hf ((Spec.applies_iff_loose hf).mp happ).1 ⟨rfl, State.Warmed39.refl s, rfl⟩ trivial
  refine ⟨t, _, h1, h2, h3, hpost _ _ _ _ _ _ ⟨Cond.after_iff.mpr rfl, Cond.after_iff.mpr (eq_i res_at (Term.int_eval (1)) rfl), trivial⟩ ⟨hq.1, hq.2.1, (hq.2.2.sift fun y hy => Or.inr (N y hy)).mono (by decide) (by decide)⟩⟩
theorem main_1_1 : Claimed_1_1 := comes_1 fun _ _ _ _ _ _ h hF => ⟨h.1, hF⟩
theorem main_1_2 : Claimed_1_2 := comes_1 fun _ _ _ _ _ _ h hF => ⟨h.2.1, hF⟩
end Jvm.Pilot.@@N@@
namespace Jvm.Pilot.@@N@@
open Jvm Jvm.ClassFile Sem Op Lib Jvm.Free Jvm.Stand Jvm.Pilot.@@N@@.Jvm.D
/-! MADE BY PROGRAM (witnessworld.py) out of the Statement's table words and the real class files: 23 classes; the members and pool entries that the words name. The judged class is class 1, her method 6. -/
namespace start1
open Jvm.ClassFile
def u (s : String) : CpInfo := .utf8 (stringToUtf16 s)
/-- a pool by its gaps: so many unusable entries, then the entry; so many at the end -/
def gap : Nat → List CpInfo → List CpInfo
  | 0, r => r
  | n + 1, r => .unusable :: gap n r
def poolList (es : List (Nat × CpInfo)) (last : Nat) : List CpInfo := es.foldr (fun e r => gap e.1 (e.2 :: r)) (gap last [])
def pool (es : List (Nat × CpInfo)) (last : Nat) : Array CpInfo := ⟨poolList es last⟩
def fileOf (pool : Array CpInfo) (this : Nat) (attrs : Array Attribute := #[]) (ms : Array MethodInfo := #[]) (fl : Nat := 33) (sup : Nat := 0) (ifs : Array Nat := #[]) (fds : Array FieldInfo := #[]) : ClassFile where
  minorVersion := 0
  majorVersion := 65
  constantPool := pool
  accessFlags := fl
  thisClass := this
  superClass := sup
  interfaces := ifs
  fields := fds
  methods := ms
  attributes := attrs
def plain (name : String) (sup : Option ClassId) : Class where
  name := name
  kind := .ordinary
  loader := none
  accessFlags := 33
  super := sup
  interfaces := #[]
  cf := none
  fields := #[]
  methods := #[]
  instanceTypes := #[]
  staticTypes := #[]
  resolved := #[]
  callSites := []
  init := .initialized
  statics := none
  mirror := none

def pool0 : Array CpInfo := pool [(5, u "<init>"), (0, u "()V"), (1, .class_ 10), (1, u "java/lang/Object")] 113

def k0c0 : Code := { maxStack := 0, maxLocals := 1, code := object_method_1_code, exceptionTable := #[], attributes := #[] }
def k0m0 : Method := { name := "<init>", desc := "()V", sig := { parameters := [], returnType := none }, accessFlags := 1, code := some k0c0 }
/-- java/lang/Object -/
def k0 : Class := { plain "java/lang/Object" none with
  accessFlags := 33
  interfaces := #[]
  cf := some (fileOf pool0 8 #[] #[{ accessFlags := 1, nameIndex := 5, descriptorIndex := 6, attributes := #[] }] 33 0 #[] #[])
  fields := #[]
  methods := #[k0m0]
  instanceTypes := #[]
  staticTypes := #[]
  resolved := Array.replicate 124 none
  statics := none }

def pool1 : Array CpInfo := pool [(2, .class_ 4), (1, u "java/lang/Object"), (0, u "<init>"), (0, u "()V"), (0, .long 65535), (1, .integer 55296), (0, .integer 56319), (0, .integer 56320), (0, .integer 57343), (0, .methodref 14 15), (0, .class_ 16), (0, .nameAndType 17 18), (0, u "com/example/itihasa/itihasa/model/TextRequireLengthPinLaw"), (0, u "isHigh"), (0, u "(C)Z"), (0, .methodref 14 20), (0, .nameAndType 21 18), (0, u "isLow"), (0, .class_ 23), (0, u "java/lang/String"), (0, .methodref 22 25), (0, .nameAndType 5 26), (0, u "([C)V"), (0, .methodref 14 28), (0, .nameAndType 29 30), (0, u "draw"), (0, u "(JII)C"), (0, .methodref 14 32), (0, .nameAndType 33 34), (0, u "pair"), (0, u "(CC)I"), (0, .integer 2147483647), (0, .methodref 37 38), (0, .class_ 39), (0, .nameAndType 40 41), (0, u "java/lang/Math"), (0, u "max"), (0, u "(II)I"), (0, .methodref 14 43), (0, .nameAndType 44 45), (0, u "build"), (0, u "(ICCCC)Ljava/lang/String;"), (0, .methodref 22 47), (0, .nameAndType 48 49), (0, u "valueOf"), (0, u "(C)Ljava/lang/String;"), (0, .methodref 51 52), (0, .class_ 53), (0, .nameAndType 54 55), (0, u "com/example/itihasa/itihasa/model/Text"), (0, u "requireLength"), (0, u "(Ljava/lang/String;Ljava/lang/String;I)V"), (3, u "law"), (0, u "(JIIIII)Z")] 2

def k1m0 : Method := { name := "<init>", desc := "()V", sig := { parameters := [], returnType := none }, accessFlags := 2, code := none }
def k1c1 : Code := { maxStack := 4, maxLocals := 5, code := method_2_code, exceptionTable := #[], attributes := #[] }
def k1m1 : Method := { name := "draw", desc := "(JII)C", sig := { parameters := [.long, .int, .int], returnType := some .char }, accessFlags := 10, code := some k1c1 }
def k1c2 : Code := { maxStack := 2, maxLocals := 1, code := method_3_code, exceptionTable := #[], attributes := #[] }
def k1m2 : Method := { name := "isHigh", desc := "(C)Z", sig := { parameters := [.char], returnType := some .boolean }, accessFlags := 10, code := some k1c2 }
def k1c3 : Code := { maxStack := 2, maxLocals := 1, code := method_4_code, exceptionTable := #[], attributes := #[] }
def k1m3 : Method := { name := "isLow", desc := "(C)Z", sig := { parameters := [.char], returnType := some .boolean }, accessFlags := 10, code := some k1c3 }
def k1c4 : Code := { maxStack := 1, maxLocals := 2, code := method_5_code, exceptionTable := #[], attributes := #[] }
def k1m4 : Method := { name := "pair", desc := "(CC)I", sig := { parameters := [.char, .char], returnType := some .int }, accessFlags := 10, code := some k1c4 }
def k1c5 : Code := { maxStack := 6, maxLocals := 5, code := method_6_code, exceptionTable := #[], attributes := #[] }
def k1m5 : Method := { name := "build", desc := "(ICCCC)Ljava/lang/String;", sig := { parameters := [.int, .char, .char, .char, .char], returnType := some (.object "java/lang/String") }, accessFlags := 10, code := some k1c5 }
def k1c6 : Code := { maxStack := 5, maxLocals := 17, code := code, exceptionTable := #[], attributes := #[] }
def k1m6 : Method := { name := "law", desc := "(JIIIII)Z", sig := { parameters := [.long, .int, .int, .int, .int, .int], returnType := some .boolean }, accessFlags := 9, code := some k1c6 }
/-- com/example/itihasa/itihasa/model/TextRequireLengthPinLaw -/
def k1 : Class := { plain "com/example/itihasa/itihasa/model/TextRequireLengthPinLaw" (some 0) with
  accessFlags := 49
  interfaces := #[]
  cf := some (fileOf pool1 14 #[] #[{ accessFlags := 2, nameIndex := 5, descriptorIndex := 6, attributes := #[] }, { accessFlags := 10, nameIndex := 29, descriptorIndex := 30, attributes := #[] }, { accessFlags := 10, nameIndex := 17, descriptorIndex := 18, attributes := #[] }, { accessFlags := 10, nameIndex := 21, descriptorIndex := 18, attributes := #[] }, { accessFlags := 10, nameIndex := 33, descriptorIndex := 34, attributes := #[] }, { accessFlags := 10, nameIndex := 44, descriptorIndex := 45, attributes := #[] }, { accessFlags := 9, nameIndex := 59, descriptorIndex := 60, attributes := #[] }] 49 2 #[] #[])
  fields := #[]
  methods := #[k1m0, k1m1, k1m2, k1m3, k1m4, k1m5, k1m6]
  instanceTypes := #[]
  staticTypes := #[]
  resolved := Array.replicate 63 none
  statics := none }

def pool2 : Array CpInfo := pool [(1, .class_ 2), (0, u "java/lang/Math"), (1, .class_ 6), (1, u "java/lang/Object"), (0, u "<init>"), (0, u "()V"), (89, .class_ 100), (1, u "java/lang/Math$RandomNumberGeneratorHolder"), (71, u "negativeZeroFloatBits"), (0, u "J"), (2, u "negativeZeroDoubleBits"), (21, u "max"), (46, u "$assertionsDisabled"), (0, u "Z"), (88, u "(II)I"), (2, u "twoToTheDoubleScaleDown"), (0, u "D"), (4, u "twoToTheDoubleScaleUp"), (9, u "E"), (3, u "PI"), (2, u "TAU"), (2, u "DEGREES_TO_RADIANS"), (0, u "RADIANS_TO_DEGREES")] 94

def k2m0 : Method := { name := "<init>", desc := "()V", sig := { parameters := [], returnType := none }, accessFlags := 2, code := none }
def k2c1 : Code := { maxStack := 2, maxLocals := 2, code := jdk_29_method_65_code, exceptionTable := #[], attributes := #[] }
def k2m1 : Method := { name := "max", desc := "(II)I", sig := { parameters := [.int, .int], returnType := some .int }, accessFlags := 9, code := some k2c1 }
/-- java/lang/Math -/
def k2 : Class := { plain "java/lang/Math" (some 0) with
  accessFlags := 49
  interfaces := #[]
  cf := some (fileOf pool2 1 #[.nestMembers #[98]] #[{ accessFlags := 2, nameIndex := 7, descriptorIndex := 8, attributes := #[] }, { accessFlags := 9, nameIndex := 198, descriptorIndex := 335, attributes := #[] }] 49 4 #[] #[{ accessFlags := 25, nameIndex := 354, descriptorIndex := 339, attributes := #[] }, { accessFlags := 25, nameIndex := 358, descriptorIndex := 339, attributes := #[] }, { accessFlags := 25, nameIndex := 361, descriptorIndex := 339, attributes := #[] }, { accessFlags := 26, nameIndex := 364, descriptorIndex := 339, attributes := #[] }, { accessFlags := 26, nameIndex := 365, descriptorIndex := 339, attributes := #[] }, { accessFlags := 26, nameIndex := 172, descriptorIndex := 173, attributes := #[] }, { accessFlags := 26, nameIndex := 176, descriptorIndex := 173, attributes := #[] }, { accessFlags := 8, nameIndex := 344, descriptorIndex := 339, attributes := #[] }, { accessFlags := 8, nameIndex := 338, descriptorIndex := 339, attributes := #[] }, { accessFlags := 4120, nameIndex := 245, descriptorIndex := 246, attributes := #[] }])
  fields := #[{ name := "E", type := .double, accessFlags := 25, slot := 0, constantValue := 0 }, { name := "PI", type := .double, accessFlags := 25, slot := 1, constantValue := 0 }, { name := "TAU", type := .double, accessFlags := 25, slot := 2, constantValue := 0 }, { name := "DEGREES_TO_RADIANS", type := .double, accessFlags := 26, slot := 3, constantValue := 0 }, { name := "RADIANS_TO_DEGREES", type := .double, accessFlags := 26, slot := 4, constantValue := 0 }, { name := "negativeZeroFloatBits", type := .long, accessFlags := 26, slot := 5, constantValue := 0 }, { name := "negativeZeroDoubleBits", type := .long, accessFlags := 26, slot := 6, constantValue := 0 }, { name := "twoToTheDoubleScaleUp", type := .double, accessFlags := 8, slot := 7, constantValue := 0 }, { name := "twoToTheDoubleScaleDown", type := .double, accessFlags := 8, slot := 8, constantValue := 0 }, { name := "$assertionsDisabled", type := .boolean, accessFlags := 4120, slot := 9, constantValue := 0 }]
  methods := #[k2m0, k2m1]
  instanceTypes := #[]
  staticTypes := #[.double, .double, .double, .double, .double, .long, .long, .double, .double, .boolean]
  resolved := Array.replicate 460 none
  statics := none }

def pool3 : Array CpInfo := pool [(1, .class_ 2), (0, u "java/io/Serializable"), (0, .class_ 4), (0, u "java/lang/Object")] 2

/-- java/io/Serializable -/
def k3 : Class := { plain "java/io/Serializable" (some 0) with
  accessFlags := 1537
  interfaces := #[]
  cf := some (fileOf pool3 1 #[] #[] 1537 3 #[] #[])
  fields := #[]
  methods := #[]
  instanceTypes := #[]
  staticTypes := #[]
  resolved := Array.replicate 7 none
  statics := none }

def pool4 : Array CpInfo := pool [(1, .class_ 2), (0, u "java/lang/Comparable"), (0, .class_ 4), (0, u "java/lang/Object")] 7

/-- java/lang/Comparable -/
def k4 : Class := { plain "java/lang/Comparable" (some 0) with
  accessFlags := 1537
  interfaces := #[]
  cf := some (fileOf pool4 1 #[] #[] 1537 3 #[] #[])
  fields := #[]
  methods := #[]
  instanceTypes := #[]
  staticTypes := #[]
  resolved := Array.replicate 12 none
  statics := none }

def pool5 : Array CpInfo := pool [(2, .class_ 4), (1, u "java/lang/CharSequence"), (42, .class_ 48), (0, u "java/lang/CharSequence$1CodePointIterator"), (10, .class_ 60), (0, u "java/lang/CharSequence$1CharIterator"), (5, .class_ 67), (0, u "java/lang/Object")] 63

/-- java/lang/CharSequence -/
def k5 : Class := { plain "java/lang/CharSequence" (some 0) with
  accessFlags := 1537
  interfaces := #[]
  cf := some (fileOf pool5 2 #[.nestMembers #[47, 59]] #[] 1537 66 #[] #[])
  fields := #[]
  methods := #[]
  instanceTypes := #[]
  staticTypes := #[]
  resolved := Array.replicate 131 none
  statics := none }

def pool6 : Array CpInfo := pool [(1, .class_ 2), (0, u "java/lang/constant/Constable"), (0, .class_ 4), (0, u "java/lang/Object")] 6

/-- java/lang/constant/Constable -/
def k6 : Class := { plain "java/lang/constant/Constable" (some 0) with
  accessFlags := 1537
  interfaces := #[]
  cf := some (fileOf pool6 1 #[] #[] 1537 3 #[] #[])
  fields := #[]
  methods := #[]
  instanceTypes := #[]
  staticTypes := #[]
  resolved := Array.replicate 11 none
  statics := none }

def pool7 : Array CpInfo := pool [(1, .class_ 2), (0, u "java/lang/constant/ConstantDesc"), (0, .class_ 4), (0, u "java/lang/Object")] 32

/-- java/lang/constant/ConstantDesc -/
def k7 : Class := { plain "java/lang/constant/ConstantDesc" (some 0) with
  accessFlags := 1537
  interfaces := #[]
  cf := some (fileOf pool7 1 #[] #[] 1537 3 #[] #[])
  fields := #[]
  methods := #[]
  instanceTypes := #[]
  staticTypes := #[]
  resolved := Array.replicate 37 none
  statics := none }

def pool8 : Array CpInfo := pool [(1, .methodref 2 3), (0, .class_ 4), (0, .nameAndType 5 6), (0, u "java/lang/Object"), (0, u "<init>"), (0, u "()V"), (2, .fieldref 10 11), (0, .class_ 12), (0, .nameAndType 13 14), (0, u "java/lang/String"), (0, u "value"), (0, u "[B"), (0, .fieldref 10 16), (0, .nameAndType 17 18), (0, u "coder"), (0, u "B"), (2, u "hash"), (0, u "I"), (2, u "hashIsZero"), (0, u "Z"), (0, .methodref 10 28), (0, .nameAndType 5 29), (0, u "([CIILjava/lang/Void;)V"), (7, u "(III)I"), (0, .fieldref 10 39), (0, .nameAndType 40 26), (0, u "COMPACT_STRINGS"), (1, .class_ 44), (1, u "java/lang/StringUTF16"), (0, u "compress"), (1, .methodref 42 48), (0, .nameAndType 49 50), (0, u "coderFromArrayLen"), (0, u "([BI)B"), (2, u "toBytes"), (25, .class_ 81), (1, u "java/util/Objects"), (15, u "([BII)I"), (9, .class_ 109), (1, u "java/lang/StringLatin1"), (32, u "()Z"), (34, .methodref 42 178), (0, .nameAndType 45 179), (0, u "([CII)[B"), (29, .methodref 10 210), (0, .nameAndType 5 211), (0, u "([BB)V"), (122, u "()I"), (0, .methodref 10 336), (0, .nameAndType 17 337), (0, u "()B"), (31, u "(C)Z"), (122, .methodref 10 493), (0, .nameAndType 494 142), (0, u "isLatin1"), (10, .methodref 10 506), (0, .nameAndType 507 334), (0, u "length"), (3, .methodref 79 512), (0, .nameAndType 513 37), (0, u "checkFromToIndex"), (0, .methodref 42 515), (0, .nameAndType 516 97), (0, u "codePointCount"), (58, .class_ 576), (0, u "java/lang/CharSequence"), (22, u "CASE_INSENSITIVE_ORDER"), (0, u "Ljava/util/Comparator;"), (35, u "(II)I"), (55, u "isEmpty"), (89, u "valueOf"), (0, u "(C)Ljava/lang/String;"), (226, u "([C)V"), (4, .methodref 107 1016), (0, .nameAndType 1017 369), (0, u "canEncode"), (0, .methodref 107 1019), (0, .nameAndType 53 1020), (0, u "(C)[B"), (80, u "serialPersistentFields"), (0, u "[Ljava/io/ObjectStreamField;"), (0, .class_ 1104), (0, u "java/lang/String$CaseInsensitiveComparator"), (1, .class_ 1107), (0, u "java/io/Serializable"), (0, .class_ 1109), (0, u "java/lang/Comparable"), (0, .class_ 1111), (0, u "java/lang/constant/Constable"), (0, .class_ 1113), (0, u "java/lang/constant/ConstantDesc"), (2, u "serialVersionUID"), (0, u "J"), (3, u "REPL"), (0, u "C"), (2, u "LATIN1"), (1, u "UTF16")] 323

def k8m0 : Method := { name := "<init>", desc := "()V", sig := { parameters := [], returnType := none }, accessFlags := 1, code := none }
def k8c1 : Code := { maxStack := 5, maxLocals := 2, code := jdk_42_method_3_code, exceptionTable := #[], attributes := #[] }
def k8m1 : Method := { name := "<init>", desc := "([C)V", sig := { parameters := [(.array .char)], returnType := none }, accessFlags := 1, code := some k8c1 }
def k8c2 : Code := { maxStack := 2, maxLocals := 1, code := jdk_42_method_54_code, exceptionTable := #[], attributes := #[] }
def k8m2 : Method := { name := "length", desc := "()I", sig := { parameters := [], returnType := some .int }, accessFlags := 1, code := some k8c2 }
def k8c3 : Code := { maxStack := 1, maxLocals := 1, code := jdk_42_method_55_code, exceptionTable := #[], attributes := #[] }
def k8m3 : Method := { name := "isEmpty", desc := "()Z", sig := { parameters := [], returnType := some .boolean }, accessFlags := 1, code := some k8c3 }
def k8c4 : Code := { maxStack := 3, maxLocals := 3, code := jdk_42_method_59_code, exceptionTable := #[], attributes := #[] }
def k8m4 : Method := { name := "codePointCount", desc := "(II)I", sig := { parameters := [.int, .int], returnType := some .int }, accessFlags := 1, code := some k8c4 }
def k8c5 : Code := { maxStack := 4, maxLocals := 1, code := jdk_42_method_139_code, exceptionTable := #[], attributes := #[] }
def k8m5 : Method := { name := "valueOf", desc := "(C)Ljava/lang/String;", sig := { parameters := [.char], returnType := some (.object "java/lang/String") }, accessFlags := 9, code := some k8c5 }
def k8c6 : Code := { maxStack := 4, maxLocals := 6, code := jdk_42_method_149_code, exceptionTable := #[], attributes := #[] }
def k8m6 : Method := { name := "<init>", desc := "([CIILjava/lang/Void;)V", sig := { parameters := [(.array .char), .int, .int, (.object "java/lang/Void")], returnType := none }, accessFlags := 2, code := some k8c6 }
def k8c7 : Code := { maxStack := 2, maxLocals := 3, code := jdk_42_method_151_code, exceptionTable := #[], attributes := #[] }
def k8m7 : Method := { name := "<init>", desc := "([BB)V", sig := { parameters := [(.array .byte), .byte], returnType := none }, accessFlags := 0, code := some k8c7 }
def k8c8 : Code := { maxStack := 1, maxLocals := 1, code := jdk_42_method_152_code, exceptionTable := #[], attributes := #[] }
def k8m8 : Method := { name := "coder", desc := "()B", sig := { parameters := [], returnType := some .byte }, accessFlags := 0, code := some k8c8 }
def k8c9 : Code := { maxStack := 1, maxLocals := 1, code := jdk_42_method_154_code, exceptionTable := #[], attributes := #[] }
def k8m9 : Method := { name := "isLatin1", desc := "()Z", sig := { parameters := [], returnType := some .boolean }, accessFlags := 0, code := some k8c9 }
/-- java/lang/String -/
def k8 : Class := { plain "java/lang/String" (some 0) with
  accessFlags := 49
  interfaces := #[3, 4, 5, 6, 7]
  cf := some (fileOf pool8 10 #[.nestMembers #[1103]] #[{ accessFlags := 1, nameIndex := 5, descriptorIndex := 6, attributes := #[] }, { accessFlags := 1, nameIndex := 5, descriptorIndex := 1010, attributes := #[] }, { accessFlags := 1, nameIndex := 507, descriptorIndex := 334, attributes := #[] }, { accessFlags := 1, nameIndex := 692, descriptorIndex := 142, attributes := #[] }, { accessFlags := 1, nameIndex := 516, descriptorIndex := 636, attributes := #[] }, { accessFlags := 9, nameIndex := 782, descriptorIndex := 783, attributes := #[] }, { accessFlags := 2, nameIndex := 5, descriptorIndex := 29, attributes := #[] }, { accessFlags := 0, nameIndex := 5, descriptorIndex := 211, attributes := #[] }, { accessFlags := 0, nameIndex := 17, descriptorIndex := 337, attributes := #[] }, { accessFlags := 0, nameIndex := 494, descriptorIndex := 142, attributes := #[] }] 49 2 #[1106, 1108, 575, 1110, 1112] #[{ accessFlags := 18, nameIndex := 13, descriptorIndex := 14, attributes := #[] }, { accessFlags := 18, nameIndex := 17, descriptorIndex := 18, attributes := #[] }, { accessFlags := 2, nameIndex := 21, descriptorIndex := 22, attributes := #[] }, { accessFlags := 2, nameIndex := 25, descriptorIndex := 26, attributes := #[] }, { accessFlags := 26, nameIndex := 1116, descriptorIndex := 1117, attributes := #[] }, { accessFlags := 24, nameIndex := 40, descriptorIndex := 26, attributes := #[] }, { accessFlags := 26, nameIndex := 1101, descriptorIndex := 1102, attributes := #[] }, { accessFlags := 26, nameIndex := 1121, descriptorIndex := 1122, attributes := #[] }, { accessFlags := 25, nameIndex := 599, descriptorIndex := 600, attributes := #[] }, { accessFlags := 24, nameIndex := 1125, descriptorIndex := 18, attributes := #[] }, { accessFlags := 24, nameIndex := 1127, descriptorIndex := 18, attributes := #[] }])
  fields := #[{ name := "value", type := (.array .byte), accessFlags := 18, slot := 0, constantValue := 0 }, { name := "coder", type := .byte, accessFlags := 18, slot := 1, constantValue := 0 }, { name := "hash", type := .int, accessFlags := 2, slot := 2, constantValue := 0 }, { name := "hashIsZero", type := .boolean, accessFlags := 2, slot := 3, constantValue := 0 }, { name := "serialVersionUID", type := .long, accessFlags := 26, slot := 0, constantValue := 0 }, { name := "COMPACT_STRINGS", type := .boolean, accessFlags := 24, slot := 1, constantValue := 0 }, { name := "serialPersistentFields", type := (.array (.object "java/io/ObjectStreamField")), accessFlags := 26, slot := 2, constantValue := 0 }, { name := "REPL", type := .char, accessFlags := 26, slot := 3, constantValue := 0 }, { name := "CASE_INSENSITIVE_ORDER", type := (.object "java/util/Comparator"), accessFlags := 25, slot := 4, constantValue := 0 }, { name := "LATIN1", type := .byte, accessFlags := 24, slot := 5, constantValue := 0 }, { name := "UTF16", type := .byte, accessFlags := 24, slot := 6, constantValue := 0 }]
  methods := #[k8m0, k8m1, k8m2, k8m3, k8m4, k8m5, k8m6, k8m7, k8m8, k8m9]
  instanceTypes := #[(.array .byte), .byte, .int, .boolean]
  staticTypes := #[.long, .boolean, (.array (.object "java/io/ObjectStreamField")), .char, (.object "java/util/Comparator"), .byte, .byte]
  resolved := Array.replicate 1451 none
  statics := some 0 }

def pool9 : Array CpInfo := pool [(6, .class_ 8), (1, u "java/lang/Object"), (0, u "<init>"), (0, u "()V"), (0, .methodref 12 13), (0, .class_ 14), (0, .nameAndType 15 16), (0, u "java/lang/StringUTF16"), (0, u "newBytesLength"), (0, u "(I)I"), (3, .integer 1073741823), (23, .fieldref 12 45), (0, .nameAndType 46 47), (0, u "$assertionsDisabled"), (0, u "Z"), (11, .fieldref 12 60), (0, .nameAndType 61 62), (0, u "HI_BYTE_SHIFT"), (0, u "I"), (0, .fieldref 12 64), (0, .nameAndType 65 62), (0, u "LO_BYTE_SHIFT"), (5, .methodref 12 72), (0, .nameAndType 73 74), (0, u "getChar"), (0, u "([BI)C"), (0, .methodref 76 77), (0, .class_ 78), (0, .nameAndType 79 80), (0, u "java/lang/Character"), (0, u "isHighSurrogate"), (0, u "(C)Z"), (0, .methodref 76 82), (0, .nameAndType 83 80), (0, u "isLowSurrogate"), (7, u "([BIIZ)I"), (8, .methodref 12 101), (0, .nameAndType 102 91), (0, u "codePointCount"), (4, .methodref 12 108), (0, .nameAndType 109 110), (0, u "newBytesFor"), (0, u "(I)[B"), (0, .methodref 12 112), (0, .nameAndType 113 114), (0, u "putChar"), (0, u "([BII)V"), (0, .methodref 12 116), (0, .nameAndType 117 118), (0, u "compress"), (0, u "([CI[BII)I"), (0, .methodref 12 120), (0, .nameAndType 121 122), (0, u "toBytes"), (0, u "([CII)[B"), (127, u "([BII)I"), (10, u "coderFromArrayLen"), (0, u "([BI)B"), (106, .class_ 371), (1, u "java/lang/StringUTF16$LinesSpliterator"), (58, u "MAX_LENGTH"), (196, .class_ 628), (0, u "java/lang/StringUTF16$CodePointsSpliterator"), (0, .class_ 630), (0, u "java/lang/StringUTF16$CharsSpliterator")] 4

def k9m0 : Method := { name := "<init>", desc := "()V", sig := { parameters := [], returnType := none }, accessFlags := 0, code := none }
def k9c1 : Code := { maxStack := 1, maxLocals := 1, code := jdk_52_method_2_code, exceptionTable := #[], attributes := #[] }
def k9m1 : Method := { name := "newBytesFor", desc := "(I)[B", sig := { parameters := [.int], returnType := some (.array .byte) }, accessFlags := 9, code := some k9c1 }
def k9c2 : Code := { maxStack := 4, maxLocals := 1, code := jdk_52_method_3_code, exceptionTable := #[], attributes := #[] }
def k9m2 : Method := { name := "newBytesLength", desc := "(I)I", sig := { parameters := [.int], returnType := some .int }, accessFlags := 9, code := some k9c2 }
def k9c3 : Code := { maxStack := 4, maxLocals := 3, code := jdk_52_method_4_code, exceptionTable := #[], attributes := #[] }
def k9m3 : Method := { name := "putChar", desc := "([BII)V", sig := { parameters := [(.array .byte), .int, .int], returnType := none }, accessFlags := 8, code := some k9c3 }
def k9c4 : Code := { maxStack := 3, maxLocals := 2, code := jdk_52_method_5_code, exceptionTable := #[], attributes := #[] }
def k9m4 : Method := { name := "getChar", desc := "([BI)C", sig := { parameters := [(.array .byte), .int], returnType := some .char }, accessFlags := 8, code := some k9c4 }
def k9c5 : Code := { maxStack := 3, maxLocals := 6, code := jdk_52_method_11_code, exceptionTable := #[], attributes := #[] }
def k9m5 : Method := { name := "codePointCount", desc := "([BIIZ)I", sig := { parameters := [(.array .byte), .int, .int, .boolean], returnType := some .int }, accessFlags := 10, code := some k9c5 }
def k9c6 : Code := { maxStack := 4, maxLocals := 3, code := jdk_52_method_12_code, exceptionTable := #[], attributes := #[] }
def k9m6 : Method := { name := "codePointCount", desc := "([BII)I", sig := { parameters := [(.array .byte), .int, .int], returnType := some .int }, accessFlags := 9, code := some k9c6 }
def k9c7 : Code := { maxStack := 4, maxLocals := 5, code := jdk_52_method_14_code, exceptionTable := #[], attributes := #[] }
def k9m7 : Method := { name := "toBytes", desc := "([CII)[B", sig := { parameters := [(.array .char), .int, .int], returnType := some (.array .byte) }, accessFlags := 9, code := some k9c7 }
def k9c8 : Code := { maxStack := 2, maxLocals := 2, code := jdk_52_method_15_code, exceptionTable := #[], attributes := #[] }
def k9m8 : Method := { name := "coderFromArrayLen", desc := "([BI)B", sig := { parameters := [(.array .byte), .int], returnType := some .byte }, accessFlags := 8, code := some k9c8 }
def k9c9 : Code := { maxStack := 5, maxLocals := 6, code := jdk_52_method_16_code, exceptionTable := #[], attributes := #[] }
def k9m9 : Method := { name := "compress", desc := "([CII)[B", sig := { parameters := [(.array .char), .int, .int], returnType := some (.array .byte) }, accessFlags := 9, code := some k9c9 }
def k9c10 : Code := { maxStack := 3, maxLocals := 7, code := jdk_52_method_21_code, exceptionTable := #[], attributes := #[] }
def k9m10 : Method := { name := "compress", desc := "([CI[BII)I", sig := { parameters := [(.array .char), .int, (.array .byte), .int, .int], returnType := some .int }, accessFlags := 9, code := some k9c10 }
/-- java/lang/StringUTF16 -/
def k9 : Class := { plain "java/lang/StringUTF16" (some 0) with
  accessFlags := 48
  interfaces := #[]
  cf := some (fileOf pool9 12 #[.nestMembers #[627, 629, 369]] #[{ accessFlags := 0, nameIndex := 9, descriptorIndex := 10, attributes := #[] }, { accessFlags := 9, nameIndex := 109, descriptorIndex := 110, attributes := #[] }, { accessFlags := 9, nameIndex := 15, descriptorIndex := 16, attributes := #[] }, { accessFlags := 8, nameIndex := 113, descriptorIndex := 114, attributes := #[] }, { accessFlags := 8, nameIndex := 73, descriptorIndex := 74, attributes := #[] }, { accessFlags := 10, nameIndex := 102, descriptorIndex := 91, attributes := #[] }, { accessFlags := 9, nameIndex := 102, descriptorIndex := 250, attributes := #[] }, { accessFlags := 9, nameIndex := 121, descriptorIndex := 122, attributes := #[] }, { accessFlags := 8, nameIndex := 261, descriptorIndex := 262, attributes := #[] }, { accessFlags := 9, nameIndex := 117, descriptorIndex := 122, attributes := #[] }, { accessFlags := 9, nameIndex := 117, descriptorIndex := 118, attributes := #[] }] 48 6 #[] #[{ accessFlags := 26, nameIndex := 61, descriptorIndex := 62, attributes := #[] }, { accessFlags := 26, nameIndex := 65, descriptorIndex := 62, attributes := #[] }, { accessFlags := 24, nameIndex := 430, descriptorIndex := 62, attributes := #[] }, { accessFlags := 4120, nameIndex := 46, descriptorIndex := 47, attributes := #[] }])
  fields := #[{ name := "HI_BYTE_SHIFT", type := .int, accessFlags := 26, slot := 0, constantValue := 0 }, { name := "LO_BYTE_SHIFT", type := .int, accessFlags := 26, slot := 1, constantValue := 0 }, { name := "MAX_LENGTH", type := .int, accessFlags := 24, slot := 2, constantValue := 0 }, { name := "$assertionsDisabled", type := .boolean, accessFlags := 4120, slot := 3, constantValue := 0 }]
  methods := #[k9m0, k9m1, k9m2, k9m3, k9m4, k9m5, k9m6, k9m7, k9m8, k9m9, k9m10]
  instanceTypes := #[]
  staticTypes := #[.int, .int, .int, .boolean]
  resolved := Array.replicate 635 none
  statics := some 1 }

def pool10 : Array CpInfo := pool [(4, .class_ 6), (1, u "java/lang/Object"), (0, u "<init>"), (0, u "()V"), (5, .class_ 16), (1, u "java/lang/StringLatin1"), (73, u "canEncode"), (14, u "(C)Z"), (15, u "$assertionsDisabled"), (0, u "Z"), (98, .class_ 223), (1, u "java/lang/StringLatin1$LinesSpliterator"), (156, u "toBytes"), (1, u "(C)[B"), (7, .class_ 391), (0, u "java/lang/StringLatin1$CharsSpliterator")] 3

def k10m0 : Method := { name := "<init>", desc := "()V", sig := { parameters := [], returnType := none }, accessFlags := 0, code := none }
def k10c1 : Code := { maxStack := 2, maxLocals := 1, code := jdk_43_method_3_code, exceptionTable := #[], attributes := #[] }
def k10m1 : Method := { name := "canEncode", desc := "(C)Z", sig := { parameters := [.char], returnType := some .boolean }, accessFlags := 9, code := some k10c1 }
def k10c2 : Code := { maxStack := 4, maxLocals := 1, code := jdk_43_method_46_code, exceptionTable := #[], attributes := #[] }
def k10m2 : Method := { name := "toBytes", desc := "(C)[B", sig := { parameters := [.char], returnType := some (.array .byte) }, accessFlags := 9, code := some k10c2 }
/-- java/lang/StringLatin1 -/
def k10 : Class := { plain "java/lang/StringLatin1" (some 0) with
  accessFlags := 48
  interfaces := #[]
  cf := some (fileOf pool10 14 #[.nestMembers #[390, 221]] #[{ accessFlags := 0, nameIndex := 7, descriptorIndex := 8, attributes := #[] }, { accessFlags := 9, nameIndex := 90, descriptorIndex := 105, attributes := #[] }, { accessFlags := 9, nameIndex := 380, descriptorIndex := 382, attributes := #[] }] 48 4 #[] #[{ accessFlags := 4120, nameIndex := 121, descriptorIndex := 122, attributes := #[] }])
  fields := #[{ name := "$assertionsDisabled", type := .boolean, accessFlags := 4120, slot := 0, constantValue := 0 }]
  methods := #[k10m0, k10m1, k10m2]
  instanceTypes := #[]
  staticTypes := #[.boolean]
  resolved := Array.replicate 395 none
  statics := none }

def pool11 : Array CpInfo := pool [(2, .class_ 4), (1, u "java/lang/Object"), (0, u "<init>"), (0, u "()V"), (7, .class_ 16), (1, u "com/example/itihasa/itihasa/model/Text"), (12, .methodref 30 31), (0, .class_ 32), (0, .nameAndType 33 34), (0, u "java/lang/String"), (0, u "isEmpty"), (0, u "()Z"), (9, .methodref 30 45), (0, .nameAndType 46 47), (0, u "length"), (0, u "()I"), (0, .methodref 30 49), (0, .nameAndType 50 51), (0, u "codePointCount"), (0, u "(II)I"), (33, u "requireLength"), (0, u "(Ljava/lang/String;Ljava/lang/String;I)V")] 33

def k11m0 : Method := { name := "<init>", desc := "()V", sig := { parameters := [], returnType := none }, accessFlags := 2, code := none }
def k11c1 : Code := { maxStack := 6, maxLocals := 4, code := prog_6_method_4_code, exceptionTable := #[], attributes := #[] }
def k11m1 : Method := { name := "requireLength", desc := "(Ljava/lang/String;Ljava/lang/String;I)V", sig := { parameters := [(.object "java/lang/String"), (.object "java/lang/String"), .int], returnType := none }, accessFlags := 8, code := some k11c1 }
/-- com/example/itihasa/itihasa/model/Text -/
def k11 : Class := { plain "com/example/itihasa/itihasa/model/Text" (some 0) with
  accessFlags := 32
  interfaces := #[]
  cf := some (fileOf pool11 14 #[] #[{ accessFlags := 2, nameIndex := 5, descriptorIndex := 6, attributes := #[] }, { accessFlags := 8, nameIndex := 85, descriptorIndex := 86, attributes := #[] }] 32 2 #[] #[])
  fields := #[]
  methods := #[k11m0, k11m1]
  instanceTypes := #[]
  staticTypes := #[]
  resolved := Array.replicate 120 none
  statics := none }

def pool12 : Array CpInfo := pool [(2, .class_ 4), (1, u "java/lang/Object"), (0, u "<init>"), (0, u "()V"), (35, .class_ 44), (1, u "java/util/Objects"), (61, .class_ 108), (1, u "jdk/internal/util/Preconditions"), (2, .methodref 106 112), (0, .nameAndType 113 114), (0, u "checkFromToIndex"), (0, u "(IIILjava/util/function/BiFunction;)I"), (60, u "(III)I")] 8

def k12m0 : Method := { name := "<init>", desc := "()V", sig := { parameters := [], returnType := none }, accessFlags := 2, code := none }
def k12c1 : Code := { maxStack := 4, maxLocals := 3, code := jdk_31_method_18_code, exceptionTable := #[], attributes := #[] }
def k12m1 : Method := { name := "checkFromToIndex", desc := "(III)I", sig := { parameters := [.int, .int, .int], returnType := some .int }, accessFlags := 9, code := some k12c1 }
/-- java/util/Objects -/
def k12 : Class := { plain "java/util/Objects" (some 0) with
  accessFlags := 49
  interfaces := #[]
  cf := some (fileOf pool12 42 #[] #[{ accessFlags := 2, nameIndex := 5, descriptorIndex := 6, attributes := #[] }, { accessFlags := 9, nameIndex := 113, descriptorIndex := 175, attributes := #[] }] 49 2 #[] #[])
  fields := #[]
  methods := #[k12m0, k12m1]
  instanceTypes := #[]
  staticTypes := #[]
  resolved := Array.replicate 184 none
  statics := none }

def pool13 : Array CpInfo := pool [(2, .class_ 4), (1, u "java/lang/Object"), (0, u "<init>"), (0, u "()V"), (17, .class_ 26), (1, u "jdk/internal/util/Preconditions"), (20, u "checkFromToIndex"), (7, .class_ 56), (0, u "jdk/internal/util/Preconditions$4"), (57, .class_ 115), (0, u "jdk/internal/util/Preconditions$1"), (7, u "SIOOBE_FORMATTER"), (0, u "Ljava/util/function/BiFunction;"), (0, .class_ 126), (0, u "jdk/internal/util/Preconditions$2"), (3, u "AIOOBE_FORMATTER"), (0, .class_ 132), (0, u "jdk/internal/util/Preconditions$3"), (3, u "IOOBE_FORMATTER"), (46, u "(IIILjava/util/function/BiFunction;)I")] 10

def k13m0 : Method := { name := "<init>", desc := "()V", sig := { parameters := [], returnType := none }, accessFlags := 1, code := none }
def k13c1 : Code := { maxStack := 4, maxLocals := 4, code := jdk_41_method_12_code, exceptionTable := #[], attributes := #[] }
def k13m1 : Method := { name := "checkFromToIndex", desc := "(IIILjava/util/function/BiFunction;)I", sig := { parameters := [.int, .int, .int, (.object "java/util/function/BiFunction")], returnType := some .int }, accessFlags := 9, code := some k13c1 }
/-- jdk/internal/util/Preconditions -/
def k13 : Class := { plain "jdk/internal/util/Preconditions" (some 0) with
  accessFlags := 33
  interfaces := #[]
  cf := some (fileOf pool13 24 #[.nestMembers #[55, 131, 125, 114]] #[{ accessFlags := 1, nameIndex := 5, descriptorIndex := 6, attributes := #[] }, { accessFlags := 9, nameIndex := 47, descriptorIndex := 183, attributes := #[] }] 33 2 #[] #[{ accessFlags := 25, nameIndex := 123, descriptorIndex := 124, attributes := #[] }, { accessFlags := 25, nameIndex := 130, descriptorIndex := 124, attributes := #[] }, { accessFlags := 25, nameIndex := 136, descriptorIndex := 124, attributes := #[] }])
  fields := #[{ name := "SIOOBE_FORMATTER", type := (.object "java/util/function/BiFunction"), accessFlags := 25, slot := 0, constantValue := 0 }, { name := "AIOOBE_FORMATTER", type := (.object "java/util/function/BiFunction"), accessFlags := 25, slot := 1, constantValue := 0 }, { name := "IOOBE_FORMATTER", type := (.object "java/util/function/BiFunction"), accessFlags := 25, slot := 2, constantValue := 0 }]
  methods := #[k13m0, k13m1]
  instanceTypes := #[]
  staticTypes := #[(.object "java/util/function/BiFunction"), (.object "java/util/function/BiFunction"), (.object "java/util/function/BiFunction")]
  resolved := Array.replicate 194 none
  statics := some 2 }

def pool14 : Array CpInfo := pool [(1, .class_ 2), (0, u "java/lang/Character"), (18, u "value"), (0, u "C"), (19, .class_ 44), (1, u "java/lang/Object"), (3, .class_ 50), (1, u "java/lang/Character$CharacterCache"), (24, .integer 55296), (0, .integer 56320), (0, .integer 57344), (2, u "isHighSurrogate"), (0, u "(C)Z"), (2, u "isLowSurrogate"), (199, u "$assertionsDisabled"), (0, u "Z"), (21, .class_ 309), (1, u "java/lang/Character$UnicodeBlock"), (73, u "TYPE"), (0, u "Ljava/lang/Class;"), (0, .class_ 386), (0, u "java/io/Serializable"), (0, .class_ 388), (0, u "java/lang/Comparable"), (0, .class_ 390), (0, u "java/lang/constant/Constable"), (0, u "MIN_RADIX"), (0, u "I"), (2, u "MAX_RADIX"), (1, u "MIN_VALUE"), (1, u "MAX_VALUE"), (3, u "UNASSIGNED"), (0, u "B"), (0, u "UPPERCASE_LETTER"), (1, u "LOWERCASE_LETTER"), (0, u "TITLECASE_LETTER"), (1, u "MODIFIER_LETTER"), (1, u "OTHER_LETTER"), (1, u "NON_SPACING_MARK"), (1, u "ENCLOSING_MARK"), (1, u "COMBINING_SPACING_MARK"), (1, u "DECIMAL_DIGIT_NUMBER"), (1, u "LETTER_NUMBER"), (1, u "OTHER_NUMBER"), (1, u "SPACE_SEPARATOR"), (1, u "LINE_SEPARATOR"), (1, u "PARAGRAPH_SEPARATOR"), (1, u "CONTROL"), (1, u "FORMAT"), (1, u "PRIVATE_USE"), (1, u "SURROGATE"), (1, u "DASH_PUNCTUATION"), (1, u "START_PUNCTUATION"), (1, u "END_PUNCTUATION"), (1, u "CONNECTOR_PUNCTUATION"), (1, u "OTHER_PUNCTUATION"), (1, u "MATH_SYMBOL"), (1, u "CURRENCY_SYMBOL"), (1, u "MODIFIER_SYMBOL"), (1, u "OTHER_SYMBOL"), (1, u "INITIAL_QUOTE_PUNCTUATION"), (1, u "FINAL_QUOTE_PUNCTUATION"), (1, u "ERROR"), (1, u "DIRECTIONALITY_UNDEFINED"), (0, u "DIRECTIONALITY_LEFT_TO_RIGHT"), (0, u "DIRECTIONALITY_RIGHT_TO_LEFT"), (0, u "DIRECTIONALITY_RIGHT_TO_LEFT_ARABIC"), (0, u "DIRECTIONALITY_EUROPEAN_NUMBER"), (0, u "DIRECTIONALITY_EUROPEAN_NUMBER_SEPARATOR"), (0, u "DIRECTIONALITY_EUROPEAN_NUMBER_TERMINATOR"), (0, u "DIRECTIONALITY_ARABIC_NUMBER"), (0, u "DIRECTIONALITY_COMMON_NUMBER_SEPARATOR"), (0, u "DIRECTIONALITY_NONSPACING_MARK"), (0, u "DIRECTIONALITY_BOUNDARY_NEUTRAL"), (0, u "DIRECTIONALITY_PARAGRAPH_SEPARATOR"), (0, u "DIRECTIONALITY_SEGMENT_SEPARATOR"), (0, u "DIRECTIONALITY_WHITESPACE"), (0, u "DIRECTIONALITY_OTHER_NEUTRALS"), (0, u "DIRECTIONALITY_LEFT_TO_RIGHT_EMBEDDING"), (0, u "DIRECTIONALITY_LEFT_TO_RIGHT_OVERRIDE"), (0, u "DIRECTIONALITY_RIGHT_TO_LEFT_EMBEDDING"), (0, u "DIRECTIONALITY_RIGHT_TO_LEFT_OVERRIDE"), (1, u "DIRECTIONALITY_POP_DIRECTIONAL_FORMAT"), (0, u "DIRECTIONALITY_LEFT_TO_RIGHT_ISOLATE"), (0, u "DIRECTIONALITY_RIGHT_TO_LEFT_ISOLATE"), (0, u "DIRECTIONALITY_FIRST_STRONG_ISOLATE"), (0, u "DIRECTIONALITY_POP_DIRECTIONAL_ISOLATE"), (0, u "MIN_HIGH_SURROGATE"), (0, u "MAX_HIGH_SURROGATE"), (1, u "MIN_LOW_SURROGATE"), (0, u "MAX_LOW_SURROGATE"), (1, u "MIN_SURROGATE"), (0, u "MAX_SURROGATE"), (0, u "MIN_SUPPLEMENTARY_CODE_POINT"), (0, u "MIN_CODE_POINT"), (0, u "MAX_CODE_POINT"), (1, u "serialVersionUID"), (0, u "J"), (2, u "SIZE"), (0, u "BYTES"), (88, .class_ 596), (0, u "java/lang/Character$UnicodeScript"), (0, .class_ 598), (0, u "java/lang/Character$Subset")] 5

def k14c0 : Code := { maxStack := 2, maxLocals := 1, code := jdk_89_method_14_code, exceptionTable := #[], attributes := #[] }
def k14m0 : Method := { name := "isHighSurrogate", desc := "(C)Z", sig := { parameters := [.char], returnType := some .boolean }, accessFlags := 9, code := some k14c0 }
def k14c1 : Code := { maxStack := 2, maxLocals := 1, code := jdk_89_method_15_code, exceptionTable := #[], attributes := #[] }
def k14m1 : Method := { name := "isLowSurrogate", desc := "(C)Z", sig := { parameters := [.char], returnType := some .boolean }, accessFlags := 9, code := some k14c1 }
/-- java/lang/Character -/
def k14 : Class := { plain "java/lang/Character" (some 0) with
  accessFlags := 49
  interfaces := #[3, 4, 6]
  cf := some (fileOf pool14 1 #[.nestMembers #[48, 595, 307, 597]] #[{ accessFlags := 9, nameIndex := 80, descriptorIndex := 81, attributes := #[] }, { accessFlags := 9, nameIndex := 84, descriptorIndex := 81, attributes := #[] }] 49 42 #[385, 387, 389] #[{ accessFlags := 25, nameIndex := 391, descriptorIndex := 392, attributes := #[] }, { accessFlags := 25, nameIndex := 395, descriptorIndex := 392, attributes := #[] }, { accessFlags := 25, nameIndex := 397, descriptorIndex := 22, attributes := #[] }, { accessFlags := 25, nameIndex := 399, descriptorIndex := 22, attributes := #[] }, { accessFlags := 25, nameIndex := 383, descriptorIndex := 384, attributes := #[] }, { accessFlags := 25, nameIndex := 403, descriptorIndex := 404, attributes := #[] }, { accessFlags := 25, nameIndex := 405, descriptorIndex := 404, attributes := #[] }, { accessFlags := 25, nameIndex := 407, descriptorIndex := 404, attributes := #[] }, { accessFlags := 25, nameIndex := 408, descriptorIndex := 404, attributes := #[] }, { accessFlags := 25, nameIndex := 410, descriptorIndex := 404, attributes := #[] }, { accessFlags := 25, nameIndex := 412, descriptorIndex := 404, attributes := #[] }, { accessFlags := 25, nameIndex := 414, descriptorIndex := 404, attributes := #[] }, { accessFlags := 25, nameIndex := 416, descriptorIndex := 404, attributes := #[] }, { accessFlags := 25, nameIndex := 418, descriptorIndex := 404, attributes := #[] }, { accessFlags := 25, nameIndex := 420, descriptorIndex := 404, attributes := #[] }, { accessFlags := 25, nameIndex := 422, descriptorIndex := 404, attributes := #[] }, { accessFlags := 25, nameIndex := 424, descriptorIndex := 404, attributes := #[] }, { accessFlags := 25, nameIndex := 426, descriptorIndex := 404, attributes := #[] }, { accessFlags := 25, nameIndex := 428, descriptorIndex := 404, attributes := #[] }, { accessFlags := 25, nameIndex := 430, descriptorIndex := 404, attributes := #[] }, { accessFlags := 25, nameIndex := 432, descriptorIndex := 404, attributes := #[] }, { accessFlags := 25, nameIndex := 434, descriptorIndex := 404, attributes := #[] }, { accessFlags := 25, nameIndex := 436, descriptorIndex := 404, attributes := #[] }, { accessFlags := 25, nameIndex := 438, descriptorIndex := 404, attributes := #[] }, { accessFlags := 25, nameIndex := 440, descriptorIndex := 404, attributes := #[] }, { accessFlags := 25, nameIndex := 442, descriptorIndex := 404, attributes := #[] }, { accessFlags := 25, nameIndex := 444, descriptorIndex := 404, attributes := #[] }, { accessFlags := 25, nameIndex := 446, descriptorIndex := 404, attributes := #[] }, { accessFlags := 25, nameIndex := 448, descriptorIndex := 404, attributes := #[] }, { accessFlags := 25, nameIndex := 450, descriptorIndex := 404, attributes := #[] }, { accessFlags := 25, nameIndex := 452, descriptorIndex := 404, attributes := #[] }, { accessFlags := 25, nameIndex := 454, descriptorIndex := 404, attributes := #[] }, { accessFlags := 25, nameIndex := 456, descriptorIndex := 404, attributes := #[] }, { accessFlags := 25, nameIndex := 458, descriptorIndex := 404, attributes := #[] }, { accessFlags := 25, nameIndex := 460, descriptorIndex := 404, attributes := #[] }, { accessFlags := 24, nameIndex := 462, descriptorIndex := 392, attributes := #[] }, { accessFlags := 25, nameIndex := 464, descriptorIndex := 404, attributes := #[] }, { accessFlags := 25, nameIndex := 465, descriptorIndex := 404, attributes := #[] }, { accessFlags := 25, nameIndex := 466, descriptorIndex := 404, attributes := #[] }, { accessFlags := 25, nameIndex := 467, descriptorIndex := 404, attributes := #[] }, { accessFlags := 25, nameIndex := 468, descriptorIndex := 404, attributes := #[] }, { accessFlags := 25, nameIndex := 469, descriptorIndex := 404, attributes := #[] }, { accessFlags := 25, nameIndex := 470, descriptorIndex := 404, attributes := #[] }, { accessFlags := 25, nameIndex := 471, descriptorIndex := 404, attributes := #[] }, { accessFlags := 25, nameIndex := 472, descriptorIndex := 404, attributes := #[] }, { accessFlags := 25, nameIndex := 473, descriptorIndex := 404, attributes := #[] }, { accessFlags := 25, nameIndex := 474, descriptorIndex := 404, attributes := #[] }, { accessFlags := 25, nameIndex := 475, descriptorIndex := 404, attributes := #[] }, { accessFlags := 25, nameIndex := 476, descriptorIndex := 404, attributes := #[] }, { accessFlags := 25, nameIndex := 477, descriptorIndex := 404, attributes := #[] }, { accessFlags := 25, nameIndex := 478, descriptorIndex := 404, attributes := #[] }, { accessFlags := 25, nameIndex := 479, descriptorIndex := 404, attributes := #[] }, { accessFlags := 25, nameIndex := 480, descriptorIndex := 404, attributes := #[] }, { accessFlags := 25, nameIndex := 481, descriptorIndex := 404, attributes := #[] }, { accessFlags := 25, nameIndex := 482, descriptorIndex := 404, attributes := #[] }, { accessFlags := 25, nameIndex := 484, descriptorIndex := 404, attributes := #[] }, { accessFlags := 25, nameIndex := 485, descriptorIndex := 404, attributes := #[] }, { accessFlags := 25, nameIndex := 486, descriptorIndex := 404, attributes := #[] }, { accessFlags := 25, nameIndex := 487, descriptorIndex := 404, attributes := #[] }, { accessFlags := 25, nameIndex := 488, descriptorIndex := 404, attributes := #[] }, { accessFlags := 25, nameIndex := 489, descriptorIndex := 22, attributes := #[] }, { accessFlags := 25, nameIndex := 490, descriptorIndex := 22, attributes := #[] }, { accessFlags := 25, nameIndex := 492, descriptorIndex := 22, attributes := #[] }, { accessFlags := 25, nameIndex := 493, descriptorIndex := 22, attributes := #[] }, { accessFlags := 25, nameIndex := 495, descriptorIndex := 22, attributes := #[] }, { accessFlags := 25, nameIndex := 496, descriptorIndex := 22, attributes := #[] }, { accessFlags := 25, nameIndex := 497, descriptorIndex := 392, attributes := #[] }, { accessFlags := 25, nameIndex := 498, descriptorIndex := 392, attributes := #[] }, { accessFlags := 25, nameIndex := 499, descriptorIndex := 392, attributes := #[] }, { accessFlags := 18, nameIndex := 21, descriptorIndex := 22, attributes := #[] }, { accessFlags := 26, nameIndex := 501, descriptorIndex := 502, attributes := #[] }, { accessFlags := 25, nameIndex := 505, descriptorIndex := 392, attributes := #[] }, { accessFlags := 25, nameIndex := 506, descriptorIndex := 392, attributes := #[] }, { accessFlags := 4120, nameIndex := 284, descriptorIndex := 285, attributes := #[] }])
  fields := #[{ name := "MIN_RADIX", type := .int, accessFlags := 25, slot := 0, constantValue := 0 }, { name := "MAX_RADIX", type := .int, accessFlags := 25, slot := 1, constantValue := 0 }, { name := "MIN_VALUE", type := .char, accessFlags := 25, slot := 2, constantValue := 0 }, { name := "MAX_VALUE", type := .char, accessFlags := 25, slot := 3, constantValue := 0 }, { name := "TYPE", type := (.object "java/lang/Class"), accessFlags := 25, slot := 4, constantValue := 0 }, { name := "UNASSIGNED", type := .byte, accessFlags := 25, slot := 5, constantValue := 0 }, { name := "UPPERCASE_LETTER", type := .byte, accessFlags := 25, slot := 6, constantValue := 0 }, { name := "LOWERCASE_LETTER", type := .byte, accessFlags := 25, slot := 7, constantValue := 0 }, { name := "TITLECASE_LETTER", type := .byte, accessFlags := 25, slot := 8, constantValue := 0 }, { name := "MODIFIER_LETTER", type := .byte, accessFlags := 25, slot := 9, constantValue := 0 }, { name := "OTHER_LETTER", type := .byte, accessFlags := 25, slot := 10, constantValue := 0 }, { name := "NON_SPACING_MARK", type := .byte, accessFlags := 25, slot := 11, constantValue := 0 }, { name := "ENCLOSING_MARK", type := .byte, accessFlags := 25, slot := 12, constantValue := 0 }, { name := "COMBINING_SPACING_MARK", type := .byte, accessFlags := 25, slot := 13, constantValue := 0 }, { name := "DECIMAL_DIGIT_NUMBER", type := .byte, accessFlags := 25, slot := 14, constantValue := 0 }, { name := "LETTER_NUMBER", type := .byte, accessFlags := 25, slot := 15, constantValue := 0 }, { name := "OTHER_NUMBER", type := .byte, accessFlags := 25, slot := 16, constantValue := 0 }, { name := "SPACE_SEPARATOR", type := .byte, accessFlags := 25, slot := 17, constantValue := 0 }, { name := "LINE_SEPARATOR", type := .byte, accessFlags := 25, slot := 18, constantValue := 0 }, { name := "PARAGRAPH_SEPARATOR", type := .byte, accessFlags := 25, slot := 19, constantValue := 0 }, { name := "CONTROL", type := .byte, accessFlags := 25, slot := 20, constantValue := 0 }, { name := "FORMAT", type := .byte, accessFlags := 25, slot := 21, constantValue := 0 }, { name := "PRIVATE_USE", type := .byte, accessFlags := 25, slot := 22, constantValue := 0 }, { name := "SURROGATE", type := .byte, accessFlags := 25, slot := 23, constantValue := 0 }, { name := "DASH_PUNCTUATION", type := .byte, accessFlags := 25, slot := 24, constantValue := 0 }, { name := "START_PUNCTUATION", type := .byte, accessFlags := 25, slot := 25, constantValue := 0 }, { name := "END_PUNCTUATION", type := .byte, accessFlags := 25, slot := 26, constantValue := 0 }, { name := "CONNECTOR_PUNCTUATION", type := .byte, accessFlags := 25, slot := 27, constantValue := 0 }, { name := "OTHER_PUNCTUATION", type := .byte, accessFlags := 25, slot := 28, constantValue := 0 }, { name := "MATH_SYMBOL", type := .byte, accessFlags := 25, slot := 29, constantValue := 0 }, { name := "CURRENCY_SYMBOL", type := .byte, accessFlags := 25, slot := 30, constantValue := 0 }, { name := "MODIFIER_SYMBOL", type := .byte, accessFlags := 25, slot := 31, constantValue := 0 }, { name := "OTHER_SYMBOL", type := .byte, accessFlags := 25, slot := 32, constantValue := 0 }, { name := "INITIAL_QUOTE_PUNCTUATION", type := .byte, accessFlags := 25, slot := 33, constantValue := 0 }, { name := "FINAL_QUOTE_PUNCTUATION", type := .byte, accessFlags := 25, slot := 34, constantValue := 0 }, { name := "ERROR", type := .int, accessFlags := 24, slot := 35, constantValue := 0 }, { name := "DIRECTIONALITY_UNDEFINED", type := .byte, accessFlags := 25, slot := 36, constantValue := 0 }, { name := "DIRECTIONALITY_LEFT_TO_RIGHT", type := .byte, accessFlags := 25, slot := 37, constantValue := 0 }, { name := "DIRECTIONALITY_RIGHT_TO_LEFT", type := .byte, accessFlags := 25, slot := 38, constantValue := 0 }, { name := "DIRECTIONALITY_RIGHT_TO_LEFT_ARABIC", type := .byte, accessFlags := 25, slot := 39, constantValue := 0 }, { name := "DIRECTIONALITY_EUROPEAN_NUMBER", type := .byte, accessFlags := 25, slot := 40, constantValue := 0 }, { name := "DIRECTIONALITY_EUROPEAN_NUMBER_SEPARATOR", type := .byte, accessFlags := 25, slot := 41, constantValue := 0 }, { name := "DIRECTIONALITY_EUROPEAN_NUMBER_TERMINATOR", type := .byte, accessFlags := 25, slot := 42, constantValue := 0 }, { name := "DIRECTIONALITY_ARABIC_NUMBER", type := .byte, accessFlags := 25, slot := 43, constantValue := 0 }, { name := "DIRECTIONALITY_COMMON_NUMBER_SEPARATOR", type := .byte, accessFlags := 25, slot := 44, constantValue := 0 }, { name := "DIRECTIONALITY_NONSPACING_MARK", type := .byte, accessFlags := 25, slot := 45, constantValue := 0 }, { name := "DIRECTIONALITY_BOUNDARY_NEUTRAL", type := .byte, accessFlags := 25, slot := 46, constantValue := 0 }, { name := "DIRECTIONALITY_PARAGRAPH_SEPARATOR", type := .byte, accessFlags := 25, slot := 47, constantValue := 0 }, { name := "DIRECTIONALITY_SEGMENT_SEPARATOR", type := .byte, accessFlags := 25, slot := 48, constantValue := 0 }, { name := "DIRECTIONALITY_WHITESPACE", type := .byte, accessFlags := 25, slot := 49, constantValue := 0 }, { name := "DIRECTIONALITY_OTHER_NEUTRALS", type := .byte, accessFlags := 25, slot := 50, constantValue := 0 }, { name := "DIRECTIONALITY_LEFT_TO_RIGHT_EMBEDDING", type := .byte, accessFlags := 25, slot := 51, constantValue := 0 }, { name := "DIRECTIONALITY_LEFT_TO_RIGHT_OVERRIDE", type := .byte, accessFlags := 25, slot := 52, constantValue := 0 }, { name := "DIRECTIONALITY_RIGHT_TO_LEFT_EMBEDDING", type := .byte, accessFlags := 25, slot := 53, constantValue := 0 }, { name := "DIRECTIONALITY_RIGHT_TO_LEFT_OVERRIDE", type := .byte, accessFlags := 25, slot := 54, constantValue := 0 }, { name := "DIRECTIONALITY_POP_DIRECTIONAL_FORMAT", type := .byte, accessFlags := 25, slot := 55, constantValue := 0 }, { name := "DIRECTIONALITY_LEFT_TO_RIGHT_ISOLATE", type := .byte, accessFlags := 25, slot := 56, constantValue := 0 }, { name := "DIRECTIONALITY_RIGHT_TO_LEFT_ISOLATE", type := .byte, accessFlags := 25, slot := 57, constantValue := 0 }, { name := "DIRECTIONALITY_FIRST_STRONG_ISOLATE", type := .byte, accessFlags := 25, slot := 58, constantValue := 0 }, { name := "DIRECTIONALITY_POP_DIRECTIONAL_ISOLATE", type := .byte, accessFlags := 25, slot := 59, constantValue := 0 }, { name := "MIN_HIGH_SURROGATE", type := .char, accessFlags := 25, slot := 60, constantValue := 0 }, { name := "MAX_HIGH_SURROGATE", type := .char, accessFlags := 25, slot := 61, constantValue := 0 }, { name := "MIN_LOW_SURROGATE", type := .char, accessFlags := 25, slot := 62, constantValue := 0 }, { name := "MAX_LOW_SURROGATE", type := .char, accessFlags := 25, slot := 63, constantValue := 0 }, { name := "MIN_SURROGATE", type := .char, accessFlags := 25, slot := 64, constantValue := 0 }, { name := "MAX_SURROGATE", type := .char, accessFlags := 25, slot := 65, constantValue := 0 }, { name := "MIN_SUPPLEMENTARY_CODE_POINT", type := .int, accessFlags := 25, slot := 66, constantValue := 0 }, { name := "MIN_CODE_POINT", type := .int, accessFlags := 25, slot := 67, constantValue := 0 }, { name := "MAX_CODE_POINT", type := .int, accessFlags := 25, slot := 68, constantValue := 0 }, { name := "value", type := .char, accessFlags := 18, slot := 0, constantValue := 0 }, { name := "serialVersionUID", type := .long, accessFlags := 26, slot := 69, constantValue := 0 }, { name := "SIZE", type := .int, accessFlags := 25, slot := 70, constantValue := 0 }, { name := "BYTES", type := .int, accessFlags := 25, slot := 71, constantValue := 0 }, { name := "$assertionsDisabled", type := .boolean, accessFlags := 4120, slot := 72, constantValue := 0 }]
  methods := #[k14m0, k14m1]
  instanceTypes := #[.char]
  staticTypes := #[.int, .int, .char, .char, (.object "java/lang/Class"), .byte, .byte, .byte, .byte, .byte, .byte, .byte, .byte, .byte, .byte, .byte, .byte, .byte, .byte, .byte, .byte, .byte, .byte, .byte, .byte, .byte, .byte, .byte, .byte, .byte, .byte, .byte, .byte, .byte, .byte, .int, .byte, .byte, .byte, .byte, .byte, .byte, .byte, .byte, .byte, .byte, .byte, .byte, .byte, .byte, .byte, .byte, .byte, .byte, .byte, .byte, .byte, .byte, .byte, .byte, .char, .char, .char, .char, .char, .char, .int, .int, .int, .long, .int, .int, .boolean]
  resolved := Array.replicate 604 none
  statics := none }

def pool15 : Array CpInfo := pool [(9, u "<init>"), (6, .class_ 18), (1, u "java/lang/Object"), (0, u "()V"), (1, .class_ 23), (1, u "jdk/internal/util/ArraysSupport"), (0, u "LOG2_ARRAY_LONG_INDEX_SCALE"), (0, u "I"), (2, u "U"), (0, u "Ljdk/internal/misc/Unsafe;"), (8, u "BIG_ENDIAN"), (0, u "Z"), (8, u "LOG2_BYTE_BIT_SIZE"), (4, u "LOG2_ARRAY_INT_INDEX_SCALE"), (54, u "JLA"), (0, u "Ljdk/internal/access/JavaLangAccess;"), (11, u "LOG2_ARRAY_BOOLEAN_INDEX_SCALE"), (9, u "LOG2_ARRAY_BYTE_INDEX_SCALE"), (5, u "LOG2_ARRAY_CHAR_INDEX_SCALE"), (5, u "LOG2_ARRAY_SHORT_INDEX_SCALE"), (18, u "LOG2_ARRAY_FLOAT_INDEX_SCALE"), (24, u "LOG2_ARRAY_DOUBLE_INDEX_SCALE"), (89, u "T_BOOLEAN"), (2, u "T_CHAR"), (1, u "T_FLOAT"), (1, u "T_DOUBLE"), (1, u "T_BYTE"), (1, u "T_SHORT"), (1, u "T_INT"), (1, u "T_LONG"), (1, u "SOFT_MAX_ARRAY_LENGTH")] 83

def k15m0 : Method := { name := "<init>", desc := "()V", sig := { parameters := [], returnType := none }, accessFlags := 2, code := none }
/-- jdk/internal/util/ArraysSupport -/
def k15 : Class := { plain "jdk/internal/util/ArraysSupport" (some 0) with
  accessFlags := 33
  interfaces := #[]
  cf := some (fileOf pool15 21 #[] #[{ accessFlags := 2, nameIndex := 9, descriptorIndex := 19, attributes := #[] }] 33 16 #[] #[{ accessFlags := 24, nameIndex := 28, descriptorIndex := 29, attributes := #[] }, { accessFlags := 26, nameIndex := 38, descriptorIndex := 39, attributes := #[] }, { accessFlags := 25, nameIndex := 121, descriptorIndex := 25, attributes := #[] }, { accessFlags := 25, nameIndex := 131, descriptorIndex := 25, attributes := #[] }, { accessFlags := 25, nameIndex := 137, descriptorIndex := 25, attributes := #[] }, { accessFlags := 25, nameIndex := 143, descriptorIndex := 25, attributes := #[] }, { accessFlags := 25, nameIndex := 53, descriptorIndex := 25, attributes := #[] }, { accessFlags := 25, nameIndex := 24, descriptorIndex := 25, attributes := #[] }, { accessFlags := 25, nameIndex := 162, descriptorIndex := 25, attributes := #[] }, { accessFlags := 25, nameIndex := 187, descriptorIndex := 25, attributes := #[] }, { accessFlags := 26, nameIndex := 48, descriptorIndex := 25, attributes := #[] }, { accessFlags := 25, nameIndex := 277, descriptorIndex := 25, attributes := #[] }, { accessFlags := 25, nameIndex := 280, descriptorIndex := 25, attributes := #[] }, { accessFlags := 25, nameIndex := 282, descriptorIndex := 25, attributes := #[] }, { accessFlags := 25, nameIndex := 284, descriptorIndex := 25, attributes := #[] }, { accessFlags := 25, nameIndex := 286, descriptorIndex := 25, attributes := #[] }, { accessFlags := 25, nameIndex := 288, descriptorIndex := 25, attributes := #[] }, { accessFlags := 25, nameIndex := 290, descriptorIndex := 25, attributes := #[] }, { accessFlags := 25, nameIndex := 292, descriptorIndex := 25, attributes := #[] }, { accessFlags := 26, nameIndex := 108, descriptorIndex := 109, attributes := #[] }, { accessFlags := 25, nameIndex := 294, descriptorIndex := 25, attributes := #[] }])
  fields := #[{ name := "U", type := (.object "jdk/internal/misc/Unsafe"), accessFlags := 24, slot := 0, constantValue := 0 }, { name := "BIG_ENDIAN", type := .boolean, accessFlags := 26, slot := 1, constantValue := 0 }, { name := "LOG2_ARRAY_BOOLEAN_INDEX_SCALE", type := .int, accessFlags := 25, slot := 2, constantValue := 0 }, { name := "LOG2_ARRAY_BYTE_INDEX_SCALE", type := .int, accessFlags := 25, slot := 3, constantValue := 0 }, { name := "LOG2_ARRAY_CHAR_INDEX_SCALE", type := .int, accessFlags := 25, slot := 4, constantValue := 0 }, { name := "LOG2_ARRAY_SHORT_INDEX_SCALE", type := .int, accessFlags := 25, slot := 5, constantValue := 0 }, { name := "LOG2_ARRAY_INT_INDEX_SCALE", type := .int, accessFlags := 25, slot := 6, constantValue := 0 }, { name := "LOG2_ARRAY_LONG_INDEX_SCALE", type := .int, accessFlags := 25, slot := 7, constantValue := 0 }, { name := "LOG2_ARRAY_FLOAT_INDEX_SCALE", type := .int, accessFlags := 25, slot := 8, constantValue := 0 }, { name := "LOG2_ARRAY_DOUBLE_INDEX_SCALE", type := .int, accessFlags := 25, slot := 9, constantValue := 0 }, { name := "LOG2_BYTE_BIT_SIZE", type := .int, accessFlags := 26, slot := 10, constantValue := 0 }, { name := "T_BOOLEAN", type := .int, accessFlags := 25, slot := 11, constantValue := 0 }, { name := "T_CHAR", type := .int, accessFlags := 25, slot := 12, constantValue := 0 }, { name := "T_FLOAT", type := .int, accessFlags := 25, slot := 13, constantValue := 0 }, { name := "T_DOUBLE", type := .int, accessFlags := 25, slot := 14, constantValue := 0 }, { name := "T_BYTE", type := .int, accessFlags := 25, slot := 15, constantValue := 0 }, { name := "T_SHORT", type := .int, accessFlags := 25, slot := 16, constantValue := 0 }, { name := "T_INT", type := .int, accessFlags := 25, slot := 17, constantValue := 0 }, { name := "T_LONG", type := .int, accessFlags := 25, slot := 18, constantValue := 0 }, { name := "JLA", type := (.object "jdk/internal/access/JavaLangAccess"), accessFlags := 26, slot := 19, constantValue := 0 }, { name := "SOFT_MAX_ARRAY_LENGTH", type := .int, accessFlags := 25, slot := 20, constantValue := 0 }]
  methods := #[k15m0]
  instanceTypes := #[]
  staticTypes := #[(.object "jdk/internal/misc/Unsafe"), .boolean, .int, .int, .int, .int, .int, .int, .int, .int, .int, .int, .int, .int, .int, .int, .int, .int, .int, (.object "jdk/internal/access/JavaLangAccess"), .int]
  resolved := Array.replicate 378 none
  statics := none }

def pool16 : Array CpInfo := pool [(1, u "java/lang/Cloneable"), (0, .class_ 1), (0, u "java/lang/Object"), (0, .class_ 3)] 3

/-- java/lang/Cloneable -/
def k16 : Class := { plain "java/lang/Cloneable" (some 0) with
  accessFlags := 1537
  interfaces := #[]
  cf := some (fileOf pool16 2 #[] #[] 1537 4 #[] #[])
  fields := #[]
  methods := #[]
  instanceTypes := #[]
  staticTypes := #[]
  resolved := Array.replicate 8 none
  statics := none }

/-- the primitive byte -/
def k17 : Class := { plain "byte" none with kind := .primitive 'B', accessFlags := 0x411 }
/-- [B -/
def k18 : Class := { plain "[B" (some 0) with kind := .array 17 .byte, interfaces := #[16, 3], accessFlags := 1041 }

/-- the primitive char -/
def k19 : Class := { plain "char" none with kind := .primitive 'C', accessFlags := 0x411 }
/-- [C -/
def k20 : Class := { plain "[C" (some 0) with kind := .array 19 .char, interfaces := #[16, 3], accessFlags := 1041 }

/-- the primitive int -/
def k21 : Class := { plain "int" none with kind := .primitive 'I', accessFlags := 0x411 }
/-- [I -/
def k22 : Class := { plain "[I" (some 0) with kind := .array 21 .int, interfaces := #[16, 3], accessFlags := 1041 }

def heap : Heap := #[{ cls := 8, slots := #[.long 0, .int 1, .null, .int 0, .null, .int 0, .int 0], vm := .statics 8 },
  { cls := 9, slots := #[.int 0, .int 8, .int 0, .int 1], vm := .statics 9 },
  { cls := 13, slots := #[.null, .null, .null], vm := .statics 13 }]
def classes : Array Class := #[k0, k1, k2, k3, k4, k5, k6, k7, k8, k9, k10, k11, k12, k13, k14, k15, k16, k17, k18, k19, k20, k21, k22]
def interned : List (Array UInt16 × Addr) := []
def slotsUsed : Nat := 14
def theMethod : MethodId := ⟨1, 6⟩
def args0 : Array Value := #[.long 5, .int 3, .int 3, .int 67, .int 0, .int 65]
def aboutOver (below : List Frame) : State where
  vm := { classes := classes, interned := interned.toArray }
  heap := heap
  slotsUsed := slotsUsed
  threads := #[{ frames := .invoking theMethod args0 :: below }]
def below0 : List Frame := [.native { method := ⟨0, 0⟩, args := #[] }]
def about1 : State := aboutOver below0
def p0 : Program := .bare "" "" ""
def e0 : Env := launch0.env 0 0 0
theorem w_frames : about1.frames = Frame.invoking theMethod args0 :: below0 := rfl
set_option maxRecDepth 65536 in
theorem w_args : argsFit about1.vm theMethod args0 = true := by decide +kernel
set_option maxRecDepth 65536 in
theorem w_heap : heapFits about1 = true := by decide +kernel
set_option maxRecDepth 65536 in
theorem w_runnable : about1.curStatus? = some .runnable := by decide +kernel
set_option maxRecDepth 65536 in
theorem w_alone : about1.alone = true := by decide +kernel
set_option maxRecDepth 65536 in
theorem w_named : about1.methodNamed? x = some theMethod := by decide +kernel
set_option maxRecDepth 65536 in
theorem w_hears : about1.hears theMethod below0 = true := by decide +kernel
set_option maxRecDepth 65536 in
theorem w_ripe : about1.ripe theMethod args0 below0 = true := by decide +kernel
theorem w_running : about1.status = .running := rfl
set_option maxRecDepth 65536 in
theorem w_room : about1.hasRoom e0.platform room_1 = true :=
  launch0.hasRoom_least _ room_1 (by decide +kernel) (by decide +kernel) (by decide +kernel) (by decide +kernel) (by decide +kernel) (by decide +kernel)
theorem allAtoms_all (ts : List Jvm.Cond) (a : Array Jvm.Value) (st : Jvm.State) : (allAtoms ts).before a st = ts.all (fun c => c.before a st) := by
  induction ts with
  | nil => rfl
  | cons c t ih =>
    show (Jvm.Cond.and c (allAtoms t)).before a st = _
    rw [Jvm.Cond.before_and, ih, List.all_cons]
def words1 : List Jvm.Cond := Jvm.Cond.code x code maxLocals ret :: tables_1
/-- a 'code' word, met by the world's own term for the bytes: nothing is compared byte by byte -/
theorem code_word {y : MethodName} {bytes : ByteArray} {mx : Nat} {rt : Option FieldType} {a : Array Value} {s : State} {m : MethodId} {meth : Method} {c : Code} (h1 : s.methodNamed? y = some m) (h2 : s.vm.method? m = some meth) (h3 : meth.code = some c) (h4 : c.code = bytes)
    (h5 : (c.maxLocals == mx && c.exceptionTable.isEmpty && decide (c.maxStack ≤ mostOperands) && decide (meth.sig.returnType = rt) && !meth.locks && decide (parseMethodDescriptor y.desc = some meth.sig)) = true) : (Jvm.Cond.code y bytes mx rt).before a s = true := by
  simp only [Bool.and_eq_true, beq_iff_eq, Bool.not_eq_true', decide_eq_true_eq] at h5
  obtain ⟨⟨⟨⟨⟨g1, g2⟩, g3⟩, g4⟩, g5⟩, g6⟩ := h5
  simp [Cond.before, Cond.holds, Cond.value, h1, h2, h3, h4, g1, g2, g3, g4, g5, g6]
def isCode : Jvm.Cond → Bool
  | .code _ _ _ _ => true
  | _ => false
theorem all_split {L : List Jvm.Cond} {P : Jvm.Cond → Bool} (h1 : L.all (fun c => isCode c || P c) = true) (h2 : ∀ c ∈ L.filter isCode, P c = true) : L.all P = true := by
  refine List.all_eq_true.mpr fun c hc => ?_
  have h := List.all_eq_true.mp h1 c hc
  rcases Bool.eq_false_or_eq_true (isCode c) with hi | hi
  · exact h2 c (List.mem_filter.mpr ⟨hc, hi⟩)
  · simpa [hi] using h
set_option maxRecDepth 65536 in
theorem w_c0 : (Jvm.Cond.code x code maxLocals ret).before args0 about1 = true := code_word (m := ⟨1, 6⟩) (meth := k1m6) (c := k1c6) (by decide +kernel) rfl rfl rfl (by decide +kernel)
set_option maxRecDepth 65536 in
theorem w_c1 : (Jvm.Cond.code ({ cls := "com/example/itihasa/itihasa/model/TextRequireLengthPinLaw", name := "draw", desc := "(JII)C" } : Jvm.MethodName) method_2_code (5 : Nat) (Option.some Jvm.ClassFile.FieldType.char)).before args0 about1 = true := code_word (m := ⟨1, 1⟩) (meth := k1m1) (c := k1c1) (by decide +kernel) rfl rfl rfl (by decide +kernel)
set_option maxRecDepth 65536 in
theorem w_c2 : (Jvm.Cond.code ({ cls := "com/example/itihasa/itihasa/model/TextRequireLengthPinLaw", name := "pair", desc := "(CC)I" } : Jvm.MethodName) method_5_code (2 : Nat) (Option.some Jvm.ClassFile.FieldType.int)).before args0 about1 = true := code_word (m := ⟨1, 4⟩) (meth := k1m4) (c := k1c4) (by decide +kernel) rfl rfl rfl (by decide +kernel)
set_option maxRecDepth 65536 in
theorem w_c3 : (Jvm.Cond.code ({ cls := "com/example/itihasa/itihasa/model/TextRequireLengthPinLaw", name := "isHigh", desc := "(C)Z" } : Jvm.MethodName) method_3_code (1 : Nat) (Option.some Jvm.ClassFile.FieldType.boolean)).before args0 about1 = true := code_word (m := ⟨1, 2⟩) (meth := k1m2) (c := k1c2) (by decide +kernel) rfl rfl rfl (by decide +kernel)
set_option maxRecDepth 65536 in
theorem w_c4 : (Jvm.Cond.code ({ cls := "java/lang/Math", name := "max", desc := "(II)I" } : Jvm.MethodName) jdk_29_method_65_code (2 : Nat) (Option.some Jvm.ClassFile.FieldType.int)).before args0 about1 = true := code_word (m := ⟨2, 1⟩) (meth := k2m1) (c := k2c1) (by decide +kernel) rfl rfl rfl (by decide +kernel)
set_option maxRecDepth 65536 in
theorem w_c5 : (Jvm.Cond.code ({ cls := "com/example/itihasa/itihasa/model/TextRequireLengthPinLaw", name := "build", desc := "(ICCCC)Ljava/lang/String;" } : Jvm.MethodName) method_6_code (5 : Nat) (Option.some (Jvm.ClassFile.FieldType.object "java/lang/String"))).before args0 about1 = true := code_word (m := ⟨1, 5⟩) (meth := k1m5) (c := k1c5) (by decide +kernel) rfl rfl rfl (by decide +kernel)
set_option maxRecDepth 65536 in
theorem w_c6 : (Jvm.Cond.code ({ cls := "java/lang/String", name := "<init>", desc := "([C)V" } : Jvm.MethodName) jdk_42_method_3_code (2 : Nat) (Option.none : Option Jvm.ClassFile.FieldType)).before args0 about1 = true := code_word (m := ⟨8, 1⟩) (meth := k8m1) (c := k8c1) (by decide +kernel) rfl rfl rfl (by decide +kernel)
set_option maxRecDepth 65536 in
theorem w_c7 : (Jvm.Cond.code ({ cls := "java/lang/String", name := "<init>", desc := "([CIILjava/lang/Void;)V" } : Jvm.MethodName) jdk_42_method_149_code (6 : Nat) (Option.none : Option Jvm.ClassFile.FieldType)).before args0 about1 = true := code_word (m := ⟨8, 6⟩) (meth := k8m6) (c := k8c6) (by decide +kernel) rfl rfl rfl (by decide +kernel)
set_option maxRecDepth 65536 in
theorem w_c8 : (Jvm.Cond.code ({ cls := "java/lang/Object", name := "<init>", desc := "()V" } : Jvm.MethodName) object_method_1_code (1 : Nat) (Option.none : Option Jvm.ClassFile.FieldType)).before args0 about1 = true := code_word (m := ⟨0, 0⟩) (meth := k0m0) (c := k0c0) (by decide +kernel) rfl rfl rfl (by decide +kernel)
set_option maxRecDepth 65536 in
theorem w_c9 : (Jvm.Cond.code ({ cls := "java/lang/StringUTF16", name := "compress", desc := "([CII)[B" } : Jvm.MethodName) jdk_52_method_16_code (6 : Nat) (Option.some (Jvm.ClassFile.FieldType.array Jvm.ClassFile.FieldType.byte))).before args0 about1 = true := code_word (m := ⟨9, 9⟩) (meth := k9m9) (c := k9c9) (by decide +kernel) rfl rfl rfl (by decide +kernel)
set_option maxRecDepth 65536 in
theorem w_c10 : (Jvm.Cond.code ({ cls := "java/lang/StringUTF16", name := "compress", desc := "([CI[BII)I" } : Jvm.MethodName) jdk_52_method_21_code (7 : Nat) (Option.some Jvm.ClassFile.FieldType.int)).before args0 about1 = true := code_word (m := ⟨9, 10⟩) (meth := k9m10) (c := k9c10) (by decide +kernel) rfl rfl rfl (by decide +kernel)
set_option maxRecDepth 65536 in
theorem w_c11 : (Jvm.Cond.code ({ cls := "java/lang/StringUTF16", name := "toBytes", desc := "([CII)[B" } : Jvm.MethodName) jdk_52_method_14_code (5 : Nat) (Option.some (Jvm.ClassFile.FieldType.array Jvm.ClassFile.FieldType.byte))).before args0 about1 = true := code_word (m := ⟨9, 7⟩) (meth := k9m7) (c := k9c7) (by decide +kernel) rfl rfl rfl (by decide +kernel)
set_option maxRecDepth 65536 in
theorem w_c12 : (Jvm.Cond.code ({ cls := "java/lang/StringUTF16", name := "newBytesFor", desc := "(I)[B" } : Jvm.MethodName) jdk_52_method_2_code (1 : Nat) (Option.some (Jvm.ClassFile.FieldType.array Jvm.ClassFile.FieldType.byte))).before args0 about1 = true := code_word (m := ⟨9, 1⟩) (meth := k9m1) (c := k9c1) (by decide +kernel) rfl rfl rfl (by decide +kernel)
set_option maxRecDepth 65536 in
theorem w_c13 : (Jvm.Cond.code ({ cls := "java/lang/StringUTF16", name := "newBytesLength", desc := "(I)I" } : Jvm.MethodName) jdk_52_method_3_code (1 : Nat) (Option.some Jvm.ClassFile.FieldType.int)).before args0 about1 = true := code_word (m := ⟨9, 2⟩) (meth := k9m2) (c := k9c2) (by decide +kernel) rfl rfl rfl (by decide +kernel)
set_option maxRecDepth 65536 in
theorem w_c14 : (Jvm.Cond.code ({ cls := "java/lang/StringUTF16", name := "putChar", desc := "([BII)V" } : Jvm.MethodName) jdk_52_method_4_code (3 : Nat) (Option.none : Option Jvm.ClassFile.FieldType)).before args0 about1 = true := code_word (m := ⟨9, 3⟩) (meth := k9m3) (c := k9c3) (by decide +kernel) rfl rfl rfl (by decide +kernel)
set_option maxRecDepth 65536 in
theorem w_c15 : (Jvm.Cond.code ({ cls := "java/lang/StringUTF16", name := "getChar", desc := "([BI)C" } : Jvm.MethodName) jdk_52_method_5_code (2 : Nat) (Option.some Jvm.ClassFile.FieldType.char)).before args0 about1 = true := code_word (m := ⟨9, 4⟩) (meth := k9m4) (c := k9c4) (by decide +kernel) rfl rfl rfl (by decide +kernel)
set_option maxRecDepth 65536 in
theorem w_c16 : (Jvm.Cond.code ({ cls := "java/lang/StringUTF16", name := "coderFromArrayLen", desc := "([BI)B" } : Jvm.MethodName) jdk_52_method_15_code (2 : Nat) (Option.some Jvm.ClassFile.FieldType.byte)).before args0 about1 = true := code_word (m := ⟨9, 8⟩) (meth := k9m8) (c := k9c8) (by decide +kernel) rfl rfl rfl (by decide +kernel)
set_option maxRecDepth 65536 in
theorem w_c17 : (Jvm.Cond.code ({ cls := "java/lang/String", name := "valueOf", desc := "(C)Ljava/lang/String;" } : Jvm.MethodName) jdk_42_method_139_code (1 : Nat) (Option.some (Jvm.ClassFile.FieldType.object "java/lang/String"))).before args0 about1 = true := code_word (m := ⟨8, 5⟩) (meth := k8m5) (c := k8c5) (by decide +kernel) rfl rfl rfl (by decide +kernel)
set_option maxRecDepth 65536 in
theorem w_c18 : (Jvm.Cond.code ({ cls := "java/lang/StringLatin1", name := "canEncode", desc := "(C)Z" } : Jvm.MethodName) jdk_43_method_3_code (1 : Nat) (Option.some Jvm.ClassFile.FieldType.boolean)).before args0 about1 = true := code_word (m := ⟨10, 1⟩) (meth := k10m1) (c := k10c1) (by decide +kernel) rfl rfl rfl (by decide +kernel)
set_option maxRecDepth 65536 in
theorem w_c19 : (Jvm.Cond.code ({ cls := "java/lang/StringLatin1", name := "toBytes", desc := "(C)[B" } : Jvm.MethodName) jdk_43_method_46_code (1 : Nat) (Option.some (Jvm.ClassFile.FieldType.array Jvm.ClassFile.FieldType.byte))).before args0 about1 = true := code_word (m := ⟨10, 2⟩) (meth := k10m2) (c := k10c2) (by decide +kernel) rfl rfl rfl (by decide +kernel)
set_option maxRecDepth 65536 in
theorem w_c20 : (Jvm.Cond.code ({ cls := "java/lang/String", name := "<init>", desc := "([BB)V" } : Jvm.MethodName) jdk_42_method_151_code (3 : Nat) (Option.none : Option Jvm.ClassFile.FieldType)).before args0 about1 = true := code_word (m := ⟨8, 7⟩) (meth := k8m7) (c := k8c7) (by decide +kernel) rfl rfl rfl (by decide +kernel)
set_option maxRecDepth 65536 in
theorem w_c21 : (Jvm.Cond.code ({ cls := "com/example/itihasa/itihasa/model/Text", name := "requireLength", desc := "(Ljava/lang/String;Ljava/lang/String;I)V" } : Jvm.MethodName) prog_6_method_4_code (4 : Nat) (Option.none : Option Jvm.ClassFile.FieldType)).before args0 about1 = true := code_word (m := ⟨11, 1⟩) (meth := k11m1) (c := k11c1) (by decide +kernel) rfl rfl rfl (by decide +kernel)
set_option maxRecDepth 65536 in
theorem w_c22 : (Jvm.Cond.code ({ cls := "java/lang/String", name := "isEmpty", desc := "()Z" } : Jvm.MethodName) jdk_42_method_55_code (1 : Nat) (Option.some Jvm.ClassFile.FieldType.boolean)).before args0 about1 = true := code_word (m := ⟨8, 3⟩) (meth := k8m3) (c := k8c3) (by decide +kernel) rfl rfl rfl (by decide +kernel)
set_option maxRecDepth 65536 in
theorem w_c23 : (Jvm.Cond.code ({ cls := "java/lang/String", name := "length", desc := "()I" } : Jvm.MethodName) jdk_42_method_54_code (1 : Nat) (Option.some Jvm.ClassFile.FieldType.int)).before args0 about1 = true := code_word (m := ⟨8, 2⟩) (meth := k8m2) (c := k8c2) (by decide +kernel) rfl rfl rfl (by decide +kernel)
set_option maxRecDepth 65536 in
theorem w_c24 : (Jvm.Cond.code ({ cls := "java/lang/String", name := "coder", desc := "()B" } : Jvm.MethodName) jdk_42_method_152_code (1 : Nat) (Option.some Jvm.ClassFile.FieldType.byte)).before args0 about1 = true := code_word (m := ⟨8, 8⟩) (meth := k8m8) (c := k8c8) (by decide +kernel) rfl rfl rfl (by decide +kernel)
set_option maxRecDepth 65536 in
theorem w_c25 : (Jvm.Cond.code ({ cls := "java/lang/String", name := "codePointCount", desc := "(II)I" } : Jvm.MethodName) jdk_42_method_59_code (3 : Nat) (Option.some Jvm.ClassFile.FieldType.int)).before args0 about1 = true := code_word (m := ⟨8, 4⟩) (meth := k8m4) (c := k8c4) (by decide +kernel) rfl rfl rfl (by decide +kernel)
set_option maxRecDepth 65536 in
theorem w_c26 : (Jvm.Cond.code ({ cls := "java/util/Objects", name := "checkFromToIndex", desc := "(III)I" } : Jvm.MethodName) jdk_31_method_18_code (3 : Nat) (Option.some Jvm.ClassFile.FieldType.int)).before args0 about1 = true := code_word (m := ⟨12, 1⟩) (meth := k12m1) (c := k12c1) (by decide +kernel) rfl rfl rfl (by decide +kernel)
set_option maxRecDepth 65536 in
theorem w_c27 : (Jvm.Cond.code ({ cls := "jdk/internal/util/Preconditions", name := "checkFromToIndex", desc := "(IIILjava/util/function/BiFunction;)I" } : Jvm.MethodName) jdk_41_method_12_code (4 : Nat) (Option.some Jvm.ClassFile.FieldType.int)).before args0 about1 = true := code_word (m := ⟨13, 1⟩) (meth := k13m1) (c := k13c1) (by decide +kernel) rfl rfl rfl (by decide +kernel)
set_option maxRecDepth 65536 in
theorem w_c28 : (Jvm.Cond.code ({ cls := "java/lang/String", name := "isLatin1", desc := "()Z" } : Jvm.MethodName) jdk_42_method_154_code (1 : Nat) (Option.some Jvm.ClassFile.FieldType.boolean)).before args0 about1 = true := code_word (m := ⟨8, 9⟩) (meth := k8m9) (c := k8c9) (by decide +kernel) rfl rfl rfl (by decide +kernel)
set_option maxRecDepth 65536 in
theorem w_c29 : (Jvm.Cond.code ({ cls := "java/lang/StringUTF16", name := "codePointCount", desc := "([BII)I" } : Jvm.MethodName) jdk_52_method_12_code (3 : Nat) (Option.some Jvm.ClassFile.FieldType.int)).before args0 about1 = true := code_word (m := ⟨9, 6⟩) (meth := k9m6) (c := k9c6) (by decide +kernel) rfl rfl rfl (by decide +kernel)
set_option maxRecDepth 65536 in
theorem w_c30 : (Jvm.Cond.code ({ cls := "java/lang/StringUTF16", name := "codePointCount", desc := "([BIIZ)I" } : Jvm.MethodName) jdk_52_method_11_code (6 : Nat) (Option.some Jvm.ClassFile.FieldType.int)).before args0 about1 = true := code_word (m := ⟨9, 5⟩) (meth := k9m5) (c := k9c5) (by decide +kernel) rfl rfl rfl (by decide +kernel)
set_option maxRecDepth 65536 in
theorem w_c31 : (Jvm.Cond.code ({ cls := "java/lang/Character", name := "isHighSurrogate", desc := "(C)Z" } : Jvm.MethodName) jdk_89_method_14_code (1 : Nat) (Option.some Jvm.ClassFile.FieldType.boolean)).before args0 about1 = true := code_word (m := ⟨14, 0⟩) (meth := k14m0) (c := k14c0) (by decide +kernel) rfl rfl rfl (by decide +kernel)
set_option maxRecDepth 65536 in
theorem w_c32 : (Jvm.Cond.code ({ cls := "com/example/itihasa/itihasa/model/TextRequireLengthPinLaw", name := "isLow", desc := "(C)Z" } : Jvm.MethodName) method_4_code (1 : Nat) (Option.some Jvm.ClassFile.FieldType.boolean)).before args0 about1 = true := code_word (m := ⟨1, 3⟩) (meth := k1m3) (c := k1c3) (by decide +kernel) rfl rfl rfl (by decide +kernel)
set_option maxRecDepth 65536 in
theorem w_c33 : (Jvm.Cond.code ({ cls := "java/lang/Character", name := "isLowSurrogate", desc := "(C)Z" } : Jvm.MethodName) jdk_89_method_15_code (1 : Nat) (Option.some Jvm.ClassFile.FieldType.boolean)).before args0 about1 = true := code_word (m := ⟨14, 1⟩) (meth := k14m1) (c := k14c1) (by decide +kernel) rfl rfl rfl (by decide +kernel)
def codes1 : List Jvm.Cond := [Jvm.Cond.code x code maxLocals ret, Jvm.Cond.code ({ cls := "com/example/itihasa/itihasa/model/TextRequireLengthPinLaw", name := "draw", desc := "(JII)C" } : Jvm.MethodName) method_2_code (5 : Nat) (Option.some Jvm.ClassFile.FieldType.char), Jvm.Cond.code ({ cls := "com/example/itihasa/itihasa/model/TextRequireLengthPinLaw", name := "pair", desc := "(CC)I" } : Jvm.MethodName) method_5_code (2 : Nat) (Option.some Jvm.ClassFile.FieldType.int), Jvm.Cond.code ({ cls := "com/example/itihasa/itihasa/model/TextRequireLengthPinLaw", name := "isHigh", desc := "(C)Z" } : Jvm.MethodName) method_3_code (1 : Nat) (Option.some Jvm.ClassFile.FieldType.boolean), Jvm.Cond.code ({ cls := "java/lang/Math", name := "max", desc := "(II)I" } : Jvm.MethodName) jdk_29_method_65_code (2 : Nat) (Option.some Jvm.ClassFile.FieldType.int), Jvm.Cond.code ({ cls := "com/example/itihasa/itihasa/model/TextRequireLengthPinLaw", name := "build", desc := "(ICCCC)Ljava/lang/String;" } : Jvm.MethodName) method_6_code (5 : Nat) (Option.some (Jvm.ClassFile.FieldType.object "java/lang/String")), Jvm.Cond.code ({ cls := "java/lang/String", name := "<init>", desc := "([C)V" } : Jvm.MethodName) jdk_42_method_3_code (2 : Nat) (Option.none : Option Jvm.ClassFile.FieldType), Jvm.Cond.code ({ cls := "java/lang/String", name := "<init>", desc := "([CIILjava/lang/Void;)V" } : Jvm.MethodName) jdk_42_method_149_code (6 : Nat) (Option.none : Option Jvm.ClassFile.FieldType), Jvm.Cond.code ({ cls := "java/lang/Object", name := "<init>", desc := "()V" } : Jvm.MethodName) object_method_1_code (1 : Nat) (Option.none : Option Jvm.ClassFile.FieldType), Jvm.Cond.code ({ cls := "java/lang/StringUTF16", name := "compress", desc := "([CII)[B" } : Jvm.MethodName) jdk_52_method_16_code (6 : Nat) (Option.some (Jvm.ClassFile.FieldType.array Jvm.ClassFile.FieldType.byte)), Jvm.Cond.code ({ cls := "java/lang/StringUTF16", name := "compress", desc := "([CI[BII)I" } : Jvm.MethodName) jdk_52_method_21_code (7 : Nat) (Option.some Jvm.ClassFile.FieldType.int), Jvm.Cond.code ({ cls := "java/lang/StringUTF16", name := "toBytes", desc := "([CII)[B" } : Jvm.MethodName) jdk_52_method_14_code (5 : Nat) (Option.some (Jvm.ClassFile.FieldType.array Jvm.ClassFile.FieldType.byte)), Jvm.Cond.code ({ cls := "java/lang/StringUTF16", name := "newBytesFor", desc := "(I)[B" } : Jvm.MethodName) jdk_52_method_2_code (1 : Nat) (Option.some (Jvm.ClassFile.FieldType.array Jvm.ClassFile.FieldType.byte)), Jvm.Cond.code ({ cls := "java/lang/StringUTF16", name := "newBytesLength", desc := "(I)I" } : Jvm.MethodName) jdk_52_method_3_code (1 : Nat) (Option.some Jvm.ClassFile.FieldType.int), Jvm.Cond.code ({ cls := "java/lang/StringUTF16", name := "putChar", desc := "([BII)V" } : Jvm.MethodName) jdk_52_method_4_code (3 : Nat) (Option.none : Option Jvm.ClassFile.FieldType), Jvm.Cond.code ({ cls := "java/lang/StringUTF16", name := "getChar", desc := "([BI)C" } : Jvm.MethodName) jdk_52_method_5_code (2 : Nat) (Option.some Jvm.ClassFile.FieldType.char), Jvm.Cond.code ({ cls := "java/lang/StringUTF16", name := "coderFromArrayLen", desc := "([BI)B" } : Jvm.MethodName) jdk_52_method_15_code (2 : Nat) (Option.some Jvm.ClassFile.FieldType.byte), Jvm.Cond.code ({ cls := "java/lang/String", name := "valueOf", desc := "(C)Ljava/lang/String;" } : Jvm.MethodName) jdk_42_method_139_code (1 : Nat) (Option.some (Jvm.ClassFile.FieldType.object "java/lang/String")), Jvm.Cond.code ({ cls := "java/lang/StringLatin1", name := "canEncode", desc := "(C)Z" } : Jvm.MethodName) jdk_43_method_3_code (1 : Nat) (Option.some Jvm.ClassFile.FieldType.boolean), Jvm.Cond.code ({ cls := "java/lang/StringLatin1", name := "toBytes", desc := "(C)[B" } : Jvm.MethodName) jdk_43_method_46_code (1 : Nat) (Option.some (Jvm.ClassFile.FieldType.array Jvm.ClassFile.FieldType.byte)), Jvm.Cond.code ({ cls := "java/lang/String", name := "<init>", desc := "([BB)V" } : Jvm.MethodName) jdk_42_method_151_code (3 : Nat) (Option.none : Option Jvm.ClassFile.FieldType), Jvm.Cond.code ({ cls := "com/example/itihasa/itihasa/model/Text", name := "requireLength", desc := "(Ljava/lang/String;Ljava/lang/String;I)V" } : Jvm.MethodName) prog_6_method_4_code (4 : Nat) (Option.none : Option Jvm.ClassFile.FieldType), Jvm.Cond.code ({ cls := "java/lang/String", name := "isEmpty", desc := "()Z" } : Jvm.MethodName) jdk_42_method_55_code (1 : Nat) (Option.some Jvm.ClassFile.FieldType.boolean), Jvm.Cond.code ({ cls := "java/lang/String", name := "length", desc := "()I" } : Jvm.MethodName) jdk_42_method_54_code (1 : Nat) (Option.some Jvm.ClassFile.FieldType.int), Jvm.Cond.code ({ cls := "java/lang/String", name := "coder", desc := "()B" } : Jvm.MethodName) jdk_42_method_152_code (1 : Nat) (Option.some Jvm.ClassFile.FieldType.byte), Jvm.Cond.code ({ cls := "java/lang/String", name := "codePointCount", desc := "(II)I" } : Jvm.MethodName) jdk_42_method_59_code (3 : Nat) (Option.some Jvm.ClassFile.FieldType.int), Jvm.Cond.code ({ cls := "java/util/Objects", name := "checkFromToIndex", desc := "(III)I" } : Jvm.MethodName) jdk_31_method_18_code (3 : Nat) (Option.some Jvm.ClassFile.FieldType.int), Jvm.Cond.code ({ cls := "jdk/internal/util/Preconditions", name := "checkFromToIndex", desc := "(IIILjava/util/function/BiFunction;)I" } : Jvm.MethodName) jdk_41_method_12_code (4 : Nat) (Option.some Jvm.ClassFile.FieldType.int), Jvm.Cond.code ({ cls := "java/lang/String", name := "isLatin1", desc := "()Z" } : Jvm.MethodName) jdk_42_method_154_code (1 : Nat) (Option.some Jvm.ClassFile.FieldType.boolean), Jvm.Cond.code ({ cls := "java/lang/StringUTF16", name := "codePointCount", desc := "([BII)I" } : Jvm.MethodName) jdk_52_method_12_code (3 : Nat) (Option.some Jvm.ClassFile.FieldType.int), Jvm.Cond.code ({ cls := "java/lang/StringUTF16", name := "codePointCount", desc := "([BIIZ)I" } : Jvm.MethodName) jdk_52_method_11_code (6 : Nat) (Option.some Jvm.ClassFile.FieldType.int), Jvm.Cond.code ({ cls := "java/lang/Character", name := "isHighSurrogate", desc := "(C)Z" } : Jvm.MethodName) jdk_89_method_14_code (1 : Nat) (Option.some Jvm.ClassFile.FieldType.boolean), Jvm.Cond.code ({ cls := "com/example/itihasa/itihasa/model/TextRequireLengthPinLaw", name := "isLow", desc := "(C)Z" } : Jvm.MethodName) method_4_code (1 : Nat) (Option.some Jvm.ClassFile.FieldType.boolean), Jvm.Cond.code ({ cls := "java/lang/Character", name := "isLowSurrogate", desc := "(C)Z" } : Jvm.MethodName) jdk_89_method_15_code (1 : Nat) (Option.some Jvm.ClassFile.FieldType.boolean)]
set_option maxRecDepth 65536 in
theorem codes_eq : words1.filter isCode = codes1 := rfl
theorem w_codes : ∀ c ∈ words1.filter isCode, c.before args0 about1 = true := by
  rw [codes_eq]
  intro c hc
  simp only [codes1, List.mem_cons, List.not_mem_nil, or_false] at hc
  rcases hc with rfl | rfl | rfl | rfl | rfl | rfl | rfl | rfl | rfl | rfl | rfl | rfl | rfl | rfl | rfl | rfl | rfl | rfl | rfl | rfl | rfl | rfl | rfl | rfl | rfl | rfl | rfl | rfl | rfl | rfl | rfl | rfl | rfl | rfl
  · exact w_c0
  · exact w_c1
  · exact w_c2
  · exact w_c3
  · exact w_c4
  · exact w_c5
  · exact w_c6
  · exact w_c7
  · exact w_c8
  · exact w_c9
  · exact w_c10
  · exact w_c11
  · exact w_c12
  · exact w_c13
  · exact w_c14
  · exact w_c15
  · exact w_c16
  · exact w_c17
  · exact w_c18
  · exact w_c19
  · exact w_c20
  · exact w_c21
  · exact w_c22
  · exact w_c23
  · exact w_c24
  · exact w_c25
  · exact w_c26
  · exact w_c27
  · exact w_c28
  · exact w_c29
  · exact w_c30
  · exact w_c31
  · exact w_c32
  · exact w_c33
set_option maxRecDepth 65536 in
theorem w_t1 : (words1.take 24).all (fun c => isCode c || c.before args0 about1) = true := by decide +kernel
set_option maxRecDepth 65536 in
theorem w_t2 : ((words1.drop 24).take 24).all (fun c => isCode c || c.before args0 about1) = true := by decide +kernel
set_option maxRecDepth 65536 in
theorem w_t3 : (((words1.drop 24).drop 24).take 24).all (fun c => isCode c || c.before args0 about1) = true := by decide +kernel
set_option maxRecDepth 65536 in
theorem w_t4 : ((((words1.drop 24).drop 24).drop 24).take 24).all (fun c => isCode c || c.before args0 about1) = true := by decide +kernel
set_option maxRecDepth 65536 in
theorem w_t5 : (((((words1.drop 24).drop 24).drop 24).drop 24).take 24).all (fun c => isCode c || c.before args0 about1) = true := by decide +kernel
set_option maxRecDepth 65536 in
theorem w_t6 : (((((words1.drop 24).drop 24).drop 24).drop 24).drop 24).all (fun c => isCode c || c.before args0 about1) = true := by decide +kernel
theorem w_tables : (allAtoms (Jvm.Cond.code x code maxLocals ret :: tables_1)).before args0 about1 = true := by
  rw [allAtoms_all]
  show words1.all (fun c => c.before args0 about1) = true
  refine all_split ?_ w_codes
  rw [← List.take_append_drop 24 words1, List.all_append, w_t1, ← List.take_append_drop 24 (words1.drop 24), List.all_append, w_t2, ← List.take_append_drop 24 ((words1.drop 24).drop 24), List.all_append, w_t3, ← List.take_append_drop 24 (((words1.drop 24).drop 24).drop 24), List.all_append, w_t4, ← List.take_append_drop 24 ((((words1.drop 24).drop 24).drop 24).drop 24), List.all_append, w_t5, w_t6]
  rfl
set_option maxRecDepth 65536 in
theorem w_rest : rest_1_c.before args0 about1 = true := by decide +kernel
set_option maxRecDepth 65536 in
theorem w_case : (Jvm.Cond.and given_1 narrow_1).before args0 about1 = true := by decide +kernel
theorem w_applies : (headSpec (Jvm.Cond.code x code maxLocals ret :: tables_1) room_1).applies x e0.platform about1 = true :=
  (Spec.applies_iff w_frames).mpr ⟨w_running, w_runnable, w_alone, w_named, w_hears, w_ripe, w_room, w_tables⟩
theorem atStart : AtStart classFile x code maxLocals ret World_1 tables_1 room_1 Calls_1 rest_1 Pre_1 launch0 p0 e0 about1 theMethod args0 below0 :=
  ⟨lists_1, trivial, launch0.admits_env _ _ _, launch0.least_env, fairChoices_fair.cas, fairChoices_fair.clock, w_frames, w_args, w_heap, w_applies, trivial, w_rest, w_case⟩
end start1
theorem witness_1 : WitnessClaimed_1 := ⟨start1.p0, start1.e0, start1.about1, start1.theMethod, start1.args0, start1.below0, start1.atStart⟩
end Jvm.Pilot.@@N@@
