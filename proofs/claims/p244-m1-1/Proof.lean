import JvmDerived
import JvmDerived.Pilot.@@N@@Statement
import JvmDerived.Pilot.@@N@@Code
set_option linter.unusedVariables false
set_option linter.unusedSimpArgs false
@@BLOCK:LamKit.lean.txt@@
namespace Jvm.Ow
open Sem ClassFile Op Lib Jvm.Stand Jvm.Free Jvm.LawKit Jvm.RoadKit
/-- from S the run goes on to an end that G accepts -/
def Go (tb : Tables) (e : Env) (below : List Frame) (G : Outcome → State → Prop) (S : State) : Prop := ∃ t o, Steps tb e below S t ∧ t.status = .running ∧ Ended t below o ∧ G o t
theorem Go.via {tb : Tables} {e : Env} {below : List Frame} {G : Outcome → State → Prop} {S S' : State} (st : ∀ target, Steps tb e below S' target → Steps tb e below S target) (K : Go tb e below G S') : Go tb e below G S := by
  obtain ⟨t, o, h1, h2⟩ := K
  exact ⟨t, o, st t h1, h2⟩
theorem Go.thru {tb : Tables} {e : Env} {below : List Frame} {G : Outcome → State → Prop} {S S' : State} (st : Steps tb e below S S') (K : Go tb e below G S') : Go tb e below G S := by
  obtain ⟨t, o, h1, h2⟩ := K
  exact ⟨t, o, st.trans h1, h2⟩
section Steps1
variable {p : Program} {l : Launch} {e : Env} {R : Room} {s : State} {m : MethodId} {args : Array Value} {below : List Frame} {meth : Method} {c : Code} {T : State} {locs : List Loc} {cells slots : Nat} {G : Outcome → State → Prop} {pc pc' : Nat} {Ls : Array Slot} {rest : List Value}
theorem aloadN (X : Stand p l e R s m args below meth c T locs cells slots) (hx : p.tables.exec = Jvm.exec) {k : Fin 4} {v : Value} (hd : decode c.code pc = .ok (.aload_n k, 1)) (hl : Ls[k.val]? = some (.val v)) (hv : v.isRef = true) (K : Go p.tables e below G (T.setTop (mkF m (pc + 1) Ls (v :: rest)))) : Go p.tables e below G (T.setTop (mkF m (pc) Ls rest)) := K.via fun _ r => XS.aloadN X.here hx rfl hd hl hv r
theorem aload (X : Stand p l e R s m args below meth c T locs cells slots) (hx : p.tables.exec = Jvm.exec) {k : Nat} {v : Value} (hd : decode c.code pc = .ok (.aload k, 2)) (hl : Ls[k]? = some (.val v)) (hv : v.isRef = true) (K : Go p.tables e below G (T.setTop (mkF m (pc + 2) Ls (v :: rest)))) : Go p.tables e below G (T.setTop (mkF m (pc) Ls rest)) := K.via fun _ r => XS.aload X.here hx rfl hd hl hv r
theorem iloadN (X : Stand p l e R s m args below meth c T locs cells slots) (hx : p.tables.exec = Jvm.exec) {k : Fin 4} {v : Int32} (hd : decode c.code pc = .ok (.iload_n k, 1)) (hl : Ls[k.val]? = some (.val (.int v))) (K : Go p.tables e below G (T.setTop (mkF m (pc + 1) Ls (.int v :: rest)))) : Go p.tables e below G (T.setTop (mkF m (pc) Ls rest)) := K.via fun _ r => XS.iloadN X.here hx rfl hd hl r
theorem iload (X : Stand p l e R s m args below meth c T locs cells slots) (hx : p.tables.exec = Jvm.exec) {k : Nat} {v : Int32} (hd : decode c.code pc = .ok (.iload k, 2)) (hl : Ls[k]? = some (.val (.int v))) (K : Go p.tables e below G (T.setTop (mkF m (pc + 2) Ls (.int v :: rest)))) : Go p.tables e below G (T.setTop (mkF m (pc) Ls rest)) := K.via fun _ r => XS.iload X.here hx rfl hd hl r
theorem lloadN (X : Stand p l e R s m args below meth c T locs cells slots) (hx : p.tables.exec = Jvm.exec) {k : Fin 4} {v : Int64} (hd : decode c.code pc = .ok (.lload_n k, 1)) (hl : Ls[k.val]? = some (.val (.long v))) (K : Go p.tables e below G (T.setTop (mkF m (pc + 1) Ls (.long v :: rest)))) : Go p.tables e below G (T.setTop (mkF m (pc) Ls rest)) := K.via fun _ r => XT.lloadN X.here hx rfl hd hl r
theorem lload (X : Stand p l e R s m args below meth c T locs cells slots) (hx : p.tables.exec = Jvm.exec) {k : Nat} {v : Int64} (hd : decode c.code pc = .ok (.lload k, 2)) (hl : Ls[k]? = some (.val (.long v))) (K : Go p.tables e below G (T.setTop (mkF m (pc + 2) Ls (.long v :: rest)))) : Go p.tables e below G (T.setTop (mkF m (pc) Ls rest)) := K.via fun _ r => XT.lload X.here hx rfl hd hl r
theorem iconst (X : Stand p l e R s m args below meth c T locs cells slots) (hx : p.tables.exec = Jvm.exec) {i : Int} (v : Int32) (hd : decode c.code pc = .ok (.iconst i, 1)) (hv : Int32.ofInt i = v) (K : Go p.tables e below G (T.setTop (mkF m (pc + 1) Ls (.int v :: rest)))) : Go p.tables e below G (T.setTop (mkF m (pc) Ls rest)) := K.via fun _ r => XT.iconstV X.here hx rfl v hd hv r
theorem bipush (X : Stand p l e R s m args below meth c T locs cells slots) (hx : p.tables.exec = Jvm.exec) {i : Int} (v : Int32) (hd : decode c.code pc = .ok (.bipush i, 2)) (hv : (Int8.ofInt i).toInt32 = v) (K : Go p.tables e below G (T.setTop (mkF m (pc + 2) Ls (.int v :: rest)))) : Go p.tables e below G (T.setTop (mkF m (pc) Ls rest)) := K.via fun _ r => XT.bipushV X.here hx rfl v hd hv r
theorem sipush (X : Stand p l e R s m args below meth c T locs cells slots) (hx : p.tables.exec = Jvm.exec) {i : Int} (v : Int32) (hd : decode c.code pc = .ok (.sipush i, 3)) (hv : (Int16.ofInt i).toInt32 = v) (K : Go p.tables e below G (T.setTop (mkF m (pc + 3) Ls (.int v :: rest)))) : Go p.tables e below G (T.setTop (mkF m (pc) Ls rest)) := K.via fun _ r => XT.sipushV X.here hx rfl v hd hv r
theorem lconst (X : Stand p l e R s m args below meth c T locs cells slots) (hx : p.tables.exec = Jvm.exec) {k : Fin 2} (v : Int64) (hd : decode c.code pc = .ok (.lconst k, 1)) (hv : Int64.ofNat k = v) (K : Go p.tables e below G (T.setTop (mkF m (pc + 1) Ls (.long v :: rest)))) : Go p.tables e below G (T.setTop (mkF m (pc) Ls rest)) := K.via fun _ r => XT.lconstV X.here hx rfl v hd hv r
theorem aconst_null (X : Stand p l e R s m args below meth c T locs cells slots) (hx : p.tables.exec = Jvm.exec)  (hd : decode c.code pc = .ok (.aconst_null, 1))  (K : Go p.tables e below G (T.setTop (mkF m (pc + 1) Ls (.null :: rest)))) : Go p.tables e below G (T.setTop (mkF m (pc) Ls rest)) := K.via fun _ r => XS.aconstNull X.here hx rfl hd r
theorem ldcI (X : Stand p l e R s m args below meth c T locs cells slots) (hx : p.tables.exec = Jvm.exec) {own : String} {index : Nat} (v : Int32) (hd : decode c.code pc = .ok (.ldc index, 2)) (hown : s.vm.findClass own = some m.cls) (hc : (Cond.constant own index v).before args s = true) (K : Go p.tables e below G (T.setTop (mkF m (pc + 2) Ls (.int v :: rest)))) : Go p.tables e below G (T.setTop (mkF m (pc) Ls rest)) := K.via fun _ r => X.ldcI hx hown hc rfl hd r
theorem ldcWI (X : Stand p l e R s m args below meth c T locs cells slots) (hx : p.tables.exec = Jvm.exec) {own : String} {index : Nat} (v : Int32) (hd : decode c.code pc = .ok (.ldc_w index, 3)) (hown : s.vm.findClass own = some m.cls) (hc : (Cond.constant own index v).before args s = true) (K : Go p.tables e below G (T.setTop (mkF m (pc + 3) Ls (.int v :: rest)))) : Go p.tables e below G (T.setTop (mkF m (pc) Ls rest)) := K.via fun _ r => X.ldcWI hx hown hc rfl hd r
theorem ldc2J (X : Stand p l e R s m args below meth c T locs cells slots) (hx : p.tables.exec = Jvm.exec) {own : String} {index : Nat} (v : Int64) (hd : decode c.code pc = .ok (.ldc2_w index, 3)) (hown : s.vm.findClass own = some m.cls) (hc : (Cond.constantLong own index v).before args s = true) (K : Go p.tables e below G (T.setTop (mkF m (pc + 3) Ls (.long v :: rest)))) : Go p.tables e below G (T.setTop (mkF m (pc) Ls rest)) := K.via fun _ r => X.ldc2J hx hown hc rfl hd r
theorem iadd (X : Stand p l e R s m args below meth c T locs cells slots) (hx : p.tables.exec = Jvm.exec) {x y : Int32} (hd : decode c.code pc = .ok (.iadd, 1))  (K : Go p.tables e below G (T.setTop (mkF m (pc + 1) Ls (.int (x + y) :: rest)))) : Go p.tables e below G (T.setTop (mkF m (pc) Ls (.int y :: .int x :: rest))) := K.via fun _ r => XS.iadd X.here hx rfl hd rfl r
theorem isub (X : Stand p l e R s m args below meth c T locs cells slots) (hx : p.tables.exec = Jvm.exec) {x y : Int32} (hd : decode c.code pc = .ok (.isub, 1))  (K : Go p.tables e below G (T.setTop (mkF m (pc + 1) Ls (.int (x - y) :: rest)))) : Go p.tables e below G (T.setTop (mkF m (pc) Ls (.int y :: .int x :: rest))) := K.via fun _ r => XS.isub X.here hx rfl hd rfl r
theorem iand (X : Stand p l e R s m args below meth c T locs cells slots) (hx : p.tables.exec = Jvm.exec) {x y : Int32} (hd : decode c.code pc = .ok (.iand, 1))  (K : Go p.tables e below G (T.setTop (mkF m (pc + 1) Ls (.int (x &&& y) :: rest)))) : Go p.tables e below G (T.setTop (mkF m (pc) Ls (.int y :: .int x :: rest))) := K.via fun _ r => XS.iand X.here hx rfl hd rfl r
theorem imul (X : Stand p l e R s m args below meth c T locs cells slots) (hx : p.tables.exec = Jvm.exec) {x y : Int32} (hd : decode c.code pc = .ok (.imul, 1))  (K : Go p.tables e below G (T.setTop (mkF m (pc + 1) Ls (.int (x * y) :: rest)))) : Go p.tables e below G (T.setTop (mkF m (pc) Ls (.int y :: .int x :: rest))) := K.via fun _ r => XS.imul X.here hx rfl hd rfl r
theorem ixor (X : Stand p l e R s m args below meth c T locs cells slots) (hx : p.tables.exec = Jvm.exec) {x y : Int32} (hd : decode c.code pc = .ok (.ixor, 1))  (K : Go p.tables e below G (T.setTop (mkF m (pc + 1) Ls (.int (x ^^^ y) :: rest)))) : Go p.tables e below G (T.setTop (mkF m (pc) Ls (.int y :: .int x :: rest))) := K.via fun _ r => XT.ixor X.here hx rfl hd rfl r
theorem ior (X : Stand p l e R s m args below meth c T locs cells slots) (hx : p.tables.exec = Jvm.exec) {x y : Int32} (hd : decode c.code pc = .ok (.ior, 1))  (K : Go p.tables e below G (T.setTop (mkF m (pc + 1) Ls (.int (x ||| y) :: rest)))) : Go p.tables e below G (T.setTop (mkF m (pc) Ls (.int y :: .int x :: rest))) := K.via fun _ r => XT.ior X.here hx rfl hd rfl r
theorem ishl (X : Stand p l e R s m args below meth c T locs cells slots) (hx : p.tables.exec = Jvm.exec) {x y : Int32} (hd : decode c.code pc = .ok (.ishl, 1))  (K : Go p.tables e below G (T.setTop (mkF m (pc + 1) Ls (.int (x <<< (y &&& 31)) :: rest)))) : Go p.tables e below G (T.setTop (mkF m (pc) Ls (.int y :: .int x :: rest))) := K.via fun _ r => XT.ishl X.here hx rfl hd rfl r
theorem ishr (X : Stand p l e R s m args below meth c T locs cells slots) (hx : p.tables.exec = Jvm.exec) {x y : Int32} (hd : decode c.code pc = .ok (.ishr, 1))  (K : Go p.tables e below G (T.setTop (mkF m (pc + 1) Ls (.int (x >>> (y &&& 31)) :: rest)))) : Go p.tables e below G (T.setTop (mkF m (pc) Ls (.int y :: .int x :: rest))) := K.via fun _ r => XT.ishr X.here hx rfl hd rfl r
theorem iushr (X : Stand p l e R s m args below meth c T locs cells slots) (hx : p.tables.exec = Jvm.exec) {x y : Int32} (hd : decode c.code pc = .ok (.iushr, 1))  (K : Go p.tables e below G (T.setTop (mkF m (pc + 1) Ls (.int (XT.ushr x y) :: rest)))) : Go p.tables e below G (T.setTop (mkF m (pc) Ls (.int y :: .int x :: rest))) := K.via fun _ r => XT.iushr X.here hx rfl hd rfl r
theorem idiv (X : Stand p l e R s m args below meth c T locs cells slots) (hx : p.tables.exec = Jvm.exec) {x y : Int32} (hd : decode c.code pc = .ok (.idiv, 1)) (hy : y ≠ 0) (K : Go p.tables e below G (T.setTop (mkF m (pc + 1) Ls (.int (x / y) :: rest)))) : Go p.tables e below G (T.setTop (mkF m (pc) Ls (.int y :: .int x :: rest))) := K.via fun _ r => XS.idiv X.here hx rfl hd rfl hy r
theorem irem (X : Stand p l e R s m args below meth c T locs cells slots) (hx : p.tables.exec = Jvm.exec) {x y : Int32} (hd : decode c.code pc = .ok (.irem, 1)) (hy : y ≠ 0) (K : Go p.tables e below G (T.setTop (mkF m (pc + 1) Ls (.int (x % y) :: rest)))) : Go p.tables e below G (T.setTop (mkF m (pc) Ls (.int y :: .int x :: rest))) := K.via fun _ r => RoadKit.iremM X hx rfl hd rfl hy r
theorem ineg (X : Stand p l e R s m args below meth c T locs cells slots) (hx : p.tables.exec = Jvm.exec) {x : Int32} (hd : decode c.code pc = .ok (.ineg, 1))  (K : Go p.tables e below G (T.setTop (mkF m (pc + 1) Ls (.int (-x) :: rest)))) : Go p.tables e below G (T.setTop (mkF m (pc) Ls (.int x :: rest))) := K.via fun _ r => XS.ineg X.here hx rfl hd rfl r
theorem ladd (X : Stand p l e R s m args below meth c T locs cells slots) (hx : p.tables.exec = Jvm.exec) {x y : Int64} (hd : decode c.code pc = .ok (.ladd, 1))  (K : Go p.tables e below G (T.setTop (mkF m (pc + 1) Ls (.long (x + y) :: rest)))) : Go p.tables e below G (T.setTop (mkF m (pc) Ls (.long y :: .long x :: rest))) := K.via fun _ r => XT.ladd X.here hx rfl hd rfl r
theorem lsub (X : Stand p l e R s m args below meth c T locs cells slots) (hx : p.tables.exec = Jvm.exec) {x y : Int64} (hd : decode c.code pc = .ok (.lsub, 1))  (K : Go p.tables e below G (T.setTop (mkF m (pc + 1) Ls (.long (x - y) :: rest)))) : Go p.tables e below G (T.setTop (mkF m (pc) Ls (.long y :: .long x :: rest))) := K.via fun _ r => XT.lsub X.here hx rfl hd rfl r
theorem lmul (X : Stand p l e R s m args below meth c T locs cells slots) (hx : p.tables.exec = Jvm.exec) {x y : Int64} (hd : decode c.code pc = .ok (.lmul, 1))  (K : Go p.tables e below G (T.setTop (mkF m (pc + 1) Ls (.long (x * y) :: rest)))) : Go p.tables e below G (T.setTop (mkF m (pc) Ls (.long y :: .long x :: rest))) := K.via fun _ r => XT.lmul X.here hx rfl hd rfl r
theorem land (X : Stand p l e R s m args below meth c T locs cells slots) (hx : p.tables.exec = Jvm.exec) {x y : Int64} (hd : decode c.code pc = .ok (.land, 1))  (K : Go p.tables e below G (T.setTop (mkF m (pc + 1) Ls (.long (x &&& y) :: rest)))) : Go p.tables e below G (T.setTop (mkF m (pc) Ls (.long y :: .long x :: rest))) := K.via fun _ r => XT.land X.here hx rfl hd rfl r
theorem lor (X : Stand p l e R s m args below meth c T locs cells slots) (hx : p.tables.exec = Jvm.exec) {x y : Int64} (hd : decode c.code pc = .ok (.lor, 1))  (K : Go p.tables e below G (T.setTop (mkF m (pc + 1) Ls (.long (x ||| y) :: rest)))) : Go p.tables e below G (T.setTop (mkF m (pc) Ls (.long y :: .long x :: rest))) := K.via fun _ r => XT.lor X.here hx rfl hd rfl r
theorem lxor (X : Stand p l e R s m args below meth c T locs cells slots) (hx : p.tables.exec = Jvm.exec) {x y : Int64} (hd : decode c.code pc = .ok (.lxor, 1))  (K : Go p.tables e below G (T.setTop (mkF m (pc + 1) Ls (.long (x ^^^ y) :: rest)))) : Go p.tables e below G (T.setTop (mkF m (pc) Ls (.long y :: .long x :: rest))) := K.via fun _ r => XT.lxor X.here hx rfl hd rfl r
theorem ldiv (X : Stand p l e R s m args below meth c T locs cells slots) (hx : p.tables.exec = Jvm.exec) {x y : Int64} (hd : decode c.code pc = .ok (.ldiv, 1)) (hy : y ≠ 0) (K : Go p.tables e below G (T.setTop (mkF m (pc + 1) Ls (.long (x / y) :: rest)))) : Go p.tables e below G (T.setTop (mkF m (pc) Ls (.long y :: .long x :: rest))) := K.via fun _ r => XT.ldiv X.here hx rfl hd rfl hy r
theorem lrem (X : Stand p l e R s m args below meth c T locs cells slots) (hx : p.tables.exec = Jvm.exec) {x y : Int64} (hd : decode c.code pc = .ok (.lrem, 1)) (hy : y ≠ 0) (K : Go p.tables e below G (T.setTop (mkF m (pc + 1) Ls (.long (x - (x / y) * y) :: rest)))) : Go p.tables e below G (T.setTop (mkF m (pc) Ls (.long y :: .long x :: rest))) := K.via fun _ r => XT.lrem X.here hx rfl hd rfl hy r
theorem lshl (X : Stand p l e R s m args below meth c T locs cells slots) (hx : p.tables.exec = Jvm.exec) {x : Int64} {y : Int32} (hd : decode c.code pc = .ok (.lshl, 1))  (K : Go p.tables e below G (T.setTop (mkF m (pc + 1) Ls (.long (x <<< (y.toInt64 &&& 63)) :: rest)))) : Go p.tables e below G (T.setTop (mkF m (pc) Ls (.int y :: .long x :: rest))) := K.via fun _ r => XT.lshl X.here hx rfl hd rfl r
theorem lshr (X : Stand p l e R s m args below meth c T locs cells slots) (hx : p.tables.exec = Jvm.exec) {x : Int64} {y : Int32} (hd : decode c.code pc = .ok (.lshr, 1))  (K : Go p.tables e below G (T.setTop (mkF m (pc + 1) Ls (.long (x >>> (y.toInt64 &&& 63)) :: rest)))) : Go p.tables e below G (T.setTop (mkF m (pc) Ls (.int y :: .long x :: rest))) := K.via fun _ r => XT.lshr X.here hx rfl hd rfl r
theorem lushr (X : Stand p l e R s m args below meth c T locs cells slots) (hx : p.tables.exec = Jvm.exec) {x : Int64} {y : Int32} (hd : decode c.code pc = .ok (.lushr, 1))  (K : Go p.tables e below G (T.setTop (mkF m (pc + 1) Ls (.long (XT.ushrL x y) :: rest)))) : Go p.tables e below G (T.setTop (mkF m (pc) Ls (.int y :: .long x :: rest))) := K.via fun _ r => XT.lushr X.here hx rfl hd rfl r
theorem lneg (X : Stand p l e R s m args below meth c T locs cells slots) (hx : p.tables.exec = Jvm.exec) {x : Int64} (hd : decode c.code pc = .ok (.lneg, 1))  (K : Go p.tables e below G (T.setTop (mkF m (pc + 1) Ls (.long (-x) :: rest)))) : Go p.tables e below G (T.setTop (mkF m (pc) Ls (.long x :: rest))) := K.via fun _ r => XT.lneg X.here hx rfl hd rfl r
theorem lcmp (X : Stand p l e R s m args below meth c T locs cells slots) (hx : p.tables.exec = Jvm.exec) {x y : Int64} (hd : decode c.code pc = .ok (.lcmp, 1))  (K : Go p.tables e below G (T.setTop (mkF m (pc + 1) Ls (.int (XT.cmpL x y) :: rest)))) : Go p.tables e below G (T.setTop (mkF m (pc) Ls (.long y :: .long x :: rest))) := K.via fun _ r => XT.lcmp X.here hx rfl hd rfl r
theorem i2l (X : Stand p l e R s m args below meth c T locs cells slots) (hx : p.tables.exec = Jvm.exec) {x : Int32} (hd : decode c.code pc = .ok (.i2l, 1))  (K : Go p.tables e below G (T.setTop (mkF m (pc + 1) Ls (.long (x.toInt64) :: rest)))) : Go p.tables e below G (T.setTop (mkF m (pc) Ls (.int x :: rest))) := K.via fun _ r => XT.i2l X.here hx rfl hd rfl r
theorem l2i (X : Stand p l e R s m args below meth c T locs cells slots) (hx : p.tables.exec = Jvm.exec) {x : Int64} (hd : decode c.code pc = .ok (.l2i, 1))  (K : Go p.tables e below G (T.setTop (mkF m (pc + 1) Ls (.int (x.toInt32) :: rest)))) : Go p.tables e below G (T.setTop (mkF m (pc) Ls (.long x :: rest))) := K.via fun _ r => XT.l2i X.here hx rfl hd rfl r
theorem i2b (X : Stand p l e R s m args below meth c T locs cells slots) (hx : p.tables.exec = Jvm.exec) {x : Int32} (hd : decode c.code pc = .ok (.i2b, 1))  (K : Go p.tables e below G (T.setTop (mkF m (pc + 1) Ls (.int (x.toInt8.toInt32) :: rest)))) : Go p.tables e below G (T.setTop (mkF m (pc) Ls (.int x :: rest))) := K.via fun _ r => XT.i2b X.here hx rfl hd rfl r
theorem i2c (X : Stand p l e R s m args below meth c T locs cells slots) (hx : p.tables.exec = Jvm.exec) {x : Int32} (hd : decode c.code pc = .ok (.i2c, 1))  (K : Go p.tables e below G (T.setTop (mkF m (pc + 1) Ls (.int (x.toUInt32.toUInt16.toUInt32.toInt32) :: rest)))) : Go p.tables e below G (T.setTop (mkF m (pc) Ls (.int x :: rest))) := K.via fun _ r => XT.i2c X.here hx rfl hd rfl r
theorem i2s (X : Stand p l e R s m args below meth c T locs cells slots) (hx : p.tables.exec = Jvm.exec) {x : Int32} (hd : decode c.code pc = .ok (.i2s, 1))  (K : Go p.tables e below G (T.setTop (mkF m (pc + 1) Ls (.int (x.toInt16.toInt32) :: rest)))) : Go p.tables e below G (T.setTop (mkF m (pc) Ls (.int x :: rest))) := K.via fun _ r => XT.i2s X.here hx rfl hd rfl r
theorem dup (X : Stand p l e R s m args below meth c T locs cells slots) (hx : p.tables.exec = Jvm.exec) {v : Value} (hd : decode c.code pc = .ok (.dup, 1)) (hv : v.category = 1) (K : Go p.tables e below G (T.setTop (mkF m (pc + 1) Ls (v :: v :: rest)))) : Go p.tables e below G (T.setTop (mkF m (pc) Ls (v :: rest))) := K.via fun _ r => XS.dup X.here hx rfl hd rfl hv r
theorem pop (X : Stand p l e R s m args below meth c T locs cells slots) (hx : p.tables.exec = Jvm.exec) {v : Value} (hd : decode c.code pc = .ok (.pop, 1)) (hv : v.category = 1) (K : Go p.tables e below G (T.setTop (mkF m (pc + 1) Ls rest))) : Go p.tables e below G (T.setTop (mkF m (pc) Ls (v :: rest))) := K.via fun _ r => XT.pop X.here hx rfl hd rfl hv r
theorem dup_x1 (X : Stand p l e R s m args below meth c T locs cells slots) (hx : p.tables.exec = Jvm.exec) {v w : Value} (hd : decode c.code pc = .ok (.dup_x1, 1)) (hv : v.category = 1) (hw : w.category = 1) (K : Go p.tables e below G (T.setTop (mkF m (pc + 1) Ls (v :: w :: v :: rest)))) : Go p.tables e below G (T.setTop (mkF m (pc) Ls (v :: w :: rest))) := K.via fun _ r => XT.dupX1 X.here hx rfl hd rfl hv hw r
theorem dup2 (X : Stand p l e R s m args below meth c T locs cells slots) (hx : p.tables.exec = Jvm.exec) {v w : Value} (hd : decode c.code pc = .ok (.dup2, 1)) (hv : v.category = 1) (hw : w.category = 1) (K : Go p.tables e below G (T.setTop (mkF m (pc + 1) Ls (v :: w :: v :: w :: rest)))) : Go p.tables e below G (T.setTop (mkF m (pc) Ls (v :: w :: rest))) := K.via fun _ r => XT.dup2 X.here hx rfl hd rfl hv hw r
theorem dup2L (X : Stand p l e R s m args below meth c T locs cells slots) (hx : p.tables.exec = Jvm.exec) {x : Int64} (hd : decode c.code pc = .ok (.dup2, 1))  (K : Go p.tables e below G (T.setTop (mkF m (pc + 1) Ls (.long x :: .long x :: rest)))) : Go p.tables e below G (T.setTop (mkF m (pc) Ls (.long x :: rest))) := K.via fun _ r => XT.dup2L X.here hx rfl hd rfl r
theorem istoreN (X : Stand p l e R s m args below meth c T locs cells slots) (hx : p.tables.exec = Jvm.exec) {k : Fin 4} {x : Int32} (L2 : Array Slot) (hd : decode c.code pc = .ok (.istore_n k, 1))  (hl : storeLocals Ls k.val (.int x) = some L2) (K : Go p.tables e below G (T.setTop (mkF m (pc + 1) L2 rest))) : Go p.tables e below G (T.setTop (mkF m (pc) Ls ((.int x) :: rest))) := K.via fun _ r => XS.istoreN X.here hx rfl hd rfl hl r
theorem istore (X : Stand p l e R s m args below meth c T locs cells slots) (hx : p.tables.exec = Jvm.exec) {k : Nat} {x : Int32} (L2 : Array Slot) (hd : decode c.code pc = .ok (.istore k, 2))  (hl : storeLocals Ls k (.int x) = some L2) (K : Go p.tables e below G (T.setTop (mkF m (pc + 2) L2 rest))) : Go p.tables e below G (T.setTop (mkF m (pc) Ls ((.int x) :: rest))) := K.via fun _ r => XS.istore X.here hx rfl hd rfl hl r
theorem astoreN (X : Stand p l e R s m args below meth c T locs cells slots) (hx : p.tables.exec = Jvm.exec) {k : Fin 4} {v : Value} (L2 : Array Slot) (hd : decode c.code pc = .ok (.astore_n k, 1)) (hv : v.isRef = true) (hl : storeLocals Ls k.val v = some L2) (K : Go p.tables e below G (T.setTop (mkF m (pc + 1) L2 rest))) : Go p.tables e below G (T.setTop (mkF m (pc) Ls (v :: rest))) := K.via fun _ r => XS.astoreN X.here hx rfl hd rfl hv hl r
theorem astore (X : Stand p l e R s m args below meth c T locs cells slots) (hx : p.tables.exec = Jvm.exec) {k : Nat} {v : Value} (L2 : Array Slot) (hd : decode c.code pc = .ok (.astore k, 2)) (hv : v.isRef = true) (hl : storeLocals Ls k v = some L2) (K : Go p.tables e below G (T.setTop (mkF m (pc + 2) L2 rest))) : Go p.tables e below G (T.setTop (mkF m (pc) Ls (v :: rest))) := K.via fun _ r => XS.astore X.here hx rfl hd rfl hv hl r
theorem lstoreN (X : Stand p l e R s m args below meth c T locs cells slots) (hx : p.tables.exec = Jvm.exec) {k : Fin 4} {x : Int64} (L2 : Array Slot) (hd : decode c.code pc = .ok (.lstore_n k, 1))  (hl : storeLocals Ls k.val (.long x) = some L2) (K : Go p.tables e below G (T.setTop (mkF m (pc + 1) L2 rest))) : Go p.tables e below G (T.setTop (mkF m (pc) Ls ((.long x) :: rest))) := K.via fun _ r => XT.lstoreN X.here hx rfl hd rfl hl r
theorem lstore (X : Stand p l e R s m args below meth c T locs cells slots) (hx : p.tables.exec = Jvm.exec) {k : Nat} {x : Int64} (L2 : Array Slot) (hd : decode c.code pc = .ok (.lstore k, 2))  (hl : storeLocals Ls k (.long x) = some L2) (K : Go p.tables e below G (T.setTop (mkF m (pc + 2) L2 rest))) : Go p.tables e below G (T.setTop (mkF m (pc) Ls ((.long x) :: rest))) := K.via fun _ r => XT.lstore X.here hx rfl hd rfl hl r
theorem iinc (X : Stand p l e R s m args below meth c T locs cells slots) (hx : p.tables.exec = Jvm.exec) {k : Nat} {cst : Int} {x : Int32} (v : Int32) (L2 : Array Slot) (hd : decode c.code pc = .ok (.iinc k cst, 3)) (hv : Int32.ofInt cst = v) (hl : Ls[k]? = some (.val (.int x))) (hl' : storeLocals Ls k (.int (x + v)) = some L2) (K : Go p.tables e below G (T.setTop (mkF m (pc + 3) L2 rest))) : Go p.tables e below G (T.setTop (mkF m (pc) Ls rest)) := K.via fun _ r => XT.iincV X.here hx rfl v hd hv hl hl' r
theorem goto (X : Stand p l e R s m args below meth c T locs cells slots) (hx : p.tables.exec = Jvm.exec) {o : Int} (hd : decode c.code pc = .ok (.goto o, 3)) (ho : 0 ≤ (pc : Int) + o) (hp : ((pc : Int) + o).toNat = pc') (K : Go p.tables e below G (T.setTop (mkF m (pc') Ls rest))) : Go p.tables e below G (T.setTop (mkF m (pc) Ls rest)) := K.via fun _ r => XS.goto X.here hx rfl rfl hd ho hp r
theorem if_eq (X : Stand p l e R s m args below meth c T locs cells slots) (hx : p.tables.exec = Jvm.exec) {x : Int32} {o : Int} (hd : decode c.code pc = .ok (.ifCond .eq o, 3)) (ho : 0 ≤ (pc : Int) + o) (hp : ((pc : Int) + o).toNat = pc') (KT : x = 0 → Go p.tables e below G (T.setTop (mkF m (pc') Ls rest))) (KF : ¬ x = 0 → Go p.tables e below G (T.setTop (mkF m (pc + 3) Ls rest))) : Go p.tables e below G (T.setTop (mkF m (pc) Ls (.int x :: rest))) := by
  by_cases h : x = 0
  · exact (KT h).via fun _ r => XS.ifYes X.here hx rfl rfl hd rfl (XT.i0_eq_t h) ho hp r
  · exact (KF h).via fun _ r => XS.ifNo X.here hx rfl hd rfl (XT.i0_eq_f h) r
theorem if_ne (X : Stand p l e R s m args below meth c T locs cells slots) (hx : p.tables.exec = Jvm.exec) {x : Int32} {o : Int} (hd : decode c.code pc = .ok (.ifCond .ne o, 3)) (ho : 0 ≤ (pc : Int) + o) (hp : ((pc : Int) + o).toNat = pc') (KT : ¬ x = 0 → Go p.tables e below G (T.setTop (mkF m (pc') Ls rest))) (KF : x = 0 → Go p.tables e below G (T.setTop (mkF m (pc + 3) Ls rest))) : Go p.tables e below G (T.setTop (mkF m (pc) Ls (.int x :: rest))) := by
  by_cases h : x = 0
  · exact (KF h).via fun _ r => XS.ifNo X.here hx rfl hd rfl (XT.i0_ne_f h) r
  · exact (KT h).via fun _ r => XS.ifYes X.here hx rfl rfl hd rfl (XT.i0_ne_t h) ho hp r
theorem if_lt (X : Stand p l e R s m args below meth c T locs cells slots) (hx : p.tables.exec = Jvm.exec) {x : Int32} {o : Int} (hd : decode c.code pc = .ok (.ifCond .lt o, 3)) (ho : 0 ≤ (pc : Int) + o) (hp : ((pc : Int) + o).toNat = pc') (KT : x < 0 → Go p.tables e below G (T.setTop (mkF m (pc') Ls rest))) (KF : ¬ x < 0 → Go p.tables e below G (T.setTop (mkF m (pc + 3) Ls rest))) : Go p.tables e below G (T.setTop (mkF m (pc) Ls (.int x :: rest))) := by
  by_cases h : x < 0
  · exact (KT h).via fun _ r => XS.ifYes X.here hx rfl rfl hd rfl (XT.i0_lt_t h) ho hp r
  · exact (KF h).via fun _ r => XS.ifNo X.here hx rfl hd rfl (XT.i0_lt_f h) r
theorem if_ge (X : Stand p l e R s m args below meth c T locs cells slots) (hx : p.tables.exec = Jvm.exec) {x : Int32} {o : Int} (hd : decode c.code pc = .ok (.ifCond .ge o, 3)) (ho : 0 ≤ (pc : Int) + o) (hp : ((pc : Int) + o).toNat = pc') (KT : ¬ x < 0 → Go p.tables e below G (T.setTop (mkF m (pc') Ls rest))) (KF : x < 0 → Go p.tables e below G (T.setTop (mkF m (pc + 3) Ls rest))) : Go p.tables e below G (T.setTop (mkF m (pc) Ls (.int x :: rest))) := by
  by_cases h : x < 0
  · exact (KF h).via fun _ r => XS.ifNo X.here hx rfl hd rfl (XT.i0_ge_f h) r
  · exact (KT h).via fun _ r => XS.ifYes X.here hx rfl rfl hd rfl (XT.i0_ge_t h) ho hp r
theorem if_gt (X : Stand p l e R s m args below meth c T locs cells slots) (hx : p.tables.exec = Jvm.exec) {x : Int32} {o : Int} (hd : decode c.code pc = .ok (.ifCond .gt o, 3)) (ho : 0 ≤ (pc : Int) + o) (hp : ((pc : Int) + o).toNat = pc') (KT : 0 < x → Go p.tables e below G (T.setTop (mkF m (pc') Ls rest))) (KF : ¬ 0 < x → Go p.tables e below G (T.setTop (mkF m (pc + 3) Ls rest))) : Go p.tables e below G (T.setTop (mkF m (pc) Ls (.int x :: rest))) := by
  by_cases h : 0 < x
  · exact (KT h).via fun _ r => XS.ifYes X.here hx rfl rfl hd rfl (XT.i0_gt_t h) ho hp r
  · exact (KF h).via fun _ r => XS.ifNo X.here hx rfl hd rfl (XT.i0_gt_f h) r
theorem if_le (X : Stand p l e R s m args below meth c T locs cells slots) (hx : p.tables.exec = Jvm.exec) {x : Int32} {o : Int} (hd : decode c.code pc = .ok (.ifCond .le o, 3)) (ho : 0 ≤ (pc : Int) + o) (hp : ((pc : Int) + o).toNat = pc') (KT : ¬ 0 < x → Go p.tables e below G (T.setTop (mkF m (pc') Ls rest))) (KF : 0 < x → Go p.tables e below G (T.setTop (mkF m (pc + 3) Ls rest))) : Go p.tables e below G (T.setTop (mkF m (pc) Ls (.int x :: rest))) := by
  by_cases h : 0 < x
  · exact (KF h).via fun _ r => XS.ifNo X.here hx rfl hd rfl (XT.i0_le_f h) r
  · exact (KT h).via fun _ r => XS.ifYes X.here hx rfl rfl hd rfl (XT.i0_le_t h) ho hp r
theorem icmp_eq (X : Stand p l e R s m args below meth c T locs cells slots) (hx : p.tables.exec = Jvm.exec) {x y : Int32} {o : Int} (hd : decode c.code pc = .ok (.if_icmp .eq o, 3)) (ho : 0 ≤ (pc : Int) + o) (hp : ((pc : Int) + o).toNat = pc') (KT : x = y → Go p.tables e below G (T.setTop (mkF m (pc') Ls rest))) (KF : ¬ x = y → Go p.tables e below G (T.setTop (mkF m (pc + 3) Ls rest))) : Go p.tables e below G (T.setTop (mkF m (pc) Ls (.int y :: .int x :: rest))) := by
  by_cases h : x = y
  · exact (KT h).via fun _ r => XS.icmpYes X.here hx rfl rfl hd rfl (XT.ii_eq_t h) ho hp r
  · exact (KF h).via fun _ r => XS.icmpNo X.here hx rfl hd rfl (XT.ii_eq_f h) r
theorem icmp_ne (X : Stand p l e R s m args below meth c T locs cells slots) (hx : p.tables.exec = Jvm.exec) {x y : Int32} {o : Int} (hd : decode c.code pc = .ok (.if_icmp .ne o, 3)) (ho : 0 ≤ (pc : Int) + o) (hp : ((pc : Int) + o).toNat = pc') (KT : ¬ x = y → Go p.tables e below G (T.setTop (mkF m (pc') Ls rest))) (KF : x = y → Go p.tables e below G (T.setTop (mkF m (pc + 3) Ls rest))) : Go p.tables e below G (T.setTop (mkF m (pc) Ls (.int y :: .int x :: rest))) := by
  by_cases h : x = y
  · exact (KF h).via fun _ r => XS.icmpNo X.here hx rfl hd rfl (XT.ii_ne_f h) r
  · exact (KT h).via fun _ r => XS.icmpYes X.here hx rfl rfl hd rfl (XT.ii_ne_t h) ho hp r
theorem icmp_lt (X : Stand p l e R s m args below meth c T locs cells slots) (hx : p.tables.exec = Jvm.exec) {x y : Int32} {o : Int} (hd : decode c.code pc = .ok (.if_icmp .lt o, 3)) (ho : 0 ≤ (pc : Int) + o) (hp : ((pc : Int) + o).toNat = pc') (KT : x < y → Go p.tables e below G (T.setTop (mkF m (pc') Ls rest))) (KF : ¬ x < y → Go p.tables e below G (T.setTop (mkF m (pc + 3) Ls rest))) : Go p.tables e below G (T.setTop (mkF m (pc) Ls (.int y :: .int x :: rest))) := by
  by_cases h : x < y
  · exact (KT h).via fun _ r => XS.icmpYes X.here hx rfl rfl hd rfl (XT.ii_lt_t h) ho hp r
  · exact (KF h).via fun _ r => XS.icmpNo X.here hx rfl hd rfl (XT.ii_lt_f h) r
theorem icmp_ge (X : Stand p l e R s m args below meth c T locs cells slots) (hx : p.tables.exec = Jvm.exec) {x y : Int32} {o : Int} (hd : decode c.code pc = .ok (.if_icmp .ge o, 3)) (ho : 0 ≤ (pc : Int) + o) (hp : ((pc : Int) + o).toNat = pc') (KT : ¬ x < y → Go p.tables e below G (T.setTop (mkF m (pc') Ls rest))) (KF : x < y → Go p.tables e below G (T.setTop (mkF m (pc + 3) Ls rest))) : Go p.tables e below G (T.setTop (mkF m (pc) Ls (.int y :: .int x :: rest))) := by
  by_cases h : x < y
  · exact (KF h).via fun _ r => XS.icmpNo X.here hx rfl hd rfl (XT.ii_ge_f h) r
  · exact (KT h).via fun _ r => XS.icmpYes X.here hx rfl rfl hd rfl (XT.ii_ge_t h) ho hp r
theorem icmp_gt (X : Stand p l e R s m args below meth c T locs cells slots) (hx : p.tables.exec = Jvm.exec) {x y : Int32} {o : Int} (hd : decode c.code pc = .ok (.if_icmp .gt o, 3)) (ho : 0 ≤ (pc : Int) + o) (hp : ((pc : Int) + o).toNat = pc') (KT : y < x → Go p.tables e below G (T.setTop (mkF m (pc') Ls rest))) (KF : ¬ y < x → Go p.tables e below G (T.setTop (mkF m (pc + 3) Ls rest))) : Go p.tables e below G (T.setTop (mkF m (pc) Ls (.int y :: .int x :: rest))) := by
  by_cases h : y < x
  · exact (KT h).via fun _ r => XS.icmpYes X.here hx rfl rfl hd rfl (XT.ii_gt_t h) ho hp r
  · exact (KF h).via fun _ r => XS.icmpNo X.here hx rfl hd rfl (XT.ii_gt_f h) r
theorem icmp_le (X : Stand p l e R s m args below meth c T locs cells slots) (hx : p.tables.exec = Jvm.exec) {x y : Int32} {o : Int} (hd : decode c.code pc = .ok (.if_icmp .le o, 3)) (ho : 0 ≤ (pc : Int) + o) (hp : ((pc : Int) + o).toNat = pc') (KT : ¬ y < x → Go p.tables e below G (T.setTop (mkF m (pc') Ls rest))) (KF : y < x → Go p.tables e below G (T.setTop (mkF m (pc + 3) Ls rest))) : Go p.tables e below G (T.setTop (mkF m (pc) Ls (.int y :: .int x :: rest))) := by
  by_cases h : y < x
  · exact (KF h).via fun _ r => XS.icmpNo X.here hx rfl hd rfl (XT.ii_le_f h) r
  · exact (KT h).via fun _ r => XS.icmpYes X.here hx rfl rfl hd rfl (XT.ii_le_t h) ho hp r
theorem ifnull_n (X : Stand p l e R s m args below meth c T locs cells slots) (hx : p.tables.exec = Jvm.exec) {o : Int} (hd : decode c.code pc = .ok (.ifnull o, 3)) (ho : 0 ≤ (pc : Int) + o) (hp : ((pc : Int) + o).toNat = pc') (K : Go p.tables e below G (T.setTop (mkF m (pc') Ls rest))) : Go p.tables e below G (T.setTop (mkF m (pc) Ls (.null :: rest))) := K.via fun _ r => XS.ifnullYes X.here hx rfl rfl hd rfl ho hp r
theorem ifnull_r (X : Stand p l e R s m args below meth c T locs cells slots) (hx : p.tables.exec = Jvm.exec) {o : Int} {b : Addr} (hd : decode c.code pc = .ok (.ifnull o, 3)) (K : Go p.tables e below G (T.setTop (mkF m (pc + 3) Ls rest))) : Go p.tables e below G (T.setTop (mkF m (pc) Ls (.ref b :: rest))) := K.via fun _ r => XS.ifnullNo X.here hx rfl hd rfl r
theorem ifnonnull_r (X : Stand p l e R s m args below meth c T locs cells slots) (hx : p.tables.exec = Jvm.exec) {o : Int} {b : Addr} (hd : decode c.code pc = .ok (.ifnonnull o, 3)) (ho : 0 ≤ (pc : Int) + o) (hp : ((pc : Int) + o).toNat = pc') (K : Go p.tables e below G (T.setTop (mkF m (pc') Ls rest))) : Go p.tables e below G (T.setTop (mkF m (pc) Ls (.ref b :: rest))) := K.via fun _ r => XT.ifnonnullYes X.here hx rfl rfl hd rfl ho hp r
theorem ifnonnull_n (X : Stand p l e R s m args below meth c T locs cells slots) (hx : p.tables.exec = Jvm.exec) {o : Int} (hd : decode c.code pc = .ok (.ifnonnull o, 3)) (K : Go p.tables e below G (T.setTop (mkF m (pc + 3) Ls rest))) : Go p.tables e below G (T.setTop (mkF m (pc) Ls (.null :: rest))) := K.via fun _ r => XT.ifnonnullNo X.here hx rfl hd rfl r
theorem acmp_eq (X : Stand p l e R s m args below meth c T locs cells slots) (hx : p.tables.exec = Jvm.exec) {v w : Value} {o : Int} (hd : decode c.code pc = .ok (.if_acmp .eq o, 3)) (h1 : v.isRef = true) (h2 : w.isRef = true) (ho : 0 ≤ (pc : Int) + o) (hp : ((pc : Int) + o).toNat = pc') (KT : v = w → Go p.tables e below G (T.setTop (mkF m (pc') Ls rest))) (KF : ¬ v = w → Go p.tables e below G (T.setTop (mkF m (pc + 3) Ls rest))) : Go p.tables e below G (T.setTop (mkF m (pc) Ls (w :: v :: rest))) := by
  by_cases h : v = w
  · exact (KT h).via fun _ r => XT.acmpYes X.here hx rfl rfl hd rfl h1 h2 (XT.aa_eq_t h) ho hp r
  · exact (KF h).via fun _ r => XT.acmpNo X.here hx rfl hd rfl h1 h2 (XT.aa_eq_f h) r
theorem acmp_ne (X : Stand p l e R s m args below meth c T locs cells slots) (hx : p.tables.exec = Jvm.exec) {v w : Value} {o : Int} (hd : decode c.code pc = .ok (.if_acmp .ne o, 3)) (h1 : v.isRef = true) (h2 : w.isRef = true) (ho : 0 ≤ (pc : Int) + o) (hp : ((pc : Int) + o).toNat = pc') (KT : ¬ v = w → Go p.tables e below G (T.setTop (mkF m (pc') Ls rest))) (KF : v = w → Go p.tables e below G (T.setTop (mkF m (pc + 3) Ls rest))) : Go p.tables e below G (T.setTop (mkF m (pc) Ls (w :: v :: rest))) := by
  by_cases h : v = w
  · exact (KF h).via fun _ r => XT.acmpNo X.here hx rfl hd rfl h1 h2 (XT.aa_ne_f h) r
  · exact (KT h).via fun _ r => XT.acmpYes X.here hx rfl rfl hd rfl h1 h2 (XT.aa_ne_t h) ho hp r
theorem iaload (X : Stand p l e R s m args below meth c T locs cells slots) (hx : p.tables.exec = Jvm.exec) {Z : State} {h : Heap} (hZ : Z.Warmed39 s.vm) (eT : T.heap = h) {a : Addr} {cell : Cell} {j : Int32} (v : Value) (A : Arr Z h a cell .int) (hin : ¬ (j < 0 ∨ cell.slots.size ≤ j.toNatClampNeg)) (hv : cell.slots[j.toNatClampNeg]? = some v) (hd : decode c.code pc = .ok (.iaload, 1)) (K : Go p.tables e below G (T.setTop (mkF m (pc + 1) Ls (v :: rest)))) : Go p.tables e below G (T.setTop (mkF m (pc) Ls (.int j :: .ref a :: rest))) := K.via fun t r => X.iaload hx (g := mkF m pc Ls (.int j :: .ref a :: rest)) (by rw [eT]; exact A.1) (State.isArrayOf_alike hZ.alike A.2.1) A.2.2 hin hv rfl rfl hd t r
theorem caload (X : Stand p l e R s m args below meth c T locs cells slots) (hx : p.tables.exec = Jvm.exec) {Z : State} {h : Heap} (hZ : Z.Warmed39 s.vm) (eT : T.heap = h) {a : Addr} {cell : Cell} {j : Int32} (v : Value) (A : Arr Z h a cell .char) (hin : ¬ (j < 0 ∨ cell.slots.size ≤ j.toNatClampNeg)) (hv : cell.slots[j.toNatClampNeg]? = some v) (hd : decode c.code pc = .ok (.caload, 1)) (K : Go p.tables e below G (T.setTop (mkF m (pc + 1) Ls (v :: rest)))) : Go p.tables e below G (T.setTop (mkF m (pc) Ls (.int j :: .ref a :: rest))) := K.via fun t r => X.caload hx (g := mkF m pc Ls (.int j :: .ref a :: rest)) (by rw [eT]; exact A.1) (State.isArrayOf_alike hZ.alike A.2.1) A.2.2 hin hv rfl rfl hd t r
theorem laload (X : Stand p l e R s m args below meth c T locs cells slots) (hx : p.tables.exec = Jvm.exec) {Z : State} {h : Heap} (hZ : Z.Warmed39 s.vm) (eT : T.heap = h) {a : Addr} {cell : Cell} {j : Int32} (v : Value) (A : Arr Z h a cell .long) (hin : ¬ (j < 0 ∨ cell.slots.size ≤ j.toNatClampNeg)) (hv : cell.slots[j.toNatClampNeg]? = some v) (hd : decode c.code pc = .ok (.laload, 1)) (K : Go p.tables e below G (T.setTop (mkF m (pc + 1) Ls (v :: rest)))) : Go p.tables e below G (T.setTop (mkF m (pc) Ls (.int j :: .ref a :: rest))) := K.via fun t r => X.laload hx (g := mkF m pc Ls (.int j :: .ref a :: rest)) (by rw [eT]; exact A.1) (State.isArrayOf_alike hZ.alike A.2.1) A.2.2 hin hv rfl rfl hd t r
theorem baload (X : Stand p l e R s m args below meth c T locs cells slots) (hx : p.tables.exec = Jvm.exec) {Z : State} {h : Heap} (hZ : Z.Warmed39 s.vm) (eT : T.heap = h) {a : Addr} {cell : Cell} {j : Int32} (v : Value) (A : Arr Z h a cell .byte) (hin : ¬ (j < 0 ∨ cell.slots.size ≤ j.toNatClampNeg)) (hv : cell.slots[j.toNatClampNeg]? = some v) (hd : decode c.code pc = .ok (.baload, 1)) (K : Go p.tables e below G (T.setTop (mkF m (pc + 1) Ls (v :: rest)))) : Go p.tables e below G (T.setTop (mkF m (pc) Ls (.int j :: .ref a :: rest))) := K.via fun t r => X.baloadBytes hx (g := mkF m pc Ls (.int j :: .ref a :: rest)) (by rw [eT]; exact A.1) (State.isArrayOf_alike hZ.alike A.2.1) A.2.2 hin hv rfl rfl hd t r
theorem zaload (X : Stand p l e R s m args below meth c T locs cells slots) (hx : p.tables.exec = Jvm.exec) {Z : State} {h : Heap} (hZ : Z.Warmed39 s.vm) (eT : T.heap = h) {a : Addr} {cell : Cell} {j : Int32} (v : Value) (A : Arr Z h a cell .boolean) (hin : ¬ (j < 0 ∨ cell.slots.size ≤ j.toNatClampNeg)) (hv : cell.slots[j.toNatClampNeg]? = some v) (hd : decode c.code pc = .ok (.baload, 1)) (K : Go p.tables e below G (T.setTop (mkF m (pc + 1) Ls (v :: rest)))) : Go p.tables e below G (T.setTop (mkF m (pc) Ls (.int j :: .ref a :: rest))) := K.via fun t r => X.baloadBooleans hx (g := mkF m pc Ls (.int j :: .ref a :: rest)) (by rw [eT]; exact A.1) (State.isArrayOf_alike hZ.alike A.2.1) A.2.2 hin hv rfl rfl hd t r
theorem aaload (X : Stand p l e R s m args below meth c T locs cells slots) (hx : p.tables.exec = Jvm.exec) {Z : State} {h : Heap} (hZ : Z.Warmed39 s.vm) (eT : T.heap = h) {a : Addr} {cell : Cell} {ty : FieldType} {j : Int32} (v : Value) (A : Arr Z h a cell ty) (hty : ty.isReference = true) (hin : ¬ (j < 0 ∨ cell.slots.size ≤ j.toNatClampNeg)) (hv : cell.slots[j.toNatClampNeg]? = some v) (hd : decode c.code pc = .ok (.aaload, 1)) (K : Go p.tables e below G (T.setTop (mkF m (pc + 1) Ls (v :: rest)))) : Go p.tables e below G (T.setTop (mkF m (pc) Ls (.int j :: .ref a :: rest))) := K.via fun t r => X.aaload hx (g := mkF m pc Ls (.int j :: .ref a :: rest)) (by rw [eT]; exact A.1) (State.isArrayOf_alike hZ.alike A.2.1) hty A.2.2 hin hv rfl rfl hd t r
theorem arraylength (X : Stand p l e R s m args below meth c T locs cells slots) (hx : p.tables.exec = Jvm.exec) {Z : State} {h : Heap} (hZ : Z.Warmed39 s.vm) (eT : T.heap = h) {a : Addr} {cell : Cell} {ty : FieldType} (N : Int32) (A : Arr Z h a cell ty) (hN : cell.slots.size.toInt32 = N) (hd : decode c.code pc = .ok (.arraylength, 1)) (K : Go p.tables e below G (T.setTop (mkF m (pc + 1) Ls (.int N :: rest)))) : Go p.tables e below G (T.setTop (mkF m (pc) Ls (.ref a :: rest))) := K.via fun t r => X.arraylength hx (g := mkF m pc Ls (.ref a :: rest)) (by rw [eT]; exact A.1) (State.isArrayOf_alike hZ.alike A.2.1) rfl rfl hd t (by rw [hN]; exact r)
end Steps1
section Ends
variable {p : Program} {l : Launch} {e : Env} {R : Room} {s : State} {m : MethodId} {args : Array Value} {below : List Frame} {meth : Method} {c : Code} {T : State} {locs : List Loc} {cells slots : Nat} {pc pc' : Nat} {Ls : Array Slot} {rest : List Value} {Q : Option Value → Heap → List Loc → Prop} {k n : Nat}
/-- what a narrow contract says of its end -/
abbrev EndN (s : State) (Q : Option Value → Heap → List Loc → Prop) (k n : Nat) : Outcome → State → Prop := fun o t => ∃ v L, o = .returned v ∧ Q v t.heap L ∧ FrameEnd s o t L k n
theorem fin_of (X : Stand p l e R s m args below meth c T locs cells slots) (hlk : meth.locks = false) {v : Option Value} (hv : meth.sig.returnType = none → v = none) {g : JFrame} (st : ∀ fs, (∀ (f : JFrame) (acts : List Action), f.method = m → f.locked = none → f.entered = [] → (doReturn e (T.setTop f) acts v).1 = T.setFrames fs) → Steps p.tables e below (T.setTop g) (T.setFrames fs)) (hQ : Q v T.heap locs) (hk : cells ≤ k) (hn : slots ≤ n) : Go p.tables e below (EndN s Q k n) (T.setTop g) := by
  obtain ⟨fs, hr, hrun, hended, hW, hsame⟩ := X.leave (v := v) hv hlk
  exact ⟨_, _, st fs hr, hrun, hended, _, _, rfl, hQ, ⟨_, rfl⟩, hW, hsame.mono hk hn⟩
theorem ireturn (X : Stand p l e R s m args below meth c T locs cells slots) (hx : p.tables.exec = Jvm.exec) (hlk : meth.locks = false) {z : Int32} (hret : meth.sig.returnType = some .int) (hd : decode c.code pc = .ok (.ireturn, 1)) (hQ : Q (some (.int z)) T.heap locs) (hk : cells ≤ k) (hn : slots ≤ n) : Go p.tables e below (EndN s Q k n) (T.setTop (mkF m pc Ls (.int z :: rest))) :=
  fin_of X hlk (v := some (.int z)) (fun h => by rw [hret] at h; cases h) (fun fs hr => retOut X hx hret rfl (Or.inl ⟨rfl, Or.inl rfl, z, rfl⟩) hd hr) hQ hk hn
theorem nreturn (X : Stand p l e R s m args below meth c T locs cells slots) (hx : p.tables.exec = Jvm.exec) (hlk : meth.locks = false) {z : Int32} {t : FieldType} (hret : meth.sig.returnType = some t) (ht : t = .boolean ∨ t = .byte ∨ t = .char ∨ t = .short) (hd : decode c.code pc = .ok (.ireturn, 1)) (hQ : Q (some (.int (nar t z))) T.heap locs) (hk : cells ≤ k) (hn : slots ≤ n) : Go p.tables e below (EndN s Q k n) (T.setTop (mkF m pc Ls (.int z :: rest))) :=
  fin_of X hlk (v := some (.int (nar t z))) (fun h => by rw [hret] at h; cases h) (fun fs hr => retN X hx hret ht hd hr) hQ hk hn
theorem areturn (X : Stand p l e R s m args below meth c T locs cells slots) (hx : p.tables.exec = Jvm.exec) (hlk : meth.locks = false) {w : Value} {t : FieldType} (hret : meth.sig.returnType = some t) (ht : t.isReference = true) (hw : w.isRef = true) (hna : narrow t w = w) (hd : decode c.code pc = .ok (.areturn, 1)) (hQ : Q (some w) T.heap locs) (hk : cells ≤ k) (hn : slots ≤ n) : Go p.tables e below (EndN s Q k n) (T.setTop (mkF m pc Ls (w :: rest))) :=
  fin_of X hlk (v := some w) (fun h => by rw [hret] at h; cases h) (fun fs hr => retOut X hx hret hna (Or.inr (Or.inr (Or.inr (Or.inr ⟨rfl, ht, hw⟩)))) hd hr) hQ hk hn
theorem lreturn (X : Stand p l e R s m args below meth c T locs cells slots) (hx : p.tables.exec = Jvm.exec) (hlk : meth.locks = false) {z : Int64} (hret : meth.sig.returnType = some .long) (hd : decode c.code pc = .ok (.lreturn, 1)) (hQ : Q (some (.long z)) T.heap locs) (hk : cells ≤ k) (hn : slots ≤ n) : Go p.tables e below (EndN s Q k n) (T.setTop (mkF m pc Ls (.long z :: rest))) :=
  fin_of X hlk (v := some (.long z)) (fun h => by rw [hret] at h; cases h) (fun fs hr => retOut X hx hret rfl (Or.inr (Or.inl ⟨rfl, rfl, z, rfl⟩)) hd hr) hQ hk hn
theorem vreturn (X : Stand p l e R s m args below meth c T locs cells slots) (hx : p.tables.exec = Jvm.exec) (hlk : meth.locks = false) (hret : meth.sig.returnType = none) (hd : decode c.code pc = .ok (.return_, 1)) (hQ : Q none T.heap locs) (hk : cells ≤ k) (hn : slots ≤ n) : Go p.tables e below (EndN s Q k n) (T.setTop (mkF m pc Ls [])) :=
  fin_of X hlk (v := none) (fun _ => rfl) (fun fs hr => X.returnOut hx hret hd hr) hQ hk hn
end Ends
section Pays
/-- a narrow contract: called with as' at a heap h0 the method returns v, Q v says of the heap behind -/
def Pay (l : Launch) (Z : State) (y : MethodName) (bytes : ByteArray) (maxL : Nat) (ret : Option FieldType) (rm : Room) (as' : Array Value) (h0 : Heap) (Q : Option Value → Heap → List Loc → Prop) : Prop :=
  ∀ ws : List Jvm.Cond, MetFree l y (head1 (Jvm.Cond.code y bytes maxL ret :: ws) rm) (fun a U => a = as' ∧ Z.Warmed39 U.vm ∧ U.heap = h0) (fun _ _ _ _ _ => True) (fun _ U o U' => ∃ v L, o = .returned v ∧ Q v U'.heap L ∧ FrameEnd U o U' L rm.cells rm.slots)
variable {l : Launch} {Z : State} {y : MethodName} {bytes : ByteArray} {maxL : Nat} {ret : Option FieldType} {rm : Room} {as' : Array Value} {h0 : Heap} {Q : Option Value → Heap → List Loc → Prop}
theorem Pay.of {Ls : Array Slot} (hpn : plainFor y = true) (hef : ∀ m, entryFrame m as' maxL = mkF m 0 Ls [])
    (body : ∀ (p : Program) (e : Env) (s : State) (m : MethodId) (below : List Frame) (meth : Method) (c : Code) (T : State), p.tables.exec = Jvm.exec → c.code = bytes → c.maxLocals = maxL → s.vm.findClass y.cls = some m.cls → s.methodNamed? y = some m → s.vm.method? m = some meth → Z.Warmed39 s.vm → meth.sig.returnType = ret → meth.locks = false → Stand p l e rm s m as' below meth c T [] 0 0 → T.heap = h0 →
      Go p.tables e below (EndN s Q rm.cells rm.slots) (T.setTop (mkF m 0 Ls []))) : Pay l Z y bytes maxL ret rm as' h0 Q := by
  intro ws
  refine MetFree.of_bodySF hpn hisR ?_
  intro p e s m args below meth c s₁ Bd hml0 hP hK
  obtain ⟨rfl, hZ, hh⟩ := hP
  rw [hef m]
  exact body p e s m below meth c s₁ Bd.exec Bd.bytes hml0 (findClass_of_methodNamed Bd.named) Bd.named Bd.method hZ Bd.returns Bd.notSynchronized (Stand.of_body Bd) (by rw [← hh, Bd.state]; rfl)
theorem Pay.mono {Q' : Option Value → Heap → List Loc → Prop} (P : Pay l Z y bytes maxL ret rm as' h0 Q) (h : ∀ v h L, Q v h L → Q' v h L) : Pay l Z y bytes maxL ret rm as' h0 Q' := fun ws =>
  (P ws).mono (fun _ _ q => q) (fun _ _ _ _ _ q => q) fun _ _ _ _ _ ⟨v, L, h1, h2, h3⟩ => ⟨v, L, h1, h _ _ _ h2, h3⟩
variable {p : Program} {e : Env} {R : Room} {s : State} {m : MethodId} {args : Array Value} {below : List Frame} {meth : Method} {c : Code} {T : State} {locs : List Loc} {cells slots : Nat} {G : Outcome → State → Prop} {pc : Nat} {Ls : Array Slot} {a0 : Array Value}
/-- invokestatic, by whoever pays it -/
theorem callSB (X : Stand p l e R s m args below meth c T locs cells slots) (hx : p.tables.exec = Jvm.exec) (hZ : Z.Warmed39 s.vm) {argsL rest st : List Value} {kc ks : Nat}
    (hK : Back l R p e below s args y 3 ((rest.map fun v => v.category).sum) (fun A a => a = as' ∧ A.U.heap = h0 ∧ A.cells + kc ≤ R.cells ∧ A.slots + ks ≤ R.slots) (fun A _ v B => ∃ L, Q v B.U.heap L ∧ B.locs = A.locs ++ L ∧ B.cells = A.cells + kc ∧ B.slots = A.slots + ks)) (eT : T.heap = h0) {own : String} {index : Nat} (hown : s.vm.findClass own = some m.cls)
    (wl : (Cond.methodLink own index y).before a0 Z = true) (wst : (Cond.static y).before a0 Z = true) (wz : (Cond.initialized y.cls).before a0 Z = true) (wc : (Cond.code y bytes maxL ret).before a0 Z = true)
    (hy : y.cls ≠ "java/lang/invoke/MethodHandle" ∧ y.cls ≠ "java/lang/invoke/VarHandle") {ps : List FieldType} {rt : Option FieldType} (hpd : parseMethodDescriptor y.desc = some ⟨ps, rt⟩) (hsz : Ls.size = c.maxLocals)
    (has : argsL.toArray = as') (hlen : argsL.length = ps.length) (hst : st = argsL.reverse ++ rest) (hd : decode c.code pc = .ok (.invokestatic index, 3)) (hce : cells + kc ≤ R.cells) (hsl : slots + ks ≤ R.slots)
    (K : ∀ (v : Option Value) (T' : State) (L : List Loc), Stand p l e R s m args below meth c T' (locs ++ L) (cells + kc) (slots + ks) → Q v T'.heap L → Go p.tables e below G (T'.setTop (mkF m (pc + 3) Ls (v.toList ++ rest)))) :
    Go p.tables e below G (T.setTop (mkF m pc Ls st)) := by
  obtain ⟨_, _, ⟨T1, L1, k1, n1⟩, -, X1, ⟨Lc, hQ, l1, y1, z1⟩, st1⟩ := Jvm.LawKit.callS X hx (y := y) hown (mvT hZ wl) (mvT hZ wst) (mvT hZ wz) (mvT hZ wc) hy hK (g := mkF m pc Ls st) rfl hsz (argsL := argsL) (rest := rest) (lenOf hpd hlen) hst (by show 2 * 0 + _ ≤ _; omega) hd (fun _ _ => ⟨has, eT, hce, hsl⟩)
  dsimp only [Pt.U, Pt.locs, Pt.cells, Pt.slots] at X1 l1 y1 z1 st1 hQ
  subst l1 y1 z1
  exact (K _ _ _ X1 hQ).via st1
/-- invokestatic by a narrow contract -/
theorem callS (X : Stand p l e R s m args below meth c T locs cells slots) (hx : p.tables.exec = Jvm.exec) (hZ : Z.Warmed39 s.vm) (hP : Pay l Z y bytes maxL ret rm as' h0 Q) (eT : T.heap = h0) {own : String} {index : Nat} (hown : s.vm.findClass own = some m.cls)
    (wl : (Cond.methodLink own index y).before a0 Z = true) (wst : (Cond.static y).before a0 Z = true) (wz : (Cond.initialized y.cls).before a0 Z = true) (wc : (Cond.code y bytes maxL ret).before a0 Z = true)
    (hy : y.cls ≠ "java/lang/invoke/MethodHandle" ∧ y.cls ≠ "java/lang/invoke/VarHandle") {ps : List FieldType} {rt : Option FieldType} (hpd : parseMethodDescriptor y.desc = some ⟨ps, rt⟩) (hsz : Ls.size = c.maxLocals)
    {argsL rest st : List Value} (has : argsL.toArray = as') (hlen : argsL.length = ps.length) (hst : st = argsL.reverse ++ rest) (hd : decode c.code pc = .ok (.invokestatic index, 3))
    (hf : (rm.frames + 1).ble R.frames = true) (hlo : ((rest.map fun v => v.category).sum + (maxL + 11) + rm.locals).ble R.locals = true) (hce : cells + rm.cells ≤ R.cells) (hsl : slots + rm.slots ≤ R.slots)
    (K : ∀ (v : Option Value) (T' : State) (L : List Loc), Stand p l e R s m args below meth c T' (locs ++ L) (cells + rm.cells) (slots + rm.slots) → Q v T'.heap L → Go p.tables e below G (T'.setTop (mkF m (pc + 3) Ls (v.toList ++ rest)))) :
    Go p.tables e below G (T.setTop (mkF m pc Ls st)) :=
  callSB X hx hZ (backOf (W := (rest.map fun v => v.category).sum) (hP []) hZ wc wz (Nat.le_of_ble_eq_true hf) (Nat.le_of_ble_eq_true hlo)) eT hown wl wst wz wc hy hpd hsz has hlen hst hd hce hsl K
/-- .. that moves nothing -/
theorem callSP (X : Stand p l e R s m args below meth c T locs cells slots) (hx : p.tables.exec = Jvm.exec) (hZ : Z.Warmed39 s.vm) {r : Option Value} (hP : Pay l Z y bytes maxL ret rm as' h0 (fun v h L => v = r ∧ h = h0 ∧ L = [])) (h0c : rm.cells = 0) (h0s : rm.slots = 0) (eT : T.heap = h0) {own : String} {index : Nat} (hown : s.vm.findClass own = some m.cls)
    (wl : (Cond.methodLink own index y).before a0 Z = true) (wst : (Cond.static y).before a0 Z = true) (wz : (Cond.initialized y.cls).before a0 Z = true) (wc : (Cond.code y bytes maxL ret).before a0 Z = true)
    (hy : y.cls ≠ "java/lang/invoke/MethodHandle" ∧ y.cls ≠ "java/lang/invoke/VarHandle") {ps : List FieldType} {rt : Option FieldType} (hpd : parseMethodDescriptor y.desc = some ⟨ps, rt⟩) (hsz : Ls.size = c.maxLocals)
    {argsL rest st : List Value} (has : argsL.toArray = as') (hlen : argsL.length = ps.length) (hst : st = argsL.reverse ++ rest) (hd : decode c.code pc = .ok (.invokestatic index, 3))
    (hf : (rm.frames + 1).ble R.frames = true) (hlo : ((rest.map fun v => v.category).sum + (maxL + 11) + rm.locals).ble R.locals = true) (hce : cells ≤ R.cells) (hsl : slots ≤ R.slots)
    (K : ∀ (T' : State), Stand p l e R s m args below meth c T' locs cells slots → T'.heap = h0 → Go p.tables e below G (T'.setTop (mkF m (pc + 3) Ls (r.toList ++ rest)))) :
    Go p.tables e below G (T.setTop (mkF m pc Ls st)) := by
  refine callS X hx hZ hP eT hown wl wst wz wc hy hpd hsz has hlen hst hd hf hlo (by rw [h0c]; exact hce) (by rw [h0s]; exact hsl) ?_
  rintro v T' L X' ⟨rfl, hh, rfl⟩
  rw [h0c, h0s, List.append_nil] at X'
  exact K T' X' hh
end Pays
end Jvm.Ow
namespace Jvm.Ow
open Sem ClassFile Op Lib Jvm.Stand Jvm.Free Jvm.LawKit Jvm.RoadKit
section Heaps
variable {p : Program} {l : Launch} {e : Env} {R : Room} {s : State} {m : MethodId} {args : Array Value} {below : List Frame} {meth : Method} {c : Code} {T : State} {locs : List Loc} {cells slots : Nat} {G : Outcome → State → Prop} {pc pc' : Nat} {Ls : Array Slot} {rest : List Value} {Z : State} {a0 : Array Value} {h : Heap}
theorem new_ (X : Stand p l e R s m args below meth c T locs cells slots) (hx : p.tables.exec = Jvm.exec) (hZ : Z.Warmed39 s.vm) {own C : String} {index n : Nat} (hown : s.vm.findClass own = some m.cls) (w : (Cond.classLink own index C).before a0 Z = true) (wi : (Cond.instantiable C n).before a0 Z = true) (wz : (Cond.initialized C).before a0 Z = true) (eT : T.heap = h)
    (hd : decode c.code pc = .ok (.new index, 3)) (hc : cells + 1 ≤ R.cells) (hl : slots + n ≤ R.slots)
    (K : ∀ T' h' (a : Addr), a = h.size → Stand p l e R s m args below meth c T' locs (cells + 1) (slots + n) → T'.heap = h' → Ext h h' → Exa Z h' a C → (∀ {O nm d : String} {ty : FieldType}, Laid Z a0 C O nm d → parseFieldDescriptor d = some ty → Fld Z h' a O nm d (defaultValue ty)) → (∃ cell : Cell, h'[a]? = some cell ∧ cell.vm = .none ∧ cell.monitor = {}) →
      Go p.tables e below G (T'.setTop (mkF m (pc + 3) Ls (.ref a :: rest)))) : Go p.tables e below G (T.setTop (mkF m pc Ls rest)) := by
  obtain ⟨T', h', X', e', E, A, D, U, st⟩ := newO X hx hZ hown w wi wz eT (g := mkF m pc Ls rest) rfl hd hc hl
  exact (K T' h' _ rfl X' e' E A D U).via st
theorem newarray (X : Stand p l e R s m args below meth c T locs cells slots) (hx : p.tables.exec = Jvm.exec) (hZ : Z.Warmed39 s.vm) {aty : ArrayType} (w : (Cond.arrayClass (newarray.typeOf aty)).before a0 Z = true) (eT : T.heap = h) (cap : Nat) {n : Int32}
    (hd : decode c.code pc = .ok (.newarray aty, 2)) (hn : ¬ n < 0) (hcap : n.toNatClampNeg ≤ cap) (hb : cap * 8 ≤ 536870912) (hc : cells + 1 ≤ R.cells) (hl : slots + cap ≤ R.slots)
    (K : ∀ T' h' cA (a : Addr), a = h.size → Stand p l e R s m args below meth c T' locs (cells + 1) (slots + cap) → T'.heap = h' → Ext h h' → Arr Z h' a (newA cA (newarray.typeOf aty) n) (newarray.typeOf aty) →
      Go p.tables e below G (T'.setTop (mkF m (pc + 2) Ls (.ref a :: rest)))) : Go p.tables e below G (T.setTop (mkF m pc Ls (.int n :: rest))) := by
  obtain ⟨T', h', cA, X', e', E, A, st⟩ := newP X hx hZ w eT (g := mkF m pc Ls (.int n :: rest)) rfl hd rfl hn hcap hb hc hl
  exact (K T' h' cA _ rfl X' e' E A).via st
theorem getfield (X : Stand p l e R s m args below meth c T locs cells slots) (hx : p.tables.exec = Jvm.exec) (hZ : Z.Warmed39 s.vm) {own R0 O n d : String} {index : Nat} (hown : s.vm.findClass own = some m.cls) (w : (Cond.fieldLink own index R0 n d).before a0 Z = true) (via : Via Z R0 O n d) (eT : T.heap = h) {a : Addr} {v : Value} (F : Fld Z h a O n d v)
    (hd : decode c.code pc = .ok (.getfield index, 3)) (K : ∀ T', Stand p l e R s m args below meth c T' locs cells slots → T'.heap = h → Go p.tables e below G (T'.setTop (mkF m (pc + 3) Ls (v :: rest)))) : Go p.tables e below G (T.setTop (mkF m pc Ls (.ref a :: rest))) := by
  obtain ⟨T', X', e', st⟩ := getF X hx hZ hown (host := "") (Or.inl w) via eT F (g := mkF m pc Ls (.ref a :: rest)) rfl rfl hd
  exact (K T' X' e').via st
theorem putfield (X : Stand p l e R s m args below meth c T locs cells slots) (hx : p.tables.exec = Jvm.exec) (hZ : Z.Warmed39 s.vm) {own R0 O n d C : String} {index kk : Nat} {ty : FieldType} (hown : s.vm.findClass own = some m.cls) (w : (Cond.fieldLink own index R0 n d).before a0 Z = true) (via : Via Z R0 O n d)
    (eT : T.heap = h) {a : Addr} {v old : Value} (F : Fld Z h a O n d old) (E : Exa Z h a C) (L : (Cond.lays C O n d).before a0 Z = true ∨ ((Cond.laysFinal C O n d).before a0 Z = true ∧ own = O ∧ meth.name = "<init>")) (wi : (Cond.instantiable C kk).before a0 Z = true)
    (hty : parseFieldDescriptor d = some ty) (hn : narrow ty v = v) (hf : fits ty v = true) (hd : decode c.code pc = .ok (.putfield index, 3))
    (K : ∀ T' h', Stand p l e R s m args below meth c T' (locs ++ [⟨a, RoadKit.slotOf Z O n d⟩]) cells slots → T'.heap = h' → Wr h h' a (RoadKit.slotOf Z O n d) v → Go p.tables e below G (T'.setTop (mkF m (pc + 3) Ls rest))) : Go p.tables e below G (T.setTop (mkF m pc Ls (v :: .ref a :: rest))) := by
  obtain ⟨T', h', X', e', W, st⟩ := putF X hx hZ hown (host := "") (Or.inl w) via eT F E L wi hty hn hf (g := mkF m pc Ls (v :: .ref a :: rest)) rfl rfl hd
  exact (K T' h' X' e' W).via st
theorem getstatic (X : Stand p l e R s m args below meth c T locs cells slots) (hx : p.tables.exec = Jvm.exec) (hZ : Z.Warmed39 s.vm) {own R0 O n d : String} {index : Nat} (hown : s.vm.findClass own = some m.cls) (w : (Cond.fieldLink own index R0 n d).before a0 Z = true) (via : Via Z R0 O n d) (eT : T.heap = h) {v : Value} (F : Sta Z h O n d v)
    (hd : decode c.code pc = .ok (.getstatic index, 3)) (K : ∀ T', Stand p l e R s m args below meth c T' locs cells slots → T'.heap = h → Go p.tables e below G (T'.setTop (mkF m (pc + 3) Ls (v :: rest)))) : Go p.tables e below G (T.setTop (mkF m pc Ls rest)) := by
  obtain ⟨T', X', e', st⟩ := getS (host := "") X hx hZ hown w via eT F (g := mkF m pc Ls rest) rfl hd
  exact (K T' X' e').via st
theorem objinit (X : Stand p l e R s m args below meth c T locs cells slots) (hx : p.tables.exec = Jvm.exec) (hZ : Z.Warmed39 s.vm) {own : String} {idx : Nat} (hown : s.vm.findClass own = some m.cls) (w1 : (Cond.methodLink own idx Lib.objectInit).before a0 Z = true) (w2 : (Cond.instanceMethod Lib.objectInit).before a0 Z = true)
    (w3 : (Cond.code Lib.objectInit ⟨#[0xb1]⟩ 1 none).before a0 Z = true) (eT : T.heap = h) (hsz : Ls.size = c.maxLocals) {a : Addr} (hd : decode c.code pc = .ok (.invokespecial idx, 3)) (hf : (1 : Nat).ble R.frames = true) (hl : ((rest.map fun v => v.category).sum + 12).ble R.locals = true)
    (K : ∀ T', Stand p l e R s m args below meth c T' locs cells slots → T'.heap = h → Go p.tables e below G (T'.setTop (mkF m (pc + 3) Ls rest))) : Go p.tables e below G (T.setTop (mkF m pc Ls (.ref a :: rest))) := by
  obtain ⟨T', X', e', st⟩ := initO X hx hZ hown w1 w2 w3 eT (g := mkF m pc Ls (.ref a :: rest)) rfl hsz rfl hd (Nat.le_of_ble_eq_true hf) (W := (rest.map fun v => v.category).sum) (by show 2 * 0 + _ ≤ _; omega) (Nat.le_of_ble_eq_true hl)
  exact (K T' X' e').via st
theorem castore (X : Stand p l e R s m args below meth c T locs cells slots) (hx : p.tables.exec = Jvm.exec) (hZ : Z.Warmed39 s.vm) (eT : T.heap = h) {a : Addr} {cl : Cell} (A : Arr Z h a cl .char) {j x : Int32} (hj : ¬ (j < 0 ∨ cl.slots.size ≤ j.toNatClampNeg)) (hd : decode c.code pc = .ok (.castore, 1))
    (K : ∀ T' h', Stand p l e R s m args below meth c T' (locs ++ [⟨a, j.toNatClampNeg⟩]) cells slots → T'.heap = h' → Wr h h' a j.toNatClampNeg (.int (nar .char x)) → Go p.tables e below G (T'.setTop (mkF m (pc + 1) Ls rest))) : Go p.tables e below G (T.setTop (mkF m pc Ls (.int x :: .int j :: .ref a :: rest))) := by
  obtain ⟨T', h', X', e', W, st⟩ := stC X hx hZ eT A hj (g := mkF m pc Ls (.int x :: .int j :: .ref a :: rest)) rfl rfl hd
  exact (K T' h' X' e' W).via st
theorem bastore (X : Stand p l e R s m args below meth c T locs cells slots) (hx : p.tables.exec = Jvm.exec) (hZ : Z.Warmed39 s.vm) (eT : T.heap = h) {a : Addr} {cl : Cell} (A : Arr Z h a cl .byte) {j x : Int32} (hj : ¬ (j < 0 ∨ cl.slots.size ≤ j.toNatClampNeg)) (hd : decode c.code pc = .ok (.bastore, 1))
    (K : ∀ T' h', Stand p l e R s m args below meth c T' (locs ++ [⟨a, j.toNatClampNeg⟩]) cells slots → T'.heap = h' → Wr h h' a j.toNatClampNeg (.int (nar .byte x)) → Go p.tables e below G (T'.setTop (mkF m (pc + 1) Ls rest))) : Go p.tables e below G (T.setTop (mkF m pc Ls (.int x :: .int j :: .ref a :: rest))) := by
  obtain ⟨T', h', X', e', W, st⟩ := stB X hx hZ eT A hj (g := mkF m pc Ls (.int x :: .int j :: .ref a :: rest)) rfl rfl hd
  exact (K T' h' X' e' W).via st
theorem zastore (X : Stand p l e R s m args below meth c T locs cells slots) (hx : p.tables.exec = Jvm.exec) (hZ : Z.Warmed39 s.vm) (eT : T.heap = h) {a : Addr} {cl : Cell} (A : Arr Z h a cl .boolean) {j x : Int32} (hj : ¬ (j < 0 ∨ cl.slots.size ≤ j.toNatClampNeg)) (hd : decode c.code pc = .ok (.bastore, 1))
    (K : ∀ T' h', Stand p l e R s m args below meth c T' (locs ++ [⟨a, j.toNatClampNeg⟩]) cells slots → T'.heap = h' → Wr h h' a j.toNatClampNeg (.int (nar .boolean x)) → Go p.tables e below G (T'.setTop (mkF m (pc + 1) Ls rest))) : Go p.tables e below G (T.setTop (mkF m pc Ls (.int x :: .int j :: .ref a :: rest))) := by
  obtain ⟨T', h', X', e', W, st⟩ := stZ X hx hZ eT A hj (g := mkF m pc Ls (.int x :: .int j :: .ref a :: rest)) rfl rfl hd
  exact (K T' h' X' e' W).via st
theorem iastore (X : Stand p l e R s m args below meth c T locs cells slots) (hx : p.tables.exec = Jvm.exec) (hZ : Z.Warmed39 s.vm) (eT : T.heap = h) {a : Addr} {cl : Cell} (A : Arr Z h a cl .int) {j x : Int32} (hj : ¬ (j < 0 ∨ cl.slots.size ≤ j.toNatClampNeg)) (hd : decode c.code pc = .ok (.iastore, 1))
    (K : ∀ T' h', Stand p l e R s m args below meth c T' (locs ++ [⟨a, j.toNatClampNeg⟩]) cells slots → T'.heap = h' → Wr h h' a j.toNatClampNeg (.int x) → Go p.tables e below G (T'.setTop (mkF m (pc + 1) Ls rest))) : Go p.tables e below G (T.setTop (mkF m pc Ls (.int x :: .int j :: .ref a :: rest))) := by
  obtain ⟨T', h', X', e', W, st⟩ := stI X hx hZ eT A hj (g := mkF m pc Ls (.int x :: .int j :: .ref a :: rest)) rfl rfl hd
  exact (K T' h' X' e' W).via st
theorem checkcast (X : Stand p l e R s m args below meth c T locs cells slots) (hx : p.tables.exec = Jvm.exec) (hZ : Z.Warmed39 s.vm) {own K0 : String} {index : Nat} (hown : s.vm.findClass own = some m.cls) (w : (Cond.classLink own index K0).before a0 Z = true) (eT : T.heap = h) {a : Addr} (F : Ins Z h a K0 true) (hd : decode c.code pc = .ok (.checkcast index, 3))
    (K : ∀ T', Stand p l e R s m args below meth c T' locs cells slots → T'.heap = h → Go p.tables e below G (T'.setTop (mkF m (pc + 3) Ls (.ref a :: rest)))) : Go p.tables e below G (T.setTop (mkF m pc Ls (.ref a :: rest))) := by
  obtain ⟨T', X', e', st⟩ := castY X hx hZ hown w eT F (g := mkF m pc Ls (.ref a :: rest)) rfl rfl hd
  exact (K T' X' e').via st
theorem instanceofY (X : Stand p l e R s m args below meth c T locs cells slots) (hx : p.tables.exec = Jvm.exec) (hZ : Z.Warmed39 s.vm) {own K0 : String} {index : Nat} (hown : s.vm.findClass own = some m.cls) (w : (Cond.classLink own index K0).before a0 Z = true) (eT : T.heap = h) {a : Addr} (F : Ins Z h a K0 true) (hd : decode c.code pc = .ok (.instanceof index, 3))
    (K : ∀ T', Stand p l e R s m args below meth c T' locs cells slots → T'.heap = h → Go p.tables e below G (T'.setTop (mkF m (pc + 3) Ls (.int 1 :: rest)))) : Go p.tables e below G (T.setTop (mkF m pc Ls (.ref a :: rest))) := by
  obtain ⟨T', X', e', st⟩ := instY X hx hZ hown w eT F (g := mkF m pc Ls (.ref a :: rest)) rfl rfl hd
  exact (K T' X' e').via st
end Heaps
section Calls
variable {l : Launch} {Z : State} {y : MethodName} {bytes : ByteArray} {maxL : Nat} {ret : Option FieldType} {rm : Room} {as' : Array Value} {h0 : Heap} {Q : Option Value → Heap → List Loc → Prop}
variable {p : Program} {e : Env} {R : Room} {s : State} {m : MethodId} {args : Array Value} {below : List Frame} {meth : Method} {c : Code} {T : State} {locs : List Loc} {cells slots : Nat} {G : Outcome → State → Prop} {pc : Nat} {Ls : Array Slot} {a0 : Array Value}
/-- invokespecial of a constructor, by whoever pays it -/
theorem callIB (X : Stand p l e R s m args below meth c T locs cells slots) (hx : p.tables.exec = Jvm.exec) (hZ : Z.Warmed39 s.vm) {a : Addr} {argsL rest st : List Value} {kc ks : Nat}
    (hK : Back l R p e below s args y 3 ((rest.map fun v => v.category).sum) (fun A a => a = as' ∧ A.U.heap = h0 ∧ A.cells + kc ≤ R.cells ∧ A.slots + ks ≤ R.slots) (fun A _ v B => ∃ L, Q v B.U.heap L ∧ B.locs = A.locs ++ L ∧ B.cells = A.cells + kc ∧ B.slots = A.slots + ks)) (eT : T.heap = h0) (hni : y.name = "<init>") {own : String} {index : Nat} (hown : s.vm.findClass own = some m.cls)
    (wl : (Cond.methodLink own index y).before a0 Z = true) (win : (Cond.instanceMethod y).before a0 Z = true) (wc : (Cond.code y bytes maxL none).before a0 Z = true)
    (hy : y.cls ≠ "java/lang/invoke/MethodHandle" ∧ y.cls ≠ "java/lang/invoke/VarHandle") {ps : List FieldType} {rt : Option FieldType} (hpd : parseMethodDescriptor y.desc = some ⟨ps, rt⟩) (hsz : Ls.size = c.maxLocals)
    (has : (.ref a :: argsL).toArray = as') (hlen : argsL.length = ps.length) (hst : st = argsL.reverse ++ .ref a :: rest) (hd : decode c.code pc = .ok (.invokespecial index, 3)) (hce : cells + kc ≤ R.cells) (hsl : slots + ks ≤ R.slots)
    (K : ∀ (v : Option Value) (T' : State) (L : List Loc), Stand p l e R s m args below meth c T' (locs ++ L) (cells + kc) (slots + ks) → Q v T'.heap L → Go p.tables e below G (T'.setTop (mkF m (pc + 3) Ls (v.toList ++ rest)))) :
    Go p.tables e below G (T.setTop (mkF m pc Ls st)) := by
  obtain ⟨_, _, ⟨T1, L1, k1, n1⟩, -, X1, ⟨Lc, hQ, l1, y1, z1⟩, st1⟩ := X.specialBack hx (y := y) hni hown (mvT hZ wl) (mvT hZ win) (mvT hZ wc) hy hK (g := mkF m pc Ls st) rfl hsz (Steps.refl _) (a := a) (argsL := argsL) (rest := rest) (lenOf hpd hlen) hst (by show 2 * 0 + _ ≤ _; omega) hd (fun _ _ => ⟨has, eT, hce, hsl⟩)
  dsimp only [Pt.U, Pt.locs, Pt.cells, Pt.slots] at X1 l1 y1 z1 st1 hQ
  subst l1 y1 z1
  exact (K _ _ _ X1 hQ).thru st1
/-- invokespecial of a constructor by a narrow contract -/
theorem callI (X : Stand p l e R s m args below meth c T locs cells slots) (hx : p.tables.exec = Jvm.exec) (hZ : Z.Warmed39 s.vm) (hP : Pay l Z y bytes maxL none rm as' h0 Q) (eT : T.heap = h0) (hni : y.name = "<init>") {own : String} {index : Nat} (hown : s.vm.findClass own = some m.cls)
    (wl : (Cond.methodLink own index y).before a0 Z = true) (win : (Cond.instanceMethod y).before a0 Z = true) (wz : (Cond.initialized y.cls).before a0 Z = true) (wc : (Cond.code y bytes maxL none).before a0 Z = true)
    (hy : y.cls ≠ "java/lang/invoke/MethodHandle" ∧ y.cls ≠ "java/lang/invoke/VarHandle") {ps : List FieldType} {rt : Option FieldType} (hpd : parseMethodDescriptor y.desc = some ⟨ps, rt⟩) (hsz : Ls.size = c.maxLocals)
    {a : Addr} {argsL rest st : List Value} (has : (.ref a :: argsL).toArray = as') (hlen : argsL.length = ps.length) (hst : st = argsL.reverse ++ .ref a :: rest) (hd : decode c.code pc = .ok (.invokespecial index, 3))
    (hf : (rm.frames + 1).ble R.frames = true) (hlo : ((rest.map fun v => v.category).sum + (maxL + 11) + rm.locals).ble R.locals = true) (hce : cells + rm.cells ≤ R.cells) (hsl : slots + rm.slots ≤ R.slots)
    (K : ∀ (v : Option Value) (T' : State) (L : List Loc), Stand p l e R s m args below meth c T' (locs ++ L) (cells + rm.cells) (slots + rm.slots) → Q v T'.heap L → Go p.tables e below G (T'.setTop (mkF m (pc + 3) Ls (v.toList ++ rest)))) :
    Go p.tables e below G (T.setTop (mkF m pc Ls st)) :=
  callIB X hx hZ (backOf (W := (rest.map fun v => v.category).sum) (hP []) hZ wc wz (Nat.le_of_ble_eq_true hf) (Nat.le_of_ble_eq_true hlo)) eT hni hown wl win wc hy hpd hsz has hlen hst hd hce hsl K
/-- invokevirtual, by whoever pays it: x is named, y is selected -/
theorem callVB (X : Stand p l e R s m args below meth c T locs cells slots) (hx : p.tables.exec = Jvm.exec) (hZ : Z.Warmed39 s.vm) {a : Addr} {argsL rest st : List Value} {kc ks : Nat}
    (hK : Back l R p e below s args y 3 ((rest.map fun v => v.category).sum) (fun A a => a = as' ∧ A.U.heap = h0 ∧ A.cells + kc ≤ R.cells ∧ A.slots + ks ≤ R.slots) (fun A _ v B => ∃ L, Q v B.U.heap L ∧ B.locs = A.locs ++ L ∧ B.cells = A.cells + kc ∧ B.slots = A.slots + ks)) (eT : T.heap = h0) {C : String} {own : String} {index : Nat} (hown : s.vm.findClass own = some m.cls)
    (wl : (Cond.methodLink own index y).before a0 Z = true) (wd : (Cond.declares y).before a0 Z = true) (wse : (Cond.selects C y y).before a0 Z = true) (win : (Cond.instanceMethod y).before a0 Z = true)
    (hy : y.cls ≠ "java/lang/invoke/MethodHandle" ∧ y.cls ≠ "java/lang/invoke/VarHandle") {ps : List FieldType} {rt : Option FieldType} (hpd : parseMethodDescriptor y.desc = some ⟨ps, rt⟩) (hsz : Ls.size = c.maxLocals)
    (E : Exa Z h0 a C) (has : (.ref a :: argsL).toArray = as') (hlen : argsL.length = ps.length) (hst : st = argsL.reverse ++ .ref a :: rest) (hd : decode c.code pc = .ok (.invokevirtual index, 3)) (hce : cells + kc ≤ R.cells) (hsl : slots + ks ≤ R.slots)
    (K : ∀ (v : Option Value) (T' : State) (L : List Loc), Stand p l e R s m args below meth c T' (locs ++ L) (cells + kc) (slots + ks) → Q v T'.heap L → Go p.tables e below G (T'.setTop (mkF m (pc + 3) Ls (v.toList ++ rest)))) :
    Go p.tables e below G (T.setTop (mkF m pc Ls st)) := by
  obtain ⟨cq, kq, qa, qb, qc⟩ := isOf hZ eT E
  obtain ⟨_, _, ⟨T1, L1, k1, n1⟩, -, X1, ⟨Lc, hQ, l1, y1, z1⟩, st1⟩ := X.virtualBack hx (y := y) (z := y) hown (mvT hZ wl) (mvT hZ wd) (notFace_of_selects (args := #[]) (mvT hZ wse)) (mvT hZ wse) (mvT hZ win) hy hK qa qc (g := mkF m pc Ls st) rfl hsz (Steps.refl _) (argsL := argsL) (rest := rest) (lenOf hpd hlen) hst (by show 2 * 0 + _ ≤ _; omega) hd (fun _ _ => ⟨has, eT, hce, hsl⟩)
  dsimp only [Pt.U, Pt.locs, Pt.cells, Pt.slots] at X1 l1 y1 z1 st1 hQ
  subst l1 y1 z1
  exact (K _ _ _ X1 hQ).thru st1
/-- invokevirtual by a narrow contract -/
theorem callV (X : Stand p l e R s m args below meth c T locs cells slots) (hx : p.tables.exec = Jvm.exec) (hZ : Z.Warmed39 s.vm) (hP : Pay l Z y bytes maxL ret rm as' h0 Q) (eT : T.heap = h0) {C : String} {own : String} {index : Nat} (hown : s.vm.findClass own = some m.cls)
    (wl : (Cond.methodLink own index y).before a0 Z = true) (wd : (Cond.declares y).before a0 Z = true) (wse : (Cond.selects C y y).before a0 Z = true) (win : (Cond.instanceMethod y).before a0 Z = true) (wz : (Cond.initialized y.cls).before a0 Z = true) (wc : (Cond.code y bytes maxL ret).before a0 Z = true)
    (hy : y.cls ≠ "java/lang/invoke/MethodHandle" ∧ y.cls ≠ "java/lang/invoke/VarHandle") {ps : List FieldType} {rt : Option FieldType} (hpd : parseMethodDescriptor y.desc = some ⟨ps, rt⟩) (hsz : Ls.size = c.maxLocals)
    {a : Addr} (E : Exa Z h0 a C) {argsL rest st : List Value} (has : (.ref a :: argsL).toArray = as') (hlen : argsL.length = ps.length) (hst : st = argsL.reverse ++ .ref a :: rest) (hd : decode c.code pc = .ok (.invokevirtual index, 3))
    (hf : (rm.frames + 1).ble R.frames = true) (hlo : ((rest.map fun v => v.category).sum + (maxL + 11) + rm.locals).ble R.locals = true) (hce : cells + rm.cells ≤ R.cells) (hsl : slots + rm.slots ≤ R.slots)
    (K : ∀ (v : Option Value) (T' : State) (L : List Loc), Stand p l e R s m args below meth c T' (locs ++ L) (cells + rm.cells) (slots + rm.slots) → Q v T'.heap L → Go p.tables e below G (T'.setTop (mkF m (pc + 3) Ls (v.toList ++ rest)))) :
    Go p.tables e below G (T.setTop (mkF m pc Ls st)) :=
  callVB X hx hZ (backOf (W := (rest.map fun v => v.category).sum) (hP []) hZ wc wz (Nat.le_of_ble_eq_true hf) (Nat.le_of_ble_eq_true hlo)) eT hown wl wd wse win hy hpd hsz E has hlen hst hd hce hsl K
/-- .. that moves nothing -/
theorem callVP (X : Stand p l e R s m args below meth c T locs cells slots) (hx : p.tables.exec = Jvm.exec) (hZ : Z.Warmed39 s.vm) {r : Option Value} (hP : Pay l Z y bytes maxL ret rm as' h0 (fun v h L => v = r ∧ h = h0 ∧ L = [])) (h0c : rm.cells = 0) (h0s : rm.slots = 0) (eT : T.heap = h0) {C : String} {own : String} {index : Nat} (hown : s.vm.findClass own = some m.cls)
    (wl : (Cond.methodLink own index y).before a0 Z = true) (wd : (Cond.declares y).before a0 Z = true) (wse : (Cond.selects C y y).before a0 Z = true) (win : (Cond.instanceMethod y).before a0 Z = true) (wz : (Cond.initialized y.cls).before a0 Z = true) (wc : (Cond.code y bytes maxL ret).before a0 Z = true)
    (hy : y.cls ≠ "java/lang/invoke/MethodHandle" ∧ y.cls ≠ "java/lang/invoke/VarHandle") {ps : List FieldType} {rt : Option FieldType} (hpd : parseMethodDescriptor y.desc = some ⟨ps, rt⟩) (hsz : Ls.size = c.maxLocals)
    {a : Addr} (E : Exa Z h0 a C) {argsL rest st : List Value} (has : (.ref a :: argsL).toArray = as') (hlen : argsL.length = ps.length) (hst : st = argsL.reverse ++ .ref a :: rest) (hd : decode c.code pc = .ok (.invokevirtual index, 3))
    (hf : (rm.frames + 1).ble R.frames = true) (hlo : ((rest.map fun v => v.category).sum + (maxL + 11) + rm.locals).ble R.locals = true) (hce : cells ≤ R.cells) (hsl : slots ≤ R.slots)
    (K : ∀ (T' : State), Stand p l e R s m args below meth c T' locs cells slots → T'.heap = h0 → Go p.tables e below G (T'.setTop (mkF m (pc + 3) Ls (r.toList ++ rest)))) :
    Go p.tables e below G (T.setTop (mkF m pc Ls st)) := by
  refine callV X hx hZ hP eT hown wl wd wse win wz wc hy hpd hsz E has hlen hst hd hf hlo (by rw [h0c]; exact hce) (by rw [h0s]; exact hsl) ?_
  rintro v T' L X' ⟨rfl, hh, rfl⟩
  rw [h0c, h0s, List.append_nil] at X'
  exact K T' X' hh
end Calls
end Jvm.Ow
namespace Jvm.Ow
open Sem ClassFile Op Lib Jvm.Stand Jvm.Free Jvm.LawKit Jvm.RoadKit
/-- an array whose slots are known, one by one -/
def AL (Z : State) (h : Heap) (a : Addr) (k : ClassId) (ty : FieldType) (vs : List Value) : Prop := ∃ c : Cell, Arr Z h a c ty ∧ c.cls = k ∧ c.slots = vs.toArray
/-- what has moved from h0 to h: the cells ws and new ones -/
def Eff (h0 h : Heap) (ws : List Addr) (L : List Loc) : Prop := Keep h0 h ws ∧ ∀ y ∈ L, y.base ∈ ws ∨ h0.size ≤ y.base
section ALs
variable {Z : State} {h h' h0 : Heap} {a b : Addr} {k : ClassId} {ty : FieldType} {vs : List Value} {v : Value} {ws ws' : List Addr} {L L' : List Loc} {sl : Nat} {C n d : String}
theorem AL.lt (A : AL Z h a k ty vs) : a < h.size := by obtain ⟨c, A, -⟩ := A; exact A.lt
theorem AL.ext (A : AL Z h a k ty vs) (E : Ext h h') : AL Z h' a k ty vs := by obtain ⟨c, A, r⟩ := A; exact ⟨c, A.ext E, r⟩
theorem AL.other (A : AL Z h b k ty vs) (W : Wr h h' a sl v) (q : b ≠ a) : AL Z h' b k ty vs := by obtain ⟨c, A, r⟩ := A; exact ⟨c, A.other W q, r⟩
theorem AL.keep (A : AL Z h a k ty vs) (K : Keep h h' ws) (q : a ∉ ws) : AL Z h' a k ty vs := by obtain ⟨c, A, r⟩ := A; exact ⟨c, ⟨K.2.1 a c A.1 q, A.2⟩, r⟩
theorem AL.new {z : Int32} (A : Arr Z h a (newA k ty z) ty) (vs : List Value) (q : List.replicate z.toNatClampNeg (defaultValue ty) = vs) : AL Z h a k ty vs := ⟨_, A, rfl, by rw [← q]; simp [newA]⟩
theorem AL.set (A : AL Z h a k ty vs) {i : Nat} (W : Wr h h' a i v) (vs' : List Value) (q : vs.set i v = vs') : AL Z h' a k ty vs' := by
  obtain ⟨c, A, r1, r2⟩ := A
  refine ⟨_, A.same W, r1, ?_⟩
  show c.slots.setIfInBounds i v = _
  rw [r2, ← q]; simp
theorem AL.arr (A : AL Z h a k ty vs) : ∃ c : Cell, Arr Z h a c ty ∧ c.cls = k ∧ c.slots.size = vs.length ∧ ∀ i : Nat, c.slots[i]? = vs[i]? := by
  obtain ⟨c, A, r1, r2⟩ := A
  exact ⟨c, A, r1, by rw [r2]; simp, fun i => by rw [r2]; simp⟩
theorem AL.arv (A : AL Z h a k ty vs) {z : Int32} {dv : Value} (hz : ¬ z < 0) (hl : z.toNatClampNeg = vs.length) (hf : ∀ v ∈ vs, fits ty v = true) : Arv Z h a k ty z vs dv := by
  obtain ⟨c, A, r1, r2, r3⟩ := A.arr
  refine ⟨c, A, r1, by rw [r2, hl], hz, fun i hi => ?_, fun i hi => ?_⟩
  · rw [r3, List.getD_eq_getElem?_getD, List.getElem?_eq_getElem (by omega)]; rfl
  · rw [List.getD_eq_getElem?_getD, List.getElem?_eq_getElem (by omega)]; exact hf _ (List.getElem_mem _)
theorem AL.of_arv {z : Int32} {dv : Value} (A : Arv Z h a k ty z vs dv) (hl : z.toNatClampNeg = vs.length) : AL Z h a k ty vs := by
  obtain ⟨c, A, r1, r2, r3, H, -⟩ := A
  refine ⟨c, A, r1, Array.ext_getElem? fun i => ?_⟩
  by_cases q : i < c.slots.size
  · rw [H i q, List.getD_eq_getElem?_getD]
    have : i < vs.length := by omega
    simp [this]
  · rw [Array.getElem?_eq_none (by omega)]
    have : vs.length ≤ i := by omega
    simp [this]
theorem Eff.refl (h : Heap) (ws : List Addr) : Eff h h ws [] := ⟨Keep.refl h ws, fun _ q => nomatch q⟩
theorem Eff.size (F : Eff h0 h ws L) : h0.size ≤ h.size := F.1.1
theorem Eff.ext (F : Eff h0 h ws L) (E : Ext h h') : Eff h0 h' ws L := ⟨F.1.ext E, F.2⟩
theorem Eff.wr (F : Eff h0 h ws L) (W : Wr h h' a sl v) (q : a ∈ ws ∨ h0.size ≤ a) : Eff h0 h' ws (L ++ [⟨a, sl⟩]) := ⟨F.1.wr W q, fun y hy => by
  rcases List.mem_append.mp hy with hy | hy
  · exact F.2 y hy
  · cases List.mem_singleton.mp hy; exact q⟩
theorem Eff.call (F : Eff h0 h ws L) (F' : Eff h h' ws' L') (q : ∀ x ∈ ws', x ∈ ws ∨ h0.size ≤ x) : Eff h0 h' ws (L ++ L') := ⟨F.1.trans F'.1 q, fun y hy => by
  rcases List.mem_append.mp hy with hy | hy
  · exact F.2 y hy
  · rcases F'.2 y hy with r | r
    · exact q _ r
    · exact Or.inr (Nat.le_trans F.1.1 r)⟩
theorem Eff.app0 (F : Eff h0 h ws L) : Eff h0 h ws (L ++ []) := by rw [List.append_nil]; exact F
theorem Eff.fr (F : Eff h0 h [] L) : Fr h0.size L := fun y hy => (F.2 y hy).elim (fun q => nomatch q) id
theorem Eff.keep (F : Eff h0 h ws L) : Keep h0 h ws := F.1
theorem ext_ne (q : a < h.size) : a ≠ h.size := Nat.ne_of_lt q
theorem Keep.ext0 (K : Keep h h' []) : Ext h h' := ⟨K.1, fun x c q => K.2.1 x c q nin0⟩
end ALs
section ALsteps
variable {p : Program} {l : Launch} {e : Env} {R : Room} {s : State} {m : MethodId} {args : Array Value} {below : List Frame} {meth : Method} {c : Code} {T : State} {locs : List Loc} {cells slots : Nat} {G : Outcome → State → Prop} {pc pc' : Nat} {Ls : Array Slot} {rest : List Value} {Z : State} {a0 : Array Value} {h : Heap} {a : Addr} {kc : ClassId} {vs : List Value}
theorem inb {c : Cell} {j : Int32} (hs : c.slots.size = vs.length) (h0 : ¬ j < 0) {i : Nat} (hi : j.toNatClampNeg = i) (hl : i < vs.length) : ¬ (j < 0 ∨ c.slots.size ≤ j.toNatClampNeg) := by
  rw [hi, hs]; exact fun q => q.elim h0 (Nat.not_le.mpr hl)
/-- newarray: all slots at their first value -/
theorem newarrayL (X : Stand p l e R s m args below meth c T locs cells slots) (hx : p.tables.exec = Jvm.exec) (hZ : Z.Warmed39 s.vm) {aty : ArrayType} (w : (Cond.arrayClass (newarray.typeOf aty)).before a0 Z = true) (eT : T.heap = h) (cap : Nat) {n : Int32} (vs : List Value) (hvs : List.replicate n.toNatClampNeg (defaultValue (newarray.typeOf aty)) = vs)
    (hd : decode c.code pc = .ok (.newarray aty, 2)) (hn : ¬ n < 0) (hcap : n.toNatClampNeg ≤ cap) (hb : cap * 8 ≤ 536870912) (hc : cells + 1 ≤ R.cells) (hl : slots + cap ≤ R.slots)
    (K : ∀ T' h' cA (a : Addr), a = h.size → Stand p l e R s m args below meth c T' locs (cells + 1) (slots + cap) → T'.heap = h' → Ext h h' → AL Z h' a cA (newarray.typeOf aty) vs →
      Go p.tables e below G (T'.setTop (mkF m (pc + 2) Ls (.ref a :: rest)))) : Go p.tables e below G (T.setTop (mkF m pc Ls (.int n :: rest))) :=
  newarray X hx hZ w eT cap hd hn hcap hb hc hl fun T' h' cA a ha X' e' E A => K T' h' cA a ha X' e' E (AL.new A vs hvs)
theorem castoreL (X : Stand p l e R s m args below meth c T locs cells slots) (hx : p.tables.exec = Jvm.exec) (hZ : Z.Warmed39 s.vm) (eT : T.heap = h) (A : AL Z h a kc .char vs) {j x : Int32} (i : Nat) (vs' : List Value) (hj0 : ¬ j < 0) (hj : j.toNatClampNeg = i) (hi : i.blt vs.length = true) (hvs : vs.set i (.int (nar .char x)) = vs') (hd : decode c.code pc = .ok (.castore, 1))
    (K : ∀ T' h', Stand p l e R s m args below meth c T' (locs ++ [⟨a, i⟩]) cells slots → T'.heap = h' → Wr h h' a i (.int (nar .char x)) → AL Z h' a kc .char vs' → Go p.tables e below G (T'.setTop (mkF m (pc + 1) Ls rest))) : Go p.tables e below G (T.setTop (mkF m pc Ls (.int x :: .int j :: .ref a :: rest))) := by
  obtain ⟨cl, Ar, -, q2, -⟩ := A.arr
  have hi' : i < vs.length := by simpa [Nat.blt_eq] using hi
  refine castore X hx hZ eT Ar (inb q2 hj0 hj hi') hd ?_
  rw [hj]
  exact fun T' h' X' e' W => K T' h' X' e' W (A.set W vs' hvs)
theorem bastoreL (X : Stand p l e R s m args below meth c T locs cells slots) (hx : p.tables.exec = Jvm.exec) (hZ : Z.Warmed39 s.vm) (eT : T.heap = h) (A : AL Z h a kc .byte vs) {j x : Int32} (i : Nat) (vs' : List Value) (hj0 : ¬ j < 0) (hj : j.toNatClampNeg = i) (hi : i.blt vs.length = true) (hvs : vs.set i (.int (nar .byte x)) = vs') (hd : decode c.code pc = .ok (.bastore, 1))
    (K : ∀ T' h', Stand p l e R s m args below meth c T' (locs ++ [⟨a, i⟩]) cells slots → T'.heap = h' → Wr h h' a i (.int (nar .byte x)) → AL Z h' a kc .byte vs' → Go p.tables e below G (T'.setTop (mkF m (pc + 1) Ls rest))) : Go p.tables e below G (T.setTop (mkF m pc Ls (.int x :: .int j :: .ref a :: rest))) := by
  obtain ⟨cl, Ar, -, q2, -⟩ := A.arr
  have hi' : i < vs.length := by simpa [Nat.blt_eq] using hi
  refine bastore X hx hZ eT Ar (inb q2 hj0 hj hi') hd ?_
  rw [hj]
  exact fun T' h' X' e' W => K T' h' X' e' W (A.set W vs' hvs)
theorem zastoreL (X : Stand p l e R s m args below meth c T locs cells slots) (hx : p.tables.exec = Jvm.exec) (hZ : Z.Warmed39 s.vm) (eT : T.heap = h) (A : AL Z h a kc .boolean vs) {j x : Int32} (i : Nat) (vs' : List Value) (hj0 : ¬ j < 0) (hj : j.toNatClampNeg = i) (hi : i.blt vs.length = true) (hvs : vs.set i (.int (nar .boolean x)) = vs') (hd : decode c.code pc = .ok (.bastore, 1))
    (K : ∀ T' h', Stand p l e R s m args below meth c T' (locs ++ [⟨a, i⟩]) cells slots → T'.heap = h' → Wr h h' a i (.int (nar .boolean x)) → AL Z h' a kc .boolean vs' → Go p.tables e below G (T'.setTop (mkF m (pc + 1) Ls rest))) : Go p.tables e below G (T.setTop (mkF m pc Ls (.int x :: .int j :: .ref a :: rest))) := by
  obtain ⟨cl, Ar, -, q2, -⟩ := A.arr
  have hi' : i < vs.length := by simpa [Nat.blt_eq] using hi
  refine zastore X hx hZ eT Ar (inb q2 hj0 hj hi') hd ?_
  rw [hj]
  exact fun T' h' X' e' W => K T' h' X' e' W (A.set W vs' hvs)
theorem caloadL (X : Stand p l e R s m args below meth c T locs cells slots) (hx : p.tables.exec = Jvm.exec) (hZ : Z.Warmed39 s.vm) (eT : T.heap = h) (A : AL Z h a kc .char vs) {j : Int32} (i : Nat) (v : Value) (hj0 : ¬ j < 0) (hj : j.toNatClampNeg = i) (hv : vs[i]? = some v) (hd : decode c.code pc = .ok (.caload, 1)) (K : Go p.tables e below G (T.setTop (mkF m (pc + 1) Ls (v :: rest)))) : Go p.tables e below G (T.setTop (mkF m pc Ls (.int j :: .ref a :: rest))) := by
  obtain ⟨cl, Ar, -, q2, q3⟩ := A.arr
  exact caload X hx hZ eT v Ar (inb q2 hj0 hj (List.getElem?_eq_some_iff.mp hv).1) (by rw [hj, q3]; exact hv) hd K
theorem baloadL (X : Stand p l e R s m args below meth c T locs cells slots) (hx : p.tables.exec = Jvm.exec) (hZ : Z.Warmed39 s.vm) (eT : T.heap = h) (A : AL Z h a kc .byte vs) {j : Int32} (i : Nat) (v : Value) (hj0 : ¬ j < 0) (hj : j.toNatClampNeg = i) (hv : vs[i]? = some v) (hd : decode c.code pc = .ok (.baload, 1)) (K : Go p.tables e below G (T.setTop (mkF m (pc + 1) Ls (v :: rest)))) : Go p.tables e below G (T.setTop (mkF m pc Ls (.int j :: .ref a :: rest))) := by
  obtain ⟨cl, Ar, -, q2, q3⟩ := A.arr
  exact baload X hx hZ eT v Ar (inb q2 hj0 hj (List.getElem?_eq_some_iff.mp hv).1) (by rw [hj, q3]; exact hv) hd K
theorem zaloadL (X : Stand p l e R s m args below meth c T locs cells slots) (hx : p.tables.exec = Jvm.exec) (hZ : Z.Warmed39 s.vm) (eT : T.heap = h) (A : AL Z h a kc .boolean vs) {j : Int32} (i : Nat) (v : Value) (hj0 : ¬ j < 0) (hj : j.toNatClampNeg = i) (hv : vs[i]? = some v) (hd : decode c.code pc = .ok (.baload, 1)) (K : Go p.tables e below G (T.setTop (mkF m (pc + 1) Ls (v :: rest)))) : Go p.tables e below G (T.setTop (mkF m pc Ls (.int j :: .ref a :: rest))) := by
  obtain ⟨cl, Ar, -, q2, q3⟩ := A.arr
  exact zaload X hx hZ eT v Ar (inb q2 hj0 hj (List.getElem?_eq_some_iff.mp hv).1) (by rw [hj, q3]; exact hv) hd K
theorem aaloadL (X : Stand p l e R s m args below meth c T locs cells slots) (hx : p.tables.exec = Jvm.exec) (hZ : Z.Warmed39 s.vm) (eT : T.heap = h) {ty : FieldType} (A : AL Z h a kc ty vs) (hty : ty.isReference = true) {j : Int32} (i : Nat) (v : Value) (hj0 : ¬ j < 0) (hj : j.toNatClampNeg = i) (hv : vs[i]? = some v) (hd : decode c.code pc = .ok (.aaload, 1)) (K : Go p.tables e below G (T.setTop (mkF m (pc + 1) Ls (v :: rest)))) : Go p.tables e below G (T.setTop (mkF m pc Ls (.int j :: .ref a :: rest))) := by
  obtain ⟨cl, Ar, -, q2, q3⟩ := A.arr
  exact aaload X hx hZ eT v Ar hty (inb q2 hj0 hj (List.getElem?_eq_some_iff.mp hv).1) (by rw [hj, q3]; exact hv) hd K
theorem lengthL (X : Stand p l e R s m args below meth c T locs cells slots) (hx : p.tables.exec = Jvm.exec) (hZ : Z.Warmed39 s.vm) (eT : T.heap = h) {ty : FieldType} (A : AL Z h a kc ty vs) (N : Int32) (hN : vs.length.toInt32 = N) (hd : decode c.code pc = .ok (.arraylength, 1)) (K : Go p.tables e below G (T.setTop (mkF m (pc + 1) Ls (.int N :: rest)))) : Go p.tables e below G (T.setTop (mkF m pc Ls (.ref a :: rest))) := by
  obtain ⟨cl, Ar, -, q2, -⟩ := A.arr
  exact arraylength X hx hZ eT N Ar (by rw [q2]; exact hN) hd K
/-- a place where roads meet with an int on the stack: first what lies behind it, then the roads -/
theorem joinI (X : Stand p l e R s m args below meth c T locs cells slots) (eT : T.heap = h) (P : Int32 → Prop) (pcJ : Nat) {st : List Value}
    (J : ∀ v T', Stand p l e R s m args below meth c T' locs cells slots → T'.heap = h → P v → Go p.tables e below G (T'.setTop (mkF m pcJ Ls (.int v :: st))))
    (K : (∀ v T', Stand p l e R s m args below meth c T' locs cells slots → T'.heap = h → P v → Go p.tables e below G (T'.setTop (mkF m pcJ Ls (.int v :: st)))) → Go p.tables e below G (T.setTop (mkF m pc Ls st))) : Go p.tables e below G (T.setTop (mkF m pc Ls st)) := K J
/-- .. with other locals and nothing new on the stack -/
theorem join0 (X : Stand p l e R s m args below meth c T locs cells slots) (eT : T.heap = h) (P : Array Slot → Prop) (pcJ : Nat) {st : List Value}
    (J : ∀ L2 T', Stand p l e R s m args below meth c T' locs cells slots → T'.heap = h → P L2 → Go p.tables e below G (T'.setTop (mkF m pcJ L2 st)))
    (K : (∀ L2 T', Stand p l e R s m args below meth c T' locs cells slots → T'.heap = h → P L2 → Go p.tables e below G (T'.setTop (mkF m pcJ L2 st))) → Go p.tables e below G (T.setTop (mkF m pc Ls st))) : Go p.tables e below G (T.setTop (mkF m pc Ls st)) := K J
end ALsteps
end Jvm.Ow
namespace Jvm.Ow
open Sem ClassFile Op Lib Jvm.Stand Jvm.Free Jvm.LawKit Jvm.RoadKit
/-- what a walk that may load literals bears besides its Stand over (s.setVm vm0): s is the method's start, h the heap at hand -/
def Wd (s Z : State) (EL : List (String × Nat)) (vm0 : Vm) (h : Heap) : Prop := (∃ k0, s.Since vm0 k0 ∧ k0 ≤ h.size) ∧ Z.Warmed39 vm0 ∧ CHr Z EL s.vm s.heap vm0 h
section Wides
variable {s Z : State} {EL : List (String × Nat)} {vm0 vm1 : Vm} {h h' : Heap}
theorem Wd.hZ (D : Wd s Z EL vm0 h) : Z.Warmed39 vm0 := D.2.1
theorem Wd.ch (D : Wd s Z EL vm0 h) : CHv Z EL vm0 h := D.2.2.1
theorem Wd.start (hZ : Z.Warmed39 s.vm) (H : CHv Z EL s.vm s.heap) : Wd s Z EL s.vm s.heap := ⟨⟨_, (State.WarmedH.refl s).since s.heap.size, Nat.le_refl _⟩, hZ, CHr.refl H⟩
theorem Wd.to (D : Wd s Z EL vm0 h) (C : CHr Z EL vm0 h vm0 h') : Wd s Z EL vm0 h' := by
  obtain ⟨⟨k0, h1, h2⟩, h3, h4⟩ := D
  exact ⟨⟨k0, h1, Nat.le_trans h2 C.2.1⟩, h3, h4.trans C⟩
theorem Wd.ext (D : Wd s Z EL vm0 h) (E : Ext h h') : Wd s Z EL vm0 h' := D.to (CHr.ext E D.ch)
theorem Wd.wr (D : Wd s Z EL vm0 h) {a : Addr} {sl : Nat} {v : Value} (W : Wr h h' a sl v) (S : Safe Z EL vm0 h a) : Wd s Z EL vm0 h' := D.to (CHr.wr W S D.ch)
theorem Wd.keep (D : Wd s Z EL vm0 h) {ws : List Addr} (K : Keep h h' ws) (S : ∀ x ∈ ws, Safe Z EL vm0 h x) : Wd s Z EL vm0 h' := D.to (CHr.keep K S D.ch)
theorem Wd.safeExt (D : Wd s Z EL vm0 h) (E : Ext h h') {x : Addr} (S : Safe Z EL vm0 h x) : Safe Z EL vm0 h' x := S.ext E D.ch
theorem Wd.safeNew (D : Wd s Z EL vm0 h) (E : Ext h h') : Safe Z EL vm0 h' h.size := (Safe.new (Nat.le_refl _)).ext E D.ch
theorem Wd.safeWr (D : Wd s Z EL vm0 h) {a : Addr} {sl : Nat} {v : Value} (W : Wr h h' a sl v) (S : Safe Z EL vm0 h a) {x : Addr} (Sx : Safe Z EL vm0 h x) : Safe Z EL vm0 h' x := Safe.wr W S D.ch Sx
theorem Wd.safeKeep (D : Wd s Z EL vm0 h) {ws : List Addr} (K : Keep h h' ws) (S : ∀ x ∈ ws, Safe Z EL vm0 h x) {x : Addr} (Sx : Safe Z EL vm0 h x) : Safe Z EL vm0 h' x := Sx.keep K S D.ch
/-- what a wide contract says of its end -/
abbrev EndW (Z : State) (EL : List (String × Nat)) (s : State) (Q : Option Value → Heap → List Loc → Prop) (k n : Nat) : Outcome → State → Prop := fun o t => ∃ v L, o = .returned v ∧ Q v t.heap L ∧ CHr Z EL s.vm s.heap t.vm t.heap ∧ ReturnedEndW s o t L k n
variable {p : Program} {l : Launch} {e : Env} {R : Room} {m : MethodId} {args : Array Value} {below : List Frame} {meth : Method} {c : Code} {T : State} {locs : List Loc} {cells slots : Nat} {pc pc' : Nat} {Ls : Array Slot} {rest : List Value} {Q : Option Value → Heap → List Loc → Prop} {k n : Nat} {a0 : Array Value}
theorem sbn_mono {s t : State} {o : Outcome} {L : List Loc} {k n k' n' : Nat} (h : ReturnedEndW s o t L k n) (hk : k ≤ k') (hn : n ≤ n') : ReturnedEndW s o t L k' n' := ⟨h.1, h.2.1, h.2.2.1, h.2.2.2.mono hk hn⟩
theorem fin_ofW (X : Stand p l e R (s.setVm vm0) m args below meth c T locs cells slots) (eT : T.heap = h) (D : Wd s Z EL vm0 h) (hEL : EW Z a0 EL) (hlk : meth.locks = false) {v : Option Value} (hv : meth.sig.returnType = none → v = none) {g : JFrame} (st : ∀ fs, (∀ (f : JFrame) (acts : List Action), f.method = m → f.locked = none → f.entered = [] → (doReturn e (T.setTop f) acts v).1 = T.setFrames fs) → Steps p.tables e below (T.setTop g) (T.setFrames fs)) (hQ : Q v T.heap locs) (hk : cells ≤ k) (hn : slots ≤ n) : Go p.tables e below (EndW Z EL s Q k n) (T.setTop g) := by
  subst eT
  obtain ⟨⟨k0, hS, hk0⟩, hZ, C⟩ := D
  have A : CHr Z EL s.vm s.heap T.vm T.heap := C.trans (CHv.at X hZ hEL C.1)
  obtain ⟨fs, hr, hrun, hended, hE⟩ := X.leaveW hS hk0 (v := v) hv hlk
  exact ⟨_, _, st fs hr, hrun, hended, _, _, rfl, hQ, A, sbn_mono hE hk hn⟩
theorem ireturnW (X : Stand p l e R (s.setVm vm0) m args below meth c T locs cells slots) (hx : p.tables.exec = Jvm.exec) (eT : T.heap = h) (D : Wd s Z EL vm0 h) (hEL : EW Z a0 EL) (hlk : meth.locks = false) {z : Int32} (hret : meth.sig.returnType = some .int) (hd : decode c.code pc = .ok (.ireturn, 1)) (hQ : Q (some (.int z)) T.heap locs) (hk : cells ≤ k) (hn : slots ≤ n) : Go p.tables e below (EndW Z EL s Q k n) (T.setTop (mkF m pc Ls (.int z :: rest))) :=
  fin_ofW X eT D hEL hlk (v := some (.int z)) (fun h => by rw [hret] at h; cases h) (fun fs hr => retOut X hx hret rfl (Or.inl ⟨rfl, Or.inl rfl, z, rfl⟩) hd hr) hQ hk hn
theorem nreturnW (X : Stand p l e R (s.setVm vm0) m args below meth c T locs cells slots) (hx : p.tables.exec = Jvm.exec) (eT : T.heap = h) (D : Wd s Z EL vm0 h) (hEL : EW Z a0 EL) (hlk : meth.locks = false) {z : Int32} {t : FieldType} (hret : meth.sig.returnType = some t) (ht : t = .boolean ∨ t = .byte ∨ t = .char ∨ t = .short) (hd : decode c.code pc = .ok (.ireturn, 1)) (hQ : Q (some (.int (nar t z))) T.heap locs) (hk : cells ≤ k) (hn : slots ≤ n) : Go p.tables e below (EndW Z EL s Q k n) (T.setTop (mkF m pc Ls (.int z :: rest))) :=
  fin_ofW X eT D hEL hlk (v := some (.int (nar t z))) (fun h => by rw [hret] at h; cases h) (fun fs hr => retN X hx hret ht hd hr) hQ hk hn
theorem areturnW (X : Stand p l e R (s.setVm vm0) m args below meth c T locs cells slots) (hx : p.tables.exec = Jvm.exec) (eT : T.heap = h) (D : Wd s Z EL vm0 h) (hEL : EW Z a0 EL) (hlk : meth.locks = false) {w : Value} {t : FieldType} (hret : meth.sig.returnType = some t) (ht : t.isReference = true) (hw : w.isRef = true) (hna : narrow t w = w) (hd : decode c.code pc = .ok (.areturn, 1)) (hQ : Q (some w) T.heap locs) (hk : cells ≤ k) (hn : slots ≤ n) : Go p.tables e below (EndW Z EL s Q k n) (T.setTop (mkF m pc Ls (w :: rest))) :=
  fin_ofW X eT D hEL hlk (v := some w) (fun h => by rw [hret] at h; cases h) (fun fs hr => retOut X hx hret hna (Or.inr (Or.inr (Or.inr (Or.inr ⟨rfl, ht, hw⟩)))) hd hr) hQ hk hn
theorem vreturnW (X : Stand p l e R (s.setVm vm0) m args below meth c T locs cells slots) (hx : p.tables.exec = Jvm.exec) (eT : T.heap = h) (D : Wd s Z EL vm0 h) (hEL : EW Z a0 EL) (hlk : meth.locks = false) (hret : meth.sig.returnType = none) (hd : decode c.code pc = .ok (.return_, 1)) (hQ : Q none T.heap locs) (hk : cells ≤ k) (hn : slots ≤ n) : Go p.tables e below (EndW Z EL s Q k n) (T.setTop (mkF m pc Ls [])) :=
  fin_ofW X eT D hEL hlk (v := none) (fun _ => rfl) (fun fs hr => X.returnOut hx hret hd hr) hQ hk hn
/-- ldc of a literal whose text is held -/
theorem ldcS {G : Outcome → State → Prop} (X : Stand p l e R (s.setVm vm0) m args below meth c T locs cells slots) (hx : p.tables.exec = Jvm.exec) (eT : T.heap = h) (D : Wd s Z EL vm0 h) (hEL : EW Z a0 EL) {own text : String} {index : Nat} (hown : vm0.findClass own = some m.cls) (w : (Cond.stringLink own index text).before a0 Z = true) (wS : ∀ a ∈ Bundle.stringAtoms, a.before a0 Z = true) (hmem : (own, index) ∈ EL)
    {vs : List Value} {z : Int32} (ht : (∀ c ∈ text.toList, c.toNat < 256) ∧ text.toList.map (fun c => Value.int (Jvm.Lit.byteI c.toNat.toUInt16)) = vs) (hz : ¬ z < 0) (hl : z.toNatClampNeg = vs.length) (hd : decode c.code pc = .ok (.ldc index, 2)) (n : Nat) (hn : 4 * text.toList.length ≤ n) (hbig : n ≤ 536870912) (hc : cells + 2 ≤ R.cells) (hl' : slots + (n + 4) ≤ R.slots)
    (K : ∀ (vm1 : Vm) (a : Addr) (T' : State) (h' : Heap) (b : Addr) (kc : ClassId), Stand p l e R (s.setVm vm1) m args below meth c T' locs (cells + 2) (slots + (n + 4)) → T'.heap = h' → Ext h h' → Wd s Z EL vm1 h' → vm1.findClass own = some m.cls → CHr Z EL vm0 h vm1 h' →
      Exa Z h' a "java/lang/String" → Fld Z h' a "java/lang/String" "coder" "B" (.int 0) → Fld Z h' a "java/lang/String" "value" "[B" (.ref b) → Arv Z h' b kc .byte z vs (.int 0) → (∀ x, Safe Z EL vm1 h' x → x ≠ a ∧ x ≠ b) → Go p.tables e below G (T'.setTop (mkF m (pc + 2) Ls (.ref a :: rest)))) : Go p.tables e below G (T.setTop (mkF m pc Ls rest)) := by
  obtain ⟨⟨k0, hS, hk0⟩, hZ, C⟩ := D
  obtain ⟨a, T', h', k1, b, kc, X', e', E, hS', hk1, hW, hf, A, F1, F2, V, -, -, C', -, hne, st⟩ := ldcCH X hx hZ hown w wS eT hS hk0 hEL hmem C.1 ht hz hl (g := mkF m pc Ls rest) rfl hd hn hbig hc hl'
  exact (K T'.vm a T' h' b kc X' e' E ⟨⟨k1, hS', hk1⟩, hW, C.trans C'⟩ hf C' A F1 F2 V hne).via st
/-- ldc of any literal, its text unread -/
theorem ldcO {G : Outcome → State → Prop} (X : Stand p l e R (s.setVm vm0) m args below meth c T locs cells slots) (hx : p.tables.exec = Jvm.exec) (eT : T.heap = h) (D : Wd s Z EL vm0 h) (hEL : EW Z a0 EL) {own text : String} {index : Nat} (hown : vm0.findClass own = some m.cls) (w : (Cond.stringLink own index text).before a0 Z = true) (wS : ∀ a ∈ Bundle.stringAtoms, a.before a0 Z = true)
    (hd : decode c.code pc = .ok (.ldc index, 2)) (n : Nat) (hn : 4 * text.toList.length ≤ n) (hbig : n ≤ 536870912) (hc : cells + 2 ≤ R.cells) (hl' : slots + (n + 4) ≤ R.slots)
    (K : ∀ (vm1 : Vm) (a : Addr) (T' : State) (h' : Heap), Stand p l e R (s.setVm vm1) m args below meth c T' locs (cells + 2) (slots + (n + 4)) → T'.heap = h' → Ext h h' → Wd s Z EL vm1 h' → vm1.findClass own = some m.cls → CHr Z EL vm0 h vm1 h' → Go p.tables e below G (T'.setTop (mkF m (pc + 2) Ls (.ref a :: rest)))) : Go p.tables e below G (T.setTop (mkF m pc Ls rest)) := by
  obtain ⟨⟨k0, hS, hk0⟩, hZ, C⟩ := D
  obtain ⟨a, T', h', k1, X', e', E, hS', hk1, hW, hf, C', -, st⟩ := ldcOH X hx hZ hown w wS eT hS hk0 hEL C.1 (g := mkF m pc Ls rest) rfl hd hn hbig hc hl'
  exact (K T'.vm a T' h' X' e' E ⟨⟨k1, hS', hk1⟩, hW, C.trans C'⟩ hf C').via st
end Wides
section PaysW
/-- a wide contract; the cells sf are none of a booked literal's -/
def PayW (l : Launch) (Z : State) (EL : List (String × Nat)) (sf : List Addr) (y : MethodName) (bytes : ByteArray) (maxL : Nat) (ret : Option FieldType) (rm : Room) (as' : Array Value) (h0 : Heap) (Q : Option Value → Heap → List Loc → Prop) : Prop :=
  ∀ ws : List Jvm.Cond, MetFree l y (head1 (Jvm.Cond.code y bytes maxL ret :: ws) rm) (fun a U => a = as' ∧ Z.Warmed39 U.vm ∧ U.heap = h0 ∧ CHv Z EL U.vm h0 ∧ ∀ x ∈ sf, Safe Z EL U.vm h0 x) (fun _ _ _ _ _ => True) (fun _ U o U' => ∃ v L, o = .returned v ∧ Q v U'.heap L ∧ CHr Z EL U.vm U.heap U'.vm U'.heap ∧ ReturnedEndW U o U' L rm.cells rm.slots)
variable {l : Launch} {Z : State} {EL : List (String × Nat)} {sf : List Addr} {y : MethodName} {bytes : ByteArray} {maxL : Nat} {ret : Option FieldType} {rm : Room} {as' : Array Value} {h0 : Heap} {Q : Option Value → Heap → List Loc → Prop}
theorem PayW.of {Ls : Array Slot} (hpn : plainFor y = true) (hef : ∀ m, entryFrame m as' maxL = mkF m 0 Ls [])
    (body : ∀ (p : Program) (e : Env) (s : State) (m : MethodId) (below : List Frame) (meth : Method) (c : Code) (T : State) (vm0 : Vm), p.tables.exec = Jvm.exec → c.code = bytes → c.maxLocals = maxL → vm0.findClass y.cls = some m.cls → s.methodNamed? y = some m → s.vm.method? m = some meth → meth.sig.returnType = ret → meth.locks = false → Stand p l e rm (s.setVm vm0) m as' below meth c T [] 0 0 → T.heap = h0 → Wd s Z EL vm0 h0 → (∀ x ∈ sf, Safe Z EL vm0 h0 x) →
      Go p.tables e below (EndW Z EL s Q rm.cells rm.slots) (T.setTop (mkF m 0 Ls []))) : PayW l Z EL sf y bytes maxL ret rm as' h0 Q := by
  intro ws
  refine MetFree.of_bodySF hpn hisR ?_
  intro p e s m args below meth c s₁ Bd hml0 hP hK
  obtain ⟨rfl, hZ, hh, H, hsf⟩ := hP
  rw [hef m]
  subst hh
  exact body p e s m below meth c s₁ s.vm Bd.exec Bd.bytes hml0 (findClass_of_methodNamed Bd.named) Bd.named Bd.method Bd.returns Bd.notSynchronized (Stand.of_body Bd) (by rw [Bd.state]; rfl) (Wd.start hZ H) hsf
variable {p : Program} {e : Env} {R : Room} {s : State} {vm0 : Vm} {m : MethodId} {args : Array Value} {below : List Frame} {meth : Method} {c : Code} {T : State} {locs : List Loc} {cells slots : Nat} {G : Outcome → State → Prop} {pc : Nat} {Ls : Array Slot} {a0 : Array Value}
/-- its payer -/
theorem backW {len W : Nat} (hP : PayW l Z EL sf y bytes maxL ret rm as' h0 Q) (hZ : Z.Warmed39 vm0) (wc : (Cond.code y bytes maxL ret).before a0 Z = true) (wz : (Cond.initialized y.cls).before a0 Z = true) (hf : rm.frames + 1 ≤ R.frames) (hl : W + (maxL + 11) + rm.locals ≤ R.locals) (hEL : EW Z a0 EL) (H : CHv Z EL vm0 h0) (hsf : ∀ x ∈ sf, x < h0.size ∧ Safe Z EL vm0 h0 x) :
    BackS l R p e below (s.setVm vm0) args y len W (fun A a => a = as' ∧ A.U.heap = h0 ∧ A.cells + rm.cells ≤ R.cells ∧ A.slots + rm.slots ≤ R.slots)
      (fun A _ v B => ∃ L, Q v B.U.heap L ∧ B.locs = A.locs ++ L ∧ B.cells = A.cells + rm.cells ∧ B.slots = A.slots + rm.slots ∧ CHr Z EL vm0 h0 B.U.vm B.U.heap) := by
  have at' : ∀ (m : MethodId) (meth : Method) (c : Code) (A : Pt), Stand p l e R (s.setVm vm0) m args below meth c A.U A.locs A.cells A.slots → Z.Warmed39 A.U.vm ∧ CHr Z EL vm0 h0 A.U.vm h0 := fun m meth c A Y => ⟨wtrans (s := s.setVm vm0) hZ Y.warmed, CHv.at Y hZ hEL H⟩
  refine BackS.of_freeW (bytes := bytes) (maxL := maxL) (ret := ret) (E := fun _ first o t L k n => k = rm.cells ∧ n = rm.slots ∧ (∃ v, o = .returned v ∧ Q v t.heap L) ∧ CHr Z EL first.vm first.heap t.vm t.heap) (hP []) hf hl ?_ ?_ (fun _ _ _ _ _ _ _ _ _ => trivial) ?_ ?_
  · intro m meth c A a Y hp
    have hU := (at' m meth c A Y).1
    refine ⟨?_, mv hU wc, mv hU wz, hp.2.2.1, hp.2.2.2⟩
    show (Cond.and _ .tt).before a A.U = true
    rw [Cond.before_and, mv hU wc]; rfl
  · intro m meth c A a g mk Y hp
    obtain ⟨hU, hC⟩ := at' m meth c A Y
    exact ⟨hp.1, hU, hp.2.1, hC.1, fun x hx => hC.safe (hsf x hx).1 (hsf x hx).2⟩
  · rintro _ _ _ _ ⟨v, L, h1, h2, h3, h4⟩
    exact ⟨L, _, _, h4, rfl, rfl, ⟨v, h1, h2⟩, h3⟩
  · rintro m meth c A a g mk v t L k n Y hp _ _ ⟨e1, e2, ⟨v', e3, e4⟩, e5⟩
    cases e3; subst e1 e2
    refine ⟨L, e4, rfl, rfl, rfl, (at' m meth c A Y).2.trans ?_⟩
    rw [← hp.2.1]; exact e5
/-- invokestatic by a wide contract -/
theorem callSW (X : Stand p l e R (s.setVm vm0) m args below meth c T locs cells slots) (hx : p.tables.exec = Jvm.exec) (hP : PayW l Z EL sf y bytes maxL ret rm as' h0 Q) (eT : T.heap = h0) (D : Wd s Z EL vm0 h0) (hEL : EW Z a0 EL) (hsf : ∀ x ∈ sf, x < h0.size ∧ Safe Z EL vm0 h0 x) {own : String} {index : Nat} (hown : vm0.findClass own = some m.cls)
    (wl : (Cond.methodLink own index y).before a0 Z = true) (wst : (Cond.static y).before a0 Z = true) (wz : (Cond.initialized y.cls).before a0 Z = true) (wc : (Cond.code y bytes maxL ret).before a0 Z = true)
    (hy : y.cls ≠ "java/lang/invoke/MethodHandle" ∧ y.cls ≠ "java/lang/invoke/VarHandle") {ps : List FieldType} {rt : Option FieldType} (hpd : parseMethodDescriptor y.desc = some ⟨ps, rt⟩) (hsz : Ls.size = c.maxLocals)
    {argsL rest st : List Value} (has : argsL.toArray = as') (hlen : argsL.length = ps.length) (hst : st = argsL.reverse ++ rest) (hd : decode c.code pc = .ok (.invokestatic index, 3))
    (hf : (rm.frames + 1).ble R.frames = true) (hlo : ((rest.map fun v => v.category).sum + (maxL + 11) + rm.locals).ble R.locals = true) (hce : cells + rm.cells ≤ R.cells) (hsl : slots + rm.slots ≤ R.slots)
    (K : ∀ (v : Option Value) (vm1 : Vm) (T' : State) (L : List Loc), Stand p l e R (s.setVm vm1) m args below meth c T' (locs ++ L) (cells + rm.cells) (slots + rm.slots) → Q v T'.heap L → Wd s Z EL vm1 T'.heap → vm1.findClass own = some m.cls → CHr Z EL vm0 h0 vm1 T'.heap → Go p.tables e below G (T'.setTop (mkF m (pc + 3) Ls (v.toList ++ rest)))) :
    Go p.tables e below G (T.setTop (mkF m pc Ls st)) := by
  have hy' := hy
  obtain ⟨⟨k0, hS, hk0⟩, hZ, C⟩ := D
  have hZ' : Z.Warmed39 (s.setVm vm0).vm := hZ
  have hown' : (s.setVm vm0).vm.findClass own = some m.cls := hown
  obtain ⟨_, _, ⟨T1, L1, k1, n1⟩, -, X1, S1, g1, ⟨Lc, hQ, l1, y1, z1, C1⟩, st1⟩ := callSS X hx (y := y) hown' (mvT hZ' wl) (mvT hZ' wst) (mvT hZ' wz) (mvT hZ' wc) hy' (backW (W := (rest.map fun v => v.category).sum) hP hZ wc wz (Nat.le_of_ble_eq_true hf) (Nat.le_of_ble_eq_true hlo) hEL C.1 hsf) (g := mkF m pc Ls st) rfl hsz (argsL := argsL) (rest := rest) (lenOf hpd hlen) hst (by show 2 * 0 + _ ≤ _; omega) hd (fun _ _ => ⟨has, eT, hce, hsl⟩)
  dsimp only [Pt.U, Pt.locs, Pt.cells, Pt.slots] at X1 l1 y1 z1 st1 hQ S1 g1 C1
  subst l1 y1 z1
  obtain ⟨X2, S2, Z2, O2⟩ := rebS hS (by rw [← eT] at hk0; exact hk0) X1 S1 g1 hZ' hown'
  exact (K _ T1.vm _ _ X2 hQ ⟨⟨_, S2, Nat.le_refl _⟩, Z2, C.trans C1⟩ O2 C1).thru st1
/-- invokespecial of a constructor by a wide contract -/
theorem callIW (X : Stand p l e R (s.setVm vm0) m args below meth c T locs cells slots) (hx : p.tables.exec = Jvm.exec) (hP : PayW l Z EL sf y bytes maxL none rm as' h0 Q) (eT : T.heap = h0) (D : Wd s Z EL vm0 h0) (hEL : EW Z a0 EL) (hsf : ∀ x ∈ sf, x < h0.size ∧ Safe Z EL vm0 h0 x) (hni : y.name = "<init>") {own : String} {index : Nat} (hown : vm0.findClass own = some m.cls)
    (wl : (Cond.methodLink own index y).before a0 Z = true) (win : (Cond.instanceMethod y).before a0 Z = true) (wz : (Cond.initialized y.cls).before a0 Z = true) (wc : (Cond.code y bytes maxL none).before a0 Z = true)
    (hy : y.cls ≠ "java/lang/invoke/MethodHandle" ∧ y.cls ≠ "java/lang/invoke/VarHandle") {ps : List FieldType} {rt : Option FieldType} (hpd : parseMethodDescriptor y.desc = some ⟨ps, rt⟩) (hsz : Ls.size = c.maxLocals)
    {a : Addr} {argsL rest st : List Value} (has : (.ref a :: argsL).toArray = as') (hlen : argsL.length = ps.length) (hst : st = argsL.reverse ++ .ref a :: rest) (hd : decode c.code pc = .ok (.invokespecial index, 3))
    (hf : (rm.frames + 1).ble R.frames = true) (hlo : ((rest.map fun v => v.category).sum + (maxL + 11) + rm.locals).ble R.locals = true) (hce : cells + rm.cells ≤ R.cells) (hsl : slots + rm.slots ≤ R.slots)
    (K : ∀ (v : Option Value) (vm1 : Vm) (T' : State) (L : List Loc), Stand p l e R (s.setVm vm1) m args below meth c T' (locs ++ L) (cells + rm.cells) (slots + rm.slots) → Q v T'.heap L → Wd s Z EL vm1 T'.heap → vm1.findClass own = some m.cls → CHr Z EL vm0 h0 vm1 T'.heap → Go p.tables e below G (T'.setTop (mkF m (pc + 3) Ls (v.toList ++ rest)))) :
    Go p.tables e below G (T.setTop (mkF m pc Ls st)) := by
  have hy' := hy
  obtain ⟨⟨k0, hS, hk0⟩, hZ, C⟩ := D
  have hZ' : Z.Warmed39 (s.setVm vm0).vm := hZ
  have hown' : (s.setVm vm0).vm.findClass own = some m.cls := hown
  obtain ⟨_, _, ⟨T1, L1, k1, n1⟩, -, X1, S1, g1, ⟨Lc, hQ, l1, y1, z1, C1⟩, st1⟩ := X.specialBackS hx (y := y) hni hown' (mvT hZ' wl) (mvT hZ' win) (mvT hZ' wc) hy' (backW (W := (rest.map fun v => v.category).sum) hP hZ wc wz (Nat.le_of_ble_eq_true hf) (Nat.le_of_ble_eq_true hlo) hEL C.1 hsf) (g := mkF m pc Ls st) rfl hsz (Steps.refl _) (a := a) (argsL := argsL) (rest := rest) (lenOf hpd hlen) hst (by show 2 * 0 + _ ≤ _; omega) hd (fun _ _ => ⟨has, eT, hce, hsl⟩)
  dsimp only [Pt.U, Pt.locs, Pt.cells, Pt.slots] at X1 l1 y1 z1 st1 hQ S1 g1 C1
  subst l1 y1 z1
  obtain ⟨X2, S2, Z2, O2⟩ := rebS hS (by rw [← eT] at hk0; exact hk0) X1 S1 g1 hZ' hown'
  exact (K _ T1.vm _ _ X2 hQ ⟨⟨_, S2, Nat.le_refl _⟩, Z2, C.trans C1⟩ O2 C1).thru st1
/-- invokevirtual by a wide contract -/
theorem callVW (X : Stand p l e R (s.setVm vm0) m args below meth c T locs cells slots) (hx : p.tables.exec = Jvm.exec) (hP : PayW l Z EL sf y bytes maxL ret rm as' h0 Q) (eT : T.heap = h0) (D : Wd s Z EL vm0 h0) (hEL : EW Z a0 EL) (hsf : ∀ x ∈ sf, x < h0.size ∧ Safe Z EL vm0 h0 x) {C : String} {own : String} {index : Nat} (hown : vm0.findClass own = some m.cls)
    (wl : (Cond.methodLink own index y).before a0 Z = true) (wd : (Cond.declares y).before a0 Z = true) (wse : (Cond.selects C y y).before a0 Z = true) (win : (Cond.instanceMethod y).before a0 Z = true) (wz : (Cond.initialized y.cls).before a0 Z = true) (wc : (Cond.code y bytes maxL ret).before a0 Z = true)
    (hy : y.cls ≠ "java/lang/invoke/MethodHandle" ∧ y.cls ≠ "java/lang/invoke/VarHandle") {ps : List FieldType} {rt : Option FieldType} (hpd : parseMethodDescriptor y.desc = some ⟨ps, rt⟩) (hsz : Ls.size = c.maxLocals)
    {a : Addr} (E : Exa Z h0 a C) {argsL rest st : List Value} (has : (.ref a :: argsL).toArray = as') (hlen : argsL.length = ps.length) (hst : st = argsL.reverse ++ .ref a :: rest) (hd : decode c.code pc = .ok (.invokevirtual index, 3))
    (hf : (rm.frames + 1).ble R.frames = true) (hlo : ((rest.map fun v => v.category).sum + (maxL + 11) + rm.locals).ble R.locals = true) (hce : cells + rm.cells ≤ R.cells) (hsl : slots + rm.slots ≤ R.slots)
    (K : ∀ (v : Option Value) (vm1 : Vm) (T' : State) (L : List Loc), Stand p l e R (s.setVm vm1) m args below meth c T' (locs ++ L) (cells + rm.cells) (slots + rm.slots) → Q v T'.heap L → Wd s Z EL vm1 T'.heap → vm1.findClass own = some m.cls → CHr Z EL vm0 h0 vm1 T'.heap → Go p.tables e below G (T'.setTop (mkF m (pc + 3) Ls (v.toList ++ rest)))) :
    Go p.tables e below G (T.setTop (mkF m pc Ls st)) := by
  have hy' := hy
  obtain ⟨⟨k0, hS, hk0⟩, hZ, C2⟩ := D
  have hZ' : Z.Warmed39 (s.setVm vm0).vm := hZ
  have hown' : (s.setVm vm0).vm.findClass own = some m.cls := hown
  obtain ⟨cq, kq, qa, qb, qc⟩ := isOf hZ' eT E
  obtain ⟨_, _, ⟨T1, L1, k1, n1⟩, -, X1, S1, g1, ⟨Lc, hQ, l1, y1, z1, C1⟩, st1⟩ := X.virtualBackS hx (y := y) (z := y) hown' (mvT hZ' wl) (mvT hZ' wd) (notFace_of_selects (args := #[]) (mvT hZ' wse)) (mvT hZ' wse) (mvT hZ' win) hy' (backW (W := (rest.map fun v => v.category).sum) hP hZ wc wz (Nat.le_of_ble_eq_true hf) (Nat.le_of_ble_eq_true hlo) hEL C2.1 hsf) qa qc (g := mkF m pc Ls st) rfl hsz (Steps.refl _) (argsL := argsL) (rest := rest) (lenOf hpd hlen) hst (by show 2 * 0 + _ ≤ _; omega) hd (fun _ _ => ⟨has, eT, hce, hsl⟩)
  dsimp only [Pt.U, Pt.locs, Pt.cells, Pt.slots] at X1 l1 y1 z1 st1 hQ S1 g1 C1
  subst l1 y1 z1
  obtain ⟨X2, S2, Z2, O2⟩ := rebS hS (by rw [← eT] at hk0; exact hk0) X1 S1 g1 hZ' hown'
  exact (K _ T1.vm _ _ X2 hQ ⟨⟨_, S2, Nat.le_refl _⟩, Z2, C2.trans C1⟩ O2 C1).thru st1
end PaysW
end Jvm.Ow
namespace Jvm.Ow
open Sem ClassFile Op Lib Jvm.Stand Jvm.Free Jvm.LawKit Jvm.RoadKit
/-- a compact String at x, its bytes bs at t -/
def Str (Z : State) (h : Heap) (x t : Addr) (kb : ClassId) (bs : List Int32) : Prop := Exa Z h x "java/lang/String" ∧ Fld Z h x "java/lang/String" "coder" "B" (.int 0) ∧ Fld Z h x "java/lang/String" "value" "[B" (.ref t) ∧ AL Z h t kb .byte (bs.map Value.int)
section Strs
variable {Z : State} {h h' : Heap} {x t : Addr} {kb : ClassId} {bs : List Int32} {ws : List Addr}
theorem Str.ext (S : Str Z h x t kb bs) (E : Ext h h') : Str Z h' x t kb bs := ⟨S.1.ext E, S.2.1.ext E, S.2.2.1.ext E, S.2.2.2.ext E⟩
theorem Str.keep (S : Str Z h x t kb bs) (K : Keep h h' ws) (q1 : x ∉ ws) (q2 : t ∉ ws) : Str Z h' x t kb bs := ⟨S.1.keep K, S.2.1.keep K q1, S.2.2.1.keep K q1, S.2.2.2.keep K q2⟩
theorem Str.lt (S : Str Z h x t kb bs) : x < h.size := S.1.lt
theorem Str.ltB (S : Str Z h x t kb bs) : t < h.size := S.2.2.2.lt
theorem shr0 (c : Int32) : c >>> ((0 : Int32) &&& 31) = c := by
  have h : ((0 : Int32) &&& 31) = 0 := by decide
  rw [h]
  apply Int32.toBitVec_inj.mp
  simp
theorem n_cl {n : Nat} (hn : n < 2147483648) : (Int32.ofNat n).toNatClampNeg = n := by
  rw [Int32.toNatClampNeg, Int32.toInt_ofNat_of_lt hn]; rfl
theorem n_nn {n : Nat} (hn : n < 2147483648) : ¬ Int32.ofNat n < 0 := by
  rw [Int32.lt_iff_toInt_lt, Int32.toInt_ofNat_of_lt hn, show (0 : Int32).toInt = 0 from rfl]; omega
theorem n_lt {i n : Nat} (hi : i < 2147483648) (hn : n < 2147483648) : Int32.ofNat i < Int32.ofNat n ↔ i < n := by
  rw [Int32.lt_iff_toInt_lt, Int32.toInt_ofNat_of_lt hi, Int32.toInt_ofNat_of_lt hn]; omega
theorem n_one (i : Nat) : Int32.ofNat i + (1 : Int32) = Int32.ofNat (i + 1) := (Int32.ofNat_add i 1).symm
theorem n_eq {i n : Nat} (hi : i < 2147483648) (hn : n < 2147483648) : Int32.ofNat i = Int32.ofNat n ↔ i = n := by
  refine ⟨fun h => ?_, fun h => by rw [h]⟩
  have := congrArg Int32.toNatClampNeg h
  rwa [n_cl hi, n_cl hn] at this
end Strs
end Jvm.Ow
namespace Jvm.Ow
open Sem ClassFile Op Lib Jvm.Stand Jvm.Free Jvm.LawKit Jvm.RoadKit
theorem staKeep {Z : State} {h h' : Heap} {C n d : String} {v : Value} {ws : List Addr} (S : Sta Z h C n d v) (K : Keep h h' ws) (q : ∀ x ∈ ws, ∃ c : Cell, h[x]? = some c ∧ c.vm.isStatics = false) : Sta Z h' C n d v := by
  obtain ⟨cf, i, k, f, st, cell, h1, h2, h3, h4, h5, h6, h7⟩ := S
  refine ⟨cf, i, k, f, st, cell, h1, h2, h3, h4, K.2.1 st cell h5 fun hm => ?_, h6, h7⟩
  obtain ⟨c, hc, hs⟩ := q st hm
  cases h5.symm.trans hc
  rw [hs] at h6; cases h6
theorem Exa.plain {Z : State} {h : Heap} {a : Addr} {C : String} (A : Exa Z h a C) : ∃ c : Cell, h[a]? = some c ∧ c.vm.isStatics = false := by
  obtain ⟨c, _, h1, -, -, h4, -⟩ := A; exact ⟨c, h1, h4⟩
theorem AL.plain {Z : State} {h : Heap} {a : Addr} {k : ClassId} {ty : FieldType} {vs : List Value} (A : AL Z h a k ty vs) : ∃ c : Cell, h[a]? = some c ∧ c.vm.isStatics = false := by
  obtain ⟨c, A, -⟩ := A; exact ⟨c, A.1, A.plain⟩
theorem AL.safe {Z : State} {EL : List (String × Nat)} {vm : Vm} {h : Heap} {a : Addr} {k : ClassId} {ty : FieldType} {vs : List Value} (A : AL Z h a k ty vs) (hal : Z.vm.Alike vm) (ht : ty ≠ .byte) : Safe Z EL vm h a := by
  obtain ⟨c, A, -⟩ := A; exact Safe.arr hal A ht
theorem nin1 {x y : Addr} (q : x ≠ y) : x ∉ [y] := fun z => q (List.mem_singleton.mp z)
end Jvm.Ow
namespace Jvm.Ow
open Sem ClassFile Op Lib Jvm.Stand Jvm.Free Jvm.LawKit Jvm.RoadKit
section Starts
variable {args : Array Value} {s : State} {t u : Term} {x : Addr} {C n d : String} {cl : Cell} {ty : FieldType}
theorem eqI_at {k : Int32} (h : (Cond.eq t (.int k)).value args s none s [] = some true) : t.eval args s none [] s = some (.int k) := by
  simp only [Cond.value, Term.eval] at h
  cases ht : t.eval args s none [] s with
  | none => simp [ht] at h
  | some v => cases v <;> simp [ht] at h ⊢ <;> exact h
theorem eqJ_at {k : Int64} (h : (Cond.eq t (.long k)).value args s none s [] = some true) : t.eval args s none [] s = some (.long k) := by
  simp only [Cond.value, Term.eval] at h
  cases ht : t.eval args s none [] s with
  | none => simp [ht] at h
  | some v => cases v <;> simp [ht] at h ⊢ <;> exact h
theorem eqR_at (h : (Cond.eq t u).value args s none s [] = some true) (hu : u.eval args s none [] s = some (.ref x)) : t.eval args s none [] s = some (.ref x) := by
  simp only [Cond.value, hu] at h
  cases ht : t.eval args s none [] s with
  | none => simp [ht] at h
  | some v => cases v <;> simp [ht] at h ⊢ <;> exact h
theorem fldI {k : Int32} (h : (Cond.eq (.field t C n d) (.int k)).value args s none s [] = some true) (ht : t.eval args s none [] s = some (.ref x)) : Fld s s.heap x C n d (.int k) := Fld.start (by rw [← fld_at ht]; exact eqI_at h)
theorem fldJ {k : Int64} (h : (Cond.eq (.field t C n d) (.long k)).value args s none s [] = some true) (ht : t.eval args s none [] s = some (.ref x)) : Fld s s.heap x C n d (.long k) := Fld.start (by rw [← fld_at ht]; exact eqJ_at h)
theorem fldR {y : Addr} (h : (Term.field t C n d).eval args s none [] s = some (.ref y)) (ht : t.eval args s none [] s = some (.ref x)) : Fld s s.heap x C n d (.ref y) := Fld.start (by rw [← fld_at ht]; exact h)
theorem lenAt {k : Int32} (h : (Cond.eq (.length t) (.int k)).value args s none s [] = some true) (ht : t.eval args s none [] s = some (.ref x)) (A : Arr s s.heap x cl ty) : cl.slots.size < 2147483648 ∧ cl.slots.size.toInt32 = k := by
  have q := eqI_at h
  have ha : s.arrayAt? x = some cl := A.fin (Vm.Alike.refl _)
  simp only [Term.eval, ht, ha, Option.bind_eq_bind, Option.bind_some] at q
  split at q
  · rename_i hl
    exact ⟨hl, by simpa using q⟩
  · cases q
theorem elemAt {k : Int32} {v : Value} (h : (Term.elem t (.int k)).eval args s none [] s = some v) (ht : t.eval args s none [] s = some (.ref x)) (A : Arr s s.heap x cl ty) : cl.slots[k.toNatClampNeg]? = some v := (elem_in h ht rfl A.1).2
end Starts
end Jvm.Ow
namespace Jvm.Ow
open Sem ClassFile Op Lib Jvm.Stand Jvm.Free Jvm.LawKit Jvm.RoadKit
/-- the object at a is of the class k -/
def Cel (h : Heap) (a : Addr) (k : ClassId) : Prop := ∃ c : Cell, h[a]? = some c ∧ c.cls = k ∧ c.vm = .none
section Cels
variable {h h' : Heap} {a b : Addr} {k : ClassId} {ws : List Addr} {sl : Nat} {v : Value}
theorem Cel.lt (C : Cel h a k) : a < h.size := by obtain ⟨c, q, -⟩ := C; exact (Array.getElem?_eq_some_iff.mp q).1
theorem Cel.ext (C : Cel h a k) (E : Ext h h') : Cel h' a k := by obtain ⟨c, q, r⟩ := C; exact ⟨c, E.2 _ _ q, r⟩
theorem Cel.wr (C : Cel h a k) (W : Wr h h' b sl v) : Cel h' a k := by
  obtain ⟨c, q, r1, r2⟩ := C
  obtain ⟨c', e1, e2, e3, -⟩ := wr_at W q
  exact ⟨c', e1, by rw [e2]; exact r1, by rw [e3]; exact r2⟩
theorem Cel.keep (C : Cel h a k) (K : Keep h h' ws) : Cel h' a k := by
  obtain ⟨c, q, r1, r2⟩ := C
  obtain ⟨c', e1, e2, e3, -⟩ := K.2.2 _ _ q
  exact ⟨c', e1, by rw [e2]; exact r1, by rw [e3]; exact r2⟩
end Cels
section Clones
variable {p : Program} {l : Launch} {e : Env} {R : Room} {s : State} {m : MethodId} {args : Array Value} {below : List Frame} {meth : Method} {c : Code} {T : State} {locs : List Loc} {cells slots : Nat} {G : Outcome → State → Prop} {pc : Nat} {Ls : Array Slot} {rest : List Value} {Z : State} {a0 : Array Value} {h : Heap}
/-- clone of an array -/
theorem cloneL (X : Stand p l e R s m args below meth c T locs cells slots) (hx : p.tables.exec = Jvm.exec) (hZ : Z.Warmed39 s.vm) (eT : T.heap = h) {own ad : String} {index : Nat} (hown : s.vm.findClass own = some m.cls)
    (wl : (Cond.methodLink own index ⟨ad, "clone", "()Ljava/lang/Object;"⟩).before a0 Z = true) (wsm : (Cond.sameMethod ad "java/lang/Object" "clone" "()Ljava/lang/Object;").before a0 Z = true) (wn : (Cond.native Jvm.Free.XT.objClone).before a0 Z = true) (wi : (Cond.instanceMethod Jvm.Free.XT.objClone).before a0 Z = true) (wse : (Cond.selects ad ⟨ad, "clone", "()Ljava/lang/Object;"⟩ Jvm.Free.XT.objClone).before a0 Z = true) (wca : (Cond.castable ad "java/lang/Cloneable").before a0 Z = true)
    {a : Addr} {k : ClassId} {ty : FieldType} {vs : List Value} (A : AL Z h a k ty vs) (E : Exa Z h a ad) (hfit : ∀ v ∈ vs, fits ty v = true) (n : Nat) (hn : vs.length = n) (hlen : n < 2147483648) (hsz : Ls.size = c.maxLocals) (hd : decode c.code pc = .ok (.invokevirtual index, 3)) (hf : (1 : Nat).ble R.frames = true) (hlo : ((rest.map fun v => v.category).sum + 14).ble R.locals = true) (hc : cells + 1 ≤ R.cells) (hl : slots + n ≤ R.slots)
    (K : ∀ T' h' (b : Addr), b = h.size → Stand p l e R s m args below meth c T' locs (cells + 1) (slots + n) → T'.heap = h' → Ext h h' → AL Z h' b k ty vs → Exa Z h' b ad → Go p.tables e below G (T'.setTop (mkF m (pc + 3) Ls (.ref b :: rest)))) : Go p.tables e below G (T.setTop (mkF m pc Ls (.ref a :: rest))) := by
  obtain ⟨cA, A1, r1, r2⟩ := A
  obtain ⟨cE, kE, e1, e2, e3, e4, e5⟩ := E
  have q0 : cE = cA := Option.some.inj (e1.symm.trans A1.1)
  rw [q0] at e2 e3 e4 e5
  have hs : cA.slots.size = n := by rw [r2, ← hn]; simp
  have hal : Z.vm.Alike T.vm := hZ.alike.trans X.warmed.alike
  have hw : ∀ w ∈ Jvm.Free.XT.cloneW own index ad, w.before args s = true := by
    intro w hm
    simp only [Jvm.Free.XT.cloneW, List.mem_cons, List.not_mem_nil, or_false] at hm
    rcases hm with rfl | rfl | rfl | rfl | rfl | rfl
    · exact mvT hZ wl
    · exact mvT hZ wsm
    · exact mvT hZ wn
    · exact mvT hZ wi
    · exact mvT hZ wse
    · exact mvT hZ wca
  have hty : Jvm.Free.XT.Typed ty cA := fun i v hv => hfit v (by
    rw [r2, List.getElem?_toArray] at hv
    exact List.mem_of_getElem? hv)
  have hAX : Jvm.Free.XT.Arr ty a cA T := ⟨by rw [eT]; exact A1.1, State.isArrayOf_alike hal A1.2.1, A1.2.2, by rw [hs]; omega⟩
  obtain ⟨T', B, X', hB, q1, q2, q3, q4, -, st⟩ := X.aclone hx hown hw hAX (by rw [hZ.alike.findClass]; exact e2) hty (g := mkF m pc Ls (.ref a :: rest)) rfl hsz (rest := rest) rfl hd (W := (rest.map fun v => v.category).sum) (by show 2 * 0 + _ ≤ _; omega) (Nat.le_of_ble_eq_true hf) (Nat.le_of_ble_eq_true hlo) hc (by rw [hs]; exact hl)
  rw [hs] at X'
  have hal' : Z.vm.Alike T'.vm := hZ.alike.trans X'.warmed.alike
  refine (K T' T'.heap T.heap.size (by rw [eT]) X' rfl ?_ ?_ ?_).via st
  · refine ⟨by rw [q4, eT]; simp, fun x cx q => ?_⟩
    have hlt : x < h.size := (Array.getElem?_eq_some_iff.mp q).1
    rw [q4, eT, Array.getElem?_push, if_neg (Nat.ne_of_lt hlt)]
    exact q
  · exact ⟨B, ⟨hB.1, State.isArrayOf_alike hal'.symm hB.2.1, hB.2.2.1⟩, q2.trans r1, q1.trans r2⟩
  · exact ⟨B, kE, hB.1, by rw [q2]; exact e2, by rw [q2]; exact e3, (congrArg VmData.isStatics q3).trans rfl, by rw [q1]; exact e5⟩
end Clones
/-- the site at pc of x hands out the one object a, of the class cK that the rule has made for σ -/
def Lam (Z : State) (x : MethodName) (pc : Nat) (σ : Lambda.Shape) (a : Addr) (cK : ClassId) : Prop :=
  (∃ (m : MethodId) (k : Class) (i0 p0 : Nat), Z.methodNamed? x = some m ∧ Z.vm.classes[m.cls]? = some k ∧ (k.callSites.find? fun y => y.1 == m.idx && y.2.1 == pc) = some (i0, p0, .constant a)) ∧ Jvm.LamKit.Made Z x.cls σ cK
theorem Lam.start {Z : State} {a0 : Array Value} {x : MethodName} {pc index : Nat} {σ : Lambda.Shape} (h : (Cond.lambdaSite x pc index σ).before a0 Z = true) (hcap : σ.captured = []) : ∃ a cK, Lam Z x pc σ a cK ∧ Cel Z.heap a cK := by
  obtain ⟨cK, one, hat⟩ := Cond.lambdaSite_spec h
  obtain ⟨mD, kD, cfD, i0, p0, lk, hmD, hkD, -, -, -, hfind, hmade, hcan, hl⟩ := State.lambdaAt?_spec hat
  obtain ⟨kD', hkD', hnameD⟩ := className_of_methodNamed hmD
  have q0 : kD' = kD := Option.some.inj (hkD'.symm.trans hkD)
  rw [q0] at hnameD
  rcases hl with ⟨a, cell, rfl, -, -, hcell, hcls, hvm, -⟩ | ⟨-, -, hne⟩
  · exact ⟨a, cK, ⟨⟨mD, kD, i0, p0, hmD, hkD, hfind⟩, ⟨_, kD, hkD, hnameD, hmade, hcan⟩⟩, ⟨cell, hcell, hcls, hvm⟩⟩
  · exact absurd hcap hne
theorem Lam.fnx {Z s : State} {a0 : Array Value} {x xi : MethodName} {pc : Nat} {σ : Lambda.Shape} {a : Addr} {cK : ClassId} {fcode : ByteArray} {fml idx ci : Nat} {fret : Option FieldType} (Lm : Lam Z x pc σ a cK) (hok : Jvm.LamKit.fwdOK σ x.cls fcode fml fret idx ci = true)
    (hface : (Cond.interfaceMethod xi.cls xi.cls xi.name xi.desc).before a0 Z = true) (hxi : xi.cls = σ.iface ∧ xi.name = σ.name ∧ xi.desc = σ.sam.toString) (hal : Z.vm.Alike s.vm) : Jvm.Free.HMW.FnX xi cK ⟨cK, 1⟩ s := by
  obtain ⟨kF, methK, h1, h2, h3, h4, h5⟩ := Jvm.LamKit.madeSelects Lm.2 hok hface hxi
  obtain ⟨kF', g1, -⟩ := hal.2.2 _ _ h1
  refine ⟨kF', methK, g1, by rw [hal.method?]; exact h2, h3, h4, fun r0 r hr0 hr => ?_⟩
  have q0 : Z.methodNamed? xi = some r0 := (State.methodNamed?_setVm (s := Z) hal xi).symm.trans hr0
  obtain ⟨w1, w2, w3⟩ := h5 r0 r q0 (by rw [← hal.method?]; exact hr)
  refine ⟨by rw [hal.assignable]; exact w1, by rw [hal.selectMethod]; exact w2, ?_⟩
  simp only [hal.superclasses, hal.declaredIn]
  exact w3
theorem methodReady39 {Z : State} {vm' : Vm} (hW : Z.Warmed39 vm') {cK i : Nat} {t : MethodId} (h : Z.vm.methodReady cK i t) : vm'.methodReady cK i t := by
  obtain ⟨k, hk, hr⟩ := h
  obtain ⟨k', hk', -, -, hres, -⟩ := hW.2.2.2 _ _ hk
  refine ⟨k', hk', ?_⟩
  rcases hres i with q | ⟨q, -⟩
  · rw [q]; exact hr
  · rw [hr] at q; cases q
theorem classReady39 {Z : State} {vm' : Vm} (hW : Z.Warmed39 vm') {cK i : Nat} {t : ClassId} (h : Z.vm.classReady cK i t) : vm'.classReady cK i t := by
  obtain ⟨k, hk, hr⟩ := h
  obtain ⟨k', hk', -, -, hres, -⟩ := hW.2.2.2 _ _ hk
  refine ⟨k', hk', ?_⟩
  rcases hres i with q | ⟨q, -⟩
  · rw [q]; exact hr
  · rw [hr] at q; cases q
section Lams
variable {p : Program} {l : Launch} {e : Env} {R : Room} {s : State} {m : MethodId} {args : Array Value} {below : List Frame} {meth : Method} {c : Code} {T : State} {locs : List Loc} {cells slots : Nat} {G : Outcome → State → Prop} {pc : Nat} {Ls : Array Slot} {rest : List Value} {Z : State} {a0 : Array Value} {h : Heap}
/-- invokedynamic at a site that captures nothing -/
theorem indyConst (X : Stand p l e R s m args below meth c T locs cells slots) (hx : p.tables.exec = Jvm.exec) (hZ : Z.Warmed39 s.vm) {x : MethodName} {σ : Lambda.Shape} {a : Addr} {cK : ClassId} {index : Nat} (Lm : Lam Z x pc σ a cK) (hn : Z.methodNamed? x = some m) (hsz : Ls.size = c.maxLocals)
    (hd : decode c.code pc = .ok (.invokedynamic index, 5)) (hlo : ((rest.map fun v => v.category).sum + 3072).ble R.locals = true) (K : Go p.tables e below G (T.setTop (mkF m (pc + 5) Ls (.ref a :: rest)))) : Go p.tables e below G (T.setTop (mkF m pc Ls rest)) := by
  obtain ⟨⟨mD, kD, i0, p0, h1, h2, h3⟩, -⟩ := Lm
  have hm : mD = m := Option.some.inj (h1.symm.trans hn)
  rw [hm] at h2 h3
  obtain ⟨k', g1, g2⟩ := hZ.alike.2.2 _ _ h2
  refine K.via fun target r => X.lambdaConstant hx (g := mkF m pc Ls rest) rfl hsz hd (k := k') g1 (i0 := i0) (p0 := p0) (a := a) (by rw [g2]; exact h3) ?_ r
  have hw : e.platform.lambdaLinkWords = 3072 := by rw [X.admits.platform]
  rw [hw]
  show 2 * 0 + (rest.map fun v => v.category).sum + 3072 ≤ _
  have := Nat.le_of_ble_eq_true hlo
  omega
/-- a call of a Function 'C::m' that captures nothing: aload_1, checkcast, invokevirtual, areturn -/
theorem callFnP (X : Stand p l e R s m args below meth c T locs cells slots) (hx : p.tables.exec = Jvm.exec) (hZ : Z.Warmed39 s.vm) {y : MethodName} {bytes : ByteArray} {maxL : Nat} {ret : Option FieldType} {rm : Room} {ra : Addr} {r : Value} {h0 : Heap}
    (hP : Pay l Z y bytes maxL ret rm #[.ref ra] h0 (fun v h L => v = some r ∧ h = h0 ∧ L = [])) (h0c : rm.cells = 0) (h0s : rm.slots = 0) (hrr : r.isRef = true) (eT : T.heap = h0) {x : MethodName} {pcS : Nat} {σ : Lambda.Shape} {a : Addr} {cK : ClassId} (Lm : Lam Z x pcS σ a cK) (Cl : Cel h0 a cK)
    {fcode : ByteArray} {idx ci : Nat} (hok : Jvm.LamKit.fwdOK σ x.cls fcode 2 (some (.object "java/lang/Object")) idx ci = true) (f0 : decode fcode 0 = .ok (.aload_n 1, 1)) (f1 : decode fcode 1 = .ok (.checkcast ci, 3)) (f4 : decode fcode 4 = .ok (.invokevirtual idx, 3)) (f7 : decode fcode 7 = .ok (.areturn, 1))
    {own : String} {index cnt : Nat} {xi : MethodName} (hown : s.vm.findClass own = some m.cls) (wl : (Cond.methodLink own index xi).before a0 Z = true) (wd : (Cond.declares xi).before a0 Z = true) (wf : (Cond.interfaceMethod xi.cls xi.cls xi.name xi.desc).before a0 Z = true)
    (hxi : xi.cls = σ.iface ∧ xi.name = σ.name ∧ xi.desc = σ.sam.toString) (hyi : y.cls = σ.implClass ∧ y.name = σ.implName ∧ y.desc = σ.implDesc.toString) (hxn : xi.cls ≠ "java/lang/invoke/MethodHandle" ∧ xi.cls ≠ "java/lang/invoke/VarHandle") (hyn : y.cls ≠ "java/lang/invoke/MethodHandle" ∧ y.cls ≠ "java/lang/invoke/VarHandle")
    (wyc : (Cond.code y bytes maxL ret).before a0 Z = true) (wyi : (Cond.instanceMethod y).before a0 Z = true) (wys : (Cond.selects y.cls y y).before a0 Z = true) (wyz : (Cond.initialized y.cls).before a0 Z = true)
    {ps : List FieldType} {rt rt2 : Option FieldType} (hpd : parseMethodDescriptor xi.desc = some ⟨ps, rt⟩) (hp1 : ps.length = 1) (hpy : parseMethodDescriptor y.desc = some ⟨[], rt2⟩) (E : Exa Z h0 ra y.cls) (hsz : Ls.size = c.maxLocals) (hd : decode c.code pc = .ok (.invokeinterface index cnt, 5))
    (hf : (rm.frames + 2).ble R.frames = true) (hlo : ((rest.map fun v => v.category).sum + 13 + ((maxL + 11) + rm.locals)).ble R.locals = true) (hce : cells ≤ R.cells) (hsl : slots ≤ R.slots)
    (K : ∀ T', Stand p l e R s m args below meth c T' locs cells slots → T'.heap = h0 → Go p.tables e below G (T'.setTop (mkF m (pc + 5) Ls (r :: rest)))) : Go p.tables e below G (T.setTop (mkF m pc Ls (.ref ra :: .ref a :: rest))) := by
  obtain ⟨cr, kr, e1, e2, e3, e4, -⟩ := E
  obtain ⟨d, dk, hdk, hdn, hmade, -⟩ := id Lm.2
  obtain ⟨kK, tk, file, methk, ck, toy, t, nt, hkK, hpn, hfile, hidx, hnt, hmk, hck, hbytes, hml, hlk, -, hretk, htoy, htk, hlook, hready, hclsR⟩ := Jvm.LamKit.made_static hok hdk hdn hmade
  rw [← hyi.1] at htoy
  have q0 : toy = cr.cls := Option.some.inj (htoy.symm.trans e2)
  rw [q0] at htk hlook hclsR
  obtain ⟨mT, hmT⟩ := Cond.code_named wyc
  have q1 : t = mT := by
    have h1 := Jvm.Free.Fw.look_of_named hmT hyn _ _ e2 htk
    rw [hyi.2.1, hyi.2.2] at h1
    exact Except.ok.inj (hlook.symm.trans h1)
  rw [q1] at hready
  have hitf : tk.isInterface = false := by
    obtain ⟨c2, r2, m2, s1, -, s3, -, kP, s5, s6⟩ := Cond.selects_spec wys
    have w1 : m2 = mT := Option.some.inj (s3.symm.trans hmT)
    rw [w1, show mT.cls = cr.cls from Option.some.inj ((findClass_of_methodNamed hmT).symm.trans e2)] at s5
    have w2 : kP = tk := Option.some.inj (s5.symm.trans htk)
    rw [← w2]; exact s6
  have hfnw : ∀ w ∈ Jvm.Free.Fn.fnW own index xi, w.before args s = true := by
    intro w hm
    simp only [Jvm.Free.Fn.fnW, List.mem_cons, List.not_mem_nil, or_false] at hm
    rcases hm with rfl | rfl | rfl
    · exact mvT hZ wl
    · exact mvT hZ wd
    · exact mvT hZ wf (by simp [Cond.onTables, Cond.keepsFace, Cond.keeps, Cond.steady, Cond.faceAtom, hxn.1, hxn.2])
  have hK := Jvm.Free.Fw.cap0p1cVR (l := l) (p := p) (e := e) hx (Rm := R) (R' := { frames := rm.frames + 1, cells := 0, slots := 0, locals := 0 + (maxL + 11) + rm.locals }) (below' := below) (s' := s) (sargs' := args) (cK := cK) (mi := idx) (ci1 := ci) (cT1 := cr.cls) (cB := cr.cls) (y := y) (methk := methk) (ck := ck) (len := 5) (W := (rest.map fun v => v.category).sum)
    (by rw [hbytes]; exact f0) (by rw [hbytes]; exact f1) (by rw [hbytes]; exact f4) (by rw [hbytes]; exact f7)
    (fun U hU => by
      have hZU : Z.Warmed39 U.vm := wtrans hZ hU
      obtain ⟨kK', g1, g2⟩ := hZU.alike.2.2 _ _ hkK
      obtain ⟨tk', g3, g4⟩ := hZU.alike.2.2 _ _ htk
      refine ⟨⟨by rw [hZU.alike.method?]; exact hmk, hck, hlk, State.plainMethod.of_name (fun k' hk' => ?_), hml, hretk⟩, classReady39 hZU hclsR, ?_⟩
      · have w3 : k' = kK' := Option.some.inj (hk'.symm.trans g1)
        rw [w3, g2]; exact hpn
      · exact Jvm.Free.Fw.VirtualAt.of_made (l := l) X.admits g1 (by rw [g2]; exact hfile) hidx (methodReady39 hZU hready) (classReady39 hZU hclsR) (by rw [hZU.alike.findClass]; exact e2) g3 (by rw [g4]; exact hitf) ((State.methodNamed?_setVm (s := Z) hZU.alike y).trans hmT) hyn (mv hZU wyc) (mv hZU wyi) (mv hZU wys) hpy rfl)
    (PreT := fun A a => a = #[.ref ra] ∧ A.U.heap = h0 ∧ A.cells + rm.cells ≤ 0 ∧ A.slots + rm.slots ≤ 0)
    (PostT := fun A _ v B => ∃ L, (v = some r ∧ B.U.heap = h0 ∧ L = []) ∧ B.locs = A.locs ++ L ∧ B.cells = A.cells + rm.cells ∧ B.slots = A.slots + rm.slots)
    (fun U g a hU => backOf (W := 0) (R := { frames := rm.frames + 1, cells := 0, slots := 0, locals := 0 + (maxL + 11) + rm.locals }) (rm := rm) (as' := #[.ref ra]) (h := h0) (Q := fun v h L => v = some r ∧ h = h0 ∧ L = []) (hP []) (show Z.Warmed39 (U.calling g ⟨cK, 1⟩ a).vm from wtrans hZ hU) wyc wyz (Nat.le_refl _) (Nat.le_refl _))
    (fun A a v B _ hpo => by
      obtain ⟨L, ⟨rfl, -, -⟩, -⟩ := hpo
      exact ⟨r, rfl, hrr⟩)
    (by have := Nat.le_of_ble_eq_true hf; show rm.frames + 1 + 1 ≤ R.frames; omega) (by have := Nat.le_of_ble_eq_true hlo; show _ + (2 + 11) + (0 + (maxL + 11) + rm.locals) ≤ R.locals; omega)
  obtain ⟨cl, l1, l2, l3⟩ := Cl
  obtain ⟨v, vm1, ⟨T1, L1, k1, n1⟩, hW1, X1, hpost, st1⟩ := X.fnAt hx (own := own) (index := index) (count := cnt) (xi := xi) hown hfnw hxn (Lm.fnx hok wf hxi hZ.alike) hK (fun _ _ => rfl) (b := a) ⟨cl, by rw [eT]; exact l1, l2, by rw [l3]; rfl⟩ (g := mkF m pc Ls (.ref ra :: .ref a :: rest)) rfl hsz (Steps.refl _) (argsL := [.ref ra]) (rest := rest) (lenOf hpd (by rw [hp1]; rfl)) rfl (by show 2 * 0 + _ ≤ _; omega) hd
    (fun vm1 hW => by
      have hal1 : Z.vm.Alike vm1 := hZ.alike.trans hW.alike
      obtain ⟨ks, hks, -⟩ := hal1.2.2 _ _ e3
      have hc : T.heap[ra]? = some cr := by rw [eT]; exact e1
      have hst : ∀ q, cr.vm ≠ .statics q := fun q hq => by rw [hq] at e4; cases e4
      exact ⟨a, ra, cr, rfl, hc, rfl, hst, Or.inr ⟨ra, cr, ks, ks, rfl, hc, hst, hks, hks, by simp [Vm.assignable_self]⟩, hce, hsl, fun U₀ _ h2 => ⟨rfl, h2.trans eT, by show 0 + rm.cells ≤ 0; omega, by show 0 + rm.slots ≤ 0; omega⟩⟩)
  dsimp only [Pt.U, Pt.locs, Pt.cells, Pt.slots] at X1 hpost st1
  obtain ⟨ra', U₀, U₁, L₁, c₁, n₁, -, -, -, ⟨L, ⟨rfl, hh, rfl⟩, hl, hcc, hss⟩, hB1, -, hBl, hBc, hBs⟩ := hpost
  rw [hBl, hBc, hBs, hl, hcc, hss, h0c, h0s] at X1
  exact (K T1 (by simpa using X1) (hB1.trans hh)).thru st1
end Lams
end Jvm.Ow
/- laws to paste: Road.backV (cut by pick.py; bodies as the Statement names them) -/
namespace Jvm.Pilot.@@N@@
namespace StrChars
open Jvm Sem ClassFile Op Lib Jvm.Stand Jvm.Free.XT Jvm.Free.ALB Jvm.Free.JM Jvm.Free
open Jvm.Lib.Cold (StaticIs)
/-- a char array whose places are chars -/
def Ch (a : Addr) (A : Cell) (U : State) : Prop := Arr .char a A U ∧ Typed .char A
theorem Ch.mv {a : Addr} {A : Cell} {U U' : State} (h : Ch a A U) (hal : U.vm.Alike U'.vm) (hh : U'.heap = U.heap) : Ch a A U' := ⟨h.1.mv hal hh, h.2⟩
theorem Ch.keep {a : Addr} {A : Cell} {U U' : State} (h : Ch a A U) (hal : U.vm.Alike U'.vm) (hk : U'.heap[a]? = some A) : Ch a A U' := ⟨h.1.keep hal hk, h.2⟩
/-- what place i of a char[]'s cell holds -/
def cv (A : Cell) (i : Nat) : Int32 := match A.slots[i]? with | some (.int x) => x | _ => 0
theorem Ch.get {a : Addr} {A : Cell} {U : State} (h : Ch a A U) {i : Nat} (hi : i < A.slots.size) : A.slots[i]? = some (.int (cv A i)) := by
  have e := Array.getElem?_eq_getElem hi
  have f := h.2 i _ e
  unfold cv; rw [e]
  generalize A.slots[i] = v at f
  cases v <;> simp [fits] at f ⊢
/-- the byte that i2b leaves of a char -/
def lo8 (x : Int32) : Int32 := x.toInt8.toInt32
theorem fits_lo8 (y : Int32) : fits .byte (.int (lo8 y)) = true := by
  have h1 := y.toInt8.le_toInt
  have h2 := y.toInt8.toInt_lt
  simp only [lo8, fits, Bool.and_eq_true, decide_eq_true_eq, Int32.le_iff_toInt_le, Int8.toInt_toInt32, show (-128 : Int32).toInt = -128 from by decide, show (127 : Int32).toInt = 127 from by decide]
  omega
/-- A' is A but that each place j of lo .. hi - 1 holds f j -/
def Laid (A A' : Cell) (lo hi : Nat) (f : Nat → Value) : Prop := A'.cls = A.cls ∧ A'.vm = A.vm ∧ A'.slots.size = A.slots.size ∧ ∀ i, A'.slots[i]? = if lo ≤ i ∧ i < hi then some (f i) else A.slots[i]?
theorem Laid.zero (A : Cell) (lo : Nat) (f : Nat → Value) : Laid A A lo (lo + 0) f := ⟨rfl, rfl, rfl, fun i => by rw [if_neg (by omega)]⟩
theorem Laid.step {A Ak : Cell} {lo k : Nat} {f : Nat → Value} {v : Value} (h : Laid A Ak lo k f) (hlo : lo ≤ k) (hk : k < Ak.slots.size) (hv : v = f k) : Laid A (Ak.setSlot k v) lo (k + 1) f := by
  refine ⟨h.1, h.2.1, by simpa [Cell.setSlot] using h.2.2.1, fun i => ?_⟩
  by_cases e : k = i
  · subst e; rw [Cell.slots_setSlot_self v hk, if_pos (by omega), hv]
  · rw [Cell.slots_setSlot_ne v e, h.2.2.2 i]
    by_cases q : lo ≤ i ∧ i < k
    · rw [if_pos q, if_pos (by omega)]
    · rw [if_neg q, if_neg (by omega)]
def U16 : String := "java/lang/StringUTF16"
namespace Cmp5
def yN : MethodName := ⟨"java/lang/StringUTF16", "compress", "([CI[BII)I"⟩
abbrev yB : ByteArray := jdk_52_method_21_code
theorem d0 : decode yB 0 = .ok (.iconst 0, 1) := by decide +kernel
theorem d1 : decode yB 1 = .ok (.istore 5, 2) := by decide +kernel
theorem d3 : decode yB 3 = .ok (.iload 5, 2) := by decide +kernel
theorem d5 : decode yB 5 = .ok (.iload 4, 2) := by decide +kernel
theorem d7 : decode yB 7 = .ok (.if_icmp (.ge) 37, 3) := by decide +kernel
theorem d10 : decode yB 10 = .ok (.aload_n 0, 1) := by decide +kernel
theorem d11 : decode yB 11 = .ok (.iload_n 1, 1) := by decide +kernel
theorem d12 : decode yB 12 = .ok (.caload, 1) := by decide +kernel
theorem d13 : decode yB 13 = .ok (.istore 6, 2) := by decide +kernel
theorem d15 : decode yB 15 = .ok (.iload 6, 2) := by decide +kernel
theorem d17 : decode yB 17 = .ok (.sipush 255, 3) := by decide +kernel
theorem d20 : decode yB 20 = .ok (.if_icmp (.le) 6, 3) := by decide +kernel
theorem d26 : decode yB 26 = .ok (.aload_n 2, 1) := by decide +kernel
theorem d27 : decode yB 27 = .ok (.iload_n 3, 1) := by decide +kernel
theorem d28 : decode yB 28 = .ok (.iload 6, 2) := by decide +kernel
theorem d30 : decode yB 30 = .ok (.i2b, 1) := by decide +kernel
theorem d31 : decode yB 31 = .ok (.bastore, 1) := by decide +kernel
theorem d32 : decode yB 32 = .ok (.iinc 1 1, 3) := by decide +kernel
theorem d35 : decode yB 35 = .ok (.iinc 3 1, 3) := by decide +kernel
theorem d38 : decode yB 38 = .ok (.iinc 5 1, 3) := by decide +kernel
theorem d41 : decode yB 41 = .ok (.goto (-38), 3) := by decide +kernel
theorem d44 : decode yB 44 = .ok (.iload 4, 2) := by decide +kernel
theorem d46 : decode yB 46 = .ok (.ireturn, 1) := by decide +kernel
def site : List Cond := []
def tab : Cond := tabOf yN yB 7 (some .int) site
def P (b : Addr) (A : Cell) (d : Addr) (B : Cell) (o q len : Nat) (args : Array Value) (s : State) : Prop := args = #[.ref b, .int (Int32.ofNat o), .ref d, .int (Int32.ofNat q), .int (Int32.ofNat len)] ∧ Ch b A s ∧ Arr .byte d B s ∧ b ≠ d ∧ o + len ≤ A.slots.size ∧ q + len ≤ B.slots.size ∧ ∀ i, i < len → ¬ 255 < cv A (o + i)
def E (b : Addr) (A : Cell) (d : Addr) (B : Cell) (o q len : Nat) (r : Option Value) (s u : State) : Prop := r = some (.int (Int32.ofNat len)) ∧ ∃ B', Put d B' s u ∧ Laid B B' q (q + len) (fun j => Value.int (lo8 (cv A (o + (j - q)))))
/-- no char of the range above 255: len; the places written hold each char's low byte -/
theorem law (l : Launch) (b : Addr) (A : Cell) (d : Addr) (B : Cell) (o q len : Nat) : Law l yN 5 5 0 0 yB 7 (some .int) site (P b A d B o q len) (E b A d B o q len) (copyLocs d q len) 0 0 := by
  refine Law.of_walk (plainFor_of_name (by decide +kernel)) (by decide +kernel) (by decide +kernel) (by decide) (fun _ _ h => by rw [h.1]; rfl) (fun _ U U' hal hh h => ⟨h.1, h.2.1.mv hal hh, h.2.2.1.mv hal hh, h.2.2.2⟩) (fun r U U' V V' h1 hal h2 h => ⟨h.1, h.2.elim fun B' q => ⟨B', q.1.mv h1 h2, q.2⟩⟩) ?_
  intro p e s m args below meth c s₁ X0 hexec hbytes hml hret hlk hnm hown hh0 W hP
  obtain ⟨rfl, hA, hB, hne, l1, l2, hp⟩ := hP
  have c1 : Steps p.tables e below (s₁.setTop (entryFrame m #[.ref b, .int (Int32.ofNat o), .ref d, .int (Int32.ofNat q), .int (Int32.ofNat len)] 7)) (s₁.setTop (mkF m 0 #[.val (.ref b), .val (.int (Int32.ofNat o)), .val (.ref d), .val (.int (Int32.ofNat q)), .val (.int (Int32.ofNat len)), .unset, .unset] [])) := entry rfl
  have hA0 := hA.1.mv X0.warmed.alike hh0
  have hB0 := hB.mv X0.warmed.alike hh0
  have a31 := hA.1.2.2.2
  have c2 : Steps p.tables e below (s₁.setTop (entryFrame m #[.ref b, .int (Int32.ofNat o), .ref d, .int (Int32.ofNat q), .int (Int32.ofNat len)] 7)) (s₁.setTop (mkF m 3 #[.val (.ref b), .val (.int (Int32.ofNat o)), .val (.ref d), .val (.int (Int32.ofNat q)), .val (.int (Int32.ofNat len)), .val (.int 0), .unset] [])) := c1.trans (by
    refine iconstV X0.here hexec rfl 0 (hb hbytes d0) (by decide) ?_
    refine XS.istore X0.here hexec rfl (hb hbytes d1) rfl rfl ?_
    exact Steps.refl _)
  have loop : ∀ (r i : Nat), i + r = len → ∀ (z : Slot), (z = .unset ∨ ∃ w, z = .val w ∧ w.category = 1) → ∀ (Tl : State) (Bk : Cell), Stand p l e { frames := 0, locals := 0, cells := 0, slots := 0 } s m #[.ref b, .int (Int32.ofNat o), .ref d, .int (Int32.ofNat q), .int (Int32.ofNat len)] below meth c Tl ([] ++ copyLocs d q i) 0 0 → Put d Bk s₁ Tl → Laid B Bk q (q + i) (fun j => Value.int (lo8 (cv A (o + (j - q))))) →
      Steps p.tables e below (s₁.setTop (entryFrame m #[.ref b, .int (Int32.ofNat o), .ref d, .int (Int32.ofNat q), .int (Int32.ofNat len)] 7)) (Tl.setTop (mkF m 3 #[.val (.ref b), .val (.int (Int32.ofNat (o + i))), .val (.ref d), .val (.int (Int32.ofNat (q + i))), .val (.int (Int32.ofNat len)), .val (.int (Int32.ofNat i)), z] [])) → ∃ (T' : State) (B' : Cell) (z' : Slot), Stand p l e { frames := 0, locals := 0, cells := 0, slots := 0 } s m #[.ref b, .int (Int32.ofNat o), .ref d, .int (Int32.ofNat q), .int (Int32.ofNat len)] below meth c T' ([] ++ copyLocs d q len) 0 0 ∧ Put d B' s₁ T' ∧ Laid B B' q (q + len) (fun j => Value.int (lo8 (cv A (o + (j - q))))) ∧
      Steps p.tables e below (s₁.setTop (entryFrame m #[.ref b, .int (Int32.ofNat o), .ref d, .int (Int32.ofNat q), .int (Int32.ofNat len)] 7)) (T'.setTop (mkF m 3 #[.val (.ref b), .val (.int (Int32.ofNat (o + len))), .val (.ref d), .val (.int (Int32.ofNat (q + len))), .val (.int (Int32.ofNat len)), .val (.int (Int32.ofNat len)), z'] [])) := by
    intro r
    induction r with
    | zero =>
      intro i hi z hz Tl Bk Xl pl fl cl
      have hil : i = len := by omega
      rw [hil] at Xl fl cl
      exact ⟨Tl, Bk, z, Xl, pl, fl, cl⟩
    | succ r ih =>
      intro i hi z hz Tl Bk Xl pl fl cl
      have all := X0.warmed.alike.symm.trans Xl.warmed.alike
      have hAl := hA0.keep all (pl.other hne hA0.1)
      have hBk := hB0.like all pl.1 fl.1 fl.2.1 fl.2.2.1
      have hlt : q + i < Bk.slots.size := by rw [fl.2.2.1]; omega
      have c3 : Steps p.tables e below (s₁.setTop (entryFrame m #[.ref b, .int (Int32.ofNat o), .ref d, .int (Int32.ofNat q), .int (Int32.ofNat len)] 7)) (Tl.setTop (mkF m 12 #[.val (.ref b), .val (.int (Int32.ofNat (o + i))), .val (.ref d), .val (.int (Int32.ofNat (q + i))), .val (.int (Int32.ofNat len)), .val (.int (Int32.ofNat i)), z] [.int (Int32.ofNat (o + i)), .ref b])) := cl.trans (by
        refine XS.iload Xl.here hexec rfl (hb hbytes d3) rfl ?_
        refine XS.iload Xl.here hexec rfl (hb hbytes d5) rfl ?_
        refine XS.icmpNo Xl.here hexec rfl (hb hbytes d7) rfl (ii_ge_f (lt32 (by omega) (by omega))) ?_
        refine XS.aloadN Xl.here hexec rfl (hb hbytes d10) rfl rfl ?_
        refine XS.iloadN Xl.here hexec rfl (hb hbytes d11) rfl ?_
        exact Steps.refl _)
      have c4 : Steps p.tables e below (s₁.setTop (entryFrame m #[.ref b, .int (Int32.ofNat o), .ref d, .int (Int32.ofNat q), .int (Int32.ofNat len)] 7)) (Tl.setTop (mkF m 13 #[.val (.ref b), .val (.int (Int32.ofNat (o + i))), .val (.ref d), .val (.int (Int32.ofNat (q + i))), .val (.int (Int32.ofNat len)), .val (.int (Int32.ofNat i)), z] [.int (cv A (o + i))])) := c3.trans (by
        refine Xl.aget hexec hAl rfl (hA.get (i := o + i) (by omega)) rfl rfl (hb hbytes d12) ?_
        exact Steps.refl _)
      have c5 : Steps p.tables e below (s₁.setTop (entryFrame m #[.ref b, .int (Int32.ofNat o), .ref d, .int (Int32.ofNat q), .int (Int32.ofNat len)] 7)) (Tl.setTop (mkF m 15 #[.val (.ref b), .val (.int (Int32.ofNat (o + i))), .val (.ref d), .val (.int (Int32.ofNat (q + i))), .val (.int (Int32.ofNat len)), .val (.int (Int32.ofNat i)), .val (.int (cv A (o + i)))] [])) := c4.trans (by
        refine XS.istoreS Xl.here hexec rfl (hb hbytes d13) rfl rfl hz ?_
        exact Steps.refl _)
      have c6 : Steps p.tables e below (s₁.setTop (entryFrame m #[.ref b, .int (Int32.ofNat o), .ref d, .int (Int32.ofNat q), .int (Int32.ofNat len)] 7)) (Tl.setTop (mkF m 31 #[.val (.ref b), .val (.int (Int32.ofNat (o + i))), .val (.ref d), .val (.int (Int32.ofNat (q + i))), .val (.int (Int32.ofNat len)), .val (.int (Int32.ofNat i)), .val (.int (cv A (o + i)))] [.int (lo8 (cv A (o + i))), .int (Int32.ofNat (q + i)), .ref d])) := c5.trans (by
        refine XS.iload Xl.here hexec rfl (hb hbytes d15) rfl ?_
        refine sipushV Xl.here hexec rfl 255 (hb hbytes d17) (by decide) ?_
        refine XS.icmpYes Xl.here hexec rfl (pc0 := 20) rfl (hb hbytes d20) rfl (ii_le_t (hp i (by omega))) (by decide) rfl ?_
        refine XS.aloadN Xl.here hexec rfl (hb hbytes d26) rfl rfl ?_
        refine XS.iloadN Xl.here hexec rfl (hb hbytes d27) rfl ?_
        refine XS.iload Xl.here hexec rfl (hb hbytes d28) rfl ?_
        refine i2b Xl.here hexec rfl (hb hbytes d30) rfl ?_
        exact Steps.refl _)
      obtain ⟨T7, X7, p7, st7⟩ := Xl.aput hexec hBk rfl hlt rfl (fits_lo8 (cv A (o + i))) (g := (mkF m 31 #[.val (.ref b), .val (.int (Int32.ofNat (o + i))), .val (.ref d), .val (.int (Int32.ofNat (q + i))), .val (.int (Int32.ofNat len)), .val (.int (Int32.ofNat i)), .val (.int (cv A (o + i)))] [.int (lo8 (cv A (o + i))), .int (Int32.ofNat (q + i)), .ref d])) rfl (rest := []) rfl (hb hbytes d31)
      have c8 : Steps p.tables e below (s₁.setTop (entryFrame m #[.ref b, .int (Int32.ofNat o), .ref d, .int (Int32.ofNat q), .int (Int32.ofNat len)] 7)) (T7.setTop (mkF m 32 #[.val (.ref b), .val (.int (Int32.ofNat (o + i))), .val (.ref d), .val (.int (Int32.ofNat (q + i))), .val (.int (Int32.ofNat len)), .val (.int (Int32.ofNat i)), .val (.int (cv A (o + i)))] [])) := c6.trans (st7 _ (Steps.refl _))
      have c9 : Steps p.tables e below (s₁.setTop (entryFrame m #[.ref b, .int (Int32.ofNat o), .ref d, .int (Int32.ofNat q), .int (Int32.ofNat len)] 7)) (T7.setTop (mkF m 3 #[.val (.ref b), .val (.int (Int32.ofNat (o + i) + 1)), .val (.ref d), .val (.int (Int32.ofNat (q + i) + 1)), .val (.int (Int32.ofNat len)), .val (.int (Int32.ofNat i + 1)), .val (.int (cv A (o + i)))] [])) := c8.trans (by
        refine iincV X7.here hexec rfl 1 (hb hbytes d32) (by decide) rfl rfl ?_
        refine iincV X7.here hexec rfl 1 (hb hbytes d35) (by decide) rfl rfl ?_
        refine iincV X7.here hexec rfl 1 (hb hbytes d38) (by decide) rfl rfl ?_
        refine XS.goto X7.here hexec rfl (pc0 := 41) rfl (hb hbytes d41) (by decide) rfl ?_
        exact Steps.refl _)
      have c10 : Steps p.tables e below (s₁.setTop (entryFrame m #[.ref b, .int (Int32.ofNat o), .ref d, .int (Int32.ofNat q), .int (Int32.ofNat len)] 7)) (T7.setTop (mkF m 3 #[.val (.ref b), .val (.int (Int32.ofNat (o + (i + 1)))), .val (.ref d), .val (.int (Int32.ofNat (q + (i + 1)))), .val (.int (Int32.ofNat len)), .val (.int (Int32.ofNat (i + 1))), .val (.int (cv A (o + i)))] [])) := by
        have := c9
        rw [succ32, succ32, succ32] at this
        exact this
      exact ih (i + 1) (by omega) _ (Or.inr ⟨_, rfl, rfl⟩) T7 _ (by rw [copyLocs_step, ← List.append_assoc]; exact X7) (pl.trans p7) (fl.step (by omega) hlt (by simp)) c10
  obtain ⟨T9, B9, z9, X9, p9, f9, g9⟩ := loop len 0 (by omega) .unset (Or.inl rfl) s₁ B (by simpa [copyLocs] using X0) ⟨hB0.1, fun _ _ => rfl, rfl⟩ (Laid.zero _ _ _) c2
  have c11 : Steps p.tables e below (s₁.setTop (entryFrame m #[.ref b, .int (Int32.ofNat o), .ref d, .int (Int32.ofNat q), .int (Int32.ofNat len)] 7)) (T9.setTop (mkF m 46 #[.val (.ref b), .val (.int (Int32.ofNat (o + len))), .val (.ref d), .val (.int (Int32.ofNat (q + len))), .val (.int (Int32.ofNat len)), .val (.int (Int32.ofNat len)), z9] [.int (Int32.ofNat len)])) := g9.trans (by
    refine XS.iload X9.here hexec rfl (hb hbytes d3) rfl ?_
    refine XS.iload X9.here hexec rfl (hb hbytes d5) rfl ?_
    refine XS.icmpYes X9.here hexec rfl (pc0 := 7) rfl (hb hbytes d7) rfl (ii_ge_t (nlt32 (by omega) (Nat.le_refl _))) (by decide) rfl ?_
    refine XS.iload X9.here hexec rfl (hb hbytes d44) rfl ?_
    exact Steps.refl _)
  exact ⟨T9, some (.int (Int32.ofNat len)), _, _, _, X9, by simp, rfl, rfl, (fun h => by cases h), ⟨rfl, B9, p9.from hh0, f9⟩, fun fs hl => c11.trans (X9.ireturnOut hexec hret rfl (Or.inl rfl) (hb hbytes d46) hl)⟩
end Cmp5
namespace Cmp3
def yN : MethodName := ⟨"java/lang/StringUTF16", "compress", "([CII)[B"⟩
abbrev yB : ByteArray := jdk_52_method_16_code
theorem d0 : decode yB 0 = .ok (.iload_n 2, 1) := by decide +kernel
theorem d1 : decode yB 1 = .ok (.newarray .byte, 2) := by decide +kernel
theorem d3 : decode yB 3 = .ok (.astore_n 3, 1) := by decide +kernel
theorem d4 : decode yB 4 = .ok (.aload_n 0, 1) := by decide +kernel
theorem d5 : decode yB 5 = .ok (.iload_n 1, 1) := by decide +kernel
theorem d6 : decode yB 6 = .ok (.aload_n 3, 1) := by decide +kernel
theorem d7 : decode yB 7 = .ok (.iconst 0, 1) := by decide +kernel
theorem d8 : decode yB 8 = .ok (.iload_n 2, 1) := by decide +kernel
theorem d9 : decode yB 9 = .ok (.invokestatic 115, 3) := by decide +kernel
theorem d12 : decode yB 12 = .ok (.istore 4, 2) := by decide +kernel
theorem d14 : decode yB 14 = .ok (.iload 4, 2) := by decide +kernel
theorem d16 : decode yB 16 = .ok (.iload_n 2, 1) := by decide +kernel
theorem d17 : decode yB 17 = .ok (.if_icmp (.eq) 40, 3) := by decide +kernel
theorem d57 : decode yB 57 = .ok (.aload_n 3, 1) := by decide +kernel
theorem d58 : decode yB 58 = .ok (.areturn, 1) := by decide +kernel
def site : List Cond := [.arrayClass .byte, Cmp5.tab] ++ staticW U16 115 Cmp5.yN
def tab : Cond := tabOf yN yB 6 (some (.array .byte)) site
def P (b : Addr) (A : Cell) (o len : Nat) (args : Array Value) (s : State) : Prop := args = #[.ref b, .int (Int32.ofNat o), .int (Int32.ofNat len)] ∧ Ch b A s ∧ o + len ≤ A.slots.size ∧ len ≤ 536870912 ∧ ∀ i, i < len → ¬ 255 < cv A (o + i)
def E (b : Addr) (A : Cell) (o len : Nat) (r : Option Value) (s u : State) : Prop := NewArr .byte "[B" len (fun j => .int (lo8 (cv A (o + j)))) r s u ∧ u.heap.size = s.heap.size + 1
/-- no char of the range above 255: a new byte[] of their low bytes -/
theorem law (l : Launch) (b : Addr) (A : Cell) (o len : Nat) : Law l yN 3 3 1 18 yB 6 (some (.array .byte)) site (P b A o len) (E b A o len) [] 1 len := by
  refine Law.of_walk (plainFor_of_name (by decide +kernel)) (by decide +kernel) (by decide +kernel) (by decide) (fun _ _ h => by rw [h.1]; rfl) (fun _ U U' hal hh h => ⟨h.1, h.2.1.mv hal hh, h.2.2⟩) (fun r U U' V V' h1 hal h2 h => ⟨NewArr.mv r U U' V V' h1 hal h2 h.1, by rw [h1, h2]; exact h.2⟩) ?_
  intro p e s m args below meth c s₁ X0 hexec hbytes hml hret hlk hnm hown hh0 W hP
  obtain ⟨rfl, hA, l1, l2, hp⟩ := hP
  have a31 := hA.1.2.2.2
  have c1 : Steps p.tables e below (s₁.setTop (entryFrame m #[.ref b, .int (Int32.ofNat o), .int (Int32.ofNat len)] 6)) (s₁.setTop (mkF m 0 #[.val (.ref b), .val (.int (Int32.ofNat o)), .val (.int (Int32.ofNat len)), .unset, .unset, .unset] [])) := entry rfl
  have c2 : Steps p.tables e below (s₁.setTop (entryFrame m #[.ref b, .int (Int32.ofNat o), .int (Int32.ofNat len)] 6)) (s₁.setTop (mkF m 1 #[.val (.ref b), .val (.int (Int32.ofNat o)), .val (.int (Int32.ofNat len)), .unset, .unset, .unset] [.int (Int32.ofNat len)])) := c1.trans (by
    refine XS.iloadN X0.here hexec rfl (hb hbytes d0) rfl ?_
    exact Steps.refl _)
  obtain ⟨T3, B3, X3, ba3, bs3, bv3, bh3, bf3, st3⟩ := X0.anew hexec (atype := .byte) (wk W (.arrayClass .byte)) rfl (by show len * 1 ≤ _; omega) (by omega) (g := (mkF m 1 #[.val (.ref b), .val (.int (Int32.ofNat o)), .val (.int (Int32.ofNat len)), .unset, .unset, .unset] [.int (Int32.ofNat len)])) rfl (hb hbytes d1) (rest := []) rfl (Nat.le_refl _) (by show 0 + len ≤ len; omega)
  rw [hh0] at ba3 st3
  have kp3 : XT.Kept s T3 := (XT.Kept.of_eq hh0).push bh3
  have hA3 := hA.keep X3.warmed.alike (kp3 _ _ hA.1.1)
  have hne : b ≠ s.heap.size := hA.1.ne
  have c4 : Steps p.tables e below (s₁.setTop (entryFrame m #[.ref b, .int (Int32.ofNat o), .int (Int32.ofNat len)] 6)) (T3.setTop (mkF m 3 #[.val (.ref b), .val (.int (Int32.ofNat o)), .val (.int (Int32.ofNat len)), .unset, .unset, .unset] [.ref s.heap.size])) := c2.trans (st3 _ (Steps.refl _))
  have c5 : Steps p.tables e below (s₁.setTop (entryFrame m #[.ref b, .int (Int32.ofNat o), .int (Int32.ofNat len)] 6)) (T3.setTop (mkF m 9 #[.val (.ref b), .val (.int (Int32.ofNat o)), .val (.int (Int32.ofNat len)), .val (.ref s.heap.size), .unset, .unset] [.int (Int32.ofNat len), .int 0, .ref s.heap.size, .int (Int32.ofNat o), .ref b])) := c4.trans (by
    refine XS.astoreN X3.here hexec rfl (hb hbytes d3) rfl rfl rfl ?_
    refine XS.aloadN X3.here hexec rfl (hb hbytes d4) rfl rfl ?_
    refine XS.iloadN X3.here hexec rfl (hb hbytes d5) rfl ?_
    refine XS.aloadN X3.here hexec rfl (hb hbytes d6) rfl rfl ?_
    refine iconstV X3.here hexec rfl 0 (hb hbytes d7) (by decide) ?_
    refine XS.iloadN X3.here hexec rfl (hb hbytes d8) rfl ?_
    exact Steps.refl _)
  obtain ⟨v6, T6, X6, E6, g6⟩ := X3.callS hexec (Cmp5.law l b A s.heap.size B3 o 0 len) hown (wks W (staticW U16 115 Cmp5.yN)) (wk W Cmp5.tab) (W := 0) (Nat.le_of_ble_eq_true rfl) (Nat.le_of_ble_eq_true rfl) (Nat.le_refl _) (by show 0 + len + 0 ≤ len; omega) (g := (mkF m 9 #[.val (.ref b), .val (.int (Int32.ofNat o)), .val (.int (Int32.ofNat len)), .val (.ref s.heap.size), .unset, .unset] [.int (Int32.ofNat len), .int (Int32.ofNat 0), .ref s.heap.size, .int (Int32.ofNat o), .ref b])) rfl (by rw [hml]; rfl) c5 (argsL := [.ref b, .int (Int32.ofNat o), .ref s.heap.size, .int (Int32.ofNat 0), .int (Int32.ofNat len)]) (rest := []) rfl rfl (by show 2 * 0 + 0 ≤ _; decide) (hb hbytes d9) (⟨rfl, hA3, ba3, hne, l1, by rw [bs3]; simp, hp⟩)
  obtain ⟨rfl, B6, p6, f6⟩ := E6
  have c7 : Steps p.tables e below (s₁.setTop (entryFrame m #[.ref b, .int (Int32.ofNat o), .int (Int32.ofNat len)] 6)) (T6.setTop (mkF m 12 #[.val (.ref b), .val (.int (Int32.ofNat o)), .val (.int (Int32.ofNat len)), .val (.ref s.heap.size), .unset, .unset] [.int (Int32.ofNat len)])) := g6
  have c8 : Steps p.tables e below (s₁.setTop (entryFrame m #[.ref b, .int (Int32.ofNat o), .int (Int32.ofNat len)] 6)) (T6.setTop (mkF m 58 #[.val (.ref b), .val (.int (Int32.ofNat o)), .val (.int (Int32.ofNat len)), .val (.ref s.heap.size), .val (.int (Int32.ofNat len)), .unset] [.ref s.heap.size])) := c7.trans (by
    refine XS.istore X6.here hexec rfl (hb hbytes d12) rfl rfl ?_
    refine XS.iload X6.here hexec rfl (hb hbytes d14) rfl ?_
    refine XS.iloadN X6.here hexec rfl (hb hbytes d16) rfl ?_
    refine XS.icmpYes X6.here hexec rfl (pc0 := 17) rfl (hb hbytes d17) rfl (ii_eq_t rfl) (by decide) rfl ?_
    refine XS.aloadN X6.here hexec rfl (hb hbytes d57) rfl rfl ?_
    exact Steps.refl _)
  have X8 := X6.wide (L' := []) (cells' := 1) (slots' := len) (fun x hx hlt => by
    simp only [List.nil_append, copyLocs, List.mem_map, List.mem_range] at hx
    obtain ⟨i, -, rfl⟩ := hx
    exact absurd hlt (Nat.lt_irrefl _)) (Nat.le_refl _) (by omega)
  exact ⟨T6, some (.ref s.heap.size), _, _, _, X8, rfl, rfl, rfl, (fun h => by cases h), ⟨⟨rfl, B6, ba3.like (X3.warmed.alike.symm.trans X6.warmed.alike) p6.1 f6.1 f6.2.1 f6.2.2.1, f6.2.1.trans bv3, by rw [X6.warmed.alike.findClass, f6.1]; exact bf3, by rw [f6.2.2.1, bs3]; simp, fun j hj => by rw [f6.2.2.2 j, if_pos (by omega)]; rfl, kp3.put p6 (Nat.le_refl _)⟩, by rw [p6.2.2, bh3, hh0]; simp⟩, fun fs hl => c8.trans (X8.areturnOut hexec rfl hret rfl (hb hbytes d58) hl)⟩
end Cmp3
namespace CodL
def yN : MethodName := ⟨"java/lang/StringUTF16", "coderFromArrayLen", "([BI)B"⟩
abbrev yB : ByteArray := jdk_52_method_15_code
theorem d0 : decode yB 0 = .ok (.iload_n 1, 1) := by decide +kernel
theorem d1 : decode yB 1 = .ok (.aload_n 0, 1) := by decide +kernel
theorem d2 : decode yB 2 = .ok (.arraylength, 1) := by decide +kernel
theorem d3 : decode yB 3 = .ok (.isub, 1) := by decide +kernel
theorem d4 : decode yB 4 = .ok (.bipush 31, 2) := by decide +kernel
theorem d6 : decode yB 6 = .ok (.iushr, 1) := by decide +kernel
theorem d7 : decode yB 7 = .ok (.i2b, 1) := by decide +kernel
theorem d8 : decode yB 8 = .ok (.ireturn, 1) := by decide +kernel
def site : List Cond := []
def tab : Cond := tabOf yN yB 2 (some .byte) site
def P (d : Addr) (B : Cell) (args : Array Value) (s : State) : Prop := args = #[.ref d, .int (Int32.ofNat B.slots.size)] ∧ Arr .byte d B s
def E (r : Option Value) (s u : State) : Prop := XT.PureE (some (.int 0)) r s u
/-- an array as long as the number of chars: LATIN1 -/
theorem law (l : Launch) (d : Addr) (B : Cell) : Law l yN 2 2 0 0 yB 2 (some .byte) site (P d B) E [] 0 0 := by
  refine Law.of_walk (plainFor_of_name (by decide +kernel)) (by decide +kernel) (by decide +kernel) (by decide) (fun _ _ h => by rw [h.1]; rfl) (fun _ U U' hal hh h => ⟨h.1, h.2.mv hal hh⟩) (fun r U U' V V' h1 hal h2 h => XT.PureE.mv r U U' V V' h1 hal h2 h) ?_
  intro p e s m args below meth c s₁ X0 hexec hbytes hml hret hlk hnm hown hh0 W hP
  obtain ⟨rfl, hB⟩ := hP
  have hB0 := hB.mv X0.warmed.alike hh0
  have c1 : Steps p.tables e below (s₁.setTop (entryFrame m #[.ref d, .int (Int32.ofNat B.slots.size)] 2)) (s₁.setTop (mkF m 0 #[.val (.ref d), .val (.int (Int32.ofNat B.slots.size))] [])) := entry rfl
  have c2 : Steps p.tables e below (s₁.setTop (entryFrame m #[.ref d, .int (Int32.ofNat B.slots.size)] 2)) (s₁.setTop (mkF m 2 #[.val (.ref d), .val (.int (Int32.ofNat B.slots.size))] [.ref d, .int (Int32.ofNat B.slots.size)])) := c1.trans (by
    refine XS.iloadN X0.here hexec rfl (hb hbytes d0) rfl ?_
    refine XS.aloadN X0.here hexec rfl (hb hbytes d1) rfl rfl ?_
    exact Steps.refl _)
  have c3 : Steps p.tables e below (s₁.setTop (entryFrame m #[.ref d, .int (Int32.ofNat B.slots.size)] 2)) (s₁.setTop (mkF m 8 #[.val (.ref d), .val (.int (Int32.ofNat B.slots.size))] [.int (lo8 (ushr (Int32.ofNat B.slots.size - Int32.ofNat B.slots.size) 31))])) := c2.trans (by
    refine X0.alen hexec hB0 rfl rfl (hb hbytes d2) ?_
    refine XS.isub X0.here hexec rfl (hb hbytes d3) rfl ?_
    refine bipushV X0.here hexec rfl 31 (hb hbytes d4) (by decide) ?_
    refine iushr X0.here hexec rfl (hb hbytes d6) rfl ?_
    refine i2b X0.here hexec rfl (hb hbytes d7) rfl ?_
    exact Steps.refl _)
  have e0 : lo8 (ushr (Int32.ofNat B.slots.size - Int32.ofNat B.slots.size) 31) = 0 := by rw [Int32.sub_self]; decide
  rw [e0] at c3
  exact ⟨s₁, some (.int 0), _, _, _, X0, rfl, rfl, rfl, (fun h => by cases h), ⟨rfl, hh0⟩, fun fs hl => c3.trans (X0.ireturnOut hexec hret rfl (Or.inr (Or.inr (Or.inl rfl))) (hb hbytes d8) hl)⟩
end CodL
/-- the String at a is Latin-1 over a new byte[] (the heap's one new cell): the low bytes of the len chars of A from o on; every cell but a is kept -/
def Got (a : Addr) (D : Cell) (fV fC : Field) (A : Cell) (o len : Nat) (r : Option Value) (s u : State) : Prop := r = none ∧ ∃ D' V : Cell, Blank "java/lang/String" a D' u ∧ Same D D' [fV.slot, fC.slot] ∧ D'.slots[fV.slot]? = some (.ref s.heap.size) ∧ D'.slots[fC.slot]? = some (.int 0) ∧ Arr .byte s.heap.size V u ∧ V.vm = .none ∧ u.vm.findClass "[B" = some V.cls ∧ V.slots.size = len ∧ (∀ j, j < len → V.slots[j]? = some (.int (lo8 (cv A (o + j))))) ∧ (∀ (y : Addr) (c : Cell), y ≠ a → s.heap[y]? = some c → u.heap[y]? = some c) ∧ u.heap.size = s.heap.size + 1
theorem Got.mv {a : Addr} {D A : Cell} {fV fC : Field} {o len : Nat} : ∀ r (U U' V V' : State), U'.heap = U.heap → V.vm.Alike V'.vm → V'.heap = V.heap → Got a D fV fC A o len r U V → Got a D fV fC A o len r U' V' :=
  fun r U U' V V' h1 hal h2 ⟨e0, D', X, a1, a2, a3, a4, a5, a6, a7, a8, a9, a10, a11⟩ => ⟨e0, D', X, a1.mv hal h2, a2, by rw [h1]; exact a3, a4, by rw [h1]; exact a5.mv hal h2, a6, by rw [hal.findClass]; exact a7, a8, a9, by rw [h1, h2]; exact a10, by rw [h1, h2]; exact a11⟩
namespace New4
def yN : MethodName := ⟨"java/lang/String", "<init>", "([CIILjava/lang/Void;)V"⟩
abbrev yB : ByteArray := jdk_42_method_149_code
theorem d0 : decode yB 0 = .ok (.aload_n 0, 1) := by decide +kernel
theorem d1 : decode yB 1 = .ok (.invokespecial 1, 3) := by decide +kernel
theorem d4 : decode yB 4 = .ok (.iload_n 3, 1) := by decide +kernel
theorem d5 : decode yB 5 = .ok (.ifCond (.ne) 22, 3) := by decide +kernel
theorem d27 : decode yB 27 = .ok (.getstatic 38, 3) := by decide +kernel
theorem d30 : decode yB 30 = .ok (.ifCond (.eq) 28, 3) := by decide +kernel
theorem d33 : decode yB 33 = .ok (.aload_n 1, 1) := by decide +kernel
theorem d34 : decode yB 34 = .ok (.iload_n 2, 1) := by decide +kernel
theorem d35 : decode yB 35 = .ok (.iload_n 3, 1) := by decide +kernel
theorem d36 : decode yB 36 = .ok (.invokestatic 177, 3) := by decide +kernel
theorem d39 : decode yB 39 = .ok (.astore 5, 2) := by decide +kernel
theorem d41 : decode yB 41 = .ok (.aload_n 0, 1) := by decide +kernel
theorem d42 : decode yB 42 = .ok (.aload 5, 2) := by decide +kernel
theorem d44 : decode yB 44 = .ok (.iload_n 3, 1) := by decide +kernel
theorem d45 : decode yB 45 = .ok (.invokestatic 47, 3) := by decide +kernel
theorem d48 : decode yB 48 = .ok (.putfield 15, 3) := by decide +kernel
theorem d51 : decode yB 51 = .ok (.aload_n 0, 1) := by decide +kernel
theorem d52 : decode yB 52 = .ok (.aload 5, 2) := by decide +kernel
theorem d54 : decode yB 54 = .ok (.putfield 9, 3) := by decide +kernel
theorem d57 : decode yB 57 = .ok (.return_, 1) := by decide +kernel
def site : List Cond := [.fieldLink "java/lang/String" 38 "java/lang/String" "COMPACT_STRINGS" "Z", Cmp3.tab, CodL.tab, .laysFinal "java/lang/String" "java/lang/String" "value" "[B", .fieldLink "java/lang/String" 9 "java/lang/String" "value" "[B", .laysFinal "java/lang/String" "java/lang/String" "coder" "B", .fieldLink "java/lang/String" 15 "java/lang/String" "coder" "B"] ++ objW "java/lang/String" 1 ++ staticW "java/lang/String" 177 Cmp3.yN ++ staticW "java/lang/String" 47 CodL.yN
def tab : Cond := tabOf yN yB 6 none site
def P (a : Addr) (D : Cell) (fV fC : Field) (b : Addr) (A : Cell) (z : Int32) (o len : Nat) (args : Array Value) (s : State) : Prop := args = #[.ref a, .ref b, .int (Int32.ofNat o), .int (Int32.ofNat len), .null] ∧ Blank "java/lang/String" a D s ∧ Found "java/lang/String" "value" "[B" fV s ∧ Found "java/lang/String" "coder" "B" fC s ∧ Ch b A s ∧ StaticIs s "java/lang/String" "COMPACT_STRINGS" "Z" (.int z) ∧ ¬ z = 0 ∧ 0 < len ∧ o + len ≤ A.slots.size ∧ len ≤ 536870912 ∧ ∀ i, i < len → ¬ 255 < cv A (o + i)
def E (a : Addr) (D : Cell) (fV fC : Field) (A : Cell) (o len : Nat) (r : Option Value) (s u : State) : Prop := Got a D fV fC A o len r s u
/-- len > 0, no char of the range above 255: a Latin-1 String of their low bytes -/
theorem law (l : Launch) (a : Addr) (D : Cell) (fV fC : Field) (b : Addr) (A : Cell) (z : Int32) (o len : Nat) : Law l yN 5 4 2 35 yB 6 none site (P a D fV fC b A z o len) (E a D fV fC A o len) [⟨a, fC.slot⟩, ⟨a, fV.slot⟩] 1 len := by
  refine Law.of_walk (plainFor_of_name (by decide +kernel)) (by decide +kernel) (by decide +kernel) (by decide) (fun _ _ h => by rw [h.1]; rfl) (fun _ U U' hal hh h => ⟨h.1, h.2.1.mv hal hh, h.2.2.1.al hal, h.2.2.2.1.al hal, h.2.2.2.2.1.mv hal hh, h.2.2.2.2.2.1.there hal hh, h.2.2.2.2.2.2⟩) (fun r U U' V V' h1 hal h2 h => Got.mv r U U' V V' h1 hal h2 h) ?_
  intro p e s m args below meth c s₁ X0 hexec hbytes hml hret hlk hnm hown hh0 W hP
  obtain ⟨rfl, hB, f1, f2, hA, s1, hz, l0, l1, l2, hp⟩ := hP
  have a31 := hA.1.2.2.2
  have c1 : Steps p.tables e below (s₁.setTop (entryFrame m #[.ref a, .ref b, .int (Int32.ofNat o), .int (Int32.ofNat len), .null] 6)) (s₁.setTop (mkF m 0 #[.val (.ref a), .val (.ref b), .val (.int (Int32.ofNat o)), .val (.int (Int32.ofNat len)), .val .null, .unset] [])) := entry rfl
  have c2 : Steps p.tables e below (s₁.setTop (entryFrame m #[.ref a, .ref b, .int (Int32.ofNat o), .int (Int32.ofNat len), .null] 6)) (s₁.setTop (mkF m 1 #[.val (.ref a), .val (.ref b), .val (.int (Int32.ofNat o)), .val (.int (Int32.ofNat len)), .val .null, .unset] [.ref a])) := c1.trans (by
    refine XS.aloadN X0.here hexec rfl (hb hbytes d0) rfl rfl ?_
    exact Steps.refl _)
  obtain ⟨T3, X3, q3, st3⟩ := X0.oinit hexec hown (wks W (objW "java/lang/String" 1)) (g := (mkF m 1 #[.val (.ref a), .val (.ref b), .val (.int (Int32.ofNat o)), .val (.int (Int32.ofNat len)), .val .null, .unset] [.ref a])) rfl (by rw [hml]; rfl) (rest := []) rfl (hb hbytes d1) (W := 0) (by show 2 * 0 + 0 ≤ _; decide) (Nat.le_of_ble_eq_true rfl) (Nat.le_of_ble_eq_true rfl)
  have hh3 := q3.trans hh0
  have c4 : Steps p.tables e below (s₁.setTop (entryFrame m #[.ref a, .ref b, .int (Int32.ofNat o), .int (Int32.ofNat len), .null] 6)) (T3.setTop (mkF m 27 #[.val (.ref a), .val (.ref b), .val (.int (Int32.ofNat o)), .val (.int (Int32.ofNat len)), .val .null, .unset] [])) := (c2.trans (st3 _ (Steps.refl _))).trans (by
    refine XS.iloadN X3.here hexec rfl (hb hbytes d4) rfl ?_
    refine XS.ifYes X3.here hexec rfl (pc0 := 5) rfl (hb hbytes d5) rfl (i0_ne_t (nz32 (by omega) l0)) (by decide) rfl ?_
    exact Steps.refl _)
  obtain ⟨T5, X5, q5, st5⟩ := X3.sget hexec hown (wk W (.fieldLink "java/lang/String" 38 "java/lang/String" "COMPACT_STRINGS" "Z")) s1 (fun _ _ h => by rw [hh3]; exact h) (g := (mkF m 27 #[.val (.ref a), .val (.ref b), .val (.int (Int32.ofNat o)), .val (.int (Int32.ofNat len)), .val .null, .unset] [])) rfl (hb hbytes d27)
  have hh5 := q5.trans hh3
  have c6 : Steps p.tables e below (s₁.setTop (entryFrame m #[.ref a, .ref b, .int (Int32.ofNat o), .int (Int32.ofNat len), .null] 6)) (T5.setTop (mkF m 30 #[.val (.ref a), .val (.ref b), .val (.int (Int32.ofNat o)), .val (.int (Int32.ofNat len)), .val .null, .unset] [.int z])) := c4.trans (st5 _ (Steps.refl _))
  have c7 : Steps p.tables e below (s₁.setTop (entryFrame m #[.ref a, .ref b, .int (Int32.ofNat o), .int (Int32.ofNat len), .null] 6)) (T5.setTop (mkF m 36 #[.val (.ref a), .val (.ref b), .val (.int (Int32.ofNat o)), .val (.int (Int32.ofNat len)), .val .null, .unset] [.int (Int32.ofNat len), .int (Int32.ofNat o), .ref b])) := c6.trans (by
    refine XS.ifNo X5.here hexec rfl (hb hbytes d30) rfl (i0_eq_f hz) ?_
    refine XS.aloadN X5.here hexec rfl (hb hbytes d33) rfl rfl ?_
    refine XS.iloadN X5.here hexec rfl (hb hbytes d34) rfl ?_
    refine XS.iloadN X5.here hexec rfl (hb hbytes d35) rfl ?_
    exact Steps.refl _)
  obtain ⟨v8, T8, X8, E8, g8⟩ := X5.callS hexec (Cmp3.law l b A o len) hown (wks W (staticW "java/lang/String" 177 Cmp3.yN)) (wk W Cmp3.tab) (W := 0) (Nat.le_of_ble_eq_true rfl) (Nat.le_of_ble_eq_true rfl) (Nat.le_refl _) (by show 0 + len ≤ len; omega) (g := (mkF m 36 #[.val (.ref a), .val (.ref b), .val (.int (Int32.ofNat o)), .val (.int (Int32.ofNat len)), .val .null, .unset] [.int (Int32.ofNat len), .int (Int32.ofNat o), .ref b])) rfl (by rw [hml]; rfl) c7 (argsL := [.ref b, .int (Int32.ofNat o), .int (Int32.ofNat len)]) (rest := []) rfl rfl (by show 2 * 0 + 0 ≤ _; decide) (hb hbytes d36) (⟨rfl, hA.mv X5.warmed.alike hh5, l1, l2, hp⟩)
  obtain ⟨e8, z8⟩ := E8
  obtain ⟨rfl, N, n1, n2, n3, n4, n5, n6⟩ := NewArr.mv _ T5 s _ _ hh5.symm (Vm.Alike.refl _) rfl e8
  rw [hh5] at z8
  have hB1 := hB.keep X8.warmed.alike (n6 _ _ hB.1)
  have hne : s.heap.size ≠ a := (Nat.ne_of_lt (Array.getElem?_eq_some_iff.mp hB.1).1).symm
  have c9 : Steps p.tables e below (s₁.setTop (entryFrame m #[.ref a, .ref b, .int (Int32.ofNat o), .int (Int32.ofNat len), .null] 6)) (T8.setTop (mkF m 39 #[.val (.ref a), .val (.ref b), .val (.int (Int32.ofNat o)), .val (.int (Int32.ofNat len)), .val .null, .unset] [.ref s.heap.size])) := g8
  have c10 : Steps p.tables e below (s₁.setTop (entryFrame m #[.ref a, .ref b, .int (Int32.ofNat o), .int (Int32.ofNat len), .null] 6)) (T8.setTop (mkF m 45 #[.val (.ref a), .val (.ref b), .val (.int (Int32.ofNat o)), .val (.int (Int32.ofNat len)), .val .null, .val (.ref s.heap.size)] [.int (Int32.ofNat N.slots.size), .ref s.heap.size, .ref a])) := by
    have hc : Steps p.tables e below (s₁.setTop (entryFrame m #[.ref a, .ref b, .int (Int32.ofNat o), .int (Int32.ofNat len), .null] 6)) (T8.setTop (mkF m 45 #[.val (.ref a), .val (.ref b), .val (.int (Int32.ofNat o)), .val (.int (Int32.ofNat len)), .val .null, .val (.ref s.heap.size)] [.int (Int32.ofNat len), .ref s.heap.size, .ref a])) := c9.trans (by
      refine XS.astore X8.here hexec rfl (hb hbytes d39) rfl rfl rfl ?_
      refine XS.aloadN X8.here hexec rfl (hb hbytes d41) rfl rfl ?_
      refine XS.aload X8.here hexec rfl (hb hbytes d42) rfl rfl ?_
      refine XS.iloadN X8.here hexec rfl (hb hbytes d44) rfl ?_
      exact Steps.refl _)
    rw [n4]; exact hc
  obtain ⟨v11, T11, X11, E11, g11⟩ := X8.callS hexec (CodL.law l s.heap.size N) hown (wks W (staticW "java/lang/String" 47 CodL.yN)) (wk W CodL.tab) (W := 1) (Nat.le_of_ble_eq_true rfl) (Nat.le_of_ble_eq_true rfl) (Nat.le_refl _) (by show 0 + len + 0 ≤ len; omega) (g := (mkF m 45 #[.val (.ref a), .val (.ref b), .val (.int (Int32.ofNat o)), .val (.int (Int32.ofNat len)), .val .null, .val (.ref s.heap.size)] [.int (Int32.ofNat N.slots.size), .ref s.heap.size, .ref a])) rfl (by rw [hml]; rfl) c10 (argsL := [.ref s.heap.size, .int (Int32.ofNat N.slots.size)]) (rest := [.ref a]) rfl rfl (by show 2 * 0 + (1 + 0) ≤ _; decide) (hb hbytes d45) (⟨rfl, n1⟩)
  obtain ⟨rfl, q11⟩ := E11
  have hB11 := hB1.mv (X8.warmed.alike.symm.trans X11.warmed.alike) q11
  have c12 : Steps p.tables e below (s₁.setTop (entryFrame m #[.ref a, .ref b, .int (Int32.ofNat o), .int (Int32.ofNat len), .null] 6)) (T11.setTop (mkF m 48 #[.val (.ref a), .val (.ref b), .val (.int (Int32.ofNat o)), .val (.int (Int32.ofNat len)), .val .null, .val (.ref s.heap.size)] [.int 0, .ref a])) := g11
  obtain ⟨T13, X13, p13, bl13, sl13, st13⟩ := X11.finit hexec hown (wk W (.fieldLink "java/lang/String" 15 "java/lang/String" "coder" "B")) (Or.inr ⟨_, (wk W (.laysFinal "java/lang/String" "java/lang/String" "coder" "B"))⟩) (Or.inl ⟨rfl, hnm⟩) f2 (Or.inl rfl) hB11 (t := .byte) (by decide +kernel) rfl (g := (mkF m 48 #[.val (.ref a), .val (.ref b), .val (.int (Int32.ofNat o)), .val (.int (Int32.ofNat len)), .val .null, .val (.ref s.heap.size)] [.int 0, .ref a])) rfl (rest := []) rfl (hb hbytes d48)
  have c14 : Steps p.tables e below (s₁.setTop (entryFrame m #[.ref a, .ref b, .int (Int32.ofNat o), .int (Int32.ofNat len), .null] 6)) (T13.setTop (mkF m 54 #[.val (.ref a), .val (.ref b), .val (.int (Int32.ofNat o)), .val (.int (Int32.ofNat len)), .val .null, .val (.ref s.heap.size)] [.ref s.heap.size, .ref a])) := (c12.trans (st13 _ (Steps.refl _))).trans (by
    refine XS.aloadN X13.here hexec rfl (hb hbytes d51) rfl rfl ?_
    refine XS.aload X13.here hexec rfl (hb hbytes d52) rfl rfl ?_
    exact Steps.refl _)
  obtain ⟨T15, X15, p15, bl15, sl15, st15⟩ := X13.finit hexec hown (wk W (.fieldLink "java/lang/String" 9 "java/lang/String" "value" "[B")) (Or.inr ⟨_, (wk W (.laysFinal "java/lang/String" "java/lang/String" "value" "[B"))⟩) (Or.inl ⟨rfl, hnm⟩) f1 (Or.inl rfl) bl13 (t := (.array .byte)) (by decide +kernel) rfl (g := (mkF m 54 #[.val (.ref a), .val (.ref b), .val (.int (Int32.ofNat o)), .val (.int (Int32.ofNat len)), .val .null, .val (.ref s.heap.size)] [.ref s.heap.size, .ref a])) rfl (rest := []) rfl (hb hbytes d54)
  have c16 : Steps p.tables e below (s₁.setTop (entryFrame m #[.ref a, .ref b, .int (Int32.ofNat o), .int (Int32.ofNat len), .null] 6)) (T15.setTop (mkF m 57 #[.val (.ref a), .val (.ref b), .val (.int (Int32.ofNat o)), .val (.int (Int32.ofNat len)), .val .null, .val (.ref s.heap.size)] [])) := c14.trans (st15 _ (Steps.refl _))
  have ap := apart (Or.inr ⟨_, (wk W (.laysFinal "java/lang/String" "java/lang/String" "value" "[B"))⟩) (Or.inr ⟨_, (wk W (.laysFinal "java/lang/String" "java/lang/String" "coder" "B"))⟩) f1 f2 (t₁ := .array .byte) (t₂ := .byte) (by decide +kernel) (by decide +kernel) (by decide)
  have al := X8.warmed.alike.symm.trans X15.warmed.alike
  have n7 : T11.heap[s.heap.size]? = some N := by rw [q11]; exact n1.1
  exact ⟨T15, none, _, _, _, X15, by simp, rfl, by omega, (fun _ => rfl), ⟨rfl, _, N, bl15, ((Same.refl D _).set _ (by simp)).set _ (by simp), sl15, (Cell.slots_setSlot_ne _ ap).trans sl13, n1.keep al (p15.other hne (p13.other hne n7)), n2, by rw [al.findClass]; exact n3, n4, n5, fun y c h1 h2 => p15.other h1 (p13.other h1 (by rw [q11]; exact n6 y c h2)), by rw [p15.2.2, p13.2.2, q11]; exact z8⟩, fun fs hl => c16.trans (X15.returnOut hexec hret (hb hbytes d57) hl)⟩
end New4
namespace New1
def yN : MethodName := ⟨"java/lang/String", "<init>", "([C)V"⟩
abbrev yB : ByteArray := jdk_42_method_3_code
theorem d0 : decode yB 0 = .ok (.aload_n 0, 1) := by decide +kernel
theorem d1 : decode yB 1 = .ok (.aload_n 1, 1) := by decide +kernel
theorem d2 : decode yB 2 = .ok (.iconst 0, 1) := by decide +kernel
theorem d3 : decode yB 3 = .ok (.aload_n 1, 1) := by decide +kernel
theorem d4 : decode yB 4 = .ok (.arraylength, 1) := by decide +kernel
theorem d5 : decode yB 5 = .ok (.aconst_null, 1) := by decide +kernel
theorem d6 : decode yB 6 = .ok (.invokespecial 27, 3) := by decide +kernel
theorem d9 : decode yB 9 = .ok (.return_, 1) := by decide +kernel
def site : List Cond := [New4.tab] ++ initW "java/lang/String" 27 New4.yN
def tab : Cond := tabOf yN yB 2 none site
def P (a : Addr) (D : Cell) (fV fC : Field) (b : Addr) (A : Cell) (z : Int32) (args : Array Value) (s : State) : Prop := args = #[.ref a, .ref b] ∧ Blank "java/lang/String" a D s ∧ Found "java/lang/String" "value" "[B" fV s ∧ Found "java/lang/String" "coder" "B" fC s ∧ Ch b A s ∧ StaticIs s "java/lang/String" "COMPACT_STRINGS" "Z" (.int z) ∧ ¬ z = 0 ∧ 0 < A.slots.size ∧ A.slots.size ≤ 536870912 ∧ ∀ i, i < A.slots.size → ¬ 255 < cv A i
def E (a : Addr) (D : Cell) (fV fC : Field) (A : Cell) (r : Option Value) (s u : State) : Prop := Got a D fV fC A 0 A.slots.size r s u
/-- new String(chars), not empty, no char above 255: a Latin-1 String of their low bytes -/
theorem law (l : Launch) (a : Addr) (D : Cell) (fV fC : Field) (b : Addr) (A : Cell) (z : Int32) : Law l yN 2 1 3 52 yB 2 none site (P a D fV fC b A z) (E a D fV fC A) [⟨a, fC.slot⟩, ⟨a, fV.slot⟩] 1 A.slots.size := by
  refine Law.of_walk (plainFor_of_name (by decide +kernel)) (by decide +kernel) (by decide +kernel) (by decide) (fun _ _ h => by rw [h.1]; rfl) (fun _ U U' hal hh h => ⟨h.1, h.2.1.mv hal hh, h.2.2.1.al hal, h.2.2.2.1.al hal, h.2.2.2.2.1.mv hal hh, h.2.2.2.2.2.1.there hal hh, h.2.2.2.2.2.2⟩) (fun r U U' V V' h1 hal h2 h => Got.mv r U U' V V' h1 hal h2 h) ?_
  intro p e s m args below meth c s₁ X0 hexec hbytes hml hret hlk hnm hown hh0 W hP
  obtain ⟨rfl, hB, f1, f2, hA, s1, hz, l0, l2, hp⟩ := hP
  have c1 : Steps p.tables e below (s₁.setTop (entryFrame m #[.ref a, .ref b] 2)) (s₁.setTop (mkF m 0 #[.val (.ref a), .val (.ref b)] [])) := entry rfl
  have c2 : Steps p.tables e below (s₁.setTop (entryFrame m #[.ref a, .ref b] 2)) (s₁.setTop (mkF m 6 #[.val (.ref a), .val (.ref b)] [.null, .int (Int32.ofNat A.slots.size), .int 0, .ref b, .ref a])) := c1.trans (by
    refine XS.aloadN X0.here hexec rfl (hb hbytes d0) rfl rfl ?_
    refine XS.aloadN X0.here hexec rfl (hb hbytes d1) rfl rfl ?_
    refine iconstV X0.here hexec rfl 0 (hb hbytes d2) (by decide) ?_
    refine XS.aloadN X0.here hexec rfl (hb hbytes d3) rfl rfl ?_
    refine X0.alen hexec (hA.1.mv X0.warmed.alike hh0) rfl rfl (hb hbytes d4) ?_
    refine XS.aconstNull X0.here hexec rfl (hb hbytes d5) ?_
    exact Steps.refl _)
  obtain ⟨v3, T3, X3, E3, g3⟩ := X0.callN hexec (New4.law l a D fV fC b A z 0 A.slots.size) rfl hown (wks W (initW "java/lang/String" 27 New4.yN)) (W New4.tab (by simp only [site, List.mem_cons, List.mem_append, true_or, or_true])) (W := 0) (Nat.le_of_ble_eq_true rfl) (Nat.le_of_ble_eq_true rfl) (Nat.le_refl _) (by show 0 + A.slots.size ≤ A.slots.size; omega) (g := (mkF m 6 #[.val (.ref a), .val (.ref b)] [.null, .int (Int32.ofNat A.slots.size), .int (Int32.ofNat 0), .ref b, .ref a])) rfl (by rw [hml]; rfl) c2 (argsL := [.ref b, .int (Int32.ofNat 0), .int (Int32.ofNat A.slots.size), .null]) (rest := []) rfl rfl (by show 2 * 0 + 0 ≤ _; decide) (hb hbytes d6) (⟨rfl, hB.mv X0.warmed.alike hh0, f1.al X0.warmed.alike, f2.al X0.warmed.alike, hA.mv X0.warmed.alike hh0, s1.there X0.warmed.alike hh0, hz, l0, by omega, l2, fun i hi => by rw [Nat.zero_add]; exact hp i hi⟩)
  have e0 := Got.mv _ s₁ s _ _ hh0.symm (Vm.Alike.refl _) rfl E3
  obtain rfl := e0.1
  have c4 : Steps p.tables e below (s₁.setTop (entryFrame m #[.ref a, .ref b] 2)) (T3.setTop (mkF m 9 #[.val (.ref a), .val (.ref b)] [])) := g3
  exact ⟨T3, none, _, _, _, X3, by simp, rfl, by omega, (fun _ => rfl), e0, fun fs hl => c4.trans (X3.returnOut hexec hret (hb hbytes d9) hl)⟩
theorem pays {l : Launch} {R : Room} {p : Program} {e : Env} {below : List Frame} {s : State} {sargs : Array Value} {len W : Nat} (a : Addr) (D : Cell) (fV fC : Field) (b : Addr) (A : Cell) (z : Int32) (htab : tab.before sargs s = true) (hfr : 4 ≤ R.frames) (hlo : W + 65 ≤ R.locals) :
    Back l R p e below s sargs yN len W (fun A₁ a₁ => A₁.cells + 1 ≤ R.cells ∧ A₁.slots + A.slots.size ≤ R.slots ∧ P a D fV fC b A z a₁ A₁.U) (fun A₁ _ v₁ B₁ => E a D fV fC A v₁ A₁.U B₁.U ∧ B₁.locs = A₁.locs ++ [⟨a, fC.slot⟩, ⟨a, fV.slot⟩] ∧ B₁.cells = A₁.cells + 1 ∧ B₁.slots = A₁.slots + A.slots.size) :=
  (law l a D fV fC b A z).pays htab hfr (by omega)
end New1
end StrChars
namespace StrChars.Road
open Jvm Sem ClassFile Op Lib Jvm.Stand Jvm.Free Jvm.Free.XT
open Jvm.Lib.Cold (StaticIs)
abbrev ST : String := "java/lang/String"
/-- every table word that New1's law asks, flat -/
abbrev words : List Jvm.Cond := [.code New1.yN New1.yB 2 none, .initialized ST, .methodLink ST 27 New4.yN, .instanceMethod New4.yN,
  .code New4.yN New4.yB 6 none, .fieldLink ST 38 ST "COMPACT_STRINGS" "Z", .laysFinal ST ST "value" "[B", .fieldLink ST 9 ST "value" "[B", .laysFinal ST ST "coder" "B", .fieldLink ST 15 ST "coder" "B",
  .methodLink ST 1 Lib.objectInit, .instanceMethod Lib.objectInit, .code Lib.objectInit ⟨#[0xb1]⟩ 1 none, .methodLink ST 177 Cmp3.yN, .static Cmp3.yN, .methodLink ST 47 CodL.yN, .static CodL.yN,
  .code Cmp3.yN Cmp3.yB 6 (some (.array .byte)), .initialized U16, .arrayClass .byte, .methodLink U16 115 Cmp5.yN, .static Cmp5.yN, .code Cmp5.yN Cmp5.yB 7 (some .int), .code CodL.yN CodL.yB 2 (some .byte)]
theorem tab_of {a : Array Value} {s : State} (h : ∀ w ∈ words, w.before a s = true) : New1.tab.before a s = true := by
  have h5 : Cmp5.tab.before a s = true := unparts (wk h (.code Cmp5.yN Cmp5.yB 7 (some .int))) (wks h (.initialized Cmp5.yN.cls :: Cmp5.site))
  have hc : CodL.tab.before a s = true := unparts (wk h (.code CodL.yN CodL.yB 2 (some .byte))) (wks h (.initialized CodL.yN.cls :: CodL.site))
  have q5 : ∀ w ∈ Cmp5.tab :: words, w.before a s = true := fun w hw => (List.mem_cons.mp hw).elim (fun e => e ▸ h5) (h w)
  have h3 : Cmp3.tab.before a s = true := unparts (wk q5 (.code Cmp3.yN Cmp3.yB 6 (some (.array .byte)))) (wks q5 (.initialized Cmp3.yN.cls :: Cmp3.site))
  have q3 : ∀ w ∈ Cmp3.tab :: CodL.tab :: words, w.before a s = true := fun w hw => (List.mem_cons.mp hw).elim (fun e => e ▸ h3) fun hw => (List.mem_cons.mp hw).elim (fun e => e ▸ hc) (h w)
  have h4 : New4.tab.before a s = true := unparts (wk q3 (.code New4.yN New4.yB 6 none)) (wks q3 (.initialized New4.yN.cls :: New4.site))
  have q4 : ∀ w ∈ New4.tab :: words, w.before a s = true := fun w hw => (List.mem_cons.mp hw).elim (fun e => e ▸ h4) (h w)
  exact unparts (wk q4 (.code New1.yN New1.yB 2 none)) (wks q4 (.initialized New1.yN.cls :: New1.site))
/-- the words ride from the start Z to the walk's own state -/
theorem moved {Z s : State} {a0 args : Array Value} (hZ : Z.Warmed39 s.vm) (hw : ∀ d ∈ words, d.before a0 Z = true) : ∀ d ∈ words, d.before args s = true := fun d hd => by
  have q := hw d hd
  have t : ∀ d ∈ words, d = .arrayClass .byte ∨ (d.onTables && d.keepsFace) = true := by decide +kernel
  rcases t d hd with rfl | t
  · exact RoadKit.mvA hZ q
  · exact RoadKit.mv hZ q t
/-- WHAT COMES BACK, over the tables of the start Z: h the heap at the call, h' behind it -/
def Q (Z : State) (x : Addr) (A : Cell) (h : Heap) (v : Option Value) (h' : Heap) (L : List Loc) : Prop := v = none ∧ (∀ y ∈ L, y.base = x) ∧ RoadKit.Keep h h' [x] ∧ h'.size = h.size + 1 ∧ RoadKit.Exa Z h' x ST ∧ RoadKit.Fld Z h' x ST "value" "[B" (.ref h.size) ∧ RoadKit.Fld Z h' x ST "coder" "B" (.int 0) ∧
  (∃ V : Cell, RoadKit.Arr Z h' h.size V .byte ∧ V.vm = .none ∧ Z.vm.findClass "[B" = some V.cls ∧ V.slots.size = A.slots.size ∧ ∀ j, j < A.slots.size → V.slots[j]? = some (.int (lo8 (cv A j)))) ∧
  ∀ (O n d : String) (w : Value), RoadKit.Fld Z h x O n d w → RoadKit.slotOf Z O n d ≠ RoadKit.slotOf Z ST "value" "[B" → RoadKit.slotOf Z O n d ≠ RoadKit.slotOf Z ST "coder" "B" → RoadKit.Fld Z h' x O n d w
/-- **new String(chars) AT A CALL, IN THE ROAD'S FORM**: for specialBack behind newO: x the fresh String, b the char[] with the cell A -/
theorem back {p : Program} {l : Launch} {e : Env} {R : Room} {s : State} {args : Array Value} {below : List Frame} {len W : Nat} {Z : State} {a0 : Array Value} {h : Heap} (hZ : Z.Warmed39 s.vm) (hw : ∀ d ∈ words, d.before a0 Z = true) {kI : Nat} (wi : (Jvm.Cond.instantiable ST kI).before a0 Z = true)
    {x b : Addr} {A : Cell} {z : Int32} {v0 c0 : Value} (E : RoadKit.Exa Z h x ST) (V : RoadKit.Fld Z h x ST "value" "[B" v0) (C : RoadKit.Fld Z h x ST "coder" "B" c0) (K : RoadKit.Arr Z h b A .char) (hty : Typed .char A) (S : RoadKit.Sta Z h ST "COMPACT_STRINGS" "Z" (.int z)) (hz : ¬ z = 0)
    (l0 : 0 < A.slots.size) (l2 : A.slots.size ≤ 536870912) (hp : ∀ i, i < A.slots.size → ¬ 255 < cv A i) (hfr : 4 ≤ R.frames) (hlo : W + 65 ≤ R.locals) :
    Back l R p e below s args New1.yN len W (fun P a => a = #[.ref x, .ref b] ∧ P.U.heap = h ∧ P.cells + 1 ≤ R.cells ∧ P.slots + A.slots.size ≤ R.slots)
      (fun P _ v B => ∃ L, Q Z x A h v B.U.heap L ∧ B.locs = P.locs ++ L ∧ B.cells = P.cells + 1 ∧ B.slots = P.slots + A.slots.size) := by
  intro m meth c P g ig mk a X hg hsize hdg hW hn hp'
  obtain ⟨rfl, rfl, r1, r2⟩ := hp'
  have al : Z.vm.Alike P.U.vm := hZ.alike.trans X.warmed.alike
  obtain ⟨D, cfV, kV, iV, fV, hD, gV, stV, knV, obV, asV, slV⟩ := id V
  obtain ⟨D', cfC, kC, iC, fC, hD', gC, stC, -, -, asC, slC⟩ := id C
  cases hD.symm.trans hD'
  obtain ⟨D2, kD, e1, e2, e3, e4, e5⟩ := id E
  cases hD.symm.trans e1
  obtain ⟨c2, k2, i1, i2, i3, -⟩ := Cond.instantiable_spec wi
  cases e2.symm.trans i1
  cases e3.symm.trans i2
  obtain ⟨kU, u1, u2⟩ := al.2.2 _ _ e3
  have hB : Blank ST x D P.U := ⟨hD, ⟨knV, fun q hq => by rw [hq] at obV; cases obV⟩, by rw [al.findClass]; exact e2, kU, u1, by rw [u2]; exact i3, by rw [u2]; exact e5 i3⟩
  have F1 : Found ST "value" "[B" fV P.U := ⟨SBG.found_only al ⟨cfV, kV, iV, gV⟩, stV⟩
  have F2 : Found ST "coder" "B" fC P.U := ⟨SBG.found_only al ⟨cfC, kC, iC, gC⟩, stC⟩
  have hA : Ch b A P.U := ⟨⟨K.1, State.isArrayOf_alike al K.2.1, K.2.2, by omega⟩, hty⟩
  have hS : StaticIs P.U ST "COMPACT_STRINGS" "Z" (.int z) := by
    obtain ⟨cfS, iS, kS, fS, st, cS, t1, t2, t3, t4, t5, t6, t7⟩ := S
    exact StaticIs.there (s := { Z with heap := P.U.heap }) ⟨cfS, iS, kS, fS, st, cS, t1, t2, t3, t4, t5, (fun q => by rw [q] at t6; cases t6), t7⟩ al rfl
  obtain ⟨v, B, X', ⟨⟨hv, E', V', q1, q2, q3, q4, q5, q6, q7, q8, q9, q10, q11⟩, hl, hc, hs⟩, st⟩ := New1.pays x D fV fC b A z (tab_of (moved hZ hw)) hfr hlo m meth c P g ig mk _ X hg hsize hdg hW hn ⟨r1, r2, rfl, hB, F1, F2, hA, hS, hz, l0, l2, hp⟩
  have al' : Z.vm.Alike B.U.vm := hZ.alike.trans X'.warmed.alike
  have hsz : E'.slots.size = D.slots.size := by
    obtain ⟨-, -, -, kB, w1, w2, w3⟩ := q1
    obtain ⟨kB', y1, y2⟩ := al'.2.2 _ _ e3
    rw [q2.2.1] at w1
    cases w1.symm.trans y1
    rw [w3, e5 i3, y2]
  refine ⟨v, B, X', ⟨_, ⟨hv, ?_, ⟨by omega, fun y cy hy hn' => q10 y cy (by simpa using hn') hy, fun y cy hy => ?_⟩, q11, ⟨E', _, q1.1, by rw [q2.2.1]; exact e2, by rw [q2.2.1]; exact e3, by rw [q2.1]; exact obV, fun _ => by rw [hsz]; exact e5 i3⟩,
    ⟨E', cfV, kV, iV, fV, q1.1, gV, stV, by rw [q2.1]; exact knV, by rw [q2.1]; exact obV, by rw [q2.2.1]; exact asV, q3⟩, ⟨E', cfC, kC, iC, fC, q1.1, gC, stC, by rw [q2.1]; exact knV, by rw [q2.1]; exact obV, by rw [q2.2.1]; exact asC, q4⟩,
    ⟨V', ⟨q5.1, State.isArrayOf_alike al'.symm q5.2.1, q5.2.2.1⟩, q6, by rw [← al'.findClass]; exact q7, q8, fun j hj => by have := q9 j hj; rwa [Nat.zero_add] at this⟩, fun O n d w F n1 n2 => ?_⟩, hl, hc, hs⟩, st⟩
  · intro y hy
    simp only [List.mem_cons, List.not_mem_nil, or_false] at hy
    rcases hy with rfl | rfl <;> rfl
  · by_cases q : y = x
    · subst q
      cases hD.symm.trans hy
      exact ⟨E', q1.1, q2.2.1, q2.1, hsz⟩
    · exact ⟨cy, q10 y cy q hy, rfl, rfl, rfl⟩
  · obtain ⟨D3, cf, k, i, f, g1, g2, g3, g4, g5, g6, g7⟩ := F
    cases hD.symm.trans g1
    simp only [RoadKit.slotOf, g2, gV, gC, Option.map_some, Option.getD_some] at n1 n2
    exact ⟨E', cf, k, i, f, q1.1, g2, g3, by rw [q2.1]; exact g4, by rw [q2.1]; exact g5, by rw [q2.2.1]; exact g6, by rw [q2.2.2 f.slot (by simp [n1, n2])]; exact g7⟩
end StrChars.Road
namespace StrChars.Road
open Jvm Sem ClassFile Op Lib Jvm.Stand Jvm.Free Jvm.Free.XT
/-- WHAT COMES BACK, the byte[] as a list of values -/
def QA (Z : State) (x : Addr) (zn : Int32) (cs : List Int32) (h : Heap) (v : Option Value) (h' : Heap) (L : List Loc) : Prop := v = none ∧ (∀ y ∈ L, y.base = x) ∧ RoadKit.Keep h h' [x] ∧ h'.size = h.size + 1 ∧ RoadKit.Exa Z h' x ST ∧ RoadKit.Fld Z h' x ST "value" "[B" (.ref h.size) ∧ RoadKit.Fld Z h' x ST "coder" "B" (.int 0) ∧
  (∃ kb, Z.vm.findClass "[B" = some kb ∧ RoadKit.Arv Z h' h.size kb .byte zn (cs.map fun c => .int (lo8 c)) (.int 0)) ∧
  ∀ (O n d : String) (w : Value), RoadKit.Fld Z h x O n d w → RoadKit.slotOf Z O n d ≠ RoadKit.slotOf Z ST "value" "[B" → RoadKit.slotOf Z O n d ≠ RoadKit.slotOf Z ST "coder" "B" → RoadKit.Fld Z h' x O n d w
/-- **new String(chars) AT A CALL, THE ARRAYS AS LISTS**: the char[] at b holds cs, not empty, no char above 255 -/
theorem backArv {p : Program} {l : Launch} {e : Env} {R : Room} {s : State} {args : Array Value} {below : List Frame} {len W : Nat} {Z : State} {a0 : Array Value} {h : Heap} (hZ : Z.Warmed39 s.vm) (hw : ∀ d ∈ words, d.before a0 Z = true) {kI : Nat} (wi : (Jvm.Cond.instantiable ST kI).before a0 Z = true)
    {x b : Addr} {k : ClassId} {zn z : Int32} {cs : List Int32} {dv v0 c0 : Value} (E : RoadKit.Exa Z h x ST) (V : RoadKit.Fld Z h x ST "value" "[B" v0) (C : RoadKit.Fld Z h x ST "coder" "B" c0) (K : RoadKit.Arv Z h b k .char zn (cs.map Value.int) dv) (S : RoadKit.Sta Z h ST "COMPACT_STRINGS" "Z" (.int z)) (hz : ¬ z = 0)
    (hlen : zn.toNatClampNeg = cs.length) (h0 : 0 < cs.length) (hbig : cs.length ≤ 536870912) (hall : ∀ c ∈ cs, ¬ 255 < c) (hfr : 4 ≤ R.frames) (hlo : W + 65 ≤ R.locals) :
    Back l R p e below s args New1.yN len W (fun P a => a = #[.ref x, .ref b] ∧ P.U.heap = h ∧ P.cells + 1 ≤ R.cells ∧ P.slots + cs.length ≤ R.slots)
      (fun P _ v B => ∃ L, QA Z x zn cs h v B.U.heap L ∧ B.locs = P.locs ++ L ∧ B.cells = P.cells + 1 ∧ B.slots = P.slots + cs.length) := by
  obtain ⟨A, K1, K2, K3, K4, K5, K6⟩ := K
  have e : A.slots.size = cs.length := K3.trans hlen
  have hat : ∀ (i : Nat) (hi : i < cs.length), A.slots[i]? = some (.int cs[i]) := fun i hi => by rw [K5 i (by omega)]; simp [List.getD_eq_getElem?_getD, hi]
  have hcv : ∀ (i : Nat) (hi : i < cs.length), cv A i = cs[i] := fun i hi => by unfold cv; rw [hat i hi]
  have hty : Typed .char A := fun i v hv => by
    have hi : i < A.slots.size := (Array.getElem?_eq_some_iff.mp hv).1
    have q := K5 i hi
    rw [hv] at q
    rw [Option.some.inj q]
    exact K6 i hi
  refine Back.mono (back hZ hw wi E V C K1 hty S hz (by omega) (by omega) (fun i hi => by rw [hcv i (by omega)]; exact hall _ (List.getElem_mem _)) hfr hlo) (fun P a hp => ⟨hp.1, hp.2.1, hp.2.2.1, by rw [e]; exact hp.2.2.2⟩) (fun P a v B hp hq => ?_)
  obtain ⟨L, ⟨q1, q2, q3, q4, q5, q6, q7, ⟨V', v1, v2, v3, v4, v5⟩, q9⟩, hl, hc, hs⟩ := hq
  refine ⟨L, ⟨q1, q2, q3, q4, q5, q6, q7, ⟨V'.cls, v3, V', v1, rfl, by rw [v4, e, hlen], K4, fun i hi => ?_, fun i hi => ?_⟩, q9⟩, hl, hc, by rw [hs, e]⟩
  · have hi' : i < cs.length := by omega
    rw [v5 i (by omega), hcv i hi']; simp [List.getD_eq_getElem?_getD, hi']
  · have hi' : i < cs.length := by omega
    simp only [List.getD_eq_getElem?_getD, List.getElem?_map, List.getElem?_eq_getElem hi', Option.map_some, Option.getD_some]
    exact fits_lo8 _
end StrChars.Road
namespace StrChars.Road
open Jvm Sem ClassFile Op Lib Jvm.Stand Jvm.Free Jvm.Free.XT
/-- WHAT COMES BACK, in the writer's own shape -/
def QV (Z : State) (x : Addr) (N : Int32) (bs : List Int32) (h : Heap) (n0 : Nat) (v : Option Value) (h' : Heap) (L : List Loc) : Prop := v = none ∧ RoadKit.Fr n0 L ∧ RoadKit.Keep h h' [x] ∧ RoadKit.Exa Z h' x ST ∧ RoadKit.Fld Z h' x ST "coder" "B" (.int 0) ∧
  ∃ (t : Addr) (kb : ClassId), n0 ≤ t ∧ h.size ≤ t ∧ ¬ t = x ∧ RoadKit.Fld Z h' x ST "value" "[B" (.ref t) ∧ RoadKit.Arv Z h' t kb .byte N (bs.map Value.int) (.int 0)
/-- **new String(chars) AT A CALL, FOR THE WRITER**: a char[] of n known ints, each 0 to 255 -/
theorem backV {p : Program} {l : Launch} {e : Env} {R : Room} {s : State} {args : Array Value} {below : List Frame} {len W : Nat} {Z : State} {a0 : Array Value} {h : Heap} (hZ : Z.Warmed39 s.vm) (hw : ∀ d ∈ words, d.before a0 Z = true) {kI : Nat} (wi : (Jvm.Cond.instantiable ST kI).before a0 Z = true)
    {x b : Addr} {kC : ClassId} {cs bs : List Int32} {d v0 c0 : Value} {z N : Int32} {n n0 : Nat} (hx0 : n0 ≤ x) (hh0 : n0 ≤ h.size) (E : RoadKit.Exa Z h x ST) (V : RoadKit.Fld Z h x ST "value" "[B" v0) (C : RoadKit.Fld Z h x ST "coder" "B" c0) (K : RoadKit.Arv Z h b kC .char N (cs.map Value.int) d) (S : RoadKit.Sta Z h ST "COMPACT_STRINGS" "Z" (.int z)) (hz : ¬ z = 0)
    (hn : cs.length = n) (hN : N = Int32.ofNat n) (l0 : 0 < n) (l2 : n ≤ 4000) (hp : ∀ c ∈ cs, ¬ c < 0 ∧ ¬ (255 : Int32) < c) (hb : bs = cs.map (fun c => c.toInt8.toInt32)) (hfr : 4 ≤ R.frames) (hlo : W + 65 ≤ R.locals) :
    Back l R p e below s args (⟨"java/lang/String", "<init>", "([C)V"⟩ : MethodName) len W (fun P a => a = #[.ref x, .ref b] ∧ P.U.heap = h ∧ P.cells + 1 ≤ R.cells ∧ P.slots + n ≤ R.slots)
      (fun P _ v B => ∃ L, QV Z x N bs h n0 v B.U.heap L ∧ B.locs = P.locs ++ L ∧ B.cells = P.cells + 1 ∧ B.slots = P.slots + n) := by
  subst hn hN hb
  refine Back.mono (backArv hZ hw wi E V C K S hz (n32 (by omega)) l0 (by omega) (fun c hc => (hp c hc).2) hfr hlo) (fun P a hp => hp) (fun P a v B hp hq => ?_)
  obtain ⟨L, ⟨q1, q2, q3, q4, q5, q6, q7, ⟨kb, v1, v2⟩, q9⟩, hl, hc, hs⟩ := hq
  exact ⟨L, ⟨q1, fun y hy => by rw [q2 y hy]; exact hx0, q3, q5, q7, h.size, kb, hh0, Nat.le_refl _, Nat.ne_of_gt E.lt, q6, by rw [List.map_map]; exact v2⟩, hl, hc, hs⟩
end StrChars.Road
end Jvm.Pilot.@@N@@
namespace Jvm.Pilot.@@N@@
open Jvm.Ow (Go Wd)
open Jvm Jvm.ClassFile Sem Op Lib Jvm.Free Jvm.Stand Jvm.LawKit Jvm.RoadKit Bundle Jvm.Pilot.@@N@@.Jvm.D
theorem ww {a0 : Array Value} {Z : State} (hw : ∀ d ∈ tables_1, d.before a0 Z = true) (k : Nat) {d : Jvm.Cond} (h : tables_1[k]? = some d) : d.before a0 Z = true := hw d (List.mem_of_getElem? h)
theorem pd0 : parseMethodDescriptor "([C)V" = some ⟨[(.array .char)], none⟩ := by decide +kernel
theorem pd1 : parseMethodDescriptor "([B[B)Z" = some ⟨[(.array .byte), (.array .byte)], (some .boolean)⟩ := by decide +kernel
theorem pd2 : parseMethodDescriptor "(Ljava/lang/Object;)Ljava/lang/Object;" = some ⟨[(.object "java/lang/Object")], (some (.object "java/lang/Object"))⟩ := by decide +kernel
theorem pd3 : parseMethodDescriptor "()Ljava/lang/String;" = some ⟨[], (some (.object "java/lang/String"))⟩ := by decide +kernel
theorem pd4 : parseMethodDescriptor "(Ljava/lang/Object;)Z" = some ⟨[(.object "java/lang/Object")], (some .boolean)⟩ := by decide +kernel
theorem pd5 : parseMethodDescriptor "()[Lcom/example/rowgate/rowgate/AccountRole;" = some ⟨[], (some (.array (.object "com/example/rowgate/rowgate/AccountRole")))⟩ := by decide +kernel
theorem pd6 : parseMethodDescriptor "([Ljava/lang/Object;Ljava/util/function/Function;Ljava/lang/String;Ljava/lang/String;)Ljava/lang/Object;" = some ⟨[(.array (.object "java/lang/Object")), (.object "java/util/function/Function"), (.object "java/lang/String"), (.object "java/lang/String")], (some (.object "java/lang/Object"))⟩ := by decide +kernel
theorem pd7 : parseMethodDescriptor "(Ljava/lang/String;)Lcom/example/rowgate/rowgate/AccountRole;" = some ⟨[(.object "java/lang/String")], (some (.object "com/example/rowgate/rowgate/AccountRole"))⟩ := by decide +kernel
theorem pn0 : plainName "java/lang/StringLatin1" = true := by first | (simp [plainName, overriddenIn]; done) | decide +kernel
theorem pn1 : plainName "java/lang/String" = true := by first | (simp [plainName, overriddenIn]; done) | decide +kernel
theorem pn2 : plainName "com/example/rowgate/rowgate/AccountRole" = true := by first | (simp [plainName, overriddenIn]; done) | decide +kernel
theorem pn3 : plainName "com/example/rowgate/rowgate/Names" = true := by first | (simp [plainName, overriddenIn]; done) | decide +kernel
theorem pn4 : plainName "com/example/rowgate/rowgate/AccountRoleFromNamePinLaw" = true := by first | (simp [plainName, overriddenIn]; done) | decide +kernel
abbrev EL : List (String × Nat) := []
theorem own_ch8 : ∀ n : Fin 256, fits .char (.int (Int32.ofNat n.val)) = true ∧ ¬ (255 : Int32) < Int32.ofNat n.val ∧ nar .char (Int32.ofNat n.val) = Int32.ofNat n.val ∧ (Int32.ofNat n.val).toUInt32.toUInt16.toUInt32.toInt32 = Int32.ofNat n.val := by decide +kernel
/-- new String(cs), cs not empty, each a Latin-1 char: as a step -/
theorem strLat {p : Program} {l : Launch} {e : Env} {R : Room} {s : State} {m : MethodId} {args : Array Value} {below : List Frame} {meth : Method} {c : Code} {T : State} {locs : List Loc} {cells slots : Nat} {G : Outcome → State → Prop} {pc : Nat} {Ls : Array Slot} {rest : List Value} {Z : State} {a0 : Array Value} {h : Heap}
    (X : Stand p l e R s m args below meth c T locs cells slots) (hx : p.tables.exec = Jvm.exec) (hZ : Z.Warmed39 s.vm) (hw : ∀ d ∈ tables_1, d.before a0 Z = true) (eT : T.heap = h) {own : String} {index : Nat} (hown : s.vm.findClass own = some m.cls) (wl : (Cond.methodLink own index (⟨"java/lang/String", "<init>", "([C)V"⟩ : MethodName)).before a0 Z = true)
    {x b : Addr} {kc : ClassId} {cs : List Int32} {v0 c0 : Value} {z : Int32} (E : Exa Z h x "java/lang/String") (V : Fld Z h x "java/lang/String" "value" "[B" v0) (C0 : Fld Z h x "java/lang/String" "coder" "B" c0) (A : Ow.AL Z h b kc .char (cs.map Value.int)) (S : Sta Z h "java/lang/String" "COMPACT_STRINGS" "Z" (.int z)) (hz : ¬ z = 0) (n : Nat) (hn : cs.length = n) (h0 : 0 < n) (hbig : n ≤ 4000) (hall : ∀ c ∈ cs, ∃ k : Fin 256, c = Int32.ofNat k.val) (hsz : Ls.size = c.maxLocals)
    (hd : decode c.code pc = .ok (.invokespecial index, 3)) (hf : (4 : Nat).ble R.frames = true) (hlo : ((rest.map fun v => v.category).sum + 65).ble R.locals = true) (hce : cells + 1 ≤ R.cells) (hsl : slots + n ≤ R.slots)
    (K : ∀ (T' : State) (L : List Loc) (kb : ClassId), Stand p l e R s m args below meth c T' (locs ++ L) (cells + 1) (slots + n) → Ow.Eff h T'.heap [x] L → Ow.Str Z T'.heap x h.size kb (cs.map fun c => c.toInt8.toInt32) → Go p.tables e below G (T'.setTop (mkF m (pc + 3) Ls rest))) :
    Go p.tables e below G (T.setTop (mkF m pc Ls (.ref b :: .ref x :: rest))) := by
  subst hn
  have hws : ∀ d ∈ StrChars.Road.words, d.before a0 Z = true := fun d hd => hw d ((by decide +kernel : ∀ d ∈ StrChars.Road.words, d ∈ tables_1) d hd)
  have hb31 : cs.length < 2147483648 := by omega
  refine Ow.callIB X hx hZ (StrChars.Road.backArv (kI := 4) hZ hws (ww hw 6 rfl) E V C0 (A.arv (z := Int32.ofNat cs.length) (dv := .int 0) (Ow.n_nn hb31) (by rw [Ow.n_cl hb31, List.length_map]) (fun v hv => ?_)) S hz (Ow.n_cl hb31) h0 (by omega) (fun c hc => ?_) (Nat.le_of_ble_eq_true hf) (Nat.le_of_ble_eq_true hlo)) eT rfl hown wl (ww hw 9 rfl) (ww hw 10 rfl) (by decide) pd0 hsz (a := x) (argsL := [.ref b]) rfl rfl rfl hd hce hsl ?_
  · obtain ⟨c, hc, rfl⟩ := List.mem_map.mp hv
    obtain ⟨k, rfl⟩ := hall c hc
    exact (own_ch8 k).1
  · obtain ⟨k, rfl⟩ := hall c hc
    exact (own_ch8 k).2.1
  · rintro _ T' L X' ⟨rfl, q2, q3, q4, q5, q6, q7, ⟨kb, -, q8⟩, -⟩
    refine K T' L kb X' ⟨q3, fun y hy => Or.inl (by rw [q2 y hy]; simp)⟩ ⟨q5, q7, q6, ?_⟩
    have q9 := Ow.AL.of_arv q8 (by rw [Ow.n_cl hb31, List.length_map])
    rw [List.map_map]; exact q9
abbrev own_sg : Lambda.Shape := Lambda.Shape.mk "java/util/function/Function" "apply" ⟨[.object "java/lang/Object"], some (.object "java/lang/Object")⟩ [] 5 "com/example/rowgate/rowgate/AccountRole" "getDisplayName" ⟨[], some (.object "java/lang/String")⟩ false ⟨[.object "com/example/rowgate/rowgate/AccountRole"], some (.object "java/lang/String")⟩
def own_fc : ByteArray := ⟨#[0x2b, 0xc0, 0x00, 0x0e, 0xb6, 0x00, 0x12, 0xb0]⟩
theorem own_fok : Jvm.LamKit.fwdOK own_sg "com/example/rowgate/rowgate/AccountRole" own_fc 2 (some (.object "java/lang/Object")) 18 14 = true := by decide +kernel
theorem own_f0 : decode own_fc 0 = .ok (.aload_n 1, 1) := by decide +kernel
theorem own_f1 : decode own_fc 1 = .ok (.checkcast 14, 3) := by decide +kernel
theorem own_f4 : decode own_fc 4 = .ok (.invokevirtual 18, 3) := by decide +kernel
theorem own_f7 : decode own_fc 7 = .ok (.areturn, 1) := by decide +kernel
/-- from i on, f places alike -/
def own_eqf (bs cs : List Int32) : Nat → Nat → Int32
  | _, 0 => 1
  | i, f + 1 => if bs.getD i 0 = cs.getD i 0 then own_eqf bs cs (i + 1) f else 0
theorem own_eqf_succ (bs cs : List Int32) (i f : Nat) : own_eqf bs cs i (f + 1) = if bs.getD i 0 = cs.getD i 0 then own_eqf bs cs (i + 1) f else 0 := rfl
def own_eqv (bs cs : List Int32) : Int32 := if bs.length = cs.length then own_eqf bs cs 0 bs.length else 0
theorem own_eqf01 (bs cs : List Int32) : ∀ (f i : Nat), own_eqf bs cs i f = 0 ∨ own_eqf bs cs i f = 1
  | 0, _ => Or.inr rfl
  | f + 1, i => by
    rw [own_eqf_succ]
    split
    · exact own_eqf01 bs cs f (i + 1)
    · exact Or.inl rfl
theorem own_eqv01 (bs cs : List Int32) : own_eqv bs cs = 0 ∨ own_eqv bs cs = 1 := by
  unfold own_eqv
  split
  · exact own_eqf01 bs cs _ _
  · exact Or.inl rfl
theorem own_AL {Z : State} {h : Heap} {a : Addr} {cl : Cell} {ty : FieldType} (A : Arr Z h a cl ty) (vs : List Value) (hs : cl.slots.size = vs.length) (hel : ∀ i, i < vs.length → cl.slots[i]? = vs[i]?) : Ow.AL Z h a cl.cls ty vs := by
  refine ⟨cl, A, rfl, Array.ext_getElem? fun i => ?_⟩
  have e : vs.toArray[i]? = vs[i]? := by simp
  by_cases q : i < vs.length
  · exact (hel i q).trans e.symm
  · exact (Array.getElem?_eq_none (show cl.slots.size ≤ i by omega)).trans ((e.trans (List.getElem?_eq_none (show vs.length ≤ i by omega))).symm)
theorem own_sz {n k : Nat} (h1 : n < 2147483648) (hk : k < 2147483648) (h2 : n.toInt32 = Int32.ofNat k) : n = k := (Ow.n_eq h1 hk).mp h2
theorem d11_0 : decode jdk_43_method_13_code 0 = .ok (.aload_n 0, 1) := by decide +kernel
theorem d11_1 : decode jdk_43_method_13_code 1 = .ok (.arraylength, 1) := by decide +kernel
theorem d11_2 : decode jdk_43_method_13_code 2 = .ok (.aload_n 1, 1) := by decide +kernel
theorem d11_3 : decode jdk_43_method_13_code 3 = .ok (.arraylength, 1) := by decide +kernel
theorem d11_4 : decode jdk_43_method_13_code 4 = .ok (.if_icmp .ne 30, 3) := by decide +kernel
theorem d11_7 : decode jdk_43_method_13_code 7 = .ok (.iconst 0, 1) := by decide +kernel
theorem d11_8 : decode jdk_43_method_13_code 8 = .ok (.istore_n 2, 1) := by decide +kernel
theorem d11_9 : decode jdk_43_method_13_code 9 = .ok (.iload_n 2, 1) := by decide +kernel
theorem d11_10 : decode jdk_43_method_13_code 10 = .ok (.aload_n 0, 1) := by decide +kernel
theorem d11_11 : decode jdk_43_method_13_code 11 = .ok (.arraylength, 1) := by decide +kernel
theorem d11_12 : decode jdk_43_method_13_code 12 = .ok (.if_icmp .ge 20, 3) := by decide +kernel
theorem d11_15 : decode jdk_43_method_13_code 15 = .ok (.aload_n 0, 1) := by decide +kernel
theorem d11_16 : decode jdk_43_method_13_code 16 = .ok (.iload_n 2, 1) := by decide +kernel
theorem d11_17 : decode jdk_43_method_13_code 17 = .ok (.baload, 1) := by decide +kernel
theorem d11_18 : decode jdk_43_method_13_code 18 = .ok (.aload_n 1, 1) := by decide +kernel
theorem d11_19 : decode jdk_43_method_13_code 19 = .ok (.iload_n 2, 1) := by decide +kernel
theorem d11_20 : decode jdk_43_method_13_code 20 = .ok (.baload, 1) := by decide +kernel
theorem d11_21 : decode jdk_43_method_13_code 21 = .ok (.if_icmp .eq 5, 3) := by decide +kernel
theorem d11_24 : decode jdk_43_method_13_code 24 = .ok (.iconst 0, 1) := by decide +kernel
theorem d11_25 : decode jdk_43_method_13_code 25 = .ok (.ireturn, 1) := by decide +kernel
theorem d11_26 : decode jdk_43_method_13_code 26 = .ok (.iinc 2 1, 3) := by decide +kernel
theorem d11_29 : decode jdk_43_method_13_code 29 = .ok (.goto (-20), 3) := by decide +kernel
theorem d11_32 : decode jdk_43_method_13_code 32 = .ok (.iconst 1, 1) := by decide +kernel
theorem d11_33 : decode jdk_43_method_13_code 33 = .ok (.ireturn, 1) := by decide +kernel
theorem d11_34 : decode jdk_43_method_13_code 34 = .ok (.iconst 0, 1) := by decide +kernel
theorem d11_35 : decode jdk_43_method_13_code 35 = .ok (.ireturn, 1) := by decide +kernel
set_option maxRecDepth 65536 in
set_option maxHeartbeats 4000000 in
theorem c_leq (l : Launch) (Z : State) (a0 : Array Value) (hw : ∀ d ∈ tables_1, d.before a0 Z = true) (h0 : Heap) (t t2 : Addr) (kb kc : ClassId) (bs cs : List Int32) (A : Ow.AL Z h0 t kb .byte (bs.map Value.int)) (B : Ow.AL Z h0 t2 kc .byte (cs.map Value.int)) (hbs : bs.length < 2147483648) (hcs : cs.length < 2147483648) : Ow.Pay l Z (⟨"java/lang/StringLatin1", "equals", "([B[B)Z"⟩ : MethodName) jdk_43_method_13_code 3 (some .boolean) ({ frames := 0, cells := 0, slots := 0, locals := 0 } : Room) #[(.ref t), (.ref t2)] h0 (fun v h L => v = some (.int (own_eqv bs cs)) ∧ h = h0 ∧ L = []) := by
  refine Ow.Pay.of (Ls := #[.val (.ref t), .val (.ref t2), .unset]) (plainFor_of_name pn0) (fun m => by first | rfl | (simp [entryFrame, mkF, argsToLocals, Value.category]; done)) ?_
  intro p e s m below meth c T hx hby hml hown hnm hme hZ hret hlk X eT
  refine Ow.aloadN X hx (pc := 0) (hb hby d11_0) rfl rfl ?_
  refine Ow.lengthL X hx hZ eT A (Int32.ofNat bs.length) (by rw [List.length_map]) (pc := 1) (hb hby d11_1) ?_
  refine Ow.aloadN X hx (pc := 2) (hb hby d11_2) rfl rfl ?_
  refine Ow.lengthL X hx hZ eT B (Int32.ofNat cs.length) (by rw [List.length_map]) (pc := 3) (hb hby d11_3) ?_
  refine Ow.icmp_ne X hx (pc := 4) (pc' := 34) (hb hby d11_4) (by decide) (by decide) (fun h4 => ?_) (fun h4 => ?_)
  · refine Ow.iconst X hx (pc := 34) (0) (hb hby d11_34) (by decide) ?_
    exact Ow.nreturn X hx hlk hret (Or.inl rfl) (hb hby d11_35) ⟨congrArg (fun w => some (Value.int w)) (Eq.symm (show own_eqv bs cs = 0 from if_neg (fun r => h4 (congrArg Int32.ofNat r)))), eT, rfl⟩ (by decide) (by decide)
  · refine Ow.iconst X hx (pc := 7) (0) (hb hby d11_7) (by decide) ?_
    refine Ow.istoreN X hx (pc := 8) #[_, _, _] (hb hby d11_8) rfl ?_
    have hlen : bs.length = cs.length := (Ow.n_eq hbs hcs).mp h4
    have lp : ∀ (f i : Nat), i + f = bs.length → own_eqv bs cs = own_eqf bs cs i f → ∀ T, Stand p l e ({ frames := 0, cells := 0, slots := 0, locals := 0 } : Room) s m #[(.ref t), (.ref t2)] below meth c T [] 0 0 → T.heap = h0 → Go p.tables e below (Ow.EndN s (fun v h L => v = some (.int (own_eqv bs cs)) ∧ h = h0 ∧ L = []) 0 0) (T.setTop (mkF m 9 #[.val (.ref t), .val (.ref t2), .val (.int (Int32.ofNat i))] [])) := by
      intro f
      induction f with
      | zero =>
        intro i hi hv T X eT
        refine Ow.iloadN X hx (pc := 9) (hb hby d11_9) rfl ?_
        refine Ow.aloadN X hx (pc := 10) (hb hby d11_10) rfl rfl ?_
        refine Ow.lengthL X hx hZ eT A (Int32.ofNat bs.length) (by rw [List.length_map]) (pc := 11) (hb hby d11_11) ?_
        refine Ow.icmp_ge X hx (pc := 12) (pc' := 32) (hb hby d11_12) (by decide) (by decide) (fun h12 => ?_) (fun q => absurd ((Ow.n_lt (by omega) (by omega)).mp q) (by omega))
        refine Ow.iconst X hx (pc := 32) (1) (hb hby d11_32) (by decide) ?_
        exact Ow.nreturn X hx hlk hret (Or.inl rfl) (hb hby d11_33) ⟨congrArg (fun w => some (Value.int w)) (Eq.symm (show own_eqv bs cs = 1 from hv)), eT, rfl⟩ (by decide) (by decide)
      | succ f ih =>
        intro i hi hv T X eT
        have hi2 : i < bs.length := by omega
        have hi3 : i < cs.length := by omega
        have hg : (bs.map Value.int)[i]? = some (.int (bs.getD i 0)) := by simp [hi2]
        have hg2 : (cs.map Value.int)[i]? = some (.int (cs.getD i 0)) := by simp [hi3]
        rw [own_eqf_succ] at hv
        refine Ow.iloadN X hx (pc := 9) (hb hby d11_9) rfl ?_
        refine Ow.aloadN X hx (pc := 10) (hb hby d11_10) rfl rfl ?_
        refine Ow.lengthL X hx hZ eT A (Int32.ofNat bs.length) (by rw [List.length_map]) (pc := 11) (hb hby d11_11) ?_
        refine Ow.icmp_ge X hx (pc := 12) (pc' := 32) (hb hby d11_12) (by decide) (by decide) (fun q => absurd ((Ow.n_lt (by omega) (by omega)).mpr hi2) q) (fun h12 => ?_)
        refine Ow.aloadN X hx (pc := 15) (hb hby d11_15) rfl rfl ?_
        refine Ow.iloadN X hx (pc := 16) (hb hby d11_16) rfl ?_
        refine Ow.baloadL X hx hZ eT A i (.int (bs.getD i 0)) (Ow.n_nn (by omega)) (Ow.n_cl (by omega)) hg (pc := 17) (hb hby d11_17) ?_
        refine Ow.aloadN X hx (pc := 18) (hb hby d11_18) rfl rfl ?_
        refine Ow.iloadN X hx (pc := 19) (hb hby d11_19) rfl ?_
        refine Ow.baloadL X hx hZ eT B i (.int (cs.getD i 0)) (Ow.n_nn (by omega)) (Ow.n_cl (by omega)) hg2 (pc := 20) (hb hby d11_20) ?_
        refine Ow.icmp_eq X hx (pc := 21) (pc' := 26) (hb hby d11_21) (by decide) (by decide) (fun h21 => ?_) (fun h21 => ?_)
        · refine Ow.iinc X hx (pc := 26) 1 #[_, _, _] (hb hby d11_26) (by decide) rfl rfl ?_
          rw [Ow.n_one]
          refine Ow.goto X hx (pc := 29) (pc' := 9) (hb hby d11_29) (by decide) (by decide) ?_
          exact ih (i + 1) (by omega) (hv.trans (if_pos h21)) T X eT
        · refine Ow.iconst X hx (pc := 24) (0) (hb hby d11_24) (by decide) ?_
          exact Ow.nreturn X hx hlk hret (Or.inl rfl) (hb hby d11_25) ⟨congrArg (fun w => some (Value.int w)) (Eq.symm (show own_eqv bs cs = 0 from hv.trans (if_neg h21))), eT, rfl⟩ (by decide) (by decide)
    exact lp bs.length 0 (by omega) (if_pos hlen) T X eT
theorem d10_0 : decode jdk_42_method_66_code 0 = .ok (.aload_n 0, 1) := by decide +kernel
theorem d10_1 : decode jdk_42_method_66_code 1 = .ok (.aload_n 1, 1) := by decide +kernel
theorem d10_2 : decode jdk_42_method_66_code 2 = .ok (.if_acmp .ne 5, 3) := by decide +kernel
theorem d10_5 : decode jdk_42_method_66_code 5 = .ok (.iconst 1, 1) := by decide +kernel
theorem d10_6 : decode jdk_42_method_66_code 6 = .ok (.ireturn, 1) := by decide +kernel
theorem d10_7 : decode jdk_42_method_66_code 7 = .ok (.aload_n 1, 1) := by decide +kernel
theorem d10_8 : decode jdk_42_method_66_code 8 = .ok (.instanceof 10, 3) := by decide +kernel
theorem d10_11 : decode jdk_42_method_66_code 11 = .ok (.ifCond .eq 43, 3) := by decide +kernel
theorem d10_14 : decode jdk_42_method_66_code 14 = .ok (.aload_n 1, 1) := by decide +kernel
theorem d10_15 : decode jdk_42_method_66_code 15 = .ok (.checkcast 10, 3) := by decide +kernel
theorem d10_18 : decode jdk_42_method_66_code 18 = .ok (.astore_n 2, 1) := by decide +kernel
theorem d10_19 : decode jdk_42_method_66_code 19 = .ok (.getstatic 38, 3) := by decide +kernel
theorem d10_22 : decode jdk_42_method_66_code 22 = .ok (.ifCond .eq 14, 3) := by decide +kernel
theorem d10_25 : decode jdk_42_method_66_code 25 = .ok (.aload_n 0, 1) := by decide +kernel
theorem d10_26 : decode jdk_42_method_66_code 26 = .ok (.getfield 15, 3) := by decide +kernel
theorem d10_29 : decode jdk_42_method_66_code 29 = .ok (.aload_n 2, 1) := by decide +kernel
theorem d10_30 : decode jdk_42_method_66_code 30 = .ok (.getfield 15, 3) := by decide +kernel
theorem d10_33 : decode jdk_42_method_66_code 33 = .ok (.if_icmp .ne 21, 3) := by decide +kernel
theorem d10_36 : decode jdk_42_method_66_code 36 = .ok (.aload_n 0, 1) := by decide +kernel
theorem d10_37 : decode jdk_42_method_66_code 37 = .ok (.getfield 9, 3) := by decide +kernel
theorem d10_40 : decode jdk_42_method_66_code 40 = .ok (.aload_n 2, 1) := by decide +kernel
theorem d10_41 : decode jdk_42_method_66_code 41 = .ok (.getfield 9, 3) := by decide +kernel
theorem d10_44 : decode jdk_42_method_66_code 44 = .ok (.invokestatic 541, 3) := by decide +kernel
theorem d10_47 : decode jdk_42_method_66_code 47 = .ok (.ifCond .eq 7, 3) := by decide +kernel
theorem d10_50 : decode jdk_42_method_66_code 50 = .ok (.iconst 1, 1) := by decide +kernel
theorem d10_51 : decode jdk_42_method_66_code 51 = .ok (.goto 4, 3) := by decide +kernel
theorem d10_54 : decode jdk_42_method_66_code 54 = .ok (.iconst 0, 1) := by decide +kernel
theorem d10_55 : decode jdk_42_method_66_code 55 = .ok (.ireturn, 1) := by decide +kernel
set_option maxRecDepth 65536 in
set_option maxHeartbeats 4000000 in
theorem c_seq (l : Launch) (Z : State) (a0 : Array Value) (hw : ∀ d ∈ tables_1, d.before a0 Z = true) (h0 : Heap) (z : Int32) (x y : Addr) (t t2 : Addr) (kb kc : ClassId) (bs cs : List Int32) (S : Sta Z h0 "java/lang/String" "COMPACT_STRINGS" "Z" (.int z)) (hz : ¬ z = 0) (St : Ow.Str Z h0 x t kb bs) (St2 : Ow.Str Z h0 y t2 kc cs) (hne : x ≠ y) (hbs : bs.length < 2147483648) (hcs : cs.length < 2147483648) : Ow.Pay l Z (⟨"java/lang/String", "equals", "(Ljava/lang/Object;)Z"⟩ : MethodName) jdk_42_method_66_code 3 (some .boolean) ({ frames := 1, cells := 0, slots := 0, locals := 14 } : Room) #[(.ref x), (.ref y)] h0 (fun v h L => v = some (.int (own_eqv bs cs)) ∧ h = h0 ∧ L = []) := by
  refine Ow.Pay.of (Ls := #[.val (.ref x), .val (.ref y), .unset]) (plainFor_of_name pn1) (fun m => by first | rfl | (simp [entryFrame, mkF, argsToLocals, Value.category]; done)) ?_
  intro p e s m below meth c T hx hby hml hown hnm hme hZ hret hlk X eT
  refine Ow.aloadN X hx (pc := 0) (hb hby d10_0) rfl rfl ?_
  refine Ow.aloadN X hx (pc := 1) (hb hby d10_1) rfl rfl ?_
  refine Ow.acmp_ne X hx (pc := 2) (pc' := 7) (hb hby d10_2) rfl rfl (by decide) (by decide) (fun h2 => ?_) (fun q => absurd (Value.ref.inj q) hne)
  refine Ow.aloadN X hx (pc := 7) (hb hby d10_7) rfl rfl ?_
  refine Ow.instanceofY X hx hZ hown (ww hw 79 rfl) eT (Ins.self St2.1) (pc := 8) (hb hby d10_8) ?_
  intro T X eT
  refine Ow.if_eq X hx (pc := 11) (pc' := 54) (hb hby d10_11) (by decide) (by decide) (fun q => absurd q (by decide)) (fun h11 => ?_)
  refine Ow.aloadN X hx (pc := 14) (hb hby d10_14) rfl rfl ?_
  refine Ow.checkcast X hx hZ hown (ww hw 79 rfl) eT (Ins.self St2.1) (pc := 15) (hb hby d10_15) ?_
  intro T X eT
  refine Ow.astoreN X hx (pc := 18) #[_, _, _] (hb hby d10_18) rfl rfl ?_
  refine Ow.getstatic X hx hZ hown (ww hw 18 rfl) Via.refl eT S (pc := 19) (hb hby d10_19) ?_   -- "java/lang/String" "COMPACT_STRINGS" "Z"
  intro T X eT
  refine Ow.if_eq X hx (pc := 22) (pc' := 36) (hb hby d10_22) (by decide) (by decide) (fun q => absurd q hz) (fun h22 => ?_)
  refine Ow.aloadN X hx (pc := 25) (hb hby d10_25) rfl rfl ?_
  refine Ow.getfield X hx hZ hown (ww hw 30 rfl) Via.refl eT St.2.1 (pc := 26) (hb hby d10_26) ?_   -- "java/lang/String" "coder" "B"
  intro T X eT
  refine Ow.aloadN X hx (pc := 29) (hb hby d10_29) rfl rfl ?_
  refine Ow.getfield X hx hZ hown (ww hw 30 rfl) Via.refl eT St2.2.1 (pc := 30) (hb hby d10_30) ?_   -- "java/lang/String" "coder" "B"
  intro T X eT
  refine Ow.icmp_ne X hx (pc := 33) (pc' := 54) (hb hby d10_33) (by decide) (by decide) (fun q => absurd rfl q) (fun h33 => ?_)
  refine Ow.aloadN X hx (pc := 36) (hb hby d10_36) rfl rfl ?_
  refine Ow.getfield X hx hZ hown (ww hw 32 rfl) Via.refl eT St.2.2.1 (pc := 37) (hb hby d10_37) ?_   -- "java/lang/String" "value" "[B"
  intro T X eT
  refine Ow.aloadN X hx (pc := 40) (hb hby d10_40) rfl rfl ?_
  refine Ow.getfield X hx hZ hown (ww hw 32 rfl) Via.refl eT St2.2.2.1 (pc := 41) (hb hby d10_41) ?_   -- "java/lang/String" "value" "[B"
  intro T X eT
  refine Ow.callSP X hx hZ (c_leq l Z a0 hw h0 t t2 kb kc bs cs St.2.2.2 St2.2.2.2 hbs hcs) rfl rfl eT hown (ww hw 80 rfl) (ww hw 81 rfl) (ww hw 82 rfl) (ww hw 83 rfl) (by decide) pd1 (by rw [hml]; rfl) (argsL := [_, _]) rfl rfl rfl (pc := 44) (hb hby d10_44) rfl rfl (by decide) (by decide) ?_   -- java/lang/StringLatin1.equals:([B[B)Z
  intro T X eT
  dsimp only [Option.toList_some, Option.toList_none, List.cons_append, List.nil_append]
  refine Ow.if_eq X hx (pc := 47) (pc' := 54) (hb hby d10_47) (by decide) (by decide) (fun h47 => ?_) (fun h47 => ?_)
  · refine Ow.iconst X hx (pc := 54) (0) (hb hby d10_54) (by decide) ?_
    exact Ow.nreturn X hx hlk hret (Or.inl rfl) (hb hby d10_55) ⟨congrArg (fun w => some (Value.int w)) (Eq.symm h47), eT, rfl⟩ (by decide) (by decide)
  · refine Ow.iconst X hx (pc := 50) (1) (hb hby d10_50) (by decide) ?_
    refine Ow.goto X hx (pc := 51) (pc' := 55) (hb hby d10_51) (by decide) (by decide) ?_
    exact Ow.nreturn X hx hlk hret (Or.inl rfl) (hb hby d10_55) ⟨congrArg (fun w => some (Value.int w)) (Eq.symm ((own_eqv01 bs cs).resolve_left h47)), eT, rfl⟩ (by decide) (by decide)
theorem d9_0 : decode prog_1_method_5_code 0 = .ok (.aload_n 0, 1) := by decide +kernel
theorem d9_1 : decode prog_1_method_5_code 1 = .ok (.getfield 32, 3) := by decide +kernel
theorem d9_4 : decode prog_1_method_5_code 4 = .ok (.areturn, 1) := by decide +kernel
set_option maxRecDepth 65536 in
set_option maxHeartbeats 4000000 in
theorem c_gdn (l : Launch) (Z : State) (a0 : Array Value) (hw : ∀ d ∈ tables_1, d.before a0 Z = true) (h0 : Heap) (a sx : Addr) (F1 : Fld Z h0 a "com/example/rowgate/rowgate/AccountRole" "displayName" "Ljava/lang/String;" (.ref sx)) : Ow.Pay l Z (⟨"com/example/rowgate/rowgate/AccountRole", "getDisplayName", "()Ljava/lang/String;"⟩ : MethodName) prog_1_method_5_code 1 (some (.object "java/lang/String")) ({ frames := 0, cells := 0, slots := 0, locals := 0 } : Room) #[(.ref a)] h0 (fun v h L => v = some (.ref sx) ∧ h = h0 ∧ L = []) := by
  refine Ow.Pay.of (Ls := #[.val (.ref a)]) (plainFor_of_name pn2) (fun m => by first | rfl | (simp [entryFrame, mkF, argsToLocals, Value.category]; done)) ?_
  intro p e s m below meth c T hx hby hml hown hnm hme hZ hret hlk X eT
  refine Ow.aloadN X hx (pc := 0) (hb hby d9_0) rfl rfl ?_
  refine Ow.getfield X hx hZ hown (ww hw 71 rfl) Via.refl eT F1 (pc := 1) (hb hby d9_1) ?_   -- "com/example/rowgate/rowgate/AccountRole" "displayName" "Ljava/lang/String;"
  intro T X eT
  exact Ow.areturn X hx hlk hret rfl rfl rfl (hb hby d9_4) ⟨rfl, eT, rfl⟩ (by decide) (by decide)
theorem d7_0 : decode prog_1_method_1_code 0 = .ok (.getstatic 13, 3) := by decide +kernel
theorem d7_3 : decode prog_1_method_1_code 3 = .ok (.invokevirtual 17, 3) := by decide +kernel
theorem d7_6 : decode prog_1_method_1_code 6 = .ok (.checkcast 18, 3) := by decide +kernel
theorem d7_9 : decode prog_1_method_1_code 9 = .ok (.areturn, 1) := by decide +kernel
set_option maxRecDepth 65536 in
set_option maxHeartbeats 4000000 in
theorem c_values (l : Launch) (Z : State) (a0 : Array Value) (hw : ∀ d ∈ tables_1, d.before a0 Z = true) (h0 : Heap) (u0 u1 u2 va : Addr) (kv : ClassId) (SV : Sta Z h0 "com/example/rowgate/rowgate/AccountRole" "$VALUES" "[Lcom/example/rowgate/rowgate/AccountRole;" (.ref va)) (B_va : Ow.AL Z h0 va kv (.object "com/example/rowgate/rowgate/AccountRole") [.ref u0, .ref u1, .ref u2]) (E_va : Exa Z h0 va "[Lcom/example/rowgate/rowgate/AccountRole;") : Ow.Pay l Z (⟨"com/example/rowgate/rowgate/AccountRole", "values", "()[Lcom/example/rowgate/rowgate/AccountRole;"⟩ : MethodName) prog_1_method_1_code 0 (some (.array (.object "com/example/rowgate/rowgate/AccountRole"))) ({ frames := 1, cells := 1, slots := 3, locals := 14 } : Room) #[] h0 (fun v h L => ∃ b, v = some (.ref b) ∧ Ow.Eff h0 h [] L ∧ h0.size ≤ b ∧ Ow.AL Z h b kv (.object "com/example/rowgate/rowgate/AccountRole") [.ref u0, .ref u1, .ref u2]) := by
  refine Ow.Pay.of (Ls := #[]) (plainFor_of_name pn2) (fun m => by first | rfl | (simp [entryFrame, mkF, argsToLocals, Value.category]; done)) ?_
  intro p e s m below meth c T hx hby hml hown hnm hme hZ hret hlk X eT
  have hfit : ∀ v ∈ ([.ref u0, .ref u1, .ref u2] : List Value), fits (.object "com/example/rowgate/rowgate/AccountRole") v = true := fun v hv => by
    simp only [List.mem_cons, List.not_mem_nil, or_false] at hv
    rcases hv with rfl | rfl | rfl <;> rfl
  have F := Ow.Eff.refl h0 []
  refine Ow.getstatic X hx hZ hown (ww hw 40 rfl) Via.refl eT SV (pc := 0) (hb hby d7_0) ?_   -- "com/example/rowgate/rowgate/AccountRole" "$VALUES" "[Lcom/example/rowgate/rowgate/AccountRole;"
  intro T X eT
  refine Ow.cloneL X hx hZ eT hown (ww hw 42 rfl) (ww hw 43 rfl) (ww hw 47 rfl) (ww hw 45 rfl) (ww hw 46 rfl) (ww hw 48 rfl) B_va E_va hfit 3 rfl (by decide) (by rw [hml]; rfl) (pc := 3) (hb hby d7_3) rfl rfl (by decide) (by decide) ?_
  intro T h_b b ha_b X eT E_b B_b A_b
  have l_b : h0.size ≤ b := by rw [ha_b]; exact F.size
  have F := F.ext E_b
  refine Ow.checkcast X hx hZ hown (ww hw 52 rfl) eT (Ins.self A_b) (pc := 6) (hb hby d7_6) ?_
  intro T X eT
  exact Ow.areturn X hx hlk hret rfl rfl rfl (hb hby d7_9) ⟨b, rfl, by rw [eT]; exact F, l_b, by rw [eT]; exact B_b⟩ (by decide) (by decide)
theorem d8_0 : decode prog_8_method_3_code 0 = .ok (.aload_n 0, 1) := by decide +kernel
theorem d8_1 : decode prog_8_method_3_code 1 = .ok (.astore 4, 2) := by decide +kernel
theorem d8_3 : decode prog_8_method_3_code 3 = .ok (.aload 4, 2) := by decide +kernel
theorem d8_5 : decode prog_8_method_3_code 5 = .ok (.arraylength, 1) := by decide +kernel
theorem d8_6 : decode prog_8_method_3_code 6 = .ok (.istore 5, 2) := by decide +kernel
theorem d8_8 : decode prog_8_method_3_code 8 = .ok (.iconst 0, 1) := by decide +kernel
theorem d8_9 : decode prog_8_method_3_code 9 = .ok (.istore 6, 2) := by decide +kernel
theorem d8_11 : decode prog_8_method_3_code 11 = .ok (.iload 6, 2) := by decide +kernel
theorem d8_13 : decode prog_8_method_3_code 13 = .ok (.iload 5, 2) := by decide +kernel
theorem d8_15 : decode prog_8_method_3_code 15 = .ok (.if_icmp .ge 37, 3) := by decide +kernel
theorem d8_18 : decode prog_8_method_3_code 18 = .ok (.aload 4, 2) := by decide +kernel
theorem d8_20 : decode prog_8_method_3_code 20 = .ok (.iload 6, 2) := by decide +kernel
theorem d8_22 : decode prog_8_method_3_code 22 = .ok (.aaload, 1) := by decide +kernel
theorem d8_23 : decode prog_8_method_3_code 23 = .ok (.astore 7, 2) := by decide +kernel
theorem d8_25 : decode prog_8_method_3_code 25 = .ok (.aload_n 1, 1) := by decide +kernel
theorem d8_26 : decode prog_8_method_3_code 26 = .ok (.aload 7, 2) := by decide +kernel
theorem d8_28 : decode prog_8_method_3_code 28 = .ok (.invokeinterface 44 2, 5) := by decide +kernel
theorem d8_33 : decode prog_8_method_3_code 33 = .ok (.checkcast 8, 3) := by decide +kernel
theorem d8_36 : decode prog_8_method_3_code 36 = .ok (.aload_n 2, 1) := by decide +kernel
theorem d8_37 : decode prog_8_method_3_code 37 = .ok (.invokevirtual 31, 3) := by decide +kernel
theorem d8_40 : decode prog_8_method_3_code 40 = .ok (.ifCond .eq 6, 3) := by decide +kernel
theorem d8_43 : decode prog_8_method_3_code 43 = .ok (.aload 7, 2) := by decide +kernel
theorem d8_45 : decode prog_8_method_3_code 45 = .ok (.areturn, 1) := by decide +kernel
theorem d8_46 : decode prog_8_method_3_code 46 = .ok (.iinc 6 1, 3) := by decide +kernel
theorem d8_49 : decode prog_8_method_3_code 49 = .ok (.goto (-38), 3) := by decide +kernel
theorem d8_52 : decode prog_8_method_3_code 52 = .ok (.aload_n 0, 1) := by decide +kernel
theorem d8_53 : decode prog_8_method_3_code 53 = .ok (.invokestatic 50, 3) := by decide +kernel
theorem d8_56 : decode prog_8_method_3_code 56 = .ok (.aload_n 1, 1) := by decide +kernel
theorem d8_57 : decode prog_8_method_3_code 57 = .ok (.invokedynamic 56, 5) := by decide +kernel
theorem d8_62 : decode prog_8_method_3_code 62 = .ok (.invokeinterface 59 2, 5) := by decide +kernel
theorem d8_67 : decode prog_8_method_3_code 67 = .ok (.ldc 65, 2) := by decide +kernel
theorem d8_69 : decode prog_8_method_3_code 69 = .ok (.invokestatic 67, 3) := by decide +kernel
theorem d8_72 : decode prog_8_method_3_code 72 = .ok (.invokeinterface 73 2, 5) := by decide +kernel
theorem d8_77 : decode prog_8_method_3_code 77 = .ok (.checkcast 8, 3) := by decide +kernel
theorem d8_80 : decode prog_8_method_3_code 80 = .ok (.astore 4, 2) := by decide +kernel
theorem d8_82 : decode prog_8_method_3_code 82 = .ok (.new 77, 3) := by decide +kernel
theorem d8_85 : decode prog_8_method_3_code 85 = .ok (.dup, 1) := by decide +kernel
theorem d8_86 : decode prog_8_method_3_code 86 = .ok (.aload_n 3, 1) := by decide +kernel
theorem d8_87 : decode prog_8_method_3_code 87 = .ok (.aload_n 2, 1) := by decide +kernel
theorem d8_88 : decode prog_8_method_3_code 88 = .ok (.aload_n 3, 1) := by decide +kernel
theorem d8_89 : decode prog_8_method_3_code 89 = .ok (.aload 4, 2) := by decide +kernel
theorem d8_91 : decode prog_8_method_3_code 91 = .ok (.invokedynamic 79, 5) := by decide +kernel
theorem d8_96 : decode prog_8_method_3_code 96 = .ok (.invokespecial 82, 3) := by decide +kernel
theorem d8_99 : decode prog_8_method_3_code 99 = .ok (.athrow, 1) := by decide +kernel
set_option maxRecDepth 65536 in
set_option maxHeartbeats 4000000 in
theorem c_find0 (l : Launch) (Z : State) (a0 : Array Value) (hw : ∀ d ∈ tables_1, d.before a0 Z = true) (h0 : Heap) (z : Int32) (S : Sta Z h0 "java/lang/String" "COMPACT_STRINGS" "Z" (.int z)) (hz : ¬ z = 0) (b wh u0 u1 u2 : Addr) (kv : ClassId) (B_b : Ow.AL Z h0 b kv (.object "com/example/rowgate/rowgate/AccountRole") [.ref u0, .ref u1, .ref u2]) (s0 s1 s2 t0 t1 t2 : Addr) (k0 k1 k2 : ClassId) (A_u0 : Exa Z h0 u0 "com/example/rowgate/rowgate/AccountRole") (F_u0 : Fld Z h0 u0 "com/example/rowgate/rowgate/AccountRole" "displayName" "Ljava/lang/String;" (.ref s0)) (St_0 : Ow.Str Z h0 s0 t0 k0 [117, 115, 101, 114]) (A_u1 : Exa Z h0 u1 "com/example/rowgate/rowgate/AccountRole") (F_u1 : Fld Z h0 u1 "com/example/rowgate/rowgate/AccountRole" "displayName" "Ljava/lang/String;" (.ref s1)) (St_1 : Ow.Str Z h0 s1 t1 k1 [103, 108, 111, 98, 97, 108, 45, 97, 100, 109, 105, 110]) (A_u2 : Exa Z h0 u2 "com/example/rowgate/rowgate/AccountRole") (F_u2 : Fld Z h0 u2 "com/example/rowgate/rowgate/AccountRole" "displayName" "Ljava/lang/String;" (.ref s2)) (St_2 : Ow.Str Z h0 s2 t2 k2 [110, 111, 110, 101]) (fa : Addr) (cK : ClassId) (Lm : Ow.Lam Z (⟨"com/example/rowgate/rowgate/AccountRole", "fromName", "(Ljava/lang/String;)Lcom/example/rowgate/rowgate/AccountRole;"⟩ : MethodName) 3 own_sg fa cK) (Cl : Ow.Cel h0 fa cK) (x tx : Addr) (kx : ClassId) (cs : List Int32) (Stx : Ow.Str Z h0 x tx kx cs) (hcs : cs.length < 2147483648) (ne0 : s0 ≠ x) (ne1 : s1 ≠ x) (ne2 : s2 ≠ x) (he0 : own_eqv [117, 115, 101, 114] cs = 1) : Ow.Pay l Z (⟨"com/example/rowgate/rowgate/Names", "find", "([Ljava/lang/Object;Ljava/util/function/Function;Ljava/lang/String;Ljava/lang/String;)Ljava/lang/Object;"⟩ : MethodName) prog_8_method_3_code 8 (some (.object "java/lang/Object")) ({ frames := 2, cells := 0, slots := 0, locals := 28 } : Room) #[(.ref b), (.ref fa), (.ref x), (.ref wh)] h0 (fun v h L => v = some (.ref u0) ∧ h = h0 ∧ L = []) := by
  refine Ow.Pay.of (Ls := #[.val (.ref b), .val (.ref fa), .val (.ref x), .val (.ref wh), .unset, .unset, .unset, .unset]) (plainFor_of_name pn3) (fun m => by first | rfl | (simp [entryFrame, mkF, argsToLocals, Value.category]; done)) ?_
  intro p e s m below meth c T hx hby hml hown hnm hme hZ hret hlk X eT
  refine Ow.aloadN X hx (pc := 0) (hb hby d8_0) rfl rfl ?_
  refine Ow.astore X hx (pc := 1) #[_, _, _, _, _, _, _, _] (hb hby d8_1) rfl rfl ?_
  refine Ow.aload X hx (pc := 3) (hb hby d8_3) rfl rfl ?_
  refine Ow.lengthL X hx hZ eT B_b 3 rfl (pc := 5) (hb hby d8_5) ?_
  refine Ow.istore X hx (pc := 6) #[_, _, _, _, _, _, _, _] (hb hby d8_6) rfl ?_
  refine Ow.iconst X hx (pc := 8) (0) (hb hby d8_8) (by decide) ?_
  refine Ow.istore X hx (pc := 9) #[_, _, _, _, _, _, _, _] (hb hby d8_9) rfl ?_
  refine Ow.iload X hx (pc := 11) (hb hby d8_11) rfl ?_
  refine Ow.iload X hx (pc := 13) (hb hby d8_13) rfl ?_
  refine Ow.icmp_ge X hx (pc := 15) (pc' := 52) (hb hby d8_15) (by decide) (by decide) (fun q => absurd (by decide) q) (fun h15 => ?_)
  refine Ow.aload X hx (pc := 18) (hb hby d8_18) rfl rfl ?_
  refine Ow.iload X hx (pc := 20) (hb hby d8_20) rfl ?_
  refine Ow.aaloadL X hx hZ eT B_b rfl 0 (.ref u0) (by decide) (by decide) rfl (pc := 22) (hb hby d8_22) ?_
  refine Ow.astore X hx (pc := 23) #[_, _, _, _, _, _, _, _] (hb hby d8_23) rfl rfl ?_
  refine Ow.aloadN X hx (pc := 25) (hb hby d8_25) rfl rfl ?_
  refine Ow.aload X hx (pc := 26) (hb hby d8_26) rfl rfl ?_
  refine Ow.callFnP X hx hZ (c_gdn l Z a0 hw h0 u0 s0 F_u0) rfl rfl rfl eT Lm Cl own_fok own_f0 own_f1 own_f4 own_f7 hown (ww hw 64 rfl) (ww hw 65 rfl) (ww hw 66 rfl) ⟨rfl, rfl, by decide +kernel⟩ ⟨rfl, rfl, by decide +kernel⟩ (by decide) (by decide) (ww hw 70 rfl) (ww hw 69 rfl) (ww hw 68 rfl) (ww hw 3 rfl) pd2 rfl pd3 A_u0 (by rw [hml]; rfl) (pc := 28) (hb hby d8_28) rfl rfl (by decide) (by decide) ?_
  intro T X eT
  refine Ow.checkcast X hx hZ hown (ww hw 73 rfl) eT (Ins.self St_0.1) (pc := 33) (hb hby d8_33) ?_
  intro T X eT
  refine Ow.aloadN X hx (pc := 36) (hb hby d8_36) rfl rfl ?_
  refine Ow.callVP X hx hZ (c_seq l Z a0 hw h0 z s0 x t0 tx k0 kx [117, 115, 101, 114] cs S hz St_0 Stx ne0 (by decide) hcs) rfl rfl eT hown (ww hw 74 rfl) (ww hw 75 rfl) (ww hw 77 rfl) (ww hw 76 rfl) (ww hw 7 rfl) (ww hw 78 rfl) (by decide) pd4 (by rw [hml]; rfl) St_0.1 (argsL := [_]) rfl rfl rfl (pc := 37) (hb hby d8_37) rfl rfl (by decide) (by decide) ?_   -- java/lang/String.equals:(Ljava/lang/Object;)Z
  intro T X eT
  dsimp only [Option.toList_some, Option.toList_none, List.cons_append, List.nil_append]
  rw [he0]
  refine Ow.if_eq X hx (pc := 40) (pc' := 46) (hb hby d8_40) (by decide) (by decide) (fun q => absurd q (by decide)) (fun h40 => ?_)
  refine Ow.aload X hx (pc := 43) (hb hby d8_43) rfl rfl ?_
  exact Ow.areturn X hx hlk hret rfl rfl rfl (hb hby d8_45) ⟨rfl, eT, rfl⟩ (by decide) (by decide)
set_option maxRecDepth 65536 in
set_option maxHeartbeats 4000000 in
theorem c_find1 (l : Launch) (Z : State) (a0 : Array Value) (hw : ∀ d ∈ tables_1, d.before a0 Z = true) (h0 : Heap) (z : Int32) (S : Sta Z h0 "java/lang/String" "COMPACT_STRINGS" "Z" (.int z)) (hz : ¬ z = 0) (b wh u0 u1 u2 : Addr) (kv : ClassId) (B_b : Ow.AL Z h0 b kv (.object "com/example/rowgate/rowgate/AccountRole") [.ref u0, .ref u1, .ref u2]) (s0 s1 s2 t0 t1 t2 : Addr) (k0 k1 k2 : ClassId) (A_u0 : Exa Z h0 u0 "com/example/rowgate/rowgate/AccountRole") (F_u0 : Fld Z h0 u0 "com/example/rowgate/rowgate/AccountRole" "displayName" "Ljava/lang/String;" (.ref s0)) (St_0 : Ow.Str Z h0 s0 t0 k0 [117, 115, 101, 114]) (A_u1 : Exa Z h0 u1 "com/example/rowgate/rowgate/AccountRole") (F_u1 : Fld Z h0 u1 "com/example/rowgate/rowgate/AccountRole" "displayName" "Ljava/lang/String;" (.ref s1)) (St_1 : Ow.Str Z h0 s1 t1 k1 [103, 108, 111, 98, 97, 108, 45, 97, 100, 109, 105, 110]) (A_u2 : Exa Z h0 u2 "com/example/rowgate/rowgate/AccountRole") (F_u2 : Fld Z h0 u2 "com/example/rowgate/rowgate/AccountRole" "displayName" "Ljava/lang/String;" (.ref s2)) (St_2 : Ow.Str Z h0 s2 t2 k2 [110, 111, 110, 101]) (fa : Addr) (cK : ClassId) (Lm : Ow.Lam Z (⟨"com/example/rowgate/rowgate/AccountRole", "fromName", "(Ljava/lang/String;)Lcom/example/rowgate/rowgate/AccountRole;"⟩ : MethodName) 3 own_sg fa cK) (Cl : Ow.Cel h0 fa cK) (x tx : Addr) (kx : ClassId) (cs : List Int32) (Stx : Ow.Str Z h0 x tx kx cs) (hcs : cs.length < 2147483648) (ne0 : s0 ≠ x) (ne1 : s1 ≠ x) (ne2 : s2 ≠ x) (he0 : own_eqv [117, 115, 101, 114] cs = 0) (he1 : own_eqv [103, 108, 111, 98, 97, 108, 45, 97, 100, 109, 105, 110] cs = 1) : Ow.Pay l Z (⟨"com/example/rowgate/rowgate/Names", "find", "([Ljava/lang/Object;Ljava/util/function/Function;Ljava/lang/String;Ljava/lang/String;)Ljava/lang/Object;"⟩ : MethodName) prog_8_method_3_code 8 (some (.object "java/lang/Object")) ({ frames := 2, cells := 0, slots := 0, locals := 28 } : Room) #[(.ref b), (.ref fa), (.ref x), (.ref wh)] h0 (fun v h L => v = some (.ref u1) ∧ h = h0 ∧ L = []) := by
  refine Ow.Pay.of (Ls := #[.val (.ref b), .val (.ref fa), .val (.ref x), .val (.ref wh), .unset, .unset, .unset, .unset]) (plainFor_of_name pn3) (fun m => by first | rfl | (simp [entryFrame, mkF, argsToLocals, Value.category]; done)) ?_
  intro p e s m below meth c T hx hby hml hown hnm hme hZ hret hlk X eT
  refine Ow.aloadN X hx (pc := 0) (hb hby d8_0) rfl rfl ?_
  refine Ow.astore X hx (pc := 1) #[_, _, _, _, _, _, _, _] (hb hby d8_1) rfl rfl ?_
  refine Ow.aload X hx (pc := 3) (hb hby d8_3) rfl rfl ?_
  refine Ow.lengthL X hx hZ eT B_b 3 rfl (pc := 5) (hb hby d8_5) ?_
  refine Ow.istore X hx (pc := 6) #[_, _, _, _, _, _, _, _] (hb hby d8_6) rfl ?_
  refine Ow.iconst X hx (pc := 8) (0) (hb hby d8_8) (by decide) ?_
  refine Ow.istore X hx (pc := 9) #[_, _, _, _, _, _, _, _] (hb hby d8_9) rfl ?_
  refine Ow.iload X hx (pc := 11) (hb hby d8_11) rfl ?_
  refine Ow.iload X hx (pc := 13) (hb hby d8_13) rfl ?_
  refine Ow.icmp_ge X hx (pc := 15) (pc' := 52) (hb hby d8_15) (by decide) (by decide) (fun q => absurd (by decide) q) (fun h15 => ?_)
  refine Ow.aload X hx (pc := 18) (hb hby d8_18) rfl rfl ?_
  refine Ow.iload X hx (pc := 20) (hb hby d8_20) rfl ?_
  refine Ow.aaloadL X hx hZ eT B_b rfl 0 (.ref u0) (by decide) (by decide) rfl (pc := 22) (hb hby d8_22) ?_
  refine Ow.astore X hx (pc := 23) #[_, _, _, _, _, _, _, _] (hb hby d8_23) rfl rfl ?_
  refine Ow.aloadN X hx (pc := 25) (hb hby d8_25) rfl rfl ?_
  refine Ow.aload X hx (pc := 26) (hb hby d8_26) rfl rfl ?_
  refine Ow.callFnP X hx hZ (c_gdn l Z a0 hw h0 u0 s0 F_u0) rfl rfl rfl eT Lm Cl own_fok own_f0 own_f1 own_f4 own_f7 hown (ww hw 64 rfl) (ww hw 65 rfl) (ww hw 66 rfl) ⟨rfl, rfl, by decide +kernel⟩ ⟨rfl, rfl, by decide +kernel⟩ (by decide) (by decide) (ww hw 70 rfl) (ww hw 69 rfl) (ww hw 68 rfl) (ww hw 3 rfl) pd2 rfl pd3 A_u0 (by rw [hml]; rfl) (pc := 28) (hb hby d8_28) rfl rfl (by decide) (by decide) ?_
  intro T X eT
  refine Ow.checkcast X hx hZ hown (ww hw 73 rfl) eT (Ins.self St_0.1) (pc := 33) (hb hby d8_33) ?_
  intro T X eT
  refine Ow.aloadN X hx (pc := 36) (hb hby d8_36) rfl rfl ?_
  refine Ow.callVP X hx hZ (c_seq l Z a0 hw h0 z s0 x t0 tx k0 kx [117, 115, 101, 114] cs S hz St_0 Stx ne0 (by decide) hcs) rfl rfl eT hown (ww hw 74 rfl) (ww hw 75 rfl) (ww hw 77 rfl) (ww hw 76 rfl) (ww hw 7 rfl) (ww hw 78 rfl) (by decide) pd4 (by rw [hml]; rfl) St_0.1 (argsL := [_]) rfl rfl rfl (pc := 37) (hb hby d8_37) rfl rfl (by decide) (by decide) ?_   -- java/lang/String.equals:(Ljava/lang/Object;)Z
  intro T X eT
  dsimp only [Option.toList_some, Option.toList_none, List.cons_append, List.nil_append]
  rw [he0]
  refine Ow.if_eq X hx (pc := 40) (pc' := 46) (hb hby d8_40) (by decide) (by decide) (fun h40 => ?_) (fun q => absurd rfl q)
  refine Ow.iinc X hx (pc := 46) 1 #[_, _, _, _, _, _, _, _] (hb hby d8_46) (by decide) rfl rfl ?_
  rw [show (0 + 1 : Int32) = 1 from by decide]
  refine Ow.goto X hx (pc := 49) (pc' := 11) (hb hby d8_49) (by decide) (by decide) ?_
  refine Ow.iload X hx (pc := 11) (hb hby d8_11) rfl ?_
  refine Ow.iload X hx (pc := 13) (hb hby d8_13) rfl ?_
  refine Ow.icmp_ge X hx (pc := 15) (pc' := 52) (hb hby d8_15) (by decide) (by decide) (fun q => absurd (by decide) q) (fun h15 => ?_)
  refine Ow.aload X hx (pc := 18) (hb hby d8_18) rfl rfl ?_
  refine Ow.iload X hx (pc := 20) (hb hby d8_20) rfl ?_
  refine Ow.aaloadL X hx hZ eT B_b rfl 1 (.ref u1) (by decide) (by decide) rfl (pc := 22) (hb hby d8_22) ?_
  refine Ow.astore X hx (pc := 23) #[_, _, _, _, _, _, _, _] (hb hby d8_23) rfl rfl ?_
  refine Ow.aloadN X hx (pc := 25) (hb hby d8_25) rfl rfl ?_
  refine Ow.aload X hx (pc := 26) (hb hby d8_26) rfl rfl ?_
  refine Ow.callFnP X hx hZ (c_gdn l Z a0 hw h0 u1 s1 F_u1) rfl rfl rfl eT Lm Cl own_fok own_f0 own_f1 own_f4 own_f7 hown (ww hw 64 rfl) (ww hw 65 rfl) (ww hw 66 rfl) ⟨rfl, rfl, by decide +kernel⟩ ⟨rfl, rfl, by decide +kernel⟩ (by decide) (by decide) (ww hw 70 rfl) (ww hw 69 rfl) (ww hw 68 rfl) (ww hw 3 rfl) pd2 rfl pd3 A_u1 (by rw [hml]; rfl) (pc := 28) (hb hby d8_28) rfl rfl (by decide) (by decide) ?_
  intro T X eT
  refine Ow.checkcast X hx hZ hown (ww hw 73 rfl) eT (Ins.self St_1.1) (pc := 33) (hb hby d8_33) ?_
  intro T X eT
  refine Ow.aloadN X hx (pc := 36) (hb hby d8_36) rfl rfl ?_
  refine Ow.callVP X hx hZ (c_seq l Z a0 hw h0 z s1 x t1 tx k1 kx [103, 108, 111, 98, 97, 108, 45, 97, 100, 109, 105, 110] cs S hz St_1 Stx ne1 (by decide) hcs) rfl rfl eT hown (ww hw 74 rfl) (ww hw 75 rfl) (ww hw 77 rfl) (ww hw 76 rfl) (ww hw 7 rfl) (ww hw 78 rfl) (by decide) pd4 (by rw [hml]; rfl) St_1.1 (argsL := [_]) rfl rfl rfl (pc := 37) (hb hby d8_37) rfl rfl (by decide) (by decide) ?_   -- java/lang/String.equals:(Ljava/lang/Object;)Z
  intro T X eT
  dsimp only [Option.toList_some, Option.toList_none, List.cons_append, List.nil_append]
  rw [he1]
  refine Ow.if_eq X hx (pc := 40) (pc' := 46) (hb hby d8_40) (by decide) (by decide) (fun q => absurd q (by decide)) (fun h40 => ?_)
  refine Ow.aload X hx (pc := 43) (hb hby d8_43) rfl rfl ?_
  exact Ow.areturn X hx hlk hret rfl rfl rfl (hb hby d8_45) ⟨rfl, eT, rfl⟩ (by decide) (by decide)
set_option maxRecDepth 65536 in
set_option maxHeartbeats 4000000 in
theorem c_find2 (l : Launch) (Z : State) (a0 : Array Value) (hw : ∀ d ∈ tables_1, d.before a0 Z = true) (h0 : Heap) (z : Int32) (S : Sta Z h0 "java/lang/String" "COMPACT_STRINGS" "Z" (.int z)) (hz : ¬ z = 0) (b wh u0 u1 u2 : Addr) (kv : ClassId) (B_b : Ow.AL Z h0 b kv (.object "com/example/rowgate/rowgate/AccountRole") [.ref u0, .ref u1, .ref u2]) (s0 s1 s2 t0 t1 t2 : Addr) (k0 k1 k2 : ClassId) (A_u0 : Exa Z h0 u0 "com/example/rowgate/rowgate/AccountRole") (F_u0 : Fld Z h0 u0 "com/example/rowgate/rowgate/AccountRole" "displayName" "Ljava/lang/String;" (.ref s0)) (St_0 : Ow.Str Z h0 s0 t0 k0 [117, 115, 101, 114]) (A_u1 : Exa Z h0 u1 "com/example/rowgate/rowgate/AccountRole") (F_u1 : Fld Z h0 u1 "com/example/rowgate/rowgate/AccountRole" "displayName" "Ljava/lang/String;" (.ref s1)) (St_1 : Ow.Str Z h0 s1 t1 k1 [103, 108, 111, 98, 97, 108, 45, 97, 100, 109, 105, 110]) (A_u2 : Exa Z h0 u2 "com/example/rowgate/rowgate/AccountRole") (F_u2 : Fld Z h0 u2 "com/example/rowgate/rowgate/AccountRole" "displayName" "Ljava/lang/String;" (.ref s2)) (St_2 : Ow.Str Z h0 s2 t2 k2 [110, 111, 110, 101]) (fa : Addr) (cK : ClassId) (Lm : Ow.Lam Z (⟨"com/example/rowgate/rowgate/AccountRole", "fromName", "(Ljava/lang/String;)Lcom/example/rowgate/rowgate/AccountRole;"⟩ : MethodName) 3 own_sg fa cK) (Cl : Ow.Cel h0 fa cK) (x tx : Addr) (kx : ClassId) (cs : List Int32) (Stx : Ow.Str Z h0 x tx kx cs) (hcs : cs.length < 2147483648) (ne0 : s0 ≠ x) (ne1 : s1 ≠ x) (ne2 : s2 ≠ x) (he0 : own_eqv [117, 115, 101, 114] cs = 0) (he1 : own_eqv [103, 108, 111, 98, 97, 108, 45, 97, 100, 109, 105, 110] cs = 0) (he2 : own_eqv [110, 111, 110, 101] cs = 1) : Ow.Pay l Z (⟨"com/example/rowgate/rowgate/Names", "find", "([Ljava/lang/Object;Ljava/util/function/Function;Ljava/lang/String;Ljava/lang/String;)Ljava/lang/Object;"⟩ : MethodName) prog_8_method_3_code 8 (some (.object "java/lang/Object")) ({ frames := 2, cells := 0, slots := 0, locals := 28 } : Room) #[(.ref b), (.ref fa), (.ref x), (.ref wh)] h0 (fun v h L => v = some (.ref u2) ∧ h = h0 ∧ L = []) := by
  refine Ow.Pay.of (Ls := #[.val (.ref b), .val (.ref fa), .val (.ref x), .val (.ref wh), .unset, .unset, .unset, .unset]) (plainFor_of_name pn3) (fun m => by first | rfl | (simp [entryFrame, mkF, argsToLocals, Value.category]; done)) ?_
  intro p e s m below meth c T hx hby hml hown hnm hme hZ hret hlk X eT
  refine Ow.aloadN X hx (pc := 0) (hb hby d8_0) rfl rfl ?_
  refine Ow.astore X hx (pc := 1) #[_, _, _, _, _, _, _, _] (hb hby d8_1) rfl rfl ?_
  refine Ow.aload X hx (pc := 3) (hb hby d8_3) rfl rfl ?_
  refine Ow.lengthL X hx hZ eT B_b 3 rfl (pc := 5) (hb hby d8_5) ?_
  refine Ow.istore X hx (pc := 6) #[_, _, _, _, _, _, _, _] (hb hby d8_6) rfl ?_
  refine Ow.iconst X hx (pc := 8) (0) (hb hby d8_8) (by decide) ?_
  refine Ow.istore X hx (pc := 9) #[_, _, _, _, _, _, _, _] (hb hby d8_9) rfl ?_
  refine Ow.iload X hx (pc := 11) (hb hby d8_11) rfl ?_
  refine Ow.iload X hx (pc := 13) (hb hby d8_13) rfl ?_
  refine Ow.icmp_ge X hx (pc := 15) (pc' := 52) (hb hby d8_15) (by decide) (by decide) (fun q => absurd (by decide) q) (fun h15 => ?_)
  refine Ow.aload X hx (pc := 18) (hb hby d8_18) rfl rfl ?_
  refine Ow.iload X hx (pc := 20) (hb hby d8_20) rfl ?_
  refine Ow.aaloadL X hx hZ eT B_b rfl 0 (.ref u0) (by decide) (by decide) rfl (pc := 22) (hb hby d8_22) ?_
  refine Ow.astore X hx (pc := 23) #[_, _, _, _, _, _, _, _] (hb hby d8_23) rfl rfl ?_
  refine Ow.aloadN X hx (pc := 25) (hb hby d8_25) rfl rfl ?_
  refine Ow.aload X hx (pc := 26) (hb hby d8_26) rfl rfl ?_
  refine Ow.callFnP X hx hZ (c_gdn l Z a0 hw h0 u0 s0 F_u0) rfl rfl rfl eT Lm Cl own_fok own_f0 own_f1 own_f4 own_f7 hown (ww hw 64 rfl) (ww hw 65 rfl) (ww hw 66 rfl) ⟨rfl, rfl, by decide +kernel⟩ ⟨rfl, rfl, by decide +kernel⟩ (by decide) (by decide) (ww hw 70 rfl) (ww hw 69 rfl) (ww hw 68 rfl) (ww hw 3 rfl) pd2 rfl pd3 A_u0 (by rw [hml]; rfl) (pc := 28) (hb hby d8_28) rfl rfl (by decide) (by decide) ?_
  intro T X eT
  refine Ow.checkcast X hx hZ hown (ww hw 73 rfl) eT (Ins.self St_0.1) (pc := 33) (hb hby d8_33) ?_
  intro T X eT
  refine Ow.aloadN X hx (pc := 36) (hb hby d8_36) rfl rfl ?_
  refine Ow.callVP X hx hZ (c_seq l Z a0 hw h0 z s0 x t0 tx k0 kx [117, 115, 101, 114] cs S hz St_0 Stx ne0 (by decide) hcs) rfl rfl eT hown (ww hw 74 rfl) (ww hw 75 rfl) (ww hw 77 rfl) (ww hw 76 rfl) (ww hw 7 rfl) (ww hw 78 rfl) (by decide) pd4 (by rw [hml]; rfl) St_0.1 (argsL := [_]) rfl rfl rfl (pc := 37) (hb hby d8_37) rfl rfl (by decide) (by decide) ?_   -- java/lang/String.equals:(Ljava/lang/Object;)Z
  intro T X eT
  dsimp only [Option.toList_some, Option.toList_none, List.cons_append, List.nil_append]
  rw [he0]
  refine Ow.if_eq X hx (pc := 40) (pc' := 46) (hb hby d8_40) (by decide) (by decide) (fun h40 => ?_) (fun q => absurd rfl q)
  refine Ow.iinc X hx (pc := 46) 1 #[_, _, _, _, _, _, _, _] (hb hby d8_46) (by decide) rfl rfl ?_
  rw [show (0 + 1 : Int32) = 1 from by decide]
  refine Ow.goto X hx (pc := 49) (pc' := 11) (hb hby d8_49) (by decide) (by decide) ?_
  refine Ow.iload X hx (pc := 11) (hb hby d8_11) rfl ?_
  refine Ow.iload X hx (pc := 13) (hb hby d8_13) rfl ?_
  refine Ow.icmp_ge X hx (pc := 15) (pc' := 52) (hb hby d8_15) (by decide) (by decide) (fun q => absurd (by decide) q) (fun h15 => ?_)
  refine Ow.aload X hx (pc := 18) (hb hby d8_18) rfl rfl ?_
  refine Ow.iload X hx (pc := 20) (hb hby d8_20) rfl ?_
  refine Ow.aaloadL X hx hZ eT B_b rfl 1 (.ref u1) (by decide) (by decide) rfl (pc := 22) (hb hby d8_22) ?_
  refine Ow.astore X hx (pc := 23) #[_, _, _, _, _, _, _, _] (hb hby d8_23) rfl rfl ?_
  refine Ow.aloadN X hx (pc := 25) (hb hby d8_25) rfl rfl ?_
  refine Ow.aload X hx (pc := 26) (hb hby d8_26) rfl rfl ?_
  refine Ow.callFnP X hx hZ (c_gdn l Z a0 hw h0 u1 s1 F_u1) rfl rfl rfl eT Lm Cl own_fok own_f0 own_f1 own_f4 own_f7 hown (ww hw 64 rfl) (ww hw 65 rfl) (ww hw 66 rfl) ⟨rfl, rfl, by decide +kernel⟩ ⟨rfl, rfl, by decide +kernel⟩ (by decide) (by decide) (ww hw 70 rfl) (ww hw 69 rfl) (ww hw 68 rfl) (ww hw 3 rfl) pd2 rfl pd3 A_u1 (by rw [hml]; rfl) (pc := 28) (hb hby d8_28) rfl rfl (by decide) (by decide) ?_
  intro T X eT
  refine Ow.checkcast X hx hZ hown (ww hw 73 rfl) eT (Ins.self St_1.1) (pc := 33) (hb hby d8_33) ?_
  intro T X eT
  refine Ow.aloadN X hx (pc := 36) (hb hby d8_36) rfl rfl ?_
  refine Ow.callVP X hx hZ (c_seq l Z a0 hw h0 z s1 x t1 tx k1 kx [103, 108, 111, 98, 97, 108, 45, 97, 100, 109, 105, 110] cs S hz St_1 Stx ne1 (by decide) hcs) rfl rfl eT hown (ww hw 74 rfl) (ww hw 75 rfl) (ww hw 77 rfl) (ww hw 76 rfl) (ww hw 7 rfl) (ww hw 78 rfl) (by decide) pd4 (by rw [hml]; rfl) St_1.1 (argsL := [_]) rfl rfl rfl (pc := 37) (hb hby d8_37) rfl rfl (by decide) (by decide) ?_   -- java/lang/String.equals:(Ljava/lang/Object;)Z
  intro T X eT
  dsimp only [Option.toList_some, Option.toList_none, List.cons_append, List.nil_append]
  rw [he1]
  refine Ow.if_eq X hx (pc := 40) (pc' := 46) (hb hby d8_40) (by decide) (by decide) (fun h40 => ?_) (fun q => absurd rfl q)
  refine Ow.iinc X hx (pc := 46) 1 #[_, _, _, _, _, _, _, _] (hb hby d8_46) (by decide) rfl rfl ?_
  rw [show (1 + 1 : Int32) = 2 from by decide]
  refine Ow.goto X hx (pc := 49) (pc' := 11) (hb hby d8_49) (by decide) (by decide) ?_
  refine Ow.iload X hx (pc := 11) (hb hby d8_11) rfl ?_
  refine Ow.iload X hx (pc := 13) (hb hby d8_13) rfl ?_
  refine Ow.icmp_ge X hx (pc := 15) (pc' := 52) (hb hby d8_15) (by decide) (by decide) (fun q => absurd (by decide) q) (fun h15 => ?_)
  refine Ow.aload X hx (pc := 18) (hb hby d8_18) rfl rfl ?_
  refine Ow.iload X hx (pc := 20) (hb hby d8_20) rfl ?_
  refine Ow.aaloadL X hx hZ eT B_b rfl 2 (.ref u2) (by decide) (by decide) rfl (pc := 22) (hb hby d8_22) ?_
  refine Ow.astore X hx (pc := 23) #[_, _, _, _, _, _, _, _] (hb hby d8_23) rfl rfl ?_
  refine Ow.aloadN X hx (pc := 25) (hb hby d8_25) rfl rfl ?_
  refine Ow.aload X hx (pc := 26) (hb hby d8_26) rfl rfl ?_
  refine Ow.callFnP X hx hZ (c_gdn l Z a0 hw h0 u2 s2 F_u2) rfl rfl rfl eT Lm Cl own_fok own_f0 own_f1 own_f4 own_f7 hown (ww hw 64 rfl) (ww hw 65 rfl) (ww hw 66 rfl) ⟨rfl, rfl, by decide +kernel⟩ ⟨rfl, rfl, by decide +kernel⟩ (by decide) (by decide) (ww hw 70 rfl) (ww hw 69 rfl) (ww hw 68 rfl) (ww hw 3 rfl) pd2 rfl pd3 A_u2 (by rw [hml]; rfl) (pc := 28) (hb hby d8_28) rfl rfl (by decide) (by decide) ?_
  intro T X eT
  refine Ow.checkcast X hx hZ hown (ww hw 73 rfl) eT (Ins.self St_2.1) (pc := 33) (hb hby d8_33) ?_
  intro T X eT
  refine Ow.aloadN X hx (pc := 36) (hb hby d8_36) rfl rfl ?_
  refine Ow.callVP X hx hZ (c_seq l Z a0 hw h0 z s2 x t2 tx k2 kx [110, 111, 110, 101] cs S hz St_2 Stx ne2 (by decide) hcs) rfl rfl eT hown (ww hw 74 rfl) (ww hw 75 rfl) (ww hw 77 rfl) (ww hw 76 rfl) (ww hw 7 rfl) (ww hw 78 rfl) (by decide) pd4 (by rw [hml]; rfl) St_2.1 (argsL := [_]) rfl rfl rfl (pc := 37) (hb hby d8_37) rfl rfl (by decide) (by decide) ?_   -- java/lang/String.equals:(Ljava/lang/Object;)Z
  intro T X eT
  dsimp only [Option.toList_some, Option.toList_none, List.cons_append, List.nil_append]
  rw [he2]
  refine Ow.if_eq X hx (pc := 40) (pc' := 46) (hb hby d8_40) (by decide) (by decide) (fun q => absurd q (by decide)) (fun h40 => ?_)
  refine Ow.aload X hx (pc := 43) (hb hby d8_43) rfl rfl ?_
  exact Ow.areturn X hx hlk hret rfl rfl rfl (hb hby d8_45) ⟨rfl, eT, rfl⟩ (by decide) (by decide)
theorem d6_0 : decode prog_1_method_4_code 0 = .ok (.invokestatic 43, 3) := by decide +kernel
theorem d6_3 : decode prog_1_method_4_code 3 = .ok (.invokedynamic 47, 5) := by decide +kernel
theorem d6_8 : decode prog_1_method_4_code 8 = .ok (.aload_n 0, 1) := by decide +kernel
theorem d6_9 : decode prog_1_method_4_code 9 = .ok (.ldc 51, 2) := by decide +kernel
theorem d6_11 : decode prog_1_method_4_code 11 = .ok (.invokestatic 53, 3) := by decide +kernel
theorem d6_14 : decode prog_1_method_4_code 14 = .ok (.checkcast 1, 3) := by decide +kernel
theorem d6_17 : decode prog_1_method_4_code 17 = .ok (.areturn, 1) := by decide +kernel
set_option maxRecDepth 65536 in
set_option maxHeartbeats 40000000 in
theorem c_fn0 (l : Launch) (Z : State) (a0 : Array Value) (hw : ∀ d ∈ tables_1, d.before a0 Z = true) (hEL : EW Z a0 EL) (h0 : Heap) (z : Int32) (S : Sta Z h0 "java/lang/String" "COMPACT_STRINGS" "Z" (.int z)) (hz : ¬ z = 0) (u0 u1 u2 va : Addr) (kv : ClassId) (SV : Sta Z h0 "com/example/rowgate/rowgate/AccountRole" "$VALUES" "[Lcom/example/rowgate/rowgate/AccountRole;" (.ref va)) (B_va : Ow.AL Z h0 va kv (.object "com/example/rowgate/rowgate/AccountRole") [.ref u0, .ref u1, .ref u2]) (E_va : Exa Z h0 va "[Lcom/example/rowgate/rowgate/AccountRole;") (s0 s1 s2 t0 t1 t2 : Addr) (k0 k1 k2 : ClassId) (A_u0 : Exa Z h0 u0 "com/example/rowgate/rowgate/AccountRole") (F_u0 : Fld Z h0 u0 "com/example/rowgate/rowgate/AccountRole" "displayName" "Ljava/lang/String;" (.ref s0)) (St_0 : Ow.Str Z h0 s0 t0 k0 [117, 115, 101, 114]) (A_u1 : Exa Z h0 u1 "com/example/rowgate/rowgate/AccountRole") (F_u1 : Fld Z h0 u1 "com/example/rowgate/rowgate/AccountRole" "displayName" "Ljava/lang/String;" (.ref s1)) (St_1 : Ow.Str Z h0 s1 t1 k1 [103, 108, 111, 98, 97, 108, 45, 97, 100, 109, 105, 110]) (A_u2 : Exa Z h0 u2 "com/example/rowgate/rowgate/AccountRole") (F_u2 : Fld Z h0 u2 "com/example/rowgate/rowgate/AccountRole" "displayName" "Ljava/lang/String;" (.ref s2)) (St_2 : Ow.Str Z h0 s2 t2 k2 [110, 111, 110, 101]) (fa : Addr) (cK : ClassId) (Lm : Ow.Lam Z (⟨"com/example/rowgate/rowgate/AccountRole", "fromName", "(Ljava/lang/String;)Lcom/example/rowgate/rowgate/AccountRole;"⟩ : MethodName) 3 own_sg fa cK) (Cl : Ow.Cel h0 fa cK) (x tx : Addr) (kx : ClassId) (cs : List Int32) (Stx : Ow.Str Z h0 x tx kx cs) (hcs : cs.length < 2147483648) (ne0 : s0 ≠ x) (ne1 : s1 ≠ x) (ne2 : s2 ≠ x) (he0 : own_eqv [117, 115, 101, 114] cs = 1) : Ow.PayW l Z EL [] (⟨"com/example/rowgate/rowgate/AccountRole", "fromName", "(Ljava/lang/String;)Lcom/example/rowgate/rowgate/AccountRole;"⟩ : MethodName) prog_1_method_4_code 1 (some (.object "com/example/rowgate/rowgate/AccountRole")) ({ frames := 3, cells := 3, slots := 55, locals := 3073 } : Room) #[(.ref x)] h0 (fun v h L => v = some (.ref u0) ∧ Ow.Eff h0 h [] L) := by
  refine Ow.PayW.of (Ls := #[.val (.ref x)]) (plainFor_of_name pn2) (fun m => by first | rfl | (simp [entryFrame, mkF, argsToLocals, Value.category]; done)) ?_
  intro p e s m below meth c T vm0 hx hby hml hown hnm hme hret hlk X eT D hsf
  have F := Ow.Eff.refl h0 []
  have wS : ∀ a ∈ Bundle.stringAtoms, a.before a0 Z = true := fun d hd => hw d ((by decide +kernel : ∀ d ∈ Bundle.stringAtoms, d ∈ tables_1) d hd)
  have hnZ : Z.methodNamed? (⟨"com/example/rowgate/rowgate/AccountRole", "fromName", "(Ljava/lang/String;)Lcom/example/rowgate/rowgate/AccountRole;"⟩ : MethodName) = some m := by
    obtain ⟨⟨k0, hS, -⟩, hZ, -⟩ := D
    exact (State.methodNamed?_setVm (s := Z) (hZ.alike.trans hS.1.alike.symm) _).symm.trans hnm
  refine Ow.callS X hx D.hZ (c_values l Z a0 hw _ u0 u1 u2 va kv SV B_va E_va) eT hown (ww hw 37 rfl) (ww hw 38 rfl) (ww hw 3 rfl) (ww hw 39 rfl) (by decide) pd5 (by rw [hml]; rfl) (argsL := []) rfl rfl rfl (pc := 0) (hb hby d6_0) rfl rfl (by decide) (by decide) ?_
  rintro _ T L X ⟨b, rfl, F2, l_b, B_b⟩
  dsimp only [Option.toList_some, Option.toList_none, List.cons_append, List.nil_append]
  have F := F.call F2 (fun _ q => nomatch q)
  have A_u0 := A_u0.ext (Ow.Keep.ext0 F2.1)
  have A_u1 := A_u1.ext (Ow.Keep.ext0 F2.1)
  have A_u2 := A_u2.ext (Ow.Keep.ext0 F2.1)
  have F_u0 := F_u0.ext (Ow.Keep.ext0 F2.1)
  have F_u1 := F_u1.ext (Ow.Keep.ext0 F2.1)
  have F_u2 := F_u2.ext (Ow.Keep.ext0 F2.1)
  have St_0 := St_0.ext (Ow.Keep.ext0 F2.1)
  have St_1 := St_1.ext (Ow.Keep.ext0 F2.1)
  have St_2 := St_2.ext (Ow.Keep.ext0 F2.1)
  have B_va := B_va.ext (Ow.Keep.ext0 F2.1)
  have E_va := E_va.ext (Ow.Keep.ext0 F2.1)
  have Cl := Cl.ext (Ow.Keep.ext0 F2.1)
  have S := S.ext (Ow.Keep.ext0 F2.1)
  have SV := SV.ext (Ow.Keep.ext0 F2.1)
  have Stx := Stx.ext (Ow.Keep.ext0 F2.1)
  have D := D.ext (Ow.Keep.ext0 F2.1)
  obtain ⟨h_0, e_0⟩ : ∃ q, q = T.heap := ⟨_, rfl⟩
  rw [← e_0] at F D A_u0 A_u1 A_u2 F_u0 F_u1 F_u2 St_0 St_1 St_2 B_va E_va Cl S SV Stx B_b
  have eT : T.heap = h_0 := e_0.symm
  refine Ow.indyConst X hx D.hZ Lm hnZ (by rw [hml]; rfl) (pc := 3) (hb hby d6_3) rfl ?_
  refine Ow.aloadN X hx (pc := 8) (hb hby d6_8) rfl rfl ?_
  refine Ow.ldcO X hx eT D hEL hown (ww hw 57 rfl) wS (pc := 9) (hb hby d6_9) 48 (by decide) (by decide) (by decide) (by decide) ?_
  intro vm1 a1 T h1 X eT E1 D hown C1
  have A_u0 := A_u0.ext E1
  have A_u1 := A_u1.ext E1
  have A_u2 := A_u2.ext E1
  have F_u0 := F_u0.ext E1
  have F_u1 := F_u1.ext E1
  have F_u2 := F_u2.ext E1
  have St_0 := St_0.ext E1
  have St_1 := St_1.ext E1
  have St_2 := St_2.ext E1
  have B_va := B_va.ext E1
  have E_va := E_va.ext E1
  have Cl := Cl.ext E1
  have S := S.ext E1
  have SV := SV.ext E1
  have Stx := Stx.ext E1
  have B_b := B_b.ext E1
  have F := F.ext E1
  refine Ow.callSP X hx D.hZ (c_find0 l Z a0 hw _ z S hz b a1 u0 u1 u2 kv B_b s0 s1 s2 t0 t1 t2 k0 k1 k2 A_u0 F_u0 St_0 A_u1 F_u1 St_1 A_u2 F_u2 St_2 fa cK Lm Cl x tx kx cs Stx hcs ne0 ne1 ne2 he0) rfl rfl eT hown (ww hw 60 rfl) (ww hw 61 rfl) (ww hw 62 rfl) (ww hw 63 rfl) (by decide) pd6 (by rw [hml]; rfl) (argsL := [_, _, _, _]) rfl rfl rfl (pc := 11) (hb hby d6_11) rfl rfl (by decide) (by decide) ?_   -- com/example/rowgate/rowgate/Names.find:([Ljava/lang/Object;Ljava/util/function/Function;Ljava/lang/String;Ljava/lang/String;)Ljava/lang/Object;
  intro T X eT
  dsimp only [Option.toList_some, Option.toList_none, List.cons_append, List.nil_append]
  refine Ow.checkcast X hx D.hZ hown (ww hw 84 rfl) eT (Ins.self A_u0) (pc := 14) (hb hby d6_14) ?_
  intro T X eT
  exact Ow.areturnW X hx eT D hEL hlk hret rfl rfl rfl (hb hby d6_17) ⟨rfl, by rw [eT]; exact F⟩ (by decide) (by decide)
set_option maxRecDepth 65536 in
set_option maxHeartbeats 40000000 in
theorem c_fn1 (l : Launch) (Z : State) (a0 : Array Value) (hw : ∀ d ∈ tables_1, d.before a0 Z = true) (hEL : EW Z a0 EL) (h0 : Heap) (z : Int32) (S : Sta Z h0 "java/lang/String" "COMPACT_STRINGS" "Z" (.int z)) (hz : ¬ z = 0) (u0 u1 u2 va : Addr) (kv : ClassId) (SV : Sta Z h0 "com/example/rowgate/rowgate/AccountRole" "$VALUES" "[Lcom/example/rowgate/rowgate/AccountRole;" (.ref va)) (B_va : Ow.AL Z h0 va kv (.object "com/example/rowgate/rowgate/AccountRole") [.ref u0, .ref u1, .ref u2]) (E_va : Exa Z h0 va "[Lcom/example/rowgate/rowgate/AccountRole;") (s0 s1 s2 t0 t1 t2 : Addr) (k0 k1 k2 : ClassId) (A_u0 : Exa Z h0 u0 "com/example/rowgate/rowgate/AccountRole") (F_u0 : Fld Z h0 u0 "com/example/rowgate/rowgate/AccountRole" "displayName" "Ljava/lang/String;" (.ref s0)) (St_0 : Ow.Str Z h0 s0 t0 k0 [117, 115, 101, 114]) (A_u1 : Exa Z h0 u1 "com/example/rowgate/rowgate/AccountRole") (F_u1 : Fld Z h0 u1 "com/example/rowgate/rowgate/AccountRole" "displayName" "Ljava/lang/String;" (.ref s1)) (St_1 : Ow.Str Z h0 s1 t1 k1 [103, 108, 111, 98, 97, 108, 45, 97, 100, 109, 105, 110]) (A_u2 : Exa Z h0 u2 "com/example/rowgate/rowgate/AccountRole") (F_u2 : Fld Z h0 u2 "com/example/rowgate/rowgate/AccountRole" "displayName" "Ljava/lang/String;" (.ref s2)) (St_2 : Ow.Str Z h0 s2 t2 k2 [110, 111, 110, 101]) (fa : Addr) (cK : ClassId) (Lm : Ow.Lam Z (⟨"com/example/rowgate/rowgate/AccountRole", "fromName", "(Ljava/lang/String;)Lcom/example/rowgate/rowgate/AccountRole;"⟩ : MethodName) 3 own_sg fa cK) (Cl : Ow.Cel h0 fa cK) (x tx : Addr) (kx : ClassId) (cs : List Int32) (Stx : Ow.Str Z h0 x tx kx cs) (hcs : cs.length < 2147483648) (ne0 : s0 ≠ x) (ne1 : s1 ≠ x) (ne2 : s2 ≠ x) (he0 : own_eqv [117, 115, 101, 114] cs = 0) (he1 : own_eqv [103, 108, 111, 98, 97, 108, 45, 97, 100, 109, 105, 110] cs = 1) : Ow.PayW l Z EL [] (⟨"com/example/rowgate/rowgate/AccountRole", "fromName", "(Ljava/lang/String;)Lcom/example/rowgate/rowgate/AccountRole;"⟩ : MethodName) prog_1_method_4_code 1 (some (.object "com/example/rowgate/rowgate/AccountRole")) ({ frames := 3, cells := 3, slots := 55, locals := 3073 } : Room) #[(.ref x)] h0 (fun v h L => v = some (.ref u1) ∧ Ow.Eff h0 h [] L) := by
  refine Ow.PayW.of (Ls := #[.val (.ref x)]) (plainFor_of_name pn2) (fun m => by first | rfl | (simp [entryFrame, mkF, argsToLocals, Value.category]; done)) ?_
  intro p e s m below meth c T vm0 hx hby hml hown hnm hme hret hlk X eT D hsf
  have F := Ow.Eff.refl h0 []
  have wS : ∀ a ∈ Bundle.stringAtoms, a.before a0 Z = true := fun d hd => hw d ((by decide +kernel : ∀ d ∈ Bundle.stringAtoms, d ∈ tables_1) d hd)
  have hnZ : Z.methodNamed? (⟨"com/example/rowgate/rowgate/AccountRole", "fromName", "(Ljava/lang/String;)Lcom/example/rowgate/rowgate/AccountRole;"⟩ : MethodName) = some m := by
    obtain ⟨⟨k0, hS, -⟩, hZ, -⟩ := D
    exact (State.methodNamed?_setVm (s := Z) (hZ.alike.trans hS.1.alike.symm) _).symm.trans hnm
  refine Ow.callS X hx D.hZ (c_values l Z a0 hw _ u0 u1 u2 va kv SV B_va E_va) eT hown (ww hw 37 rfl) (ww hw 38 rfl) (ww hw 3 rfl) (ww hw 39 rfl) (by decide) pd5 (by rw [hml]; rfl) (argsL := []) rfl rfl rfl (pc := 0) (hb hby d6_0) rfl rfl (by decide) (by decide) ?_
  rintro _ T L X ⟨b, rfl, F2, l_b, B_b⟩
  dsimp only [Option.toList_some, Option.toList_none, List.cons_append, List.nil_append]
  have F := F.call F2 (fun _ q => nomatch q)
  have A_u0 := A_u0.ext (Ow.Keep.ext0 F2.1)
  have A_u1 := A_u1.ext (Ow.Keep.ext0 F2.1)
  have A_u2 := A_u2.ext (Ow.Keep.ext0 F2.1)
  have F_u0 := F_u0.ext (Ow.Keep.ext0 F2.1)
  have F_u1 := F_u1.ext (Ow.Keep.ext0 F2.1)
  have F_u2 := F_u2.ext (Ow.Keep.ext0 F2.1)
  have St_0 := St_0.ext (Ow.Keep.ext0 F2.1)
  have St_1 := St_1.ext (Ow.Keep.ext0 F2.1)
  have St_2 := St_2.ext (Ow.Keep.ext0 F2.1)
  have B_va := B_va.ext (Ow.Keep.ext0 F2.1)
  have E_va := E_va.ext (Ow.Keep.ext0 F2.1)
  have Cl := Cl.ext (Ow.Keep.ext0 F2.1)
  have S := S.ext (Ow.Keep.ext0 F2.1)
  have SV := SV.ext (Ow.Keep.ext0 F2.1)
  have Stx := Stx.ext (Ow.Keep.ext0 F2.1)
  have D := D.ext (Ow.Keep.ext0 F2.1)
  obtain ⟨h_0, e_0⟩ : ∃ q, q = T.heap := ⟨_, rfl⟩
  rw [← e_0] at F D A_u0 A_u1 A_u2 F_u0 F_u1 F_u2 St_0 St_1 St_2 B_va E_va Cl S SV Stx B_b
  have eT : T.heap = h_0 := e_0.symm
  refine Ow.indyConst X hx D.hZ Lm hnZ (by rw [hml]; rfl) (pc := 3) (hb hby d6_3) rfl ?_
  refine Ow.aloadN X hx (pc := 8) (hb hby d6_8) rfl rfl ?_
  refine Ow.ldcO X hx eT D hEL hown (ww hw 57 rfl) wS (pc := 9) (hb hby d6_9) 48 (by decide) (by decide) (by decide) (by decide) ?_
  intro vm1 a1 T h1 X eT E1 D hown C1
  have A_u0 := A_u0.ext E1
  have A_u1 := A_u1.ext E1
  have A_u2 := A_u2.ext E1
  have F_u0 := F_u0.ext E1
  have F_u1 := F_u1.ext E1
  have F_u2 := F_u2.ext E1
  have St_0 := St_0.ext E1
  have St_1 := St_1.ext E1
  have St_2 := St_2.ext E1
  have B_va := B_va.ext E1
  have E_va := E_va.ext E1
  have Cl := Cl.ext E1
  have S := S.ext E1
  have SV := SV.ext E1
  have Stx := Stx.ext E1
  have B_b := B_b.ext E1
  have F := F.ext E1
  refine Ow.callSP X hx D.hZ (c_find1 l Z a0 hw _ z S hz b a1 u0 u1 u2 kv B_b s0 s1 s2 t0 t1 t2 k0 k1 k2 A_u0 F_u0 St_0 A_u1 F_u1 St_1 A_u2 F_u2 St_2 fa cK Lm Cl x tx kx cs Stx hcs ne0 ne1 ne2 he0 he1) rfl rfl eT hown (ww hw 60 rfl) (ww hw 61 rfl) (ww hw 62 rfl) (ww hw 63 rfl) (by decide) pd6 (by rw [hml]; rfl) (argsL := [_, _, _, _]) rfl rfl rfl (pc := 11) (hb hby d6_11) rfl rfl (by decide) (by decide) ?_   -- com/example/rowgate/rowgate/Names.find:([Ljava/lang/Object;Ljava/util/function/Function;Ljava/lang/String;Ljava/lang/String;)Ljava/lang/Object;
  intro T X eT
  dsimp only [Option.toList_some, Option.toList_none, List.cons_append, List.nil_append]
  refine Ow.checkcast X hx D.hZ hown (ww hw 84 rfl) eT (Ins.self A_u1) (pc := 14) (hb hby d6_14) ?_
  intro T X eT
  exact Ow.areturnW X hx eT D hEL hlk hret rfl rfl rfl (hb hby d6_17) ⟨rfl, by rw [eT]; exact F⟩ (by decide) (by decide)
set_option maxRecDepth 65536 in
set_option maxHeartbeats 40000000 in
theorem c_fn2 (l : Launch) (Z : State) (a0 : Array Value) (hw : ∀ d ∈ tables_1, d.before a0 Z = true) (hEL : EW Z a0 EL) (h0 : Heap) (z : Int32) (S : Sta Z h0 "java/lang/String" "COMPACT_STRINGS" "Z" (.int z)) (hz : ¬ z = 0) (u0 u1 u2 va : Addr) (kv : ClassId) (SV : Sta Z h0 "com/example/rowgate/rowgate/AccountRole" "$VALUES" "[Lcom/example/rowgate/rowgate/AccountRole;" (.ref va)) (B_va : Ow.AL Z h0 va kv (.object "com/example/rowgate/rowgate/AccountRole") [.ref u0, .ref u1, .ref u2]) (E_va : Exa Z h0 va "[Lcom/example/rowgate/rowgate/AccountRole;") (s0 s1 s2 t0 t1 t2 : Addr) (k0 k1 k2 : ClassId) (A_u0 : Exa Z h0 u0 "com/example/rowgate/rowgate/AccountRole") (F_u0 : Fld Z h0 u0 "com/example/rowgate/rowgate/AccountRole" "displayName" "Ljava/lang/String;" (.ref s0)) (St_0 : Ow.Str Z h0 s0 t0 k0 [117, 115, 101, 114]) (A_u1 : Exa Z h0 u1 "com/example/rowgate/rowgate/AccountRole") (F_u1 : Fld Z h0 u1 "com/example/rowgate/rowgate/AccountRole" "displayName" "Ljava/lang/String;" (.ref s1)) (St_1 : Ow.Str Z h0 s1 t1 k1 [103, 108, 111, 98, 97, 108, 45, 97, 100, 109, 105, 110]) (A_u2 : Exa Z h0 u2 "com/example/rowgate/rowgate/AccountRole") (F_u2 : Fld Z h0 u2 "com/example/rowgate/rowgate/AccountRole" "displayName" "Ljava/lang/String;" (.ref s2)) (St_2 : Ow.Str Z h0 s2 t2 k2 [110, 111, 110, 101]) (fa : Addr) (cK : ClassId) (Lm : Ow.Lam Z (⟨"com/example/rowgate/rowgate/AccountRole", "fromName", "(Ljava/lang/String;)Lcom/example/rowgate/rowgate/AccountRole;"⟩ : MethodName) 3 own_sg fa cK) (Cl : Ow.Cel h0 fa cK) (x tx : Addr) (kx : ClassId) (cs : List Int32) (Stx : Ow.Str Z h0 x tx kx cs) (hcs : cs.length < 2147483648) (ne0 : s0 ≠ x) (ne1 : s1 ≠ x) (ne2 : s2 ≠ x) (he0 : own_eqv [117, 115, 101, 114] cs = 0) (he1 : own_eqv [103, 108, 111, 98, 97, 108, 45, 97, 100, 109, 105, 110] cs = 0) (he2 : own_eqv [110, 111, 110, 101] cs = 1) : Ow.PayW l Z EL [] (⟨"com/example/rowgate/rowgate/AccountRole", "fromName", "(Ljava/lang/String;)Lcom/example/rowgate/rowgate/AccountRole;"⟩ : MethodName) prog_1_method_4_code 1 (some (.object "com/example/rowgate/rowgate/AccountRole")) ({ frames := 3, cells := 3, slots := 55, locals := 3073 } : Room) #[(.ref x)] h0 (fun v h L => v = some (.ref u2) ∧ Ow.Eff h0 h [] L) := by
  refine Ow.PayW.of (Ls := #[.val (.ref x)]) (plainFor_of_name pn2) (fun m => by first | rfl | (simp [entryFrame, mkF, argsToLocals, Value.category]; done)) ?_
  intro p e s m below meth c T vm0 hx hby hml hown hnm hme hret hlk X eT D hsf
  have F := Ow.Eff.refl h0 []
  have wS : ∀ a ∈ Bundle.stringAtoms, a.before a0 Z = true := fun d hd => hw d ((by decide +kernel : ∀ d ∈ Bundle.stringAtoms, d ∈ tables_1) d hd)
  have hnZ : Z.methodNamed? (⟨"com/example/rowgate/rowgate/AccountRole", "fromName", "(Ljava/lang/String;)Lcom/example/rowgate/rowgate/AccountRole;"⟩ : MethodName) = some m := by
    obtain ⟨⟨k0, hS, -⟩, hZ, -⟩ := D
    exact (State.methodNamed?_setVm (s := Z) (hZ.alike.trans hS.1.alike.symm) _).symm.trans hnm
  refine Ow.callS X hx D.hZ (c_values l Z a0 hw _ u0 u1 u2 va kv SV B_va E_va) eT hown (ww hw 37 rfl) (ww hw 38 rfl) (ww hw 3 rfl) (ww hw 39 rfl) (by decide) pd5 (by rw [hml]; rfl) (argsL := []) rfl rfl rfl (pc := 0) (hb hby d6_0) rfl rfl (by decide) (by decide) ?_
  rintro _ T L X ⟨b, rfl, F2, l_b, B_b⟩
  dsimp only [Option.toList_some, Option.toList_none, List.cons_append, List.nil_append]
  have F := F.call F2 (fun _ q => nomatch q)
  have A_u0 := A_u0.ext (Ow.Keep.ext0 F2.1)
  have A_u1 := A_u1.ext (Ow.Keep.ext0 F2.1)
  have A_u2 := A_u2.ext (Ow.Keep.ext0 F2.1)
  have F_u0 := F_u0.ext (Ow.Keep.ext0 F2.1)
  have F_u1 := F_u1.ext (Ow.Keep.ext0 F2.1)
  have F_u2 := F_u2.ext (Ow.Keep.ext0 F2.1)
  have St_0 := St_0.ext (Ow.Keep.ext0 F2.1)
  have St_1 := St_1.ext (Ow.Keep.ext0 F2.1)
  have St_2 := St_2.ext (Ow.Keep.ext0 F2.1)
  have B_va := B_va.ext (Ow.Keep.ext0 F2.1)
  have E_va := E_va.ext (Ow.Keep.ext0 F2.1)
  have Cl := Cl.ext (Ow.Keep.ext0 F2.1)
  have S := S.ext (Ow.Keep.ext0 F2.1)
  have SV := SV.ext (Ow.Keep.ext0 F2.1)
  have Stx := Stx.ext (Ow.Keep.ext0 F2.1)
  have D := D.ext (Ow.Keep.ext0 F2.1)
  obtain ⟨h_0, e_0⟩ : ∃ q, q = T.heap := ⟨_, rfl⟩
  rw [← e_0] at F D A_u0 A_u1 A_u2 F_u0 F_u1 F_u2 St_0 St_1 St_2 B_va E_va Cl S SV Stx B_b
  have eT : T.heap = h_0 := e_0.symm
  refine Ow.indyConst X hx D.hZ Lm hnZ (by rw [hml]; rfl) (pc := 3) (hb hby d6_3) rfl ?_
  refine Ow.aloadN X hx (pc := 8) (hb hby d6_8) rfl rfl ?_
  refine Ow.ldcO X hx eT D hEL hown (ww hw 57 rfl) wS (pc := 9) (hb hby d6_9) 48 (by decide) (by decide) (by decide) (by decide) ?_
  intro vm1 a1 T h1 X eT E1 D hown C1
  have A_u0 := A_u0.ext E1
  have A_u1 := A_u1.ext E1
  have A_u2 := A_u2.ext E1
  have F_u0 := F_u0.ext E1
  have F_u1 := F_u1.ext E1
  have F_u2 := F_u2.ext E1
  have St_0 := St_0.ext E1
  have St_1 := St_1.ext E1
  have St_2 := St_2.ext E1
  have B_va := B_va.ext E1
  have E_va := E_va.ext E1
  have Cl := Cl.ext E1
  have S := S.ext E1
  have SV := SV.ext E1
  have Stx := Stx.ext E1
  have B_b := B_b.ext E1
  have F := F.ext E1
  refine Ow.callSP X hx D.hZ (c_find2 l Z a0 hw _ z S hz b a1 u0 u1 u2 kv B_b s0 s1 s2 t0 t1 t2 k0 k1 k2 A_u0 F_u0 St_0 A_u1 F_u1 St_1 A_u2 F_u2 St_2 fa cK Lm Cl x tx kx cs Stx hcs ne0 ne1 ne2 he0 he1 he2) rfl rfl eT hown (ww hw 60 rfl) (ww hw 61 rfl) (ww hw 62 rfl) (ww hw 63 rfl) (by decide) pd6 (by rw [hml]; rfl) (argsL := [_, _, _, _]) rfl rfl rfl (pc := 11) (hb hby d6_11) rfl rfl (by decide) (by decide) ?_   -- com/example/rowgate/rowgate/Names.find:([Ljava/lang/Object;Ljava/util/function/Function;Ljava/lang/String;Ljava/lang/String;)Ljava/lang/Object;
  intro T X eT
  dsimp only [Option.toList_some, Option.toList_none, List.cons_append, List.nil_append]
  refine Ow.checkcast X hx D.hZ hown (ww hw 84 rfl) eT (Ins.self A_u2) (pc := 14) (hb hby d6_14) ?_
  intro T X eT
  exact Ow.areturnW X hx eT D hEL hlk hret rfl rfl rfl (hb hby d6_17) ⟨rfl, by rw [eT]; exact F⟩ (by decide) (by decide)
theorem own_len3 (x : Int32) : ∃ n : Nat, n ≤ 2 ∧ (x &&& 2147483647) % 3 = Int32.ofNat n := by
  have h1 : 0 ≤ (x &&& 2147483647).toInt := by
    rw [Int32.toInt]
    have hm : (x &&& 2147483647).toBitVec.msb = false := by
      rw [Int32.toBitVec_and, BitVec.msb_and, show (2147483647 : Int32).toBitVec.msb = false from by decide, Bool.and_false]
    rw [BitVec.toInt_eq_msb_cond, hm]; simp
  have h2 : ((x &&& 2147483647) % 3).toInt = (x &&& 2147483647).toInt.tmod 3 := by
    rw [Int32.toInt_mod]; rfl
  have h3 : (x &&& 2147483647).toInt.tmod 3 = (x &&& 2147483647).toInt % 3 := Int.tmod_eq_emod_of_nonneg h1
  refine ⟨((x &&& 2147483647).toInt % 3).toNat, by omega, Int32.toInt_inj.mp ?_⟩
  rw [Int32.toInt_ofNat_of_lt (by omega), h2, h3]; omega
set_option maxRecDepth 65536 in
set_option maxHeartbeats 40000000 in
theorem law_0 (l : Launch) (Z : State) (a0 : Array Value) (hw : ∀ d ∈ tables_1, d.before a0 Z = true) (hEL : EW Z a0 EL) (h0 : Heap) (z p0 : Int32) (S : Sta Z h0 "java/lang/String" "COMPACT_STRINGS" "Z" (.int z)) (hz : ¬ z = 0) (u0 u1 u2 va : Addr) (kv : ClassId) (SV : Sta Z h0 "com/example/rowgate/rowgate/AccountRole" "$VALUES" "[Lcom/example/rowgate/rowgate/AccountRole;" (.ref va)) (B_va : Ow.AL Z h0 va kv (.object "com/example/rowgate/rowgate/AccountRole") [.ref u0, .ref u1, .ref u2]) (E_va : Exa Z h0 va "[Lcom/example/rowgate/rowgate/AccountRole;") (s0 s1 s2 t0 t1 t2 : Addr) (k0 k1 k2 : ClassId) (A_u0 : Exa Z h0 u0 "com/example/rowgate/rowgate/AccountRole") (F_u0 : Fld Z h0 u0 "com/example/rowgate/rowgate/AccountRole" "displayName" "Ljava/lang/String;" (.ref s0)) (St_0 : Ow.Str Z h0 s0 t0 k0 [117, 115, 101, 114]) (A_u1 : Exa Z h0 u1 "com/example/rowgate/rowgate/AccountRole") (F_u1 : Fld Z h0 u1 "com/example/rowgate/rowgate/AccountRole" "displayName" "Ljava/lang/String;" (.ref s1)) (St_1 : Ow.Str Z h0 s1 t1 k1 [103, 108, 111, 98, 97, 108, 45, 97, 100, 109, 105, 110]) (A_u2 : Exa Z h0 u2 "com/example/rowgate/rowgate/AccountRole") (F_u2 : Fld Z h0 u2 "com/example/rowgate/rowgate/AccountRole" "displayName" "Ljava/lang/String;" (.ref s2)) (St_2 : Ow.Str Z h0 s2 t2 k2 [110, 111, 110, 101]) (fa : Addr) (cK : ClassId) (Lm : Ow.Lam Z (⟨"com/example/rowgate/rowgate/AccountRole", "fromName", "(Ljava/lang/String;)Lcom/example/rowgate/rowgate/AccountRole;"⟩ : MethodName) 3 own_sg fa cK) (Cl : Ow.Cel h0 fa cK) (SU0 : Sta Z h0 "com/example/rowgate/rowgate/AccountRole" "USER" "Lcom/example/rowgate/rowgate/AccountRole;" (.ref u0)) (SU1 : Sta Z h0 "com/example/rowgate/rowgate/AccountRole" "GLOBAL_ADMIN" "Lcom/example/rowgate/rowgate/AccountRole;" (.ref u1)) (SU2 : Sta Z h0 "com/example/rowgate/rowgate/AccountRole" "NONE" "Lcom/example/rowgate/rowgate/AccountRole;" (.ref u2)) (hlen : (p0 &&& 2147483647) % 3 = 0) : Ow.PayW l Z EL [] x code maxLocals ret room_1 #[(.int p0)] h0 (fun v h L => v = some (.int 1) ∧ Ow.Eff h0 h [] L) := by
  refine Ow.PayW.of (Ls := #[.val (.int p0), .unset, .unset, .unset, .unset, .unset]) (plainFor_of_name pn4) (fun m => by first | rfl | (simp [entryFrame, mkF, argsToLocals, Value.category, maxLocals]; done)) ?_
  intro p e s m below meth c T vm0 hx hby hml hown hnm hme hret hlk X eT D hsf
  have F := Ow.Eff.refl h0 []
  have hy5 : (3 : Int32) ≠ 0 := by decide
  refine Ow.iloadN X hx (pc := 0) (hb hby at_0) rfl ?_
  refine Ow.ldcI X hx (pc := 1) (2147483647) (hb hby at_1) hown (mvT D.hZ (ww hw 0 rfl)) ?_
  refine Ow.iand X hx (pc := 3) (hb hby at_3) ?_
  refine Ow.iconst X hx (pc := 4) (3) (hb hby at_4) (by decide) ?_
  refine Ow.irem X hx (pc := 5) (hb hby at_5) hy5 ?_
  rw [hlen]
  refine Ow.istoreN X hx (pc := 6) #[_, _, _, _, _, _] (hb hby at_6) rfl ?_
  refine Ow.iloadN X hx (pc := 7) (hb hby at_7) rfl ?_
  refine Ow.if_ne X hx (pc := 8) (pc' := 42) (hb hby at_8) (by decide) (by decide) (fun q => absurd rfl q) (fun h8 => ?_)
  refine Ow.iconst X hx (pc := 11) (4) (hb hby at_11) (by decide) ?_
  refine Ow.newarrayL X hx D.hZ (ww hw 1 rfl) eT 4 (vs := [_, _, _, _]) rfl (pc := 12) (hb hby at_12) (by decide) (by decide) (by decide) (by decide) (by decide) ?_
  intro T h_cA k_cA cA ha_cA X eT E_cA B_cA
  have l_cA : h0.size ≤ cA := by rw [ha_cA]; exact F.size
  have ne_u0_cA : u0 ≠ cA := by rw [ha_cA]; exact Nat.ne_of_lt A_u0.lt
  have ne_u1_cA : u1 ≠ cA := by rw [ha_cA]; exact Nat.ne_of_lt A_u1.lt
  have ne_u2_cA : u2 ≠ cA := by rw [ha_cA]; exact Nat.ne_of_lt A_u2.lt
  have ne_s0_cA : s0 ≠ cA := by rw [ha_cA]; exact Nat.ne_of_lt St_0.lt
  have ne_t0_cA : t0 ≠ cA := by rw [ha_cA]; exact Nat.ne_of_lt St_0.ltB
  have ne_s1_cA : s1 ≠ cA := by rw [ha_cA]; exact Nat.ne_of_lt St_1.lt
  have ne_t1_cA : t1 ≠ cA := by rw [ha_cA]; exact Nat.ne_of_lt St_1.ltB
  have ne_s2_cA : s2 ≠ cA := by rw [ha_cA]; exact Nat.ne_of_lt St_2.lt
  have ne_t2_cA : t2 ≠ cA := by rw [ha_cA]; exact Nat.ne_of_lt St_2.ltB
  have ne_va_cA : va ≠ cA := by rw [ha_cA]; exact Nat.ne_of_lt B_va.lt
  have S_cA := D.safeNew E_cA
  rw [← ha_cA] at S_cA
  have A_u0 := A_u0.ext E_cA
  have A_u1 := A_u1.ext E_cA
  have A_u2 := A_u2.ext E_cA
  have F_u0 := F_u0.ext E_cA
  have F_u1 := F_u1.ext E_cA
  have F_u2 := F_u2.ext E_cA
  have St_0 := St_0.ext E_cA
  have St_1 := St_1.ext E_cA
  have St_2 := St_2.ext E_cA
  have B_va := B_va.ext E_cA
  have E_va := E_va.ext E_cA
  have Cl := Cl.ext E_cA
  have S := S.ext E_cA
  have SV := SV.ext E_cA
  have SU0 := SU0.ext E_cA
  have SU1 := SU1.ext E_cA
  have SU2 := SU2.ext E_cA
  have F := F.ext E_cA
  have D := D.ext E_cA
  refine Ow.dup X hx (pc := 14) (hb hby at_14) rfl ?_
  refine Ow.iconst X hx (pc := 15) (0) (hb hby at_15) (by decide) ?_
  refine Ow.bipush X hx (pc := 16) (117) (hb hby at_16) (by decide) ?_
  refine Ow.castoreL X hx D.hZ eT B_cA 0 [_, _, _, _] (by decide) (by decide) rfl rfl (pc := 18) (hb hby at_18) ?_
  intro T h_18 X eT W_18 B_cA
  rw [show nar .char (117 : Int32) = 117 from by decide] at B_cA W_18
  have A_u0 := A_u0.wr W_18
  have A_u1 := A_u1.wr W_18
  have A_u2 := A_u2.wr W_18
  have F_u0 := F_u0.other W_18 (Or.inl ne_u0_cA)
  have F_u1 := F_u1.other W_18 (Or.inl ne_u1_cA)
  have F_u2 := F_u2.other W_18 (Or.inl ne_u2_cA)
  have St_0 := St_0.keep (Keep.of_wr W_18) (Ow.nin1 ne_s0_cA) (Ow.nin1 ne_t0_cA)
  have St_1 := St_1.keep (Keep.of_wr W_18) (Ow.nin1 ne_s1_cA) (Ow.nin1 ne_t1_cA)
  have St_2 := St_2.keep (Keep.of_wr W_18) (Ow.nin1 ne_s2_cA) (Ow.nin1 ne_t2_cA)
  have B_va := B_va.other W_18 ne_va_cA
  have E_va := E_va.wr W_18
  have Cl := Cl.wr W_18
  have S := S.wr W_18
  have SV := SV.wr W_18
  have SU0 := SU0.wr W_18
  have SU1 := SU1.wr W_18
  have SU2 := SU2.wr W_18
  have S_tmp := S_cA
  have S_cA := D.safeWr W_18 S_tmp S_cA
  have D := D.wr W_18 S_tmp
  have F := F.wr W_18 (Or.inr l_cA)
  refine Ow.dup X hx (pc := 19) (hb hby at_19) rfl ?_
  refine Ow.iconst X hx (pc := 20) (1) (hb hby at_20) (by decide) ?_
  refine Ow.bipush X hx (pc := 21) (115) (hb hby at_21) (by decide) ?_
  refine Ow.castoreL X hx D.hZ eT B_cA 1 [_, _, _, _] (by decide) (by decide) rfl rfl (pc := 23) (hb hby at_23) ?_
  intro T h_23 X eT W_23 B_cA
  rw [show nar .char (115 : Int32) = 115 from by decide] at B_cA W_23
  have A_u0 := A_u0.wr W_23
  have A_u1 := A_u1.wr W_23
  have A_u2 := A_u2.wr W_23
  have F_u0 := F_u0.other W_23 (Or.inl ne_u0_cA)
  have F_u1 := F_u1.other W_23 (Or.inl ne_u1_cA)
  have F_u2 := F_u2.other W_23 (Or.inl ne_u2_cA)
  have St_0 := St_0.keep (Keep.of_wr W_23) (Ow.nin1 ne_s0_cA) (Ow.nin1 ne_t0_cA)
  have St_1 := St_1.keep (Keep.of_wr W_23) (Ow.nin1 ne_s1_cA) (Ow.nin1 ne_t1_cA)
  have St_2 := St_2.keep (Keep.of_wr W_23) (Ow.nin1 ne_s2_cA) (Ow.nin1 ne_t2_cA)
  have B_va := B_va.other W_23 ne_va_cA
  have E_va := E_va.wr W_23
  have Cl := Cl.wr W_23
  have S := S.wr W_23
  have SV := SV.wr W_23
  have SU0 := SU0.wr W_23
  have SU1 := SU1.wr W_23
  have SU2 := SU2.wr W_23
  have S_tmp := S_cA
  have S_cA := D.safeWr W_23 S_tmp S_cA
  have D := D.wr W_23 S_tmp
  have F := F.wr W_23 (Or.inr l_cA)
  refine Ow.dup X hx (pc := 24) (hb hby at_24) rfl ?_
  refine Ow.iconst X hx (pc := 25) (2) (hb hby at_25) (by decide) ?_
  refine Ow.bipush X hx (pc := 26) (101) (hb hby at_26) (by decide) ?_
  refine Ow.castoreL X hx D.hZ eT B_cA 2 [_, _, _, _] (by decide) (by decide) rfl rfl (pc := 28) (hb hby at_28) ?_
  intro T h_28 X eT W_28 B_cA
  rw [show nar .char (101 : Int32) = 101 from by decide] at B_cA W_28
  have A_u0 := A_u0.wr W_28
  have A_u1 := A_u1.wr W_28
  have A_u2 := A_u2.wr W_28
  have F_u0 := F_u0.other W_28 (Or.inl ne_u0_cA)
  have F_u1 := F_u1.other W_28 (Or.inl ne_u1_cA)
  have F_u2 := F_u2.other W_28 (Or.inl ne_u2_cA)
  have St_0 := St_0.keep (Keep.of_wr W_28) (Ow.nin1 ne_s0_cA) (Ow.nin1 ne_t0_cA)
  have St_1 := St_1.keep (Keep.of_wr W_28) (Ow.nin1 ne_s1_cA) (Ow.nin1 ne_t1_cA)
  have St_2 := St_2.keep (Keep.of_wr W_28) (Ow.nin1 ne_s2_cA) (Ow.nin1 ne_t2_cA)
  have B_va := B_va.other W_28 ne_va_cA
  have E_va := E_va.wr W_28
  have Cl := Cl.wr W_28
  have S := S.wr W_28
  have SV := SV.wr W_28
  have SU0 := SU0.wr W_28
  have SU1 := SU1.wr W_28
  have SU2 := SU2.wr W_28
  have S_tmp := S_cA
  have S_cA := D.safeWr W_28 S_tmp S_cA
  have D := D.wr W_28 S_tmp
  have F := F.wr W_28 (Or.inr l_cA)
  refine Ow.dup X hx (pc := 29) (hb hby at_29) rfl ?_
  refine Ow.iconst X hx (pc := 30) (3) (hb hby at_30) (by decide) ?_
  refine Ow.bipush X hx (pc := 31) (114) (hb hby at_31) (by decide) ?_
  refine Ow.castoreL X hx D.hZ eT B_cA 3 [_, _, _, _] (by decide) (by decide) rfl rfl (pc := 33) (hb hby at_33) ?_
  intro T h_33 X eT W_33 B_cA
  rw [show nar .char (114 : Int32) = 114 from by decide] at B_cA W_33
  have A_u0 := A_u0.wr W_33
  have A_u1 := A_u1.wr W_33
  have A_u2 := A_u2.wr W_33
  have F_u0 := F_u0.other W_33 (Or.inl ne_u0_cA)
  have F_u1 := F_u1.other W_33 (Or.inl ne_u1_cA)
  have F_u2 := F_u2.other W_33 (Or.inl ne_u2_cA)
  have St_0 := St_0.keep (Keep.of_wr W_33) (Ow.nin1 ne_s0_cA) (Ow.nin1 ne_t0_cA)
  have St_1 := St_1.keep (Keep.of_wr W_33) (Ow.nin1 ne_s1_cA) (Ow.nin1 ne_t1_cA)
  have St_2 := St_2.keep (Keep.of_wr W_33) (Ow.nin1 ne_s2_cA) (Ow.nin1 ne_t2_cA)
  have B_va := B_va.other W_33 ne_va_cA
  have E_va := E_va.wr W_33
  have Cl := Cl.wr W_33
  have S := S.wr W_33
  have SV := SV.wr W_33
  have SU0 := SU0.wr W_33
  have SU1 := SU1.wr W_33
  have SU2 := SU2.wr W_33
  have S_tmp := S_cA
  have S_cA := D.safeWr W_33 S_tmp S_cA
  have D := D.wr W_33 S_tmp
  have F := F.wr W_33 (Or.inr l_cA)
  refine Ow.astoreN X hx (pc := 34) #[_, _, _, _, _, _] (hb hby at_34) rfl rfl ?_
  refine Ow.getstatic X hx D.hZ hown (ww hw 2 rfl) Via.refl eT SU0 (pc := 35) (hb hby at_35) ?_   -- "com/example/rowgate/rowgate/AccountRole" "USER" "Lcom/example/rowgate/rowgate/AccountRole;"
  intro T X eT
  refine Ow.astoreN X hx (pc := 38) #[_, _, _, _, _, _] (hb hby at_38) rfl rfl ?_
  refine Ow.goto X hx (pc := 39) (pc' := 153) (hb hby at_39) (by decide) (by decide) ?_
  refine Ow.new_ X hx D.hZ hown (ww hw 5 rfl) (ww hw 6 rfl) (ww hw 7 rfl) eT (pc := 153) (hb hby at_153) (by decide) (by decide) ?_
  intro T h_x x ha_x X eT E_x A_x D_x U_x
  have l_x : h0.size ≤ x := by rw [ha_x]; exact F.size
  have ne_u0_x : u0 ≠ x := by rw [ha_x]; exact Nat.ne_of_lt A_u0.lt
  have ne_u1_x : u1 ≠ x := by rw [ha_x]; exact Nat.ne_of_lt A_u1.lt
  have ne_u2_x : u2 ≠ x := by rw [ha_x]; exact Nat.ne_of_lt A_u2.lt
  have ne_s0_x : s0 ≠ x := by rw [ha_x]; exact Nat.ne_of_lt St_0.lt
  have ne_t0_x : t0 ≠ x := by rw [ha_x]; exact Nat.ne_of_lt St_0.ltB
  have ne_s1_x : s1 ≠ x := by rw [ha_x]; exact Nat.ne_of_lt St_1.lt
  have ne_t1_x : t1 ≠ x := by rw [ha_x]; exact Nat.ne_of_lt St_1.ltB
  have ne_s2_x : s2 ≠ x := by rw [ha_x]; exact Nat.ne_of_lt St_2.lt
  have ne_t2_x : t2 ≠ x := by rw [ha_x]; exact Nat.ne_of_lt St_2.ltB
  have ne_va_x : va ≠ x := by rw [ha_x]; exact Nat.ne_of_lt B_va.lt
  have ne_cA_x : cA ≠ x := by rw [ha_x]; exact Nat.ne_of_lt B_cA.lt
  have S_x := D.safeNew E_x
  rw [← ha_x] at S_x
  have A_u0 := A_u0.ext E_x
  have A_u1 := A_u1.ext E_x
  have A_u2 := A_u2.ext E_x
  have F_u0 := F_u0.ext E_x
  have F_u1 := F_u1.ext E_x
  have F_u2 := F_u2.ext E_x
  have St_0 := St_0.ext E_x
  have St_1 := St_1.ext E_x
  have St_2 := St_2.ext E_x
  have B_va := B_va.ext E_x
  have E_va := E_va.ext E_x
  have Cl := Cl.ext E_x
  have S := S.ext E_x
  have SV := SV.ext E_x
  have SU0 := SU0.ext E_x
  have SU1 := SU1.ext E_x
  have SU2 := SU2.ext E_x
  have B_cA := B_cA.ext E_x
  have S_cA := D.safeExt E_x S_cA
  have F := F.ext E_x
  have D := D.ext E_x
  have V0 := D_x (Or.inr (ww hw 33 rfl)) (ty := .array .byte) (by decide)
  have C0 := D_x (Or.inr (ww hw 31 rfl)) (ty := .byte) (by decide)
  refine Ow.dup X hx (pc := 156) (hb hby at_156) rfl ?_
  refine Ow.aloadN X hx (pc := 157) (hb hby at_157) rfl rfl ?_
  have H8 : ∀ c ∈ ([117, 115, 101, 114] : List Int32), ∃ k : Fin 256, c = Int32.ofNat k.val := by
    intro c hc
    simp only [List.mem_cons, List.not_mem_nil, or_false] at hc
    rcases hc with rfl | rfl | rfl | rfl
    · exact ⟨117, rfl⟩
    · exact ⟨115, rfl⟩
    · exact ⟨101, rfl⟩
    · exact ⟨114, rfl⟩
  have P_x := Ow.Exa.plain A_x
  refine strLat X hx D.hZ hw eT hown (ww hw 8 rfl) (cs := [117, 115, 101, 114]) A_x V0 C0 B_cA S hz 4 rfl (by decide) (by decide) H8 (by rw [hml]; rfl) (pc := 158) (hb hby at_158) rfl rfl (by decide) (by decide) ?_
  intro T L kx X F2 Stx
  have F := F.call F2 (fun y hy => by cases List.mem_singleton.mp hy; exact Or.inr l_x)
  have D := D.keep F2.1 (fun y hy => by cases List.mem_singleton.mp hy; exact S_x)
  have A_u0 := A_u0.keep F2.1
  have A_u1 := A_u1.keep F2.1
  have A_u2 := A_u2.keep F2.1
  have F_u0 := F_u0.keep F2.1 (Ow.nin1 ne_u0_x)
  have F_u1 := F_u1.keep F2.1 (Ow.nin1 ne_u1_x)
  have F_u2 := F_u2.keep F2.1 (Ow.nin1 ne_u2_x)
  have St_0 := St_0.keep F2.1 (Ow.nin1 ne_s0_x) (Ow.nin1 ne_t0_x)
  have St_1 := St_1.keep F2.1 (Ow.nin1 ne_s1_x) (Ow.nin1 ne_t1_x)
  have St_2 := St_2.keep F2.1 (Ow.nin1 ne_s2_x) (Ow.nin1 ne_t2_x)
  have B_va := B_va.keep F2.1 (Ow.nin1 ne_va_x)
  have E_va := E_va.keep F2.1
  have Cl := Cl.keep F2.1
  have S := Ow.staKeep S F2.1 (fun y hy => by cases List.mem_singleton.mp hy; exact P_x)
  have SV := Ow.staKeep SV F2.1 (fun y hy => by cases List.mem_singleton.mp hy; exact P_x)
  have SU0 := Ow.staKeep SU0 F2.1 (fun y hy => by cases List.mem_singleton.mp hy; exact P_x)
  have SU1 := Ow.staKeep SU1 F2.1 (fun y hy => by cases List.mem_singleton.mp hy; exact P_x)
  have SU2 := Ow.staKeep SU2 F2.1 (fun y hy => by cases List.mem_singleton.mp hy; exact P_x)
  obtain ⟨h_158, e_158⟩ : ∃ q, q = T.heap := ⟨_, rfl⟩
  rw [← e_158] at F D A_u0 A_u1 A_u2 F_u0 F_u1 F_u2 St_0 St_1 St_2 B_va E_va Cl S SV SU0 SU1 SU2 Stx
  have eT : T.heap = h_158 := e_158.symm
  refine Ow.astore X hx (pc := 161) #[_, _, _, _, _, _] (hb hby at_161) rfl rfl ?_
  refine Ow.aload X hx (pc := 163) (hb hby at_163) rfl rfl ?_
  refine Ow.callSW X hx (c_fn0 l Z a0 hw hEL _ z S hz u0 u1 u2 va kv SV B_va E_va s0 s1 s2 t0 t1 t2 k0 k1 k2 A_u0 F_u0 St_0 A_u1 F_u1 St_1 A_u2 F_u2 St_2 fa cK Lm Cl x _ kx _ Stx (by simp) ne_s0_x ne_s1_x ne_s2_x (by decide +kernel)) eT D hEL (fun _ q => nomatch q) hown (ww hw 34 rfl) (ww hw 35 rfl) (ww hw 3 rfl) (ww hw 36 rfl) (by decide) pd7 (by rw [hml]; rfl) (argsL := [_]) rfl rfl rfl (pc := 165) (hb hby at_165) rfl rfl (by decide) (by decide) ?_
  rintro _ vm1 T L X ⟨rfl, F2⟩ D hown C1
  dsimp only [Option.toList_some, Option.toList_none, List.cons_append, List.nil_append]
  have F := F.call F2 (fun _ q => nomatch q)
  have A_u0 := A_u0.ext (Ow.Keep.ext0 F2.1)
  have A_u1 := A_u1.ext (Ow.Keep.ext0 F2.1)
  have A_u2 := A_u2.ext (Ow.Keep.ext0 F2.1)
  have F_u0 := F_u0.ext (Ow.Keep.ext0 F2.1)
  have F_u1 := F_u1.ext (Ow.Keep.ext0 F2.1)
  have F_u2 := F_u2.ext (Ow.Keep.ext0 F2.1)
  have St_0 := St_0.ext (Ow.Keep.ext0 F2.1)
  have St_1 := St_1.ext (Ow.Keep.ext0 F2.1)
  have St_2 := St_2.ext (Ow.Keep.ext0 F2.1)
  have B_va := B_va.ext (Ow.Keep.ext0 F2.1)
  have E_va := E_va.ext (Ow.Keep.ext0 F2.1)
  have Cl := Cl.ext (Ow.Keep.ext0 F2.1)
  have S := S.ext (Ow.Keep.ext0 F2.1)
  have SV := SV.ext (Ow.Keep.ext0 F2.1)
  have SU0 := SU0.ext (Ow.Keep.ext0 F2.1)
  have SU1 := SU1.ext (Ow.Keep.ext0 F2.1)
  have SU2 := SU2.ext (Ow.Keep.ext0 F2.1)
  have Stx := Stx.ext (Ow.Keep.ext0 F2.1)
  obtain ⟨h_165, e_165⟩ : ∃ q, q = T.heap := ⟨_, rfl⟩
  rw [← e_165] at F D A_u0 A_u1 A_u2 F_u0 F_u1 F_u2 St_0 St_1 St_2 B_va E_va Cl S SV SU0 SU1 SU2 Stx
  have eT : T.heap = h_165 := e_165.symm
  refine Ow.astore X hx (pc := 168) #[_, _, _, _, _, _] (hb hby at_168) rfl rfl ?_
  refine Ow.aload X hx (pc := 170) (hb hby at_170) rfl rfl ?_
  refine Ow.aloadN X hx (pc := 172) (hb hby at_172) rfl rfl ?_
  refine Ow.acmp_ne X hx (pc := 173) (pc' := 193) (hb hby at_173) rfl rfl (by decide) (by decide) (fun q => absurd rfl q) (fun h173 => ?_)
  refine Ow.aload X hx (pc := 176) (hb hby at_176) rfl rfl ?_
  refine Ow.callVP X hx D.hZ (c_gdn l Z a0 hw _ u0 s0 F_u0) rfl rfl eT hown (ww hw 85 rfl) (ww hw 67 rfl) (ww hw 68 rfl) (ww hw 69 rfl) (ww hw 3 rfl) (ww hw 70 rfl) (by decide) pd3 (by rw [hml]; rfl) A_u0 (argsL := []) rfl rfl rfl (pc := 178) (hb hby at_178) rfl rfl (by decide) (by decide) ?_   -- com/example/rowgate/rowgate/AccountRole.getDisplayName:()Ljava/lang/String;
  intro T X eT
  dsimp only [Option.toList_some, Option.toList_none, List.cons_append, List.nil_append]
  refine Ow.aload X hx (pc := 181) (hb hby at_181) rfl rfl ?_
  refine Ow.callVP X hx D.hZ (c_seq l Z a0 hw _ z s0 x t0 _ k0 kx [117, 115, 101, 114] _ S hz St_0 Stx ne_s0_x (by decide) (by simp)) rfl rfl eT hown (ww hw 86 rfl) (ww hw 75 rfl) (ww hw 77 rfl) (ww hw 76 rfl) (ww hw 7 rfl) (ww hw 78 rfl) (by decide) pd4 (by rw [hml]; rfl) St_0.1 (argsL := [_]) rfl rfl rfl (pc := 183) (hb hby at_183) rfl rfl (by decide) (by decide) ?_   -- java/lang/String.equals:(Ljava/lang/Object;)Z
  intro T X eT
  dsimp only [Option.toList_some, Option.toList_none, List.cons_append, List.nil_append]
  rw [show own_eqv [117, 115, 101, 114] (List.map (fun c : Int32 => c.toInt8.toInt32) ([117, 115, 101, 114] : List Int32)) = 1 from by decide +kernel]
  refine Ow.if_eq X hx (pc := 186) (pc' := 193) (hb hby at_186) (by decide) (by decide) (fun q => absurd q (by decide)) (fun h186 => ?_)
  refine Ow.iconst X hx (pc := 189) (1) (hb hby at_189) (by decide) ?_
  refine Ow.goto X hx (pc := 190) (pc' := 194) (hb hby at_190) (by decide) (by decide) ?_
  exact Ow.nreturnW X hx eT D hEL hlk hret (Or.inl rfl) (hb hby at_194) ⟨rfl, by rw [eT]; exact F⟩ (by decide) (by decide)
set_option maxRecDepth 65536 in
set_option maxHeartbeats 40000000 in
theorem law_1 (l : Launch) (Z : State) (a0 : Array Value) (hw : ∀ d ∈ tables_1, d.before a0 Z = true) (hEL : EW Z a0 EL) (h0 : Heap) (z p0 : Int32) (S : Sta Z h0 "java/lang/String" "COMPACT_STRINGS" "Z" (.int z)) (hz : ¬ z = 0) (u0 u1 u2 va : Addr) (kv : ClassId) (SV : Sta Z h0 "com/example/rowgate/rowgate/AccountRole" "$VALUES" "[Lcom/example/rowgate/rowgate/AccountRole;" (.ref va)) (B_va : Ow.AL Z h0 va kv (.object "com/example/rowgate/rowgate/AccountRole") [.ref u0, .ref u1, .ref u2]) (E_va : Exa Z h0 va "[Lcom/example/rowgate/rowgate/AccountRole;") (s0 s1 s2 t0 t1 t2 : Addr) (k0 k1 k2 : ClassId) (A_u0 : Exa Z h0 u0 "com/example/rowgate/rowgate/AccountRole") (F_u0 : Fld Z h0 u0 "com/example/rowgate/rowgate/AccountRole" "displayName" "Ljava/lang/String;" (.ref s0)) (St_0 : Ow.Str Z h0 s0 t0 k0 [117, 115, 101, 114]) (A_u1 : Exa Z h0 u1 "com/example/rowgate/rowgate/AccountRole") (F_u1 : Fld Z h0 u1 "com/example/rowgate/rowgate/AccountRole" "displayName" "Ljava/lang/String;" (.ref s1)) (St_1 : Ow.Str Z h0 s1 t1 k1 [103, 108, 111, 98, 97, 108, 45, 97, 100, 109, 105, 110]) (A_u2 : Exa Z h0 u2 "com/example/rowgate/rowgate/AccountRole") (F_u2 : Fld Z h0 u2 "com/example/rowgate/rowgate/AccountRole" "displayName" "Ljava/lang/String;" (.ref s2)) (St_2 : Ow.Str Z h0 s2 t2 k2 [110, 111, 110, 101]) (fa : Addr) (cK : ClassId) (Lm : Ow.Lam Z (⟨"com/example/rowgate/rowgate/AccountRole", "fromName", "(Ljava/lang/String;)Lcom/example/rowgate/rowgate/AccountRole;"⟩ : MethodName) 3 own_sg fa cK) (Cl : Ow.Cel h0 fa cK) (SU0 : Sta Z h0 "com/example/rowgate/rowgate/AccountRole" "USER" "Lcom/example/rowgate/rowgate/AccountRole;" (.ref u0)) (SU1 : Sta Z h0 "com/example/rowgate/rowgate/AccountRole" "GLOBAL_ADMIN" "Lcom/example/rowgate/rowgate/AccountRole;" (.ref u1)) (SU2 : Sta Z h0 "com/example/rowgate/rowgate/AccountRole" "NONE" "Lcom/example/rowgate/rowgate/AccountRole;" (.ref u2)) (hlen : (p0 &&& 2147483647) % 3 = 1) : Ow.PayW l Z EL [] x code maxLocals ret room_1 #[(.int p0)] h0 (fun v h L => v = some (.int 1) ∧ Ow.Eff h0 h [] L) := by
  refine Ow.PayW.of (Ls := #[.val (.int p0), .unset, .unset, .unset, .unset, .unset]) (plainFor_of_name pn4) (fun m => by first | rfl | (simp [entryFrame, mkF, argsToLocals, Value.category, maxLocals]; done)) ?_
  intro p e s m below meth c T vm0 hx hby hml hown hnm hme hret hlk X eT D hsf
  have F := Ow.Eff.refl h0 []
  have hy5 : (3 : Int32) ≠ 0 := by decide
  refine Ow.iloadN X hx (pc := 0) (hb hby at_0) rfl ?_
  refine Ow.ldcI X hx (pc := 1) (2147483647) (hb hby at_1) hown (mvT D.hZ (ww hw 0 rfl)) ?_
  refine Ow.iand X hx (pc := 3) (hb hby at_3) ?_
  refine Ow.iconst X hx (pc := 4) (3) (hb hby at_4) (by decide) ?_
  refine Ow.irem X hx (pc := 5) (hb hby at_5) hy5 ?_
  rw [hlen]
  refine Ow.istoreN X hx (pc := 6) #[_, _, _, _, _, _] (hb hby at_6) rfl ?_
  refine Ow.iloadN X hx (pc := 7) (hb hby at_7) rfl ?_
  refine Ow.if_ne X hx (pc := 8) (pc' := 42) (hb hby at_8) (by decide) (by decide) (fun h8 => ?_) (fun q => absurd q (by decide))
  refine Ow.iloadN X hx (pc := 42) (hb hby at_42) rfl ?_
  refine Ow.iconst X hx (pc := 43) (1) (hb hby at_43) (by decide) ?_
  refine Ow.icmp_ne X hx (pc := 44) (pc' := 125) (hb hby at_44) (by decide) (by decide) (fun q => absurd rfl q) (fun h44 => ?_)
  refine Ow.bipush X hx (pc := 47) (12) (hb hby at_47) (by decide) ?_
  refine Ow.newarrayL X hx D.hZ (ww hw 1 rfl) eT 12 (vs := [_, _, _, _, _, _, _, _, _, _, _, _]) rfl (pc := 49) (hb hby at_49) (by decide) (by decide) (by decide) (by decide) (by decide) ?_
  intro T h_cA k_cA cA ha_cA X eT E_cA B_cA
  have l_cA : h0.size ≤ cA := by rw [ha_cA]; exact F.size
  have ne_u0_cA : u0 ≠ cA := by rw [ha_cA]; exact Nat.ne_of_lt A_u0.lt
  have ne_u1_cA : u1 ≠ cA := by rw [ha_cA]; exact Nat.ne_of_lt A_u1.lt
  have ne_u2_cA : u2 ≠ cA := by rw [ha_cA]; exact Nat.ne_of_lt A_u2.lt
  have ne_s0_cA : s0 ≠ cA := by rw [ha_cA]; exact Nat.ne_of_lt St_0.lt
  have ne_t0_cA : t0 ≠ cA := by rw [ha_cA]; exact Nat.ne_of_lt St_0.ltB
  have ne_s1_cA : s1 ≠ cA := by rw [ha_cA]; exact Nat.ne_of_lt St_1.lt
  have ne_t1_cA : t1 ≠ cA := by rw [ha_cA]; exact Nat.ne_of_lt St_1.ltB
  have ne_s2_cA : s2 ≠ cA := by rw [ha_cA]; exact Nat.ne_of_lt St_2.lt
  have ne_t2_cA : t2 ≠ cA := by rw [ha_cA]; exact Nat.ne_of_lt St_2.ltB
  have ne_va_cA : va ≠ cA := by rw [ha_cA]; exact Nat.ne_of_lt B_va.lt
  have S_cA := D.safeNew E_cA
  rw [← ha_cA] at S_cA
  have A_u0 := A_u0.ext E_cA
  have A_u1 := A_u1.ext E_cA
  have A_u2 := A_u2.ext E_cA
  have F_u0 := F_u0.ext E_cA
  have F_u1 := F_u1.ext E_cA
  have F_u2 := F_u2.ext E_cA
  have St_0 := St_0.ext E_cA
  have St_1 := St_1.ext E_cA
  have St_2 := St_2.ext E_cA
  have B_va := B_va.ext E_cA
  have E_va := E_va.ext E_cA
  have Cl := Cl.ext E_cA
  have S := S.ext E_cA
  have SV := SV.ext E_cA
  have SU0 := SU0.ext E_cA
  have SU1 := SU1.ext E_cA
  have SU2 := SU2.ext E_cA
  have F := F.ext E_cA
  have D := D.ext E_cA
  refine Ow.dup X hx (pc := 51) (hb hby at_51) rfl ?_
  refine Ow.iconst X hx (pc := 52) (0) (hb hby at_52) (by decide) ?_
  refine Ow.bipush X hx (pc := 53) (103) (hb hby at_53) (by decide) ?_
  refine Ow.castoreL X hx D.hZ eT B_cA 0 [_, _, _, _, _, _, _, _, _, _, _, _] (by decide) (by decide) rfl rfl (pc := 55) (hb hby at_55) ?_
  intro T h_55 X eT W_55 B_cA
  rw [show nar .char (103 : Int32) = 103 from by decide] at B_cA W_55
  have A_u0 := A_u0.wr W_55
  have A_u1 := A_u1.wr W_55
  have A_u2 := A_u2.wr W_55
  have F_u0 := F_u0.other W_55 (Or.inl ne_u0_cA)
  have F_u1 := F_u1.other W_55 (Or.inl ne_u1_cA)
  have F_u2 := F_u2.other W_55 (Or.inl ne_u2_cA)
  have St_0 := St_0.keep (Keep.of_wr W_55) (Ow.nin1 ne_s0_cA) (Ow.nin1 ne_t0_cA)
  have St_1 := St_1.keep (Keep.of_wr W_55) (Ow.nin1 ne_s1_cA) (Ow.nin1 ne_t1_cA)
  have St_2 := St_2.keep (Keep.of_wr W_55) (Ow.nin1 ne_s2_cA) (Ow.nin1 ne_t2_cA)
  have B_va := B_va.other W_55 ne_va_cA
  have E_va := E_va.wr W_55
  have Cl := Cl.wr W_55
  have S := S.wr W_55
  have SV := SV.wr W_55
  have SU0 := SU0.wr W_55
  have SU1 := SU1.wr W_55
  have SU2 := SU2.wr W_55
  have S_tmp := S_cA
  have S_cA := D.safeWr W_55 S_tmp S_cA
  have D := D.wr W_55 S_tmp
  have F := F.wr W_55 (Or.inr l_cA)
  refine Ow.dup X hx (pc := 56) (hb hby at_56) rfl ?_
  refine Ow.iconst X hx (pc := 57) (1) (hb hby at_57) (by decide) ?_
  refine Ow.bipush X hx (pc := 58) (108) (hb hby at_58) (by decide) ?_
  refine Ow.castoreL X hx D.hZ eT B_cA 1 [_, _, _, _, _, _, _, _, _, _, _, _] (by decide) (by decide) rfl rfl (pc := 60) (hb hby at_60) ?_
  intro T h_60 X eT W_60 B_cA
  rw [show nar .char (108 : Int32) = 108 from by decide] at B_cA W_60
  have A_u0 := A_u0.wr W_60
  have A_u1 := A_u1.wr W_60
  have A_u2 := A_u2.wr W_60
  have F_u0 := F_u0.other W_60 (Or.inl ne_u0_cA)
  have F_u1 := F_u1.other W_60 (Or.inl ne_u1_cA)
  have F_u2 := F_u2.other W_60 (Or.inl ne_u2_cA)
  have St_0 := St_0.keep (Keep.of_wr W_60) (Ow.nin1 ne_s0_cA) (Ow.nin1 ne_t0_cA)
  have St_1 := St_1.keep (Keep.of_wr W_60) (Ow.nin1 ne_s1_cA) (Ow.nin1 ne_t1_cA)
  have St_2 := St_2.keep (Keep.of_wr W_60) (Ow.nin1 ne_s2_cA) (Ow.nin1 ne_t2_cA)
  have B_va := B_va.other W_60 ne_va_cA
  have E_va := E_va.wr W_60
  have Cl := Cl.wr W_60
  have S := S.wr W_60
  have SV := SV.wr W_60
  have SU0 := SU0.wr W_60
  have SU1 := SU1.wr W_60
  have SU2 := SU2.wr W_60
  have S_tmp := S_cA
  have S_cA := D.safeWr W_60 S_tmp S_cA
  have D := D.wr W_60 S_tmp
  have F := F.wr W_60 (Or.inr l_cA)
  refine Ow.dup X hx (pc := 61) (hb hby at_61) rfl ?_
  refine Ow.iconst X hx (pc := 62) (2) (hb hby at_62) (by decide) ?_
  refine Ow.bipush X hx (pc := 63) (111) (hb hby at_63) (by decide) ?_
  refine Ow.castoreL X hx D.hZ eT B_cA 2 [_, _, _, _, _, _, _, _, _, _, _, _] (by decide) (by decide) rfl rfl (pc := 65) (hb hby at_65) ?_
  intro T h_65 X eT W_65 B_cA
  rw [show nar .char (111 : Int32) = 111 from by decide] at B_cA W_65
  have A_u0 := A_u0.wr W_65
  have A_u1 := A_u1.wr W_65
  have A_u2 := A_u2.wr W_65
  have F_u0 := F_u0.other W_65 (Or.inl ne_u0_cA)
  have F_u1 := F_u1.other W_65 (Or.inl ne_u1_cA)
  have F_u2 := F_u2.other W_65 (Or.inl ne_u2_cA)
  have St_0 := St_0.keep (Keep.of_wr W_65) (Ow.nin1 ne_s0_cA) (Ow.nin1 ne_t0_cA)
  have St_1 := St_1.keep (Keep.of_wr W_65) (Ow.nin1 ne_s1_cA) (Ow.nin1 ne_t1_cA)
  have St_2 := St_2.keep (Keep.of_wr W_65) (Ow.nin1 ne_s2_cA) (Ow.nin1 ne_t2_cA)
  have B_va := B_va.other W_65 ne_va_cA
  have E_va := E_va.wr W_65
  have Cl := Cl.wr W_65
  have S := S.wr W_65
  have SV := SV.wr W_65
  have SU0 := SU0.wr W_65
  have SU1 := SU1.wr W_65
  have SU2 := SU2.wr W_65
  have S_tmp := S_cA
  have S_cA := D.safeWr W_65 S_tmp S_cA
  have D := D.wr W_65 S_tmp
  have F := F.wr W_65 (Or.inr l_cA)
  refine Ow.dup X hx (pc := 66) (hb hby at_66) rfl ?_
  refine Ow.iconst X hx (pc := 67) (3) (hb hby at_67) (by decide) ?_
  refine Ow.bipush X hx (pc := 68) (98) (hb hby at_68) (by decide) ?_
  refine Ow.castoreL X hx D.hZ eT B_cA 3 [_, _, _, _, _, _, _, _, _, _, _, _] (by decide) (by decide) rfl rfl (pc := 70) (hb hby at_70) ?_
  intro T h_70 X eT W_70 B_cA
  rw [show nar .char (98 : Int32) = 98 from by decide] at B_cA W_70
  have A_u0 := A_u0.wr W_70
  have A_u1 := A_u1.wr W_70
  have A_u2 := A_u2.wr W_70
  have F_u0 := F_u0.other W_70 (Or.inl ne_u0_cA)
  have F_u1 := F_u1.other W_70 (Or.inl ne_u1_cA)
  have F_u2 := F_u2.other W_70 (Or.inl ne_u2_cA)
  have St_0 := St_0.keep (Keep.of_wr W_70) (Ow.nin1 ne_s0_cA) (Ow.nin1 ne_t0_cA)
  have St_1 := St_1.keep (Keep.of_wr W_70) (Ow.nin1 ne_s1_cA) (Ow.nin1 ne_t1_cA)
  have St_2 := St_2.keep (Keep.of_wr W_70) (Ow.nin1 ne_s2_cA) (Ow.nin1 ne_t2_cA)
  have B_va := B_va.other W_70 ne_va_cA
  have E_va := E_va.wr W_70
  have Cl := Cl.wr W_70
  have S := S.wr W_70
  have SV := SV.wr W_70
  have SU0 := SU0.wr W_70
  have SU1 := SU1.wr W_70
  have SU2 := SU2.wr W_70
  have S_tmp := S_cA
  have S_cA := D.safeWr W_70 S_tmp S_cA
  have D := D.wr W_70 S_tmp
  have F := F.wr W_70 (Or.inr l_cA)
  refine Ow.dup X hx (pc := 71) (hb hby at_71) rfl ?_
  refine Ow.iconst X hx (pc := 72) (4) (hb hby at_72) (by decide) ?_
  refine Ow.bipush X hx (pc := 73) (97) (hb hby at_73) (by decide) ?_
  refine Ow.castoreL X hx D.hZ eT B_cA 4 [_, _, _, _, _, _, _, _, _, _, _, _] (by decide) (by decide) rfl rfl (pc := 75) (hb hby at_75) ?_
  intro T h_75 X eT W_75 B_cA
  rw [show nar .char (97 : Int32) = 97 from by decide] at B_cA W_75
  have A_u0 := A_u0.wr W_75
  have A_u1 := A_u1.wr W_75
  have A_u2 := A_u2.wr W_75
  have F_u0 := F_u0.other W_75 (Or.inl ne_u0_cA)
  have F_u1 := F_u1.other W_75 (Or.inl ne_u1_cA)
  have F_u2 := F_u2.other W_75 (Or.inl ne_u2_cA)
  have St_0 := St_0.keep (Keep.of_wr W_75) (Ow.nin1 ne_s0_cA) (Ow.nin1 ne_t0_cA)
  have St_1 := St_1.keep (Keep.of_wr W_75) (Ow.nin1 ne_s1_cA) (Ow.nin1 ne_t1_cA)
  have St_2 := St_2.keep (Keep.of_wr W_75) (Ow.nin1 ne_s2_cA) (Ow.nin1 ne_t2_cA)
  have B_va := B_va.other W_75 ne_va_cA
  have E_va := E_va.wr W_75
  have Cl := Cl.wr W_75
  have S := S.wr W_75
  have SV := SV.wr W_75
  have SU0 := SU0.wr W_75
  have SU1 := SU1.wr W_75
  have SU2 := SU2.wr W_75
  have S_tmp := S_cA
  have S_cA := D.safeWr W_75 S_tmp S_cA
  have D := D.wr W_75 S_tmp
  have F := F.wr W_75 (Or.inr l_cA)
  refine Ow.dup X hx (pc := 76) (hb hby at_76) rfl ?_
  refine Ow.iconst X hx (pc := 77) (5) (hb hby at_77) (by decide) ?_
  refine Ow.bipush X hx (pc := 78) (108) (hb hby at_78) (by decide) ?_
  refine Ow.castoreL X hx D.hZ eT B_cA 5 [_, _, _, _, _, _, _, _, _, _, _, _] (by decide) (by decide) rfl rfl (pc := 80) (hb hby at_80) ?_
  intro T h_80 X eT W_80 B_cA
  rw [show nar .char (108 : Int32) = 108 from by decide] at B_cA W_80
  have A_u0 := A_u0.wr W_80
  have A_u1 := A_u1.wr W_80
  have A_u2 := A_u2.wr W_80
  have F_u0 := F_u0.other W_80 (Or.inl ne_u0_cA)
  have F_u1 := F_u1.other W_80 (Or.inl ne_u1_cA)
  have F_u2 := F_u2.other W_80 (Or.inl ne_u2_cA)
  have St_0 := St_0.keep (Keep.of_wr W_80) (Ow.nin1 ne_s0_cA) (Ow.nin1 ne_t0_cA)
  have St_1 := St_1.keep (Keep.of_wr W_80) (Ow.nin1 ne_s1_cA) (Ow.nin1 ne_t1_cA)
  have St_2 := St_2.keep (Keep.of_wr W_80) (Ow.nin1 ne_s2_cA) (Ow.nin1 ne_t2_cA)
  have B_va := B_va.other W_80 ne_va_cA
  have E_va := E_va.wr W_80
  have Cl := Cl.wr W_80
  have S := S.wr W_80
  have SV := SV.wr W_80
  have SU0 := SU0.wr W_80
  have SU1 := SU1.wr W_80
  have SU2 := SU2.wr W_80
  have S_tmp := S_cA
  have S_cA := D.safeWr W_80 S_tmp S_cA
  have D := D.wr W_80 S_tmp
  have F := F.wr W_80 (Or.inr l_cA)
  refine Ow.dup X hx (pc := 81) (hb hby at_81) rfl ?_
  refine Ow.bipush X hx (pc := 82) (6) (hb hby at_82) (by decide) ?_
  refine Ow.bipush X hx (pc := 84) (45) (hb hby at_84) (by decide) ?_
  refine Ow.castoreL X hx D.hZ eT B_cA 6 [_, _, _, _, _, _, _, _, _, _, _, _] (by decide) (by decide) rfl rfl (pc := 86) (hb hby at_86) ?_
  intro T h_86 X eT W_86 B_cA
  rw [show nar .char (45 : Int32) = 45 from by decide] at B_cA W_86
  have A_u0 := A_u0.wr W_86
  have A_u1 := A_u1.wr W_86
  have A_u2 := A_u2.wr W_86
  have F_u0 := F_u0.other W_86 (Or.inl ne_u0_cA)
  have F_u1 := F_u1.other W_86 (Or.inl ne_u1_cA)
  have F_u2 := F_u2.other W_86 (Or.inl ne_u2_cA)
  have St_0 := St_0.keep (Keep.of_wr W_86) (Ow.nin1 ne_s0_cA) (Ow.nin1 ne_t0_cA)
  have St_1 := St_1.keep (Keep.of_wr W_86) (Ow.nin1 ne_s1_cA) (Ow.nin1 ne_t1_cA)
  have St_2 := St_2.keep (Keep.of_wr W_86) (Ow.nin1 ne_s2_cA) (Ow.nin1 ne_t2_cA)
  have B_va := B_va.other W_86 ne_va_cA
  have E_va := E_va.wr W_86
  have Cl := Cl.wr W_86
  have S := S.wr W_86
  have SV := SV.wr W_86
  have SU0 := SU0.wr W_86
  have SU1 := SU1.wr W_86
  have SU2 := SU2.wr W_86
  have S_tmp := S_cA
  have S_cA := D.safeWr W_86 S_tmp S_cA
  have D := D.wr W_86 S_tmp
  have F := F.wr W_86 (Or.inr l_cA)
  refine Ow.dup X hx (pc := 87) (hb hby at_87) rfl ?_
  refine Ow.bipush X hx (pc := 88) (7) (hb hby at_88) (by decide) ?_
  refine Ow.bipush X hx (pc := 90) (97) (hb hby at_90) (by decide) ?_
  refine Ow.castoreL X hx D.hZ eT B_cA 7 [_, _, _, _, _, _, _, _, _, _, _, _] (by decide) (by decide) rfl rfl (pc := 92) (hb hby at_92) ?_
  intro T h_92 X eT W_92 B_cA
  rw [show nar .char (97 : Int32) = 97 from by decide] at B_cA W_92
  have A_u0 := A_u0.wr W_92
  have A_u1 := A_u1.wr W_92
  have A_u2 := A_u2.wr W_92
  have F_u0 := F_u0.other W_92 (Or.inl ne_u0_cA)
  have F_u1 := F_u1.other W_92 (Or.inl ne_u1_cA)
  have F_u2 := F_u2.other W_92 (Or.inl ne_u2_cA)
  have St_0 := St_0.keep (Keep.of_wr W_92) (Ow.nin1 ne_s0_cA) (Ow.nin1 ne_t0_cA)
  have St_1 := St_1.keep (Keep.of_wr W_92) (Ow.nin1 ne_s1_cA) (Ow.nin1 ne_t1_cA)
  have St_2 := St_2.keep (Keep.of_wr W_92) (Ow.nin1 ne_s2_cA) (Ow.nin1 ne_t2_cA)
  have B_va := B_va.other W_92 ne_va_cA
  have E_va := E_va.wr W_92
  have Cl := Cl.wr W_92
  have S := S.wr W_92
  have SV := SV.wr W_92
  have SU0 := SU0.wr W_92
  have SU1 := SU1.wr W_92
  have SU2 := SU2.wr W_92
  have S_tmp := S_cA
  have S_cA := D.safeWr W_92 S_tmp S_cA
  have D := D.wr W_92 S_tmp
  have F := F.wr W_92 (Or.inr l_cA)
  refine Ow.dup X hx (pc := 93) (hb hby at_93) rfl ?_
  refine Ow.bipush X hx (pc := 94) (8) (hb hby at_94) (by decide) ?_
  refine Ow.bipush X hx (pc := 96) (100) (hb hby at_96) (by decide) ?_
  refine Ow.castoreL X hx D.hZ eT B_cA 8 [_, _, _, _, _, _, _, _, _, _, _, _] (by decide) (by decide) rfl rfl (pc := 98) (hb hby at_98) ?_
  intro T h_98 X eT W_98 B_cA
  rw [show nar .char (100 : Int32) = 100 from by decide] at B_cA W_98
  have A_u0 := A_u0.wr W_98
  have A_u1 := A_u1.wr W_98
  have A_u2 := A_u2.wr W_98
  have F_u0 := F_u0.other W_98 (Or.inl ne_u0_cA)
  have F_u1 := F_u1.other W_98 (Or.inl ne_u1_cA)
  have F_u2 := F_u2.other W_98 (Or.inl ne_u2_cA)
  have St_0 := St_0.keep (Keep.of_wr W_98) (Ow.nin1 ne_s0_cA) (Ow.nin1 ne_t0_cA)
  have St_1 := St_1.keep (Keep.of_wr W_98) (Ow.nin1 ne_s1_cA) (Ow.nin1 ne_t1_cA)
  have St_2 := St_2.keep (Keep.of_wr W_98) (Ow.nin1 ne_s2_cA) (Ow.nin1 ne_t2_cA)
  have B_va := B_va.other W_98 ne_va_cA
  have E_va := E_va.wr W_98
  have Cl := Cl.wr W_98
  have S := S.wr W_98
  have SV := SV.wr W_98
  have SU0 := SU0.wr W_98
  have SU1 := SU1.wr W_98
  have SU2 := SU2.wr W_98
  have S_tmp := S_cA
  have S_cA := D.safeWr W_98 S_tmp S_cA
  have D := D.wr W_98 S_tmp
  have F := F.wr W_98 (Or.inr l_cA)
  refine Ow.dup X hx (pc := 99) (hb hby at_99) rfl ?_
  refine Ow.bipush X hx (pc := 100) (9) (hb hby at_100) (by decide) ?_
  refine Ow.bipush X hx (pc := 102) (109) (hb hby at_102) (by decide) ?_
  refine Ow.castoreL X hx D.hZ eT B_cA 9 [_, _, _, _, _, _, _, _, _, _, _, _] (by decide) (by decide) rfl rfl (pc := 104) (hb hby at_104) ?_
  intro T h_104 X eT W_104 B_cA
  rw [show nar .char (109 : Int32) = 109 from by decide] at B_cA W_104
  have A_u0 := A_u0.wr W_104
  have A_u1 := A_u1.wr W_104
  have A_u2 := A_u2.wr W_104
  have F_u0 := F_u0.other W_104 (Or.inl ne_u0_cA)
  have F_u1 := F_u1.other W_104 (Or.inl ne_u1_cA)
  have F_u2 := F_u2.other W_104 (Or.inl ne_u2_cA)
  have St_0 := St_0.keep (Keep.of_wr W_104) (Ow.nin1 ne_s0_cA) (Ow.nin1 ne_t0_cA)
  have St_1 := St_1.keep (Keep.of_wr W_104) (Ow.nin1 ne_s1_cA) (Ow.nin1 ne_t1_cA)
  have St_2 := St_2.keep (Keep.of_wr W_104) (Ow.nin1 ne_s2_cA) (Ow.nin1 ne_t2_cA)
  have B_va := B_va.other W_104 ne_va_cA
  have E_va := E_va.wr W_104
  have Cl := Cl.wr W_104
  have S := S.wr W_104
  have SV := SV.wr W_104
  have SU0 := SU0.wr W_104
  have SU1 := SU1.wr W_104
  have SU2 := SU2.wr W_104
  have S_tmp := S_cA
  have S_cA := D.safeWr W_104 S_tmp S_cA
  have D := D.wr W_104 S_tmp
  have F := F.wr W_104 (Or.inr l_cA)
  refine Ow.dup X hx (pc := 105) (hb hby at_105) rfl ?_
  refine Ow.bipush X hx (pc := 106) (10) (hb hby at_106) (by decide) ?_
  refine Ow.bipush X hx (pc := 108) (105) (hb hby at_108) (by decide) ?_
  refine Ow.castoreL X hx D.hZ eT B_cA 10 [_, _, _, _, _, _, _, _, _, _, _, _] (by decide) (by decide) rfl rfl (pc := 110) (hb hby at_110) ?_
  intro T h_110 X eT W_110 B_cA
  rw [show nar .char (105 : Int32) = 105 from by decide] at B_cA W_110
  have A_u0 := A_u0.wr W_110
  have A_u1 := A_u1.wr W_110
  have A_u2 := A_u2.wr W_110
  have F_u0 := F_u0.other W_110 (Or.inl ne_u0_cA)
  have F_u1 := F_u1.other W_110 (Or.inl ne_u1_cA)
  have F_u2 := F_u2.other W_110 (Or.inl ne_u2_cA)
  have St_0 := St_0.keep (Keep.of_wr W_110) (Ow.nin1 ne_s0_cA) (Ow.nin1 ne_t0_cA)
  have St_1 := St_1.keep (Keep.of_wr W_110) (Ow.nin1 ne_s1_cA) (Ow.nin1 ne_t1_cA)
  have St_2 := St_2.keep (Keep.of_wr W_110) (Ow.nin1 ne_s2_cA) (Ow.nin1 ne_t2_cA)
  have B_va := B_va.other W_110 ne_va_cA
  have E_va := E_va.wr W_110
  have Cl := Cl.wr W_110
  have S := S.wr W_110
  have SV := SV.wr W_110
  have SU0 := SU0.wr W_110
  have SU1 := SU1.wr W_110
  have SU2 := SU2.wr W_110
  have S_tmp := S_cA
  have S_cA := D.safeWr W_110 S_tmp S_cA
  have D := D.wr W_110 S_tmp
  have F := F.wr W_110 (Or.inr l_cA)
  refine Ow.dup X hx (pc := 111) (hb hby at_111) rfl ?_
  refine Ow.bipush X hx (pc := 112) (11) (hb hby at_112) (by decide) ?_
  refine Ow.bipush X hx (pc := 114) (110) (hb hby at_114) (by decide) ?_
  refine Ow.castoreL X hx D.hZ eT B_cA 11 [_, _, _, _, _, _, _, _, _, _, _, _] (by decide) (by decide) rfl rfl (pc := 116) (hb hby at_116) ?_
  intro T h_116 X eT W_116 B_cA
  rw [show nar .char (110 : Int32) = 110 from by decide] at B_cA W_116
  have A_u0 := A_u0.wr W_116
  have A_u1 := A_u1.wr W_116
  have A_u2 := A_u2.wr W_116
  have F_u0 := F_u0.other W_116 (Or.inl ne_u0_cA)
  have F_u1 := F_u1.other W_116 (Or.inl ne_u1_cA)
  have F_u2 := F_u2.other W_116 (Or.inl ne_u2_cA)
  have St_0 := St_0.keep (Keep.of_wr W_116) (Ow.nin1 ne_s0_cA) (Ow.nin1 ne_t0_cA)
  have St_1 := St_1.keep (Keep.of_wr W_116) (Ow.nin1 ne_s1_cA) (Ow.nin1 ne_t1_cA)
  have St_2 := St_2.keep (Keep.of_wr W_116) (Ow.nin1 ne_s2_cA) (Ow.nin1 ne_t2_cA)
  have B_va := B_va.other W_116 ne_va_cA
  have E_va := E_va.wr W_116
  have Cl := Cl.wr W_116
  have S := S.wr W_116
  have SV := SV.wr W_116
  have SU0 := SU0.wr W_116
  have SU1 := SU1.wr W_116
  have SU2 := SU2.wr W_116
  have S_tmp := S_cA
  have S_cA := D.safeWr W_116 S_tmp S_cA
  have D := D.wr W_116 S_tmp
  have F := F.wr W_116 (Or.inr l_cA)
  refine Ow.astoreN X hx (pc := 117) #[_, _, _, _, _, _] (hb hby at_117) rfl rfl ?_
  refine Ow.getstatic X hx D.hZ hown (ww hw 88 rfl) Via.refl eT SU1 (pc := 118) (hb hby at_118) ?_   -- "com/example/rowgate/rowgate/AccountRole" "GLOBAL_ADMIN" "Lcom/example/rowgate/rowgate/AccountRole;"
  intro T X eT
  refine Ow.astoreN X hx (pc := 121) #[_, _, _, _, _, _] (hb hby at_121) rfl rfl ?_
  refine Ow.goto X hx (pc := 122) (pc' := 153) (hb hby at_122) (by decide) (by decide) ?_
  refine Ow.new_ X hx D.hZ hown (ww hw 5 rfl) (ww hw 6 rfl) (ww hw 7 rfl) eT (pc := 153) (hb hby at_153) (by decide) (by decide) ?_
  intro T h_x x ha_x X eT E_x A_x D_x U_x
  have l_x : h0.size ≤ x := by rw [ha_x]; exact F.size
  have ne_u0_x : u0 ≠ x := by rw [ha_x]; exact Nat.ne_of_lt A_u0.lt
  have ne_u1_x : u1 ≠ x := by rw [ha_x]; exact Nat.ne_of_lt A_u1.lt
  have ne_u2_x : u2 ≠ x := by rw [ha_x]; exact Nat.ne_of_lt A_u2.lt
  have ne_s0_x : s0 ≠ x := by rw [ha_x]; exact Nat.ne_of_lt St_0.lt
  have ne_t0_x : t0 ≠ x := by rw [ha_x]; exact Nat.ne_of_lt St_0.ltB
  have ne_s1_x : s1 ≠ x := by rw [ha_x]; exact Nat.ne_of_lt St_1.lt
  have ne_t1_x : t1 ≠ x := by rw [ha_x]; exact Nat.ne_of_lt St_1.ltB
  have ne_s2_x : s2 ≠ x := by rw [ha_x]; exact Nat.ne_of_lt St_2.lt
  have ne_t2_x : t2 ≠ x := by rw [ha_x]; exact Nat.ne_of_lt St_2.ltB
  have ne_va_x : va ≠ x := by rw [ha_x]; exact Nat.ne_of_lt B_va.lt
  have ne_cA_x : cA ≠ x := by rw [ha_x]; exact Nat.ne_of_lt B_cA.lt
  have S_x := D.safeNew E_x
  rw [← ha_x] at S_x
  have A_u0 := A_u0.ext E_x
  have A_u1 := A_u1.ext E_x
  have A_u2 := A_u2.ext E_x
  have F_u0 := F_u0.ext E_x
  have F_u1 := F_u1.ext E_x
  have F_u2 := F_u2.ext E_x
  have St_0 := St_0.ext E_x
  have St_1 := St_1.ext E_x
  have St_2 := St_2.ext E_x
  have B_va := B_va.ext E_x
  have E_va := E_va.ext E_x
  have Cl := Cl.ext E_x
  have S := S.ext E_x
  have SV := SV.ext E_x
  have SU0 := SU0.ext E_x
  have SU1 := SU1.ext E_x
  have SU2 := SU2.ext E_x
  have B_cA := B_cA.ext E_x
  have S_cA := D.safeExt E_x S_cA
  have F := F.ext E_x
  have D := D.ext E_x
  have V0 := D_x (Or.inr (ww hw 33 rfl)) (ty := .array .byte) (by decide)
  have C0 := D_x (Or.inr (ww hw 31 rfl)) (ty := .byte) (by decide)
  refine Ow.dup X hx (pc := 156) (hb hby at_156) rfl ?_
  refine Ow.aloadN X hx (pc := 157) (hb hby at_157) rfl rfl ?_
  have H8 : ∀ c ∈ ([103, 108, 111, 98, 97, 108, 45, 97, 100, 109, 105, 110] : List Int32), ∃ k : Fin 256, c = Int32.ofNat k.val := by
    intro c hc
    simp only [List.mem_cons, List.not_mem_nil, or_false] at hc
    rcases hc with rfl | rfl | rfl | rfl | rfl | rfl | rfl | rfl | rfl | rfl | rfl | rfl
    · exact ⟨103, rfl⟩
    · exact ⟨108, rfl⟩
    · exact ⟨111, rfl⟩
    · exact ⟨98, rfl⟩
    · exact ⟨97, rfl⟩
    · exact ⟨108, rfl⟩
    · exact ⟨45, rfl⟩
    · exact ⟨97, rfl⟩
    · exact ⟨100, rfl⟩
    · exact ⟨109, rfl⟩
    · exact ⟨105, rfl⟩
    · exact ⟨110, rfl⟩
  have P_x := Ow.Exa.plain A_x
  refine strLat X hx D.hZ hw eT hown (ww hw 8 rfl) (cs := [103, 108, 111, 98, 97, 108, 45, 97, 100, 109, 105, 110]) A_x V0 C0 B_cA S hz 12 rfl (by decide) (by decide) H8 (by rw [hml]; rfl) (pc := 158) (hb hby at_158) rfl rfl (by decide) (by decide) ?_
  intro T L kx X F2 Stx
  have F := F.call F2 (fun y hy => by cases List.mem_singleton.mp hy; exact Or.inr l_x)
  have D := D.keep F2.1 (fun y hy => by cases List.mem_singleton.mp hy; exact S_x)
  have A_u0 := A_u0.keep F2.1
  have A_u1 := A_u1.keep F2.1
  have A_u2 := A_u2.keep F2.1
  have F_u0 := F_u0.keep F2.1 (Ow.nin1 ne_u0_x)
  have F_u1 := F_u1.keep F2.1 (Ow.nin1 ne_u1_x)
  have F_u2 := F_u2.keep F2.1 (Ow.nin1 ne_u2_x)
  have St_0 := St_0.keep F2.1 (Ow.nin1 ne_s0_x) (Ow.nin1 ne_t0_x)
  have St_1 := St_1.keep F2.1 (Ow.nin1 ne_s1_x) (Ow.nin1 ne_t1_x)
  have St_2 := St_2.keep F2.1 (Ow.nin1 ne_s2_x) (Ow.nin1 ne_t2_x)
  have B_va := B_va.keep F2.1 (Ow.nin1 ne_va_x)
  have E_va := E_va.keep F2.1
  have Cl := Cl.keep F2.1
  have S := Ow.staKeep S F2.1 (fun y hy => by cases List.mem_singleton.mp hy; exact P_x)
  have SV := Ow.staKeep SV F2.1 (fun y hy => by cases List.mem_singleton.mp hy; exact P_x)
  have SU0 := Ow.staKeep SU0 F2.1 (fun y hy => by cases List.mem_singleton.mp hy; exact P_x)
  have SU1 := Ow.staKeep SU1 F2.1 (fun y hy => by cases List.mem_singleton.mp hy; exact P_x)
  have SU2 := Ow.staKeep SU2 F2.1 (fun y hy => by cases List.mem_singleton.mp hy; exact P_x)
  obtain ⟨h_158, e_158⟩ : ∃ q, q = T.heap := ⟨_, rfl⟩
  rw [← e_158] at F D A_u0 A_u1 A_u2 F_u0 F_u1 F_u2 St_0 St_1 St_2 B_va E_va Cl S SV SU0 SU1 SU2 Stx
  have eT : T.heap = h_158 := e_158.symm
  refine Ow.astore X hx (pc := 161) #[_, _, _, _, _, _] (hb hby at_161) rfl rfl ?_
  refine Ow.aload X hx (pc := 163) (hb hby at_163) rfl rfl ?_
  refine Ow.callSW X hx (c_fn1 l Z a0 hw hEL _ z S hz u0 u1 u2 va kv SV B_va E_va s0 s1 s2 t0 t1 t2 k0 k1 k2 A_u0 F_u0 St_0 A_u1 F_u1 St_1 A_u2 F_u2 St_2 fa cK Lm Cl x _ kx _ Stx (by simp) ne_s0_x ne_s1_x ne_s2_x (by decide +kernel) (by decide +kernel)) eT D hEL (fun _ q => nomatch q) hown (ww hw 34 rfl) (ww hw 35 rfl) (ww hw 3 rfl) (ww hw 36 rfl) (by decide) pd7 (by rw [hml]; rfl) (argsL := [_]) rfl rfl rfl (pc := 165) (hb hby at_165) rfl rfl (by decide) (by decide) ?_
  rintro _ vm1 T L X ⟨rfl, F2⟩ D hown C1
  dsimp only [Option.toList_some, Option.toList_none, List.cons_append, List.nil_append]
  have F := F.call F2 (fun _ q => nomatch q)
  have A_u0 := A_u0.ext (Ow.Keep.ext0 F2.1)
  have A_u1 := A_u1.ext (Ow.Keep.ext0 F2.1)
  have A_u2 := A_u2.ext (Ow.Keep.ext0 F2.1)
  have F_u0 := F_u0.ext (Ow.Keep.ext0 F2.1)
  have F_u1 := F_u1.ext (Ow.Keep.ext0 F2.1)
  have F_u2 := F_u2.ext (Ow.Keep.ext0 F2.1)
  have St_0 := St_0.ext (Ow.Keep.ext0 F2.1)
  have St_1 := St_1.ext (Ow.Keep.ext0 F2.1)
  have St_2 := St_2.ext (Ow.Keep.ext0 F2.1)
  have B_va := B_va.ext (Ow.Keep.ext0 F2.1)
  have E_va := E_va.ext (Ow.Keep.ext0 F2.1)
  have Cl := Cl.ext (Ow.Keep.ext0 F2.1)
  have S := S.ext (Ow.Keep.ext0 F2.1)
  have SV := SV.ext (Ow.Keep.ext0 F2.1)
  have SU0 := SU0.ext (Ow.Keep.ext0 F2.1)
  have SU1 := SU1.ext (Ow.Keep.ext0 F2.1)
  have SU2 := SU2.ext (Ow.Keep.ext0 F2.1)
  have Stx := Stx.ext (Ow.Keep.ext0 F2.1)
  obtain ⟨h_165, e_165⟩ : ∃ q, q = T.heap := ⟨_, rfl⟩
  rw [← e_165] at F D A_u0 A_u1 A_u2 F_u0 F_u1 F_u2 St_0 St_1 St_2 B_va E_va Cl S SV SU0 SU1 SU2 Stx
  have eT : T.heap = h_165 := e_165.symm
  refine Ow.astore X hx (pc := 168) #[_, _, _, _, _, _] (hb hby at_168) rfl rfl ?_
  refine Ow.aload X hx (pc := 170) (hb hby at_170) rfl rfl ?_
  refine Ow.aloadN X hx (pc := 172) (hb hby at_172) rfl rfl ?_
  refine Ow.acmp_ne X hx (pc := 173) (pc' := 193) (hb hby at_173) rfl rfl (by decide) (by decide) (fun q => absurd rfl q) (fun h173 => ?_)
  refine Ow.aload X hx (pc := 176) (hb hby at_176) rfl rfl ?_
  refine Ow.callVP X hx D.hZ (c_gdn l Z a0 hw _ u1 s1 F_u1) rfl rfl eT hown (ww hw 85 rfl) (ww hw 67 rfl) (ww hw 68 rfl) (ww hw 69 rfl) (ww hw 3 rfl) (ww hw 70 rfl) (by decide) pd3 (by rw [hml]; rfl) A_u1 (argsL := []) rfl rfl rfl (pc := 178) (hb hby at_178) rfl rfl (by decide) (by decide) ?_   -- com/example/rowgate/rowgate/AccountRole.getDisplayName:()Ljava/lang/String;
  intro T X eT
  dsimp only [Option.toList_some, Option.toList_none, List.cons_append, List.nil_append]
  refine Ow.aload X hx (pc := 181) (hb hby at_181) rfl rfl ?_
  refine Ow.callVP X hx D.hZ (c_seq l Z a0 hw _ z s1 x t1 _ k1 kx [103, 108, 111, 98, 97, 108, 45, 97, 100, 109, 105, 110] _ S hz St_1 Stx ne_s1_x (by decide) (by simp)) rfl rfl eT hown (ww hw 86 rfl) (ww hw 75 rfl) (ww hw 77 rfl) (ww hw 76 rfl) (ww hw 7 rfl) (ww hw 78 rfl) (by decide) pd4 (by rw [hml]; rfl) St_1.1 (argsL := [_]) rfl rfl rfl (pc := 183) (hb hby at_183) rfl rfl (by decide) (by decide) ?_   -- java/lang/String.equals:(Ljava/lang/Object;)Z
  intro T X eT
  dsimp only [Option.toList_some, Option.toList_none, List.cons_append, List.nil_append]
  rw [show own_eqv [103, 108, 111, 98, 97, 108, 45, 97, 100, 109, 105, 110] (List.map (fun c : Int32 => c.toInt8.toInt32) ([103, 108, 111, 98, 97, 108, 45, 97, 100, 109, 105, 110] : List Int32)) = 1 from by decide +kernel]
  refine Ow.if_eq X hx (pc := 186) (pc' := 193) (hb hby at_186) (by decide) (by decide) (fun q => absurd q (by decide)) (fun h186 => ?_)
  refine Ow.iconst X hx (pc := 189) (1) (hb hby at_189) (by decide) ?_
  refine Ow.goto X hx (pc := 190) (pc' := 194) (hb hby at_190) (by decide) (by decide) ?_
  exact Ow.nreturnW X hx eT D hEL hlk hret (Or.inl rfl) (hb hby at_194) ⟨rfl, by rw [eT]; exact F⟩ (by decide) (by decide)
set_option maxRecDepth 65536 in
set_option maxHeartbeats 40000000 in
theorem law_2 (l : Launch) (Z : State) (a0 : Array Value) (hw : ∀ d ∈ tables_1, d.before a0 Z = true) (hEL : EW Z a0 EL) (h0 : Heap) (z p0 : Int32) (S : Sta Z h0 "java/lang/String" "COMPACT_STRINGS" "Z" (.int z)) (hz : ¬ z = 0) (u0 u1 u2 va : Addr) (kv : ClassId) (SV : Sta Z h0 "com/example/rowgate/rowgate/AccountRole" "$VALUES" "[Lcom/example/rowgate/rowgate/AccountRole;" (.ref va)) (B_va : Ow.AL Z h0 va kv (.object "com/example/rowgate/rowgate/AccountRole") [.ref u0, .ref u1, .ref u2]) (E_va : Exa Z h0 va "[Lcom/example/rowgate/rowgate/AccountRole;") (s0 s1 s2 t0 t1 t2 : Addr) (k0 k1 k2 : ClassId) (A_u0 : Exa Z h0 u0 "com/example/rowgate/rowgate/AccountRole") (F_u0 : Fld Z h0 u0 "com/example/rowgate/rowgate/AccountRole" "displayName" "Ljava/lang/String;" (.ref s0)) (St_0 : Ow.Str Z h0 s0 t0 k0 [117, 115, 101, 114]) (A_u1 : Exa Z h0 u1 "com/example/rowgate/rowgate/AccountRole") (F_u1 : Fld Z h0 u1 "com/example/rowgate/rowgate/AccountRole" "displayName" "Ljava/lang/String;" (.ref s1)) (St_1 : Ow.Str Z h0 s1 t1 k1 [103, 108, 111, 98, 97, 108, 45, 97, 100, 109, 105, 110]) (A_u2 : Exa Z h0 u2 "com/example/rowgate/rowgate/AccountRole") (F_u2 : Fld Z h0 u2 "com/example/rowgate/rowgate/AccountRole" "displayName" "Ljava/lang/String;" (.ref s2)) (St_2 : Ow.Str Z h0 s2 t2 k2 [110, 111, 110, 101]) (fa : Addr) (cK : ClassId) (Lm : Ow.Lam Z (⟨"com/example/rowgate/rowgate/AccountRole", "fromName", "(Ljava/lang/String;)Lcom/example/rowgate/rowgate/AccountRole;"⟩ : MethodName) 3 own_sg fa cK) (Cl : Ow.Cel h0 fa cK) (SU0 : Sta Z h0 "com/example/rowgate/rowgate/AccountRole" "USER" "Lcom/example/rowgate/rowgate/AccountRole;" (.ref u0)) (SU1 : Sta Z h0 "com/example/rowgate/rowgate/AccountRole" "GLOBAL_ADMIN" "Lcom/example/rowgate/rowgate/AccountRole;" (.ref u1)) (SU2 : Sta Z h0 "com/example/rowgate/rowgate/AccountRole" "NONE" "Lcom/example/rowgate/rowgate/AccountRole;" (.ref u2)) (hlen : (p0 &&& 2147483647) % 3 = 2) : Ow.PayW l Z EL [] x code maxLocals ret room_1 #[(.int p0)] h0 (fun v h L => v = some (.int 1) ∧ Ow.Eff h0 h [] L) := by
  refine Ow.PayW.of (Ls := #[.val (.int p0), .unset, .unset, .unset, .unset, .unset]) (plainFor_of_name pn4) (fun m => by first | rfl | (simp [entryFrame, mkF, argsToLocals, Value.category, maxLocals]; done)) ?_
  intro p e s m below meth c T vm0 hx hby hml hown hnm hme hret hlk X eT D hsf
  have F := Ow.Eff.refl h0 []
  have hy5 : (3 : Int32) ≠ 0 := by decide
  refine Ow.iloadN X hx (pc := 0) (hb hby at_0) rfl ?_
  refine Ow.ldcI X hx (pc := 1) (2147483647) (hb hby at_1) hown (mvT D.hZ (ww hw 0 rfl)) ?_
  refine Ow.iand X hx (pc := 3) (hb hby at_3) ?_
  refine Ow.iconst X hx (pc := 4) (3) (hb hby at_4) (by decide) ?_
  refine Ow.irem X hx (pc := 5) (hb hby at_5) hy5 ?_
  rw [hlen]
  refine Ow.istoreN X hx (pc := 6) #[_, _, _, _, _, _] (hb hby at_6) rfl ?_
  refine Ow.iloadN X hx (pc := 7) (hb hby at_7) rfl ?_
  refine Ow.if_ne X hx (pc := 8) (pc' := 42) (hb hby at_8) (by decide) (by decide) (fun h8 => ?_) (fun q => absurd q (by decide))
  refine Ow.iloadN X hx (pc := 42) (hb hby at_42) rfl ?_
  refine Ow.iconst X hx (pc := 43) (1) (hb hby at_43) (by decide) ?_
  refine Ow.icmp_ne X hx (pc := 44) (pc' := 125) (hb hby at_44) (by decide) (by decide) (fun h44 => ?_) (fun q => absurd q (by decide))
  refine Ow.iconst X hx (pc := 125) (4) (hb hby at_125) (by decide) ?_
  refine Ow.newarrayL X hx D.hZ (ww hw 1 rfl) eT 4 (vs := [_, _, _, _]) rfl (pc := 126) (hb hby at_126) (by decide) (by decide) (by decide) (by decide) (by decide) ?_
  intro T h_cA k_cA cA ha_cA X eT E_cA B_cA
  have l_cA : h0.size ≤ cA := by rw [ha_cA]; exact F.size
  have ne_u0_cA : u0 ≠ cA := by rw [ha_cA]; exact Nat.ne_of_lt A_u0.lt
  have ne_u1_cA : u1 ≠ cA := by rw [ha_cA]; exact Nat.ne_of_lt A_u1.lt
  have ne_u2_cA : u2 ≠ cA := by rw [ha_cA]; exact Nat.ne_of_lt A_u2.lt
  have ne_s0_cA : s0 ≠ cA := by rw [ha_cA]; exact Nat.ne_of_lt St_0.lt
  have ne_t0_cA : t0 ≠ cA := by rw [ha_cA]; exact Nat.ne_of_lt St_0.ltB
  have ne_s1_cA : s1 ≠ cA := by rw [ha_cA]; exact Nat.ne_of_lt St_1.lt
  have ne_t1_cA : t1 ≠ cA := by rw [ha_cA]; exact Nat.ne_of_lt St_1.ltB
  have ne_s2_cA : s2 ≠ cA := by rw [ha_cA]; exact Nat.ne_of_lt St_2.lt
  have ne_t2_cA : t2 ≠ cA := by rw [ha_cA]; exact Nat.ne_of_lt St_2.ltB
  have ne_va_cA : va ≠ cA := by rw [ha_cA]; exact Nat.ne_of_lt B_va.lt
  have S_cA := D.safeNew E_cA
  rw [← ha_cA] at S_cA
  have A_u0 := A_u0.ext E_cA
  have A_u1 := A_u1.ext E_cA
  have A_u2 := A_u2.ext E_cA
  have F_u0 := F_u0.ext E_cA
  have F_u1 := F_u1.ext E_cA
  have F_u2 := F_u2.ext E_cA
  have St_0 := St_0.ext E_cA
  have St_1 := St_1.ext E_cA
  have St_2 := St_2.ext E_cA
  have B_va := B_va.ext E_cA
  have E_va := E_va.ext E_cA
  have Cl := Cl.ext E_cA
  have S := S.ext E_cA
  have SV := SV.ext E_cA
  have SU0 := SU0.ext E_cA
  have SU1 := SU1.ext E_cA
  have SU2 := SU2.ext E_cA
  have F := F.ext E_cA
  have D := D.ext E_cA
  refine Ow.dup X hx (pc := 128) (hb hby at_128) rfl ?_
  refine Ow.iconst X hx (pc := 129) (0) (hb hby at_129) (by decide) ?_
  refine Ow.bipush X hx (pc := 130) (110) (hb hby at_130) (by decide) ?_
  refine Ow.castoreL X hx D.hZ eT B_cA 0 [_, _, _, _] (by decide) (by decide) rfl rfl (pc := 132) (hb hby at_132) ?_
  intro T h_132 X eT W_132 B_cA
  rw [show nar .char (110 : Int32) = 110 from by decide] at B_cA W_132
  have A_u0 := A_u0.wr W_132
  have A_u1 := A_u1.wr W_132
  have A_u2 := A_u2.wr W_132
  have F_u0 := F_u0.other W_132 (Or.inl ne_u0_cA)
  have F_u1 := F_u1.other W_132 (Or.inl ne_u1_cA)
  have F_u2 := F_u2.other W_132 (Or.inl ne_u2_cA)
  have St_0 := St_0.keep (Keep.of_wr W_132) (Ow.nin1 ne_s0_cA) (Ow.nin1 ne_t0_cA)
  have St_1 := St_1.keep (Keep.of_wr W_132) (Ow.nin1 ne_s1_cA) (Ow.nin1 ne_t1_cA)
  have St_2 := St_2.keep (Keep.of_wr W_132) (Ow.nin1 ne_s2_cA) (Ow.nin1 ne_t2_cA)
  have B_va := B_va.other W_132 ne_va_cA
  have E_va := E_va.wr W_132
  have Cl := Cl.wr W_132
  have S := S.wr W_132
  have SV := SV.wr W_132
  have SU0 := SU0.wr W_132
  have SU1 := SU1.wr W_132
  have SU2 := SU2.wr W_132
  have S_tmp := S_cA
  have S_cA := D.safeWr W_132 S_tmp S_cA
  have D := D.wr W_132 S_tmp
  have F := F.wr W_132 (Or.inr l_cA)
  refine Ow.dup X hx (pc := 133) (hb hby at_133) rfl ?_
  refine Ow.iconst X hx (pc := 134) (1) (hb hby at_134) (by decide) ?_
  refine Ow.bipush X hx (pc := 135) (111) (hb hby at_135) (by decide) ?_
  refine Ow.castoreL X hx D.hZ eT B_cA 1 [_, _, _, _] (by decide) (by decide) rfl rfl (pc := 137) (hb hby at_137) ?_
  intro T h_137 X eT W_137 B_cA
  rw [show nar .char (111 : Int32) = 111 from by decide] at B_cA W_137
  have A_u0 := A_u0.wr W_137
  have A_u1 := A_u1.wr W_137
  have A_u2 := A_u2.wr W_137
  have F_u0 := F_u0.other W_137 (Or.inl ne_u0_cA)
  have F_u1 := F_u1.other W_137 (Or.inl ne_u1_cA)
  have F_u2 := F_u2.other W_137 (Or.inl ne_u2_cA)
  have St_0 := St_0.keep (Keep.of_wr W_137) (Ow.nin1 ne_s0_cA) (Ow.nin1 ne_t0_cA)
  have St_1 := St_1.keep (Keep.of_wr W_137) (Ow.nin1 ne_s1_cA) (Ow.nin1 ne_t1_cA)
  have St_2 := St_2.keep (Keep.of_wr W_137) (Ow.nin1 ne_s2_cA) (Ow.nin1 ne_t2_cA)
  have B_va := B_va.other W_137 ne_va_cA
  have E_va := E_va.wr W_137
  have Cl := Cl.wr W_137
  have S := S.wr W_137
  have SV := SV.wr W_137
  have SU0 := SU0.wr W_137
  have SU1 := SU1.wr W_137
  have SU2 := SU2.wr W_137
  have S_tmp := S_cA
  have S_cA := D.safeWr W_137 S_tmp S_cA
  have D := D.wr W_137 S_tmp
  have F := F.wr W_137 (Or.inr l_cA)
  refine Ow.dup X hx (pc := 138) (hb hby at_138) rfl ?_
  refine Ow.iconst X hx (pc := 139) (2) (hb hby at_139) (by decide) ?_
  refine Ow.bipush X hx (pc := 140) (110) (hb hby at_140) (by decide) ?_
  refine Ow.castoreL X hx D.hZ eT B_cA 2 [_, _, _, _] (by decide) (by decide) rfl rfl (pc := 142) (hb hby at_142) ?_
  intro T h_142 X eT W_142 B_cA
  rw [show nar .char (110 : Int32) = 110 from by decide] at B_cA W_142
  have A_u0 := A_u0.wr W_142
  have A_u1 := A_u1.wr W_142
  have A_u2 := A_u2.wr W_142
  have F_u0 := F_u0.other W_142 (Or.inl ne_u0_cA)
  have F_u1 := F_u1.other W_142 (Or.inl ne_u1_cA)
  have F_u2 := F_u2.other W_142 (Or.inl ne_u2_cA)
  have St_0 := St_0.keep (Keep.of_wr W_142) (Ow.nin1 ne_s0_cA) (Ow.nin1 ne_t0_cA)
  have St_1 := St_1.keep (Keep.of_wr W_142) (Ow.nin1 ne_s1_cA) (Ow.nin1 ne_t1_cA)
  have St_2 := St_2.keep (Keep.of_wr W_142) (Ow.nin1 ne_s2_cA) (Ow.nin1 ne_t2_cA)
  have B_va := B_va.other W_142 ne_va_cA
  have E_va := E_va.wr W_142
  have Cl := Cl.wr W_142
  have S := S.wr W_142
  have SV := SV.wr W_142
  have SU0 := SU0.wr W_142
  have SU1 := SU1.wr W_142
  have SU2 := SU2.wr W_142
  have S_tmp := S_cA
  have S_cA := D.safeWr W_142 S_tmp S_cA
  have D := D.wr W_142 S_tmp
  have F := F.wr W_142 (Or.inr l_cA)
  refine Ow.dup X hx (pc := 143) (hb hby at_143) rfl ?_
  refine Ow.iconst X hx (pc := 144) (3) (hb hby at_144) (by decide) ?_
  refine Ow.bipush X hx (pc := 145) (101) (hb hby at_145) (by decide) ?_
  refine Ow.castoreL X hx D.hZ eT B_cA 3 [_, _, _, _] (by decide) (by decide) rfl rfl (pc := 147) (hb hby at_147) ?_
  intro T h_147 X eT W_147 B_cA
  rw [show nar .char (101 : Int32) = 101 from by decide] at B_cA W_147
  have A_u0 := A_u0.wr W_147
  have A_u1 := A_u1.wr W_147
  have A_u2 := A_u2.wr W_147
  have F_u0 := F_u0.other W_147 (Or.inl ne_u0_cA)
  have F_u1 := F_u1.other W_147 (Or.inl ne_u1_cA)
  have F_u2 := F_u2.other W_147 (Or.inl ne_u2_cA)
  have St_0 := St_0.keep (Keep.of_wr W_147) (Ow.nin1 ne_s0_cA) (Ow.nin1 ne_t0_cA)
  have St_1 := St_1.keep (Keep.of_wr W_147) (Ow.nin1 ne_s1_cA) (Ow.nin1 ne_t1_cA)
  have St_2 := St_2.keep (Keep.of_wr W_147) (Ow.nin1 ne_s2_cA) (Ow.nin1 ne_t2_cA)
  have B_va := B_va.other W_147 ne_va_cA
  have E_va := E_va.wr W_147
  have Cl := Cl.wr W_147
  have S := S.wr W_147
  have SV := SV.wr W_147
  have SU0 := SU0.wr W_147
  have SU1 := SU1.wr W_147
  have SU2 := SU2.wr W_147
  have S_tmp := S_cA
  have S_cA := D.safeWr W_147 S_tmp S_cA
  have D := D.wr W_147 S_tmp
  have F := F.wr W_147 (Or.inr l_cA)
  refine Ow.astoreN X hx (pc := 148) #[_, _, _, _, _, _] (hb hby at_148) rfl rfl ?_
  refine Ow.getstatic X hx D.hZ hown (ww hw 87 rfl) Via.refl eT SU2 (pc := 149) (hb hby at_149) ?_   -- "com/example/rowgate/rowgate/AccountRole" "NONE" "Lcom/example/rowgate/rowgate/AccountRole;"
  intro T X eT
  refine Ow.astoreN X hx (pc := 152) #[_, _, _, _, _, _] (hb hby at_152) rfl rfl ?_
  refine Ow.new_ X hx D.hZ hown (ww hw 5 rfl) (ww hw 6 rfl) (ww hw 7 rfl) eT (pc := 153) (hb hby at_153) (by decide) (by decide) ?_
  intro T h_x x ha_x X eT E_x A_x D_x U_x
  have l_x : h0.size ≤ x := by rw [ha_x]; exact F.size
  have ne_u0_x : u0 ≠ x := by rw [ha_x]; exact Nat.ne_of_lt A_u0.lt
  have ne_u1_x : u1 ≠ x := by rw [ha_x]; exact Nat.ne_of_lt A_u1.lt
  have ne_u2_x : u2 ≠ x := by rw [ha_x]; exact Nat.ne_of_lt A_u2.lt
  have ne_s0_x : s0 ≠ x := by rw [ha_x]; exact Nat.ne_of_lt St_0.lt
  have ne_t0_x : t0 ≠ x := by rw [ha_x]; exact Nat.ne_of_lt St_0.ltB
  have ne_s1_x : s1 ≠ x := by rw [ha_x]; exact Nat.ne_of_lt St_1.lt
  have ne_t1_x : t1 ≠ x := by rw [ha_x]; exact Nat.ne_of_lt St_1.ltB
  have ne_s2_x : s2 ≠ x := by rw [ha_x]; exact Nat.ne_of_lt St_2.lt
  have ne_t2_x : t2 ≠ x := by rw [ha_x]; exact Nat.ne_of_lt St_2.ltB
  have ne_va_x : va ≠ x := by rw [ha_x]; exact Nat.ne_of_lt B_va.lt
  have ne_cA_x : cA ≠ x := by rw [ha_x]; exact Nat.ne_of_lt B_cA.lt
  have S_x := D.safeNew E_x
  rw [← ha_x] at S_x
  have A_u0 := A_u0.ext E_x
  have A_u1 := A_u1.ext E_x
  have A_u2 := A_u2.ext E_x
  have F_u0 := F_u0.ext E_x
  have F_u1 := F_u1.ext E_x
  have F_u2 := F_u2.ext E_x
  have St_0 := St_0.ext E_x
  have St_1 := St_1.ext E_x
  have St_2 := St_2.ext E_x
  have B_va := B_va.ext E_x
  have E_va := E_va.ext E_x
  have Cl := Cl.ext E_x
  have S := S.ext E_x
  have SV := SV.ext E_x
  have SU0 := SU0.ext E_x
  have SU1 := SU1.ext E_x
  have SU2 := SU2.ext E_x
  have B_cA := B_cA.ext E_x
  have S_cA := D.safeExt E_x S_cA
  have F := F.ext E_x
  have D := D.ext E_x
  have V0 := D_x (Or.inr (ww hw 33 rfl)) (ty := .array .byte) (by decide)
  have C0 := D_x (Or.inr (ww hw 31 rfl)) (ty := .byte) (by decide)
  refine Ow.dup X hx (pc := 156) (hb hby at_156) rfl ?_
  refine Ow.aloadN X hx (pc := 157) (hb hby at_157) rfl rfl ?_
  have H8 : ∀ c ∈ ([110, 111, 110, 101] : List Int32), ∃ k : Fin 256, c = Int32.ofNat k.val := by
    intro c hc
    simp only [List.mem_cons, List.not_mem_nil, or_false] at hc
    rcases hc with rfl | rfl | rfl | rfl
    · exact ⟨110, rfl⟩
    · exact ⟨111, rfl⟩
    · exact ⟨110, rfl⟩
    · exact ⟨101, rfl⟩
  have P_x := Ow.Exa.plain A_x
  refine strLat X hx D.hZ hw eT hown (ww hw 8 rfl) (cs := [110, 111, 110, 101]) A_x V0 C0 B_cA S hz 4 rfl (by decide) (by decide) H8 (by rw [hml]; rfl) (pc := 158) (hb hby at_158) rfl rfl (by decide) (by decide) ?_
  intro T L kx X F2 Stx
  have F := F.call F2 (fun y hy => by cases List.mem_singleton.mp hy; exact Or.inr l_x)
  have D := D.keep F2.1 (fun y hy => by cases List.mem_singleton.mp hy; exact S_x)
  have A_u0 := A_u0.keep F2.1
  have A_u1 := A_u1.keep F2.1
  have A_u2 := A_u2.keep F2.1
  have F_u0 := F_u0.keep F2.1 (Ow.nin1 ne_u0_x)
  have F_u1 := F_u1.keep F2.1 (Ow.nin1 ne_u1_x)
  have F_u2 := F_u2.keep F2.1 (Ow.nin1 ne_u2_x)
  have St_0 := St_0.keep F2.1 (Ow.nin1 ne_s0_x) (Ow.nin1 ne_t0_x)
  have St_1 := St_1.keep F2.1 (Ow.nin1 ne_s1_x) (Ow.nin1 ne_t1_x)
  have St_2 := St_2.keep F2.1 (Ow.nin1 ne_s2_x) (Ow.nin1 ne_t2_x)
  have B_va := B_va.keep F2.1 (Ow.nin1 ne_va_x)
  have E_va := E_va.keep F2.1
  have Cl := Cl.keep F2.1
  have S := Ow.staKeep S F2.1 (fun y hy => by cases List.mem_singleton.mp hy; exact P_x)
  have SV := Ow.staKeep SV F2.1 (fun y hy => by cases List.mem_singleton.mp hy; exact P_x)
  have SU0 := Ow.staKeep SU0 F2.1 (fun y hy => by cases List.mem_singleton.mp hy; exact P_x)
  have SU1 := Ow.staKeep SU1 F2.1 (fun y hy => by cases List.mem_singleton.mp hy; exact P_x)
  have SU2 := Ow.staKeep SU2 F2.1 (fun y hy => by cases List.mem_singleton.mp hy; exact P_x)
  obtain ⟨h_158, e_158⟩ : ∃ q, q = T.heap := ⟨_, rfl⟩
  rw [← e_158] at F D A_u0 A_u1 A_u2 F_u0 F_u1 F_u2 St_0 St_1 St_2 B_va E_va Cl S SV SU0 SU1 SU2 Stx
  have eT : T.heap = h_158 := e_158.symm
  refine Ow.astore X hx (pc := 161) #[_, _, _, _, _, _] (hb hby at_161) rfl rfl ?_
  refine Ow.aload X hx (pc := 163) (hb hby at_163) rfl rfl ?_
  refine Ow.callSW X hx (c_fn2 l Z a0 hw hEL _ z S hz u0 u1 u2 va kv SV B_va E_va s0 s1 s2 t0 t1 t2 k0 k1 k2 A_u0 F_u0 St_0 A_u1 F_u1 St_1 A_u2 F_u2 St_2 fa cK Lm Cl x _ kx _ Stx (by simp) ne_s0_x ne_s1_x ne_s2_x (by decide +kernel) (by decide +kernel) (by decide +kernel)) eT D hEL (fun _ q => nomatch q) hown (ww hw 34 rfl) (ww hw 35 rfl) (ww hw 3 rfl) (ww hw 36 rfl) (by decide) pd7 (by rw [hml]; rfl) (argsL := [_]) rfl rfl rfl (pc := 165) (hb hby at_165) rfl rfl (by decide) (by decide) ?_
  rintro _ vm1 T L X ⟨rfl, F2⟩ D hown C1
  dsimp only [Option.toList_some, Option.toList_none, List.cons_append, List.nil_append]
  have F := F.call F2 (fun _ q => nomatch q)
  have A_u0 := A_u0.ext (Ow.Keep.ext0 F2.1)
  have A_u1 := A_u1.ext (Ow.Keep.ext0 F2.1)
  have A_u2 := A_u2.ext (Ow.Keep.ext0 F2.1)
  have F_u0 := F_u0.ext (Ow.Keep.ext0 F2.1)
  have F_u1 := F_u1.ext (Ow.Keep.ext0 F2.1)
  have F_u2 := F_u2.ext (Ow.Keep.ext0 F2.1)
  have St_0 := St_0.ext (Ow.Keep.ext0 F2.1)
  have St_1 := St_1.ext (Ow.Keep.ext0 F2.1)
  have St_2 := St_2.ext (Ow.Keep.ext0 F2.1)
  have B_va := B_va.ext (Ow.Keep.ext0 F2.1)
  have E_va := E_va.ext (Ow.Keep.ext0 F2.1)
  have Cl := Cl.ext (Ow.Keep.ext0 F2.1)
  have S := S.ext (Ow.Keep.ext0 F2.1)
  have SV := SV.ext (Ow.Keep.ext0 F2.1)
  have SU0 := SU0.ext (Ow.Keep.ext0 F2.1)
  have SU1 := SU1.ext (Ow.Keep.ext0 F2.1)
  have SU2 := SU2.ext (Ow.Keep.ext0 F2.1)
  have Stx := Stx.ext (Ow.Keep.ext0 F2.1)
  obtain ⟨h_165, e_165⟩ : ∃ q, q = T.heap := ⟨_, rfl⟩
  rw [← e_165] at F D A_u0 A_u1 A_u2 F_u0 F_u1 F_u2 St_0 St_1 St_2 B_va E_va Cl S SV SU0 SU1 SU2 Stx
  have eT : T.heap = h_165 := e_165.symm
  refine Ow.astore X hx (pc := 168) #[_, _, _, _, _, _] (hb hby at_168) rfl rfl ?_
  refine Ow.aload X hx (pc := 170) (hb hby at_170) rfl rfl ?_
  refine Ow.aloadN X hx (pc := 172) (hb hby at_172) rfl rfl ?_
  refine Ow.acmp_ne X hx (pc := 173) (pc' := 193) (hb hby at_173) rfl rfl (by decide) (by decide) (fun q => absurd rfl q) (fun h173 => ?_)
  refine Ow.aload X hx (pc := 176) (hb hby at_176) rfl rfl ?_
  refine Ow.callVP X hx D.hZ (c_gdn l Z a0 hw _ u2 s2 F_u2) rfl rfl eT hown (ww hw 85 rfl) (ww hw 67 rfl) (ww hw 68 rfl) (ww hw 69 rfl) (ww hw 3 rfl) (ww hw 70 rfl) (by decide) pd3 (by rw [hml]; rfl) A_u2 (argsL := []) rfl rfl rfl (pc := 178) (hb hby at_178) rfl rfl (by decide) (by decide) ?_   -- com/example/rowgate/rowgate/AccountRole.getDisplayName:()Ljava/lang/String;
  intro T X eT
  dsimp only [Option.toList_some, Option.toList_none, List.cons_append, List.nil_append]
  refine Ow.aload X hx (pc := 181) (hb hby at_181) rfl rfl ?_
  refine Ow.callVP X hx D.hZ (c_seq l Z a0 hw _ z s2 x t2 _ k2 kx [110, 111, 110, 101] _ S hz St_2 Stx ne_s2_x (by decide) (by simp)) rfl rfl eT hown (ww hw 86 rfl) (ww hw 75 rfl) (ww hw 77 rfl) (ww hw 76 rfl) (ww hw 7 rfl) (ww hw 78 rfl) (by decide) pd4 (by rw [hml]; rfl) St_2.1 (argsL := [_]) rfl rfl rfl (pc := 183) (hb hby at_183) rfl rfl (by decide) (by decide) ?_   -- java/lang/String.equals:(Ljava/lang/Object;)Z
  intro T X eT
  dsimp only [Option.toList_some, Option.toList_none, List.cons_append, List.nil_append]
  rw [show own_eqv [110, 111, 110, 101] (List.map (fun c : Int32 => c.toInt8.toInt32) ([110, 111, 110, 101] : List Int32)) = 1 from by decide +kernel]
  refine Ow.if_eq X hx (pc := 186) (pc' := 193) (hb hby at_186) (by decide) (by decide) (fun q => absurd q (by decide)) (fun h186 => ?_)
  refine Ow.iconst X hx (pc := 189) (1) (hb hby at_189) (by decide) ?_
  refine Ow.goto X hx (pc := 190) (pc' := 194) (hb hby at_190) (by decide) (by decide) ?_
  exact Ow.nreturnW X hx eT D hEL hlk hret (Or.inl rfl) (hb hby at_194) ⟨rfl, by rw [eT]; exact F⟩ (by decide) (by decide)
theorem law_w (l : Launch) (Z : State) (a0 : Array Value) (hw : ∀ d ∈ tables_1, d.before a0 Z = true) (hEL : EW Z a0 EL) (h0 : Heap) (z p0 : Int32) (S : Sta Z h0 "java/lang/String" "COMPACT_STRINGS" "Z" (.int z)) (hz : ¬ z = 0) (u0 u1 u2 va : Addr) (kv : ClassId) (SV : Sta Z h0 "com/example/rowgate/rowgate/AccountRole" "$VALUES" "[Lcom/example/rowgate/rowgate/AccountRole;" (.ref va)) (B_va : Ow.AL Z h0 va kv (.object "com/example/rowgate/rowgate/AccountRole") [.ref u0, .ref u1, .ref u2]) (E_va : Exa Z h0 va "[Lcom/example/rowgate/rowgate/AccountRole;") (s0 s1 s2 t0 t1 t2 : Addr) (k0 k1 k2 : ClassId) (A_u0 : Exa Z h0 u0 "com/example/rowgate/rowgate/AccountRole") (F_u0 : Fld Z h0 u0 "com/example/rowgate/rowgate/AccountRole" "displayName" "Ljava/lang/String;" (.ref s0)) (St_0 : Ow.Str Z h0 s0 t0 k0 [117, 115, 101, 114]) (A_u1 : Exa Z h0 u1 "com/example/rowgate/rowgate/AccountRole") (F_u1 : Fld Z h0 u1 "com/example/rowgate/rowgate/AccountRole" "displayName" "Ljava/lang/String;" (.ref s1)) (St_1 : Ow.Str Z h0 s1 t1 k1 [103, 108, 111, 98, 97, 108, 45, 97, 100, 109, 105, 110]) (A_u2 : Exa Z h0 u2 "com/example/rowgate/rowgate/AccountRole") (F_u2 : Fld Z h0 u2 "com/example/rowgate/rowgate/AccountRole" "displayName" "Ljava/lang/String;" (.ref s2)) (St_2 : Ow.Str Z h0 s2 t2 k2 [110, 111, 110, 101]) (fa : Addr) (cK : ClassId) (Lm : Ow.Lam Z (⟨"com/example/rowgate/rowgate/AccountRole", "fromName", "(Ljava/lang/String;)Lcom/example/rowgate/rowgate/AccountRole;"⟩ : MethodName) 3 own_sg fa cK) (Cl : Ow.Cel h0 fa cK) (SU0 : Sta Z h0 "com/example/rowgate/rowgate/AccountRole" "USER" "Lcom/example/rowgate/rowgate/AccountRole;" (.ref u0)) (SU1 : Sta Z h0 "com/example/rowgate/rowgate/AccountRole" "GLOBAL_ADMIN" "Lcom/example/rowgate/rowgate/AccountRole;" (.ref u1)) (SU2 : Sta Z h0 "com/example/rowgate/rowgate/AccountRole" "NONE" "Lcom/example/rowgate/rowgate/AccountRole;" (.ref u2)) : Ow.PayW l Z EL [] x code maxLocals ret room_1 #[(.int p0)] h0 (fun v h L => v = some (.int 1) ∧ Ow.Eff h0 h [] L) := by
  obtain ⟨n, hn4, hlen⟩ := own_len3 p0
  have h3 : n = 0 ∨ n = 1 ∨ n = 2 := by omega
  rcases h3 with rfl | rfl | rfl
  · exact law_0 l Z a0 hw hEL h0 z p0 S hz u0 u1 u2 va kv SV B_va E_va s0 s1 s2 t0 t1 t2 k0 k1 k2 A_u0 F_u0 St_0 A_u1 F_u1 St_1 A_u2 F_u2 St_2 fa cK Lm Cl SU0 SU1 SU2 hlen
  · exact law_1 l Z a0 hw hEL h0 z p0 S hz u0 u1 u2 va kv SV B_va E_va s0 s1 s2 t0 t1 t2 k0 k1 k2 A_u0 F_u0 St_0 A_u1 F_u1 St_1 A_u2 F_u2 St_2 fa cK Lm Cl SU0 SU1 SU2 hlen
  · exact law_2 l Z a0 hw hEL h0 z p0 S hz u0 u1 u2 va kv SV B_va E_va s0 s1 s2 t0 t1 t2 k0 k1 k2 A_u0 F_u0 St_0 A_u1 F_u1 St_1 A_u2 F_u2 St_2 fa cK Lm Cl SU0 SU1 SU2 hlen
set_option maxRecDepth 65536 in
set_option maxHeartbeats 40000000 in
theorem comes_1 {Post : Tables → Env → Array Value → State → Outcome → State → Prop} (hpost : ∀ tb e args s v u, (limb_1_1.after args s (.returned v) u = true ∧ limb_1_2.after args s (.returned v) u = true ∧ True) → ReturnedEndW s (.returned v) u (Jvm.fieldLocs frame_1_writes args s ++ Jvm.arrayLocs frame_1_arrays args s ++ Jvm.staticLocs frame_1_statics s) 24 1216 → Post tb e args s (.returned v) u) :
    ArmFor flags0 classFile x code maxLocals ret World_1 tables_1 room_1 Calls_1 rest_1 Pre_1 Post := by
  intro l hfl _ _ p e ha hc hk s m args below hf hA hF happ hP
  obtain ⟨hcalls, hrest, hpre⟩ := hP
  obtain ⟨-, -, -, hnamed, -, -, -, hat⟩ := (Spec.applies_iff hf).mp happ
  obtain ⟨hg, hnar⟩ := and_e (Cond.before_iff.mp (show (Jvm.Cond.and given_1 narrow_1).before args s = true from hpre))
  obtain ⟨g0, g1⟩ := and_e hg
  have q0 := g1
  obtain ⟨w0, rfl⟩ : ∃ w0 : Value, args = #[w0] := by
    have hs : args.size = 1 := by simpa [Cond.value, given_1] using g0
    obtain ⟨L⟩ := args
    match L, hs with
    | [w0], _ => exact ⟨w0, rfl⟩
  have hw := fun d (hd : d ∈ tables_1) => atoms_spec (ws := Jvm.Cond.code x code maxLocals ret :: tables_1) hat d (List.mem_cons_of_mem _ hd)
  obtain ⟨hsets, hown0⟩ := atoms_of _ (rest_1_c_eq ▸ (show rest_1_c.before _ s = true from hrest))
  have hfit : Fit s := fun {y c} hc i hi => by
    obtain ⟨ha, rfl⟩ := Array.getElem?_eq_some_iff.mp hc
    have q := List.all_eq_true.mp ((Array.all_eq_true_iff_forall_mem.mp hF) _ (Array.getElem_mem ha)) i (List.mem_range.mpr hi)
    simpa [Array.getElem?_eq_getElem hi] using q
  obtain ⟨i0, e0⟩ := is_v q0
  obtain rfl : w0 = (.int i0) := Option.some.inj e0
  have n5 := not_v (Cond.before_iff.mp (hsets _ (List.mem_of_getElem? (i := 2) rfl)))
  obtain ⟨z, ez⟩ := is_v (Cond.before_iff.mp (hsets _ (List.mem_of_getElem? (i := 1) rfl)))
  have S : Sta s s.heap "java/lang/String" "COMPACT_STRINGS" "Z" (.int z) := Sta.start ez (Or.inl (hsets _ (List.mem_of_getElem? (i := 0) rfl)))
  have hz : ¬ (z = (0 : Int32)) := gotF (Cond.eq_ints ez (Term.int_eval (0))) n5
  obtain ⟨m0, R0⟩ := and_e hnar
  obtain ⟨m1, R1⟩ := and_e R0
  obtain ⟨m2, R2⟩ := and_e R1
  obtain ⟨m3, R3⟩ := and_e R2
  obtain ⟨m4, R4⟩ := and_e R3
  obtain ⟨m5, R5⟩ := and_e R4
  obtain ⟨m6, R6⟩ := and_e R5
  obtain ⟨m7, R7⟩ := and_e R6
  obtain ⟨m8, R8⟩ := and_e R7
  obtain ⟨m9, R9⟩ := and_e R8
  obtain ⟨m10, R10⟩ := and_e R9
  obtain ⟨m11, R11⟩ := and_e R10
  obtain ⟨m12, R12⟩ := and_e R11
  obtain ⟨m13, R13⟩ := and_e R12
  obtain ⟨m14, R14⟩ := and_e R13
  obtain ⟨m15, R15⟩ := and_e R14
  obtain ⟨m16, R16⟩ := and_e R15
  obtain ⟨m17, R17⟩ := and_e R16
  obtain ⟨m18, R18⟩ := and_e R17
  obtain ⟨m19, R19⟩ := and_e R18
  obtain ⟨m20, R20⟩ := and_e R19
  obtain ⟨m21, R21⟩ := and_e R20
  obtain ⟨m22, R22⟩ := and_e R21
  obtain ⟨m23, R23⟩ := and_e R22
  obtain ⟨m24, R24⟩ := and_e R23
  obtain ⟨m25, R25⟩ := and_e R24
  obtain ⟨m26, R26⟩ := and_e R25
  obtain ⟨m27, R27⟩ := and_e R26
  obtain ⟨m28, R28⟩ := and_e R27
  obtain ⟨m29, R29⟩ := and_e R28
  obtain ⟨m30, R30⟩ := and_e R29
  obtain ⟨m31, R31⟩ := and_e R30
  obtain ⟨m32, R32⟩ := and_e R31
  obtain ⟨m33, R33⟩ := and_e R32
  obtain ⟨m34, R34⟩ := and_e R33
  obtain ⟨m35, R35⟩ := and_e R34
  obtain ⟨m36, R36⟩ := and_e R35
  obtain ⟨m37, R37⟩ := and_e R36
  obtain ⟨m38, R38⟩ := and_e R37
  obtain ⟨m39, R39⟩ := and_e R38
  have m40 := R39
  obtain ⟨u0, eu0⟩ := exa_v m0
  have A_u0 := Exa.start eu0 m0
  have SU0 : Sta s s.heap "com/example/rowgate/rowgate/AccountRole" "USER" "Lcom/example/rowgate/rowgate/AccountRole;" (.ref u0) := Sta.start eu0 (Or.inr ⟨(ww hw 3 rfl), (ww hw 4 rfl)⟩)
  obtain ⟨u1, eu1⟩ := exa_v m5
  have A_u1 := Exa.start eu1 m5
  have SU1 : Sta s s.heap "com/example/rowgate/rowgate/AccountRole" "GLOBAL_ADMIN" "Lcom/example/rowgate/rowgate/AccountRole;" (.ref u1) := Sta.start eu1 (Or.inr ⟨(ww hw 3 rfl), (ww hw 49 rfl)⟩)
  obtain ⟨u2, eu2⟩ := exa_v m7
  have A_u2 := Exa.start eu2 m7
  have SU2 : Sta s s.heap "com/example/rowgate/rowgate/AccountRole" "NONE" "Lcom/example/rowgate/rowgate/AccountRole;" (.ref u2) := Sta.start eu2 (Or.inr ⟨(ww hw 3 rfl), (ww hw 50 rfl)⟩)
  obtain ⟨va, eva⟩ := exa_v m2
  have E_va := Exa.start eva m2
  have SV : Sta s s.heap "com/example/rowgate/rowgate/AccountRole" "$VALUES" "[Lcom/example/rowgate/rowgate/AccountRole;" (.ref va) := Sta.start eva (Or.inl (ww hw 51 rfl))
  obtain ⟨cv, Av⟩ := Arr.start eva m1
  have hlv := Ow.lenAt m3 eva Av
  have ev0 := Ow.elemAt (Ow.eqR_at m4 eu0) eva Av
  have ev1 := Ow.elemAt (Ow.eqR_at m6 eu1) eva Av
  have ev2 := Ow.elemAt (Ow.eqR_at m8 eu2) eva Av
  have B_va : Ow.AL s s.heap va cv.cls (.object "com/example/rowgate/rowgate/AccountRole") [.ref u0, .ref u1, .ref u2] := own_AL Av [.ref u0, .ref u1, .ref u2] (own_sz (k := 3) hlv.1 (by decide) hlv.2) <| fun i hi => by
    match i, hi with
    | 0, _ => exact ev0
    | 1, _ => exact ev1
    | 2, _ => exact ev2
    | j + 3, h => exact absurd h (by simp)
  obtain ⟨s0, es0⟩ := exa_v m9
  have F_u0 : Fld s s.heap u0 "com/example/rowgate/rowgate/AccountRole" "displayName" "Ljava/lang/String;" (.ref s0) := Ow.fldR es0 eu0
  obtain ⟨t0, et0⟩ := arr_v m11
  obtain ⟨ct0, At0⟩ := Arr.start et0 m11
  have hl0 := Ow.lenAt m12 et0 At0
  have b0_0 := Ow.elemAt (Ow.eqI_at m13) et0 At0
  have b0_1 := Ow.elemAt (Ow.eqI_at m14) et0 At0
  have b0_2 := Ow.elemAt (Ow.eqI_at m15) et0 At0
  have b0_3 := Ow.elemAt (Ow.eqI_at m16) et0 At0
  have St_0 : Ow.Str s s.heap s0 t0 ct0.cls [117, 115, 101, 114] := by
    refine ⟨Exa.start es0 m9, Ow.fldI m10 es0, Ow.fldR et0 es0, own_AL At0 (List.map Value.int [117, 115, 101, 114]) (own_sz (k := 4) hl0.1 (by decide) hl0.2) fun i hi => ?_⟩
    match i, hi with
    | 0, _ => exact b0_0
    | 1, _ => exact b0_1
    | 2, _ => exact b0_2
    | 3, _ => exact b0_3
    | j + 4, h => exact absurd h (by simp)
  obtain ⟨s1, es1⟩ := exa_v m17
  have F_u1 : Fld s s.heap u1 "com/example/rowgate/rowgate/AccountRole" "displayName" "Ljava/lang/String;" (.ref s1) := Ow.fldR es1 eu1
  obtain ⟨t1, et1⟩ := arr_v m19
  obtain ⟨ct1, At1⟩ := Arr.start et1 m19
  have hl1 := Ow.lenAt m20 et1 At1
  have b1_0 := Ow.elemAt (Ow.eqI_at m29) et1 At1
  have b1_1 := Ow.elemAt (Ow.eqI_at m30) et1 At1
  have b1_2 := Ow.elemAt (Ow.eqI_at m31) et1 At1
  have b1_3 := Ow.elemAt (Ow.eqI_at m32) et1 At1
  have b1_4 := Ow.elemAt (Ow.eqI_at m33) et1 At1
  have b1_5 := Ow.elemAt (Ow.eqI_at m34) et1 At1
  have b1_6 := Ow.elemAt (Ow.eqI_at m35) et1 At1
  have b1_7 := Ow.elemAt (Ow.eqI_at m36) et1 At1
  have b1_8 := Ow.elemAt (Ow.eqI_at m37) et1 At1
  have b1_9 := Ow.elemAt (Ow.eqI_at m38) et1 At1
  have b1_10 := Ow.elemAt (Ow.eqI_at m39) et1 At1
  have b1_11 := Ow.elemAt (Ow.eqI_at m40) et1 At1
  have St_1 : Ow.Str s s.heap s1 t1 ct1.cls [103, 108, 111, 98, 97, 108, 45, 97, 100, 109, 105, 110] := by
    refine ⟨Exa.start es1 m17, Ow.fldI m18 es1, Ow.fldR et1 es1, own_AL At1 (List.map Value.int [103, 108, 111, 98, 97, 108, 45, 97, 100, 109, 105, 110]) (own_sz (k := 12) hl1.1 (by decide) hl1.2) fun i hi => ?_⟩
    match i, hi with
    | 0, _ => exact b1_0
    | 1, _ => exact b1_1
    | 2, _ => exact b1_2
    | 3, _ => exact b1_3
    | 4, _ => exact b1_4
    | 5, _ => exact b1_5
    | 6, _ => exact b1_6
    | 7, _ => exact b1_7
    | 8, _ => exact b1_8
    | 9, _ => exact b1_9
    | 10, _ => exact b1_10
    | 11, _ => exact b1_11
    | j + 12, h => exact absurd h (by simp)
  obtain ⟨s2, es2⟩ := exa_v m21
  have F_u2 : Fld s s.heap u2 "com/example/rowgate/rowgate/AccountRole" "displayName" "Ljava/lang/String;" (.ref s2) := Ow.fldR es2 eu2
  obtain ⟨t2, et2⟩ := arr_v m23
  obtain ⟨ct2, At2⟩ := Arr.start et2 m23
  have hl2 := Ow.lenAt m24 et2 At2
  have b2_0 := Ow.elemAt (Ow.eqI_at m25) et2 At2
  have b2_1 := Ow.elemAt (Ow.eqI_at m26) et2 At2
  have b2_2 := Ow.elemAt (Ow.eqI_at m27) et2 At2
  have b2_3 := Ow.elemAt (Ow.eqI_at m28) et2 At2
  have St_2 : Ow.Str s s.heap s2 t2 ct2.cls [110, 111, 110, 101] := by
    refine ⟨Exa.start es2 m21, Ow.fldI m22 es2, Ow.fldR et2 es2, own_AL At2 (List.map Value.int [110, 111, 110, 101]) (own_sz (k := 4) hl2.1 (by decide) hl2.2) fun i hi => ?_⟩
    match i, hi with
    | 0, _ => exact b2_0
    | 1, _ => exact b2_1
    | 2, _ => exact b2_2
    | 3, _ => exact b2_3
    | j + 4, h => exact absurd h (by simp)
  obtain ⟨fa, cK, Lm, Cl⟩ := Ow.Lam.start (x := (⟨"com/example/rowgate/rowgate/AccountRole", "fromName", "(Ljava/lang/String;)Lcom/example/rowgate/rowgate/AccountRole;"⟩ : MethodName)) (pc := 3) (index := 47) (σ := own_sg) (ww hw 54 rfl) rfl
  have hEL : EW s #[Value.int i0] EL := EW.nil
  have H : CHv s EL s.vm s.heap := fun p (hp : p ∈ ([] : List (String × Nat))) => nomatch hp
  obtain ⟨n, o, h1, h2, h3, _, L, rfl, ⟨rfl, F⟩, -, hq⟩ := law_w l s _ hw hEL s.heap z i0 S hz u0 u1 u2 va cv.cls SV B_va E_va s0 s1 s2 t0 t1 t2 ct0.cls ct1.cls ct2.cls A_u0 F_u0 St_0 A_u1 F_u1 St_1 A_u2 F_u2 St_2 fa cK Lm Cl SU0 SU1 SU2 tables_1 p e ha hc hk s m _ below hf ((Spec.applies_iff_loose hf).mp happ).1 ⟨rfl, State.Warmed39.refl s, rfl, H, fun _ q => nomatch q⟩ trivial
  refine ⟨n, _, h1, h2, h3, hpost _ _ _ _ _ _ ⟨Cond.after_iff.mpr rfl, Cond.after_iff.mpr (eq_i res_at (Term.int_eval (1)) rfl), trivial⟩ ⟨hq.1, hq.2.1, hq.2.2.1, (hq.2.2.2.sift fun y hy => Or.inr (F.fr y hy)).mono (by decide) (by decide)⟩⟩
theorem main_1_1 : Claimed_1_1 := comes_1 fun _ _ _ _ _ _ h hF => ⟨h.1, hF⟩
theorem main_1_2 : Claimed_1_2 := comes_1 fun _ _ _ _ _ _ h hF => ⟨h.2.1, hF⟩
end Jvm.Pilot.@@N@@
namespace Jvm.Pilot.@@N@@
open Jvm Jvm.ClassFile Sem Op Lib Jvm.Free Jvm.Stand Jvm.Pilot.@@N@@.Jvm.D
/-! MADE BY PROGRAM (witnessworld.py) out of the Statement's table words and the real class files: 25 classes; the members and pool entries that the words name. The judged class is class 1, her method 1. -/
namespace start1
open Jvm.ClassFile
def u (s : String) : CpInfo := .utf8 (stringToUtf16 s)
/-- a pool by its gaps: so many unusable entries, then the entry; so many at the end -/
def gap : Nat → List CpInfo → List CpInfo
  | 0, r => r
  | n + 1, r => .unusable :: gap n r
def poolList (es : List (Nat × CpInfo)) (last : Nat) : List CpInfo := es.foldr (fun e r => gap e.1 (e.2 :: r)) (gap last [])
def pool (es : List (Nat × CpInfo)) (last : Nat) : Array CpInfo := ⟨poolList es last⟩
def fileOf (pool : Array CpInfo) (this : Nat) (attrs : Array Attribute := #[]) (ms : Array MethodInfo := #[]) (fl : Nat := 33) (sup : Nat := 0) (ifs : Array Nat := #[]) (fds : Array FieldInfo := #[]) : ClassFile where
  minorVersion := 0
  majorVersion := 65
  constantPool := pool
  accessFlags := fl
  thisClass := this
  superClass := sup
  interfaces := ifs
  fields := fds
  methods := ms
  attributes := attrs
def plain (name : String) (sup : Option ClassId) : Class where
  name := name
  kind := .ordinary
  loader := none
  accessFlags := 33
  super := sup
  interfaces := #[]
  cf := none
  fields := #[]
  methods := #[]
  instanceTypes := #[]
  staticTypes := #[]
  resolved := #[]
  callSites := []
  init := .initialized
  statics := none
  mirror := none

def pool0 : Array CpInfo := pool [(5, u "<init>"), (0, u "()V"), (1, .class_ 10), (1, u "java/lang/Object"), (85, u "clone"), (0, u "()Ljava/lang/Object;")] 26

def k0c0 : Code := { maxStack := 0, maxLocals := 1, code := object_method_1_code, exceptionTable := #[], attributes := #[] }
def k0m0 : Method := { name := "<init>", desc := "()V", sig := { parameters := [], returnType := none }, accessFlags := 1, code := some k0c0 }
def k0m1 : Method := { name := "clone", desc := "()Ljava/lang/Object;", sig := { parameters := [], returnType := some (.object "java/lang/Object") }, accessFlags := 260, code := none }
/-- java/lang/Object -/
def k0 : Class := { plain "java/lang/Object" none with
  accessFlags := 33
  interfaces := #[]
  cf := some (fileOf pool0 8 #[] #[{ accessFlags := 1, nameIndex := 5, descriptorIndex := 6, attributes := #[] }, { accessFlags := 260, nameIndex := 96, descriptorIndex := 97, attributes := #[] }] 33 0 #[] #[])
  fields := #[]
  methods := #[k0m0, k0m1]
  instanceTypes := #[]
  staticTypes := #[]
  resolved := Array.replicate 124 none
  statics := none }

def pool1 : Array CpInfo := pool [(2, .class_ 4), (1, u "java/lang/Object"), (0, u "<init>"), (0, u "()V"), (0, .integer 2147483647), (0, .fieldref 9 10), (0, .class_ 11), (0, .nameAndType 12 13), (0, u "com/example/rowgate/rowgate/AccountRole"), (0, u "USER"), (0, u "Lcom/example/rowgate/rowgate/AccountRole;"), (0, .fieldref 9 15), (0, .nameAndType 16 13), (0, u "GLOBAL_ADMIN"), (0, .fieldref 9 18), (0, .nameAndType 19 13), (0, u "NONE"), (0, .class_ 21), (0, u "java/lang/String"), (0, .methodref 20 23), (0, .nameAndType 5 24), (0, u "([C)V"), (0, .methodref 9 26), (0, .nameAndType 27 28), (0, u "fromName"), (0, u "(Ljava/lang/String;)Lcom/example/rowgate/rowgate/AccountRole;"), (0, .methodref 9 30), (0, .nameAndType 31 32), (0, u "getDisplayName"), (0, u "()Ljava/lang/String;"), (0, .methodref 20 34), (0, .nameAndType 35 36), (0, u "equals"), (0, u "(Ljava/lang/Object;)Z"), (0, .class_ 38), (0, u "com/example/rowgate/rowgate/AccountRoleFromNamePinLaw"), (2, u "law"), (0, u "(I)Z")] 5

def k1m0 : Method := { name := "<init>", desc := "()V", sig := { parameters := [], returnType := none }, accessFlags := 2, code := none }
def k1c1 : Code := { maxStack := 4, maxLocals := 6, code := code, exceptionTable := #[], attributes := #[] }
def k1m1 : Method := { name := "law", desc := "(I)Z", sig := { parameters := [.int], returnType := some .boolean }, accessFlags := 9, code := some k1c1 }
/-- com/example/rowgate/rowgate/AccountRoleFromNamePinLaw -/
def k1 : Class := { plain "com/example/rowgate/rowgate/AccountRoleFromNamePinLaw" (some 0) with
  accessFlags := 49
  interfaces := #[]
  cf := some (fileOf pool1 37 #[] #[{ accessFlags := 2, nameIndex := 5, descriptorIndex := 6, attributes := #[] }, { accessFlags := 9, nameIndex := 41, descriptorIndex := 42, attributes := #[] }] 49 2 #[] #[])
  fields := #[]
  methods := #[k1m0, k1m1]
  instanceTypes := #[]
  staticTypes := #[]
  resolved := Array.replicate 48 none
  statics := none }

def pool2 : Array CpInfo := pool [(1, .class_ 2), (0, u "java/lang/constant/Constable"), (0, .class_ 4), (0, u "java/lang/Object")] 6

/-- java/lang/constant/Constable -/
def k2 : Class := { plain "java/lang/constant/Constable" (some 0) with
  accessFlags := 1537
  interfaces := #[]
  cf := some (fileOf pool2 1 #[] #[] 1537 3 #[] #[])
  fields := #[]
  methods := #[]
  instanceTypes := #[]
  staticTypes := #[]
  resolved := Array.replicate 11 none
  statics := none }

def pool3 : Array CpInfo := pool [(1, .class_ 2), (0, u "java/lang/Comparable"), (0, .class_ 4), (0, u "java/lang/Object")] 7

/-- java/lang/Comparable -/
def k3 : Class := { plain "java/lang/Comparable" (some 0) with
  accessFlags := 1537
  interfaces := #[]
  cf := some (fileOf pool3 1 #[] #[] 1537 3 #[] #[])
  fields := #[]
  methods := #[]
  instanceTypes := #[]
  staticTypes := #[]
  resolved := Array.replicate 12 none
  statics := none }

def pool4 : Array CpInfo := pool [(1, .class_ 2), (0, u "java/io/Serializable"), (0, .class_ 4), (0, u "java/lang/Object")] 2

/-- java/io/Serializable -/
def k4 : Class := { plain "java/io/Serializable" (some 0) with
  accessFlags := 1537
  interfaces := #[]
  cf := some (fileOf pool4 1 #[] #[] 1537 3 #[] #[])
  fields := #[]
  methods := #[]
  instanceTypes := #[]
  staticTypes := #[]
  resolved := Array.replicate 7 none
  statics := none }

def pool5 : Array CpInfo := pool [(2, .class_ 4), (1, u "java/lang/Enum"), (0, u "name"), (0, u "Ljava/lang/String;"), (2, u "ordinal"), (0, u "I"), (1, .class_ 14), (1, u "java/lang/Object"), (4, u "hash"), (86, .class_ 108), (1, u "java/lang/Enum$EnumDesc"), (2, .class_ 112), (0, u "java/lang/constant/Constable"), (0, .class_ 114), (0, u "java/lang/Comparable"), (0, .class_ 116), (0, u "java/io/Serializable")] 87

/-- java/lang/Enum -/
def k5 : Class := { plain "java/lang/Enum" (some 0) with
  accessFlags := 1057
  interfaces := #[2, 3, 4]
  cf := some (fileOf pool5 2 #[.nestMembers #[106]] #[] 1057 12 #[111, 113, 115] #[{ accessFlags := 18, nameIndex := 5, descriptorIndex := 6, attributes := #[] }, { accessFlags := 18, nameIndex := 9, descriptorIndex := 10, attributes := #[] }, { accessFlags := 2, nameIndex := 19, descriptorIndex := 10, attributes := #[] }])
  fields := #[{ name := "name", type := (.object "java/lang/String"), accessFlags := 18, slot := 0, constantValue := 0 }, { name := "ordinal", type := .int, accessFlags := 18, slot := 1, constantValue := 0 }, { name := "hash", type := .int, accessFlags := 2, slot := 2, constantValue := 0 }]
  methods := #[]
  instanceTypes := #[(.object "java/lang/String"), .int, .int]
  staticTypes := #[]
  resolved := Array.replicate 204 none
  statics := none }

def pool6 : Array CpInfo := pool [(1, .class_ 2), (0, u "com/example/rowgate/rowgate/AccountRole"), (2, u "USER"), (0, u "Lcom/example/rowgate/rowgate/AccountRole;"), (2, u "GLOBAL_ADMIN"), (2, u "NONE"), (0, .fieldref 1 14), (0, .nameAndType 15 16), (0, u "$VALUES"), (0, u "[Lcom/example/rowgate/rowgate/AccountRole;"), (0, .methodref 18 19), (0, .class_ 16), (0, .nameAndType 20 21), (0, u "clone"), (0, u "()Ljava/lang/Object;"), (1, .class_ 25), (1, u "java/lang/Enum"), (6, .fieldref 1 33), (0, .nameAndType 34 35), (0, u "displayName"), (0, u "Ljava/lang/String;"), (2, u "reachesTables"), (0, u "Z"), (2, u "reachesGlobalTables"), (0, .methodref 1 44), (0, .nameAndType 45 46), (0, u "values"), (0, u "()[Lcom/example/rowgate/rowgate/AccountRole;"), (0, .invokeDynamic 0 48), (0, .nameAndType 49 50), (0, u "apply"), (0, u "()Ljava/util/function/Function;"), (0, .string 52), (0, u "account role"), (0, .methodref 54 55), (0, .class_ 56), (0, .nameAndType 57 58), (0, u "com/example/rowgate/rowgate/Names"), (0, u "find"), (0, u "([Ljava/lang/Object;Ljava/util/function/Function;Ljava/lang/String;Ljava/lang/String;)Ljava/lang/Object;"), (17, u "(Ljava/lang/String;)Lcom/example/rowgate/rowgate/AccountRole;"), (3, u "fromName"), (0, u "getDisplayName"), (0, u "()Ljava/lang/String;"), (7, .methodType 91), (0, u "(Ljava/lang/Object;)Ljava/lang/Object;"), (0, .methodHandle 5 93), (0, .methodref 1 94), (0, .nameAndType 81 82), (0, .methodType 96), (0, u "(Lcom/example/rowgate/rowgate/AccountRole;)Ljava/lang/String;"), (0, .methodHandle 6 98), (0, .methodref 99 100), (0, .class_ 101), (0, .nameAndType 102 103), (0, u "java/lang/invoke/LambdaMetafactory"), (0, u "metafactory"), (0, u "(Ljava/lang/invoke/MethodHandles$Lookup;Ljava/lang/String;Ljava/lang/invoke/MethodType;Ljava/lang/invoke/MethodType;Ljava/lang/invoke/MethodHandle;Ljava/lang/invoke/MethodType;)Ljava/lang/invoke/CallSite;")] 6

def k6c0 : Code := { maxStack := 1, maxLocals := 0, code := prog_1_method_1_code, exceptionTable := #[], attributes := #[] }
def k6m0 : Method := { name := "values", desc := "()[Lcom/example/rowgate/rowgate/AccountRole;", sig := { parameters := [], returnType := some (.array (.object "com/example/rowgate/rowgate/AccountRole")) }, accessFlags := 9, code := some k6c0 }
def k6c1 : Code := { maxStack := 4, maxLocals := 1, code := prog_1_method_4_code, exceptionTable := #[], attributes := #[] }
def k6m1 : Method := { name := "fromName", desc := "(Ljava/lang/String;)Lcom/example/rowgate/rowgate/AccountRole;", sig := { parameters := [(.object "java/lang/String")], returnType := some (.object "com/example/rowgate/rowgate/AccountRole") }, accessFlags := 8, code := some k6c1 }
def k6c2 : Code := { maxStack := 1, maxLocals := 1, code := prog_1_method_5_code, exceptionTable := #[], attributes := #[] }
def k6m2 : Method := { name := "getDisplayName", desc := "()Ljava/lang/String;", sig := { parameters := [], returnType := some (.object "java/lang/String") }, accessFlags := 0, code := some k6c2 }
/-- com/example/rowgate/rowgate/AccountRole -/
def k6 : Class := { plain "com/example/rowgate/rowgate/AccountRole" (some 5) with
  accessFlags := 16432
  interfaces := #[]
  cf := some (fileOf pool6 1 #[.bootstrapMethods #[⟨97, #[90, 92, 95]⟩]] #[{ accessFlags := 9, nameIndex := 45, descriptorIndex := 46, attributes := #[] }, { accessFlags := 8, nameIndex := 80, descriptorIndex := 76, attributes := #[] }, { accessFlags := 0, nameIndex := 81, descriptorIndex := 82, attributes := #[] }] 16432 23 #[] #[{ accessFlags := 16409, nameIndex := 5, descriptorIndex := 6, attributes := #[] }, { accessFlags := 16409, nameIndex := 9, descriptorIndex := 6, attributes := #[] }, { accessFlags := 16409, nameIndex := 12, descriptorIndex := 6, attributes := #[] }, { accessFlags := 18, nameIndex := 34, descriptorIndex := 35, attributes := #[] }, { accessFlags := 18, nameIndex := 38, descriptorIndex := 39, attributes := #[] }, { accessFlags := 18, nameIndex := 42, descriptorIndex := 39, attributes := #[] }, { accessFlags := 4122, nameIndex := 15, descriptorIndex := 16, attributes := #[] }])
  fields := #[{ name := "USER", type := (.object "com/example/rowgate/rowgate/AccountRole"), accessFlags := 16409, slot := 0, constantValue := 0 }, { name := "GLOBAL_ADMIN", type := (.object "com/example/rowgate/rowgate/AccountRole"), accessFlags := 16409, slot := 1, constantValue := 0 }, { name := "NONE", type := (.object "com/example/rowgate/rowgate/AccountRole"), accessFlags := 16409, slot := 2, constantValue := 0 }, { name := "displayName", type := (.object "java/lang/String"), accessFlags := 18, slot := 3, constantValue := 0 }, { name := "reachesTables", type := .boolean, accessFlags := 18, slot := 4, constantValue := 0 }, { name := "reachesGlobalTables", type := .boolean, accessFlags := 18, slot := 5, constantValue := 0 }, { name := "$VALUES", type := (.array (.object "com/example/rowgate/rowgate/AccountRole")), accessFlags := 4122, slot := 3, constantValue := 0 }]
  methods := #[k6m0, k6m1, k6m2]
  instanceTypes := #[(.object "java/lang/String"), .int, .int, (.object "java/lang/String"), .boolean, .boolean]
  staticTypes := #[(.object "com/example/rowgate/rowgate/AccountRole"), (.object "com/example/rowgate/rowgate/AccountRole"), (.object "com/example/rowgate/rowgate/AccountRole"), (.array (.object "com/example/rowgate/rowgate/AccountRole"))]
  resolved := Array.replicate 110 none
  callSites := [(1, 3, .constant 3)]
  statics := some 0 }

def pool7 : Array CpInfo := pool [(2, .class_ 4), (1, u "java/lang/CharSequence"), (42, .class_ 48), (0, u "java/lang/CharSequence$1CodePointIterator"), (10, .class_ 60), (0, u "java/lang/CharSequence$1CharIterator"), (5, .class_ 67), (0, u "java/lang/Object")] 63

/-- java/lang/CharSequence -/
def k7 : Class := { plain "java/lang/CharSequence" (some 0) with
  accessFlags := 1537
  interfaces := #[]
  cf := some (fileOf pool7 2 #[.nestMembers #[47, 59]] #[] 1537 66 #[] #[])
  fields := #[]
  methods := #[]
  instanceTypes := #[]
  staticTypes := #[]
  resolved := Array.replicate 131 none
  statics := none }

def pool8 : Array CpInfo := pool [(1, .class_ 2), (0, u "java/lang/constant/ConstantDesc"), (0, .class_ 4), (0, u "java/lang/Object")] 32

/-- java/lang/constant/ConstantDesc -/
def k8 : Class := { plain "java/lang/constant/ConstantDesc" (some 0) with
  accessFlags := 1537
  interfaces := #[]
  cf := some (fileOf pool8 1 #[] #[] 1537 3 #[] #[])
  fields := #[]
  methods := #[]
  instanceTypes := #[]
  staticTypes := #[]
  resolved := Array.replicate 37 none
  statics := none }

def pool9 : Array CpInfo := pool [(1, .methodref 2 3), (0, .class_ 4), (0, .nameAndType 5 6), (0, u "java/lang/Object"), (0, u "<init>"), (0, u "()V"), (2, .fieldref 10 11), (0, .class_ 12), (0, .nameAndType 13 14), (0, u "java/lang/String"), (0, u "value"), (0, u "[B"), (0, .fieldref 10 16), (0, .nameAndType 17 18), (0, u "coder"), (0, u "B"), (2, u "hash"), (0, u "I"), (2, u "hashIsZero"), (0, u "Z"), (0, .methodref 10 28), (0, .nameAndType 5 29), (0, u "([CIILjava/lang/Void;)V"), (8, .fieldref 10 39), (0, .nameAndType 40 26), (0, u "COMPACT_STRINGS"), (1, .class_ 44), (1, u "java/lang/StringUTF16"), (0, u "compress"), (1, .methodref 42 48), (0, .nameAndType 49 50), (0, u "coderFromArrayLen"), (0, u "([BI)B"), (56, .class_ 109), (1, u "java/lang/StringLatin1"), (67, .methodref 42 178), (0, .nameAndType 45 179), (0, u "([CII)[B"), (361, .methodref 107 542), (0, .nameAndType 543 544), (0, u "equals"), (0, u "([B[B)Z"), (28, u "(Ljava/lang/Object;)Z"), (1, .class_ 576), (0, u "java/lang/CharSequence"), (22, u "CASE_INSENSITIVE_ORDER"), (0, u "Ljava/util/Comparator;"), (409, u "([C)V"), (90, u "serialPersistentFields"), (0, u "[Ljava/io/ObjectStreamField;"), (0, .class_ 1104), (0, u "java/lang/String$CaseInsensitiveComparator"), (1, .class_ 1107), (0, u "java/io/Serializable"), (0, .class_ 1109), (0, u "java/lang/Comparable"), (0, .class_ 1111), (0, u "java/lang/constant/Constable"), (0, .class_ 1113), (0, u "java/lang/constant/ConstantDesc"), (2, u "serialVersionUID"), (0, u "J"), (3, u "REPL"), (0, u "C"), (2, u "LATIN1"), (1, u "UTF16")] 323

def k9m0 : Method := { name := "<init>", desc := "()V", sig := { parameters := [], returnType := none }, accessFlags := 1, code := none }
def k9c1 : Code := { maxStack := 5, maxLocals := 2, code := jdk_42_method_3_code, exceptionTable := #[], attributes := #[] }
def k9m1 : Method := { name := "<init>", desc := "([C)V", sig := { parameters := [(.array .char)], returnType := none }, accessFlags := 1, code := some k9c1 }
def k9c2 : Code := { maxStack := 2, maxLocals := 3, code := jdk_42_method_66_code, exceptionTable := #[], attributes := #[] }
def k9m2 : Method := { name := "equals", desc := "(Ljava/lang/Object;)Z", sig := { parameters := [(.object "java/lang/Object")], returnType := some .boolean }, accessFlags := 1, code := some k9c2 }
def k9c3 : Code := { maxStack := 4, maxLocals := 6, code := jdk_42_method_149_code, exceptionTable := #[], attributes := #[] }
def k9m3 : Method := { name := "<init>", desc := "([CIILjava/lang/Void;)V", sig := { parameters := [(.array .char), .int, .int, (.object "java/lang/Void")], returnType := none }, accessFlags := 2, code := some k9c3 }
/-- java/lang/String -/
def k9 : Class := { plain "java/lang/String" (some 0) with
  accessFlags := 49
  interfaces := #[4, 3, 7, 2, 8]
  cf := some (fileOf pool9 10 #[.nestMembers #[1103]] #[{ accessFlags := 1, nameIndex := 5, descriptorIndex := 6, attributes := #[] }, { accessFlags := 1, nameIndex := 5, descriptorIndex := 1010, attributes := #[] }, { accessFlags := 1, nameIndex := 543, descriptorIndex := 573, attributes := #[] }, { accessFlags := 2, nameIndex := 5, descriptorIndex := 29, attributes := #[] }] 49 2 #[1106, 1108, 575, 1110, 1112] #[{ accessFlags := 18, nameIndex := 13, descriptorIndex := 14, attributes := #[] }, { accessFlags := 18, nameIndex := 17, descriptorIndex := 18, attributes := #[] }, { accessFlags := 2, nameIndex := 21, descriptorIndex := 22, attributes := #[] }, { accessFlags := 2, nameIndex := 25, descriptorIndex := 26, attributes := #[] }, { accessFlags := 26, nameIndex := 1116, descriptorIndex := 1117, attributes := #[] }, { accessFlags := 24, nameIndex := 40, descriptorIndex := 26, attributes := #[] }, { accessFlags := 26, nameIndex := 1101, descriptorIndex := 1102, attributes := #[] }, { accessFlags := 26, nameIndex := 1121, descriptorIndex := 1122, attributes := #[] }, { accessFlags := 25, nameIndex := 599, descriptorIndex := 600, attributes := #[] }, { accessFlags := 24, nameIndex := 1125, descriptorIndex := 18, attributes := #[] }, { accessFlags := 24, nameIndex := 1127, descriptorIndex := 18, attributes := #[] }])
  fields := #[{ name := "value", type := (.array .byte), accessFlags := 18, slot := 0, constantValue := 0 }, { name := "coder", type := .byte, accessFlags := 18, slot := 1, constantValue := 0 }, { name := "hash", type := .int, accessFlags := 2, slot := 2, constantValue := 0 }, { name := "hashIsZero", type := .boolean, accessFlags := 2, slot := 3, constantValue := 0 }, { name := "serialVersionUID", type := .long, accessFlags := 26, slot := 0, constantValue := 0 }, { name := "COMPACT_STRINGS", type := .boolean, accessFlags := 24, slot := 1, constantValue := 0 }, { name := "serialPersistentFields", type := (.array (.object "java/io/ObjectStreamField")), accessFlags := 26, slot := 2, constantValue := 0 }, { name := "REPL", type := .char, accessFlags := 26, slot := 3, constantValue := 0 }, { name := "CASE_INSENSITIVE_ORDER", type := (.object "java/util/Comparator"), accessFlags := 25, slot := 4, constantValue := 0 }, { name := "LATIN1", type := .byte, accessFlags := 24, slot := 5, constantValue := 0 }, { name := "UTF16", type := .byte, accessFlags := 24, slot := 6, constantValue := 0 }]
  methods := #[k9m0, k9m1, k9m2, k9m3]
  instanceTypes := #[(.array .byte), .byte, .int, .boolean]
  staticTypes := #[.long, .boolean, (.array (.object "java/io/ObjectStreamField")), .char, (.object "java/util/Comparator"), .byte, .byte]
  resolved := Array.replicate 1451 none
  statics := some 1 }

def pool10 : Array CpInfo := pool [(6, .class_ 8), (1, u "java/lang/Object"), (0, u "<init>"), (0, u "()V"), (1, .class_ 14), (1, u "java/lang/StringUTF16"), (31, u "$assertionsDisabled"), (0, u "Z"), (13, u "HI_BYTE_SHIFT"), (0, u "I"), (2, u "LO_BYTE_SHIFT"), (49, .methodref 12 116), (0, .nameAndType 117 118), (0, u "compress"), (0, u "([CI[BII)I"), (3, u "([CII)[B"), (138, u "coderFromArrayLen"), (0, u "([BI)B"), (106, .class_ 371), (1, u "java/lang/StringUTF16$LinesSpliterator"), (58, u "MAX_LENGTH"), (196, .class_ 628), (0, u "java/lang/StringUTF16$CodePointsSpliterator"), (0, .class_ 630), (0, u "java/lang/StringUTF16$CharsSpliterator")] 4

def k10m0 : Method := { name := "<init>", desc := "()V", sig := { parameters := [], returnType := none }, accessFlags := 0, code := none }
def k10c1 : Code := { maxStack := 2, maxLocals := 2, code := jdk_52_method_15_code, exceptionTable := #[], attributes := #[] }
def k10m1 : Method := { name := "coderFromArrayLen", desc := "([BI)B", sig := { parameters := [(.array .byte), .int], returnType := some .byte }, accessFlags := 8, code := some k10c1 }
def k10c2 : Code := { maxStack := 5, maxLocals := 6, code := jdk_52_method_16_code, exceptionTable := #[], attributes := #[] }
def k10m2 : Method := { name := "compress", desc := "([CII)[B", sig := { parameters := [(.array .char), .int, .int], returnType := some (.array .byte) }, accessFlags := 9, code := some k10c2 }
def k10c3 : Code := { maxStack := 3, maxLocals := 7, code := jdk_52_method_21_code, exceptionTable := #[], attributes := #[] }
def k10m3 : Method := { name := "compress", desc := "([CI[BII)I", sig := { parameters := [(.array .char), .int, (.array .byte), .int, .int], returnType := some .int }, accessFlags := 9, code := some k10c3 }
/-- java/lang/StringUTF16 -/
def k10 : Class := { plain "java/lang/StringUTF16" (some 0) with
  accessFlags := 48
  interfaces := #[]
  cf := some (fileOf pool10 12 #[.nestMembers #[627, 629, 369]] #[{ accessFlags := 0, nameIndex := 9, descriptorIndex := 10, attributes := #[] }, { accessFlags := 8, nameIndex := 261, descriptorIndex := 262, attributes := #[] }, { accessFlags := 9, nameIndex := 117, descriptorIndex := 122, attributes := #[] }, { accessFlags := 9, nameIndex := 117, descriptorIndex := 118, attributes := #[] }] 48 6 #[] #[{ accessFlags := 26, nameIndex := 61, descriptorIndex := 62, attributes := #[] }, { accessFlags := 26, nameIndex := 65, descriptorIndex := 62, attributes := #[] }, { accessFlags := 24, nameIndex := 430, descriptorIndex := 62, attributes := #[] }, { accessFlags := 4120, nameIndex := 46, descriptorIndex := 47, attributes := #[] }])
  fields := #[{ name := "HI_BYTE_SHIFT", type := .int, accessFlags := 26, slot := 0, constantValue := 0 }, { name := "LO_BYTE_SHIFT", type := .int, accessFlags := 26, slot := 1, constantValue := 0 }, { name := "MAX_LENGTH", type := .int, accessFlags := 24, slot := 2, constantValue := 0 }, { name := "$assertionsDisabled", type := .boolean, accessFlags := 4120, slot := 3, constantValue := 0 }]
  methods := #[k10m0, k10m1, k10m2, k10m3]
  instanceTypes := #[]
  staticTypes := #[.int, .int, .int, .boolean]
  resolved := Array.replicate 635 none
  statics := none }

def pool11 : Array CpInfo := pool [(1, .class_ 2), (0, u "java/lang/Cloneable"), (0, .class_ 4), (0, u "java/lang/Object")] 2

/-- java/lang/Cloneable -/
def k11 : Class := { plain "java/lang/Cloneable" (some 0) with
  accessFlags := 1537
  interfaces := #[]
  cf := some (fileOf pool11 1 #[] #[] 1537 3 #[] #[])
  fields := #[]
  methods := #[]
  instanceTypes := #[]
  staticTypes := #[]
  resolved := Array.replicate 7 none
  statics := none }

def pool12 : Array CpInfo := pool [(6, u "(Ljava/lang/Object;)Ljava/lang/Object;"), (2, u "apply"), (6, .class_ 18), (1, u "java/util/function/Function"), (0, .class_ 20), (0, u "java/lang/Object")] 56

def k12m0 : Method := { name := "apply", desc := "(Ljava/lang/Object;)Ljava/lang/Object;", sig := { parameters := [(.object "java/lang/Object")], returnType := some (.object "java/lang/Object") }, accessFlags := 1025, code := none }
/-- java/util/function/Function -/
def k12 : Class := { plain "java/util/function/Function" (some 0) with
  accessFlags := 1537
  interfaces := #[]
  cf := some (fileOf pool12 16 #[] #[{ accessFlags := 1025, nameIndex := 9, descriptorIndex := 6, attributes := #[] }] 1537 19 #[] #[])
  fields := #[]
  methods := #[k12m0]
  instanceTypes := #[]
  staticTypes := #[]
  resolved := Array.replicate 77 none
  statics := none }

def pool13 : Array CpInfo := pool [(2, .class_ 4), (1, u "java/lang/Object"), (0, u "<init>"), (0, u "()V"), (1, .class_ 10), (1, u "java/lang/String"), (20, .methodref 8 32), (0, .nameAndType 33 34), (0, u "equals"), (0, u "(Ljava/lang/Object;)Z"), (9, .interfaceMethodref 45 46), (0, .class_ 47), (0, .nameAndType 48 49), (0, u "java/util/function/Function"), (0, u "apply"), (0, u "(Ljava/lang/Object;)Ljava/lang/Object;"), (36, .class_ 87), (0, u "com/example/rowgate/rowgate/Names"), (5, u "find"), (0, u "([Ljava/lang/Object;Ljava/util/function/Function;Ljava/lang/String;Ljava/lang/String;)Ljava/lang/Object;")] 48

def k13m0 : Method := { name := "<init>", desc := "()V", sig := { parameters := [], returnType := none }, accessFlags := 2, code := none }
def k13c1 : Code := { maxStack := 6, maxLocals := 8, code := prog_8_method_3_code, exceptionTable := #[], attributes := #[] }
def k13m1 : Method := { name := "find", desc := "([Ljava/lang/Object;Ljava/util/function/Function;Ljava/lang/String;Ljava/lang/String;)Ljava/lang/Object;", sig := { parameters := [(.array (.object "java/lang/Object")), (.object "java/util/function/Function"), (.object "java/lang/String"), (.object "java/lang/String")], returnType := some (.object "java/lang/Object") }, accessFlags := 8, code := some k13c1 }
/-- com/example/rowgate/rowgate/Names -/
def k13 : Class := { plain "com/example/rowgate/rowgate/Names" (some 0) with
  accessFlags := 48
  interfaces := #[]
  cf := some (fileOf pool13 86 #[] #[{ accessFlags := 2, nameIndex := 5, descriptorIndex := 6, attributes := #[] }, { accessFlags := 8, nameIndex := 93, descriptorIndex := 94, attributes := #[] }] 48 2 #[] #[])
  fields := #[]
  methods := #[k13m0, k13m1]
  instanceTypes := #[]
  staticTypes := #[]
  resolved := Array.replicate 143 none
  statics := none }

def pool14 : Array CpInfo := pool [(4, .class_ 6), (1, u "java/lang/Object"), (0, u "<init>"), (0, u "()V"), (5, .class_ 16), (1, u "java/lang/StringLatin1"), (104, u "$assertionsDisabled"), (0, u "Z"), (98, .class_ 223), (1, u "java/lang/StringLatin1$LinesSpliterator"), (57, u "equals"), (0, u "([B[B)Z"), (107, .class_ 391), (0, u "java/lang/StringLatin1$CharsSpliterator")] 3

def k14m0 : Method := { name := "<init>", desc := "()V", sig := { parameters := [], returnType := none }, accessFlags := 0, code := none }
def k14c1 : Code := { maxStack := 3, maxLocals := 3, code := jdk_43_method_13_code, exceptionTable := #[], attributes := #[] }
def k14m1 : Method := { name := "equals", desc := "([B[B)Z", sig := { parameters := [(.array .byte), (.array .byte)], returnType := some .boolean }, accessFlags := 9, code := some k14c1 }
/-- java/lang/StringLatin1 -/
def k14 : Class := { plain "java/lang/StringLatin1" (some 0) with
  accessFlags := 48
  interfaces := #[]
  cf := some (fileOf pool14 14 #[.nestMembers #[390, 221]] #[{ accessFlags := 0, nameIndex := 7, descriptorIndex := 8, attributes := #[] }, { accessFlags := 9, nameIndex := 281, descriptorIndex := 282, attributes := #[] }] 48 4 #[] #[{ accessFlags := 4120, nameIndex := 121, descriptorIndex := 122, attributes := #[] }])
  fields := #[{ name := "$assertionsDisabled", type := .boolean, accessFlags := 4120, slot := 0, constantValue := 0 }]
  methods := #[k14m0, k14m1]
  instanceTypes := #[]
  staticTypes := #[.boolean]
  resolved := Array.replicate 395 none
  statics := none }

def pool15 : Array CpInfo := pool [(2, .class_ 4), (1, u "java/lang/Object"), (0, u "<init>"), (0, u "()V"), (17, .class_ 26), (1, u "jdk/internal/util/Preconditions"), (28, .class_ 56), (0, u "jdk/internal/util/Preconditions$4"), (57, .class_ 115), (0, u "jdk/internal/util/Preconditions$1"), (7, u "SIOOBE_FORMATTER"), (0, u "Ljava/util/function/BiFunction;"), (0, .class_ 126), (0, u "jdk/internal/util/Preconditions$2"), (3, u "AIOOBE_FORMATTER"), (0, .class_ 132), (0, u "jdk/internal/util/Preconditions$3"), (3, u "IOOBE_FORMATTER")] 57

def k15m0 : Method := { name := "<init>", desc := "()V", sig := { parameters := [], returnType := none }, accessFlags := 1, code := none }
/-- jdk/internal/util/Preconditions -/
def k15 : Class := { plain "jdk/internal/util/Preconditions" (some 0) with
  accessFlags := 33
  interfaces := #[]
  cf := some (fileOf pool15 24 #[.nestMembers #[55, 131, 125, 114]] #[{ accessFlags := 1, nameIndex := 5, descriptorIndex := 6, attributes := #[] }] 33 2 #[] #[{ accessFlags := 25, nameIndex := 123, descriptorIndex := 124, attributes := #[] }, { accessFlags := 25, nameIndex := 130, descriptorIndex := 124, attributes := #[] }, { accessFlags := 25, nameIndex := 136, descriptorIndex := 124, attributes := #[] }])
  fields := #[{ name := "SIOOBE_FORMATTER", type := (.object "java/util/function/BiFunction"), accessFlags := 25, slot := 0, constantValue := 0 }, { name := "AIOOBE_FORMATTER", type := (.object "java/util/function/BiFunction"), accessFlags := 25, slot := 1, constantValue := 0 }, { name := "IOOBE_FORMATTER", type := (.object "java/util/function/BiFunction"), accessFlags := 25, slot := 2, constantValue := 0 }]
  methods := #[k15m0]
  instanceTypes := #[]
  staticTypes := #[(.object "java/util/function/BiFunction"), (.object "java/util/function/BiFunction"), (.object "java/util/function/BiFunction")]
  resolved := Array.replicate 194 none
  statics := some 2 }

def pool16 : Array CpInfo := pool [(9, u "<init>"), (6, .class_ 18), (1, u "java/lang/Object"), (0, u "()V"), (1, .class_ 23), (1, u "jdk/internal/util/ArraysSupport"), (0, u "LOG2_ARRAY_LONG_INDEX_SCALE"), (0, u "I"), (2, u "U"), (0, u "Ljdk/internal/misc/Unsafe;"), (8, u "BIG_ENDIAN"), (0, u "Z"), (8, u "LOG2_BYTE_BIT_SIZE"), (4, u "LOG2_ARRAY_INT_INDEX_SCALE"), (54, u "JLA"), (0, u "Ljdk/internal/access/JavaLangAccess;"), (11, u "LOG2_ARRAY_BOOLEAN_INDEX_SCALE"), (9, u "LOG2_ARRAY_BYTE_INDEX_SCALE"), (5, u "LOG2_ARRAY_CHAR_INDEX_SCALE"), (5, u "LOG2_ARRAY_SHORT_INDEX_SCALE"), (18, u "LOG2_ARRAY_FLOAT_INDEX_SCALE"), (24, u "LOG2_ARRAY_DOUBLE_INDEX_SCALE"), (89, u "T_BOOLEAN"), (2, u "T_CHAR"), (1, u "T_FLOAT"), (1, u "T_DOUBLE"), (1, u "T_BYTE"), (1, u "T_SHORT"), (1, u "T_INT"), (1, u "T_LONG"), (1, u "SOFT_MAX_ARRAY_LENGTH")] 83

def k16m0 : Method := { name := "<init>", desc := "()V", sig := { parameters := [], returnType := none }, accessFlags := 2, code := none }
/-- jdk/internal/util/ArraysSupport -/
def k16 : Class := { plain "jdk/internal/util/ArraysSupport" (some 0) with
  accessFlags := 33
  interfaces := #[]
  cf := some (fileOf pool16 21 #[] #[{ accessFlags := 2, nameIndex := 9, descriptorIndex := 19, attributes := #[] }] 33 16 #[] #[{ accessFlags := 24, nameIndex := 28, descriptorIndex := 29, attributes := #[] }, { accessFlags := 26, nameIndex := 38, descriptorIndex := 39, attributes := #[] }, { accessFlags := 25, nameIndex := 121, descriptorIndex := 25, attributes := #[] }, { accessFlags := 25, nameIndex := 131, descriptorIndex := 25, attributes := #[] }, { accessFlags := 25, nameIndex := 137, descriptorIndex := 25, attributes := #[] }, { accessFlags := 25, nameIndex := 143, descriptorIndex := 25, attributes := #[] }, { accessFlags := 25, nameIndex := 53, descriptorIndex := 25, attributes := #[] }, { accessFlags := 25, nameIndex := 24, descriptorIndex := 25, attributes := #[] }, { accessFlags := 25, nameIndex := 162, descriptorIndex := 25, attributes := #[] }, { accessFlags := 25, nameIndex := 187, descriptorIndex := 25, attributes := #[] }, { accessFlags := 26, nameIndex := 48, descriptorIndex := 25, attributes := #[] }, { accessFlags := 25, nameIndex := 277, descriptorIndex := 25, attributes := #[] }, { accessFlags := 25, nameIndex := 280, descriptorIndex := 25, attributes := #[] }, { accessFlags := 25, nameIndex := 282, descriptorIndex := 25, attributes := #[] }, { accessFlags := 25, nameIndex := 284, descriptorIndex := 25, attributes := #[] }, { accessFlags := 25, nameIndex := 286, descriptorIndex := 25, attributes := #[] }, { accessFlags := 25, nameIndex := 288, descriptorIndex := 25, attributes := #[] }, { accessFlags := 25, nameIndex := 290, descriptorIndex := 25, attributes := #[] }, { accessFlags := 25, nameIndex := 292, descriptorIndex := 25, attributes := #[] }, { accessFlags := 26, nameIndex := 108, descriptorIndex := 109, attributes := #[] }, { accessFlags := 25, nameIndex := 294, descriptorIndex := 25, attributes := #[] }])
  fields := #[{ name := "U", type := (.object "jdk/internal/misc/Unsafe"), accessFlags := 24, slot := 0, constantValue := 0 }, { name := "BIG_ENDIAN", type := .boolean, accessFlags := 26, slot := 1, constantValue := 0 }, { name := "LOG2_ARRAY_BOOLEAN_INDEX_SCALE", type := .int, accessFlags := 25, slot := 2, constantValue := 0 }, { name := "LOG2_ARRAY_BYTE_INDEX_SCALE", type := .int, accessFlags := 25, slot := 3, constantValue := 0 }, { name := "LOG2_ARRAY_CHAR_INDEX_SCALE", type := .int, accessFlags := 25, slot := 4, constantValue := 0 }, { name := "LOG2_ARRAY_SHORT_INDEX_SCALE", type := .int, accessFlags := 25, slot := 5, constantValue := 0 }, { name := "LOG2_ARRAY_INT_INDEX_SCALE", type := .int, accessFlags := 25, slot := 6, constantValue := 0 }, { name := "LOG2_ARRAY_LONG_INDEX_SCALE", type := .int, accessFlags := 25, slot := 7, constantValue := 0 }, { name := "LOG2_ARRAY_FLOAT_INDEX_SCALE", type := .int, accessFlags := 25, slot := 8, constantValue := 0 }, { name := "LOG2_ARRAY_DOUBLE_INDEX_SCALE", type := .int, accessFlags := 25, slot := 9, constantValue := 0 }, { name := "LOG2_BYTE_BIT_SIZE", type := .int, accessFlags := 26, slot := 10, constantValue := 0 }, { name := "T_BOOLEAN", type := .int, accessFlags := 25, slot := 11, constantValue := 0 }, { name := "T_CHAR", type := .int, accessFlags := 25, slot := 12, constantValue := 0 }, { name := "T_FLOAT", type := .int, accessFlags := 25, slot := 13, constantValue := 0 }, { name := "T_DOUBLE", type := .int, accessFlags := 25, slot := 14, constantValue := 0 }, { name := "T_BYTE", type := .int, accessFlags := 25, slot := 15, constantValue := 0 }, { name := "T_SHORT", type := .int, accessFlags := 25, slot := 16, constantValue := 0 }, { name := "T_INT", type := .int, accessFlags := 25, slot := 17, constantValue := 0 }, { name := "T_LONG", type := .int, accessFlags := 25, slot := 18, constantValue := 0 }, { name := "JLA", type := (.object "jdk/internal/access/JavaLangAccess"), accessFlags := 26, slot := 19, constantValue := 0 }, { name := "SOFT_MAX_ARRAY_LENGTH", type := .int, accessFlags := 25, slot := 20, constantValue := 0 }]
  methods := #[k16m0]
  instanceTypes := #[]
  staticTypes := #[(.object "jdk/internal/misc/Unsafe"), .boolean, .int, .int, .int, .int, .int, .int, .int, .int, .int, .int, .int, .int, .int, .int, .int, .int, .int, (.object "jdk/internal/access/JavaLangAccess"), .int]
  resolved := Array.replicate 378 none
  statics := none }

/-- the primitive byte -/
def k17 : Class := { plain "byte" none with kind := .primitive 'B', accessFlags := 0x411 }
/-- [B -/
def k18 : Class := { plain "[B" (some 0) with kind := .array 17 .byte, interfaces := #[11, 4], accessFlags := 1041 }

/-- the primitive char -/
def k19 : Class := { plain "char" none with kind := .primitive 'C', accessFlags := 0x411 }
/-- [C -/
def k20 : Class := { plain "[C" (some 0) with kind := .array 19 .char, interfaces := #[11, 4], accessFlags := 1041 }

/-- the primitive int -/
def k21 : Class := { plain "int" none with kind := .primitive 'I', accessFlags := 0x411 }
/-- [I -/
def k22 : Class := { plain "[I" (some 0) with kind := .array 21 .int, interfaces := #[11, 4], accessFlags := 1041 }

/-- [Lcom/example/rowgate/rowgate/AccountRole; -/
def k23 : Class := { plain "[Lcom/example/rowgate/rowgate/AccountRole;" (some 0) with kind := .array 6 (.object "com/example/rowgate/rowgate/AccountRole"), interfaces := #[11, 4], accessFlags := 1041 }

def classes0 : Array Class := #[k0, k1, k2, k3, k4, k5, k6, k7, k8, k9, k10, k11, k12, k13, k14, k15, k16, k17, k18, k19, k20, k21, k22, k23]
/-- the class that the rule has made for the site at 3 of com/example/rowgate/rowgate/AccountRole.fromName -/
def k24 : Class := Jvm.LamKit.madeRec { classes := classes0 } "com/example/rowgate/rowgate/AccountRole" (Jvm.Lambda.Shape.mk "java/util/function/Function" "apply" (Jvm.ClassFile.MethodDescriptor.mk ([(Jvm.ClassFile.FieldType.object "java/lang/Object")] : List Jvm.ClassFile.FieldType) (Option.some (Jvm.ClassFile.FieldType.object "java/lang/Object"))) ([] : List Jvm.ClassFile.FieldType) (5 : Nat) "com/example/rowgate/rowgate/AccountRole" "getDisplayName" (Jvm.ClassFile.MethodDescriptor.mk ([] : List Jvm.ClassFile.FieldType) (Option.some (Jvm.ClassFile.FieldType.object "java/lang/String"))) false (Jvm.ClassFile.MethodDescriptor.mk ([(Jvm.ClassFile.FieldType.object "com/example/rowgate/rowgate/AccountRole")] : List Jvm.ClassFile.FieldType) (Option.some (Jvm.ClassFile.FieldType.object "java/lang/String")))) 24

def heap : Heap := #[{ cls := 6, slots := #[.ref 5, .ref 6, .ref 7, .ref 4], vm := .statics 6 },
  { cls := 9, slots := #[.long 0, .int 1, .null, .int 0, .null, .int 0, .int 0], vm := .statics 9 },
  { cls := 15, slots := #[.null, .null, .null], vm := .statics 15 },
  { cls := 24, slots := #[], vm := .none },
  { cls := 23, slots := #[.ref 5, .ref 6, .ref 7], vm := .none },
  { cls := 6, slots := #[.null, .int 0, .int 0, .ref 8, .int 0, .int 0], vm := .none },
  { cls := 6, slots := #[.null, .int 1, .int 0, .ref 9, .int 0, .int 0], vm := .none },
  { cls := 6, slots := #[.null, .int 2, .int 0, .ref 10, .int 0, .int 0], vm := .none },
  { cls := 9, slots := #[.ref 11, .int 0, .int 0, .int 0], vm := .none },
  { cls := 9, slots := #[.ref 12, .int 0, .int 0, .int 0], vm := .none },
  { cls := 9, slots := #[.ref 13, .int 0, .int 0, .int 0], vm := .none },
  { cls := 18, slots := #[.int 117, .int 115, .int 101, .int 114], vm := .none },
  { cls := 18, slots := #[.int 103, .int 108, .int 111, .int 98, .int 97, .int 108, .int 45, .int 97, .int 100, .int 109, .int 105, .int 110], vm := .none },
  { cls := 18, slots := #[.int 110, .int 111, .int 110, .int 101], vm := .none }]
def classes : Array Class := #[k0, k1, k2, k3, k4, k5, k6, k7, k8, k9, k10, k11, k12, k13, k14, k15, k16, k17, k18, k19, k20, k21, k22, k23, k24]
def interned : List (Array UInt16 × Addr) := []
def slotsUsed : Nat := 67
def theMethod : MethodId := ⟨1, 1⟩
def args0 : Array Value := #[.int 5]
def aboutOver (below : List Frame) : State where
  vm := { classes := classes, interned := interned.toArray }
  heap := heap
  slotsUsed := slotsUsed
  threads := #[{ frames := .invoking theMethod args0 :: below }]
def below0 : List Frame := [.native { method := ⟨0, 0⟩, args := #[] }]
def about1 : State := aboutOver below0
def p0 : Program := .bare "" "" ""
def e0 : Env := launch0.env 0 0 0
theorem w_frames : about1.frames = Frame.invoking theMethod args0 :: below0 := rfl
set_option maxRecDepth 65536 in
theorem w_args : argsFit about1.vm theMethod args0 = true := by decide +kernel
set_option maxRecDepth 65536 in
theorem w_heap : heapFits about1 = true := by decide +kernel
set_option maxRecDepth 65536 in
theorem w_runnable : about1.curStatus? = some .runnable := by decide +kernel
set_option maxRecDepth 65536 in
theorem w_alone : about1.alone = true := by decide +kernel
set_option maxRecDepth 65536 in
theorem w_named : about1.methodNamed? x = some theMethod := by decide +kernel
set_option maxRecDepth 65536 in
theorem w_hears : about1.hears theMethod below0 = true := by decide +kernel
set_option maxRecDepth 65536 in
theorem w_ripe : about1.ripe theMethod args0 below0 = true := by decide +kernel
theorem w_running : about1.status = .running := rfl
set_option maxRecDepth 65536 in
theorem w_room : about1.hasRoom e0.platform room_1 = true :=
  launch0.hasRoom_least _ room_1 (by decide +kernel) (by decide +kernel) (by decide +kernel) (by decide +kernel) (by decide +kernel) (by decide +kernel)
theorem allAtoms_all (ts : List Jvm.Cond) (a : Array Jvm.Value) (st : Jvm.State) : (allAtoms ts).before a st = ts.all (fun c => c.before a st) := by
  induction ts with
  | nil => rfl
  | cons c t ih =>
    show (Jvm.Cond.and c (allAtoms t)).before a st = _
    rw [Jvm.Cond.before_and, ih, List.all_cons]
def words1 : List Jvm.Cond := Jvm.Cond.code x code maxLocals ret :: tables_1
/-- a 'code' word, met by the world's own term for the bytes: nothing is compared byte by byte -/
theorem code_word {y : MethodName} {bytes : ByteArray} {mx : Nat} {rt : Option FieldType} {a : Array Value} {s : State} {m : MethodId} {meth : Method} {c : Code} (h1 : s.methodNamed? y = some m) (h2 : s.vm.method? m = some meth) (h3 : meth.code = some c) (h4 : c.code = bytes)
    (h5 : (c.maxLocals == mx && c.exceptionTable.isEmpty && decide (c.maxStack ≤ mostOperands) && decide (meth.sig.returnType = rt) && !meth.locks && decide (parseMethodDescriptor y.desc = some meth.sig)) = true) : (Jvm.Cond.code y bytes mx rt).before a s = true := by
  simp only [Bool.and_eq_true, beq_iff_eq, Bool.not_eq_true', decide_eq_true_eq] at h5
  obtain ⟨⟨⟨⟨⟨g1, g2⟩, g3⟩, g4⟩, g5⟩, g6⟩ := h5
  simp [Cond.before, Cond.holds, Cond.value, h1, h2, h3, h4, g1, g2, g3, g4, g5, g6]
def isCode : Jvm.Cond → Bool
  | .code _ _ _ _ => true
  | _ => false
theorem all_split {L : List Jvm.Cond} {P : Jvm.Cond → Bool} (h1 : L.all (fun c => isCode c || P c) = true) (h2 : ∀ c ∈ L.filter isCode, P c = true) : L.all P = true := by
  refine List.all_eq_true.mpr fun c hc => ?_
  have h := List.all_eq_true.mp h1 c hc
  rcases Bool.eq_false_or_eq_true (isCode c) with hi | hi
  · exact h2 c (List.mem_filter.mpr ⟨hc, hi⟩)
  · simpa [hi] using h
set_option maxRecDepth 65536 in
theorem w_c0 : (Jvm.Cond.code x code maxLocals ret).before args0 about1 = true := code_word (m := ⟨1, 1⟩) (meth := k1m1) (c := k1c1) (by decide +kernel) rfl rfl rfl (by decide +kernel)
set_option maxRecDepth 65536 in
theorem w_c1 : (Jvm.Cond.code ({ cls := "java/lang/String", name := "<init>", desc := "([C)V" } : Jvm.MethodName) jdk_42_method_3_code (2 : Nat) (Option.none : Option Jvm.ClassFile.FieldType)).before args0 about1 = true := code_word (m := ⟨9, 1⟩) (meth := k9m1) (c := k9c1) (by decide +kernel) rfl rfl rfl (by decide +kernel)
set_option maxRecDepth 65536 in
theorem w_c2 : (Jvm.Cond.code ({ cls := "java/lang/String", name := "<init>", desc := "([CIILjava/lang/Void;)V" } : Jvm.MethodName) jdk_42_method_149_code (6 : Nat) (Option.none : Option Jvm.ClassFile.FieldType)).before args0 about1 = true := code_word (m := ⟨9, 3⟩) (meth := k9m3) (c := k9c3) (by decide +kernel) rfl rfl rfl (by decide +kernel)
set_option maxRecDepth 65536 in
theorem w_c3 : (Jvm.Cond.code ({ cls := "java/lang/Object", name := "<init>", desc := "()V" } : Jvm.MethodName) object_method_1_code (1 : Nat) (Option.none : Option Jvm.ClassFile.FieldType)).before args0 about1 = true := code_word (m := ⟨0, 0⟩) (meth := k0m0) (c := k0c0) (by decide +kernel) rfl rfl rfl (by decide +kernel)
set_option maxRecDepth 65536 in
theorem w_c4 : (Jvm.Cond.code ({ cls := "java/lang/StringUTF16", name := "compress", desc := "([CII)[B" } : Jvm.MethodName) jdk_52_method_16_code (6 : Nat) (Option.some (Jvm.ClassFile.FieldType.array Jvm.ClassFile.FieldType.byte))).before args0 about1 = true := code_word (m := ⟨10, 2⟩) (meth := k10m2) (c := k10c2) (by decide +kernel) rfl rfl rfl (by decide +kernel)
set_option maxRecDepth 65536 in
theorem w_c5 : (Jvm.Cond.code ({ cls := "java/lang/StringUTF16", name := "compress", desc := "([CI[BII)I" } : Jvm.MethodName) jdk_52_method_21_code (7 : Nat) (Option.some Jvm.ClassFile.FieldType.int)).before args0 about1 = true := code_word (m := ⟨10, 3⟩) (meth := k10m3) (c := k10c3) (by decide +kernel) rfl rfl rfl (by decide +kernel)
set_option maxRecDepth 65536 in
theorem w_c6 : (Jvm.Cond.code ({ cls := "java/lang/StringUTF16", name := "coderFromArrayLen", desc := "([BI)B" } : Jvm.MethodName) jdk_52_method_15_code (2 : Nat) (Option.some Jvm.ClassFile.FieldType.byte)).before args0 about1 = true := code_word (m := ⟨10, 1⟩) (meth := k10m1) (c := k10c1) (by decide +kernel) rfl rfl rfl (by decide +kernel)
set_option maxRecDepth 65536 in
theorem w_c7 : (Jvm.Cond.code ({ cls := "com/example/rowgate/rowgate/AccountRole", name := "fromName", desc := "(Ljava/lang/String;)Lcom/example/rowgate/rowgate/AccountRole;" } : Jvm.MethodName) prog_1_method_4_code (1 : Nat) (Option.some (Jvm.ClassFile.FieldType.object "com/example/rowgate/rowgate/AccountRole"))).before args0 about1 = true := code_word (m := ⟨6, 1⟩) (meth := k6m1) (c := k6c1) (by decide +kernel) rfl rfl rfl (by decide +kernel)
set_option maxRecDepth 65536 in
theorem w_c8 : (Jvm.Cond.code ({ cls := "com/example/rowgate/rowgate/AccountRole", name := "values", desc := "()[Lcom/example/rowgate/rowgate/AccountRole;" } : Jvm.MethodName) prog_1_method_1_code (0 : Nat) (Option.some (Jvm.ClassFile.FieldType.array (Jvm.ClassFile.FieldType.object "com/example/rowgate/rowgate/AccountRole")))).before args0 about1 = true := code_word (m := ⟨6, 0⟩) (meth := k6m0) (c := k6c0) (by decide +kernel) rfl rfl rfl (by decide +kernel)
set_option maxRecDepth 65536 in
theorem w_c9 : (Jvm.Cond.code ({ cls := "com/example/rowgate/rowgate/Names", name := "find", desc := "([Ljava/lang/Object;Ljava/util/function/Function;Ljava/lang/String;Ljava/lang/String;)Ljava/lang/Object;" } : Jvm.MethodName) prog_8_method_3_code (8 : Nat) (Option.some (Jvm.ClassFile.FieldType.object "java/lang/Object"))).before args0 about1 = true := code_word (m := ⟨13, 1⟩) (meth := k13m1) (c := k13c1) (by decide +kernel) rfl rfl rfl (by decide +kernel)
set_option maxRecDepth 65536 in
theorem w_c10 : (Jvm.Cond.code ({ cls := "com/example/rowgate/rowgate/AccountRole", name := "getDisplayName", desc := "()Ljava/lang/String;" } : Jvm.MethodName) prog_1_method_5_code (1 : Nat) (Option.some (Jvm.ClassFile.FieldType.object "java/lang/String"))).before args0 about1 = true := code_word (m := ⟨6, 2⟩) (meth := k6m2) (c := k6c2) (by decide +kernel) rfl rfl rfl (by decide +kernel)
set_option maxRecDepth 65536 in
theorem w_c11 : (Jvm.Cond.code ({ cls := "java/lang/String", name := "equals", desc := "(Ljava/lang/Object;)Z" } : Jvm.MethodName) jdk_42_method_66_code (3 : Nat) (Option.some Jvm.ClassFile.FieldType.boolean)).before args0 about1 = true := code_word (m := ⟨9, 2⟩) (meth := k9m2) (c := k9c2) (by decide +kernel) rfl rfl rfl (by decide +kernel)
set_option maxRecDepth 65536 in
theorem w_c12 : (Jvm.Cond.code ({ cls := "java/lang/StringLatin1", name := "equals", desc := "([B[B)Z" } : Jvm.MethodName) jdk_43_method_13_code (3 : Nat) (Option.some Jvm.ClassFile.FieldType.boolean)).before args0 about1 = true := code_word (m := ⟨14, 1⟩) (meth := k14m1) (c := k14c1) (by decide +kernel) rfl rfl rfl (by decide +kernel)
def codes1 : List Jvm.Cond := [Jvm.Cond.code x code maxLocals ret, Jvm.Cond.code ({ cls := "java/lang/String", name := "<init>", desc := "([C)V" } : Jvm.MethodName) jdk_42_method_3_code (2 : Nat) (Option.none : Option Jvm.ClassFile.FieldType), Jvm.Cond.code ({ cls := "java/lang/String", name := "<init>", desc := "([CIILjava/lang/Void;)V" } : Jvm.MethodName) jdk_42_method_149_code (6 : Nat) (Option.none : Option Jvm.ClassFile.FieldType), Jvm.Cond.code ({ cls := "java/lang/Object", name := "<init>", desc := "()V" } : Jvm.MethodName) object_method_1_code (1 : Nat) (Option.none : Option Jvm.ClassFile.FieldType), Jvm.Cond.code ({ cls := "java/lang/StringUTF16", name := "compress", desc := "([CII)[B" } : Jvm.MethodName) jdk_52_method_16_code (6 : Nat) (Option.some (Jvm.ClassFile.FieldType.array Jvm.ClassFile.FieldType.byte)), Jvm.Cond.code ({ cls := "java/lang/StringUTF16", name := "compress", desc := "([CI[BII)I" } : Jvm.MethodName) jdk_52_method_21_code (7 : Nat) (Option.some Jvm.ClassFile.FieldType.int), Jvm.Cond.code ({ cls := "java/lang/StringUTF16", name := "coderFromArrayLen", desc := "([BI)B" } : Jvm.MethodName) jdk_52_method_15_code (2 : Nat) (Option.some Jvm.ClassFile.FieldType.byte), Jvm.Cond.code ({ cls := "com/example/rowgate/rowgate/AccountRole", name := "fromName", desc := "(Ljava/lang/String;)Lcom/example/rowgate/rowgate/AccountRole;" } : Jvm.MethodName) prog_1_method_4_code (1 : Nat) (Option.some (Jvm.ClassFile.FieldType.object "com/example/rowgate/rowgate/AccountRole")), Jvm.Cond.code ({ cls := "com/example/rowgate/rowgate/AccountRole", name := "values", desc := "()[Lcom/example/rowgate/rowgate/AccountRole;" } : Jvm.MethodName) prog_1_method_1_code (0 : Nat) (Option.some (Jvm.ClassFile.FieldType.array (Jvm.ClassFile.FieldType.object "com/example/rowgate/rowgate/AccountRole"))), Jvm.Cond.code ({ cls := "com/example/rowgate/rowgate/Names", name := "find", desc := "([Ljava/lang/Object;Ljava/util/function/Function;Ljava/lang/String;Ljava/lang/String;)Ljava/lang/Object;" } : Jvm.MethodName) prog_8_method_3_code (8 : Nat) (Option.some (Jvm.ClassFile.FieldType.object "java/lang/Object")), Jvm.Cond.code ({ cls := "com/example/rowgate/rowgate/AccountRole", name := "getDisplayName", desc := "()Ljava/lang/String;" } : Jvm.MethodName) prog_1_method_5_code (1 : Nat) (Option.some (Jvm.ClassFile.FieldType.object "java/lang/String")), Jvm.Cond.code ({ cls := "java/lang/String", name := "equals", desc := "(Ljava/lang/Object;)Z" } : Jvm.MethodName) jdk_42_method_66_code (3 : Nat) (Option.some Jvm.ClassFile.FieldType.boolean), Jvm.Cond.code ({ cls := "java/lang/StringLatin1", name := "equals", desc := "([B[B)Z" } : Jvm.MethodName) jdk_43_method_13_code (3 : Nat) (Option.some Jvm.ClassFile.FieldType.boolean)]
set_option maxRecDepth 65536 in
theorem codes_eq : words1.filter isCode = codes1 := rfl
theorem w_codes : ∀ c ∈ words1.filter isCode, c.before args0 about1 = true := by
  rw [codes_eq]
  intro c hc
  simp only [codes1, List.mem_cons, List.not_mem_nil, or_false] at hc
  rcases hc with rfl | rfl | rfl | rfl | rfl | rfl | rfl | rfl | rfl | rfl | rfl | rfl | rfl
  · exact w_c0
  · exact w_c1
  · exact w_c2
  · exact w_c3
  · exact w_c4
  · exact w_c5
  · exact w_c6
  · exact w_c7
  · exact w_c8
  · exact w_c9
  · exact w_c10
  · exact w_c11
  · exact w_c12
set_option maxRecDepth 65536 in
theorem w_t1 : (words1.take 24).all (fun c => isCode c || c.before args0 about1) = true := by decide +kernel
set_option maxRecDepth 65536 in
theorem w_t2 : ((words1.drop 24).take 24).all (fun c => isCode c || c.before args0 about1) = true := by decide +kernel
set_option maxRecDepth 65536 in
theorem w_t3 : (((words1.drop 24).drop 24).take 24).all (fun c => isCode c || c.before args0 about1) = true := by decide +kernel
set_option maxRecDepth 65536 in
theorem w_t4 : (((words1.drop 24).drop 24).drop 24).all (fun c => isCode c || c.before args0 about1) = true := by decide +kernel
theorem w_tables : (allAtoms (Jvm.Cond.code x code maxLocals ret :: tables_1)).before args0 about1 = true := by
  rw [allAtoms_all]
  show words1.all (fun c => c.before args0 about1) = true
  refine all_split ?_ w_codes
  rw [← List.take_append_drop 24 words1, List.all_append, w_t1, ← List.take_append_drop 24 (words1.drop 24), List.all_append, w_t2, ← List.take_append_drop 24 ((words1.drop 24).drop 24), List.all_append, w_t3, w_t4]
  rfl
set_option maxRecDepth 65536 in
theorem w_rest : rest_1_c.before args0 about1 = true := by decide +kernel
set_option maxRecDepth 65536 in
theorem w_case : (Jvm.Cond.and given_1 narrow_1).before args0 about1 = true := by decide +kernel
theorem w_applies : (headSpec (Jvm.Cond.code x code maxLocals ret :: tables_1) room_1).applies x e0.platform about1 = true :=
  (Spec.applies_iff w_frames).mpr ⟨w_running, w_runnable, w_alone, w_named, w_hears, w_ripe, w_room, w_tables⟩
theorem atStart : AtStart classFile x code maxLocals ret World_1 tables_1 room_1 Calls_1 rest_1 Pre_1 launch0 p0 e0 about1 theMethod args0 below0 :=
  ⟨lists_1, trivial, launch0.admits_env _ _ _, launch0.least_env, fairChoices_fair.cas, fairChoices_fair.clock, w_frames, w_args, w_heap, w_applies, trivial, w_rest, w_case⟩
end start1
theorem witness_1 : WitnessClaimed_1 := ⟨start1.p0, start1.e0, start1.about1, start1.theMethod, start1.args0, start1.below0, start1.atStart⟩
end Jvm.Pilot.@@N@@
