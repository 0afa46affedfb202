import JvmDerived
import JvmDerived.Pilot.@@N@@Statement
import JvmDerived.Pilot.@@N@@Code
set_option linter.unusedVariables false
set_option linter.unusedSimpArgs false
@@BLOCK:TracedD.lean.txt@@
namespace Jvm.Ow
open Sem ClassFile Op Lib Jvm.Stand Jvm.Free Jvm.LawKit Jvm.RoadKit
/-- from S the run goes on to an end that G accepts -/
def Go (tb : Tables) (e : Env) (below : List Frame) (G : Outcome → State → Prop) (S : State) : Prop := ∃ t o, Steps tb e below S t ∧ t.status = .running ∧ Ended t below o ∧ G o t
theorem Go.via {tb : Tables} {e : Env} {below : List Frame} {G : Outcome → State → Prop} {S S' : State} (st : ∀ target, Steps tb e below S' target → Steps tb e below S target) (K : Go tb e below G S') : Go tb e below G S := by
  obtain ⟨t, o, h1, h2⟩ := K
  exact ⟨t, o, st t h1, h2⟩
theorem Go.thru {tb : Tables} {e : Env} {below : List Frame} {G : Outcome → State → Prop} {S S' : State} (st : Steps tb e below S S') (K : Go tb e below G S') : Go tb e below G S := by
  obtain ⟨t, o, h1, h2⟩ := K
  exact ⟨t, o, st.trans h1, h2⟩
section Steps1
variable {p : Program} {l : Launch} {e : Env} {R : Room} {s : State} {m : MethodId} {args : Array Value} {below : List Frame} {meth : Method} {c : Code} {T : State} {locs : List Loc} {cells slots : Nat} {G : Outcome → State → Prop} {pc pc' : Nat} {Ls : Array Slot} {rest : List Value}
theorem aloadN (X : Stand p l e R s m args below meth c T locs cells slots) (hx : p.tables.exec = Jvm.exec) {k : Fin 4} {v : Value} (hd : decode c.code pc = .ok (.aload_n k, 1)) (hl : Ls[k.val]? = some (.val v)) (hv : v.isRef = true) (K : Go p.tables e below G (T.setTop (mkF m (pc + 1) Ls (v :: rest)))) : Go p.tables e below G (T.setTop (mkF m (pc) Ls rest)) := K.via fun _ r => XS.aloadN X.here hx rfl hd hl hv r
theorem aload (X : Stand p l e R s m args below meth c T locs cells slots) (hx : p.tables.exec = Jvm.exec) {k : Nat} {v : Value} (hd : decode c.code pc = .ok (.aload k, 2)) (hl : Ls[k]? = some (.val v)) (hv : v.isRef = true) (K : Go p.tables e below G (T.setTop (mkF m (pc + 2) Ls (v :: rest)))) : Go p.tables e below G (T.setTop (mkF m (pc) Ls rest)) := K.via fun _ r => XS.aload X.here hx rfl hd hl hv r
theorem iloadN (X : Stand p l e R s m args below meth c T locs cells slots) (hx : p.tables.exec = Jvm.exec) {k : Fin 4} {v : Int32} (hd : decode c.code pc = .ok (.iload_n k, 1)) (hl : Ls[k.val]? = some (.val (.int v))) (K : Go p.tables e below G (T.setTop (mkF m (pc + 1) Ls (.int v :: rest)))) : Go p.tables e below G (T.setTop (mkF m (pc) Ls rest)) := K.via fun _ r => XS.iloadN X.here hx rfl hd hl r
theorem iload (X : Stand p l e R s m args below meth c T locs cells slots) (hx : p.tables.exec = Jvm.exec) {k : Nat} {v : Int32} (hd : decode c.code pc = .ok (.iload k, 2)) (hl : Ls[k]? = some (.val (.int v))) (K : Go p.tables e below G (T.setTop (mkF m (pc + 2) Ls (.int v :: rest)))) : Go p.tables e below G (T.setTop (mkF m (pc) Ls rest)) := K.via fun _ r => XS.iload X.here hx rfl hd hl r
theorem lloadN (X : Stand p l e R s m args below meth c T locs cells slots) (hx : p.tables.exec = Jvm.exec) {k : Fin 4} {v : Int64} (hd : decode c.code pc = .ok (.lload_n k, 1)) (hl : Ls[k.val]? = some (.val (.long v))) (K : Go p.tables e below G (T.setTop (mkF m (pc + 1) Ls (.long v :: rest)))) : Go p.tables e below G (T.setTop (mkF m (pc) Ls rest)) := K.via fun _ r => XT.lloadN X.here hx rfl hd hl r
theorem lload (X : Stand p l e R s m args below meth c T locs cells slots) (hx : p.tables.exec = Jvm.exec) {k : Nat} {v : Int64} (hd : decode c.code pc = .ok (.lload k, 2)) (hl : Ls[k]? = some (.val (.long v))) (K : Go p.tables e below G (T.setTop (mkF m (pc + 2) Ls (.long v :: rest)))) : Go p.tables e below G (T.setTop (mkF m (pc) Ls rest)) := K.via fun _ r => XT.lload X.here hx rfl hd hl r
theorem iconst (X : Stand p l e R s m args below meth c T locs cells slots) (hx : p.tables.exec = Jvm.exec) {i : Int} (v : Int32) (hd : decode c.code pc = .ok (.iconst i, 1)) (hv : Int32.ofInt i = v) (K : Go p.tables e below G (T.setTop (mkF m (pc + 1) Ls (.int v :: rest)))) : Go p.tables e below G (T.setTop (mkF m (pc) Ls rest)) := K.via fun _ r => XT.iconstV X.here hx rfl v hd hv r
theorem bipush (X : Stand p l e R s m args below meth c T locs cells slots) (hx : p.tables.exec = Jvm.exec) {i : Int} (v : Int32) (hd : decode c.code pc = .ok (.bipush i, 2)) (hv : (Int8.ofInt i).toInt32 = v) (K : Go p.tables e below G (T.setTop (mkF m (pc + 2) Ls (.int v :: rest)))) : Go p.tables e below G (T.setTop (mkF m (pc) Ls rest)) := K.via fun _ r => XT.bipushV X.here hx rfl v hd hv r
theorem sipush (X : Stand p l e R s m args below meth c T locs cells slots) (hx : p.tables.exec = Jvm.exec) {i : Int} (v : Int32) (hd : decode c.code pc = .ok (.sipush i, 3)) (hv : (Int16.ofInt i).toInt32 = v) (K : Go p.tables e below G (T.setTop (mkF m (pc + 3) Ls (.int v :: rest)))) : Go p.tables e below G (T.setTop (mkF m (pc) Ls rest)) := K.via fun _ r => XT.sipushV X.here hx rfl v hd hv r
theorem lconst (X : Stand p l e R s m args below meth c T locs cells slots) (hx : p.tables.exec = Jvm.exec) {k : Fin 2} (v : Int64) (hd : decode c.code pc = .ok (.lconst k, 1)) (hv : Int64.ofNat k = v) (K : Go p.tables e below G (T.setTop (mkF m (pc + 1) Ls (.long v :: rest)))) : Go p.tables e below G (T.setTop (mkF m (pc) Ls rest)) := K.via fun _ r => XT.lconstV X.here hx rfl v hd hv r
theorem aconst_null (X : Stand p l e R s m args below meth c T locs cells slots) (hx : p.tables.exec = Jvm.exec)  (hd : decode c.code pc = .ok (.aconst_null, 1))  (K : Go p.tables e below G (T.setTop (mkF m (pc + 1) Ls (.null :: rest)))) : Go p.tables e below G (T.setTop (mkF m (pc) Ls rest)) := K.via fun _ r => XS.aconstNull X.here hx rfl hd r
theorem ldcI (X : Stand p l e R s m args below meth c T locs cells slots) (hx : p.tables.exec = Jvm.exec) {own : String} {index : Nat} (v : Int32) (hd : decode c.code pc = .ok (.ldc index, 2)) (hown : s.vm.findClass own = some m.cls) (hc : (Cond.constant own index v).before args s = true) (K : Go p.tables e below G (T.setTop (mkF m (pc + 2) Ls (.int v :: rest)))) : Go p.tables e below G (T.setTop (mkF m (pc) Ls rest)) := K.via fun _ r => X.ldcI hx hown hc rfl hd r
theorem ldcWI (X : Stand p l e R s m args below meth c T locs cells slots) (hx : p.tables.exec = Jvm.exec) {own : String} {index : Nat} (v : Int32) (hd : decode c.code pc = .ok (.ldc_w index, 3)) (hown : s.vm.findClass own = some m.cls) (hc : (Cond.constant own index v).before args s = true) (K : Go p.tables e below G (T.setTop (mkF m (pc + 3) Ls (.int v :: rest)))) : Go p.tables e below G (T.setTop (mkF m (pc) Ls rest)) := K.via fun _ r => X.ldcWI hx hown hc rfl hd r
theorem ldc2J (X : Stand p l e R s m args below meth c T locs cells slots) (hx : p.tables.exec = Jvm.exec) {own : String} {index : Nat} (v : Int64) (hd : decode c.code pc = .ok (.ldc2_w index, 3)) (hown : s.vm.findClass own = some m.cls) (hc : (Cond.constantLong own index v).before args s = true) (K : Go p.tables e below G (T.setTop (mkF m (pc + 3) Ls (.long v :: rest)))) : Go p.tables e below G (T.setTop (mkF m (pc) Ls rest)) := K.via fun _ r => X.ldc2J hx hown hc rfl hd r
theorem iadd (X : Stand p l e R s m args below meth c T locs cells slots) (hx : p.tables.exec = Jvm.exec) {x y : Int32} (hd : decode c.code pc = .ok (.iadd, 1))  (K : Go p.tables e below G (T.setTop (mkF m (pc + 1) Ls (.int (x + y) :: rest)))) : Go p.tables e below G (T.setTop (mkF m (pc) Ls (.int y :: .int x :: rest))) := K.via fun _ r => XS.iadd X.here hx rfl hd rfl r
theorem isub (X : Stand p l e R s m args below meth c T locs cells slots) (hx : p.tables.exec = Jvm.exec) {x y : Int32} (hd : decode c.code pc = .ok (.isub, 1))  (K : Go p.tables e below G (T.setTop (mkF m (pc + 1) Ls (.int (x - y) :: rest)))) : Go p.tables e below G (T.setTop (mkF m (pc) Ls (.int y :: .int x :: rest))) := K.via fun _ r => XS.isub X.here hx rfl hd rfl r
theorem iand (X : Stand p l e R s m args below meth c T locs cells slots) (hx : p.tables.exec = Jvm.exec) {x y : Int32} (hd : decode c.code pc = .ok (.iand, 1))  (K : Go p.tables e below G (T.setTop (mkF m (pc + 1) Ls (.int (x &&& y) :: rest)))) : Go p.tables e below G (T.setTop (mkF m (pc) Ls (.int y :: .int x :: rest))) := K.via fun _ r => XS.iand X.here hx rfl hd rfl r
theorem imul (X : Stand p l e R s m args below meth c T locs cells slots) (hx : p.tables.exec = Jvm.exec) {x y : Int32} (hd : decode c.code pc = .ok (.imul, 1))  (K : Go p.tables e below G (T.setTop (mkF m (pc + 1) Ls (.int (x * y) :: rest)))) : Go p.tables e below G (T.setTop (mkF m (pc) Ls (.int y :: .int x :: rest))) := K.via fun _ r => XS.imul X.here hx rfl hd rfl r
theorem ixor (X : Stand p l e R s m args below meth c T locs cells slots) (hx : p.tables.exec = Jvm.exec) {x y : Int32} (hd : decode c.code pc = .ok (.ixor, 1))  (K : Go p.tables e below G (T.setTop (mkF m (pc + 1) Ls (.int (x ^^^ y) :: rest)))) : Go p.tables e below G (T.setTop (mkF m (pc) Ls (.int y :: .int x :: rest))) := K.via fun _ r => XT.ixor X.here hx rfl hd rfl r
theorem ior (X : Stand p l e R s m args below meth c T locs cells slots) (hx : p.tables.exec = Jvm.exec) {x y : Int32} (hd : decode c.code pc = .ok (.ior, 1))  (K : Go p.tables e below G (T.setTop (mkF m (pc + 1) Ls (.int (x ||| y) :: rest)))) : Go p.tables e below G (T.setTop (mkF m (pc) Ls (.int y :: .int x :: rest))) := K.via fun _ r => XT.ior X.here hx rfl hd rfl r
theorem ishl (X : Stand p l e R s m args below meth c T locs cells slots) (hx : p.tables.exec = Jvm.exec) {x y : Int32} (hd : decode c.code pc = .ok (.ishl, 1))  (K : Go p.tables e below G (T.setTop (mkF m (pc + 1) Ls (.int (x <<< (y &&& 31)) :: rest)))) : Go p.tables e below G (T.setTop (mkF m (pc) Ls (.int y :: .int x :: rest))) := K.via fun _ r => XT.ishl X.here hx rfl hd rfl r
theorem ishr (X : Stand p l e R s m args below meth c T locs cells slots) (hx : p.tables.exec = Jvm.exec) {x y : Int32} (hd : decode c.code pc = .ok (.ishr, 1))  (K : Go p.tables e below G (T.setTop (mkF m (pc + 1) Ls (.int (x >>> (y &&& 31)) :: rest)))) : Go p.tables e below G (T.setTop (mkF m (pc) Ls (.int y :: .int x :: rest))) := K.via fun _ r => XT.ishr X.here hx rfl hd rfl r
theorem iushr (X : Stand p l e R s m args below meth c T locs cells slots) (hx : p.tables.exec = Jvm.exec) {x y : Int32} (hd : decode c.code pc = .ok (.iushr, 1))  (K : Go p.tables e below G (T.setTop (mkF m (pc + 1) Ls (.int (XT.ushr x y) :: rest)))) : Go p.tables e below G (T.setTop (mkF m (pc) Ls (.int y :: .int x :: rest))) := K.via fun _ r => XT.iushr X.here hx rfl hd rfl r
theorem idiv (X : Stand p l e R s m args below meth c T locs cells slots) (hx : p.tables.exec = Jvm.exec) {x y : Int32} (hd : decode c.code pc = .ok (.idiv, 1)) (hy : y ≠ 0) (K : Go p.tables e below G (T.setTop (mkF m (pc + 1) Ls (.int (x / y) :: rest)))) : Go p.tables e below G (T.setTop (mkF m (pc) Ls (.int y :: .int x :: rest))) := K.via fun _ r => XS.idiv X.here hx rfl hd rfl hy r
theorem irem (X : Stand p l e R s m args below meth c T locs cells slots) (hx : p.tables.exec = Jvm.exec) {x y : Int32} (hd : decode c.code pc = .ok (.irem, 1)) (hy : y ≠ 0) (K : Go p.tables e below G (T.setTop (mkF m (pc + 1) Ls (.int (x % y) :: rest)))) : Go p.tables e below G (T.setTop (mkF m (pc) Ls (.int y :: .int x :: rest))) := K.via fun _ r => RoadKit.iremM X hx rfl hd rfl hy r
theorem ineg (X : Stand p l e R s m args below meth c T locs cells slots) (hx : p.tables.exec = Jvm.exec) {x : Int32} (hd : decode c.code pc = .ok (.ineg, 1))  (K : Go p.tables e below G (T.setTop (mkF m (pc + 1) Ls (.int (-x) :: rest)))) : Go p.tables e below G (T.setTop (mkF m (pc) Ls (.int x :: rest))) := K.via fun _ r => XS.ineg X.here hx rfl hd rfl r
theorem ladd (X : Stand p l e R s m args below meth c T locs cells slots) (hx : p.tables.exec = Jvm.exec) {x y : Int64} (hd : decode c.code pc = .ok (.ladd, 1))  (K : Go p.tables e below G (T.setTop (mkF m (pc + 1) Ls (.long (x + y) :: rest)))) : Go p.tables e below G (T.setTop (mkF m (pc) Ls (.long y :: .long x :: rest))) := K.via fun _ r => XT.ladd X.here hx rfl hd rfl r
theorem lsub (X : Stand p l e R s m args below meth c T locs cells slots) (hx : p.tables.exec = Jvm.exec) {x y : Int64} (hd : decode c.code pc = .ok (.lsub, 1))  (K : Go p.tables e below G (T.setTop (mkF m (pc + 1) Ls (.long (x - y) :: rest)))) : Go p.tables e below G (T.setTop (mkF m (pc) Ls (.long y :: .long x :: rest))) := K.via fun _ r => XT.lsub X.here hx rfl hd rfl r
theorem lmul (X : Stand p l e R s m args below meth c T locs cells slots) (hx : p.tables.exec = Jvm.exec) {x y : Int64} (hd : decode c.code pc = .ok (.lmul, 1))  (K : Go p.tables e below G (T.setTop (mkF m (pc + 1) Ls (.long (x * y) :: rest)))) : Go p.tables e below G (T.setTop (mkF m (pc) Ls (.long y :: .long x :: rest))) := K.via fun _ r => XT.lmul X.here hx rfl hd rfl r
theorem land (X : Stand p l e R s m args below meth c T locs cells slots) (hx : p.tables.exec = Jvm.exec) {x y : Int64} (hd : decode c.code pc = .ok (.land, 1))  (K : Go p.tables e below G (T.setTop (mkF m (pc + 1) Ls (.long (x &&& y) :: rest)))) : Go p.tables e below G (T.setTop (mkF m (pc) Ls (.long y :: .long x :: rest))) := K.via fun _ r => XT.land X.here hx rfl hd rfl r
theorem lor (X : Stand p l e R s m args below meth c T locs cells slots) (hx : p.tables.exec = Jvm.exec) {x y : Int64} (hd : decode c.code pc = .ok (.lor, 1))  (K : Go p.tables e below G (T.setTop (mkF m (pc + 1) Ls (.long (x ||| y) :: rest)))) : Go p.tables e below G (T.setTop (mkF m (pc) Ls (.long y :: .long x :: rest))) := K.via fun _ r => XT.lor X.here hx rfl hd rfl r
theorem lxor (X : Stand p l e R s m args below meth c T locs cells slots) (hx : p.tables.exec = Jvm.exec) {x y : Int64} (hd : decode c.code pc = .ok (.lxor, 1))  (K : Go p.tables e below G (T.setTop (mkF m (pc + 1) Ls (.long (x ^^^ y) :: rest)))) : Go p.tables e below G (T.setTop (mkF m (pc) Ls (.long y :: .long x :: rest))) := K.via fun _ r => XT.lxor X.here hx rfl hd rfl r
theorem ldiv (X : Stand p l e R s m args below meth c T locs cells slots) (hx : p.tables.exec = Jvm.exec) {x y : Int64} (hd : decode c.code pc = .ok (.ldiv, 1)) (hy : y ≠ 0) (K : Go p.tables e below G (T.setTop (mkF m (pc + 1) Ls (.long (x / y) :: rest)))) : Go p.tables e below G (T.setTop (mkF m (pc) Ls (.long y :: .long x :: rest))) := K.via fun _ r => XT.ldiv X.here hx rfl hd rfl hy r
theorem lrem (X : Stand p l e R s m args below meth c T locs cells slots) (hx : p.tables.exec = Jvm.exec) {x y : Int64} (hd : decode c.code pc = .ok (.lrem, 1)) (hy : y ≠ 0) (K : Go p.tables e below G (T.setTop (mkF m (pc + 1) Ls (.long (x - (x / y) * y) :: rest)))) : Go p.tables e below G (T.setTop (mkF m (pc) Ls (.long y :: .long x :: rest))) := K.via fun _ r => XT.lrem X.here hx rfl hd rfl hy r
theorem lshl (X : Stand p l e R s m args below meth c T locs cells slots) (hx : p.tables.exec = Jvm.exec) {x : Int64} {y : Int32} (hd : decode c.code pc = .ok (.lshl, 1))  (K : Go p.tables e below G (T.setTop (mkF m (pc + 1) Ls (.long (x <<< (y.toInt64 &&& 63)) :: rest)))) : Go p.tables e below G (T.setTop (mkF m (pc) Ls (.int y :: .long x :: rest))) := K.via fun _ r => XT.lshl X.here hx rfl hd rfl r
theorem lshr (X : Stand p l e R s m args below meth c T locs cells slots) (hx : p.tables.exec = Jvm.exec) {x : Int64} {y : Int32} (hd : decode c.code pc = .ok (.lshr, 1))  (K : Go p.tables e below G (T.setTop (mkF m (pc + 1) Ls (.long (x >>> (y.toInt64 &&& 63)) :: rest)))) : Go p.tables e below G (T.setTop (mkF m (pc) Ls (.int y :: .long x :: rest))) := K.via fun _ r => XT.lshr X.here hx rfl hd rfl r
theorem lushr (X : Stand p l e R s m args below meth c T locs cells slots) (hx : p.tables.exec = Jvm.exec) {x : Int64} {y : Int32} (hd : decode c.code pc = .ok (.lushr, 1))  (K : Go p.tables e below G (T.setTop (mkF m (pc + 1) Ls (.long (XT.ushrL x y) :: rest)))) : Go p.tables e below G (T.setTop (mkF m (pc) Ls (.int y :: .long x :: rest))) := K.via fun _ r => XT.lushr X.here hx rfl hd rfl r
theorem lneg (X : Stand p l e R s m args below meth c T locs cells slots) (hx : p.tables.exec = Jvm.exec) {x : Int64} (hd : decode c.code pc = .ok (.lneg, 1))  (K : Go p.tables e below G (T.setTop (mkF m (pc + 1) Ls (.long (-x) :: rest)))) : Go p.tables e below G (T.setTop (mkF m (pc) Ls (.long x :: rest))) := K.via fun _ r => XT.lneg X.here hx rfl hd rfl r
theorem lcmp (X : Stand p l e R s m args below meth c T locs cells slots) (hx : p.tables.exec = Jvm.exec) {x y : Int64} (hd : decode c.code pc = .ok (.lcmp, 1))  (K : Go p.tables e below G (T.setTop (mkF m (pc + 1) Ls (.int (XT.cmpL x y) :: rest)))) : Go p.tables e below G (T.setTop (mkF m (pc) Ls (.long y :: .long x :: rest))) := K.via fun _ r => XT.lcmp X.here hx rfl hd rfl r
theorem i2l (X : Stand p l e R s m args below meth c T locs cells slots) (hx : p.tables.exec = Jvm.exec) {x : Int32} (hd : decode c.code pc = .ok (.i2l, 1))  (K : Go p.tables e below G (T.setTop (mkF m (pc + 1) Ls (.long (x.toInt64) :: rest)))) : Go p.tables e below G (T.setTop (mkF m (pc) Ls (.int x :: rest))) := K.via fun _ r => XT.i2l X.here hx rfl hd rfl r
theorem l2i (X : Stand p l e R s m args below meth c T locs cells slots) (hx : p.tables.exec = Jvm.exec) {x : Int64} (hd : decode c.code pc = .ok (.l2i, 1))  (K : Go p.tables e below G (T.setTop (mkF m (pc + 1) Ls (.int (x.toInt32) :: rest)))) : Go p.tables e below G (T.setTop (mkF m (pc) Ls (.long x :: rest))) := K.via fun _ r => XT.l2i X.here hx rfl hd rfl r
theorem i2b (X : Stand p l e R s m args below meth c T locs cells slots) (hx : p.tables.exec = Jvm.exec) {x : Int32} (hd : decode c.code pc = .ok (.i2b, 1))  (K : Go p.tables e below G (T.setTop (mkF m (pc + 1) Ls (.int (x.toInt8.toInt32) :: rest)))) : Go p.tables e below G (T.setTop (mkF m (pc) Ls (.int x :: rest))) := K.via fun _ r => XT.i2b X.here hx rfl hd rfl r
theorem i2c (X : Stand p l e R s m args below meth c T locs cells slots) (hx : p.tables.exec = Jvm.exec) {x : Int32} (hd : decode c.code pc = .ok (.i2c, 1))  (K : Go p.tables e below G (T.setTop (mkF m (pc + 1) Ls (.int (x.toUInt32.toUInt16.toUInt32.toInt32) :: rest)))) : Go p.tables e below G (T.setTop (mkF m (pc) Ls (.int x :: rest))) := K.via fun _ r => XT.i2c X.here hx rfl hd rfl r
theorem i2s (X : Stand p l e R s m args below meth c T locs cells slots) (hx : p.tables.exec = Jvm.exec) {x : Int32} (hd : decode c.code pc = .ok (.i2s, 1))  (K : Go p.tables e below G (T.setTop (mkF m (pc + 1) Ls (.int (x.toInt16.toInt32) :: rest)))) : Go p.tables e below G (T.setTop (mkF m (pc) Ls (.int x :: rest))) := K.via fun _ r => XT.i2s X.here hx rfl hd rfl r
theorem dup (X : Stand p l e R s m args below meth c T locs cells slots) (hx : p.tables.exec = Jvm.exec) {v : Value} (hd : decode c.code pc = .ok (.dup, 1)) (hv : v.category = 1) (K : Go p.tables e below G (T.setTop (mkF m (pc + 1) Ls (v :: v :: rest)))) : Go p.tables e below G (T.setTop (mkF m (pc) Ls (v :: rest))) := K.via fun _ r => XS.dup X.here hx rfl hd rfl hv r
theorem pop (X : Stand p l e R s m args below meth c T locs cells slots) (hx : p.tables.exec = Jvm.exec) {v : Value} (hd : decode c.code pc = .ok (.pop, 1)) (hv : v.category = 1) (K : Go p.tables e below G (T.setTop (mkF m (pc + 1) Ls rest))) : Go p.tables e below G (T.setTop (mkF m (pc) Ls (v :: rest))) := K.via fun _ r => XT.pop X.here hx rfl hd rfl hv r
theorem dup_x1 (X : Stand p l e R s m args below meth c T locs cells slots) (hx : p.tables.exec = Jvm.exec) {v w : Value} (hd : decode c.code pc = .ok (.dup_x1, 1)) (hv : v.category = 1) (hw : w.category = 1) (K : Go p.tables e below G (T.setTop (mkF m (pc + 1) Ls (v :: w :: v :: rest)))) : Go p.tables e below G (T.setTop (mkF m (pc) Ls (v :: w :: rest))) := K.via fun _ r => XT.dupX1 X.here hx rfl hd rfl hv hw r
theorem dup2 (X : Stand p l e R s m args below meth c T locs cells slots) (hx : p.tables.exec = Jvm.exec) {v w : Value} (hd : decode c.code pc = .ok (.dup2, 1)) (hv : v.category = 1) (hw : w.category = 1) (K : Go p.tables e below G (T.setTop (mkF m (pc + 1) Ls (v :: w :: v :: w :: rest)))) : Go p.tables e below G (T.setTop (mkF m (pc) Ls (v :: w :: rest))) := K.via fun _ r => XT.dup2 X.here hx rfl hd rfl hv hw r
theorem dup2L (X : Stand p l e R s m args below meth c T locs cells slots) (hx : p.tables.exec = Jvm.exec) {x : Int64} (hd : decode c.code pc = .ok (.dup2, 1))  (K : Go p.tables e below G (T.setTop (mkF m (pc + 1) Ls (.long x :: .long x :: rest)))) : Go p.tables e below G (T.setTop (mkF m (pc) Ls (.long x :: rest))) := K.via fun _ r => XT.dup2L X.here hx rfl hd rfl r
theorem istoreN (X : Stand p l e R s m args below meth c T locs cells slots) (hx : p.tables.exec = Jvm.exec) {k : Fin 4} {x : Int32} (L2 : Array Slot) (hd : decode c.code pc = .ok (.istore_n k, 1))  (hl : storeLocals Ls k.val (.int x) = some L2) (K : Go p.tables e below G (T.setTop (mkF m (pc + 1) L2 rest))) : Go p.tables e below G (T.setTop (mkF m (pc) Ls ((.int x) :: rest))) := K.via fun _ r => XS.istoreN X.here hx rfl hd rfl hl r
theorem istore (X : Stand p l e R s m args below meth c T locs cells slots) (hx : p.tables.exec = Jvm.exec) {k : Nat} {x : Int32} (L2 : Array Slot) (hd : decode c.code pc = .ok (.istore k, 2))  (hl : storeLocals Ls k (.int x) = some L2) (K : Go p.tables e below G (T.setTop (mkF m (pc + 2) L2 rest))) : Go p.tables e below G (T.setTop (mkF m (pc) Ls ((.int x) :: rest))) := K.via fun _ r => XS.istore X.here hx rfl hd rfl hl r
theorem astoreN (X : Stand p l e R s m args below meth c T locs cells slots) (hx : p.tables.exec = Jvm.exec) {k : Fin 4} {v : Value} (L2 : Array Slot) (hd : decode c.code pc = .ok (.astore_n k, 1)) (hv : v.isRef = true) (hl : storeLocals Ls k.val v = some L2) (K : Go p.tables e below G (T.setTop (mkF m (pc + 1) L2 rest))) : Go p.tables e below G (T.setTop (mkF m (pc) Ls (v :: rest))) := K.via fun _ r => XS.astoreN X.here hx rfl hd rfl hv hl r
theorem astore (X : Stand p l e R s m args below meth c T locs cells slots) (hx : p.tables.exec = Jvm.exec) {k : Nat} {v : Value} (L2 : Array Slot) (hd : decode c.code pc = .ok (.astore k, 2)) (hv : v.isRef = true) (hl : storeLocals Ls k v = some L2) (K : Go p.tables e below G (T.setTop (mkF m (pc + 2) L2 rest))) : Go p.tables e below G (T.setTop (mkF m (pc) Ls (v :: rest))) := K.via fun _ r => XS.astore X.here hx rfl hd rfl hv hl r
theorem lstoreN (X : Stand p l e R s m args below meth c T locs cells slots) (hx : p.tables.exec = Jvm.exec) {k : Fin 4} {x : Int64} (L2 : Array Slot) (hd : decode c.code pc = .ok (.lstore_n k, 1))  (hl : storeLocals Ls k.val (.long x) = some L2) (K : Go p.tables e below G (T.setTop (mkF m (pc + 1) L2 rest))) : Go p.tables e below G (T.setTop (mkF m (pc) Ls ((.long x) :: rest))) := K.via fun _ r => XT.lstoreN X.here hx rfl hd rfl hl r
theorem lstore (X : Stand p l e R s m args below meth c T locs cells slots) (hx : p.tables.exec = Jvm.exec) {k : Nat} {x : Int64} (L2 : Array Slot) (hd : decode c.code pc = .ok (.lstore k, 2))  (hl : storeLocals Ls k (.long x) = some L2) (K : Go p.tables e below G (T.setTop (mkF m (pc + 2) L2 rest))) : Go p.tables e below G (T.setTop (mkF m (pc) Ls ((.long x) :: rest))) := K.via fun _ r => XT.lstore X.here hx rfl hd rfl hl r
theorem iinc (X : Stand p l e R s m args below meth c T locs cells slots) (hx : p.tables.exec = Jvm.exec) {k : Nat} {cst : Int} {x : Int32} (v : Int32) (L2 : Array Slot) (hd : decode c.code pc = .ok (.iinc k cst, 3)) (hv : Int32.ofInt cst = v) (hl : Ls[k]? = some (.val (.int x))) (hl' : storeLocals Ls k (.int (x + v)) = some L2) (K : Go p.tables e below G (T.setTop (mkF m (pc + 3) L2 rest))) : Go p.tables e below G (T.setTop (mkF m (pc) Ls rest)) := K.via fun _ r => XT.iincV X.here hx rfl v hd hv hl hl' r
theorem goto (X : Stand p l e R s m args below meth c T locs cells slots) (hx : p.tables.exec = Jvm.exec) {o : Int} (hd : decode c.code pc = .ok (.goto o, 3)) (ho : 0 ≤ (pc : Int) + o) (hp : ((pc : Int) + o).toNat = pc') (K : Go p.tables e below G (T.setTop (mkF m (pc') Ls rest))) : Go p.tables e below G (T.setTop (mkF m (pc) Ls rest)) := K.via fun _ r => XS.goto X.here hx rfl rfl hd ho hp r
theorem if_eq (X : Stand p l e R s m args below meth c T locs cells slots) (hx : p.tables.exec = Jvm.exec) {x : Int32} {o : Int} (hd : decode c.code pc = .ok (.ifCond .eq o, 3)) (ho : 0 ≤ (pc : Int) + o) (hp : ((pc : Int) + o).toNat = pc') (KT : x = 0 → Go p.tables e below G (T.setTop (mkF m (pc') Ls rest))) (KF : ¬ x = 0 → Go p.tables e below G (T.setTop (mkF m (pc + 3) Ls rest))) : Go p.tables e below G (T.setTop (mkF m (pc) Ls (.int x :: rest))) := by
  by_cases h : x = 0
  · exact (KT h).via fun _ r => XS.ifYes X.here hx rfl rfl hd rfl (XT.i0_eq_t h) ho hp r
  · exact (KF h).via fun _ r => XS.ifNo X.here hx rfl hd rfl (XT.i0_eq_f h) r
theorem if_ne (X : Stand p l e R s m args below meth c T locs cells slots) (hx : p.tables.exec = Jvm.exec) {x : Int32} {o : Int} (hd : decode c.code pc = .ok (.ifCond .ne o, 3)) (ho : 0 ≤ (pc : Int) + o) (hp : ((pc : Int) + o).toNat = pc') (KT : ¬ x = 0 → Go p.tables e below G (T.setTop (mkF m (pc') Ls rest))) (KF : x = 0 → Go p.tables e below G (T.setTop (mkF m (pc + 3) Ls rest))) : Go p.tables e below G (T.setTop (mkF m (pc) Ls (.int x :: rest))) := by
  by_cases h : x = 0
  · exact (KF h).via fun _ r => XS.ifNo X.here hx rfl hd rfl (XT.i0_ne_f h) r
  · exact (KT h).via fun _ r => XS.ifYes X.here hx rfl rfl hd rfl (XT.i0_ne_t h) ho hp r
theorem if_lt (X : Stand p l e R s m args below meth c T locs cells slots) (hx : p.tables.exec = Jvm.exec) {x : Int32} {o : Int} (hd : decode c.code pc = .ok (.ifCond .lt o, 3)) (ho : 0 ≤ (pc : Int) + o) (hp : ((pc : Int) + o).toNat = pc') (KT : x < 0 → Go p.tables e below G (T.setTop (mkF m (pc') Ls rest))) (KF : ¬ x < 0 → Go p.tables e below G (T.setTop (mkF m (pc + 3) Ls rest))) : Go p.tables e below G (T.setTop (mkF m (pc) Ls (.int x :: rest))) := by
  by_cases h : x < 0
  · exact (KT h).via fun _ r => XS.ifYes X.here hx rfl rfl hd rfl (XT.i0_lt_t h) ho hp r
  · exact (KF h).via fun _ r => XS.ifNo X.here hx rfl hd rfl (XT.i0_lt_f h) r
theorem if_ge (X : Stand p l e R s m args below meth c T locs cells slots) (hx : p.tables.exec = Jvm.exec) {x : Int32} {o : Int} (hd : decode c.code pc = .ok (.ifCond .ge o, 3)) (ho : 0 ≤ (pc : Int) + o) (hp : ((pc : Int) + o).toNat = pc') (KT : ¬ x < 0 → Go p.tables e below G (T.setTop (mkF m (pc') Ls rest))) (KF : x < 0 → Go p.tables e below G (T.setTop (mkF m (pc + 3) Ls rest))) : Go p.tables e below G (T.setTop (mkF m (pc) Ls (.int x :: rest))) := by
  by_cases h : x < 0
  · exact (KF h).via fun _ r => XS.ifNo X.here hx rfl hd rfl (XT.i0_ge_f h) r
  · exact (KT h).via fun _ r => XS.ifYes X.here hx rfl rfl hd rfl (XT.i0_ge_t h) ho hp r
theorem if_gt (X : Stand p l e R s m args below meth c T locs cells slots) (hx : p.tables.exec = Jvm.exec) {x : Int32} {o : Int} (hd : decode c.code pc = .ok (.ifCond .gt o, 3)) (ho : 0 ≤ (pc : Int) + o) (hp : ((pc : Int) + o).toNat = pc') (KT : 0 < x → Go p.tables e below G (T.setTop (mkF m (pc') Ls rest))) (KF : ¬ 0 < x → Go p.tables e below G (T.setTop (mkF m (pc + 3) Ls rest))) : Go p.tables e below G (T.setTop (mkF m (pc) Ls (.int x :: rest))) := by
  by_cases h : 0 < x
  · exact (KT h).via fun _ r => XS.ifYes X.here hx rfl rfl hd rfl (XT.i0_gt_t h) ho hp r
  · exact (KF h).via fun _ r => XS.ifNo X.here hx rfl hd rfl (XT.i0_gt_f h) r
theorem if_le (X : Stand p l e R s m args below meth c T locs cells slots) (hx : p.tables.exec = Jvm.exec) {x : Int32} {o : Int} (hd : decode c.code pc = .ok (.ifCond .le o, 3)) (ho : 0 ≤ (pc : Int) + o) (hp : ((pc : Int) + o).toNat = pc') (KT : ¬ 0 < x → Go p.tables e below G (T.setTop (mkF m (pc') Ls rest))) (KF : 0 < x → Go p.tables e below G (T.setTop (mkF m (pc + 3) Ls rest))) : Go p.tables e below G (T.setTop (mkF m (pc) Ls (.int x :: rest))) := by
  by_cases h : 0 < x
  · exact (KF h).via fun _ r => XS.ifNo X.here hx rfl hd rfl (XT.i0_le_f h) r
  · exact (KT h).via fun _ r => XS.ifYes X.here hx rfl rfl hd rfl (XT.i0_le_t h) ho hp r
theorem icmp_eq (X : Stand p l e R s m args below meth c T locs cells slots) (hx : p.tables.exec = Jvm.exec) {x y : Int32} {o : Int} (hd : decode c.code pc = .ok (.if_icmp .eq o, 3)) (ho : 0 ≤ (pc : Int) + o) (hp : ((pc : Int) + o).toNat = pc') (KT : x = y → Go p.tables e below G (T.setTop (mkF m (pc') Ls rest))) (KF : ¬ x = y → Go p.tables e below G (T.setTop (mkF m (pc + 3) Ls rest))) : Go p.tables e below G (T.setTop (mkF m (pc) Ls (.int y :: .int x :: rest))) := by
  by_cases h : x = y
  · exact (KT h).via fun _ r => XS.icmpYes X.here hx rfl rfl hd rfl (XT.ii_eq_t h) ho hp r
  · exact (KF h).via fun _ r => XS.icmpNo X.here hx rfl hd rfl (XT.ii_eq_f h) r
theorem icmp_ne (X : Stand p l e R s m args below meth c T locs cells slots) (hx : p.tables.exec = Jvm.exec) {x y : Int32} {o : Int} (hd : decode c.code pc = .ok (.if_icmp .ne o, 3)) (ho : 0 ≤ (pc : Int) + o) (hp : ((pc : Int) + o).toNat = pc') (KT : ¬ x = y → Go p.tables e below G (T.setTop (mkF m (pc') Ls rest))) (KF : x = y → Go p.tables e below G (T.setTop (mkF m (pc + 3) Ls rest))) : Go p.tables e below G (T.setTop (mkF m (pc) Ls (.int y :: .int x :: rest))) := by
  by_cases h : x = y
  · exact (KF h).via fun _ r => XS.icmpNo X.here hx rfl hd rfl (XT.ii_ne_f h) r
  · exact (KT h).via fun _ r => XS.icmpYes X.here hx rfl rfl hd rfl (XT.ii_ne_t h) ho hp r
theorem icmp_lt (X : Stand p l e R s m args below meth c T locs cells slots) (hx : p.tables.exec = Jvm.exec) {x y : Int32} {o : Int} (hd : decode c.code pc = .ok (.if_icmp .lt o, 3)) (ho : 0 ≤ (pc : Int) + o) (hp : ((pc : Int) + o).toNat = pc') (KT : x < y → Go p.tables e below G (T.setTop (mkF m (pc') Ls rest))) (KF : ¬ x < y → Go p.tables e below G (T.setTop (mkF m (pc + 3) Ls rest))) : Go p.tables e below G (T.setTop (mkF m (pc) Ls (.int y :: .int x :: rest))) := by
  by_cases h : x < y
  · exact (KT h).via fun _ r => XS.icmpYes X.here hx rfl rfl hd rfl (XT.ii_lt_t h) ho hp r
  · exact (KF h).via fun _ r => XS.icmpNo X.here hx rfl hd rfl (XT.ii_lt_f h) r
theorem icmp_ge (X : Stand p l e R s m args below meth c T locs cells slots) (hx : p.tables.exec = Jvm.exec) {x y : Int32} {o : Int} (hd : decode c.code pc = .ok (.if_icmp .ge o, 3)) (ho : 0 ≤ (pc : Int) + o) (hp : ((pc : Int) + o).toNat = pc') (KT : ¬ x < y → Go p.tables e below G (T.setTop (mkF m (pc') Ls rest))) (KF : x < y → Go p.tables e below G (T.setTop (mkF m (pc + 3) Ls rest))) : Go p.tables e below G (T.setTop (mkF m (pc) Ls (.int y :: .int x :: rest))) := by
  by_cases h : x < y
  · exact (KF h).via fun _ r => XS.icmpNo X.here hx rfl hd rfl (XT.ii_ge_f h) r
  · exact (KT h).via fun _ r => XS.icmpYes X.here hx rfl rfl hd rfl (XT.ii_ge_t h) ho hp r
theorem icmp_gt (X : Stand p l e R s m args below meth c T locs cells slots) (hx : p.tables.exec = Jvm.exec) {x y : Int32} {o : Int} (hd : decode c.code pc = .ok (.if_icmp .gt o, 3)) (ho : 0 ≤ (pc : Int) + o) (hp : ((pc : Int) + o).toNat = pc') (KT : y < x → Go p.tables e below G (T.setTop (mkF m (pc') Ls rest))) (KF : ¬ y < x → Go p.tables e below G (T.setTop (mkF m (pc + 3) Ls rest))) : Go p.tables e below G (T.setTop (mkF m (pc) Ls (.int y :: .int x :: rest))) := by
  by_cases h : y < x
  · exact (KT h).via fun _ r => XS.icmpYes X.here hx rfl rfl hd rfl (XT.ii_gt_t h) ho hp r
  · exact (KF h).via fun _ r => XS.icmpNo X.here hx rfl hd rfl (XT.ii_gt_f h) r
theorem icmp_le (X : Stand p l e R s m args below meth c T locs cells slots) (hx : p.tables.exec = Jvm.exec) {x y : Int32} {o : Int} (hd : decode c.code pc = .ok (.if_icmp .le o, 3)) (ho : 0 ≤ (pc : Int) + o) (hp : ((pc : Int) + o).toNat = pc') (KT : ¬ y < x → Go p.tables e below G (T.setTop (mkF m (pc') Ls rest))) (KF : y < x → Go p.tables e below G (T.setTop (mkF m (pc + 3) Ls rest))) : Go p.tables e below G (T.setTop (mkF m (pc) Ls (.int y :: .int x :: rest))) := by
  by_cases h : y < x
  · exact (KF h).via fun _ r => XS.icmpNo X.here hx rfl hd rfl (XT.ii_le_f h) r
  · exact (KT h).via fun _ r => XS.icmpYes X.here hx rfl rfl hd rfl (XT.ii_le_t h) ho hp r
theorem ifnull_n (X : Stand p l e R s m args below meth c T locs cells slots) (hx : p.tables.exec = Jvm.exec) {o : Int} (hd : decode c.code pc = .ok (.ifnull o, 3)) (ho : 0 ≤ (pc : Int) + o) (hp : ((pc : Int) + o).toNat = pc') (K : Go p.tables e below G (T.setTop (mkF m (pc') Ls rest))) : Go p.tables e below G (T.setTop (mkF m (pc) Ls (.null :: rest))) := K.via fun _ r => XS.ifnullYes X.here hx rfl rfl hd rfl ho hp r
theorem ifnull_r (X : Stand p l e R s m args below meth c T locs cells slots) (hx : p.tables.exec = Jvm.exec) {o : Int} {b : Addr} (hd : decode c.code pc = .ok (.ifnull o, 3)) (K : Go p.tables e below G (T.setTop (mkF m (pc + 3) Ls rest))) : Go p.tables e below G (T.setTop (mkF m (pc) Ls (.ref b :: rest))) := K.via fun _ r => XS.ifnullNo X.here hx rfl hd rfl r
theorem ifnonnull_r (X : Stand p l e R s m args below meth c T locs cells slots) (hx : p.tables.exec = Jvm.exec) {o : Int} {b : Addr} (hd : decode c.code pc = .ok (.ifnonnull o, 3)) (ho : 0 ≤ (pc : Int) + o) (hp : ((pc : Int) + o).toNat = pc') (K : Go p.tables e below G (T.setTop (mkF m (pc') Ls rest))) : Go p.tables e below G (T.setTop (mkF m (pc) Ls (.ref b :: rest))) := K.via fun _ r => XT.ifnonnullYes X.here hx rfl rfl hd rfl ho hp r
theorem ifnonnull_n (X : Stand p l e R s m args below meth c T locs cells slots) (hx : p.tables.exec = Jvm.exec) {o : Int} (hd : decode c.code pc = .ok (.ifnonnull o, 3)) (K : Go p.tables e below G (T.setTop (mkF m (pc + 3) Ls rest))) : Go p.tables e below G (T.setTop (mkF m (pc) Ls (.null :: rest))) := K.via fun _ r => XT.ifnonnullNo X.here hx rfl hd rfl r
theorem acmp_eq (X : Stand p l e R s m args below meth c T locs cells slots) (hx : p.tables.exec = Jvm.exec) {v w : Value} {o : Int} (hd : decode c.code pc = .ok (.if_acmp .eq o, 3)) (h1 : v.isRef = true) (h2 : w.isRef = true) (ho : 0 ≤ (pc : Int) + o) (hp : ((pc : Int) + o).toNat = pc') (KT : v = w → Go p.tables e below G (T.setTop (mkF m (pc') Ls rest))) (KF : ¬ v = w → Go p.tables e below G (T.setTop (mkF m (pc + 3) Ls rest))) : Go p.tables e below G (T.setTop (mkF m (pc) Ls (w :: v :: rest))) := by
  by_cases h : v = w
  · exact (KT h).via fun _ r => XT.acmpYes X.here hx rfl rfl hd rfl h1 h2 (XT.aa_eq_t h) ho hp r
  · exact (KF h).via fun _ r => XT.acmpNo X.here hx rfl hd rfl h1 h2 (XT.aa_eq_f h) r
theorem acmp_ne (X : Stand p l e R s m args below meth c T locs cells slots) (hx : p.tables.exec = Jvm.exec) {v w : Value} {o : Int} (hd : decode c.code pc = .ok (.if_acmp .ne o, 3)) (h1 : v.isRef = true) (h2 : w.isRef = true) (ho : 0 ≤ (pc : Int) + o) (hp : ((pc : Int) + o).toNat = pc') (KT : ¬ v = w → Go p.tables e below G (T.setTop (mkF m (pc') Ls rest))) (KF : v = w → Go p.tables e below G (T.setTop (mkF m (pc + 3) Ls rest))) : Go p.tables e below G (T.setTop (mkF m (pc) Ls (w :: v :: rest))) := by
  by_cases h : v = w
  · exact (KF h).via fun _ r => XT.acmpNo X.here hx rfl hd rfl h1 h2 (XT.aa_ne_f h) r
  · exact (KT h).via fun _ r => XT.acmpYes X.here hx rfl rfl hd rfl h1 h2 (XT.aa_ne_t h) ho hp r
theorem iaload (X : Stand p l e R s m args below meth c T locs cells slots) (hx : p.tables.exec = Jvm.exec) {Z : State} {h : Heap} (hZ : Z.Warmed39 s.vm) (eT : T.heap = h) {a : Addr} {cell : Cell} {j : Int32} (v : Value) (A : Arr Z h a cell .int) (hin : ¬ (j < 0 ∨ cell.slots.size ≤ j.toNatClampNeg)) (hv : cell.slots[j.toNatClampNeg]? = some v) (hd : decode c.code pc = .ok (.iaload, 1)) (K : Go p.tables e below G (T.setTop (mkF m (pc + 1) Ls (v :: rest)))) : Go p.tables e below G (T.setTop (mkF m (pc) Ls (.int j :: .ref a :: rest))) := K.via fun t r => X.iaload hx (g := mkF m pc Ls (.int j :: .ref a :: rest)) (by rw [eT]; exact A.1) (State.isArrayOf_alike hZ.alike A.2.1) A.2.2 hin hv rfl rfl hd t r
theorem caload (X : Stand p l e R s m args below meth c T locs cells slots) (hx : p.tables.exec = Jvm.exec) {Z : State} {h : Heap} (hZ : Z.Warmed39 s.vm) (eT : T.heap = h) {a : Addr} {cell : Cell} {j : Int32} (v : Value) (A : Arr Z h a cell .char) (hin : ¬ (j < 0 ∨ cell.slots.size ≤ j.toNatClampNeg)) (hv : cell.slots[j.toNatClampNeg]? = some v) (hd : decode c.code pc = .ok (.caload, 1)) (K : Go p.tables e below G (T.setTop (mkF m (pc + 1) Ls (v :: rest)))) : Go p.tables e below G (T.setTop (mkF m (pc) Ls (.int j :: .ref a :: rest))) := K.via fun t r => X.caload hx (g := mkF m pc Ls (.int j :: .ref a :: rest)) (by rw [eT]; exact A.1) (State.isArrayOf_alike hZ.alike A.2.1) A.2.2 hin hv rfl rfl hd t r
theorem laload (X : Stand p l e R s m args below meth c T locs cells slots) (hx : p.tables.exec = Jvm.exec) {Z : State} {h : Heap} (hZ : Z.Warmed39 s.vm) (eT : T.heap = h) {a : Addr} {cell : Cell} {j : Int32} (v : Value) (A : Arr Z h a cell .long) (hin : ¬ (j < 0 ∨ cell.slots.size ≤ j.toNatClampNeg)) (hv : cell.slots[j.toNatClampNeg]? = some v) (hd : decode c.code pc = .ok (.laload, 1)) (K : Go p.tables e below G (T.setTop (mkF m (pc + 1) Ls (v :: rest)))) : Go p.tables e below G (T.setTop (mkF m (pc) Ls (.int j :: .ref a :: rest))) := K.via fun t r => X.laload hx (g := mkF m pc Ls (.int j :: .ref a :: rest)) (by rw [eT]; exact A.1) (State.isArrayOf_alike hZ.alike A.2.1) A.2.2 hin hv rfl rfl hd t r
theorem baload (X : Stand p l e R s m args below meth c T locs cells slots) (hx : p.tables.exec = Jvm.exec) {Z : State} {h : Heap} (hZ : Z.Warmed39 s.vm) (eT : T.heap = h) {a : Addr} {cell : Cell} {j : Int32} (v : Value) (A : Arr Z h a cell .byte) (hin : ¬ (j < 0 ∨ cell.slots.size ≤ j.toNatClampNeg)) (hv : cell.slots[j.toNatClampNeg]? = some v) (hd : decode c.code pc = .ok (.baload, 1)) (K : Go p.tables e below G (T.setTop (mkF m (pc + 1) Ls (v :: rest)))) : Go p.tables e below G (T.setTop (mkF m (pc) Ls (.int j :: .ref a :: rest))) := K.via fun t r => X.baloadBytes hx (g := mkF m pc Ls (.int j :: .ref a :: rest)) (by rw [eT]; exact A.1) (State.isArrayOf_alike hZ.alike A.2.1) A.2.2 hin hv rfl rfl hd t r
theorem zaload (X : Stand p l e R s m args below meth c T locs cells slots) (hx : p.tables.exec = Jvm.exec) {Z : State} {h : Heap} (hZ : Z.Warmed39 s.vm) (eT : T.heap = h) {a : Addr} {cell : Cell} {j : Int32} (v : Value) (A : Arr Z h a cell .boolean) (hin : ¬ (j < 0 ∨ cell.slots.size ≤ j.toNatClampNeg)) (hv : cell.slots[j.toNatClampNeg]? = some v) (hd : decode c.code pc = .ok (.baload, 1)) (K : Go p.tables e below G (T.setTop (mkF m (pc + 1) Ls (v :: rest)))) : Go p.tables e below G (T.setTop (mkF m (pc) Ls (.int j :: .ref a :: rest))) := K.via fun t r => X.baloadBooleans hx (g := mkF m pc Ls (.int j :: .ref a :: rest)) (by rw [eT]; exact A.1) (State.isArrayOf_alike hZ.alike A.2.1) A.2.2 hin hv rfl rfl hd t r
theorem aaload (X : Stand p l e R s m args below meth c T locs cells slots) (hx : p.tables.exec = Jvm.exec) {Z : State} {h : Heap} (hZ : Z.Warmed39 s.vm) (eT : T.heap = h) {a : Addr} {cell : Cell} {ty : FieldType} {j : Int32} (v : Value) (A : Arr Z h a cell ty) (hty : ty.isReference = true) (hin : ¬ (j < 0 ∨ cell.slots.size ≤ j.toNatClampNeg)) (hv : cell.slots[j.toNatClampNeg]? = some v) (hd : decode c.code pc = .ok (.aaload, 1)) (K : Go p.tables e below G (T.setTop (mkF m (pc + 1) Ls (v :: rest)))) : Go p.tables e below G (T.setTop (mkF m (pc) Ls (.int j :: .ref a :: rest))) := K.via fun t r => X.aaload hx (g := mkF m pc Ls (.int j :: .ref a :: rest)) (by rw [eT]; exact A.1) (State.isArrayOf_alike hZ.alike A.2.1) hty A.2.2 hin hv rfl rfl hd t r
theorem arraylength (X : Stand p l e R s m args below meth c T locs cells slots) (hx : p.tables.exec = Jvm.exec) {Z : State} {h : Heap} (hZ : Z.Warmed39 s.vm) (eT : T.heap = h) {a : Addr} {cell : Cell} {ty : FieldType} (N : Int32) (A : Arr Z h a cell ty) (hN : cell.slots.size.toInt32 = N) (hd : decode c.code pc = .ok (.arraylength, 1)) (K : Go p.tables e below G (T.setTop (mkF m (pc + 1) Ls (.int N :: rest)))) : Go p.tables e below G (T.setTop (mkF m (pc) Ls (.ref a :: rest))) := K.via fun t r => X.arraylength hx (g := mkF m pc Ls (.ref a :: rest)) (by rw [eT]; exact A.1) (State.isArrayOf_alike hZ.alike A.2.1) rfl rfl hd t (by rw [hN]; exact r)
end Steps1
section Ends
variable {p : Program} {l : Launch} {e : Env} {R : Room} {s : State} {m : MethodId} {args : Array Value} {below : List Frame} {meth : Method} {c : Code} {T : State} {locs : List Loc} {cells slots : Nat} {pc pc' : Nat} {Ls : Array Slot} {rest : List Value} {Q : Option Value → Heap → List Loc → Prop} {k n : Nat}
/-- what a narrow contract says of its end -/
abbrev EndN (s : State) (Q : Option Value → Heap → List Loc → Prop) (k n : Nat) : Outcome → State → Prop := fun o t => ∃ v L, o = .returned v ∧ Q v t.heap L ∧ FrameEnd s o t L k n
theorem fin_of (X : Stand p l e R s m args below meth c T locs cells slots) (hlk : meth.locks = false) {v : Option Value} (hv : meth.sig.returnType = none → v = none) {g : JFrame} (st : ∀ fs, (∀ (f : JFrame) (acts : List Action), f.method = m → f.locked = none → f.entered = [] → (doReturn e (T.setTop f) acts v).1 = T.setFrames fs) → Steps p.tables e below (T.setTop g) (T.setFrames fs)) (hQ : Q v T.heap locs) (hk : cells ≤ k) (hn : slots ≤ n) : Go p.tables e below (EndN s Q k n) (T.setTop g) := by
  obtain ⟨fs, hr, hrun, hended, hW, hsame⟩ := X.leave (v := v) hv hlk
  exact ⟨_, _, st fs hr, hrun, hended, _, _, rfl, hQ, ⟨_, rfl⟩, hW, hsame.mono hk hn⟩
theorem ireturn (X : Stand p l e R s m args below meth c T locs cells slots) (hx : p.tables.exec = Jvm.exec) (hlk : meth.locks = false) {z : Int32} (hret : meth.sig.returnType = some .int) (hd : decode c.code pc = .ok (.ireturn, 1)) (hQ : Q (some (.int z)) T.heap locs) (hk : cells ≤ k) (hn : slots ≤ n) : Go p.tables e below (EndN s Q k n) (T.setTop (mkF m pc Ls (.int z :: rest))) :=
  fin_of X hlk (v := some (.int z)) (fun h => by rw [hret] at h; cases h) (fun fs hr => retOut X hx hret rfl (Or.inl ⟨rfl, Or.inl rfl, z, rfl⟩) hd hr) hQ hk hn
theorem nreturn (X : Stand p l e R s m args below meth c T locs cells slots) (hx : p.tables.exec = Jvm.exec) (hlk : meth.locks = false) {z : Int32} {t : FieldType} (hret : meth.sig.returnType = some t) (ht : t = .boolean ∨ t = .byte ∨ t = .char ∨ t = .short) (hd : decode c.code pc = .ok (.ireturn, 1)) (hQ : Q (some (.int (nar t z))) T.heap locs) (hk : cells ≤ k) (hn : slots ≤ n) : Go p.tables e below (EndN s Q k n) (T.setTop (mkF m pc Ls (.int z :: rest))) :=
  fin_of X hlk (v := some (.int (nar t z))) (fun h => by rw [hret] at h; cases h) (fun fs hr => retN X hx hret ht hd hr) hQ hk hn
theorem areturn (X : Stand p l e R s m args below meth c T locs cells slots) (hx : p.tables.exec = Jvm.exec) (hlk : meth.locks = false) {w : Value} {t : FieldType} (hret : meth.sig.returnType = some t) (ht : t.isReference = true) (hw : w.isRef = true) (hna : narrow t w = w) (hd : decode c.code pc = .ok (.areturn, 1)) (hQ : Q (some w) T.heap locs) (hk : cells ≤ k) (hn : slots ≤ n) : Go p.tables e below (EndN s Q k n) (T.setTop (mkF m pc Ls (w :: rest))) :=
  fin_of X hlk (v := some w) (fun h => by rw [hret] at h; cases h) (fun fs hr => retOut X hx hret hna (Or.inr (Or.inr (Or.inr (Or.inr ⟨rfl, ht, hw⟩)))) hd hr) hQ hk hn
theorem lreturn (X : Stand p l e R s m args below meth c T locs cells slots) (hx : p.tables.exec = Jvm.exec) (hlk : meth.locks = false) {z : Int64} (hret : meth.sig.returnType = some .long) (hd : decode c.code pc = .ok (.lreturn, 1)) (hQ : Q (some (.long z)) T.heap locs) (hk : cells ≤ k) (hn : slots ≤ n) : Go p.tables e below (EndN s Q k n) (T.setTop (mkF m pc Ls (.long z :: rest))) :=
  fin_of X hlk (v := some (.long z)) (fun h => by rw [hret] at h; cases h) (fun fs hr => retOut X hx hret rfl (Or.inr (Or.inl ⟨rfl, rfl, z, rfl⟩)) hd hr) hQ hk hn
theorem vreturn (X : Stand p l e R s m args below meth c T locs cells slots) (hx : p.tables.exec = Jvm.exec) (hlk : meth.locks = false) (hret : meth.sig.returnType = none) (hd : decode c.code pc = .ok (.return_, 1)) (hQ : Q none T.heap locs) (hk : cells ≤ k) (hn : slots ≤ n) : Go p.tables e below (EndN s Q k n) (T.setTop (mkF m pc Ls [])) :=
  fin_of X hlk (v := none) (fun _ => rfl) (fun fs hr => X.returnOut hx hret hd hr) hQ hk hn
end Ends
section Pays
/-- a narrow contract: called with as' at a heap h0 the method returns v, Q v says of the heap behind -/
def Pay (l : Launch) (Z : State) (y : MethodName) (bytes : ByteArray) (maxL : Nat) (ret : Option FieldType) (rm : Room) (as' : Array Value) (h0 : Heap) (Q : Option Value → Heap → List Loc → Prop) : Prop :=
  ∀ ws : List Jvm.Cond, MetFree l y (head1 (Jvm.Cond.code y bytes maxL ret :: ws) rm) (fun a U => a = as' ∧ Z.Warmed39 U.vm ∧ U.heap = h0) (fun _ _ _ _ _ => True) (fun _ U o U' => ∃ v L, o = .returned v ∧ Q v U'.heap L ∧ FrameEnd U o U' L rm.cells rm.slots)
variable {l : Launch} {Z : State} {y : MethodName} {bytes : ByteArray} {maxL : Nat} {ret : Option FieldType} {rm : Room} {as' : Array Value} {h0 : Heap} {Q : Option Value → Heap → List Loc → Prop}
theorem Pay.of {Ls : Array Slot} (hpn : plainFor y = true) (hef : ∀ m, entryFrame m as' maxL = mkF m 0 Ls [])
    (body : ∀ (p : Program) (e : Env) (s : State) (m : MethodId) (below : List Frame) (meth : Method) (c : Code) (T : State), p.tables.exec = Jvm.exec → c.code = bytes → c.maxLocals = maxL → s.vm.findClass y.cls = some m.cls → s.methodNamed? y = some m → s.vm.method? m = some meth → Z.Warmed39 s.vm → meth.sig.returnType = ret → meth.locks = false → Stand p l e rm s m as' below meth c T [] 0 0 → T.heap = h0 →
      Go p.tables e below (EndN s Q rm.cells rm.slots) (T.setTop (mkF m 0 Ls []))) : Pay l Z y bytes maxL ret rm as' h0 Q := by
  intro ws
  refine MetFree.of_bodySF hpn hisR ?_
  intro p e s m args below meth c s₁ Bd hml0 hP hK
  obtain ⟨rfl, hZ, hh⟩ := hP
  rw [hef m]
  exact body p e s m below meth c s₁ Bd.exec Bd.bytes hml0 (findClass_of_methodNamed Bd.named) Bd.named Bd.method hZ Bd.returns Bd.notSynchronized (Stand.of_body Bd) (by rw [← hh, Bd.state]; rfl)
theorem Pay.mono {Q' : Option Value → Heap → List Loc → Prop} (P : Pay l Z y bytes maxL ret rm as' h0 Q) (h : ∀ v h L, Q v h L → Q' v h L) : Pay l Z y bytes maxL ret rm as' h0 Q' := fun ws =>
  (P ws).mono (fun _ _ q => q) (fun _ _ _ _ _ q => q) fun _ _ _ _ _ ⟨v, L, h1, h2, h3⟩ => ⟨v, L, h1, h _ _ _ h2, h3⟩
variable {p : Program} {e : Env} {R : Room} {s : State} {m : MethodId} {args : Array Value} {below : List Frame} {meth : Method} {c : Code} {T : State} {locs : List Loc} {cells slots : Nat} {G : Outcome → State → Prop} {pc : Nat} {Ls : Array Slot} {a0 : Array Value}
/-- invokestatic, by whoever pays it -/
theorem callSB (X : Stand p l e R s m args below meth c T locs cells slots) (hx : p.tables.exec = Jvm.exec) (hZ : Z.Warmed39 s.vm) {argsL rest st : List Value} {kc ks : Nat}
    (hK : Back l R p e below s args y 3 ((rest.map fun v => v.category).sum) (fun A a => a = as' ∧ A.U.heap = h0 ∧ A.cells + kc ≤ R.cells ∧ A.slots + ks ≤ R.slots) (fun A _ v B => ∃ L, Q v B.U.heap L ∧ B.locs = A.locs ++ L ∧ B.cells = A.cells + kc ∧ B.slots = A.slots + ks)) (eT : T.heap = h0) {own : String} {index : Nat} (hown : s.vm.findClass own = some m.cls)
    (wl : (Cond.methodLink own index y).before a0 Z = true) (wst : (Cond.static y).before a0 Z = true) (wz : (Cond.initialized y.cls).before a0 Z = true) (wc : (Cond.code y bytes maxL ret).before a0 Z = true)
    (hy : y.cls ≠ "java/lang/invoke/MethodHandle" ∧ y.cls ≠ "java/lang/invoke/VarHandle") {ps : List FieldType} {rt : Option FieldType} (hpd : parseMethodDescriptor y.desc = some ⟨ps, rt⟩) (hsz : Ls.size = c.maxLocals)
    (has : argsL.toArray = as') (hlen : argsL.length = ps.length) (hst : st = argsL.reverse ++ rest) (hd : decode c.code pc = .ok (.invokestatic index, 3)) (hce : cells + kc ≤ R.cells) (hsl : slots + ks ≤ R.slots)
    (K : ∀ (v : Option Value) (T' : State) (L : List Loc), Stand p l e R s m args below meth c T' (locs ++ L) (cells + kc) (slots + ks) → Q v T'.heap L → Go p.tables e below G (T'.setTop (mkF m (pc + 3) Ls (v.toList ++ rest)))) :
    Go p.tables e below G (T.setTop (mkF m pc Ls st)) := by
  obtain ⟨_, _, ⟨T1, L1, k1, n1⟩, -, X1, ⟨Lc, hQ, l1, y1, z1⟩, st1⟩ := Jvm.LawKit.callS X hx (y := y) hown (mvT hZ wl) (mvT hZ wst) (mvT hZ wz) (mvT hZ wc) hy hK (g := mkF m pc Ls st) rfl hsz (argsL := argsL) (rest := rest) (lenOf hpd hlen) hst (by show 2 * 0 + _ ≤ _; omega) hd (fun _ _ => ⟨has, eT, hce, hsl⟩)
  dsimp only [Pt.U, Pt.locs, Pt.cells, Pt.slots] at X1 l1 y1 z1 st1 hQ
  subst l1 y1 z1
  exact (K _ _ _ X1 hQ).via st1
/-- invokestatic by a narrow contract -/
theorem callS (X : Stand p l e R s m args below meth c T locs cells slots) (hx : p.tables.exec = Jvm.exec) (hZ : Z.Warmed39 s.vm) (hP : Pay l Z y bytes maxL ret rm as' h0 Q) (eT : T.heap = h0) {own : String} {index : Nat} (hown : s.vm.findClass own = some m.cls)
    (wl : (Cond.methodLink own index y).before a0 Z = true) (wst : (Cond.static y).before a0 Z = true) (wz : (Cond.initialized y.cls).before a0 Z = true) (wc : (Cond.code y bytes maxL ret).before a0 Z = true)
    (hy : y.cls ≠ "java/lang/invoke/MethodHandle" ∧ y.cls ≠ "java/lang/invoke/VarHandle") {ps : List FieldType} {rt : Option FieldType} (hpd : parseMethodDescriptor y.desc = some ⟨ps, rt⟩) (hsz : Ls.size = c.maxLocals)
    {argsL rest st : List Value} (has : argsL.toArray = as') (hlen : argsL.length = ps.length) (hst : st = argsL.reverse ++ rest) (hd : decode c.code pc = .ok (.invokestatic index, 3))
    (hf : (rm.frames + 1).ble R.frames = true) (hlo : ((rest.map fun v => v.category).sum + (maxL + 11) + rm.locals).ble R.locals = true) (hce : cells + rm.cells ≤ R.cells) (hsl : slots + rm.slots ≤ R.slots)
    (K : ∀ (v : Option Value) (T' : State) (L : List Loc), Stand p l e R s m args below meth c T' (locs ++ L) (cells + rm.cells) (slots + rm.slots) → Q v T'.heap L → Go p.tables e below G (T'.setTop (mkF m (pc + 3) Ls (v.toList ++ rest)))) :
    Go p.tables e below G (T.setTop (mkF m pc Ls st)) :=
  callSB X hx hZ (backOf (W := (rest.map fun v => v.category).sum) (hP []) hZ wc wz (Nat.le_of_ble_eq_true hf) (Nat.le_of_ble_eq_true hlo)) eT hown wl wst wz wc hy hpd hsz has hlen hst hd hce hsl K
/-- .. that moves nothing -/
theorem callSP (X : Stand p l e R s m args below meth c T locs cells slots) (hx : p.tables.exec = Jvm.exec) (hZ : Z.Warmed39 s.vm) {r : Option Value} (hP : Pay l Z y bytes maxL ret rm as' h0 (fun v h L => v = r ∧ h = h0 ∧ L = [])) (h0c : rm.cells = 0) (h0s : rm.slots = 0) (eT : T.heap = h0) {own : String} {index : Nat} (hown : s.vm.findClass own = some m.cls)
    (wl : (Cond.methodLink own index y).before a0 Z = true) (wst : (Cond.static y).before a0 Z = true) (wz : (Cond.initialized y.cls).before a0 Z = true) (wc : (Cond.code y bytes maxL ret).before a0 Z = true)
    (hy : y.cls ≠ "java/lang/invoke/MethodHandle" ∧ y.cls ≠ "java/lang/invoke/VarHandle") {ps : List FieldType} {rt : Option FieldType} (hpd : parseMethodDescriptor y.desc = some ⟨ps, rt⟩) (hsz : Ls.size = c.maxLocals)
    {argsL rest st : List Value} (has : argsL.toArray = as') (hlen : argsL.length = ps.length) (hst : st = argsL.reverse ++ rest) (hd : decode c.code pc = .ok (.invokestatic index, 3))
    (hf : (rm.frames + 1).ble R.frames = true) (hlo : ((rest.map fun v => v.category).sum + (maxL + 11) + rm.locals).ble R.locals = true) (hce : cells ≤ R.cells) (hsl : slots ≤ R.slots)
    (K : ∀ (T' : State), Stand p l e R s m args below meth c T' locs cells slots → T'.heap = h0 → Go p.tables e below G (T'.setTop (mkF m (pc + 3) Ls (r.toList ++ rest)))) :
    Go p.tables e below G (T.setTop (mkF m pc Ls st)) := by
  refine callS X hx hZ hP eT hown wl wst wz wc hy hpd hsz has hlen hst hd hf hlo (by rw [h0c]; exact hce) (by rw [h0s]; exact hsl) ?_
  rintro v T' L X' ⟨rfl, hh, rfl⟩
  rw [h0c, h0s, List.append_nil] at X'
  exact K T' X' hh
end Pays
end Jvm.Ow
namespace Jvm.Ow
open Sem ClassFile Op Lib Jvm.Stand Jvm.Free Jvm.LawKit Jvm.RoadKit
section Heaps
variable {p : Program} {l : Launch} {e : Env} {R : Room} {s : State} {m : MethodId} {args : Array Value} {below : List Frame} {meth : Method} {c : Code} {T : State} {locs : List Loc} {cells slots : Nat} {G : Outcome → State → Prop} {pc pc' : Nat} {Ls : Array Slot} {rest : List Value} {Z : State} {a0 : Array Value} {h : Heap}
theorem new_ (X : Stand p l e R s m args below meth c T locs cells slots) (hx : p.tables.exec = Jvm.exec) (hZ : Z.Warmed39 s.vm) {own C : String} {index n : Nat} (hown : s.vm.findClass own = some m.cls) (w : (Cond.classLink own index C).before a0 Z = true) (wi : (Cond.instantiable C n).before a0 Z = true) (wz : (Cond.initialized C).before a0 Z = true) (eT : T.heap = h)
    (hd : decode c.code pc = .ok (.new index, 3)) (hc : cells + 1 ≤ R.cells) (hl : slots + n ≤ R.slots)
    (K : ∀ T' h' (a : Addr), a = h.size → Stand p l e R s m args below meth c T' locs (cells + 1) (slots + n) → T'.heap = h' → Ext h h' → Exa Z h' a C → (∀ {O nm d : String} {ty : FieldType}, Laid Z a0 C O nm d → parseFieldDescriptor d = some ty → Fld Z h' a O nm d (defaultValue ty)) → (∃ cell : Cell, h'[a]? = some cell ∧ cell.vm = .none ∧ cell.monitor = {}) →
      Go p.tables e below G (T'.setTop (mkF m (pc + 3) Ls (.ref a :: rest)))) : Go p.tables e below G (T.setTop (mkF m pc Ls rest)) := by
  obtain ⟨T', h', X', e', E, A, D, U, st⟩ := newO X hx hZ hown w wi wz eT (g := mkF m pc Ls rest) rfl hd hc hl
  exact (K T' h' _ rfl X' e' E A D U).via st
theorem newarray (X : Stand p l e R s m args below meth c T locs cells slots) (hx : p.tables.exec = Jvm.exec) (hZ : Z.Warmed39 s.vm) {aty : ArrayType} (w : (Cond.arrayClass (newarray.typeOf aty)).before a0 Z = true) (eT : T.heap = h) (cap : Nat) {n : Int32}
    (hd : decode c.code pc = .ok (.newarray aty, 2)) (hn : ¬ n < 0) (hcap : n.toNatClampNeg ≤ cap) (hb : cap * 8 ≤ 536870912) (hc : cells + 1 ≤ R.cells) (hl : slots + cap ≤ R.slots)
    (K : ∀ T' h' cA (a : Addr), a = h.size → Stand p l e R s m args below meth c T' locs (cells + 1) (slots + cap) → T'.heap = h' → Ext h h' → Arr Z h' a (newA cA (newarray.typeOf aty) n) (newarray.typeOf aty) →
      Go p.tables e below G (T'.setTop (mkF m (pc + 2) Ls (.ref a :: rest)))) : Go p.tables e below G (T.setTop (mkF m pc Ls (.int n :: rest))) := by
  obtain ⟨T', h', cA, X', e', E, A, st⟩ := newP X hx hZ w eT (g := mkF m pc Ls (.int n :: rest)) rfl hd rfl hn hcap hb hc hl
  exact (K T' h' cA _ rfl X' e' E A).via st
theorem getfield (X : Stand p l e R s m args below meth c T locs cells slots) (hx : p.tables.exec = Jvm.exec) (hZ : Z.Warmed39 s.vm) {own R0 O n d : String} {index : Nat} (hown : s.vm.findClass own = some m.cls) (w : (Cond.fieldLink own index R0 n d).before a0 Z = true) (via : Via Z R0 O n d) (eT : T.heap = h) {a : Addr} {v : Value} (F : Fld Z h a O n d v)
    (hd : decode c.code pc = .ok (.getfield index, 3)) (K : ∀ T', Stand p l e R s m args below meth c T' locs cells slots → T'.heap = h → Go p.tables e below G (T'.setTop (mkF m (pc + 3) Ls (v :: rest)))) : Go p.tables e below G (T.setTop (mkF m pc Ls (.ref a :: rest))) := by
  obtain ⟨T', X', e', st⟩ := getF X hx hZ hown (host := "") (Or.inl w) via eT F (g := mkF m pc Ls (.ref a :: rest)) rfl rfl hd
  exact (K T' X' e').via st
theorem putfield (X : Stand p l e R s m args below meth c T locs cells slots) (hx : p.tables.exec = Jvm.exec) (hZ : Z.Warmed39 s.vm) {own R0 O n d C : String} {index kk : Nat} {ty : FieldType} (hown : s.vm.findClass own = some m.cls) (w : (Cond.fieldLink own index R0 n d).before a0 Z = true) (via : Via Z R0 O n d)
    (eT : T.heap = h) {a : Addr} {v old : Value} (F : Fld Z h a O n d old) (E : Exa Z h a C) (L : (Cond.lays C O n d).before a0 Z = true ∨ ((Cond.laysFinal C O n d).before a0 Z = true ∧ own = O ∧ meth.name = "<init>")) (wi : (Cond.instantiable C kk).before a0 Z = true)
    (hty : parseFieldDescriptor d = some ty) (hn : narrow ty v = v) (hf : fits ty v = true) (hd : decode c.code pc = .ok (.putfield index, 3))
    (K : ∀ T' h', Stand p l e R s m args below meth c T' (locs ++ [⟨a, RoadKit.slotOf Z O n d⟩]) cells slots → T'.heap = h' → Wr h h' a (RoadKit.slotOf Z O n d) v → Go p.tables e below G (T'.setTop (mkF m (pc + 3) Ls rest))) : Go p.tables e below G (T.setTop (mkF m pc Ls (v :: .ref a :: rest))) := by
  obtain ⟨T', h', X', e', W, st⟩ := putF X hx hZ hown (host := "") (Or.inl w) via eT F E L wi hty hn hf (g := mkF m pc Ls (v :: .ref a :: rest)) rfl rfl hd
  exact (K T' h' X' e' W).via st
theorem getstatic (X : Stand p l e R s m args below meth c T locs cells slots) (hx : p.tables.exec = Jvm.exec) (hZ : Z.Warmed39 s.vm) {own R0 O n d : String} {index : Nat} (hown : s.vm.findClass own = some m.cls) (w : (Cond.fieldLink own index R0 n d).before a0 Z = true) (via : Via Z R0 O n d) (eT : T.heap = h) {v : Value} (F : Sta Z h O n d v)
    (hd : decode c.code pc = .ok (.getstatic index, 3)) (K : ∀ T', Stand p l e R s m args below meth c T' locs cells slots → T'.heap = h → Go p.tables e below G (T'.setTop (mkF m (pc + 3) Ls (v :: rest)))) : Go p.tables e below G (T.setTop (mkF m pc Ls rest)) := by
  obtain ⟨T', X', e', st⟩ := getS (host := "") X hx hZ hown w via eT F (g := mkF m pc Ls rest) rfl hd
  exact (K T' X' e').via st
theorem objinit (X : Stand p l e R s m args below meth c T locs cells slots) (hx : p.tables.exec = Jvm.exec) (hZ : Z.Warmed39 s.vm) {own : String} {idx : Nat} (hown : s.vm.findClass own = some m.cls) (w1 : (Cond.methodLink own idx Lib.objectInit).before a0 Z = true) (w2 : (Cond.instanceMethod Lib.objectInit).before a0 Z = true)
    (w3 : (Cond.code Lib.objectInit ⟨#[0xb1]⟩ 1 none).before a0 Z = true) (eT : T.heap = h) (hsz : Ls.size = c.maxLocals) {a : Addr} (hd : decode c.code pc = .ok (.invokespecial idx, 3)) (hf : (1 : Nat).ble R.frames = true) (hl : ((rest.map fun v => v.category).sum + 12).ble R.locals = true)
    (K : ∀ T', Stand p l e R s m args below meth c T' locs cells slots → T'.heap = h → Go p.tables e below G (T'.setTop (mkF m (pc + 3) Ls rest))) : Go p.tables e below G (T.setTop (mkF m pc Ls (.ref a :: rest))) := by
  obtain ⟨T', X', e', st⟩ := initO X hx hZ hown w1 w2 w3 eT (g := mkF m pc Ls (.ref a :: rest)) rfl hsz rfl hd (Nat.le_of_ble_eq_true hf) (W := (rest.map fun v => v.category).sum) (by show 2 * 0 + _ ≤ _; omega) (Nat.le_of_ble_eq_true hl)
  exact (K T' X' e').via st
theorem castore (X : Stand p l e R s m args below meth c T locs cells slots) (hx : p.tables.exec = Jvm.exec) (hZ : Z.Warmed39 s.vm) (eT : T.heap = h) {a : Addr} {cl : Cell} (A : Arr Z h a cl .char) {j x : Int32} (hj : ¬ (j < 0 ∨ cl.slots.size ≤ j.toNatClampNeg)) (hd : decode c.code pc = .ok (.castore, 1))
    (K : ∀ T' h', Stand p l e R s m args below meth c T' (locs ++ [⟨a, j.toNatClampNeg⟩]) cells slots → T'.heap = h' → Wr h h' a j.toNatClampNeg (.int (nar .char x)) → Go p.tables e below G (T'.setTop (mkF m (pc + 1) Ls rest))) : Go p.tables e below G (T.setTop (mkF m pc Ls (.int x :: .int j :: .ref a :: rest))) := by
  obtain ⟨T', h', X', e', W, st⟩ := stC X hx hZ eT A hj (g := mkF m pc Ls (.int x :: .int j :: .ref a :: rest)) rfl rfl hd
  exact (K T' h' X' e' W).via st
theorem bastore (X : Stand p l e R s m args below meth c T locs cells slots) (hx : p.tables.exec = Jvm.exec) (hZ : Z.Warmed39 s.vm) (eT : T.heap = h) {a : Addr} {cl : Cell} (A : Arr Z h a cl .byte) {j x : Int32} (hj : ¬ (j < 0 ∨ cl.slots.size ≤ j.toNatClampNeg)) (hd : decode c.code pc = .ok (.bastore, 1))
    (K : ∀ T' h', Stand p l e R s m args below meth c T' (locs ++ [⟨a, j.toNatClampNeg⟩]) cells slots → T'.heap = h' → Wr h h' a j.toNatClampNeg (.int (nar .byte x)) → Go p.tables e below G (T'.setTop (mkF m (pc + 1) Ls rest))) : Go p.tables e below G (T.setTop (mkF m pc Ls (.int x :: .int j :: .ref a :: rest))) := by
  obtain ⟨T', h', X', e', W, st⟩ := stB X hx hZ eT A hj (g := mkF m pc Ls (.int x :: .int j :: .ref a :: rest)) rfl rfl hd
  exact (K T' h' X' e' W).via st
theorem zastore (X : Stand p l e R s m args below meth c T locs cells slots) (hx : p.tables.exec = Jvm.exec) (hZ : Z.Warmed39 s.vm) (eT : T.heap = h) {a : Addr} {cl : Cell} (A : Arr Z h a cl .boolean) {j x : Int32} (hj : ¬ (j < 0 ∨ cl.slots.size ≤ j.toNatClampNeg)) (hd : decode c.code pc = .ok (.bastore, 1))
    (K : ∀ T' h', Stand p l e R s m args below meth c T' (locs ++ [⟨a, j.toNatClampNeg⟩]) cells slots → T'.heap = h' → Wr h h' a j.toNatClampNeg (.int (nar .boolean x)) → Go p.tables e below G (T'.setTop (mkF m (pc + 1) Ls rest))) : Go p.tables e below G (T.setTop (mkF m pc Ls (.int x :: .int j :: .ref a :: rest))) := by
  obtain ⟨T', h', X', e', W, st⟩ := stZ X hx hZ eT A hj (g := mkF m pc Ls (.int x :: .int j :: .ref a :: rest)) rfl rfl hd
  exact (K T' h' X' e' W).via st
theorem iastore (X : Stand p l e R s m args below meth c T locs cells slots) (hx : p.tables.exec = Jvm.exec) (hZ : Z.Warmed39 s.vm) (eT : T.heap = h) {a : Addr} {cl : Cell} (A : Arr Z h a cl .int) {j x : Int32} (hj : ¬ (j < 0 ∨ cl.slots.size ≤ j.toNatClampNeg)) (hd : decode c.code pc = .ok (.iastore, 1))
    (K : ∀ T' h', Stand p l e R s m args below meth c T' (locs ++ [⟨a, j.toNatClampNeg⟩]) cells slots → T'.heap = h' → Wr h h' a j.toNatClampNeg (.int x) → Go p.tables e below G (T'.setTop (mkF m (pc + 1) Ls rest))) : Go p.tables e below G (T.setTop (mkF m pc Ls (.int x :: .int j :: .ref a :: rest))) := by
  obtain ⟨T', h', X', e', W, st⟩ := stI X hx hZ eT A hj (g := mkF m pc Ls (.int x :: .int j :: .ref a :: rest)) rfl rfl hd
  exact (K T' h' X' e' W).via st
theorem checkcast (X : Stand p l e R s m args below meth c T locs cells slots) (hx : p.tables.exec = Jvm.exec) (hZ : Z.Warmed39 s.vm) {own K0 : String} {index : Nat} (hown : s.vm.findClass own = some m.cls) (w : (Cond.classLink own index K0).before a0 Z = true) (eT : T.heap = h) {a : Addr} (F : Ins Z h a K0 true) (hd : decode c.code pc = .ok (.checkcast index, 3))
    (K : ∀ T', Stand p l e R s m args below meth c T' locs cells slots → T'.heap = h → Go p.tables e below G (T'.setTop (mkF m (pc + 3) Ls (.ref a :: rest)))) : Go p.tables e below G (T.setTop (mkF m pc Ls (.ref a :: rest))) := by
  obtain ⟨T', X', e', st⟩ := castY X hx hZ hown w eT F (g := mkF m pc Ls (.ref a :: rest)) rfl rfl hd
  exact (K T' X' e').via st
theorem instanceofY (X : Stand p l e R s m args below meth c T locs cells slots) (hx : p.tables.exec = Jvm.exec) (hZ : Z.Warmed39 s.vm) {own K0 : String} {index : Nat} (hown : s.vm.findClass own = some m.cls) (w : (Cond.classLink own index K0).before a0 Z = true) (eT : T.heap = h) {a : Addr} (F : Ins Z h a K0 true) (hd : decode c.code pc = .ok (.instanceof index, 3))
    (K : ∀ T', Stand p l e R s m args below meth c T' locs cells slots → T'.heap = h → Go p.tables e below G (T'.setTop (mkF m (pc + 3) Ls (.int 1 :: rest)))) : Go p.tables e below G (T.setTop (mkF m pc Ls (.ref a :: rest))) := by
  obtain ⟨T', X', e', st⟩ := instY X hx hZ hown w eT F (g := mkF m pc Ls (.ref a :: rest)) rfl rfl hd
  exact (K T' X' e').via st
end Heaps
section Calls
variable {l : Launch} {Z : State} {y : MethodName} {bytes : ByteArray} {maxL : Nat} {ret : Option FieldType} {rm : Room} {as' : Array Value} {h0 : Heap} {Q : Option Value → Heap → List Loc → Prop}
variable {p : Program} {e : Env} {R : Room} {s : State} {m : MethodId} {args : Array Value} {below : List Frame} {meth : Method} {c : Code} {T : State} {locs : List Loc} {cells slots : Nat} {G : Outcome → State → Prop} {pc : Nat} {Ls : Array Slot} {a0 : Array Value}
/-- invokespecial of a constructor, by whoever pays it -/
theorem callIB (X : Stand p l e R s m args below meth c T locs cells slots) (hx : p.tables.exec = Jvm.exec) (hZ : Z.Warmed39 s.vm) {a : Addr} {argsL rest st : List Value} {kc ks : Nat}
    (hK : Back l R p e below s args y 3 ((rest.map fun v => v.category).sum) (fun A a => a = as' ∧ A.U.heap = h0 ∧ A.cells + kc ≤ R.cells ∧ A.slots + ks ≤ R.slots) (fun A _ v B => ∃ L, Q v B.U.heap L ∧ B.locs = A.locs ++ L ∧ B.cells = A.cells + kc ∧ B.slots = A.slots + ks)) (eT : T.heap = h0) (hni : y.name = "<init>") {own : String} {index : Nat} (hown : s.vm.findClass own = some m.cls)
    (wl : (Cond.methodLink own index y).before a0 Z = true) (win : (Cond.instanceMethod y).before a0 Z = true) (wc : (Cond.code y bytes maxL none).before a0 Z = true)
    (hy : y.cls ≠ "java/lang/invoke/MethodHandle" ∧ y.cls ≠ "java/lang/invoke/VarHandle") {ps : List FieldType} {rt : Option FieldType} (hpd : parseMethodDescriptor y.desc = some ⟨ps, rt⟩) (hsz : Ls.size = c.maxLocals)
    (has : (.ref a :: argsL).toArray = as') (hlen : argsL.length = ps.length) (hst : st = argsL.reverse ++ .ref a :: rest) (hd : decode c.code pc = .ok (.invokespecial index, 3)) (hce : cells + kc ≤ R.cells) (hsl : slots + ks ≤ R.slots)
    (K : ∀ (v : Option Value) (T' : State) (L : List Loc), Stand p l e R s m args below meth c T' (locs ++ L) (cells + kc) (slots + ks) → Q v T'.heap L → Go p.tables e below G (T'.setTop (mkF m (pc + 3) Ls (v.toList ++ rest)))) :
    Go p.tables e below G (T.setTop (mkF m pc Ls st)) := by
  obtain ⟨_, _, ⟨T1, L1, k1, n1⟩, -, X1, ⟨Lc, hQ, l1, y1, z1⟩, st1⟩ := X.specialBack hx (y := y) hni hown (mvT hZ wl) (mvT hZ win) (mvT hZ wc) hy hK (g := mkF m pc Ls st) rfl hsz (Steps.refl _) (a := a) (argsL := argsL) (rest := rest) (lenOf hpd hlen) hst (by show 2 * 0 + _ ≤ _; omega) hd (fun _ _ => ⟨has, eT, hce, hsl⟩)
  dsimp only [Pt.U, Pt.locs, Pt.cells, Pt.slots] at X1 l1 y1 z1 st1 hQ
  subst l1 y1 z1
  exact (K _ _ _ X1 hQ).thru st1
/-- invokespecial of a constructor by a narrow contract -/
theorem callI (X : Stand p l e R s m args below meth c T locs cells slots) (hx : p.tables.exec = Jvm.exec) (hZ : Z.Warmed39 s.vm) (hP : Pay l Z y bytes maxL none rm as' h0 Q) (eT : T.heap = h0) (hni : y.name = "<init>") {own : String} {index : Nat} (hown : s.vm.findClass own = some m.cls)
    (wl : (Cond.methodLink own index y).before a0 Z = true) (win : (Cond.instanceMethod y).before a0 Z = true) (wz : (Cond.initialized y.cls).before a0 Z = true) (wc : (Cond.code y bytes maxL none).before a0 Z = true)
    (hy : y.cls ≠ "java/lang/invoke/MethodHandle" ∧ y.cls ≠ "java/lang/invoke/VarHandle") {ps : List FieldType} {rt : Option FieldType} (hpd : parseMethodDescriptor y.desc = some ⟨ps, rt⟩) (hsz : Ls.size = c.maxLocals)
    {a : Addr} {argsL rest st : List Value} (has : (.ref a :: argsL).toArray = as') (hlen : argsL.length = ps.length) (hst : st = argsL.reverse ++ .ref a :: rest) (hd : decode c.code pc = .ok (.invokespecial index, 3))
    (hf : (rm.frames + 1).ble R.frames = true) (hlo : ((rest.map fun v => v.category).sum + (maxL + 11) + rm.locals).ble R.locals = true) (hce : cells + rm.cells ≤ R.cells) (hsl : slots + rm.slots ≤ R.slots)
    (K : ∀ (v : Option Value) (T' : State) (L : List Loc), Stand p l e R s m args below meth c T' (locs ++ L) (cells + rm.cells) (slots + rm.slots) → Q v T'.heap L → Go p.tables e below G (T'.setTop (mkF m (pc + 3) Ls (v.toList ++ rest)))) :
    Go p.tables e below G (T.setTop (mkF m pc Ls st)) :=
  callIB X hx hZ (backOf (W := (rest.map fun v => v.category).sum) (hP []) hZ wc wz (Nat.le_of_ble_eq_true hf) (Nat.le_of_ble_eq_true hlo)) eT hni hown wl win wc hy hpd hsz has hlen hst hd hce hsl K
/-- invokevirtual, by whoever pays it: x is named, y is selected -/
theorem callVB (X : Stand p l e R s m args below meth c T locs cells slots) (hx : p.tables.exec = Jvm.exec) (hZ : Z.Warmed39 s.vm) {a : Addr} {argsL rest st : List Value} {kc ks : Nat}
    (hK : Back l R p e below s args y 3 ((rest.map fun v => v.category).sum) (fun A a => a = as' ∧ A.U.heap = h0 ∧ A.cells + kc ≤ R.cells ∧ A.slots + ks ≤ R.slots) (fun A _ v B => ∃ L, Q v B.U.heap L ∧ B.locs = A.locs ++ L ∧ B.cells = A.cells + kc ∧ B.slots = A.slots + ks)) (eT : T.heap = h0) {C : String} {own : String} {index : Nat} (hown : s.vm.findClass own = some m.cls)
    (wl : (Cond.methodLink own index y).before a0 Z = true) (wd : (Cond.declares y).before a0 Z = true) (wse : (Cond.selects C y y).before a0 Z = true) (win : (Cond.instanceMethod y).before a0 Z = true)
    (hy : y.cls ≠ "java/lang/invoke/MethodHandle" ∧ y.cls ≠ "java/lang/invoke/VarHandle") {ps : List FieldType} {rt : Option FieldType} (hpd : parseMethodDescriptor y.desc = some ⟨ps, rt⟩) (hsz : Ls.size = c.maxLocals)
    (E : Exa Z h0 a C) (has : (.ref a :: argsL).toArray = as') (hlen : argsL.length = ps.length) (hst : st = argsL.reverse ++ .ref a :: rest) (hd : decode c.code pc = .ok (.invokevirtual index, 3)) (hce : cells + kc ≤ R.cells) (hsl : slots + ks ≤ R.slots)
    (K : ∀ (v : Option Value) (T' : State) (L : List Loc), Stand p l e R s m args below meth c T' (locs ++ L) (cells + kc) (slots + ks) → Q v T'.heap L → Go p.tables e below G (T'.setTop (mkF m (pc + 3) Ls (v.toList ++ rest)))) :
    Go p.tables e below G (T.setTop (mkF m pc Ls st)) := by
  obtain ⟨cq, kq, qa, qb, qc⟩ := isOf hZ eT E
  obtain ⟨_, _, ⟨T1, L1, k1, n1⟩, -, X1, ⟨Lc, hQ, l1, y1, z1⟩, st1⟩ := X.virtualBack hx (y := y) (z := y) hown (mvT hZ wl) (mvT hZ wd) (notFace_of_selects (args := #[]) (mvT hZ wse)) (mvT hZ wse) (mvT hZ win) hy hK qa qc (g := mkF m pc Ls st) rfl hsz (Steps.refl _) (argsL := argsL) (rest := rest) (lenOf hpd hlen) hst (by show 2 * 0 + _ ≤ _; omega) hd (fun _ _ => ⟨has, eT, hce, hsl⟩)
  dsimp only [Pt.U, Pt.locs, Pt.cells, Pt.slots] at X1 l1 y1 z1 st1 hQ
  subst l1 y1 z1
  exact (K _ _ _ X1 hQ).thru st1
/-- invokevirtual by a narrow contract -/
theorem callV (X : Stand p l e R s m args below meth c T locs cells slots) (hx : p.tables.exec = Jvm.exec) (hZ : Z.Warmed39 s.vm) (hP : Pay l Z y bytes maxL ret rm as' h0 Q) (eT : T.heap = h0) {C : String} {own : String} {index : Nat} (hown : s.vm.findClass own = some m.cls)
    (wl : (Cond.methodLink own index y).before a0 Z = true) (wd : (Cond.declares y).before a0 Z = true) (wse : (Cond.selects C y y).before a0 Z = true) (win : (Cond.instanceMethod y).before a0 Z = true) (wz : (Cond.initialized y.cls).before a0 Z = true) (wc : (Cond.code y bytes maxL ret).before a0 Z = true)
    (hy : y.cls ≠ "java/lang/invoke/MethodHandle" ∧ y.cls ≠ "java/lang/invoke/VarHandle") {ps : List FieldType} {rt : Option FieldType} (hpd : parseMethodDescriptor y.desc = some ⟨ps, rt⟩) (hsz : Ls.size = c.maxLocals)
    {a : Addr} (E : Exa Z h0 a C) {argsL rest st : List Value} (has : (.ref a :: argsL).toArray = as') (hlen : argsL.length = ps.length) (hst : st = argsL.reverse ++ .ref a :: rest) (hd : decode c.code pc = .ok (.invokevirtual index, 3))
    (hf : (rm.frames + 1).ble R.frames = true) (hlo : ((rest.map fun v => v.category).sum + (maxL + 11) + rm.locals).ble R.locals = true) (hce : cells + rm.cells ≤ R.cells) (hsl : slots + rm.slots ≤ R.slots)
    (K : ∀ (v : Option Value) (T' : State) (L : List Loc), Stand p l e R s m args below meth c T' (locs ++ L) (cells + rm.cells) (slots + rm.slots) → Q v T'.heap L → Go p.tables e below G (T'.setTop (mkF m (pc + 3) Ls (v.toList ++ rest)))) :
    Go p.tables e below G (T.setTop (mkF m pc Ls st)) :=
  callVB X hx hZ (backOf (W := (rest.map fun v => v.category).sum) (hP []) hZ wc wz (Nat.le_of_ble_eq_true hf) (Nat.le_of_ble_eq_true hlo)) eT hown wl wd wse win hy hpd hsz E has hlen hst hd hce hsl K
/-- .. that moves nothing -/
theorem callVP (X : Stand p l e R s m args below meth c T locs cells slots) (hx : p.tables.exec = Jvm.exec) (hZ : Z.Warmed39 s.vm) {r : Option Value} (hP : Pay l Z y bytes maxL ret rm as' h0 (fun v h L => v = r ∧ h = h0 ∧ L = [])) (h0c : rm.cells = 0) (h0s : rm.slots = 0) (eT : T.heap = h0) {C : String} {own : String} {index : Nat} (hown : s.vm.findClass own = some m.cls)
    (wl : (Cond.methodLink own index y).before a0 Z = true) (wd : (Cond.declares y).before a0 Z = true) (wse : (Cond.selects C y y).before a0 Z = true) (win : (Cond.instanceMethod y).before a0 Z = true) (wz : (Cond.initialized y.cls).before a0 Z = true) (wc : (Cond.code y bytes maxL ret).before a0 Z = true)
    (hy : y.cls ≠ "java/lang/invoke/MethodHandle" ∧ y.cls ≠ "java/lang/invoke/VarHandle") {ps : List FieldType} {rt : Option FieldType} (hpd : parseMethodDescriptor y.desc = some ⟨ps, rt⟩) (hsz : Ls.size = c.maxLocals)
    {a : Addr} (E : Exa Z h0 a C) {argsL rest st : List Value} (has : (.ref a :: argsL).toArray = as') (hlen : argsL.length = ps.length) (hst : st = argsL.reverse ++ .ref a :: rest) (hd : decode c.code pc = .ok (.invokevirtual index, 3))
    (hf : (rm.frames + 1).ble R.frames = true) (hlo : ((rest.map fun v => v.category).sum + (maxL + 11) + rm.locals).ble R.locals = true) (hce : cells ≤ R.cells) (hsl : slots ≤ R.slots)
    (K : ∀ (T' : State), Stand p l e R s m args below meth c T' locs cells slots → T'.heap = h0 → Go p.tables e below G (T'.setTop (mkF m (pc + 3) Ls (r.toList ++ rest)))) :
    Go p.tables e below G (T.setTop (mkF m pc Ls st)) := by
  refine callV X hx hZ hP eT hown wl wd wse win wz wc hy hpd hsz E has hlen hst hd hf hlo (by rw [h0c]; exact hce) (by rw [h0s]; exact hsl) ?_
  rintro v T' L X' ⟨rfl, hh, rfl⟩
  rw [h0c, h0s, List.append_nil] at X'
  exact K T' X' hh
end Calls
end Jvm.Ow
namespace Jvm.Ow
open Sem ClassFile Op Lib Jvm.Stand Jvm.Free Jvm.LawKit Jvm.RoadKit
/-- an array whose slots are known, one by one -/
def AL (Z : State) (h : Heap) (a : Addr) (k : ClassId) (ty : FieldType) (vs : List Value) : Prop := ∃ c : Cell, Arr Z h a c ty ∧ c.cls = k ∧ c.slots = vs.toArray
/-- what has moved from h0 to h: the cells ws and new ones -/
def Eff (h0 h : Heap) (ws : List Addr) (L : List Loc) : Prop := Keep h0 h ws ∧ ∀ y ∈ L, y.base ∈ ws ∨ h0.size ≤ y.base
section ALs
variable {Z : State} {h h' h0 : Heap} {a b : Addr} {k : ClassId} {ty : FieldType} {vs : List Value} {v : Value} {ws ws' : List Addr} {L L' : List Loc} {sl : Nat} {C n d : String}
theorem AL.lt (A : AL Z h a k ty vs) : a < h.size := by obtain ⟨c, A, -⟩ := A; exact A.lt
theorem AL.ext (A : AL Z h a k ty vs) (E : Ext h h') : AL Z h' a k ty vs := by obtain ⟨c, A, r⟩ := A; exact ⟨c, A.ext E, r⟩
theorem AL.other (A : AL Z h b k ty vs) (W : Wr h h' a sl v) (q : b ≠ a) : AL Z h' b k ty vs := by obtain ⟨c, A, r⟩ := A; exact ⟨c, A.other W q, r⟩
theorem AL.keep (A : AL Z h a k ty vs) (K : Keep h h' ws) (q : a ∉ ws) : AL Z h' a k ty vs := by obtain ⟨c, A, r⟩ := A; exact ⟨c, ⟨K.2.1 a c A.1 q, A.2⟩, r⟩
theorem AL.new {z : Int32} (A : Arr Z h a (newA k ty z) ty) (vs : List Value) (q : List.replicate z.toNatClampNeg (defaultValue ty) = vs) : AL Z h a k ty vs := ⟨_, A, rfl, by rw [← q]; simp [newA]⟩
theorem AL.set (A : AL Z h a k ty vs) {i : Nat} (W : Wr h h' a i v) (vs' : List Value) (q : vs.set i v = vs') : AL Z h' a k ty vs' := by
  obtain ⟨c, A, r1, r2⟩ := A
  refine ⟨_, A.same W, r1, ?_⟩
  show c.slots.setIfInBounds i v = _
  rw [r2, ← q]; simp
theorem AL.arr (A : AL Z h a k ty vs) : ∃ c : Cell, Arr Z h a c ty ∧ c.cls = k ∧ c.slots.size = vs.length ∧ ∀ i : Nat, c.slots[i]? = vs[i]? := by
  obtain ⟨c, A, r1, r2⟩ := A
  exact ⟨c, A, r1, by rw [r2]; simp, fun i => by rw [r2]; simp⟩
theorem AL.arv (A : AL Z h a k ty vs) {z : Int32} {dv : Value} (hz : ¬ z < 0) (hl : z.toNatClampNeg = vs.length) (hf : ∀ v ∈ vs, fits ty v = true) : Arv Z h a k ty z vs dv := by
  obtain ⟨c, A, r1, r2, r3⟩ := A.arr
  refine ⟨c, A, r1, by rw [r2, hl], hz, fun i hi => ?_, fun i hi => ?_⟩
  · rw [r3, List.getD_eq_getElem?_getD, List.getElem?_eq_getElem (by omega)]; rfl
  · rw [List.getD_eq_getElem?_getD, List.getElem?_eq_getElem (by omega)]; exact hf _ (List.getElem_mem _)
theorem AL.of_arv {z : Int32} {dv : Value} (A : Arv Z h a k ty z vs dv) (hl : z.toNatClampNeg = vs.length) : AL Z h a k ty vs := by
  obtain ⟨c, A, r1, r2, r3, H, -⟩ := A
  refine ⟨c, A, r1, Array.ext_getElem? fun i => ?_⟩
  by_cases q : i < c.slots.size
  · rw [H i q, List.getD_eq_getElem?_getD]
    have : i < vs.length := by omega
    simp [this]
  · rw [Array.getElem?_eq_none (by omega)]
    have : vs.length ≤ i := by omega
    simp [this]
theorem Eff.refl (h : Heap) (ws : List Addr) : Eff h h ws [] := ⟨Keep.refl h ws, fun _ q => nomatch q⟩
theorem Eff.size (F : Eff h0 h ws L) : h0.size ≤ h.size := F.1.1
theorem Eff.ext (F : Eff h0 h ws L) (E : Ext h h') : Eff h0 h' ws L := ⟨F.1.ext E, F.2⟩
theorem Eff.wr (F : Eff h0 h ws L) (W : Wr h h' a sl v) (q : a ∈ ws ∨ h0.size ≤ a) : Eff h0 h' ws (L ++ [⟨a, sl⟩]) := ⟨F.1.wr W q, fun y hy => by
  rcases List.mem_append.mp hy with hy | hy
  · exact F.2 y hy
  · cases List.mem_singleton.mp hy; exact q⟩
theorem Eff.call (F : Eff h0 h ws L) (F' : Eff h h' ws' L') (q : ∀ x ∈ ws', x ∈ ws ∨ h0.size ≤ x) : Eff h0 h' ws (L ++ L') := ⟨F.1.trans F'.1 q, fun y hy => by
  rcases List.mem_append.mp hy with hy | hy
  · exact F.2 y hy
  · rcases F'.2 y hy with r | r
    · exact q _ r
    · exact Or.inr (Nat.le_trans F.1.1 r)⟩
theorem Eff.app0 (F : Eff h0 h ws L) : Eff h0 h ws (L ++ []) := by rw [List.append_nil]; exact F
theorem Eff.fr (F : Eff h0 h [] L) : Fr h0.size L := fun y hy => (F.2 y hy).elim (fun q => nomatch q) id
theorem Eff.keep (F : Eff h0 h ws L) : Keep h0 h ws := F.1
theorem ext_ne (q : a < h.size) : a ≠ h.size := Nat.ne_of_lt q
theorem Keep.ext0 (K : Keep h h' []) : Ext h h' := ⟨K.1, fun x c q => K.2.1 x c q nin0⟩
end ALs
section ALsteps
variable {p : Program} {l : Launch} {e : Env} {R : Room} {s : State} {m : MethodId} {args : Array Value} {below : List Frame} {meth : Method} {c : Code} {T : State} {locs : List Loc} {cells slots : Nat} {G : Outcome → State → Prop} {pc pc' : Nat} {Ls : Array Slot} {rest : List Value} {Z : State} {a0 : Array Value} {h : Heap} {a : Addr} {kc : ClassId} {vs : List Value}
theorem inb {c : Cell} {j : Int32} (hs : c.slots.size = vs.length) (h0 : ¬ j < 0) {i : Nat} (hi : j.toNatClampNeg = i) (hl : i < vs.length) : ¬ (j < 0 ∨ c.slots.size ≤ j.toNatClampNeg) := by
  rw [hi, hs]; exact fun q => q.elim h0 (Nat.not_le.mpr hl)
/-- newarray: all slots at their first value -/
theorem newarrayL (X : Stand p l e R s m args below meth c T locs cells slots) (hx : p.tables.exec = Jvm.exec) (hZ : Z.Warmed39 s.vm) {aty : ArrayType} (w : (Cond.arrayClass (newarray.typeOf aty)).before a0 Z = true) (eT : T.heap = h) (cap : Nat) {n : Int32} (vs : List Value) (hvs : List.replicate n.toNatClampNeg (defaultValue (newarray.typeOf aty)) = vs)
    (hd : decode c.code pc = .ok (.newarray aty, 2)) (hn : ¬ n < 0) (hcap : n.toNatClampNeg ≤ cap) (hb : cap * 8 ≤ 536870912) (hc : cells + 1 ≤ R.cells) (hl : slots + cap ≤ R.slots)
    (K : ∀ T' h' cA (a : Addr), a = h.size → Stand p l e R s m args below meth c T' locs (cells + 1) (slots + cap) → T'.heap = h' → Ext h h' → AL Z h' a cA (newarray.typeOf aty) vs →
      Go p.tables e below G (T'.setTop (mkF m (pc + 2) Ls (.ref a :: rest)))) : Go p.tables e below G (T.setTop (mkF m pc Ls (.int n :: rest))) :=
  newarray X hx hZ w eT cap hd hn hcap hb hc hl fun T' h' cA a ha X' e' E A => K T' h' cA a ha X' e' E (AL.new A vs hvs)
theorem castoreL (X : Stand p l e R s m args below meth c T locs cells slots) (hx : p.tables.exec = Jvm.exec) (hZ : Z.Warmed39 s.vm) (eT : T.heap = h) (A : AL Z h a kc .char vs) {j x : Int32} (i : Nat) (vs' : List Value) (hj0 : ¬ j < 0) (hj : j.toNatClampNeg = i) (hi : i.blt vs.length = true) (hvs : vs.set i (.int (nar .char x)) = vs') (hd : decode c.code pc = .ok (.castore, 1))
    (K : ∀ T' h', Stand p l e R s m args below meth c T' (locs ++ [⟨a, i⟩]) cells slots → T'.heap = h' → Wr h h' a i (.int (nar .char x)) → AL Z h' a kc .char vs' → Go p.tables e below G (T'.setTop (mkF m (pc + 1) Ls rest))) : Go p.tables e below G (T.setTop (mkF m pc Ls (.int x :: .int j :: .ref a :: rest))) := by
  obtain ⟨cl, Ar, -, q2, -⟩ := A.arr
  have hi' : i < vs.length := by simpa [Nat.blt_eq] using hi
  refine castore X hx hZ eT Ar (inb q2 hj0 hj hi') hd ?_
  rw [hj]
  exact fun T' h' X' e' W => K T' h' X' e' W (A.set W vs' hvs)
theorem bastoreL (X : Stand p l e R s m args below meth c T locs cells slots) (hx : p.tables.exec = Jvm.exec) (hZ : Z.Warmed39 s.vm) (eT : T.heap = h) (A : AL Z h a kc .byte vs) {j x : Int32} (i : Nat) (vs' : List Value) (hj0 : ¬ j < 0) (hj : j.toNatClampNeg = i) (hi : i.blt vs.length = true) (hvs : vs.set i (.int (nar .byte x)) = vs') (hd : decode c.code pc = .ok (.bastore, 1))
    (K : ∀ T' h', Stand p l e R s m args below meth c T' (locs ++ [⟨a, i⟩]) cells slots → T'.heap = h' → Wr h h' a i (.int (nar .byte x)) → AL Z h' a kc .byte vs' → Go p.tables e below G (T'.setTop (mkF m (pc + 1) Ls rest))) : Go p.tables e below G (T.setTop (mkF m pc Ls (.int x :: .int j :: .ref a :: rest))) := by
  obtain ⟨cl, Ar, -, q2, -⟩ := A.arr
  have hi' : i < vs.length := by simpa [Nat.blt_eq] using hi
  refine bastore X hx hZ eT Ar (inb q2 hj0 hj hi') hd ?_
  rw [hj]
  exact fun T' h' X' e' W => K T' h' X' e' W (A.set W vs' hvs)
theorem zastoreL (X : Stand p l e R s m args below meth c T locs cells slots) (hx : p.tables.exec = Jvm.exec) (hZ : Z.Warmed39 s.vm) (eT : T.heap = h) (A : AL Z h a kc .boolean vs) {j x : Int32} (i : Nat) (vs' : List Value) (hj0 : ¬ j < 0) (hj : j.toNatClampNeg = i) (hi : i.blt vs.length = true) (hvs : vs.set i (.int (nar .boolean x)) = vs') (hd : decode c.code pc = .ok (.bastore, 1))
    (K : ∀ T' h', Stand p l e R s m args below meth c T' (locs ++ [⟨a, i⟩]) cells slots → T'.heap = h' → Wr h h' a i (.int (nar .boolean x)) → AL Z h' a kc .boolean vs' → Go p.tables e below G (T'.setTop (mkF m (pc + 1) Ls rest))) : Go p.tables e below G (T.setTop (mkF m pc Ls (.int x :: .int j :: .ref a :: rest))) := by
  obtain ⟨cl, Ar, -, q2, -⟩ := A.arr
  have hi' : i < vs.length := by simpa [Nat.blt_eq] using hi
  refine zastore X hx hZ eT Ar (inb q2 hj0 hj hi') hd ?_
  rw [hj]
  exact fun T' h' X' e' W => K T' h' X' e' W (A.set W vs' hvs)
theorem caloadL (X : Stand p l e R s m args below meth c T locs cells slots) (hx : p.tables.exec = Jvm.exec) (hZ : Z.Warmed39 s.vm) (eT : T.heap = h) (A : AL Z h a kc .char vs) {j : Int32} (i : Nat) (v : Value) (hj0 : ¬ j < 0) (hj : j.toNatClampNeg = i) (hv : vs[i]? = some v) (hd : decode c.code pc = .ok (.caload, 1)) (K : Go p.tables e below G (T.setTop (mkF m (pc + 1) Ls (v :: rest)))) : Go p.tables e below G (T.setTop (mkF m pc Ls (.int j :: .ref a :: rest))) := by
  obtain ⟨cl, Ar, -, q2, q3⟩ := A.arr
  exact caload X hx hZ eT v Ar (inb q2 hj0 hj (List.getElem?_eq_some_iff.mp hv).1) (by rw [hj, q3]; exact hv) hd K
theorem baloadL (X : Stand p l e R s m args below meth c T locs cells slots) (hx : p.tables.exec = Jvm.exec) (hZ : Z.Warmed39 s.vm) (eT : T.heap = h) (A : AL Z h a kc .byte vs) {j : Int32} (i : Nat) (v : Value) (hj0 : ¬ j < 0) (hj : j.toNatClampNeg = i) (hv : vs[i]? = some v) (hd : decode c.code pc = .ok (.baload, 1)) (K : Go p.tables e below G (T.setTop (mkF m (pc + 1) Ls (v :: rest)))) : Go p.tables e below G (T.setTop (mkF m pc Ls (.int j :: .ref a :: rest))) := by
  obtain ⟨cl, Ar, -, q2, q3⟩ := A.arr
  exact baload X hx hZ eT v Ar (inb q2 hj0 hj (List.getElem?_eq_some_iff.mp hv).1) (by rw [hj, q3]; exact hv) hd K
theorem zaloadL (X : Stand p l e R s m args below meth c T locs cells slots) (hx : p.tables.exec = Jvm.exec) (hZ : Z.Warmed39 s.vm) (eT : T.heap = h) (A : AL Z h a kc .boolean vs) {j : Int32} (i : Nat) (v : Value) (hj0 : ¬ j < 0) (hj : j.toNatClampNeg = i) (hv : vs[i]? = some v) (hd : decode c.code pc = .ok (.baload, 1)) (K : Go p.tables e below G (T.setTop (mkF m (pc + 1) Ls (v :: rest)))) : Go p.tables e below G (T.setTop (mkF m pc Ls (.int j :: .ref a :: rest))) := by
  obtain ⟨cl, Ar, -, q2, q3⟩ := A.arr
  exact zaload X hx hZ eT v Ar (inb q2 hj0 hj (List.getElem?_eq_some_iff.mp hv).1) (by rw [hj, q3]; exact hv) hd K
theorem aaloadL (X : Stand p l e R s m args below meth c T locs cells slots) (hx : p.tables.exec = Jvm.exec) (hZ : Z.Warmed39 s.vm) (eT : T.heap = h) {ty : FieldType} (A : AL Z h a kc ty vs) (hty : ty.isReference = true) {j : Int32} (i : Nat) (v : Value) (hj0 : ¬ j < 0) (hj : j.toNatClampNeg = i) (hv : vs[i]? = some v) (hd : decode c.code pc = .ok (.aaload, 1)) (K : Go p.tables e below G (T.setTop (mkF m (pc + 1) Ls (v :: rest)))) : Go p.tables e below G (T.setTop (mkF m pc Ls (.int j :: .ref a :: rest))) := by
  obtain ⟨cl, Ar, -, q2, q3⟩ := A.arr
  exact aaload X hx hZ eT v Ar hty (inb q2 hj0 hj (List.getElem?_eq_some_iff.mp hv).1) (by rw [hj, q3]; exact hv) hd K
theorem lengthL (X : Stand p l e R s m args below meth c T locs cells slots) (hx : p.tables.exec = Jvm.exec) (hZ : Z.Warmed39 s.vm) (eT : T.heap = h) {ty : FieldType} (A : AL Z h a kc ty vs) (N : Int32) (hN : vs.length.toInt32 = N) (hd : decode c.code pc = .ok (.arraylength, 1)) (K : Go p.tables e below G (T.setTop (mkF m (pc + 1) Ls (.int N :: rest)))) : Go p.tables e below G (T.setTop (mkF m pc Ls (.ref a :: rest))) := by
  obtain ⟨cl, Ar, -, q2, -⟩ := A.arr
  exact arraylength X hx hZ eT N Ar (by rw [q2]; exact hN) hd K
/-- a place where roads meet with an int on the stack: first what lies behind it, then the roads -/
theorem joinI (X : Stand p l e R s m args below meth c T locs cells slots) (eT : T.heap = h) (P : Int32 → Prop) (pcJ : Nat) {st : List Value}
    (J : ∀ v T', Stand p l e R s m args below meth c T' locs cells slots → T'.heap = h → P v → Go p.tables e below G (T'.setTop (mkF m pcJ Ls (.int v :: st))))
    (K : (∀ v T', Stand p l e R s m args below meth c T' locs cells slots → T'.heap = h → P v → Go p.tables e below G (T'.setTop (mkF m pcJ Ls (.int v :: st)))) → Go p.tables e below G (T.setTop (mkF m pc Ls st))) : Go p.tables e below G (T.setTop (mkF m pc Ls st)) := K J
/-- .. with other locals and nothing new on the stack -/
theorem join0 (X : Stand p l e R s m args below meth c T locs cells slots) (eT : T.heap = h) (P : Array Slot → Prop) (pcJ : Nat) {st : List Value}
    (J : ∀ L2 T', Stand p l e R s m args below meth c T' locs cells slots → T'.heap = h → P L2 → Go p.tables e below G (T'.setTop (mkF m pcJ L2 st)))
    (K : (∀ L2 T', Stand p l e R s m args below meth c T' locs cells slots → T'.heap = h → P L2 → Go p.tables e below G (T'.setTop (mkF m pcJ L2 st))) → Go p.tables e below G (T.setTop (mkF m pc Ls st))) : Go p.tables e below G (T.setTop (mkF m pc Ls st)) := K J
end ALsteps
end Jvm.Ow
namespace Jvm.Ow
open Sem ClassFile Op Lib Jvm.Stand Jvm.Free Jvm.LawKit Jvm.RoadKit
/-- what a walk that may load literals bears besides its Stand over (s.setVm vm0): s is the method's start, h the heap at hand -/
def Wd (s Z : State) (EL : List (String × Nat)) (vm0 : Vm) (h : Heap) : Prop := (∃ k0, s.Since vm0 k0 ∧ k0 ≤ h.size) ∧ Z.Warmed39 vm0 ∧ CHr Z EL s.vm s.heap vm0 h
section Wides
variable {s Z : State} {EL : List (String × Nat)} {vm0 vm1 : Vm} {h h' : Heap}
theorem Wd.hZ (D : Wd s Z EL vm0 h) : Z.Warmed39 vm0 := D.2.1
theorem Wd.ch (D : Wd s Z EL vm0 h) : CHv Z EL vm0 h := D.2.2.1
theorem Wd.start (hZ : Z.Warmed39 s.vm) (H : CHv Z EL s.vm s.heap) : Wd s Z EL s.vm s.heap := ⟨⟨_, (State.WarmedH.refl s).since s.heap.size, Nat.le_refl _⟩, hZ, CHr.refl H⟩
theorem Wd.to (D : Wd s Z EL vm0 h) (C : CHr Z EL vm0 h vm0 h') : Wd s Z EL vm0 h' := by
  obtain ⟨⟨k0, h1, h2⟩, h3, h4⟩ := D
  exact ⟨⟨k0, h1, Nat.le_trans h2 C.2.1⟩, h3, h4.trans C⟩
theorem Wd.ext (D : Wd s Z EL vm0 h) (E : Ext h h') : Wd s Z EL vm0 h' := D.to (CHr.ext E D.ch)
theorem Wd.wr (D : Wd s Z EL vm0 h) {a : Addr} {sl : Nat} {v : Value} (W : Wr h h' a sl v) (S : Safe Z EL vm0 h a) : Wd s Z EL vm0 h' := D.to (CHr.wr W S D.ch)
theorem Wd.keep (D : Wd s Z EL vm0 h) {ws : List Addr} (K : Keep h h' ws) (S : ∀ x ∈ ws, Safe Z EL vm0 h x) : Wd s Z EL vm0 h' := D.to (CHr.keep K S D.ch)
theorem Wd.safeExt (D : Wd s Z EL vm0 h) (E : Ext h h') {x : Addr} (S : Safe Z EL vm0 h x) : Safe Z EL vm0 h' x := S.ext E D.ch
theorem Wd.safeNew (D : Wd s Z EL vm0 h) (E : Ext h h') : Safe Z EL vm0 h' h.size := (Safe.new (Nat.le_refl _)).ext E D.ch
theorem Wd.safeWr (D : Wd s Z EL vm0 h) {a : Addr} {sl : Nat} {v : Value} (W : Wr h h' a sl v) (S : Safe Z EL vm0 h a) {x : Addr} (Sx : Safe Z EL vm0 h x) : Safe Z EL vm0 h' x := Safe.wr W S D.ch Sx
theorem Wd.safeKeep (D : Wd s Z EL vm0 h) {ws : List Addr} (K : Keep h h' ws) (S : ∀ x ∈ ws, Safe Z EL vm0 h x) {x : Addr} (Sx : Safe Z EL vm0 h x) : Safe Z EL vm0 h' x := Sx.keep K S D.ch
/-- what a wide contract says of its end -/
abbrev EndW (Z : State) (EL : List (String × Nat)) (s : State) (Q : Option Value → Heap → List Loc → Prop) (k n : Nat) : Outcome → State → Prop := fun o t => ∃ v L, o = .returned v ∧ Q v t.heap L ∧ CHr Z EL s.vm s.heap t.vm t.heap ∧ ReturnedEndW s o t L k n
variable {p : Program} {l : Launch} {e : Env} {R : Room} {m : MethodId} {args : Array Value} {below : List Frame} {meth : Method} {c : Code} {T : State} {locs : List Loc} {cells slots : Nat} {pc pc' : Nat} {Ls : Array Slot} {rest : List Value} {Q : Option Value → Heap → List Loc → Prop} {k n : Nat} {a0 : Array Value}
theorem sbn_mono {s t : State} {o : Outcome} {L : List Loc} {k n k' n' : Nat} (h : ReturnedEndW s o t L k n) (hk : k ≤ k') (hn : n ≤ n') : ReturnedEndW s o t L k' n' := ⟨h.1, h.2.1, h.2.2.1, h.2.2.2.mono hk hn⟩
theorem fin_ofW (X : Stand p l e R (s.setVm vm0) m args below meth c T locs cells slots) (eT : T.heap = h) (D : Wd s Z EL vm0 h) (hEL : EW Z a0 EL) (hlk : meth.locks = false) {v : Option Value} (hv : meth.sig.returnType = none → v = none) {g : JFrame} (st : ∀ fs, (∀ (f : JFrame) (acts : List Action), f.method = m → f.locked = none → f.entered = [] → (doReturn e (T.setTop f) acts v).1 = T.setFrames fs) → Steps p.tables e below (T.setTop g) (T.setFrames fs)) (hQ : Q v T.heap locs) (hk : cells ≤ k) (hn : slots ≤ n) : Go p.tables e below (EndW Z EL s Q k n) (T.setTop g) := by
  subst eT
  obtain ⟨⟨k0, hS, hk0⟩, hZ, C⟩ := D
  have A : CHr Z EL s.vm s.heap T.vm T.heap := C.trans (CHv.at X hZ hEL C.1)
  obtain ⟨fs, hr, hrun, hended, hE⟩ := X.leaveW hS hk0 (v := v) hv hlk
  exact ⟨_, _, st fs hr, hrun, hended, _, _, rfl, hQ, A, sbn_mono hE hk hn⟩
theorem ireturnW (X : Stand p l e R (s.setVm vm0) m args below meth c T locs cells slots) (hx : p.tables.exec = Jvm.exec) (eT : T.heap = h) (D : Wd s Z EL vm0 h) (hEL : EW Z a0 EL) (hlk : meth.locks = false) {z : Int32} (hret : meth.sig.returnType = some .int) (hd : decode c.code pc = .ok (.ireturn, 1)) (hQ : Q (some (.int z)) T.heap locs) (hk : cells ≤ k) (hn : slots ≤ n) : Go p.tables e below (EndW Z EL s Q k n) (T.setTop (mkF m pc Ls (.int z :: rest))) :=
  fin_ofW X eT D hEL hlk (v := some (.int z)) (fun h => by rw [hret] at h; cases h) (fun fs hr => retOut X hx hret rfl (Or.inl ⟨rfl, Or.inl rfl, z, rfl⟩) hd hr) hQ hk hn
theorem nreturnW (X : Stand p l e R (s.setVm vm0) m args below meth c T locs cells slots) (hx : p.tables.exec = Jvm.exec) (eT : T.heap = h) (D : Wd s Z EL vm0 h) (hEL : EW Z a0 EL) (hlk : meth.locks = false) {z : Int32} {t : FieldType} (hret : meth.sig.returnType = some t) (ht : t = .boolean ∨ t = .byte ∨ t = .char ∨ t = .short) (hd : decode c.code pc = .ok (.ireturn, 1)) (hQ : Q (some (.int (nar t z))) T.heap locs) (hk : cells ≤ k) (hn : slots ≤ n) : Go p.tables e below (EndW Z EL s Q k n) (T.setTop (mkF m pc Ls (.int z :: rest))) :=
  fin_ofW X eT D hEL hlk (v := some (.int (nar t z))) (fun h => by rw [hret] at h; cases h) (fun fs hr => retN X hx hret ht hd hr) hQ hk hn
theorem areturnW (X : Stand p l e R (s.setVm vm0) m args below meth c T locs cells slots) (hx : p.tables.exec = Jvm.exec) (eT : T.heap = h) (D : Wd s Z EL vm0 h) (hEL : EW Z a0 EL) (hlk : meth.locks = false) {w : Value} {t : FieldType} (hret : meth.sig.returnType = some t) (ht : t.isReference = true) (hw : w.isRef = true) (hna : narrow t w = w) (hd : decode c.code pc = .ok (.areturn, 1)) (hQ : Q (some w) T.heap locs) (hk : cells ≤ k) (hn : slots ≤ n) : Go p.tables e below (EndW Z EL s Q k n) (T.setTop (mkF m pc Ls (w :: rest))) :=
  fin_ofW X eT D hEL hlk (v := some w) (fun h => by rw [hret] at h; cases h) (fun fs hr => retOut X hx hret hna (Or.inr (Or.inr (Or.inr (Or.inr ⟨rfl, ht, hw⟩)))) hd hr) hQ hk hn
theorem vreturnW (X : Stand p l e R (s.setVm vm0) m args below meth c T locs cells slots) (hx : p.tables.exec = Jvm.exec) (eT : T.heap = h) (D : Wd s Z EL vm0 h) (hEL : EW Z a0 EL) (hlk : meth.locks = false) (hret : meth.sig.returnType = none) (hd : decode c.code pc = .ok (.return_, 1)) (hQ : Q none T.heap locs) (hk : cells ≤ k) (hn : slots ≤ n) : Go p.tables e below (EndW Z EL s Q k n) (T.setTop (mkF m pc Ls [])) :=
  fin_ofW X eT D hEL hlk (v := none) (fun _ => rfl) (fun fs hr => X.returnOut hx hret hd hr) hQ hk hn
/-- ldc of a literal whose text is held -/
theorem ldcS {G : Outcome → State → Prop} (X : Stand p l e R (s.setVm vm0) m args below meth c T locs cells slots) (hx : p.tables.exec = Jvm.exec) (eT : T.heap = h) (D : Wd s Z EL vm0 h) (hEL : EW Z a0 EL) {own text : String} {index : Nat} (hown : vm0.findClass own = some m.cls) (w : (Cond.stringLink own index text).before a0 Z = true) (wS : ∀ a ∈ Bundle.stringAtoms, a.before a0 Z = true) (hmem : (own, index) ∈ EL)
    {vs : List Value} {z : Int32} (ht : (∀ c ∈ text.toList, c.toNat < 256) ∧ text.toList.map (fun c => Value.int (Jvm.Lit.byteI c.toNat.toUInt16)) = vs) (hz : ¬ z < 0) (hl : z.toNatClampNeg = vs.length) (hd : decode c.code pc = .ok (.ldc index, 2)) (n : Nat) (hn : 4 * text.toList.length ≤ n) (hbig : n ≤ 536870912) (hc : cells + 2 ≤ R.cells) (hl' : slots + (n + 4) ≤ R.slots)
    (K : ∀ (vm1 : Vm) (a : Addr) (T' : State) (h' : Heap) (b : Addr) (kc : ClassId), Stand p l e R (s.setVm vm1) m args below meth c T' locs (cells + 2) (slots + (n + 4)) → T'.heap = h' → Ext h h' → Wd s Z EL vm1 h' → vm1.findClass own = some m.cls → CHr Z EL vm0 h vm1 h' →
      Exa Z h' a "java/lang/String" → Fld Z h' a "java/lang/String" "coder" "B" (.int 0) → Fld Z h' a "java/lang/String" "value" "[B" (.ref b) → Arv Z h' b kc .byte z vs (.int 0) → (∀ x, Safe Z EL vm1 h' x → x ≠ a ∧ x ≠ b) → Go p.tables e below G (T'.setTop (mkF m (pc + 2) Ls (.ref a :: rest)))) : Go p.tables e below G (T.setTop (mkF m pc Ls rest)) := by
  obtain ⟨⟨k0, hS, hk0⟩, hZ, C⟩ := D
  obtain ⟨a, T', h', k1, b, kc, X', e', E, hS', hk1, hW, hf, A, F1, F2, V, -, -, C', -, hne, st⟩ := ldcCH X hx hZ hown w wS eT hS hk0 hEL hmem C.1 ht hz hl (g := mkF m pc Ls rest) rfl hd hn hbig hc hl'
  exact (K T'.vm a T' h' b kc X' e' E ⟨⟨k1, hS', hk1⟩, hW, C.trans C'⟩ hf C' A F1 F2 V hne).via st
/-- ldc of any literal, its text unread -/
theorem ldcO {G : Outcome → State → Prop} (X : Stand p l e R (s.setVm vm0) m args below meth c T locs cells slots) (hx : p.tables.exec = Jvm.exec) (eT : T.heap = h) (D : Wd s Z EL vm0 h) (hEL : EW Z a0 EL) {own text : String} {index : Nat} (hown : vm0.findClass own = some m.cls) (w : (Cond.stringLink own index text).before a0 Z = true) (wS : ∀ a ∈ Bundle.stringAtoms, a.before a0 Z = true)
    (hd : decode c.code pc = .ok (.ldc index, 2)) (n : Nat) (hn : 4 * text.toList.length ≤ n) (hbig : n ≤ 536870912) (hc : cells + 2 ≤ R.cells) (hl' : slots + (n + 4) ≤ R.slots)
    (K : ∀ (vm1 : Vm) (a : Addr) (T' : State) (h' : Heap), Stand p l e R (s.setVm vm1) m args below meth c T' locs (cells + 2) (slots + (n + 4)) → T'.heap = h' → Ext h h' → Wd s Z EL vm1 h' → vm1.findClass own = some m.cls → CHr Z EL vm0 h vm1 h' → Go p.tables e below G (T'.setTop (mkF m (pc + 2) Ls (.ref a :: rest)))) : Go p.tables e below G (T.setTop (mkF m pc Ls rest)) := by
  obtain ⟨⟨k0, hS, hk0⟩, hZ, C⟩ := D
  obtain ⟨a, T', h', k1, X', e', E, hS', hk1, hW, hf, C', -, st⟩ := ldcOH X hx hZ hown w wS eT hS hk0 hEL C.1 (g := mkF m pc Ls rest) rfl hd hn hbig hc hl'
  exact (K T'.vm a T' h' X' e' E ⟨⟨k1, hS', hk1⟩, hW, C.trans C'⟩ hf C').via st
end Wides
section PaysW
/-- a wide contract; the cells sf are none of a booked literal's -/
def PayW (l : Launch) (Z : State) (EL : List (String × Nat)) (sf : List Addr) (y : MethodName) (bytes : ByteArray) (maxL : Nat) (ret : Option FieldType) (rm : Room) (as' : Array Value) (h0 : Heap) (Q : Option Value → Heap → List Loc → Prop) : Prop :=
  ∀ ws : List Jvm.Cond, MetFree l y (head1 (Jvm.Cond.code y bytes maxL ret :: ws) rm) (fun a U => a = as' ∧ Z.Warmed39 U.vm ∧ U.heap = h0 ∧ CHv Z EL U.vm h0 ∧ ∀ x ∈ sf, Safe Z EL U.vm h0 x) (fun _ _ _ _ _ => True) (fun _ U o U' => ∃ v L, o = .returned v ∧ Q v U'.heap L ∧ CHr Z EL U.vm U.heap U'.vm U'.heap ∧ ReturnedEndW U o U' L rm.cells rm.slots)
variable {l : Launch} {Z : State} {EL : List (String × Nat)} {sf : List Addr} {y : MethodName} {bytes : ByteArray} {maxL : Nat} {ret : Option FieldType} {rm : Room} {as' : Array Value} {h0 : Heap} {Q : Option Value → Heap → List Loc → Prop}
theorem PayW.of {Ls : Array Slot} (hpn : plainFor y = true) (hef : ∀ m, entryFrame m as' maxL = mkF m 0 Ls [])
    (body : ∀ (p : Program) (e : Env) (s : State) (m : MethodId) (below : List Frame) (meth : Method) (c : Code) (T : State) (vm0 : Vm), p.tables.exec = Jvm.exec → c.code = bytes → c.maxLocals = maxL → vm0.findClass y.cls = some m.cls → s.methodNamed? y = some m → s.vm.method? m = some meth → meth.sig.returnType = ret → meth.locks = false → Stand p l e rm (s.setVm vm0) m as' below meth c T [] 0 0 → T.heap = h0 → Wd s Z EL vm0 h0 → (∀ x ∈ sf, Safe Z EL vm0 h0 x) →
      Go p.tables e below (EndW Z EL s Q rm.cells rm.slots) (T.setTop (mkF m 0 Ls []))) : PayW l Z EL sf y bytes maxL ret rm as' h0 Q := by
  intro ws
  refine MetFree.of_bodySF hpn hisR ?_
  intro p e s m args below meth c s₁ Bd hml0 hP hK
  obtain ⟨rfl, hZ, hh, H, hsf⟩ := hP
  rw [hef m]
  subst hh
  exact body p e s m below meth c s₁ s.vm Bd.exec Bd.bytes hml0 (findClass_of_methodNamed Bd.named) Bd.named Bd.method Bd.returns Bd.notSynchronized (Stand.of_body Bd) (by rw [Bd.state]; rfl) (Wd.start hZ H) hsf
variable {p : Program} {e : Env} {R : Room} {s : State} {vm0 : Vm} {m : MethodId} {args : Array Value} {below : List Frame} {meth : Method} {c : Code} {T : State} {locs : List Loc} {cells slots : Nat} {G : Outcome → State → Prop} {pc : Nat} {Ls : Array Slot} {a0 : Array Value}
/-- its payer -/
theorem backW {len W : Nat} (hP : PayW l Z EL sf y bytes maxL ret rm as' h0 Q) (hZ : Z.Warmed39 vm0) (wc : (Cond.code y bytes maxL ret).before a0 Z = true) (wz : (Cond.initialized y.cls).before a0 Z = true) (hf : rm.frames + 1 ≤ R.frames) (hl : W + (maxL + 11) + rm.locals ≤ R.locals) (hEL : EW Z a0 EL) (H : CHv Z EL vm0 h0) (hsf : ∀ x ∈ sf, x < h0.size ∧ Safe Z EL vm0 h0 x) :
    BackS l R p e below (s.setVm vm0) args y len W (fun A a => a = as' ∧ A.U.heap = h0 ∧ A.cells + rm.cells ≤ R.cells ∧ A.slots + rm.slots ≤ R.slots)
      (fun A _ v B => ∃ L, Q v B.U.heap L ∧ B.locs = A.locs ++ L ∧ B.cells = A.cells + rm.cells ∧ B.slots = A.slots + rm.slots ∧ CHr Z EL vm0 h0 B.U.vm B.U.heap) := by
  have at' : ∀ (m : MethodId) (meth : Method) (c : Code) (A : Pt), Stand p l e R (s.setVm vm0) m args below meth c A.U A.locs A.cells A.slots → Z.Warmed39 A.U.vm ∧ CHr Z EL vm0 h0 A.U.vm h0 := fun m meth c A Y => ⟨wtrans (s := s.setVm vm0) hZ Y.warmed, CHv.at Y hZ hEL H⟩
  refine BackS.of_freeW (bytes := bytes) (maxL := maxL) (ret := ret) (E := fun _ first o t L k n => k = rm.cells ∧ n = rm.slots ∧ (∃ v, o = .returned v ∧ Q v t.heap L) ∧ CHr Z EL first.vm first.heap t.vm t.heap) (hP []) hf hl ?_ ?_ (fun _ _ _ _ _ _ _ _ _ => trivial) ?_ ?_
  · intro m meth c A a Y hp
    have hU := (at' m meth c A Y).1
    refine ⟨?_, mv hU wc, mv hU wz, hp.2.2.1, hp.2.2.2⟩
    show (Cond.and _ .tt).before a A.U = true
    rw [Cond.before_and, mv hU wc]; rfl
  · intro m meth c A a g mk Y hp
    obtain ⟨hU, hC⟩ := at' m meth c A Y
    exact ⟨hp.1, hU, hp.2.1, hC.1, fun x hx => hC.safe (hsf x hx).1 (hsf x hx).2⟩
  · rintro _ _ _ _ ⟨v, L, h1, h2, h3, h4⟩
    exact ⟨L, _, _, h4, rfl, rfl, ⟨v, h1, h2⟩, h3⟩
  · rintro m meth c A a g mk v t L k n Y hp _ _ ⟨e1, e2, ⟨v', e3, e4⟩, e5⟩
    cases e3; subst e1 e2
    refine ⟨L, e4, rfl, rfl, rfl, (at' m meth c A Y).2.trans ?_⟩
    rw [← hp.2.1]; exact e5
/-- invokestatic by a wide contract -/
theorem callSW (X : Stand p l e R (s.setVm vm0) m args below meth c T locs cells slots) (hx : p.tables.exec = Jvm.exec) (hP : PayW l Z EL sf y bytes maxL ret rm as' h0 Q) (eT : T.heap = h0) (D : Wd s Z EL vm0 h0) (hEL : EW Z a0 EL) (hsf : ∀ x ∈ sf, x < h0.size ∧ Safe Z EL vm0 h0 x) {own : String} {index : Nat} (hown : vm0.findClass own = some m.cls)
    (wl : (Cond.methodLink own index y).before a0 Z = true) (wst : (Cond.static y).before a0 Z = true) (wz : (Cond.initialized y.cls).before a0 Z = true) (wc : (Cond.code y bytes maxL ret).before a0 Z = true)
    (hy : y.cls ≠ "java/lang/invoke/MethodHandle" ∧ y.cls ≠ "java/lang/invoke/VarHandle") {ps : List FieldType} {rt : Option FieldType} (hpd : parseMethodDescriptor y.desc = some ⟨ps, rt⟩) (hsz : Ls.size = c.maxLocals)
    {argsL rest st : List Value} (has : argsL.toArray = as') (hlen : argsL.length = ps.length) (hst : st = argsL.reverse ++ rest) (hd : decode c.code pc = .ok (.invokestatic index, 3))
    (hf : (rm.frames + 1).ble R.frames = true) (hlo : ((rest.map fun v => v.category).sum + (maxL + 11) + rm.locals).ble R.locals = true) (hce : cells + rm.cells ≤ R.cells) (hsl : slots + rm.slots ≤ R.slots)
    (K : ∀ (v : Option Value) (vm1 : Vm) (T' : State) (L : List Loc), Stand p l e R (s.setVm vm1) m args below meth c T' (locs ++ L) (cells + rm.cells) (slots + rm.slots) → Q v T'.heap L → Wd s Z EL vm1 T'.heap → vm1.findClass own = some m.cls → CHr Z EL vm0 h0 vm1 T'.heap → Go p.tables e below G (T'.setTop (mkF m (pc + 3) Ls (v.toList ++ rest)))) :
    Go p.tables e below G (T.setTop (mkF m pc Ls st)) := by
  have hy' := hy
  obtain ⟨⟨k0, hS, hk0⟩, hZ, C⟩ := D
  have hZ' : Z.Warmed39 (s.setVm vm0).vm := hZ
  have hown' : (s.setVm vm0).vm.findClass own = some m.cls := hown
  obtain ⟨_, _, ⟨T1, L1, k1, n1⟩, -, X1, S1, g1, ⟨Lc, hQ, l1, y1, z1, C1⟩, st1⟩ := callSS X hx (y := y) hown' (mvT hZ' wl) (mvT hZ' wst) (mvT hZ' wz) (mvT hZ' wc) hy' (backW (W := (rest.map fun v => v.category).sum) hP hZ wc wz (Nat.le_of_ble_eq_true hf) (Nat.le_of_ble_eq_true hlo) hEL C.1 hsf) (g := mkF m pc Ls st) rfl hsz (argsL := argsL) (rest := rest) (lenOf hpd hlen) hst (by show 2 * 0 + _ ≤ _; omega) hd (fun _ _ => ⟨has, eT, hce, hsl⟩)
  dsimp only [Pt.U, Pt.locs, Pt.cells, Pt.slots] at X1 l1 y1 z1 st1 hQ S1 g1 C1
  subst l1 y1 z1
  obtain ⟨X2, S2, Z2, O2⟩ := rebS hS (by rw [← eT] at hk0; exact hk0) X1 S1 g1 hZ' hown'
  exact (K _ T1.vm _ _ X2 hQ ⟨⟨_, S2, Nat.le_refl _⟩, Z2, C.trans C1⟩ O2 C1).thru st1
/-- invokespecial of a constructor by a wide contract -/
theorem callIW (X : Stand p l e R (s.setVm vm0) m args below meth c T locs cells slots) (hx : p.tables.exec = Jvm.exec) (hP : PayW l Z EL sf y bytes maxL none rm as' h0 Q) (eT : T.heap = h0) (D : Wd s Z EL vm0 h0) (hEL : EW Z a0 EL) (hsf : ∀ x ∈ sf, x < h0.size ∧ Safe Z EL vm0 h0 x) (hni : y.name = "<init>") {own : String} {index : Nat} (hown : vm0.findClass own = some m.cls)
    (wl : (Cond.methodLink own index y).before a0 Z = true) (win : (Cond.instanceMethod y).before a0 Z = true) (wz : (Cond.initialized y.cls).before a0 Z = true) (wc : (Cond.code y bytes maxL none).before a0 Z = true)
    (hy : y.cls ≠ "java/lang/invoke/MethodHandle" ∧ y.cls ≠ "java/lang/invoke/VarHandle") {ps : List FieldType} {rt : Option FieldType} (hpd : parseMethodDescriptor y.desc = some ⟨ps, rt⟩) (hsz : Ls.size = c.maxLocals)
    {a : Addr} {argsL rest st : List Value} (has : (.ref a :: argsL).toArray = as') (hlen : argsL.length = ps.length) (hst : st = argsL.reverse ++ .ref a :: rest) (hd : decode c.code pc = .ok (.invokespecial index, 3))
    (hf : (rm.frames + 1).ble R.frames = true) (hlo : ((rest.map fun v => v.category).sum + (maxL + 11) + rm.locals).ble R.locals = true) (hce : cells + rm.cells ≤ R.cells) (hsl : slots + rm.slots ≤ R.slots)
    (K : ∀ (v : Option Value) (vm1 : Vm) (T' : State) (L : List Loc), Stand p l e R (s.setVm vm1) m args below meth c T' (locs ++ L) (cells + rm.cells) (slots + rm.slots) → Q v T'.heap L → Wd s Z EL vm1 T'.heap → vm1.findClass own = some m.cls → CHr Z EL vm0 h0 vm1 T'.heap → Go p.tables e below G (T'.setTop (mkF m (pc + 3) Ls (v.toList ++ rest)))) :
    Go p.tables e below G (T.setTop (mkF m pc Ls st)) := by
  have hy' := hy
  obtain ⟨⟨k0, hS, hk0⟩, hZ, C⟩ := D
  have hZ' : Z.Warmed39 (s.setVm vm0).vm := hZ
  have hown' : (s.setVm vm0).vm.findClass own = some m.cls := hown
  obtain ⟨_, _, ⟨T1, L1, k1, n1⟩, -, X1, S1, g1, ⟨Lc, hQ, l1, y1, z1, C1⟩, st1⟩ := X.specialBackS hx (y := y) hni hown' (mvT hZ' wl) (mvT hZ' win) (mvT hZ' wc) hy' (backW (W := (rest.map fun v => v.category).sum) hP hZ wc wz (Nat.le_of_ble_eq_true hf) (Nat.le_of_ble_eq_true hlo) hEL C.1 hsf) (g := mkF m pc Ls st) rfl hsz (Steps.refl _) (a := a) (argsL := argsL) (rest := rest) (lenOf hpd hlen) hst (by show 2 * 0 + _ ≤ _; omega) hd (fun _ _ => ⟨has, eT, hce, hsl⟩)
  dsimp only [Pt.U, Pt.locs, Pt.cells, Pt.slots] at X1 l1 y1 z1 st1 hQ S1 g1 C1
  subst l1 y1 z1
  obtain ⟨X2, S2, Z2, O2⟩ := rebS hS (by rw [← eT] at hk0; exact hk0) X1 S1 g1 hZ' hown'
  exact (K _ T1.vm _ _ X2 hQ ⟨⟨_, S2, Nat.le_refl _⟩, Z2, C.trans C1⟩ O2 C1).thru st1
/-- invokevirtual by a wide contract -/
theorem callVW (X : Stand p l e R (s.setVm vm0) m args below meth c T locs cells slots) (hx : p.tables.exec = Jvm.exec) (hP : PayW l Z EL sf y bytes maxL ret rm as' h0 Q) (eT : T.heap = h0) (D : Wd s Z EL vm0 h0) (hEL : EW Z a0 EL) (hsf : ∀ x ∈ sf, x < h0.size ∧ Safe Z EL vm0 h0 x) {C : String} {own : String} {index : Nat} (hown : vm0.findClass own = some m.cls)
    (wl : (Cond.methodLink own index y).before a0 Z = true) (wd : (Cond.declares y).before a0 Z = true) (wse : (Cond.selects C y y).before a0 Z = true) (win : (Cond.instanceMethod y).before a0 Z = true) (wz : (Cond.initialized y.cls).before a0 Z = true) (wc : (Cond.code y bytes maxL ret).before a0 Z = true)
    (hy : y.cls ≠ "java/lang/invoke/MethodHandle" ∧ y.cls ≠ "java/lang/invoke/VarHandle") {ps : List FieldType} {rt : Option FieldType} (hpd : parseMethodDescriptor y.desc = some ⟨ps, rt⟩) (hsz : Ls.size = c.maxLocals)
    {a : Addr} (E : Exa Z h0 a C) {argsL rest st : List Value} (has : (.ref a :: argsL).toArray = as') (hlen : argsL.length = ps.length) (hst : st = argsL.reverse ++ .ref a :: rest) (hd : decode c.code pc = .ok (.invokevirtual index, 3))
    (hf : (rm.frames + 1).ble R.frames = true) (hlo : ((rest.map fun v => v.category).sum + (maxL + 11) + rm.locals).ble R.locals = true) (hce : cells + rm.cells ≤ R.cells) (hsl : slots + rm.slots ≤ R.slots)
    (K : ∀ (v : Option Value) (vm1 : Vm) (T' : State) (L : List Loc), Stand p l e R (s.setVm vm1) m args below meth c T' (locs ++ L) (cells + rm.cells) (slots + rm.slots) → Q v T'.heap L → Wd s Z EL vm1 T'.heap → vm1.findClass own = some m.cls → CHr Z EL vm0 h0 vm1 T'.heap → Go p.tables e below G (T'.setTop (mkF m (pc + 3) Ls (v.toList ++ rest)))) :
    Go p.tables e below G (T.setTop (mkF m pc Ls st)) := by
  have hy' := hy
  obtain ⟨⟨k0, hS, hk0⟩, hZ, C2⟩ := D
  have hZ' : Z.Warmed39 (s.setVm vm0).vm := hZ
  have hown' : (s.setVm vm0).vm.findClass own = some m.cls := hown
  obtain ⟨cq, kq, qa, qb, qc⟩ := isOf hZ' eT E
  obtain ⟨_, _, ⟨T1, L1, k1, n1⟩, -, X1, S1, g1, ⟨Lc, hQ, l1, y1, z1, C1⟩, st1⟩ := X.virtualBackS hx (y := y) (z := y) hown' (mvT hZ' wl) (mvT hZ' wd) (notFace_of_selects (args := #[]) (mvT hZ' wse)) (mvT hZ' wse) (mvT hZ' win) hy' (backW (W := (rest.map fun v => v.category).sum) hP hZ wc wz (Nat.le_of_ble_eq_true hf) (Nat.le_of_ble_eq_true hlo) hEL C2.1 hsf) qa qc (g := mkF m pc Ls st) rfl hsz (Steps.refl _) (argsL := argsL) (rest := rest) (lenOf hpd hlen) hst (by show 2 * 0 + _ ≤ _; omega) hd (fun _ _ => ⟨has, eT, hce, hsl⟩)
  dsimp only [Pt.U, Pt.locs, Pt.cells, Pt.slots] at X1 l1 y1 z1 st1 hQ S1 g1 C1
  subst l1 y1 z1
  obtain ⟨X2, S2, Z2, O2⟩ := rebS hS (by rw [← eT] at hk0; exact hk0) X1 S1 g1 hZ' hown'
  exact (K _ T1.vm _ _ X2 hQ ⟨⟨_, S2, Nat.le_refl _⟩, Z2, C2.trans C1⟩ O2 C1).thru st1
end PaysW
end Jvm.Ow
namespace Jvm.Ow
open Sem ClassFile Op Lib Jvm.Stand Jvm.Free Jvm.LawKit Jvm.RoadKit
/-- a compact String at x, its bytes bs at t -/
def Str (Z : State) (h : Heap) (x t : Addr) (kb : ClassId) (bs : List Int32) : Prop := Exa Z h x "java/lang/String" ∧ Fld Z h x "java/lang/String" "coder" "B" (.int 0) ∧ Fld Z h x "java/lang/String" "value" "[B" (.ref t) ∧ AL Z h t kb .byte (bs.map Value.int)
section Strs
variable {Z : State} {h h' : Heap} {x t : Addr} {kb : ClassId} {bs : List Int32} {ws : List Addr}
theorem Str.ext (S : Str Z h x t kb bs) (E : Ext h h') : Str Z h' x t kb bs := ⟨S.1.ext E, S.2.1.ext E, S.2.2.1.ext E, S.2.2.2.ext E⟩
theorem Str.keep (S : Str Z h x t kb bs) (K : Keep h h' ws) (q1 : x ∉ ws) (q2 : t ∉ ws) : Str Z h' x t kb bs := ⟨S.1.keep K, S.2.1.keep K q1, S.2.2.1.keep K q1, S.2.2.2.keep K q2⟩
theorem Str.lt (S : Str Z h x t kb bs) : x < h.size := S.1.lt
theorem Str.ltB (S : Str Z h x t kb bs) : t < h.size := S.2.2.2.lt
theorem shr0 (c : Int32) : c >>> ((0 : Int32) &&& 31) = c := by
  have h : ((0 : Int32) &&& 31) = 0 := by decide
  rw [h]
  apply Int32.toBitVec_inj.mp
  simp
theorem n_cl {n : Nat} (hn : n < 2147483648) : (Int32.ofNat n).toNatClampNeg = n := by
  rw [Int32.toNatClampNeg, Int32.toInt_ofNat_of_lt hn]; rfl
theorem n_nn {n : Nat} (hn : n < 2147483648) : ¬ Int32.ofNat n < 0 := by
  rw [Int32.lt_iff_toInt_lt, Int32.toInt_ofNat_of_lt hn, show (0 : Int32).toInt = 0 from rfl]; omega
theorem n_lt {i n : Nat} (hi : i < 2147483648) (hn : n < 2147483648) : Int32.ofNat i < Int32.ofNat n ↔ i < n := by
  rw [Int32.lt_iff_toInt_lt, Int32.toInt_ofNat_of_lt hi, Int32.toInt_ofNat_of_lt hn]; omega
theorem n_one (i : Nat) : Int32.ofNat i + (1 : Int32) = Int32.ofNat (i + 1) := (Int32.ofNat_add i 1).symm
theorem n_eq {i n : Nat} (hi : i < 2147483648) (hn : n < 2147483648) : Int32.ofNat i = Int32.ofNat n ↔ i = n := by
  refine ⟨fun h => ?_, fun h => by rw [h]⟩
  have := congrArg Int32.toNatClampNeg h
  rwa [n_cl hi, n_cl hn] at this
end Strs
end Jvm.Ow
namespace Jvm.Ow
open Sem ClassFile Op Lib Jvm.Stand Jvm.Free Jvm.LawKit Jvm.RoadKit
theorem staKeep {Z : State} {h h' : Heap} {C n d : String} {v : Value} {ws : List Addr} (S : Sta Z h C n d v) (K : Keep h h' ws) (q : ∀ x ∈ ws, ∃ c : Cell, h[x]? = some c ∧ c.vm.isStatics = false) : Sta Z h' C n d v := by
  obtain ⟨cf, i, k, f, st, cell, h1, h2, h3, h4, h5, h6, h7⟩ := S
  refine ⟨cf, i, k, f, st, cell, h1, h2, h3, h4, K.2.1 st cell h5 fun hm => ?_, h6, h7⟩
  obtain ⟨c, hc, hs⟩ := q st hm
  cases h5.symm.trans hc
  rw [hs] at h6; cases h6
theorem Exa.plain {Z : State} {h : Heap} {a : Addr} {C : String} (A : Exa Z h a C) : ∃ c : Cell, h[a]? = some c ∧ c.vm.isStatics = false := by
  obtain ⟨c, _, h1, -, -, h4, -⟩ := A; exact ⟨c, h1, h4⟩
theorem AL.plain {Z : State} {h : Heap} {a : Addr} {k : ClassId} {ty : FieldType} {vs : List Value} (A : AL Z h a k ty vs) : ∃ c : Cell, h[a]? = some c ∧ c.vm.isStatics = false := by
  obtain ⟨c, A, -⟩ := A; exact ⟨c, A.1, A.plain⟩
theorem AL.safe {Z : State} {EL : List (String × Nat)} {vm : Vm} {h : Heap} {a : Addr} {k : ClassId} {ty : FieldType} {vs : List Value} (A : AL Z h a k ty vs) (hal : Z.vm.Alike vm) (ht : ty ≠ .byte) : Safe Z EL vm h a := by
  obtain ⟨c, A, -⟩ := A; exact Safe.arr hal A ht
theorem nin1 {x y : Addr} (q : x ≠ y) : x ∉ [y] := fun z => q (List.mem_singleton.mp z)
end Jvm.Ow
namespace Jvm.Ow
open Sem ClassFile Op Lib Jvm.Stand Jvm.Free Jvm.LawKit Jvm.RoadKit
section Starts
variable {args : Array Value} {s : State} {t u : Term} {x : Addr} {C n d : String} {cl : Cell} {ty : FieldType}
theorem eqI_at {k : Int32} (h : (Cond.eq t (.int k)).value args s none s [] = some true) : t.eval args s none [] s = some (.int k) := by
  simp only [Cond.value, Term.eval] at h
  cases ht : t.eval args s none [] s with
  | none => simp [ht] at h
  | some v => cases v <;> simp [ht] at h ⊢ <;> exact h
theorem eqJ_at {k : Int64} (h : (Cond.eq t (.long k)).value args s none s [] = some true) : t.eval args s none [] s = some (.long k) := by
  simp only [Cond.value, Term.eval] at h
  cases ht : t.eval args s none [] s with
  | none => simp [ht] at h
  | some v => cases v <;> simp [ht] at h ⊢ <;> exact h
theorem eqR_at (h : (Cond.eq t u).value args s none s [] = some true) (hu : u.eval args s none [] s = some (.ref x)) : t.eval args s none [] s = some (.ref x) := by
  simp only [Cond.value, hu] at h
  cases ht : t.eval args s none [] s with
  | none => simp [ht] at h
  | some v => cases v <;> simp [ht] at h ⊢ <;> exact h
theorem fldI {k : Int32} (h : (Cond.eq (.field t C n d) (.int k)).value args s none s [] = some true) (ht : t.eval args s none [] s = some (.ref x)) : Fld s s.heap x C n d (.int k) := Fld.start (by rw [← fld_at ht]; exact eqI_at h)
theorem fldJ {k : Int64} (h : (Cond.eq (.field t C n d) (.long k)).value args s none s [] = some true) (ht : t.eval args s none [] s = some (.ref x)) : Fld s s.heap x C n d (.long k) := Fld.start (by rw [← fld_at ht]; exact eqJ_at h)
theorem fldR {y : Addr} (h : (Term.field t C n d).eval args s none [] s = some (.ref y)) (ht : t.eval args s none [] s = some (.ref x)) : Fld s s.heap x C n d (.ref y) := Fld.start (by rw [← fld_at ht]; exact h)
theorem lenAt {k : Int32} (h : (Cond.eq (.length t) (.int k)).value args s none s [] = some true) (ht : t.eval args s none [] s = some (.ref x)) (A : Arr s s.heap x cl ty) : cl.slots.size < 2147483648 ∧ cl.slots.size.toInt32 = k := by
  have q := eqI_at h
  have ha : s.arrayAt? x = some cl := A.fin (Vm.Alike.refl _)
  simp only [Term.eval, ht, ha, Option.bind_eq_bind, Option.bind_some] at q
  split at q
  · rename_i hl
    exact ⟨hl, by simpa using q⟩
  · cases q
theorem elemAt {k : Int32} {v : Value} (h : (Term.elem t (.int k)).eval args s none [] s = some v) (ht : t.eval args s none [] s = some (.ref x)) (A : Arr s s.heap x cl ty) : cl.slots[k.toNatClampNeg]? = some v := (elem_in h ht rfl A.1).2
end Starts
end Jvm.Ow
namespace Jvm.Ow
open Sem ClassFile Op Lib Jvm.Stand Jvm.Free Jvm.LawKit Jvm.RoadKit
section Copies
variable {p : Program} {l : Launch} {e : Env} {R : Room} {s : State} {m : MethodId} {args : Array Value} {below : List Frame} {meth : Method} {c : Code} {T : State} {locs : List Loc} {cells slots : Nat} {G : Outcome → State → Prop} {pc : Nat} {Ls : Array Slot} {rest : List Value} {Z : State} {a0 : Array Value} {h : Heap}
theorem setKeep {h : Heap} {a : Addr} {c c' : Cell} (hc : h[a]? = some c) (q1 : c'.cls = c.cls) (q2 : c'.vm = c.vm) (q3 : c'.slots.size = c.slots.size) : Keep h (h.setIfInBounds a c') [a] := by
  refine ⟨by simp, fun x d q r => ?_, fun x d q => ?_⟩
  · have : a ≠ x := fun z => r (by simp [z])
    rw [Array.getElem?_setIfInBounds_ne this]; exact q
  · by_cases z : a = x
    · subst z; cases hc.symm.trans q
      exact ⟨c', by rw [Array.getElem?_setIfInBounds_self_of_lt (Array.getElem?_eq_some_iff.mp hc).1], q1, q2, q3⟩
    · exact ⟨d, by rw [Array.getElem?_setIfInBounds_ne z]; exact q, rfl, rfl, rfl⟩
theorem fitsByte_int {v : Value} (h : fits .byte v = true) : ∃ z, v = .int z := by
  cases v <;> simp [fits] at h ⊢
/-- System.arraycopy of bytes -/
theorem arraycopyB (X : Stand p l e R s m args below meth c T locs cells slots) (hx : p.tables.exec = Jvm.exec) (hZ : Z.Warmed39 s.vm) (eT : T.heap = h) {own : String} {index : Nat} (hown : s.vm.findClass own = some m.cls)
    (wl : (Cond.methodLink own index arraycopyName).before a0 Z = true) (wn : (Cond.native arraycopyName).before a0 Z = true) (wst : (Cond.static arraycopyName).before a0 Z = true) (wz : (Cond.initialized "java/lang/System").before a0 Z = true)
    {src dst : Addr} {k1 k2 : ClassId} {vs ds : List Value} (As : AL Z h src k1 .byte vs) (Ad : AL Z h dst k2 .byte ds) (hfit : ∀ v ∈ vs, fits .byte v = true) (sp dp n : Nat) (h1 : sp + n ≤ vs.length) (h2 : dp + n ≤ ds.length) (hb1 : vs.length < 2147483648) (hb2 : ds.length < 2147483648) (vs' : List Value) (hvs : ds.take dp ++ ((vs.drop sp).take n ++ ds.drop (dp + n)) = vs')
    (hsz : Ls.size = c.maxLocals) (hd : decode c.code pc = .ok (.invokestatic index, 3)) (hf : (1 : Nat).ble R.frames = true) (hlo : ((rest.map fun v => v.category).sum + 18).ble R.locals = true)
    (K : ∀ T' h' L, Stand p l e R s m args below meth c T' (locs ++ L) cells slots → T'.heap = h' → Eff h h' [dst] L → AL Z h' dst k2 .byte vs' → Go p.tables e below G (T'.setTop (mkF m (pc + 3) Ls rest))) :
    Go p.tables e below G (T.setTop (mkF m pc Ls (.int (Int32.ofNat n) :: .int (Int32.ofNat dp) :: .ref dst :: .int (Int32.ofNat sp) :: .ref src :: rest))) := by
  obtain ⟨cs, A1, r1, r2⟩ := As
  obtain ⟨cd, A2, q1, q2⟩ := Ad
  obtain ⟨o1, kS, hkS, cpS, hkindS⟩ := A1.2.1
  obtain ⟨o2, kD, hkD, cpD, hkindD⟩ := A2.2.1
  obtain ⟨kS', hkS', eS⟩ := hZ.alike.2.2 _ _ hkS
  obtain ⟨kD', hkD', eD⟩ := hZ.alike.2.2 _ _ hkD
  have z1 : cs.slots.size = vs.length := by rw [r2]; simp
  have z2 : cd.slots.size = ds.length := by rw [q2]; simp
  have t1 : (Int32.ofNat sp).toInt = sp := Int32.toInt_ofNat_of_lt (by omega)
  have t2 : (Int32.ofNat dp).toInt = dp := Int32.toInt_ofNat_of_lt (by omega)
  have t3 : (Int32.ofNat n).toInt = n := Int32.toInt_ofNat_of_lt (by omega)
  have c1 : (Int32.ofNat sp).toNatClampNeg = sp := by rw [Int32.toNatClampNeg, t1]; rfl
  have c2 : (Int32.ofNat dp).toNatClampNeg = dp := by rw [Int32.toNatClampNeg, t2]; rfl
  have c3 : (Int32.ofNat n).toNatClampNeg = n := by rw [Int32.toNatClampNeg, t3]; rfl
  have n0 : ∀ k : Nat, k < 2147483648 → ¬ Int32.ofNat k < 0 := fun k hk => by
    rw [Int32.lt_iff_toInt_lt, Int32.toInt_ofNat_of_lt hk, show (0 : Int32).toInt = 0 from rfl]; omega
  have hget : ∀ i, i < n → ∃ z, cs.slots.getD (sp + i) .null = .int z ∧ fits .byte (.int z) = true ∧ vs[sp + i]? = some (.int z) := fun i hi => by
    have hl : sp + i < vs.length := by omega
    have hv := hfit vs[sp + i] (List.getElem_mem _)
    obtain ⟨z, hz⟩ := fitsByte_int hv
    refine ⟨z, ?_, by rw [← hz]; exact hv, by rw [List.getElem?_eq_getElem hl, hz]⟩
    rw [r2]; simp [Array.getD, hl, hz]
  have e7 : nativeFrameWords "java/lang/System" "arraycopy" 5 = 7 := by decide
  have hl9 : 2 * 0 + (rest.map fun v => v.category).sum + (nativeFrameWords "java/lang/System" "arraycopy" 5 + 11) ≤ R.locals := by
    have := Nat.le_of_ble_eq_true hlo
    rw [e7]; omega
  obtain ⟨vm', X', st⟩ := X.arraycopy hx hown (mvT hZ wl) (mvT hZ wn) (mvT hZ wst) (mvT hZ wz) (srcPos := Int32.ofNat sp) (destPos := Int32.ofNat dp) (n := Int32.ofNat n) (cs := cs) (cd := cd) (by rw [eT]; exact A1.1) (by rw [eT]; exact A2.1) o1 o2 A1.2.2 A2.2.2 hkS' hkD' (sComp := cpS) (dComp := cpD) (sType := .byte) (dType := .byte) (by rw [eS]; exact hkindS) (by rw [eD]; exact hkindD) rfl (n0 _ (by omega)) (n0 _ (by omega)) (n0 _ (by omega)) (by rw [t1, t3, z1]; omega) (by rw [t2, t3, z2]; omega)
    (fun vm' _ i hi => by
      rw [c3] at hi
      obtain ⟨z, e1, e2, -⟩ := hget i hi
      rw [c1, e1]; exact ⟨e2, trivial⟩)
    (g := mkF m pc Ls (.int (Int32.ofNat n) :: .int (Int32.ofNat dp) :: .ref dst :: .int (Int32.ofNat sp) :: .ref src :: rest)) rfl hsz (rest := rest) rfl hd (Nat.le_of_ble_eq_true hf) hl9
  refine (K _ _ _ X' rfl ?_ ?_).via st
  · refine ⟨?_, fun y hy => ?_⟩
    · have f := Cell.storeRun_facts cd (Int32.ofNat dp).toNatClampNeg (cs.stretch (Int32.ofNat sp).toNatClampNeg (Int32.ofNat n).toNatClampNeg)
      rw [← eT]
      exact setKeep (by rw [eT]; exact A2.1) f.1 f.2.1 f.2.2.1
    · obtain ⟨q, -, rfl⟩ := List.mem_map.mp hy
      exact Or.inl (by simp)
  · have f := Cell.storeRun_facts cd (Int32.ofNat dp).toNatClampNeg (cs.stretch (Int32.ofNat sp).toNatClampNeg (Int32.ofNat n).toNatClampNeg)
    have hlt : dst < T.heap.size := by rw [eT]; exact A2.lt
    refine ⟨copied cs cd (Int32.ofNat sp) (Int32.ofNat dp) (Int32.ofNat n), ⟨?_, ?_, ?_⟩, ?_, ?_⟩
    · show (T.heap.setIfInBounds dst _)[dst]? = _
      simp [hlt]
    · obtain ⟨i1, i2⟩ := A2.2.1
      refine ⟨fun k => ?_, ?_⟩
      · show (Cell.storeRun cd _ _).vm ≠ _
        rw [f.2.1]; exact i1 k
      · show ∃ k, Z.vm.classes[(Cell.storeRun cd _ _).cls]? = some k ∧ _
        rw [f.1]; exact i2
    · show (Cell.storeRun cd _ _).vm ≠ _
      rw [f.2.1]; exact A2.2.2
    · show (Cell.storeRun cd _ _).cls = _
      rw [f.1]; exact q1
    · show (Cell.storeRun cd _ _).slots = _
      have hsl : (cs.stretch (Int32.ofNat sp).toNatClampNeg (Int32.ofNat n).toNatClampNeg).length = n := by rw [c3]; simp [Cell.stretch]
      refine Array.ext_getElem? fun j => ?_
      rw [Cell.storeRun_get _ _ _ _ (by rw [hsl, c2, z2]; omega), hsl, c2, ← hvs]
      rw [show ((ds.take dp ++ ((vs.drop sp).take n ++ ds.drop (dp + n))).toArray)[j]? = (ds.take dp ++ ((vs.drop sp).take n ++ ds.drop (dp + n)))[j]? from List.getElem?_toArray]
      by_cases j1 : j < dp
      · rw [if_neg (by omega), List.getElem?_append_left (by simp; omega), q2]
        simp [List.getElem?_take, j1]
      · by_cases j2 : j < dp + n
        · rw [if_pos ⟨by omega, j2⟩, List.getElem?_append_right (by simp; omega)]
          have ht : (ds.take dp).length = dp := by simp; omega
          rw [ht, List.getElem?_append_left (by simp; omega)]
          obtain ⟨z, e1, -, e3⟩ := hget (j - dp) (by omega)
          have hl : j - dp < n := by omega
          rw [List.getElem?_take, if_pos hl, List.getElem?_drop, e3]
          rw [c1, c3]
          simp only [Cell.stretch, List.getElem?_map, List.getElem?_range hl, Option.map_some, e1]
        · rw [if_neg (by omega), List.getElem?_append_right (by simp; omega)]
          have ht : (ds.take dp).length = dp := by simp; omega
          have hm : ((vs.drop sp).take n).length = n := by simp; omega
          rw [ht, List.getElem?_append_right (by omega), hm, List.getElem?_drop, q2]
          simp
          congr 1; omega
end Copies
end Jvm.Ow
namespace Jvm.Owl
open Sem ClassFile Op Lib Jvm.Stand Jvm.Free Jvm.LawKit Jvm.RoadKit
theorem monAL {Z : State} {h h' : Heap} {a : Addr} {k : ClassId} {ty : FieldType} {vs : List Value} (A : Jvm.Ow.AL Z h a k ty vs) (M : Mon h h') : Jvm.Ow.AL Z h' a k ty vs := by
  obtain ⟨c, A, r1, r2⟩ := A
  obtain ⟨mo, q⟩ := M.2 _ _ A.1
  exact ⟨_, ⟨q, A.2⟩, r1, r2⟩
end Jvm.Owl
namespace Jvm.Owl
open Sem ClassFile Op Lib Jvm.Stand Jvm.Free Jvm.LawKit Jvm.RoadKit
open Jvm.Ow (Go AL EndN Pay Eff)
section Steps1
variable {p : Program} {l : Launch} {e : Env} {R : Room} {s : State} {m : MethodId} {args : Array Value} {below : List Frame} {meth : Method} {c : Code} {T : State} {locs : List Loc} {cells slots : Nat} {G : Outcome → State → Prop} {pc pc' : Nat} {Ls : Array Slot} {rest : List Value} {lk : Addr}
theorem aloadN (X : Stand p l e R s m args below meth c T locs cells slots) (hx : p.tables.exec = Jvm.exec) {k : Fin 4} {v : Value} (hd : decode c.code pc = .ok (.aload_n k, 1)) (hl : Ls[k.val]? = some (.val v)) (hv : v.isRef = true) (K : Go p.tables e below G (T.setTop (mkL lk m (pc + 1) Ls (v :: rest)))) : Go p.tables e below G (T.setTop (mkL lk m (pc) Ls rest)) := K.via fun _ r => XS.aloadN X.here hx rfl hd hl hv r
theorem aload (X : Stand p l e R s m args below meth c T locs cells slots) (hx : p.tables.exec = Jvm.exec) {k : Nat} {v : Value} (hd : decode c.code pc = .ok (.aload k, 2)) (hl : Ls[k]? = some (.val v)) (hv : v.isRef = true) (K : Go p.tables e below G (T.setTop (mkL lk m (pc + 2) Ls (v :: rest)))) : Go p.tables e below G (T.setTop (mkL lk m (pc) Ls rest)) := K.via fun _ r => XS.aload X.here hx rfl hd hl hv r
theorem iloadN (X : Stand p l e R s m args below meth c T locs cells slots) (hx : p.tables.exec = Jvm.exec) {k : Fin 4} {v : Int32} (hd : decode c.code pc = .ok (.iload_n k, 1)) (hl : Ls[k.val]? = some (.val (.int v))) (K : Go p.tables e below G (T.setTop (mkL lk m (pc + 1) Ls (.int v :: rest)))) : Go p.tables e below G (T.setTop (mkL lk m (pc) Ls rest)) := K.via fun _ r => XS.iloadN X.here hx rfl hd hl r
theorem iload (X : Stand p l e R s m args below meth c T locs cells slots) (hx : p.tables.exec = Jvm.exec) {k : Nat} {v : Int32} (hd : decode c.code pc = .ok (.iload k, 2)) (hl : Ls[k]? = some (.val (.int v))) (K : Go p.tables e below G (T.setTop (mkL lk m (pc + 2) Ls (.int v :: rest)))) : Go p.tables e below G (T.setTop (mkL lk m (pc) Ls rest)) := K.via fun _ r => XS.iload X.here hx rfl hd hl r
theorem lloadN (X : Stand p l e R s m args below meth c T locs cells slots) (hx : p.tables.exec = Jvm.exec) {k : Fin 4} {v : Int64} (hd : decode c.code pc = .ok (.lload_n k, 1)) (hl : Ls[k.val]? = some (.val (.long v))) (K : Go p.tables e below G (T.setTop (mkL lk m (pc + 1) Ls (.long v :: rest)))) : Go p.tables e below G (T.setTop (mkL lk m (pc) Ls rest)) := K.via fun _ r => XT.lloadN X.here hx rfl hd hl r
theorem iconst (X : Stand p l e R s m args below meth c T locs cells slots) (hx : p.tables.exec = Jvm.exec) {i : Int} (v : Int32) (hd : decode c.code pc = .ok (.iconst i, 1)) (hv : Int32.ofInt i = v) (K : Go p.tables e below G (T.setTop (mkL lk m (pc + 1) Ls (.int v :: rest)))) : Go p.tables e below G (T.setTop (mkL lk m (pc) Ls rest)) := K.via fun _ r => XT.iconstV X.here hx rfl v hd hv r
theorem lconst (X : Stand p l e R s m args below meth c T locs cells slots) (hx : p.tables.exec = Jvm.exec) {k : Fin 2} (v : Int64) (hd : decode c.code pc = .ok (.lconst k, 1)) (hv : Int64.ofNat k = v) (K : Go p.tables e below G (T.setTop (mkL lk m (pc + 1) Ls (.long v :: rest)))) : Go p.tables e below G (T.setTop (mkL lk m (pc) Ls rest)) := K.via fun _ r => XT.lconstV X.here hx rfl v hd hv r
theorem iadd (X : Stand p l e R s m args below meth c T locs cells slots) (hx : p.tables.exec = Jvm.exec) {x y : Int32} (hd : decode c.code pc = .ok (.iadd, 1))  (K : Go p.tables e below G (T.setTop (mkL lk m (pc + 1) Ls (.int (x + y) :: rest)))) : Go p.tables e below G (T.setTop (mkL lk m (pc) Ls (.int y :: .int x :: rest))) := K.via fun _ r => XS.iadd X.here hx rfl hd rfl r
theorem isub (X : Stand p l e R s m args below meth c T locs cells slots) (hx : p.tables.exec = Jvm.exec) {x y : Int32} (hd : decode c.code pc = .ok (.isub, 1))  (K : Go p.tables e below G (T.setTop (mkL lk m (pc + 1) Ls (.int (x - y) :: rest)))) : Go p.tables e below G (T.setTop (mkL lk m (pc) Ls (.int y :: .int x :: rest))) := K.via fun _ r => XS.isub X.here hx rfl hd rfl r
theorem i2l (X : Stand p l e R s m args below meth c T locs cells slots) (hx : p.tables.exec = Jvm.exec) {x : Int32} (hd : decode c.code pc = .ok (.i2l, 1))  (K : Go p.tables e below G (T.setTop (mkL lk m (pc + 1) Ls (.long (x.toInt64) :: rest)))) : Go p.tables e below G (T.setTop (mkL lk m (pc) Ls (.int x :: rest))) := K.via fun _ r => XT.i2l X.here hx rfl hd rfl r
theorem l2i (X : Stand p l e R s m args below meth c T locs cells slots) (hx : p.tables.exec = Jvm.exec) {x : Int64} (hd : decode c.code pc = .ok (.l2i, 1))  (K : Go p.tables e below G (T.setTop (mkL lk m (pc + 1) Ls (.int (x.toInt32) :: rest)))) : Go p.tables e below G (T.setTop (mkL lk m (pc) Ls (.long x :: rest))) := K.via fun _ r => XT.l2i X.here hx rfl hd rfl r
theorem lcmp (X : Stand p l e R s m args below meth c T locs cells slots) (hx : p.tables.exec = Jvm.exec) {x y : Int64} (hd : decode c.code pc = .ok (.lcmp, 1))  (K : Go p.tables e below G (T.setTop (mkL lk m (pc + 1) Ls (.int (XT.cmpL x y) :: rest)))) : Go p.tables e below G (T.setTop (mkL lk m (pc) Ls (.long y :: .long x :: rest))) := K.via fun _ r => XT.lcmp X.here hx rfl hd rfl r
theorem dup (X : Stand p l e R s m args below meth c T locs cells slots) (hx : p.tables.exec = Jvm.exec) {v : Value} (hd : decode c.code pc = .ok (.dup, 1)) (hv : v.category = 1) (K : Go p.tables e below G (T.setTop (mkL lk m (pc + 1) Ls (v :: v :: rest)))) : Go p.tables e below G (T.setTop (mkL lk m (pc) Ls (v :: rest))) := K.via fun _ r => XS.dup X.here hx rfl hd rfl hv r
theorem pop (X : Stand p l e R s m args below meth c T locs cells slots) (hx : p.tables.exec = Jvm.exec) {v : Value} (hd : decode c.code pc = .ok (.pop, 1)) (hv : v.category = 1) (K : Go p.tables e below G (T.setTop (mkL lk m (pc + 1) Ls rest))) : Go p.tables e below G (T.setTop (mkL lk m (pc) Ls (v :: rest))) := K.via fun _ r => XT.pop X.here hx rfl hd rfl hv r
theorem istoreN (X : Stand p l e R s m args below meth c T locs cells slots) (hx : p.tables.exec = Jvm.exec) {k : Fin 4} {x : Int32} (L2 : Array Slot) (hd : decode c.code pc = .ok (.istore_n k, 1))  (hl : storeLocals Ls k.val (.int x) = some L2) (K : Go p.tables e below G (T.setTop (mkL lk m (pc + 1) L2 rest))) : Go p.tables e below G (T.setTop (mkL lk m (pc) Ls ((.int x) :: rest))) := K.via fun _ r => XS.istoreN X.here hx rfl hd rfl hl r
theorem istore (X : Stand p l e R s m args below meth c T locs cells slots) (hx : p.tables.exec = Jvm.exec) {k : Nat} {x : Int32} (L2 : Array Slot) (hd : decode c.code pc = .ok (.istore k, 2))  (hl : storeLocals Ls k (.int x) = some L2) (K : Go p.tables e below G (T.setTop (mkL lk m (pc + 2) L2 rest))) : Go p.tables e below G (T.setTop (mkL lk m (pc) Ls ((.int x) :: rest))) := K.via fun _ r => XS.istore X.here hx rfl hd rfl hl r
theorem lstoreN (X : Stand p l e R s m args below meth c T locs cells slots) (hx : p.tables.exec = Jvm.exec) {k : Fin 4} {x : Int64} (L2 : Array Slot) (hd : decode c.code pc = .ok (.lstore_n k, 1))  (hl : storeLocals Ls k.val (.long x) = some L2) (K : Go p.tables e below G (T.setTop (mkL lk m (pc + 1) L2 rest))) : Go p.tables e below G (T.setTop (mkL lk m (pc) Ls ((.long x) :: rest))) := K.via fun _ r => XT.lstoreN X.here hx rfl hd rfl hl r
theorem goto (X : Stand p l e R s m args below meth c T locs cells slots) (hx : p.tables.exec = Jvm.exec) {o : Int} (hd : decode c.code pc = .ok (.goto o, 3)) (ho : 0 ≤ (pc : Int) + o) (hp : ((pc : Int) + o).toNat = pc') (K : Go p.tables e below G (T.setTop (mkL lk m (pc') Ls rest))) : Go p.tables e below G (T.setTop (mkL lk m (pc) Ls rest)) := K.via fun _ r => XS.goto X.here hx rfl rfl hd ho hp r
theorem if_lt (X : Stand p l e R s m args below meth c T locs cells slots) (hx : p.tables.exec = Jvm.exec) {x : Int32} {o : Int} (hd : decode c.code pc = .ok (.ifCond .lt o, 3)) (ho : 0 ≤ (pc : Int) + o) (hp : ((pc : Int) + o).toNat = pc') (KT : x < 0 → Go p.tables e below G (T.setTop (mkL lk m (pc') Ls rest))) (KF : ¬ x < 0 → Go p.tables e below G (T.setTop (mkL lk m (pc + 3) Ls rest))) : Go p.tables e below G (T.setTop (mkL lk m (pc) Ls (.int x :: rest))) := by
  by_cases h : x < 0
  · exact (KT h).via fun _ r => XS.ifYes X.here hx rfl rfl hd rfl (XT.i0_lt_t h) ho hp r
  · exact (KF h).via fun _ r => XS.ifNo X.here hx rfl hd rfl (XT.i0_lt_f h) r
theorem if_ge (X : Stand p l e R s m args below meth c T locs cells slots) (hx : p.tables.exec = Jvm.exec) {x : Int32} {o : Int} (hd : decode c.code pc = .ok (.ifCond .ge o, 3)) (ho : 0 ≤ (pc : Int) + o) (hp : ((pc : Int) + o).toNat = pc') (KT : ¬ x < 0 → Go p.tables e below G (T.setTop (mkL lk m (pc') Ls rest))) (KF : x < 0 → Go p.tables e below G (T.setTop (mkL lk m (pc + 3) Ls rest))) : Go p.tables e below G (T.setTop (mkL lk m (pc) Ls (.int x :: rest))) := by
  by_cases h : x < 0
  · exact (KF h).via fun _ r => XS.ifNo X.here hx rfl hd rfl (XT.i0_ge_f h) r
  · exact (KT h).via fun _ r => XS.ifYes X.here hx rfl rfl hd rfl (XT.i0_ge_t h) ho hp r
theorem if_gt (X : Stand p l e R s m args below meth c T locs cells slots) (hx : p.tables.exec = Jvm.exec) {x : Int32} {o : Int} (hd : decode c.code pc = .ok (.ifCond .gt o, 3)) (ho : 0 ≤ (pc : Int) + o) (hp : ((pc : Int) + o).toNat = pc') (KT : 0 < x → Go p.tables e below G (T.setTop (mkL lk m (pc') Ls rest))) (KF : ¬ 0 < x → Go p.tables e below G (T.setTop (mkL lk m (pc + 3) Ls rest))) : Go p.tables e below G (T.setTop (mkL lk m (pc) Ls (.int x :: rest))) := by
  by_cases h : 0 < x
  · exact (KT h).via fun _ r => XS.ifYes X.here hx rfl rfl hd rfl (XT.i0_gt_t h) ho hp r
  · exact (KF h).via fun _ r => XS.ifNo X.here hx rfl hd rfl (XT.i0_gt_f h) r
theorem if_le (X : Stand p l e R s m args below meth c T locs cells slots) (hx : p.tables.exec = Jvm.exec) {x : Int32} {o : Int} (hd : decode c.code pc = .ok (.ifCond .le o, 3)) (ho : 0 ≤ (pc : Int) + o) (hp : ((pc : Int) + o).toNat = pc') (KT : ¬ 0 < x → Go p.tables e below G (T.setTop (mkL lk m (pc') Ls rest))) (KF : 0 < x → Go p.tables e below G (T.setTop (mkL lk m (pc + 3) Ls rest))) : Go p.tables e below G (T.setTop (mkL lk m (pc) Ls (.int x :: rest))) := by
  by_cases h : 0 < x
  · exact (KF h).via fun _ r => XS.ifNo X.here hx rfl hd rfl (XT.i0_le_f h) r
  · exact (KT h).via fun _ r => XS.ifYes X.here hx rfl rfl hd rfl (XT.i0_le_t h) ho hp r
theorem icmp_lt (X : Stand p l e R s m args below meth c T locs cells slots) (hx : p.tables.exec = Jvm.exec) {x y : Int32} {o : Int} (hd : decode c.code pc = .ok (.if_icmp .lt o, 3)) (ho : 0 ≤ (pc : Int) + o) (hp : ((pc : Int) + o).toNat = pc') (KT : x < y → Go p.tables e below G (T.setTop (mkL lk m (pc') Ls rest))) (KF : ¬ x < y → Go p.tables e below G (T.setTop (mkL lk m (pc + 3) Ls rest))) : Go p.tables e below G (T.setTop (mkL lk m (pc) Ls (.int y :: .int x :: rest))) := by
  by_cases h : x < y
  · exact (KT h).via fun _ r => XS.icmpYes X.here hx rfl rfl hd rfl (XT.ii_lt_t h) ho hp r
  · exact (KF h).via fun _ r => XS.icmpNo X.here hx rfl hd rfl (XT.ii_lt_f h) r
theorem icmp_ge (X : Stand p l e R s m args below meth c T locs cells slots) (hx : p.tables.exec = Jvm.exec) {x y : Int32} {o : Int} (hd : decode c.code pc = .ok (.if_icmp .ge o, 3)) (ho : 0 ≤ (pc : Int) + o) (hp : ((pc : Int) + o).toNat = pc') (KT : ¬ x < y → Go p.tables e below G (T.setTop (mkL lk m (pc') Ls rest))) (KF : x < y → Go p.tables e below G (T.setTop (mkL lk m (pc + 3) Ls rest))) : Go p.tables e below G (T.setTop (mkL lk m (pc) Ls (.int y :: .int x :: rest))) := by
  by_cases h : x < y
  · exact (KF h).via fun _ r => XS.icmpNo X.here hx rfl hd rfl (XT.ii_ge_f h) r
  · exact (KT h).via fun _ r => XS.icmpYes X.here hx rfl rfl hd rfl (XT.ii_ge_t h) ho hp r
theorem icmp_gt (X : Stand p l e R s m args below meth c T locs cells slots) (hx : p.tables.exec = Jvm.exec) {x y : Int32} {o : Int} (hd : decode c.code pc = .ok (.if_icmp .gt o, 3)) (ho : 0 ≤ (pc : Int) + o) (hp : ((pc : Int) + o).toNat = pc') (KT : y < x → Go p.tables e below G (T.setTop (mkL lk m (pc') Ls rest))) (KF : ¬ y < x → Go p.tables e below G (T.setTop (mkL lk m (pc + 3) Ls rest))) : Go p.tables e below G (T.setTop (mkL lk m (pc) Ls (.int y :: .int x :: rest))) := by
  by_cases h : y < x
  · exact (KT h).via fun _ r => XS.icmpYes X.here hx rfl rfl hd rfl (XT.ii_gt_t h) ho hp r
  · exact (KF h).via fun _ r => XS.icmpNo X.here hx rfl hd rfl (XT.ii_gt_f h) r
theorem icmp_le (X : Stand p l e R s m args below meth c T locs cells slots) (hx : p.tables.exec = Jvm.exec) {x y : Int32} {o : Int} (hd : decode c.code pc = .ok (.if_icmp .le o, 3)) (ho : 0 ≤ (pc : Int) + o) (hp : ((pc : Int) + o).toNat = pc') (KT : ¬ y < x → Go p.tables e below G (T.setTop (mkL lk m (pc') Ls rest))) (KF : y < x → Go p.tables e below G (T.setTop (mkL lk m (pc + 3) Ls rest))) : Go p.tables e below G (T.setTop (mkL lk m (pc) Ls (.int y :: .int x :: rest))) := by
  by_cases h : y < x
  · exact (KF h).via fun _ r => XS.icmpNo X.here hx rfl hd rfl (XT.ii_le_f h) r
  · exact (KT h).via fun _ r => XS.icmpYes X.here hx rfl rfl hd rfl (XT.ii_le_t h) ho hp r
theorem arraylength (X : Stand p l e R s m args below meth c T locs cells slots) (hx : p.tables.exec = Jvm.exec) {Z : State} {h : Heap} (hZ : Z.Warmed39 s.vm) (eT : T.heap = h) {a : Addr} {cell : Cell} {ty : FieldType} (N : Int32) (A : Arr Z h a cell ty) (hN : cell.slots.size.toInt32 = N) (hd : decode c.code pc = .ok (.arraylength, 1)) (K : Go p.tables e below G (T.setTop (mkL lk m (pc + 1) Ls (.int N :: rest)))) : Go p.tables e below G (T.setTop (mkL lk m (pc) Ls (.ref a :: rest))) := K.via fun t r => X.arraylength hx (g := mkL lk m pc Ls (.ref a :: rest)) (by rw [eT]; exact A.1) (State.isArrayOf_alike hZ.alike A.2.1) rfl rfl hd t (by rw [hN]; exact r)
end Steps1
section Heaps
variable {p : Program} {l : Launch} {e : Env} {R : Room} {s : State} {m : MethodId} {args : Array Value} {below : List Frame} {meth : Method} {c : Code} {T : State} {locs : List Loc} {cells slots : Nat} {G : Outcome → State → Prop} {pc pc' : Nat} {Ls : Array Slot} {rest : List Value} {Z : State} {a0 : Array Value} {h : Heap} {lk : Addr}
theorem getfield (X : Stand p l e R s m args below meth c T locs cells slots) (hx : p.tables.exec = Jvm.exec) (hZ : Z.Warmed39 s.vm) {own R0 O n d : String} {index : Nat} (hown : s.vm.findClass own = some m.cls) (w : (Cond.fieldLink own index R0 n d).before a0 Z = true) (via : Via Z R0 O n d) (eT : T.heap = h) {a : Addr} {v : Value} (F : Fld Z h a O n d v)
    (hd : decode c.code pc = .ok (.getfield index, 3)) (K : ∀ T', Stand p l e R s m args below meth c T' locs cells slots → T'.heap = h → Go p.tables e below G (T'.setTop (mkL lk m (pc + 3) Ls (v :: rest)))) : Go p.tables e below G (T.setTop (mkL lk m pc Ls (.ref a :: rest))) := by
  obtain ⟨T', X', e', st⟩ := getF X hx hZ hown (host := "") (Or.inl w) via eT F (g := mkL lk m pc Ls (.ref a :: rest)) rfl rfl hd
  exact (K T' X' e').via st
theorem putfield (X : Stand p l e R s m args below meth c T locs cells slots) (hx : p.tables.exec = Jvm.exec) (hZ : Z.Warmed39 s.vm) {own R0 O n d C : String} {index kk : Nat} {ty : FieldType} (hown : s.vm.findClass own = some m.cls) (w : (Cond.fieldLink own index R0 n d).before a0 Z = true) (via : Via Z R0 O n d)
    (eT : T.heap = h) {a : Addr} {v old : Value} (F : Fld Z h a O n d old) (E : Exa Z h a C) (L : (Cond.lays C O n d).before a0 Z = true ∨ ((Cond.laysFinal C O n d).before a0 Z = true ∧ own = O ∧ meth.name = "<init>")) (wi : (Cond.instantiable C kk).before a0 Z = true)
    (hty : parseFieldDescriptor d = some ty) (hn : narrow ty v = v) (hf : fits ty v = true) (hd : decode c.code pc = .ok (.putfield index, 3))
    (K : ∀ T' h', Stand p l e R s m args below meth c T' (locs ++ [⟨a, RoadKit.slotOf Z O n d⟩]) cells slots → T'.heap = h' → Wr h h' a (RoadKit.slotOf Z O n d) v → Go p.tables e below G (T'.setTop (mkL lk m (pc + 3) Ls rest))) : Go p.tables e below G (T.setTop (mkL lk m pc Ls (v :: .ref a :: rest))) := by
  obtain ⟨T', h', X', e', W, st⟩ := putF X hx hZ hown (host := "") (Or.inl w) via eT F E L wi hty hn hf (g := mkL lk m pc Ls (v :: .ref a :: rest)) rfl rfl hd
  exact (K T' h' X' e' W).via st
end Heaps
section AL4
variable {p : Program} {l : Launch} {e : Env} {R : Room} {s : State} {m : MethodId} {args : Array Value} {below : List Frame} {meth : Method} {c : Code} {T : State} {locs : List Loc} {cells slots : Nat} {G : Outcome → State → Prop} {pc pc' : Nat} {Ls : Array Slot} {rest : List Value} {Z : State} {a0 : Array Value} {h : Heap} {a : Addr} {kc : ClassId} {vs : List Value} {lk : Addr}
theorem lengthL (X : Stand p l e R s m args below meth c T locs cells slots) (hx : p.tables.exec = Jvm.exec) (hZ : Z.Warmed39 s.vm) (eT : T.heap = h) {ty : FieldType} (A : AL Z h a kc ty vs) (N : Int32) (hN : vs.length.toInt32 = N) (hd : decode c.code pc = .ok (.arraylength, 1)) (K : Go p.tables e below G (T.setTop (mkL lk m (pc + 1) Ls (.int N :: rest)))) : Go p.tables e below G (T.setTop (mkL lk m pc Ls (.ref a :: rest))) := by
  obtain ⟨cl, Ar, -, q2, -⟩ := A.arr
  exact arraylength X hx hZ eT N Ar (by rw [q2]; exact hN) hd K
end AL4
section Pays
variable {l : Launch} {Z : State} {y : MethodName} {bytes : ByteArray} {maxL : Nat} {ret : Option FieldType} {rm : Room} {as' : Array Value} {h0 : Heap} {Q : Option Value → Heap → List Loc → Prop} {lk : Addr}
variable {p : Program} {e : Env} {R : Room} {s : State} {m : MethodId} {args : Array Value} {below : List Frame} {meth : Method} {c : Code} {T : State} {locs : List Loc} {cells slots : Nat} {G : Outcome → State → Prop} {pc : Nat} {Ls : Array Slot} {a0 : Array Value}
theorem callSB (X : Stand p l e R s m args below meth c T locs cells slots) (hx : p.tables.exec = Jvm.exec) (hZ : Z.Warmed39 s.vm) {argsL rest st : List Value} {kc ks : Nat}
    (hK : Back l R p e below s args y 3 (2 + (rest.map fun v => v.category).sum) (fun A a => a = as' ∧ A.U.heap = h0 ∧ A.cells + kc ≤ R.cells ∧ A.slots + ks ≤ R.slots) (fun A _ v B => ∃ L, Q v B.U.heap L ∧ B.locs = A.locs ++ L ∧ B.cells = A.cells + kc ∧ B.slots = A.slots + ks)) (eT : T.heap = h0) {own : String} {index : Nat} (hown : s.vm.findClass own = some m.cls)
    (wl : (Cond.methodLink own index y).before a0 Z = true) (wst : (Cond.static y).before a0 Z = true) (wz : (Cond.initialized y.cls).before a0 Z = true) (wc : (Cond.code y bytes maxL ret).before a0 Z = true)
    (hy : y.cls ≠ "java/lang/invoke/MethodHandle" ∧ y.cls ≠ "java/lang/invoke/VarHandle") {ps : List FieldType} {rt : Option FieldType} (hpd : parseMethodDescriptor y.desc = some ⟨ps, rt⟩) (hsz : Ls.size = c.maxLocals)
    (has : argsL.toArray = as') (hlen : argsL.length = ps.length) (hst : st = argsL.reverse ++ rest) (hd : decode c.code pc = .ok (.invokestatic index, 3)) (hce : cells + kc ≤ R.cells) (hsl : slots + ks ≤ R.slots)
    (K : ∀ (v : Option Value) (T' : State) (L : List Loc), Stand p l e R s m args below meth c T' (locs ++ L) (cells + kc) (slots + ks) → Q v T'.heap L → Go p.tables e below G (T'.setTop (mkL lk m (pc + 3) Ls (v.toList ++ rest)))) :
    Go p.tables e below G (T.setTop (mkL lk m pc Ls st)) := by
  obtain ⟨_, _, ⟨T1, L1, k1, n1⟩, -, X1, ⟨Lc, hQ, l1, y1, z1⟩, st1⟩ := Jvm.LawKit.callS X hx (y := y) hown (mvT hZ wl) (mvT hZ wst) (mvT hZ wz) (mvT hZ wc) hy hK (g := mkL lk m pc Ls st) rfl hsz (argsL := argsL) (rest := rest) (lenOf hpd hlen) hst (by show 2 * 1 + _ ≤ _; omega) hd (fun _ _ => ⟨has, eT, hce, hsl⟩)
  dsimp only [Pt.U, Pt.locs, Pt.cells, Pt.slots] at X1 l1 y1 z1 st1 hQ
  subst l1 y1 z1
  exact (K _ _ _ X1 hQ).via st1
theorem callS (X : Stand p l e R s m args below meth c T locs cells slots) (hx : p.tables.exec = Jvm.exec) (hZ : Z.Warmed39 s.vm) (hP : Pay l Z y bytes maxL ret rm as' h0 Q) (eT : T.heap = h0) {own : String} {index : Nat} (hown : s.vm.findClass own = some m.cls)
    (wl : (Cond.methodLink own index y).before a0 Z = true) (wst : (Cond.static y).before a0 Z = true) (wz : (Cond.initialized y.cls).before a0 Z = true) (wc : (Cond.code y bytes maxL ret).before a0 Z = true)
    (hy : y.cls ≠ "java/lang/invoke/MethodHandle" ∧ y.cls ≠ "java/lang/invoke/VarHandle") {ps : List FieldType} {rt : Option FieldType} (hpd : parseMethodDescriptor y.desc = some ⟨ps, rt⟩) (hsz : Ls.size = c.maxLocals)
    {argsL rest st : List Value} (has : argsL.toArray = as') (hlen : argsL.length = ps.length) (hst : st = argsL.reverse ++ rest) (hd : decode c.code pc = .ok (.invokestatic index, 3))
    (hf : (rm.frames + 1).ble R.frames = true) (hlo : (2 + (rest.map fun v => v.category).sum + (maxL + 11) + rm.locals).ble R.locals = true) (hce : cells + rm.cells ≤ R.cells) (hsl : slots + rm.slots ≤ R.slots)
    (K : ∀ (v : Option Value) (T' : State) (L : List Loc), Stand p l e R s m args below meth c T' (locs ++ L) (cells + rm.cells) (slots + rm.slots) → Q v T'.heap L → Go p.tables e below G (T'.setTop (mkL lk m (pc + 3) Ls (v.toList ++ rest)))) :
    Go p.tables e below G (T.setTop (mkL lk m pc Ls st)) :=
  callSB X hx hZ (backOf (W := 2 + (rest.map fun v => v.category).sum) (hP []) hZ wc wz (Nat.le_of_ble_eq_true hf) (Nat.le_of_ble_eq_true hlo)) eT hown wl wst wz wc hy hpd hsz has hlen hst hd hce hsl K
theorem callSP (X : Stand p l e R s m args below meth c T locs cells slots) (hx : p.tables.exec = Jvm.exec) (hZ : Z.Warmed39 s.vm) {r : Option Value} (hP : Pay l Z y bytes maxL ret rm as' h0 (fun v h L => v = r ∧ h = h0 ∧ L = [])) (h0c : rm.cells = 0) (h0s : rm.slots = 0) (eT : T.heap = h0) {own : String} {index : Nat} (hown : s.vm.findClass own = some m.cls)
    (wl : (Cond.methodLink own index y).before a0 Z = true) (wst : (Cond.static y).before a0 Z = true) (wz : (Cond.initialized y.cls).before a0 Z = true) (wc : (Cond.code y bytes maxL ret).before a0 Z = true)
    (hy : y.cls ≠ "java/lang/invoke/MethodHandle" ∧ y.cls ≠ "java/lang/invoke/VarHandle") {ps : List FieldType} {rt : Option FieldType} (hpd : parseMethodDescriptor y.desc = some ⟨ps, rt⟩) (hsz : Ls.size = c.maxLocals)
    {argsL rest st : List Value} (has : argsL.toArray = as') (hlen : argsL.length = ps.length) (hst : st = argsL.reverse ++ rest) (hd : decode c.code pc = .ok (.invokestatic index, 3))
    (hf : (rm.frames + 1).ble R.frames = true) (hlo : (2 + (rest.map fun v => v.category).sum + (maxL + 11) + rm.locals).ble R.locals = true) (hce : cells ≤ R.cells) (hsl : slots ≤ R.slots)
    (K : ∀ (T' : State), Stand p l e R s m args below meth c T' locs cells slots → T'.heap = h0 → Go p.tables e below G (T'.setTop (mkL lk m (pc + 3) Ls (r.toList ++ rest)))) :
    Go p.tables e below G (T.setTop (mkL lk m pc Ls st)) := by
  refine callS X hx hZ hP eT hown wl wst wz wc hy hpd hsz has hlen hst hd hf hlo (by rw [h0c]; exact hce) (by rw [h0s]; exact hsl) ?_
  rintro v T' L X' ⟨rfl, hh, rfl⟩
  rw [h0c, h0s, List.append_nil] at X'
  exact K T' X' hh
end Pays
open Jvm.Ow (setKeep fitsByte_int)
section Copies
variable {p : Program} {l : Launch} {e : Env} {R : Room} {s : State} {m : MethodId} {args : Array Value} {below : List Frame} {meth : Method} {c : Code} {T : State} {locs : List Loc} {cells slots : Nat} {G : Outcome → State → Prop} {pc : Nat} {Ls : Array Slot} {rest : List Value} {Z : State} {a0 : Array Value} {h : Heap} {lk : Addr}
/-- System.arraycopy of bytes -/
theorem arraycopyB (X : Stand p l e R s m args below meth c T locs cells slots) (hx : p.tables.exec = Jvm.exec) (hZ : Z.Warmed39 s.vm) (eT : T.heap = h) {own : String} {index : Nat} (hown : s.vm.findClass own = some m.cls)
    (wl : (Cond.methodLink own index arraycopyName).before a0 Z = true) (wn : (Cond.native arraycopyName).before a0 Z = true) (wst : (Cond.static arraycopyName).before a0 Z = true) (wz : (Cond.initialized "java/lang/System").before a0 Z = true)
    {src dst : Addr} {k1 k2 : ClassId} {vs ds : List Value} (As : AL Z h src k1 .byte vs) (Ad : AL Z h dst k2 .byte ds) (hfit : ∀ v ∈ vs, fits .byte v = true) (sp dp n : Nat) (h1 : sp + n ≤ vs.length) (h2 : dp + n ≤ ds.length) (hb1 : vs.length < 2147483648) (hb2 : ds.length < 2147483648) (vs' : List Value) (hvs : ds.take dp ++ ((vs.drop sp).take n ++ ds.drop (dp + n)) = vs')
    (hsz : Ls.size = c.maxLocals) (hd : decode c.code pc = .ok (.invokestatic index, 3)) (hf : (1 : Nat).ble R.frames = true) (hlo : (2 + (rest.map fun v => v.category).sum + 18).ble R.locals = true)
    (K : ∀ T' h' L, Stand p l e R s m args below meth c T' (locs ++ L) cells slots → T'.heap = h' → Eff h h' [dst] L → AL Z h' dst k2 .byte vs' → Go p.tables e below G (T'.setTop (mkL lk m (pc + 3) Ls rest))) :
    Go p.tables e below G (T.setTop (mkL lk m pc Ls (.int (Int32.ofNat n) :: .int (Int32.ofNat dp) :: .ref dst :: .int (Int32.ofNat sp) :: .ref src :: rest))) := by
  obtain ⟨cs, A1, r1, r2⟩ := As
  obtain ⟨cd, A2, q1, q2⟩ := Ad
  obtain ⟨o1, kS, hkS, cpS, hkindS⟩ := A1.2.1
  obtain ⟨o2, kD, hkD, cpD, hkindD⟩ := A2.2.1
  obtain ⟨kS', hkS', eS⟩ := hZ.alike.2.2 _ _ hkS
  obtain ⟨kD', hkD', eD⟩ := hZ.alike.2.2 _ _ hkD
  have z1 : cs.slots.size = vs.length := by rw [r2]; simp
  have z2 : cd.slots.size = ds.length := by rw [q2]; simp
  have t1 : (Int32.ofNat sp).toInt = sp := Int32.toInt_ofNat_of_lt (by omega)
  have t2 : (Int32.ofNat dp).toInt = dp := Int32.toInt_ofNat_of_lt (by omega)
  have t3 : (Int32.ofNat n).toInt = n := Int32.toInt_ofNat_of_lt (by omega)
  have c1 : (Int32.ofNat sp).toNatClampNeg = sp := by rw [Int32.toNatClampNeg, t1]; rfl
  have c2 : (Int32.ofNat dp).toNatClampNeg = dp := by rw [Int32.toNatClampNeg, t2]; rfl
  have c3 : (Int32.ofNat n).toNatClampNeg = n := by rw [Int32.toNatClampNeg, t3]; rfl
  have n0 : ∀ k : Nat, k < 2147483648 → ¬ Int32.ofNat k < 0 := fun k hk => by
    rw [Int32.lt_iff_toInt_lt, Int32.toInt_ofNat_of_lt hk, show (0 : Int32).toInt = 0 from rfl]; omega
  have hget : ∀ i, i < n → ∃ z, cs.slots.getD (sp + i) .null = .int z ∧ fits .byte (.int z) = true ∧ vs[sp + i]? = some (.int z) := fun i hi => by
    have hl : sp + i < vs.length := by omega
    have hv := hfit vs[sp + i] (List.getElem_mem _)
    obtain ⟨z, hz⟩ := fitsByte_int hv
    refine ⟨z, ?_, by rw [← hz]; exact hv, by rw [List.getElem?_eq_getElem hl, hz]⟩
    rw [r2]; simp [Array.getD, hl, hz]
  have e7 : nativeFrameWords "java/lang/System" "arraycopy" 5 = 7 := by decide
  have hl9 : 2 * 1 + (rest.map fun v => v.category).sum + (nativeFrameWords "java/lang/System" "arraycopy" 5 + 11) ≤ R.locals := by
    have := Nat.le_of_ble_eq_true hlo
    rw [e7]; omega
  obtain ⟨vm', X', st⟩ := X.arraycopy hx hown (mvT hZ wl) (mvT hZ wn) (mvT hZ wst) (mvT hZ wz) (srcPos := Int32.ofNat sp) (destPos := Int32.ofNat dp) (n := Int32.ofNat n) (cs := cs) (cd := cd) (by rw [eT]; exact A1.1) (by rw [eT]; exact A2.1) o1 o2 A1.2.2 A2.2.2 hkS' hkD' (sComp := cpS) (dComp := cpD) (sType := .byte) (dType := .byte) (by rw [eS]; exact hkindS) (by rw [eD]; exact hkindD) rfl (n0 _ (by omega)) (n0 _ (by omega)) (n0 _ (by omega)) (by rw [t1, t3, z1]; omega) (by rw [t2, t3, z2]; omega)
    (fun vm' _ i hi => by
      rw [c3] at hi
      obtain ⟨z, e1, e2, -⟩ := hget i hi
      rw [c1, e1]; exact ⟨e2, trivial⟩)
    (g := mkL lk m pc Ls (.int (Int32.ofNat n) :: .int (Int32.ofNat dp) :: .ref dst :: .int (Int32.ofNat sp) :: .ref src :: rest)) rfl hsz (rest := rest) rfl hd (Nat.le_of_ble_eq_true hf) hl9
  refine (K _ _ _ X' rfl ?_ ?_).via st
  · refine ⟨?_, fun y hy => ?_⟩
    · have f := Cell.storeRun_facts cd (Int32.ofNat dp).toNatClampNeg (cs.stretch (Int32.ofNat sp).toNatClampNeg (Int32.ofNat n).toNatClampNeg)
      rw [← eT]
      exact setKeep (by rw [eT]; exact A2.1) f.1 f.2.1 f.2.2.1
    · obtain ⟨q, -, rfl⟩ := List.mem_map.mp hy
      exact Or.inl (by simp)
  · have f := Cell.storeRun_facts cd (Int32.ofNat dp).toNatClampNeg (cs.stretch (Int32.ofNat sp).toNatClampNeg (Int32.ofNat n).toNatClampNeg)
    have hlt : dst < T.heap.size := by rw [eT]; exact A2.lt
    refine ⟨copied cs cd (Int32.ofNat sp) (Int32.ofNat dp) (Int32.ofNat n), ⟨?_, ?_, ?_⟩, ?_, ?_⟩
    · show (T.heap.setIfInBounds dst _)[dst]? = _
      simp [hlt]
    · obtain ⟨i1, i2⟩ := A2.2.1
      refine ⟨fun k => ?_, ?_⟩
      · show (Cell.storeRun cd _ _).vm ≠ _
        rw [f.2.1]; exact i1 k
      · show ∃ k, Z.vm.classes[(Cell.storeRun cd _ _).cls]? = some k ∧ _
        rw [f.1]; exact i2
    · show (Cell.storeRun cd _ _).vm ≠ _
      rw [f.2.1]; exact A2.2.2
    · show (Cell.storeRun cd _ _).cls = _
      rw [f.1]; exact q1
    · show (Cell.storeRun cd _ _).slots = _
      have hsl : (cs.stretch (Int32.ofNat sp).toNatClampNeg (Int32.ofNat n).toNatClampNeg).length = n := by rw [c3]; simp [Cell.stretch]
      refine Array.ext_getElem? fun j => ?_
      rw [Cell.storeRun_get _ _ _ _ (by rw [hsl, c2, z2]; omega), hsl, c2, ← hvs]
      rw [show ((ds.take dp ++ ((vs.drop sp).take n ++ ds.drop (dp + n))).toArray)[j]? = (ds.take dp ++ ((vs.drop sp).take n ++ ds.drop (dp + n)))[j]? from List.getElem?_toArray]
      by_cases j1 : j < dp
      · rw [if_neg (by omega), List.getElem?_append_left (by simp; omega), q2]
        simp [List.getElem?_take, j1]
      · by_cases j2 : j < dp + n
        · rw [if_pos ⟨by omega, j2⟩, List.getElem?_append_right (by simp; omega)]
          have ht : (ds.take dp).length = dp := by simp; omega
          rw [ht, List.getElem?_append_left (by simp; omega)]
          obtain ⟨z, e1, -, e3⟩ := hget (j - dp) (by omega)
          have hl : j - dp < n := by omega
          rw [List.getElem?_take, if_pos hl, List.getElem?_drop, e3]
          rw [c1, c3]
          simp only [Cell.stretch, List.getElem?_map, List.getElem?_range hl, Option.map_some, e1]
        · rw [if_neg (by omega), List.getElem?_append_right (by simp; omega)]
          have ht : (ds.take dp).length = dp := by simp; omega
          have hm : ((vs.drop sp).take n).length = n := by simp; omega
          rw [ht, List.getElem?_append_right (by omega), hm, List.getElem?_drop, q2]
          simp
          congr 1; omega
end Copies
section Ends
variable {p : Program} {l : Launch} {e : Env} {R : Room} {s : State} {m : MethodId} {args : Array Value} {below : List Frame} {meth : Method} {c : Code} {T : State} {locs : List Loc} {cells slots : Nat} {pc pc' : Nat} {Ls : Array Slot} {rest : List Value} {Q : Option Value → Heap → List Loc → Prop} {k n : Nat} {lk : Addr} {cell : Cell}
theorem finS (X : Stand p l e R (s.setCell lk (cell.withEntry s.cur)) m args below meth c T locs cells slots) (hc : s.heap[lk]? = some cell) (ho : cell.enterable s.cur) (hl : meth.locks = true) {v : Option Value} (hv : meth.sig.returnType = none → v = none) {g : JFrame}
    (st : ∀ V, (∀ (f : JFrame) (acts : List Action), f.method = m → f.locked = some lk → f.entered = [] → (doReturn e (T.setTop f) acts v).1 = V) → Steps p.tables e below (T.setTop g) V) (hk : cells ≤ k) (hn : slots ≤ n) (hQ : ∀ V : State, Mon T.heap V.heap → FrameEnd s (.returned v) V locs k n → Q v V.heap locs) : Go p.tables e below (EndN s Q k n) (T.setTop g) := by
  obtain ⟨V, hr, hrun, hend, M, hW, hsame⟩ := leaveS X hc ho hl (v := v) hv
  have FE : FrameEnd s (.returned v) V locs k n := ⟨⟨_, rfl⟩, hW, hsame.mono hk hn⟩
  exact ⟨V, _, st V hr, hrun, hend, _, _, rfl, hQ V M FE, FE⟩
theorem ireturn (X : Stand p l e R (s.setCell lk (cell.withEntry s.cur)) m args below meth c T locs cells slots) (hx : p.tables.exec = Jvm.exec) (hc : s.heap[lk]? = some cell) (ho : cell.enterable s.cur) (hl : meth.locks = true) {z : Int32} (hret : meth.sig.returnType = some .int) (hd : decode c.code pc = .ok (.ireturn, 1)) (hk : cells ≤ k) (hn : slots ≤ n) (hQ : ∀ V : State, Mon T.heap V.heap → FrameEnd s (.returned (some (.int z))) V locs k n → Q (some (.int z)) V.heap locs) : Go p.tables e below (EndN s Q k n) (T.setTop (mkL lk m pc Ls (.int z :: rest))) :=
  finS X hc ho hl (v := some (.int z)) (fun h => by rw [hret] at h; cases h) (fun V hr => retS X hx hret rfl (Or.inl ⟨rfl, Or.inl rfl, z, rfl⟩) hd hr) hk hn hQ
theorem lreturn (X : Stand p l e R (s.setCell lk (cell.withEntry s.cur)) m args below meth c T locs cells slots) (hx : p.tables.exec = Jvm.exec) (hc : s.heap[lk]? = some cell) (ho : cell.enterable s.cur) (hl : meth.locks = true) {z : Int64} (hret : meth.sig.returnType = some .long) (hd : decode c.code pc = .ok (.lreturn, 1)) (hk : cells ≤ k) (hn : slots ≤ n) (hQ : ∀ V : State, Mon T.heap V.heap → FrameEnd s (.returned (some (.long z))) V locs k n → Q (some (.long z)) V.heap locs) : Go p.tables e below (EndN s Q k n) (T.setTop (mkL lk m pc Ls (.long z :: rest))) :=
  finS X hc ho hl (v := some (.long z)) (fun h => by rw [hret] at h; cases h) (fun V hr => retS X hx hret rfl (Or.inr (Or.inl ⟨rfl, rfl, z, rfl⟩)) hd hr) hk hn hQ
/-- what the end of an invocation says of the cells that were there -/
theorem endKeep {U V : State} {o : Outcome} {L : List Loc} (h : FrameEnd U o V L k n) {ws : List Addr} (q : ∀ y ∈ L, y.base ∈ ws ∨ U.heap.size ≤ y.base) : Keep U.heap V.heap ws := by
  have hs := h.2.2
  refine ⟨hs.2.1, fun x d hx hn => ?_, fun x d hx => ?_⟩
  · obtain ⟨d', h1, h2, -, h4⟩ := hs.2.2.2.2.2 x d hx
    have hb := (Array.getElem?_eq_some_iff.mp hx).1
    have hsl : d'.slots = d.slots := Array.ext_getElem? fun i => h4 i fun hm => (q _ hm).elim hn fun r => absurd hb (Nat.not_lt.mpr r)
    have hcc : d' = d := by rw [h2, hsl]
    rw [← hcc]; exact h1
  · obtain ⟨d', h1, h2, h3, -⟩ := hs.2.2.2.2.2 x d hx
    exact ⟨d', h1, by rw [h2], by rw [h2], h3⟩
theorem endUnt {U V : State} {o : Outcome} {L : List Loc} (h : FrameEnd U o V L k n) {x : Addr} (u : ∃ d : Cell, U.heap[x]? = some d ∧ d.vm = .none ∧ d.monitor = {}) : ∃ d : Cell, V.heap[x]? = some d ∧ d.vm = .none ∧ d.monitor = {} := by
  obtain ⟨d, h0, h1, h2⟩ := u
  obtain ⟨d', g1, g2, -, -⟩ := h.2.2.2.2.2.2.2 x d h0
  exact ⟨d', g1, by rw [g2]; exact h1, by rw [g2]; exact h2⟩
end Ends
section SPays
/-- a synchronized instance method's contract, narrow -/
def SPay (l : Launch) (Z : State) (y : MethodName) (bytes : ByteArray) (maxL : Nat) (ret : Option FieldType) (rm : Room) (as' : Array Value) (a : Addr) (h0 : Heap) (Q : Option Value → Heap → List Loc → Prop) : Prop :=
  ∀ ws : List Jvm.Cond, Jvm.Cond.instanceMethod y ∈ ws → MetFree l y (head1 (Jvm.Cond.codeSync y bytes maxL ret :: ws) rm) (fun as U => as = as' ∧ Z.Warmed39 U.vm ∧ U.heap = h0 ∧ ∃ cell : Cell, h0[a]? = some cell ∧ cell.enterable U.cur) (fun _ _ _ _ _ => True) (fun _ U o U' => ∃ v L, o = .returned v ∧ Q v U'.heap L ∧ FrameEnd U o U' L rm.cells rm.slots)
variable {l : Launch} {Z : State} {y : MethodName} {bytes : ByteArray} {maxL : Nat} {ret : Option FieldType} {rm : Room} {as' : Array Value} {a : Addr} {h0 : Heap} {Q : Option Value → Heap → List Loc → Prop}
theorem SPay.of {Ls : Array Slot} (hpn : plainFor y = true) (hra : as'[0]? = some (.ref a)) (hef : ∀ m, entryFrameSync m as' maxL a = mkL a m 0 Ls [])
    (body : ∀ (p : Program) (e : Env) (s : State) (m : MethodId) (below : List Frame) (meth : Method) (c : Code) (cell : Cell) (T : State), p.tables.exec = Jvm.exec → c.code = bytes → c.maxLocals = maxL → s.vm.findClass y.cls = some m.cls → Z.Warmed39 s.vm → meth.sig.returnType = ret → meth.locks = true → s.heap = h0 → s.heap[a]? = some cell → cell.enterable s.cur → Stand p l e rm (s.setCell a (cell.withEntry s.cur)) m as' below meth c T [] 0 0 → Mon h0 T.heap →
      Go p.tables e below (EndN s Q rm.cells rm.slots) (T.setTop (mkL a m 0 Ls []))) : SPay l Z y bytes maxL ret rm as' a h0 Q := by
  intro ws hin
  refine MetFree.of_bodySync hpn (hisS hin) (fun _ s _ ⟨h1, _, h2, cl, h3, h4⟩ => ⟨a, cl, by rw [h1]; exact hra, by rw [h2]; exact h3, h4⟩) ?_
  intro p e s m args below meth c a' cell s₁ Bd hml0 hP _
  obtain ⟨rfl, hZ, hh, -⟩ := hP
  have ha : a' = a := by have := hra.symm.trans Bd.receiver; simpa using this.symm
  subst ha
  rw [hef m]
  exact body p e s m below meth c cell s₁ Bd.exec Bd.bytes hml0 (findClass_of_methodNamed Bd.named) hZ Bd.returns Bd.synchronized hh Bd.object Bd.enterable (Stand.of_bodySync Bd) (by rw [← hh, Bd.state]; exact mon_set Bd.object _)
variable {p : Program} {e : Env} {R : Room} {s : State} {m : MethodId} {args : Array Value} {below : List Frame} {meth : Method} {c : Code} {T : State} {locs : List Loc} {cells slots : Nat} {G : Outcome → State → Prop} {pc : Nat} {Ls : Array Slot} {a0 : Array Value}
/-- its payer: the receiver's monitor is free -/
theorem backS {len W : Nat} (hP : SPay l Z y bytes maxL ret rm as' a h0 Q) (hZ : Z.Warmed39 s.vm) (wc : (Cond.codeSync y bytes maxL ret).before a0 Z = true) (wi : (Cond.instanceMethod y).before a0 Z = true) (wz : (Cond.initialized y.cls).before a0 Z = true) (N : ∃ d : Cell, h0[a]? = some d ∧ d.vm = .none ∧ d.monitor = {}) (hf : rm.frames + 1 ≤ R.frames) (hl : W + (maxL + 11) + rm.locals ≤ R.locals) :
    Back l R p e below s args y len W (fun A as => as = as' ∧ A.U.heap = h0 ∧ A.cells + rm.cells ≤ R.cells ∧ A.slots + rm.slots ≤ R.slots)
      (fun A _ v B => ∃ L, Q v B.U.heap L ∧ B.locs = A.locs ++ L ∧ B.cells = A.cells + rm.cells ∧ B.slots = A.slots + rm.slots) := by
  refine Jvm.Free.XT.back_of_sync (bytes := bytes) (maxL := maxL) (ret := ret) (E := fun _ _ o t L k n => k = rm.cells ∧ n = rm.slots ∧ ∃ v, o = .returned v ∧ Q v t.heap L) (hP [Cond.instanceMethod y] (List.mem_cons_self ..)) hf hl ?_ ?_ (fun _ _ _ _ _ _ _ _ _ => trivial) ?_ ?_
  · intro m meth c A as Y hp
    have hU : Z.Warmed39 A.U.vm := wtrans hZ Y.warmed
    refine ⟨?_, mv hU wc, mv hU wz, hp.2.2.1, hp.2.2.2⟩
    show (Cond.and _ (Cond.and _ .tt)).before as A.U = true
    rw [Cond.before_and, Cond.before_and, mv hU wc, mv hU wi]; rfl
  · intro m meth c A as g mk Y hp
    obtain ⟨cl, u1, -, u3⟩ := N
    exact ⟨hp.1, wtrans hZ Y.warmed, hp.2.1, cl, u1, by rw [Cell.enterable, u3]; simp⟩
  · rintro _ _ _ _ ⟨v, L, h1, h2, h3⟩
    exact ⟨L, _, _, h3, rfl, rfl, v, h1, h2⟩
  · rintro m meth c A as g mk v t L k n Y hp _ _ ⟨e1, e2, v', e3, e4⟩
    cases e3; subst e1 e2
    exact ⟨L, e4, rfl, rfl, rfl⟩
/-- invokevirtual of a method that a superclass declares (x is named, owner declares it, y is selected), by whoever pays it -/
theorem callUB (X : Stand p l e R s m args below meth c T locs cells slots) (hx : p.tables.exec = Jvm.exec) (hZ : Z.Warmed39 s.vm) {b : Addr} {argsL rest st : List Value} {kc ks : Nat}
    (hK : Back l R p e below s args y 3 ((rest.map fun v => v.category).sum) (fun A a => a = as' ∧ A.U.heap = h0 ∧ A.cells + kc ≤ R.cells ∧ A.slots + ks ≤ R.slots) (fun A _ v B => ∃ L, Q v B.U.heap L ∧ B.locs = A.locs ++ L ∧ B.cells = A.cells + kc ∧ B.slots = A.slots + ks)) (eT : T.heap = h0) {C owner : String} {x : MethodName} {own : String} {index : Nat} (hown : s.vm.findClass own = some m.cls)
    (wl : (Cond.methodLink own index x).before a0 Z = true) (wsm : (Cond.sameMethod x.cls owner x.name x.desc).before a0 Z = true) (wd : (Cond.declares ⟨owner, x.name, x.desc⟩).before a0 Z = true) (wse : (Cond.selects C x y).before a0 Z = true) (win : (Cond.instanceMethod y).before a0 Z = true)
    (hy : owner ≠ "java/lang/invoke/MethodHandle" ∧ owner ≠ "java/lang/invoke/VarHandle") {ps : List FieldType} {rt : Option FieldType} (hpd : parseMethodDescriptor x.desc = some ⟨ps, rt⟩) (hsz : Ls.size = c.maxLocals)
    (E : Exa Z h0 b C) (has : (.ref b :: argsL).toArray = as') (hlen : argsL.length = ps.length) (hst : st = argsL.reverse ++ .ref b :: rest) (hd : decode c.code pc = .ok (.invokevirtual index, 3)) (hce : cells + kc ≤ R.cells) (hsl : slots + ks ≤ R.slots)
    (K : ∀ (v : Option Value) (T' : State) (L : List Loc), Stand p l e R s m args below meth c T' (locs ++ L) (cells + kc) (slots + ks) → Q v T'.heap L → Go p.tables e below G (T'.setTop (mkF m (pc + 3) Ls (v.toList ++ rest)))) :
    Go p.tables e below G (T.setTop (mkF m pc Ls st)) := by
  obtain ⟨cq, kq, qa, qb, qc⟩ := isOf hZ eT E
  obtain ⟨_, _, ⟨T1, L1, k1, n1⟩, -, X1, ⟨Lc, hQ, l1, y1, z1⟩, st1⟩ := X.virtualBackUp hx (x := x) (y := y) hown (mvT hZ wl) (mvT hZ wsm) (mvT hZ wd) hy (mvT hZ wse) (mvT hZ win) hK qa qc (g := mkF m pc Ls st) rfl hsz (Steps.refl _) (argsL := argsL) (rest := rest) (lenOf hpd hlen) hst (by show 2 * 0 + _ ≤ _; omega) hd (fun _ _ => ⟨has, eT, hce, hsl⟩)
  dsimp only [Pt.U, Pt.locs, Pt.cells, Pt.slots] at X1 l1 y1 z1 st1 hQ
  subst l1 y1 z1
  exact (K _ _ _ X1 hQ).thru st1
end SPays
end Jvm.Owl
namespace Jvm.Ow
open Sem ClassFile Op Lib Jvm.Stand Jvm.Free Jvm.LawKit Jvm.RoadKit
theorem decl_of {Z : State} {a0 : Array Value} {y : MethodName} {bytes : ByteArray} {maxL : Nat} {ret : Option FieldType} (wc : (Cond.code y bytes maxL ret).before a0 Z = true) (wi : (Cond.instanceMethod y).before a0 Z = true) : (Cond.declares y).before a0 Z = true := by
  obtain ⟨mk, methM, hn, hm, hst, -⟩ := Cond.instanceMethod_spec wi
  obtain ⟨m2, cM, q1, -, -, -, -, -, -, hsig⟩ := Cond.code_spec hn wc
  have q2 : m2 = methM := Option.some.inj (q1.symm.trans hm)
  rw [q2] at hsig
  simp [Cond.before, Cond.holds, Cond.value, hn, hm, hst, hsig]
end Jvm.Ow
namespace Jvm.Ow
open Sem ClassFile Op Lib Jvm.Stand Jvm.Free Jvm.LawKit Jvm.RoadKit
theorem same_self {Z : State} {a0 : Array Value} {y y' : MethodName} {C : String} (wi : (Cond.instanceMethod y).before a0 Z = true) (hy : y.cls ≠ "java/lang/invoke/MethodHandle" ∧ y.cls ≠ "java/lang/invoke/VarHandle") (ws : (Cond.selects C y' y').before a0 Z = true) (hc : y'.cls = y.cls) : (Cond.sameMethod y.cls y.cls y.name y.desc).before a0 Z = true := by
  obtain ⟨mk, methM, hn, hm, hst, -⟩ := Cond.instanceMethod_spec wi
  obtain ⟨c2, r2, m2, -, -, s3, -, kP, s5, s6⟩ := Cond.selects_spec ws
  have e1 := findClass_of_methodNamed hn
  have e2 := findClass_of_methodNamed s3
  rw [hc] at e2
  have e3 : m2.cls = mk.cls := Option.some.inj (e2.symm.trans e1)
  rw [e3] at s5
  have e4 := State.methodFound?_of_named hn hy
  have hn' : Z.methodNamed? ⟨y.cls, y.name, y.desc⟩ = some mk := hn
  simp [Cond.before, Cond.holds, Cond.value, e1, e4, hn', s5, s6]
theorem nostat_of {h : Heap} {x : Addr} (P : ∃ c : Cell, h[x]? = some c ∧ c.vm.isStatics = false) : ∀ cell : Cell, h[x]? = some cell → cell.vm.isStatics = false := fun cell q => by
  obtain ⟨c, h1, h2⟩ := P
  have e : c = cell := Option.some.inj (h1.symm.trans q)
  rw [← e]; exact h2
section Sups
variable {l : Launch} {Z : State} {y : MethodName} {bytes : ByteArray} {maxL : Nat} {ret : Option FieldType} {rm : Room} {as' : Array Value} {h0 : Heap} {Q : Option Value → Heap → List Loc → Prop}
variable {p : Program} {e : Env} {R : Room} {s : State} {m : MethodId} {args : Array Value} {below : List Frame} {meth : Method} {c : Code} {T : State} {locs : List Loc} {cells slots : Nat} {G : Outcome → State → Prop} {pc : Nat} {Ls : Array Slot} {a0 : Array Value}
/-- invokespecial of the superclass's method -/
theorem callSup (X : Stand p l e R s m args below meth c T locs cells slots) (hx : p.tables.exec = Jvm.exec) (hZ : Z.Warmed39 s.vm) (hP : Pay l Z y bytes maxL ret rm as' h0 Q) (eT : T.heap = h0) {own : String} {index : Nat} (hown : s.vm.findClass own = some m.cls)
    (wl : (Cond.methodLink own index y).before a0 Z = true) (wsm : (Cond.sameMethod y.cls y.cls y.name y.desc).before a0 Z = true) (win : (Cond.instanceMethod y).before a0 Z = true) (wsup : (Cond.superclass own y.cls).before a0 Z = true) (hn : y.name ≠ "<init>") (wz : (Cond.initialized y.cls).before a0 Z = true) (wc : (Cond.code y bytes maxL ret).before a0 Z = true)
    {ps : List FieldType} {rt : Option FieldType} (hpd : parseMethodDescriptor y.desc = some ⟨ps, rt⟩) (hsz : Ls.size = c.maxLocals)
    {a : Addr} {C : String} (E : Exa Z h0 a C) {argsL rest st : List Value} (has : (.ref a :: argsL).toArray = as') (hlen : argsL.length = ps.length) (hst : st = argsL.reverse ++ .ref a :: rest) (hd : decode c.code pc = .ok (.invokespecial index, 3))
    (hf : (rm.frames + 1).ble R.frames = true) (hlo : ((rest.map fun v => v.category).sum + (maxL + 11) + rm.locals).ble R.locals = true) (hce : cells + rm.cells ≤ R.cells) (hsl : slots + rm.slots ≤ R.slots)
    (K : ∀ (v : Option Value) (T' : State) (L : List Loc), Stand p l e R s m args below meth c T' (locs ++ L) (cells + rm.cells) (slots + rm.slots) → Q v T'.heap L → Go p.tables e below G (T'.setTop (mkF m (pc + 3) Ls (v.toList ++ rest)))) :
    Go p.tables e below G (T.setTop (mkF m pc Ls st)) := by
  obtain ⟨_, _, ⟨T1, L1, k1, n1⟩, -, X1, ⟨Lc, hQ, l1, y1, z1⟩, st1⟩ := superBack X hx hZ (K := C) (y := y) hown wl wsm win wsup hn (backOf (W := (rest.map fun v => v.category).sum) (hP []) hZ wc wz (Nat.le_of_ble_eq_true hf) (Nat.le_of_ble_eq_true hlo)) eT (Ins.self E) (g := mkF m pc Ls st) rfl hsz wc (argsL := argsL) (rest := rest) (lenOf hpd hlen) hst (by show 2 * 0 + _ ≤ _; omega) hd (fun _ _ => ⟨has, eT, hce, hsl⟩)
  dsimp only [Pt.U, Pt.locs, Pt.cells, Pt.slots] at X1 l1 y1 z1 st1 hQ
  subst l1 y1 z1
  exact (K _ _ _ X1 hQ).thru st1
/-- invokevirtual of a method that a superclass declares or a subclass overrides, by a narrow contract -/
theorem callU (X : Stand p l e R s m args below meth c T locs cells slots) (hx : p.tables.exec = Jvm.exec) (hZ : Z.Warmed39 s.vm) (hP : Pay l Z y bytes maxL ret rm as' h0 Q) (eT : T.heap = h0) {C owner : String} {x : MethodName} {own : String} {index : Nat} (hown : s.vm.findClass own = some m.cls)
    (wl : (Cond.methodLink own index x).before a0 Z = true) (wsm : (Cond.sameMethod x.cls owner x.name x.desc).before a0 Z = true) (wd : (Cond.declares ⟨owner, x.name, x.desc⟩).before a0 Z = true) (wse : (Cond.selects C x y).before a0 Z = true) (win : (Cond.instanceMethod y).before a0 Z = true) (wz : (Cond.initialized y.cls).before a0 Z = true) (wc : (Cond.code y bytes maxL ret).before a0 Z = true)
    (hy : owner ≠ "java/lang/invoke/MethodHandle" ∧ owner ≠ "java/lang/invoke/VarHandle") {ps : List FieldType} {rt : Option FieldType} (hpd : parseMethodDescriptor x.desc = some ⟨ps, rt⟩) (hsz : Ls.size = c.maxLocals)
    {b : Addr} (E : Exa Z h0 b C) {argsL rest st : List Value} (has : (.ref b :: argsL).toArray = as') (hlen : argsL.length = ps.length) (hst : st = argsL.reverse ++ .ref b :: rest) (hd : decode c.code pc = .ok (.invokevirtual index, 3))
    (hf : (rm.frames + 1).ble R.frames = true) (hlo : ((rest.map fun v => v.category).sum + (maxL + 11) + rm.locals).ble R.locals = true) (hce : cells + rm.cells ≤ R.cells) (hsl : slots + rm.slots ≤ R.slots)
    (K : ∀ (v : Option Value) (T' : State) (L : List Loc), Stand p l e R s m args below meth c T' (locs ++ L) (cells + rm.cells) (slots + rm.slots) → Q v T'.heap L → Go p.tables e below G (T'.setTop (mkF m (pc + 3) Ls (v.toList ++ rest)))) :
    Go p.tables e below G (T.setTop (mkF m pc Ls st)) :=
  Jvm.Owl.callUB X hx hZ (backOf (W := (rest.map fun v => v.category).sum) (hP []) hZ wc wz (Nat.le_of_ble_eq_true hf) (Nat.le_of_ble_eq_true hlo)) eT hown wl wsm wd wse win hy hpd hsz E has hlen hst hd hce hsl K
/-- an exception's constructor of one argument, with all that it calls -/
theorem excOne {h : Heap} (X : Stand p l e R s m args below meth c T locs cells slots) (hx : p.tables.exec = Jvm.exec) (hl : l.stackTraces = true) (hZ : Z.Warmed39 s.vm) {own rc : String} (hown : s.vm.findClass own = some m.cls) {links : List Jvm.Free.Exc.Link} {ic n : Nat} (hok : Jvm.Free.Exc.linksOk 1 links = true)
    (w1 : (Cond.methodLink own ic (Jvm.Free.Exc.ctor 1 (Jvm.Free.Exc.headName links))).before a0 Z = true) (w2 : (Cond.instanceMethod (Jvm.Free.Exc.ctor 1 (Jvm.Free.Exc.headName links))).before a0 Z = true) (wT : (Jvm.Free.Exc.chainTab 1 rc links).before a0 Z = true) (wi : (Cond.instantiable rc n).before a0 Z = true) (r : ∀ d ∈ twoRefs, d.before a0 Z = true)
    (hT0 : ThS Z s.heap) (hT : ThS Z h) (hTK : s.vm.MethodsKnown) (hBelow : s.vm.FramesKnown below) (eT : T.heap = h) {a : Addr} (E : Exa Z h a rc) (N : Unt h a) (B : Fld Z h a "java/lang/Throwable" "backtrace" "Ljava/lang/Object;" .null) (B2 : Fld Z h a "java/lang/Throwable" "detailMessage" "Ljava/lang/String;" .null) {msg : Value} (hmsg : msg.isRef = true)
    {rest : List Value} (hsz : Ls.size = c.maxLocals) (hd : decode c.code pc = .ok (.invokespecial ic, 3)) (hf : (4 + links.length).ble R.frames = true) (hlo : ((rest.map fun v => v.category).sum + (56 + 14 * links.length)).ble R.locals = true) (hc : cells + 1 ≤ R.cells) (hsl : slots + 2752 ≤ R.slots)
    (K : ∀ T' h', Stand p l e R s m args below meth c T' (locs ++ sixLocs Z a) (cells + 1) (slots + 2752) → T'.heap = h' → Eff h h' [a] (sixLocs Z a) → Exa Z h' a rc → Fld Z h' a "java/lang/Throwable" "detailMessage" "Ljava/lang/String;" msg → ThS Z h' → Go p.tables e below G (T'.setTop (mkF m (pc + 3) Ls rest))) : Go p.tables e below G (T.setTop (mkF m pc Ls (msg :: .ref a :: rest))) := by
  obtain ⟨T', h', X', e', Kp, E', -, M', -, S', st⟩ := excL1 X hx hl hZ hown hok w1 w2 wT wi r hT0 hT hTK hBelow eT E N B B2 hmsg (g := mkF m pc Ls (msg :: .ref a :: rest)) rfl hsz (rest := rest) rfl hd (Nat.le_of_ble_eq_true hf) (by have := Nat.le_of_ble_eq_true hlo; show 2 * 0 + (rest.map fun v => v.category).sum + (56 + 14 * links.length) ≤ _; omega) hc hsl
  refine (K T' h' X' e' ⟨keep_of_kp Kp, fun y hy => ?_⟩ E' M' S').via st
  obtain ⟨nd, -, rfl⟩ := List.mem_map.mp hy
  exact Or.inl (by simp)
end Sups
section PaysK
/-- a wide contract beneath which a stack trace may be filled in -/
def PayK (l : Launch) (Z : State) (EL : List (String × Nat)) (y : MethodName) (bytes : ByteArray) (maxL : Nat) (ret : Option FieldType) (rm : Room) (as' : Array Value) (h0 : Heap) (Q : Option Value → Heap → List Loc → Prop) : Prop :=
  ∀ ws : List Jvm.Cond, MetFree l y (head1 (Jvm.Cond.code y bytes maxL ret :: ws) rm) (fun a U => a = as' ∧ Z.Warmed39 U.vm ∧ U.heap = h0 ∧ CHv Z EL U.vm h0) (fun _ _ bl s _ => s.vm.MethodsKnown ∧ s.vm.FramesKnown bl) (fun _ U o U' => ∃ v L, o = .returned v ∧ Q v U'.heap L ∧ CHr Z EL U.vm U.heap U'.vm U'.heap ∧ ReturnedEndW U o U' L rm.cells rm.slots)
variable {l : Launch} {Z : State} {EL : List (String × Nat)} {y : MethodName} {bytes : ByteArray} {maxL : Nat} {ret : Option FieldType} {rm : Room} {as' : Array Value} {h0 : Heap} {Q : Option Value → Heap → List Loc → Prop}
theorem PayK.of {Ls : Array Slot} (hpn : plainFor y = true) (hef : ∀ m, entryFrame m as' maxL = mkF m 0 Ls [])
    (body : ∀ (p : Program) (e : Env) (s : State) (m : MethodId) (below : List Frame) (meth : Method) (c : Code) (T : State) (vm0 : Vm), p.tables.exec = Jvm.exec → c.code = bytes → c.maxLocals = maxL → vm0.findClass y.cls = some m.cls → s.methodNamed? y = some m → s.vm.method? m = some meth → meth.sig.returnType = ret → meth.locks = false → Stand p l e rm (s.setVm vm0) m as' below meth c T [] 0 0 → T.heap = h0 → Wd s Z EL vm0 h0 → vm0.MethodsKnown → vm0.FramesKnown below → s.heap = h0 →
      Go p.tables e below (EndW Z EL s Q rm.cells rm.slots) (T.setTop (mkF m 0 Ls []))) : PayK l Z EL y bytes maxL ret rm as' h0 Q := by
  intro ws
  refine MetFree.of_bodySF hpn hisR ?_
  intro p e s m args below meth c s₁ Bd hml0 hP hK
  obtain ⟨rfl, hZ, hh, H⟩ := hP
  rw [hef m]
  subst hh
  exact body p e s m below meth c s₁ s.vm Bd.exec Bd.bytes hml0 (findClass_of_methodNamed Bd.named) Bd.named Bd.method Bd.returns Bd.notSynchronized (Stand.of_body Bd) (by rw [Bd.state]; rfl) (Wd.start hZ H) hK.1 hK.2 rfl
variable {p : Program} {e : Env} {R : Room} {s : State} {vm0 : Vm} {m : MethodId} {args : Array Value} {below : List Frame} {meth : Method} {c : Code} {T : State} {locs : List Loc} {cells slots : Nat} {G : Outcome → State → Prop} {pc : Nat} {Ls : Array Slot} {a0 : Array Value}
/-- invokestatic by such a contract -/
theorem callSK (X : Stand p l e R (s.setVm vm0) m args below meth c T locs cells slots) (hx : p.tables.exec = Jvm.exec) (hP : PayK l Z EL y bytes maxL ret rm as' h0 Q) (eT : T.heap = h0) (D : Wd s Z EL vm0 h0) (hEL : EW Z a0 EL) (hTK : vm0.MethodsKnown) (hBl : vm0.FramesKnown below) {own : String} {index : Nat} (hown : vm0.findClass own = some m.cls)
    (wl : (Cond.methodLink own index y).before a0 Z = true) (wst : (Cond.static y).before a0 Z = true) (wz : (Cond.initialized y.cls).before a0 Z = true) (wc : (Cond.code y bytes maxL ret).before a0 Z = true)
    (hy : y.cls ≠ "java/lang/invoke/MethodHandle" ∧ y.cls ≠ "java/lang/invoke/VarHandle") {ps : List FieldType} {rt : Option FieldType} (hpd : parseMethodDescriptor y.desc = some ⟨ps, rt⟩) (hsz : Ls.size = c.maxLocals)
    {argsL rest st : List Value} (has : argsL.toArray = as') (hlen : argsL.length = ps.length) (hst : st = argsL.reverse ++ rest) (hd : decode c.code pc = .ok (.invokestatic index, 3))
    (hf : (rm.frames + 1).ble R.frames = true) (hlo : ((rest.map fun v => v.category).sum + (maxL + 11) + rm.locals).ble R.locals = true) (hce : cells + rm.cells ≤ R.cells) (hsl : slots + rm.slots ≤ R.slots)
    (K : ∀ (v : Option Value) (vm1 : Vm) (T' : State) (L : List Loc), Stand p l e R (s.setVm vm1) m args below meth c T' (locs ++ L) (cells + rm.cells) (slots + rm.slots) → Q v T'.heap L → Wd s Z EL vm1 T'.heap → vm1.findClass own = some m.cls → CHr Z EL vm0 h0 vm1 T'.heap → Go p.tables e below G (T'.setTop (mkF m (pc + 3) Ls (v.toList ++ rest)))) :
    Go p.tables e below G (T.setTop (mkF m pc Ls st)) := by
  have hy' := hy
  obtain ⟨⟨k0, hS, hk0⟩, hZ, C⟩ := D
  have hZ' : Z.Warmed39 (s.setVm vm0).vm := hZ
  have hown' : (s.setVm vm0).vm.findClass own = some m.cls := hown
  obtain ⟨_, _, ⟨T1, L1, k1, n1⟩, -, X1, S1, g1, ⟨Lc, hQ, l1, y1, z1, C1⟩, st1⟩ := callSS X hx (y := y) hown' (mvT hZ' wl) (mvT hZ' wst) (mvT hZ' wz) (mvT hZ' wc) hy' (backOfSKH (W := (rest.map fun v => v.category).sum) (hP []) hZ wc wz (Nat.le_of_ble_eq_true hf) (Nat.le_of_ble_eq_true hlo) hEL C.1 hTK hBl) (g := mkF m pc Ls st) rfl hsz (argsL := argsL) (rest := rest) (lenOf hpd hlen) hst (by show 2 * 0 + _ ≤ _; omega) hd (fun _ _ => ⟨has, eT, hce, hsl⟩)
  dsimp only [Pt.U, Pt.locs, Pt.cells, Pt.slots] at X1 l1 y1 z1 st1 hQ S1 g1 C1
  subst l1 y1 z1
  obtain ⟨X2, S2, Z2, O2⟩ := rebS hS (by rw [← eT] at hk0; exact hk0) X1 S1 g1 hZ' hown'
  exact (K _ T1.vm _ _ X2 hQ ⟨⟨_, S2, Nat.le_refl _⟩, Z2, C.trans C1⟩ O2 C1).thru st1
end PaysK
end Jvm.Ow
namespace Jvm.Ow
open Sem ClassFile Op Lib Jvm.Stand Jvm.Free Jvm.LawKit Jvm.RoadKit Bundle LibCode.Throwable
section PaysT
/-- a narrow contract beneath which a stack trace may be filled in -/
def PayT (l : Launch) (Z : State) (y : MethodName) (bytes : ByteArray) (maxL : Nat) (ret : Option FieldType) (rm : Room) (as' : Array Value) (h0 : Heap) (Q : Option Value → Heap → List Loc → Prop) : Prop :=
  ∀ ws : List Jvm.Cond, MetFree l y (head1 (Jvm.Cond.code y bytes maxL ret :: ws) rm) (fun a U => a = as' ∧ Z.Warmed39 U.vm ∧ U.heap = h0) (fun _ _ bl s _ => s.vm.MethodsKnown ∧ s.vm.FramesKnown bl) (fun _ U o U' => ∃ v L, o = .returned v ∧ Q v U'.heap L ∧ FrameEnd U o U' L rm.cells rm.slots)
variable {l : Launch} {Z : State} {y : MethodName} {bytes : ByteArray} {maxL : Nat} {ret : Option FieldType} {rm : Room} {as' : Array Value} {h0 : Heap} {Q : Option Value → Heap → List Loc → Prop}
theorem PayT.of {Ls : Array Slot} (hpn : plainFor y = true) (hef : ∀ m, entryFrame m as' maxL = mkF m 0 Ls [])
    (body : ∀ (p : Program) (e : Env) (s : State) (m : MethodId) (below : List Frame) (meth : Method) (c : Code) (T : State), p.tables.exec = Jvm.exec → c.code = bytes → c.maxLocals = maxL → s.vm.findClass y.cls = some m.cls → s.methodNamed? y = some m → s.vm.method? m = some meth → Z.Warmed39 s.vm → meth.sig.returnType = ret → meth.locks = false → Stand p l e rm s m as' below meth c T [] 0 0 → T.heap = h0 → s.heap = h0 → s.vm.MethodsKnown → s.vm.FramesKnown below →
      Go p.tables e below (EndN s Q rm.cells rm.slots) (T.setTop (mkF m 0 Ls []))) : PayT l Z y bytes maxL ret rm as' h0 Q := by
  intro ws
  refine MetFree.of_bodySF hpn hisR ?_
  intro p e s m args below meth c s₁ Bd hml0 hP hK
  obtain ⟨rfl, hZ, hh⟩ := hP
  rw [hef m]
  exact body p e s m below meth c s₁ Bd.exec Bd.bytes hml0 (findClass_of_methodNamed Bd.named) Bd.named Bd.method hZ Bd.returns Bd.notSynchronized (Stand.of_body Bd) (by rw [← hh, Bd.state]; rfl) hh hK.1 hK.2
variable {p : Program} {e : Env} {R : Room} {s : State} {m : MethodId} {args : Array Value} {below : List Frame} {meth : Method} {c : Code} {T : State} {locs : List Loc} {cells slots : Nat} {G : Outcome → State → Prop} {pc : Nat} {Ls : Array Slot} {a0 : Array Value}
/-- invokespecial of a constructor by such a contract -/
theorem callIT (X : Stand p l e R s m args below meth c T locs cells slots) (hx : p.tables.exec = Jvm.exec) (hZ : Z.Warmed39 s.vm) (hP : PayT l Z y bytes maxL none rm as' h0 Q) (hTK : s.vm.MethodsKnown) (hBl : s.vm.FramesKnown below) (eT : T.heap = h0) (hni : y.name = "<init>") {own : String} {index : Nat} (hown : s.vm.findClass own = some m.cls)
    (wl : (Cond.methodLink own index y).before a0 Z = true) (win : (Cond.instanceMethod y).before a0 Z = true) (wz : (Cond.initialized y.cls).before a0 Z = true) (wc : (Cond.code y bytes maxL none).before a0 Z = true)
    (hy : y.cls ≠ "java/lang/invoke/MethodHandle" ∧ y.cls ≠ "java/lang/invoke/VarHandle") {ps : List FieldType} {rt : Option FieldType} (hpd : parseMethodDescriptor y.desc = some ⟨ps, rt⟩) (hsz : Ls.size = c.maxLocals)
    {a : Addr} {argsL rest st : List Value} (has : (.ref a :: argsL).toArray = as') (hlen : argsL.length = ps.length) (hst : st = argsL.reverse ++ .ref a :: rest) (hd : decode c.code pc = .ok (.invokespecial index, 3))
    (hf : (rm.frames + 1).ble R.frames = true) (hlo : ((rest.map fun v => v.category).sum + (maxL + 11) + rm.locals).ble R.locals = true) (hce : cells + rm.cells ≤ R.cells) (hsl : slots + rm.slots ≤ R.slots)
    (K : ∀ (v : Option Value) (T' : State) (L : List Loc), Stand p l e R s m args below meth c T' (locs ++ L) (cells + rm.cells) (slots + rm.slots) → Q v T'.heap L → Go p.tables e below G (T'.setTop (mkF m (pc + 3) Ls (v.toList ++ rest)))) :
    Go p.tables e below G (T.setTop (mkF m pc Ls st)) :=
  callIB X hx hZ (backOfKL (W := (rest.map fun v => v.category).sum) (hP []) hZ wc wz (Nat.le_of_ble_eq_true hf) (Nat.le_of_ble_eq_true hlo) hTK hBl) eT hni hown wl win wc hy hpd hsz has hlen hst hd hce hsl K
end PaysT
/-- the one word of the exceptions' list that a sheet may lack -/
def noW : Cond := .lays tN tN "suppressedExceptions" listD
section Thr
variable {args : Array Value} {s : State} {pl : Platform} {rc : String}
/-- Throwable's links, where 'suppressedExceptions' is laid out for the receiver's class alone -/
theorem thrLinks (hrc : rc ≠ tN) (b1 : pl.frameOwnsMonitors = true) (b2 : pl.finalization = false) (b3 : pl.magicAccessors = ({} : Platform).magicAccessors) (W : ∀ d ∈ Exc.excAtoms rc, d ≠ noW → d.before args s = true) :
    ∃ T : ThrowableC, T.Links pl s ∧ s.vm.findClass tN = some T.cT ∧ s.methodNamed? tFill = some T.fill ∧ s.methodNamed? tFill0 = some T.fill0 ∧ s.fieldFound? tN "stackTrace" steD = some (T.cT, T.kT, T.i17, T.fStack) ∧ T.fStack.type = .array (.object "java/lang/StackTraceElement") ∧ s.fieldFound? tN "UNASSIGNED_STACK" steD = some (T.cT, T.kT, T.i13, T.fUnassigned) := by
  have w : ∀ d, d ∈ Exc.excAtoms rc → d ≠ noW → d.holds args s none s [] = true := W
  -- the class
  obtain ⟨⟨cT, j0⟩, q0, n0, m0, nat0, cd0, lk0, sg0⟩ := Cond.native_spec (w (.native tFill0) (by simp [Exc.excAtoms, throwableAtoms]) (by simp [noW]))
  have hc : s.vm.findClass tN = some cT := findClass_of_methodNamed n0
  obtain ⟨kT, hk, hnm⟩ := Vm.findClass_spec hc
  obtain ⟨_, k1, _, _, hk1, _, _, _, _, hni⟩ := Cond.superclass_spec hc (w (.superclass tN "java/lang/Object") (by simp [Exc.excAtoms, throwableAtoms]) (by simp [noW]))
  obtain rfl : k1 = kT := Option.some.inj (hk1.symm.trans hk)
  -- its fields
  obtain ⟨ci7, i7, f7, l7, r7, a7, s7, x7, -, -, -⟩ := Cond.ownField (C' := rc) (t := .object tN) hc hk (by decide +kernel) (w (.fieldLink tN 7 tN "cause" "Ljava/lang/Throwable;") (by simp [Exc.excAtoms, throwableAtoms]) (by simp [noW])) (w (.lays rc tN "cause" Exc.thD) (by simp [Exc.excAtoms]) (by simp [noW])) pl b3
  obtain ⟨ci17, i17, f17, l17, r17, a17, s17, x17, nm17, ty17, ff17⟩ := Cond.ownField (C' := rc) (t := .array (.object "java/lang/StackTraceElement")) hc hk (by decide +kernel) (w (.fieldLink tN 17 tN "stackTrace" steD) (by simp [Exc.excAtoms, throwableAtoms]) (by simp [noW])) (w (.lays rc tN "stackTrace" steD) (by simp [Exc.excAtoms]) (by simp [noW])) pl b3
  obtain ⟨ci24, i24, f24, l24, r24, a24, s24, x24, nm24, -, ff24⟩ := Cond.ownField (C' := rc) (t := .object "java/util/List") hc hk (by decide +kernel) (w (.fieldLink tN 24 tN "suppressedExceptions" listD) (by simp [Exc.excAtoms, throwableAtoms]) (by simp [noW])) (w (.lays rc tN "suppressedExceptions" listD) (by simp [Exc.excAtoms]) (by simp [noW, hrc])) pl b3
  obtain ⟨ci13, i13, f13, aS, _, l13, r13, a13, s13, -, -, hsta, -, -, -, -, ff13⟩ := Cond.ownStatic (t := .array (.object "java/lang/StackTraceElement")) hc hk (by decide +kernel) (w (.fieldLink tN 13 tN "UNASSIGNED_STACK" steD) (by simp [Exc.excAtoms, throwableAtoms]) (by simp [noW])) (w (.laysStatic tN "UNASSIGNED_STACK" steD) (by simp [Exc.excAtoms, throwableAtoms]) (by simp [noW])) pl b3
  obtain ⟨ci20, i20, f20, _, _, l20, r20, a20, s20, -, -, -, -, -, -, -, -⟩ := Cond.ownStatic (t := .object "java/util/List") hc hk (by decide +kernel) (w (.fieldLink tN 20 tN "SUPPRESSED_SENTINEL" listD) (by simp [Exc.excAtoms, throwableAtoms]) (by simp [noW])) (w (.laysStatic tN "SUPPRESSED_SENTINEL" listD) (by simp [Exc.excAtoms, throwableAtoms]) (by simp [noW])) pl b3
  -- apart, by the receiver's class
  obtain ⟨cR, kR, _, _, _, _, hcR, hkR, -⟩ := Cond.lays_spec (w (.lays rc tN "stackTrace" steD) (by simp [Exc.excAtoms]) (by simp [noW]))
  obtain ⟨-, dS, hdS, hnS⟩ := Cond.laysAt hcR hkR ff17 (w (.lays rc tN "stackTrace" steD) (by simp [Exc.excAtoms]) (by simp [noW]))
  obtain ⟨-, dP, hdP, hnP⟩ := Cond.laysAt hcR hkR ff24 (w (.lays rc tN "suppressedExceptions" listD) (by simp [Exc.excAtoms]) (by simp [noW, hrc]))
  have hap : f17.slot ≠ f24.slot := Cond.laysApart hdS hdP hnS hnP (by rw [nm17, nm24]; decide)
  -- its methods
  obtain ⟨jF, qF, nF, mF, atF, stF, abF, -, -⟩ := Cond.ownMethod (x := tFill) hc hk (w (.instanceMethod tFill) (by simp [Exc.excAtoms, throwableAtoms]) (by simp [noW]))
  obtain ⟨qF2, cF, mF2, cdF, byF, mlF, rtF, lkF, -, sgF⟩ := Cond.codeSync_spec nF (w (.codeSync tFill Fill.code 1 (some (.object tN))) (by simp [Exc.excAtoms, throwableAtoms]) (by simp [noW]))
  obtain rfl : qF2 = qF := Option.some.inj (mF2.symm.trans mF)
  obtain ⟨j2, q2, n2, m2, at0, st0, ab0, nm0, ds0⟩ := Cond.ownMethod (x := tFill0) hc hk (w (.instanceMethod tFill0) (by simp [Exc.excAtoms, throwableAtoms]) (by simp [noW]))
  obtain rfl : j2 = j0 := by
    have q := Option.some.inj (n2.symm.trans n0)
    simpa using q
  obtain rfl : q2 = q0 := Option.some.inj (m2.symm.trans m0)
  obtain ⟨mO, qO, nO, mmO, stO, abO⟩ := Cond.instanceMethod_spec (w (.instanceMethod oInit) (by simp [Exc.excAtoms, throwableAtoms]) (by simp [noW]))
  obtain ⟨qO2, cO, mmO2, cdO, byO, -, -, lkO, -, sgO⟩ := Cond.code_spec nO (w (.code oInit ⟨#[0xb1]⟩ 1 none) (by simp [Exc.excAtoms, throwableAtoms]) (by simp [noW]))
  obtain rfl : qO2 = qO := Option.some.inj (mmO2.symm.trans mmO)
  obtain ⟨kO, hkO, hnmO⟩ := Vm.findClass_spec (findClass_of_methodNamed nO)
  obtain ⟨nmO, dsO⟩ := name_of_methodNamed nO mmO
  obtain ⟨ci1, x1, cf, l1, r1, hcf, p1⟩ := Cond.linkedMethod hc hk nO (w (.methodLink tN 1 oInit) (by simp [Exc.excAtoms, throwableAtoms]) (by simp [noW])) pl b3
  obtain ⟨ci27, x27, cf2, l27, r27, hcf2, p27⟩ := Cond.linkedMethod hc hk nF (w (.methodLink tN 27 tFill) (by simp [Exc.excAtoms, throwableAtoms]) (by simp [noW])) pl b3
  obtain rfl : cf2 = cf := Option.some.inj (hcf2.symm.trans hcf)
  obtain ⟨ci202, x202, cf3, l202, r202, hcf3, p202⟩ := Cond.linkedMethod hc hk n0 (w (.methodLink tN 202 tFill0) (by simp [Exc.excAtoms, throwableAtoms]) (by simp [noW])) pl b3
  obtain rfl : cf3 = cf2 := Option.some.inj (hcf3.symm.trans hcf)
  have pF : qF2.sig.parameters = [] := by
    have q : (parseMethodDescriptor tFill.desc).map (·.parameters) = some [] := by decide +kernel
    rw [sgF] at q; simpa using q
  have p0 : q2.sig.parameters = [.int] := by
    have q : (parseMethodDescriptor tFill0.desc).map (·.parameters) = some [.int] := by decide +kernel
    rw [sg0] at q; simpa using q
  have pO : qO2.sig.parameters.length = 0 := by
    have q : (parseMethodDescriptor oInit.desc).map (·.parameters) = some [] := by decide +kernel
    rw [sgO] at q
    have q' : qO2.sig.parameters = [] := by simpa using q
    rw [q']; rfl
  refine ⟨{ cT := cT, kT := k1, cO := cT, aS := aS, fillIdx := jF, fill0Idx := j2, initSIdx := jF, obj := mO, kObj := kO, methFill := qF2, methFill0 := q2, methInitS := qF2, methObj := qO2, codeFill := cF, codeInitS := cF, codeObj := cO, fBack := f7, fDepth := f7, fStack := f17, fCause := f7, fSupp := f24, fMsg := f7, fUnassigned := f13, fSentinel := f20, cfT := cf3, ci1 := ci1, n1 := x1, ci27 := ci27, n27 := x27, ci202 := ci202, n202 := x202, ci7 := ci7, i7 := i7, ci13 := ci13, i13 := i13, ci17 := ci17, i17 := i17, ci20 := ci20, i20 := i20, ci24 := ci24, i24 := i24 }, ?_, hc, nF, n0, ff17, ty17, ff13⟩
  constructor
  case owns => exact b1
  case noFinalization => exact b2
  case initialized => exact Cond.initialized_spec hc hk (w (.initialized tN) (by simp [Exc.excAtoms, throwableAtoms]) (by simp [noW]))
  case boot => exact Vm.findClass_boot hc hk
  case objFound => rw [dsO]; exact lookupSpecial_of_named nO mmO stO
  all_goals assumption
end Thr
end Jvm.Ow
namespace Jvm.Ow
open Sem ClassFile Op Lib Jvm.Stand Jvm.Free Jvm.LawKit Jvm.RoadKit Bundle LibCode.Throwable
section Fill
variable {p : Program} {l : Launch} {e : Env} {R : Room} {s : State} {m : MethodId} {args : Array Value} {below : List Frame} {meth : Method} {c : Code} {T0 : State} {locs : List Loc} {cells slots : Nat} {Z : State} {a0 : Array Value} {h : Heap} {rc : String}
/-- fillInStackTrace() of a fresh exception: it comes back, and has written nothing but the exception -/
theorem fillB (X : Stand p l e R s m args below meth c T0 locs cells slots) (hx : p.tables.exec = Jvm.exec) (hl : l.stackTraces = true) (hZ : Z.Warmed39 s.vm) (hrc : rc ≠ tN) (W : ∀ d ∈ Exc.excAtoms rc, d ≠ noW → d.before args s = true) {kk : Nat} (wi : (Cond.instantiable rc kk).before a0 Z = true)
    {a us : Addr} (E : Exa Z h a rc) (N : Unt h a) (Fs : Fld Z h a tN "stackTrace" steD (.ref us)) (Fb : Fld Z h a tN "backtrace" Exc.obD .null) (SU : Sta Z h tN "UNASSIGNED_STACK" steD (.ref us)) (hTK : s.vm.MethodsKnown) (hBl : s.vm.FramesKnown below) {W0 : Nat} (hf : 3 ≤ R.frames) (hlo : W0 + 42 ≤ R.locals) :
    Back l R p e below s args tFill 3 W0 (fun A x => x = #[.ref a] ∧ A.U.heap = h ∧ A.cells + 1 ≤ R.cells ∧ A.slots + 2752 ≤ R.slots) (fun A _ v B => ∃ L, (v = some (.ref a) ∧ Eff h B.U.heap [a] L) ∧ B.locs = A.locs ++ L ∧ B.cells = A.cells + 1 ∧ B.slots = A.slots + 2752) := by
  have w : ∀ d, d ∈ Exc.excAtoms rc → d ≠ noW → d.holds args s none s [] = true := W
  have htr : e.platform.stackTraces = true := by rw [X.admits.platform]; exact hl
  have b1 : e.platform.frameOwnsMonitors = true := by rw [X.admits.platform]
  have b2 : e.platform.finalization = false := by rw [X.admits.platform]
  have b3 : e.platform.magicAccessors = ({} : Platform).magicAccessors := by rw [X.admits.platform]
  obtain ⟨T, L, hc, hfill, hfill0, ff17, ty17, ff13⟩ := thrLinks hrc b1 b2 b3 W
  have hal := hZ.alike
  obtain ⟨cell, kX, e1, e2, e3, e4, e5⟩ := E
  obtain ⟨cN, n1, n2, n3⟩ := N
  obtain rfl : cN = cell := Option.some.inj (n1.symm.trans e1)
  obtain ⟨cR, kR, hcR, hkR, hord, -, -, -⟩ := Cond.instantiable_spec (mvT hZ wi : (Cond.instantiable rc kk).before args s = true)
  have hfound : s.vm.findClass rc = some cN.cls := by rw [hal.findClass]; exact e2
  obtain rfl : cR = cN.cls := Option.some.inj (hcR.symm.trans hfound)
  obtain ⟨kX', g1, g2⟩ := hal.2.2 _ _ e3
  have g3 : kX' = kR := Option.some.inj (g1.symm.trans hkR)
  have ho : kX.kind = .ordinary := by
    have q := hord
    rw [← g3, g2] at q; exact q
  have hsz : cN.slots.size = kR.instanceTypes.size := by rw [← g3, g2]; exact e5 ho
  -- the receiver's slots
  obtain ⟨c1, cf1, k1, i1, f1, z1, z2, -, -, -, -, z7⟩ := Fs
  obtain rfl : c1 = cN := Option.some.inj (z1.symm.trans e1)
  obtain ⟨k1', z2', -⟩ := State.fieldFound?_setVm (s := Z) hal z2
  have y1 : f1 = T.fStack := by
    have q := (show s.fieldFound? tN "stackTrace" steD = some (cf1, k1', i1, f1) from z2').symm.trans ff17
    simp only [Option.some.injEq, Prod.mk.injEq] at q
    exact q.2.2.2
  rw [y1] at z7
  obtain ⟨ci198, i198, fB, l198, r198, a198, sB, -, nB, tB, ffB⟩ := Cond.ownField (C' := rc) (t := .object "java/lang/Object") hc L.cls (by decide +kernel) (w (.fieldLink tN 198 tN "backtrace" Exc.obD) (by simp [Exc.excAtoms]) (by simp [noW])) (w (.lays rc tN "backtrace" Exc.obD) (by simp [Exc.excAtoms]) (by simp [noW])) e.platform b3
  obtain ⟨c2, cf2, k2, i2, f2, t1, t2, -, -, -, -, t7⟩ := Fb
  obtain rfl : c2 = c1 := Option.some.inj (t1.symm.trans e1)
  obtain ⟨k2', t2', -⟩ := State.fieldFound?_setVm (s := Z) hal t2
  have y2 : f2 = fB := by
    have q := (show s.fieldFound? tN "backtrace" Exc.obD = some (cf2, k2', i2, f2) from t2').symm.trans ffB
    simp only [Option.some.injEq, Prod.mk.injEq] at q
    exact q.2.2.2
  rw [y2] at t7
  -- depth
  obtain ⟨_, _, cD, kD, iD, fD, -, -, ffD, stD, -, -, -, -⟩ := Cond.lays_spec (w (.lays rc tN "depth" "I") (by simp [Exc.excAtoms]) (by simp [noW]))
  have u1 : cD = T.cT := Option.some.inj ((Cond.lays_declared (w (.lays rc tN "depth" "I") (by simp [Exc.excAtoms]) (by simp [noW])) ffD).symm.trans hc)
  obtain ⟨hkD, atD⟩ := State.fieldFound?_spec ffD
  have u2 : kD = T.kT := by
    rw [u1] at hkD
    exact Option.some.inj (hkD.symm.trans L.cls)
  rw [u2] at atD
  obtain ⟨nD, tD⟩ := State.fieldFound?_type ffD (t := .int) (by decide +kernel)
  have hfb := Cond.soleField_find hc L.cls (w (.soleField tN "backtrace") (by simp [Exc.excAtoms]) (by simp [noW])) a198 nB sB
  have hfd := Cond.soleField_find hc L.cls (w (.soleField tN "depth") (by simp [Exc.excAtoms]) (by simp [noW])) atD nD stD
  obtain ⟨comp, cOA, kOA, -, -, hkOA, hkdOA, hOA⟩ := Cond.arrayOver_spec (w (.arrayOver (.object "java/lang/Object")) (by simp [Exc.excAtoms]) (by simp [noW]))
  obtain ⟨tyS, -⟩ := Cond.laysAt hfound hkR ff17 (w (.lays rc tN "stackTrace" steD) (by simp [Exc.excAtoms]) (by simp [noW]))
  obtain ⟨tyB, -⟩ := Cond.laysAt hfound hkR ffB (w (.lays rc tN "backtrace" Exc.obD) (by simp [Exc.excAtoms]) (by simp [noW]))
  obtain ⟨tyD, -⟩ := Cond.laysAt hfound hkR ffD (w (.lays rc tN "depth" "I") (by simp [Exc.excAtoms]) (by simp [noW]))
  have tk : ∀ {f : Field} {v : Value}, kR.instanceTypes[f.slot]? = some f.type → fits f.type v = true → Jvm.Takes s c2 f v := fun {f v} q1 q2 => by
    obtain ⟨r1, r2⟩ := Takes.of_laid (v := v) hkR hord q1 q2
    exact ⟨by rw [hsz]; simpa using r1, by rw [n2]; exact r2⟩
  have hsel0 : selectMethod e.platform s.vm c2.cls T.fill0 = .method T.fill0 := by
    obtain ⟨c3, r3, m3, q1, q2, q3, q4, -⟩ := Cond.selects_spec (w (.selects rc tFill0 tFill0) (by simp [Exc.excAtoms]) (by simp [noW]))
    have v1 : c3 = c2.cls := Option.some.inj (q1.symm.trans hfound)
    have v2 := Option.some.inj (q2.symm.trans (State.methodFound?_of_named hfill0 (by decide)))
    have v3 : m3 = T.fill0 := Option.some.inj (q3.symm.trans hfill0)
    rw [v1, v2, v3] at q4
    rw [Launch.admits_selectMethod X.admits]; exact q4
  -- the statics
  obtain ⟨cf3, i3, k3, f3, st, cS, x1, -, -, x4, x5, x6, x7⟩ := SU
  obtain ⟨k3', x2, ek⟩ := State.fieldFound?_setVm (s := Z) hal x1
  have q := (show s.fieldFound? tN "UNASSIGNED_STACK" steD = some (cf3, k3', i3, f3) from x2).symm.trans ff13
  simp only [Option.some.injEq, Prod.mk.injEq] at q
  obtain ⟨-, qk, -, qf⟩ := q
  have hst : T.aS = st := by
    have r := L.statics
    rw [← qk, ek] at r
    exact Option.some.inj (r.symm.trans x4)
  rw [qf] at x7
  have hne : T.aS ≠ a := fun r => by
    rw [← hst, r, e1] at x5
    rw [← Option.some.inj x5, e4] at x6
    cases x6
  have hB := Jvm.Free.Str.fillPays (l := l) (R := R) (p := p) (e := e) (below := below) (sargs := args) (len := 3) (W := W0) hx htr T L hfill (u0 := ⟨.ref us, rfl⟩) (by simp) (self := a) (cell := c2) (cellS := cS)
    (fun k r => by rw [n2] at r; cases r) (by rw [n2]; simp) (by rw [n3]) (by rw [n3]) z7 hsel0 hne (fun r => by rw [r] at x6; cases x6) x7 (tk tyS (by rw [ty17]; rfl))
    ⟨{ ci198 := ci198, i198 := i198, fBack := fB }, ⟨l198, r198, a198, sB⟩, t7⟩ hTK hBl hc hOA hkOA hkdOA hfb hfd (fun x => tk tyB (by rw [tB]; rfl)) (fun x => tk tyD (by rw [tD]; rfl)) (by omega) hlo
  intro m' meth' c' A g ig mk x Xs hg hsize hd hW hmk hPre
  obtain ⟨hx1, hx2, hx3, hx4⟩ := hPre
  obtain ⟨v, ⟨BU, BL, Bc, Bs⟩, XB, ⟨hv, vm', lines, hln, -, hU, hL, hcc, hss⟩, stp⟩ := hB m' meth' c' A g ig mk x Xs hg hsize hd hW hmk ⟨hx1, hx3, hx4, by rw [hx2]; exact e1, by rw [hx2, hst]; exact x5⟩
  dsimp only [Pt.U, Pt.locs, Pt.cells, Pt.slots] at XB hU hL hcc hss stp hx2
  have hle : (traceHolder cOA lines).slots.size ≤ 2752 := traceHolder_size_le cOA hln
  have hlt : a < h.size := (Array.getElem?_eq_some_iff.mp e1).1
  have k0 : ∀ y, y ≠ a → ∀ cy : Cell, h[y]? = some cy → BU.heap[y]? = some cy := by
    intro y hy cy q
    have hlt2 : y < h.size := (Array.getElem?_eq_some_iff.mp q).1
    rw [hU, State.heap_setCell_other (Ne.symm hy)]
    show (A.1.heap.push _)[y]? = some cy
    rw [hx2, Array.getElem?_push, if_neg (Nat.ne_of_lt hlt2)]
    exact q
  have k1 : BU.heap[a]? = some (Jvm.Free.Str.filledOn T.toThrowableT fB fD c2 ⟨.ref us, rfl⟩ A.1.heap.size lines.length.toInt32) := by
    rw [hU]
    refine heapAt_setCell_self _ ?_
    show a < (A.1.heap.push _).size
    rw [hx2, Array.size_push]; exact Nat.lt_succ_of_lt hlt
  have ks : h.size ≤ BU.heap.size := by
    rw [hU]
    show h.size ≤ Array.size (Array.setIfInBounds (A.1.heap.push _) _ _)
    rw [hx2]; simp
  refine ⟨v, ⟨BU, BL, A.cells + 1, A.slots + 2752⟩, { XB with same := XB.same.weaken (fun y hy _ => hy) (Nat.le_of_eq hcc) (Nat.le_trans (Nat.le_of_eq hss) (Nat.add_le_add_left hle _)) }, ⟨_, ⟨hv, ⟨⟨ks, fun y cy q hy => k0 y (fun r => hy (by rw [r]; simp)) cy q, fun y cy q => ?_⟩, fun y hy => ?_⟩⟩, hL, rfl, rfl⟩, stp⟩
  · by_cases r : y = a
    · rw [r] at q ⊢
      obtain rfl : cy = c2 := Option.some.inj (q.symm.trans e1)
      exact ⟨_, k1, rfl, rfl, by simp [Cell.setSlot]⟩
    · exact ⟨cy, k0 y r cy q, rfl, rfl, rfl⟩
  · simp only [List.mem_cons, List.not_mem_nil, or_false] at hy
    rcases hy with rfl | rfl | rfl <;> exact Or.inl (by simp)
end Fill
end Jvm.Ow
namespace Jvm.Ow
open Sem ClassFile Op Lib Jvm.Stand Jvm.Free Jvm.LawKit Jvm.RoadKit Bundle
theorem staTh {Z : State} {a0 : Array Value} {h : Heap} {n d : String} {v : Value} (S : Sta Z Z.heap tN n d v) (T : ThS Z h) (w : (Cond.laysStatic tN n d).before a0 Z = true) : Sta Z h tN n d v := by
  obtain ⟨cf, i, k, f, st, cell, h1, h2, h3, h4, h5, h6, h7⟩ := S
  obtain ⟨cl, k', i', f', a', cell', hc, hi, -⟩ := Cond.laysStatic_spec w
  have q := hi.symm.trans h1
  simp only [Option.some.injEq, Prod.mk.injEq] at q
  obtain ⟨q1, -, -, -⟩ := q
  exact ⟨cf, i, k, f, st, cell, h1, h2, h3, h4, T st k cf cell (by rw [← q1]; exact hc) (State.fieldFound?_class h1) h4 h5 h6, h6, h7⟩
theorem fldKeep {Z : State} {h h' : Heap} {a : Addr} {C n d : String} {v : Value} {ws : List Addr} (F : Fld Z h a C n d v) (K : Keep h h' ws) : ∃ v', Fld Z h' a C n d v' := by
  obtain ⟨cell, cf, k, i, f, h1, h2, h3, h4, h5, h6, h7⟩ := F
  obtain ⟨c', q1, q2, q3, q4⟩ := K.2.2 _ _ h1
  have hlt : f.slot < c'.slots.size := by rw [q4]; exact (Array.getElem?_eq_some_iff.mp h7).1
  exact ⟨c'.slots[f.slot], c', cf, k, i, f, q1, h2, h3, by rw [q3]; exact h4, by rw [q3]; exact h5, by rw [q2]; exact h6, Array.getElem?_eq_getElem hlt⟩
end Jvm.Ow
/- laws to paste: Road.backV (cut by pick.py; bodies as the Statement names them) -/
namespace Jvm.Pilot.@@N@@
namespace StrChars
open Jvm Sem ClassFile Op Lib Jvm.Stand Jvm.Free.XT Jvm.Free.ALB Jvm.Free.JM Jvm.Free
open Jvm.Lib.Cold (StaticIs)
/-- a char array whose places are chars -/
def Ch (a : Addr) (A : Cell) (U : State) : Prop := Arr .char a A U ∧ Typed .char A
theorem Ch.mv {a : Addr} {A : Cell} {U U' : State} (h : Ch a A U) (hal : U.vm.Alike U'.vm) (hh : U'.heap = U.heap) : Ch a A U' := ⟨h.1.mv hal hh, h.2⟩
theorem Ch.keep {a : Addr} {A : Cell} {U U' : State} (h : Ch a A U) (hal : U.vm.Alike U'.vm) (hk : U'.heap[a]? = some A) : Ch a A U' := ⟨h.1.keep hal hk, h.2⟩
/-- what place i of a char[]'s cell holds -/
def cv (A : Cell) (i : Nat) : Int32 := match A.slots[i]? with | some (.int x) => x | _ => 0
theorem Ch.get {a : Addr} {A : Cell} {U : State} (h : Ch a A U) {i : Nat} (hi : i < A.slots.size) : A.slots[i]? = some (.int (cv A i)) := by
  have e := Array.getElem?_eq_getElem hi
  have f := h.2 i _ e
  unfold cv; rw [e]
  generalize A.slots[i] = v at f
  cases v <;> simp [fits] at f ⊢
/-- the byte that i2b leaves of a char -/
def lo8 (x : Int32) : Int32 := x.toInt8.toInt32
theorem fits_lo8 (y : Int32) : fits .byte (.int (lo8 y)) = true := by
  have h1 := y.toInt8.le_toInt
  have h2 := y.toInt8.toInt_lt
  simp only [lo8, fits, Bool.and_eq_true, decide_eq_true_eq, Int32.le_iff_toInt_le, Int8.toInt_toInt32, show (-128 : Int32).toInt = -128 from by decide, show (127 : Int32).toInt = 127 from by decide]
  omega
/-- A' is A but that each place j of lo .. hi - 1 holds f j -/
def Laid (A A' : Cell) (lo hi : Nat) (f : Nat → Value) : Prop := A'.cls = A.cls ∧ A'.vm = A.vm ∧ A'.slots.size = A.slots.size ∧ ∀ i, A'.slots[i]? = if lo ≤ i ∧ i < hi then some (f i) else A.slots[i]?
theorem Laid.zero (A : Cell) (lo : Nat) (f : Nat → Value) : Laid A A lo (lo + 0) f := ⟨rfl, rfl, rfl, fun i => by rw [if_neg (by omega)]⟩
theorem Laid.step {A Ak : Cell} {lo k : Nat} {f : Nat → Value} {v : Value} (h : Laid A Ak lo k f) (hlo : lo ≤ k) (hk : k < Ak.slots.size) (hv : v = f k) : Laid A (Ak.setSlot k v) lo (k + 1) f := by
  refine ⟨h.1, h.2.1, by simpa [Cell.setSlot] using h.2.2.1, fun i => ?_⟩
  by_cases e : k = i
  · subst e; rw [Cell.slots_setSlot_self v hk, if_pos (by omega), hv]
  · rw [Cell.slots_setSlot_ne v e, h.2.2.2 i]
    by_cases q : lo ≤ i ∧ i < k
    · rw [if_pos q, if_pos (by omega)]
    · rw [if_neg q, if_neg (by omega)]
def U16 : String := "java/lang/StringUTF16"
namespace Cmp5
def yN : MethodName := ⟨"java/lang/StringUTF16", "compress", "([CI[BII)I"⟩
abbrev yB : ByteArray := jdk_52_method_21_code
theorem d0 : decode yB 0 = .ok (.iconst 0, 1) := by decide +kernel
theorem d1 : decode yB 1 = .ok (.istore 5, 2) := by decide +kernel
theorem d3 : decode yB 3 = .ok (.iload 5, 2) := by decide +kernel
theorem d5 : decode yB 5 = .ok (.iload 4, 2) := by decide +kernel
theorem d7 : decode yB 7 = .ok (.if_icmp (.ge) 37, 3) := by decide +kernel
theorem d10 : decode yB 10 = .ok (.aload_n 0, 1) := by decide +kernel
theorem d11 : decode yB 11 = .ok (.iload_n 1, 1) := by decide +kernel
theorem d12 : decode yB 12 = .ok (.caload, 1) := by decide +kernel
theorem d13 : decode yB 13 = .ok (.istore 6, 2) := by decide +kernel
theorem d15 : decode yB 15 = .ok (.iload 6, 2) := by decide +kernel
theorem d17 : decode yB 17 = .ok (.sipush 255, 3) := by decide +kernel
theorem d20 : decode yB 20 = .ok (.if_icmp (.le) 6, 3) := by decide +kernel
theorem d26 : decode yB 26 = .ok (.aload_n 2, 1) := by decide +kernel
theorem d27 : decode yB 27 = .ok (.iload_n 3, 1) := by decide +kernel
theorem d28 : decode yB 28 = .ok (.iload 6, 2) := by decide +kernel
theorem d30 : decode yB 30 = .ok (.i2b, 1) := by decide +kernel
theorem d31 : decode yB 31 = .ok (.bastore, 1) := by decide +kernel
theorem d32 : decode yB 32 = .ok (.iinc 1 1, 3) := by decide +kernel
theorem d35 : decode yB 35 = .ok (.iinc 3 1, 3) := by decide +kernel
theorem d38 : decode yB 38 = .ok (.iinc 5 1, 3) := by decide +kernel
theorem d41 : decode yB 41 = .ok (.goto (-38), 3) := by decide +kernel
theorem d44 : decode yB 44 = .ok (.iload 4, 2) := by decide +kernel
theorem d46 : decode yB 46 = .ok (.ireturn, 1) := by decide +kernel
def site : List Cond := []
def tab : Cond := tabOf yN yB 7 (some .int) site
def P (b : Addr) (A : Cell) (d : Addr) (B : Cell) (o q len : Nat) (args : Array Value) (s : State) : Prop := args = #[.ref b, .int (Int32.ofNat o), .ref d, .int (Int32.ofNat q), .int (Int32.ofNat len)] ∧ Ch b A s ∧ Arr .byte d B s ∧ b ≠ d ∧ o + len ≤ A.slots.size ∧ q + len ≤ B.slots.size ∧ ∀ i, i < len → ¬ 255 < cv A (o + i)
def E (b : Addr) (A : Cell) (d : Addr) (B : Cell) (o q len : Nat) (r : Option Value) (s u : State) : Prop := r = some (.int (Int32.ofNat len)) ∧ ∃ B', Put d B' s u ∧ Laid B B' q (q + len) (fun j => Value.int (lo8 (cv A (o + (j - q)))))
/-- no char of the range above 255: len; the places written hold each char's low byte -/
theorem law (l : Launch) (b : Addr) (A : Cell) (d : Addr) (B : Cell) (o q len : Nat) : Law l yN 5 5 0 0 yB 7 (some .int) site (P b A d B o q len) (E b A d B o q len) (copyLocs d q len) 0 0 := by
  refine Law.of_walk (plainFor_of_name (by decide +kernel)) (by decide +kernel) (by decide +kernel) (by decide) (fun _ _ h => by rw [h.1]; rfl) (fun _ U U' hal hh h => ⟨h.1, h.2.1.mv hal hh, h.2.2.1.mv hal hh, h.2.2.2⟩) (fun r U U' V V' h1 hal h2 h => ⟨h.1, h.2.elim fun B' q => ⟨B', q.1.mv h1 h2, q.2⟩⟩) ?_
  intro p e s m args below meth c s₁ X0 hexec hbytes hml hret hlk hnm hown hh0 W hP
  obtain ⟨rfl, hA, hB, hne, l1, l2, hp⟩ := hP
  have c1 : Steps p.tables e below (s₁.setTop (entryFrame m #[.ref b, .int (Int32.ofNat o), .ref d, .int (Int32.ofNat q), .int (Int32.ofNat len)] 7)) (s₁.setTop (mkF m 0 #[.val (.ref b), .val (.int (Int32.ofNat o)), .val (.ref d), .val (.int (Int32.ofNat q)), .val (.int (Int32.ofNat len)), .unset, .unset] [])) := entry rfl
  have hA0 := hA.1.mv X0.warmed.alike hh0
  have hB0 := hB.mv X0.warmed.alike hh0
  have a31 := hA.1.2.2.2
  have c2 : Steps p.tables e below (s₁.setTop (entryFrame m #[.ref b, .int (Int32.ofNat o), .ref d, .int (Int32.ofNat q), .int (Int32.ofNat len)] 7)) (s₁.setTop (mkF m 3 #[.val (.ref b), .val (.int (Int32.ofNat o)), .val (.ref d), .val (.int (Int32.ofNat q)), .val (.int (Int32.ofNat len)), .val (.int 0), .unset] [])) := c1.trans (by
    refine iconstV X0.here hexec rfl 0 (hb hbytes d0) (by decide) ?_
    refine XS.istore X0.here hexec rfl (hb hbytes d1) rfl rfl ?_
    exact Steps.refl _)
  have loop : ∀ (r i : Nat), i + r = len → ∀ (z : Slot), (z = .unset ∨ ∃ w, z = .val w ∧ w.category = 1) → ∀ (Tl : State) (Bk : Cell), Stand p l e { frames := 0, locals := 0, cells := 0, slots := 0 } s m #[.ref b, .int (Int32.ofNat o), .ref d, .int (Int32.ofNat q), .int (Int32.ofNat len)] below meth c Tl ([] ++ copyLocs d q i) 0 0 → Put d Bk s₁ Tl → Laid B Bk q (q + i) (fun j => Value.int (lo8 (cv A (o + (j - q))))) →
      Steps p.tables e below (s₁.setTop (entryFrame m #[.ref b, .int (Int32.ofNat o), .ref d, .int (Int32.ofNat q), .int (Int32.ofNat len)] 7)) (Tl.setTop (mkF m 3 #[.val (.ref b), .val (.int (Int32.ofNat (o + i))), .val (.ref d), .val (.int (Int32.ofNat (q + i))), .val (.int (Int32.ofNat len)), .val (.int (Int32.ofNat i)), z] [])) → ∃ (T' : State) (B' : Cell) (z' : Slot), Stand p l e { frames := 0, locals := 0, cells := 0, slots := 0 } s m #[.ref b, .int (Int32.ofNat o), .ref d, .int (Int32.ofNat q), .int (Int32.ofNat len)] below meth c T' ([] ++ copyLocs d q len) 0 0 ∧ Put d B' s₁ T' ∧ Laid B B' q (q + len) (fun j => Value.int (lo8 (cv A (o + (j - q))))) ∧
      Steps p.tables e below (s₁.setTop (entryFrame m #[.ref b, .int (Int32.ofNat o), .ref d, .int (Int32.ofNat q), .int (Int32.ofNat len)] 7)) (T'.setTop (mkF m 3 #[.val (.ref b), .val (.int (Int32.ofNat (o + len))), .val (.ref d), .val (.int (Int32.ofNat (q + len))), .val (.int (Int32.ofNat len)), .val (.int (Int32.ofNat len)), z'] [])) := by
    intro r
    induction r with
    | zero =>
      intro i hi z hz Tl Bk Xl pl fl cl
      have hil : i = len := by omega
      rw [hil] at Xl fl cl
      exact ⟨Tl, Bk, z, Xl, pl, fl, cl⟩
    | succ r ih =>
      intro i hi z hz Tl Bk Xl pl fl cl
      have all := X0.warmed.alike.symm.trans Xl.warmed.alike
      have hAl := hA0.keep all (pl.other hne hA0.1)
      have hBk := hB0.like all pl.1 fl.1 fl.2.1 fl.2.2.1
      have hlt : q + i < Bk.slots.size := by rw [fl.2.2.1]; omega
      have c3 : Steps p.tables e below (s₁.setTop (entryFrame m #[.ref b, .int (Int32.ofNat o), .ref d, .int (Int32.ofNat q), .int (Int32.ofNat len)] 7)) (Tl.setTop (mkF m 12 #[.val (.ref b), .val (.int (Int32.ofNat (o + i))), .val (.ref d), .val (.int (Int32.ofNat (q + i))), .val (.int (Int32.ofNat len)), .val (.int (Int32.ofNat i)), z] [.int (Int32.ofNat (o + i)), .ref b])) := cl.trans (by
        refine XS.iload Xl.here hexec rfl (hb hbytes d3) rfl ?_
        refine XS.iload Xl.here hexec rfl (hb hbytes d5) rfl ?_
        refine XS.icmpNo Xl.here hexec rfl (hb hbytes d7) rfl (ii_ge_f (lt32 (by omega) (by omega))) ?_
        refine XS.aloadN Xl.here hexec rfl (hb hbytes d10) rfl rfl ?_
        refine XS.iloadN Xl.here hexec rfl (hb hbytes d11) rfl ?_
        exact Steps.refl _)
      have c4 : Steps p.tables e below (s₁.setTop (entryFrame m #[.ref b, .int (Int32.ofNat o), .ref d, .int (Int32.ofNat q), .int (Int32.ofNat len)] 7)) (Tl.setTop (mkF m 13 #[.val (.ref b), .val (.int (Int32.ofNat (o + i))), .val (.ref d), .val (.int (Int32.ofNat (q + i))), .val (.int (Int32.ofNat len)), .val (.int (Int32.ofNat i)), z] [.int (cv A (o + i))])) := c3.trans (by
        refine Xl.aget hexec hAl rfl (hA.get (i := o + i) (by omega)) rfl rfl (hb hbytes d12) ?_
        exact Steps.refl _)
      have c5 : Steps p.tables e below (s₁.setTop (entryFrame m #[.ref b, .int (Int32.ofNat o), .ref d, .int (Int32.ofNat q), .int (Int32.ofNat len)] 7)) (Tl.setTop (mkF m 15 #[.val (.ref b), .val (.int (Int32.ofNat (o + i))), .val (.ref d), .val (.int (Int32.ofNat (q + i))), .val (.int (Int32.ofNat len)), .val (.int (Int32.ofNat i)), .val (.int (cv A (o + i)))] [])) := c4.trans (by
        refine XS.istoreS Xl.here hexec rfl (hb hbytes d13) rfl rfl hz ?_
        exact Steps.refl _)
      have c6 : Steps p.tables e below (s₁.setTop (entryFrame m #[.ref b, .int (Int32.ofNat o), .ref d, .int (Int32.ofNat q), .int (Int32.ofNat len)] 7)) (Tl.setTop (mkF m 31 #[.val (.ref b), .val (.int (Int32.ofNat (o + i))), .val (.ref d), .val (.int (Int32.ofNat (q + i))), .val (.int (Int32.ofNat len)), .val (.int (Int32.ofNat i)), .val (.int (cv A (o + i)))] [.int (lo8 (cv A (o + i))), .int (Int32.ofNat (q + i)), .ref d])) := c5.trans (by
        refine XS.iload Xl.here hexec rfl (hb hbytes d15) rfl ?_
        refine sipushV Xl.here hexec rfl 255 (hb hbytes d17) (by decide) ?_
        refine XS.icmpYes Xl.here hexec rfl (pc0 := 20) rfl (hb hbytes d20) rfl (ii_le_t (hp i (by omega))) (by decide) rfl ?_
        refine XS.aloadN Xl.here hexec rfl (hb hbytes d26) rfl rfl ?_
        refine XS.iloadN Xl.here hexec rfl (hb hbytes d27) rfl ?_
        refine XS.iload Xl.here hexec rfl (hb hbytes d28) rfl ?_
        refine i2b Xl.here hexec rfl (hb hbytes d30) rfl ?_
        exact Steps.refl _)
      obtain ⟨T7, X7, p7, st7⟩ := Xl.aput hexec hBk rfl hlt rfl (fits_lo8 (cv A (o + i))) (g := (mkF m 31 #[.val (.ref b), .val (.int (Int32.ofNat (o + i))), .val (.ref d), .val (.int (Int32.ofNat (q + i))), .val (.int (Int32.ofNat len)), .val (.int (Int32.ofNat i)), .val (.int (cv A (o + i)))] [.int (lo8 (cv A (o + i))), .int (Int32.ofNat (q + i)), .ref d])) rfl (rest := []) rfl (hb hbytes d31)
      have c8 : Steps p.tables e below (s₁.setTop (entryFrame m #[.ref b, .int (Int32.ofNat o), .ref d, .int (Int32.ofNat q), .int (Int32.ofNat len)] 7)) (T7.setTop (mkF m 32 #[.val (.ref b), .val (.int (Int32.ofNat (o + i))), .val (.ref d), .val (.int (Int32.ofNat (q + i))), .val (.int (Int32.ofNat len)), .val (.int (Int32.ofNat i)), .val (.int (cv A (o + i)))] [])) := c6.trans (st7 _ (Steps.refl _))
      have c9 : Steps p.tables e below (s₁.setTop (entryFrame m #[.ref b, .int (Int32.ofNat o), .ref d, .int (Int32.ofNat q), .int (Int32.ofNat len)] 7)) (T7.setTop (mkF m 3 #[.val (.ref b), .val (.int (Int32.ofNat (o + i) + 1)), .val (.ref d), .val (.int (Int32.ofNat (q + i) + 1)), .val (.int (Int32.ofNat len)), .val (.int (Int32.ofNat i + 1)), .val (.int (cv A (o + i)))] [])) := c8.trans (by
        refine iincV X7.here hexec rfl 1 (hb hbytes d32) (by decide) rfl rfl ?_
        refine iincV X7.here hexec rfl 1 (hb hbytes d35) (by decide) rfl rfl ?_
        refine iincV X7.here hexec rfl 1 (hb hbytes d38) (by decide) rfl rfl ?_
        refine XS.goto X7.here hexec rfl (pc0 := 41) rfl (hb hbytes d41) (by decide) rfl ?_
        exact Steps.refl _)
      have c10 : Steps p.tables e below (s₁.setTop (entryFrame m #[.ref b, .int (Int32.ofNat o), .ref d, .int (Int32.ofNat q), .int (Int32.ofNat len)] 7)) (T7.setTop (mkF m 3 #[.val (.ref b), .val (.int (Int32.ofNat (o + (i + 1)))), .val (.ref d), .val (.int (Int32.ofNat (q + (i + 1)))), .val (.int (Int32.ofNat len)), .val (.int (Int32.ofNat (i + 1))), .val (.int (cv A (o + i)))] [])) := by
        have := c9
        rw [succ32, succ32, succ32] at this
        exact this
      exact ih (i + 1) (by omega) _ (Or.inr ⟨_, rfl, rfl⟩) T7 _ (by rw [copyLocs_step, ← List.append_assoc]; exact X7) (pl.trans p7) (fl.step (by omega) hlt (by simp)) c10
  obtain ⟨T9, B9, z9, X9, p9, f9, g9⟩ := loop len 0 (by omega) .unset (Or.inl rfl) s₁ B (by simpa [copyLocs] using X0) ⟨hB0.1, fun _ _ => rfl, rfl⟩ (Laid.zero _ _ _) c2
  have c11 : Steps p.tables e below (s₁.setTop (entryFrame m #[.ref b, .int (Int32.ofNat o), .ref d, .int (Int32.ofNat q), .int (Int32.ofNat len)] 7)) (T9.setTop (mkF m 46 #[.val (.ref b), .val (.int (Int32.ofNat (o + len))), .val (.ref d), .val (.int (Int32.ofNat (q + len))), .val (.int (Int32.ofNat len)), .val (.int (Int32.ofNat len)), z9] [.int (Int32.ofNat len)])) := g9.trans (by
    refine XS.iload X9.here hexec rfl (hb hbytes d3) rfl ?_
    refine XS.iload X9.here hexec rfl (hb hbytes d5) rfl ?_
    refine XS.icmpYes X9.here hexec rfl (pc0 := 7) rfl (hb hbytes d7) rfl (ii_ge_t (nlt32 (by omega) (Nat.le_refl _))) (by decide) rfl ?_
    refine XS.iload X9.here hexec rfl (hb hbytes d44) rfl ?_
    exact Steps.refl _)
  exact ⟨T9, some (.int (Int32.ofNat len)), _, _, _, X9, by simp, rfl, rfl, (fun h => by cases h), ⟨rfl, B9, p9.from hh0, f9⟩, fun fs hl => c11.trans (X9.ireturnOut hexec hret rfl (Or.inl rfl) (hb hbytes d46) hl)⟩
end Cmp5
namespace Cmp3
def yN : MethodName := ⟨"java/lang/StringUTF16", "compress", "([CII)[B"⟩
abbrev yB : ByteArray := jdk_52_method_16_code
theorem d0 : decode yB 0 = .ok (.iload_n 2, 1) := by decide +kernel
theorem d1 : decode yB 1 = .ok (.newarray .byte, 2) := by decide +kernel
theorem d3 : decode yB 3 = .ok (.astore_n 3, 1) := by decide +kernel
theorem d4 : decode yB 4 = .ok (.aload_n 0, 1) := by decide +kernel
theorem d5 : decode yB 5 = .ok (.iload_n 1, 1) := by decide +kernel
theorem d6 : decode yB 6 = .ok (.aload_n 3, 1) := by decide +kernel
theorem d7 : decode yB 7 = .ok (.iconst 0, 1) := by decide +kernel
theorem d8 : decode yB 8 = .ok (.iload_n 2, 1) := by decide +kernel
theorem d9 : decode yB 9 = .ok (.invokestatic 115, 3) := by decide +kernel
theorem d12 : decode yB 12 = .ok (.istore 4, 2) := by decide +kernel
theorem d14 : decode yB 14 = .ok (.iload 4, 2) := by decide +kernel
theorem d16 : decode yB 16 = .ok (.iload_n 2, 1) := by decide +kernel
theorem d17 : decode yB 17 = .ok (.if_icmp (.eq) 40, 3) := by decide +kernel
theorem d57 : decode yB 57 = .ok (.aload_n 3, 1) := by decide +kernel
theorem d58 : decode yB 58 = .ok (.areturn, 1) := by decide +kernel
def site : List Cond := [.arrayClass .byte, Cmp5.tab] ++ staticW U16 115 Cmp5.yN
def tab : Cond := tabOf yN yB 6 (some (.array .byte)) site
def P (b : Addr) (A : Cell) (o len : Nat) (args : Array Value) (s : State) : Prop := args = #[.ref b, .int (Int32.ofNat o), .int (Int32.ofNat len)] ∧ Ch b A s ∧ o + len ≤ A.slots.size ∧ len ≤ 536870912 ∧ ∀ i, i < len → ¬ 255 < cv A (o + i)
def E (b : Addr) (A : Cell) (o len : Nat) (r : Option Value) (s u : State) : Prop := NewArr .byte "[B" len (fun j => .int (lo8 (cv A (o + j)))) r s u ∧ u.heap.size = s.heap.size + 1
/-- no char of the range above 255: a new byte[] of their low bytes -/
theorem law (l : Launch) (b : Addr) (A : Cell) (o len : Nat) : Law l yN 3 3 1 18 yB 6 (some (.array .byte)) site (P b A o len) (E b A o len) [] 1 len := by
  refine Law.of_walk (plainFor_of_name (by decide +kernel)) (by decide +kernel) (by decide +kernel) (by decide) (fun _ _ h => by rw [h.1]; rfl) (fun _ U U' hal hh h => ⟨h.1, h.2.1.mv hal hh, h.2.2⟩) (fun r U U' V V' h1 hal h2 h => ⟨NewArr.mv r U U' V V' h1 hal h2 h.1, by rw [h1, h2]; exact h.2⟩) ?_
  intro p e s m args below meth c s₁ X0 hexec hbytes hml hret hlk hnm hown hh0 W hP
  obtain ⟨rfl, hA, l1, l2, hp⟩ := hP
  have a31 := hA.1.2.2.2
  have c1 : Steps p.tables e below (s₁.setTop (entryFrame m #[.ref b, .int (Int32.ofNat o), .int (Int32.ofNat len)] 6)) (s₁.setTop (mkF m 0 #[.val (.ref b), .val (.int (Int32.ofNat o)), .val (.int (Int32.ofNat len)), .unset, .unset, .unset] [])) := entry rfl
  have c2 : Steps p.tables e below (s₁.setTop (entryFrame m #[.ref b, .int (Int32.ofNat o), .int (Int32.ofNat len)] 6)) (s₁.setTop (mkF m 1 #[.val (.ref b), .val (.int (Int32.ofNat o)), .val (.int (Int32.ofNat len)), .unset, .unset, .unset] [.int (Int32.ofNat len)])) := c1.trans (by
    refine XS.iloadN X0.here hexec rfl (hb hbytes d0) rfl ?_
    exact Steps.refl _)
  obtain ⟨T3, B3, X3, ba3, bs3, bv3, bh3, bf3, st3⟩ := X0.anew hexec (atype := .byte) (wk W (.arrayClass .byte)) rfl (by show len * 1 ≤ _; omega) (by omega) (g := (mkF m 1 #[.val (.ref b), .val (.int (Int32.ofNat o)), .val (.int (Int32.ofNat len)), .unset, .unset, .unset] [.int (Int32.ofNat len)])) rfl (hb hbytes d1) (rest := []) rfl (Nat.le_refl _) (by show 0 + len ≤ len; omega)
  rw [hh0] at ba3 st3
  have kp3 : XT.Kept s T3 := (XT.Kept.of_eq hh0).push bh3
  have hA3 := hA.keep X3.warmed.alike (kp3 _ _ hA.1.1)
  have hne : b ≠ s.heap.size := hA.1.ne
  have c4 : Steps p.tables e below (s₁.setTop (entryFrame m #[.ref b, .int (Int32.ofNat o), .int (Int32.ofNat len)] 6)) (T3.setTop (mkF m 3 #[.val (.ref b), .val (.int (Int32.ofNat o)), .val (.int (Int32.ofNat len)), .unset, .unset, .unset] [.ref s.heap.size])) := c2.trans (st3 _ (Steps.refl _))
  have c5 : Steps p.tables e below (s₁.setTop (entryFrame m #[.ref b, .int (Int32.ofNat o), .int (Int32.ofNat len)] 6)) (T3.setTop (mkF m 9 #[.val (.ref b), .val (.int (Int32.ofNat o)), .val (.int (Int32.ofNat len)), .val (.ref s.heap.size), .unset, .unset] [.int (Int32.ofNat len), .int 0, .ref s.heap.size, .int (Int32.ofNat o), .ref b])) := c4.trans (by
    refine XS.astoreN X3.here hexec rfl (hb hbytes d3) rfl rfl rfl ?_
    refine XS.aloadN X3.here hexec rfl (hb hbytes d4) rfl rfl ?_
    refine XS.iloadN X3.here hexec rfl (hb hbytes d5) rfl ?_
    refine XS.aloadN X3.here hexec rfl (hb hbytes d6) rfl rfl ?_
    refine iconstV X3.here hexec rfl 0 (hb hbytes d7) (by decide) ?_
    refine XS.iloadN X3.here hexec rfl (hb hbytes d8) rfl ?_
    exact Steps.refl _)
  obtain ⟨v6, T6, X6, E6, g6⟩ := X3.callS hexec (Cmp5.law l b A s.heap.size B3 o 0 len) hown (wks W (staticW U16 115 Cmp5.yN)) (wk W Cmp5.tab) (W := 0) (Nat.le_of_ble_eq_true rfl) (Nat.le_of_ble_eq_true rfl) (Nat.le_refl _) (by show 0 + len + 0 ≤ len; omega) (g := (mkF m 9 #[.val (.ref b), .val (.int (Int32.ofNat o)), .val (.int (Int32.ofNat len)), .val (.ref s.heap.size), .unset, .unset] [.int (Int32.ofNat len), .int (Int32.ofNat 0), .ref s.heap.size, .int (Int32.ofNat o), .ref b])) rfl (by rw [hml]; rfl) c5 (argsL := [.ref b, .int (Int32.ofNat o), .ref s.heap.size, .int (Int32.ofNat 0), .int (Int32.ofNat len)]) (rest := []) rfl rfl (by show 2 * 0 + 0 ≤ _; decide) (hb hbytes d9) (⟨rfl, hA3, ba3, hne, l1, by rw [bs3]; simp, hp⟩)
  obtain ⟨rfl, B6, p6, f6⟩ := E6
  have c7 : Steps p.tables e below (s₁.setTop (entryFrame m #[.ref b, .int (Int32.ofNat o), .int (Int32.ofNat len)] 6)) (T6.setTop (mkF m 12 #[.val (.ref b), .val (.int (Int32.ofNat o)), .val (.int (Int32.ofNat len)), .val (.ref s.heap.size), .unset, .unset] [.int (Int32.ofNat len)])) := g6
  have c8 : Steps p.tables e below (s₁.setTop (entryFrame m #[.ref b, .int (Int32.ofNat o), .int (Int32.ofNat len)] 6)) (T6.setTop (mkF m 58 #[.val (.ref b), .val (.int (Int32.ofNat o)), .val (.int (Int32.ofNat len)), .val (.ref s.heap.size), .val (.int (Int32.ofNat len)), .unset] [.ref s.heap.size])) := c7.trans (by
    refine XS.istore X6.here hexec rfl (hb hbytes d12) rfl rfl ?_
    refine XS.iload X6.here hexec rfl (hb hbytes d14) rfl ?_
    refine XS.iloadN X6.here hexec rfl (hb hbytes d16) rfl ?_
    refine XS.icmpYes X6.here hexec rfl (pc0 := 17) rfl (hb hbytes d17) rfl (ii_eq_t rfl) (by decide) rfl ?_
    refine XS.aloadN X6.here hexec rfl (hb hbytes d57) rfl rfl ?_
    exact Steps.refl _)
  have X8 := X6.wide (L' := []) (cells' := 1) (slots' := len) (fun x hx hlt => by
    simp only [List.nil_append, copyLocs, List.mem_map, List.mem_range] at hx
    obtain ⟨i, -, rfl⟩ := hx
    exact absurd hlt (Nat.lt_irrefl _)) (Nat.le_refl _) (by omega)
  exact ⟨T6, some (.ref s.heap.size), _, _, _, X8, rfl, rfl, rfl, (fun h => by cases h), ⟨⟨rfl, B6, ba3.like (X3.warmed.alike.symm.trans X6.warmed.alike) p6.1 f6.1 f6.2.1 f6.2.2.1, f6.2.1.trans bv3, by rw [X6.warmed.alike.findClass, f6.1]; exact bf3, by rw [f6.2.2.1, bs3]; simp, fun j hj => by rw [f6.2.2.2 j, if_pos (by omega)]; rfl, kp3.put p6 (Nat.le_refl _)⟩, by rw [p6.2.2, bh3, hh0]; simp⟩, fun fs hl => c8.trans (X8.areturnOut hexec rfl hret rfl (hb hbytes d58) hl)⟩
end Cmp3
namespace CodL
def yN : MethodName := ⟨"java/lang/StringUTF16", "coderFromArrayLen", "([BI)B"⟩
abbrev yB : ByteArray := jdk_52_method_15_code
theorem d0 : decode yB 0 = .ok (.iload_n 1, 1) := by decide +kernel
theorem d1 : decode yB 1 = .ok (.aload_n 0, 1) := by decide +kernel
theorem d2 : decode yB 2 = .ok (.arraylength, 1) := by decide +kernel
theorem d3 : decode yB 3 = .ok (.isub, 1) := by decide +kernel
theorem d4 : decode yB 4 = .ok (.bipush 31, 2) := by decide +kernel
theorem d6 : decode yB 6 = .ok (.iushr, 1) := by decide +kernel
theorem d7 : decode yB 7 = .ok (.i2b, 1) := by decide +kernel
theorem d8 : decode yB 8 = .ok (.ireturn, 1) := by decide +kernel
def site : List Cond := []
def tab : Cond := tabOf yN yB 2 (some .byte) site
def P (d : Addr) (B : Cell) (args : Array Value) (s : State) : Prop := args = #[.ref d, .int (Int32.ofNat B.slots.size)] ∧ Arr .byte d B s
def E (r : Option Value) (s u : State) : Prop := XT.PureE (some (.int 0)) r s u
/-- an array as long as the number of chars: LATIN1 -/
theorem law (l : Launch) (d : Addr) (B : Cell) : Law l yN 2 2 0 0 yB 2 (some .byte) site (P d B) E [] 0 0 := by
  refine Law.of_walk (plainFor_of_name (by decide +kernel)) (by decide +kernel) (by decide +kernel) (by decide) (fun _ _ h => by rw [h.1]; rfl) (fun _ U U' hal hh h => ⟨h.1, h.2.mv hal hh⟩) (fun r U U' V V' h1 hal h2 h => XT.PureE.mv r U U' V V' h1 hal h2 h) ?_
  intro p e s m args below meth c s₁ X0 hexec hbytes hml hret hlk hnm hown hh0 W hP
  obtain ⟨rfl, hB⟩ := hP
  have hB0 := hB.mv X0.warmed.alike hh0
  have c1 : Steps p.tables e below (s₁.setTop (entryFrame m #[.ref d, .int (Int32.ofNat B.slots.size)] 2)) (s₁.setTop (mkF m 0 #[.val (.ref d), .val (.int (Int32.ofNat B.slots.size))] [])) := entry rfl
  have c2 : Steps p.tables e below (s₁.setTop (entryFrame m #[.ref d, .int (Int32.ofNat B.slots.size)] 2)) (s₁.setTop (mkF m 2 #[.val (.ref d), .val (.int (Int32.ofNat B.slots.size))] [.ref d, .int (Int32.ofNat B.slots.size)])) := c1.trans (by
    refine XS.iloadN X0.here hexec rfl (hb hbytes d0) rfl ?_
    refine XS.aloadN X0.here hexec rfl (hb hbytes d1) rfl rfl ?_
    exact Steps.refl _)
  have c3 : Steps p.tables e below (s₁.setTop (entryFrame m #[.ref d, .int (Int32.ofNat B.slots.size)] 2)) (s₁.setTop (mkF m 8 #[.val (.ref d), .val (.int (Int32.ofNat B.slots.size))] [.int (lo8 (ushr (Int32.ofNat B.slots.size - Int32.ofNat B.slots.size) 31))])) := c2.trans (by
    refine X0.alen hexec hB0 rfl rfl (hb hbytes d2) ?_
    refine XS.isub X0.here hexec rfl (hb hbytes d3) rfl ?_
    refine bipushV X0.here hexec rfl 31 (hb hbytes d4) (by decide) ?_
    refine iushr X0.here hexec rfl (hb hbytes d6) rfl ?_
    refine i2b X0.here hexec rfl (hb hbytes d7) rfl ?_
    exact Steps.refl _)
  have e0 : lo8 (ushr (Int32.ofNat B.slots.size - Int32.ofNat B.slots.size) 31) = 0 := by rw [Int32.sub_self]; decide
  rw [e0] at c3
  exact ⟨s₁, some (.int 0), _, _, _, X0, rfl, rfl, rfl, (fun h => by cases h), ⟨rfl, hh0⟩, fun fs hl => c3.trans (X0.ireturnOut hexec hret rfl (Or.inr (Or.inr (Or.inl rfl))) (hb hbytes d8) hl)⟩
end CodL
/-- the String at a is Latin-1 over a new byte[] (the heap's one new cell): the low bytes of the len chars of A from o on; every cell but a is kept -/
def Got (a : Addr) (D : Cell) (fV fC : Field) (A : Cell) (o len : Nat) (r : Option Value) (s u : State) : Prop := r = none ∧ ∃ D' V : Cell, Blank "java/lang/String" a D' u ∧ Same D D' [fV.slot, fC.slot] ∧ D'.slots[fV.slot]? = some (.ref s.heap.size) ∧ D'.slots[fC.slot]? = some (.int 0) ∧ Arr .byte s.heap.size V u ∧ V.vm = .none ∧ u.vm.findClass "[B" = some V.cls ∧ V.slots.size = len ∧ (∀ j, j < len → V.slots[j]? = some (.int (lo8 (cv A (o + j))))) ∧ (∀ (y : Addr) (c : Cell), y ≠ a → s.heap[y]? = some c → u.heap[y]? = some c) ∧ u.heap.size = s.heap.size + 1
theorem Got.mv {a : Addr} {D A : Cell} {fV fC : Field} {o len : Nat} : ∀ r (U U' V V' : State), U'.heap = U.heap → V.vm.Alike V'.vm → V'.heap = V.heap → Got a D fV fC A o len r U V → Got a D fV fC A o len r U' V' :=
  fun r U U' V V' h1 hal h2 ⟨e0, D', X, a1, a2, a3, a4, a5, a6, a7, a8, a9, a10, a11⟩ => ⟨e0, D', X, a1.mv hal h2, a2, by rw [h1]; exact a3, a4, by rw [h1]; exact a5.mv hal h2, a6, by rw [hal.findClass]; exact a7, a8, a9, by rw [h1, h2]; exact a10, by rw [h1, h2]; exact a11⟩
namespace New4
def yN : MethodName := ⟨"java/lang/String", "<init>", "([CIILjava/lang/Void;)V"⟩
abbrev yB : ByteArray := jdk_42_method_149_code
theorem d0 : decode yB 0 = .ok (.aload_n 0, 1) := by decide +kernel
theorem d1 : decode yB 1 = .ok (.invokespecial 1, 3) := by decide +kernel
theorem d4 : decode yB 4 = .ok (.iload_n 3, 1) := by decide +kernel
theorem d5 : decode yB 5 = .ok (.ifCond (.ne) 22, 3) := by decide +kernel
theorem d27 : decode yB 27 = .ok (.getstatic 38, 3) := by decide +kernel
theorem d30 : decode yB 30 = .ok (.ifCond (.eq) 28, 3) := by decide +kernel
theorem d33 : decode yB 33 = .ok (.aload_n 1, 1) := by decide +kernel
theorem d34 : decode yB 34 = .ok (.iload_n 2, 1) := by decide +kernel
theorem d35 : decode yB 35 = .ok (.iload_n 3, 1) := by decide +kernel
theorem d36 : decode yB 36 = .ok (.invokestatic 177, 3) := by decide +kernel
theorem d39 : decode yB 39 = .ok (.astore 5, 2) := by decide +kernel
theorem d41 : decode yB 41 = .ok (.aload_n 0, 1) := by decide +kernel
theorem d42 : decode yB 42 = .ok (.aload 5, 2) := by decide +kernel
theorem d44 : decode yB 44 = .ok (.iload_n 3, 1) := by decide +kernel
theorem d45 : decode yB 45 = .ok (.invokestatic 47, 3) := by decide +kernel
theorem d48 : decode yB 48 = .ok (.putfield 15, 3) := by decide +kernel
theorem d51 : decode yB 51 = .ok (.aload_n 0, 1) := by decide +kernel
theorem d52 : decode yB 52 = .ok (.aload 5, 2) := by decide +kernel
theorem d54 : decode yB 54 = .ok (.putfield 9, 3) := by decide +kernel
theorem d57 : decode yB 57 = .ok (.return_, 1) := by decide +kernel
def site : List Cond := [.fieldLink "java/lang/String" 38 "java/lang/String" "COMPACT_STRINGS" "Z", Cmp3.tab, CodL.tab, .laysFinal "java/lang/String" "java/lang/String" "value" "[B", .fieldLink "java/lang/String" 9 "java/lang/String" "value" "[B", .laysFinal "java/lang/String" "java/lang/String" "coder" "B", .fieldLink "java/lang/String" 15 "java/lang/String" "coder" "B"] ++ objW "java/lang/String" 1 ++ staticW "java/lang/String" 177 Cmp3.yN ++ staticW "java/lang/String" 47 CodL.yN
def tab : Cond := tabOf yN yB 6 none site
def P (a : Addr) (D : Cell) (fV fC : Field) (b : Addr) (A : Cell) (z : Int32) (o len : Nat) (args : Array Value) (s : State) : Prop := args = #[.ref a, .ref b, .int (Int32.ofNat o), .int (Int32.ofNat len), .null] ∧ Blank "java/lang/String" a D s ∧ Found "java/lang/String" "value" "[B" fV s ∧ Found "java/lang/String" "coder" "B" fC s ∧ Ch b A s ∧ StaticIs s "java/lang/String" "COMPACT_STRINGS" "Z" (.int z) ∧ ¬ z = 0 ∧ 0 < len ∧ o + len ≤ A.slots.size ∧ len ≤ 536870912 ∧ ∀ i, i < len → ¬ 255 < cv A (o + i)
def E (a : Addr) (D : Cell) (fV fC : Field) (A : Cell) (o len : Nat) (r : Option Value) (s u : State) : Prop := Got a D fV fC A o len r s u
/-- len > 0, no char of the range above 255: a Latin-1 String of their low bytes -/
theorem law (l : Launch) (a : Addr) (D : Cell) (fV fC : Field) (b : Addr) (A : Cell) (z : Int32) (o len : Nat) : Law l yN 5 4 2 35 yB 6 none site (P a D fV fC b A z o len) (E a D fV fC A o len) [⟨a, fC.slot⟩, ⟨a, fV.slot⟩] 1 len := by
  refine Law.of_walk (plainFor_of_name (by decide +kernel)) (by decide +kernel) (by decide +kernel) (by decide) (fun _ _ h => by rw [h.1]; rfl) (fun _ U U' hal hh h => ⟨h.1, h.2.1.mv hal hh, h.2.2.1.al hal, h.2.2.2.1.al hal, h.2.2.2.2.1.mv hal hh, h.2.2.2.2.2.1.there hal hh, h.2.2.2.2.2.2⟩) (fun r U U' V V' h1 hal h2 h => Got.mv r U U' V V' h1 hal h2 h) ?_
  intro p e s m args below meth c s₁ X0 hexec hbytes hml hret hlk hnm hown hh0 W hP
  obtain ⟨rfl, hB, f1, f2, hA, s1, hz, l0, l1, l2, hp⟩ := hP
  have a31 := hA.1.2.2.2
  have c1 : Steps p.tables e below (s₁.setTop (entryFrame m #[.ref a, .ref b, .int (Int32.ofNat o), .int (Int32.ofNat len), .null] 6)) (s₁.setTop (mkF m 0 #[.val (.ref a), .val (.ref b), .val (.int (Int32.ofNat o)), .val (.int (Int32.ofNat len)), .val .null, .unset] [])) := entry rfl
  have c2 : Steps p.tables e below (s₁.setTop (entryFrame m #[.ref a, .ref b, .int (Int32.ofNat o), .int (Int32.ofNat len), .null] 6)) (s₁.setTop (mkF m 1 #[.val (.ref a), .val (.ref b), .val (.int (Int32.ofNat o)), .val (.int (Int32.ofNat len)), .val .null, .unset] [.ref a])) := c1.trans (by
    refine XS.aloadN X0.here hexec rfl (hb hbytes d0) rfl rfl ?_
    exact Steps.refl _)
  obtain ⟨T3, X3, q3, st3⟩ := X0.oinit hexec hown (wks W (objW "java/lang/String" 1)) (g := (mkF m 1 #[.val (.ref a), .val (.ref b), .val (.int (Int32.ofNat o)), .val (.int (Int32.ofNat len)), .val .null, .unset] [.ref a])) rfl (by rw [hml]; rfl) (rest := []) rfl (hb hbytes d1) (W := 0) (by show 2 * 0 + 0 ≤ _; decide) (Nat.le_of_ble_eq_true rfl) (Nat.le_of_ble_eq_true rfl)
  have hh3 := q3.trans hh0
  have c4 : Steps p.tables e below (s₁.setTop (entryFrame m #[.ref a, .ref b, .int (Int32.ofNat o), .int (Int32.ofNat len), .null] 6)) (T3.setTop (mkF m 27 #[.val (.ref a), .val (.ref b), .val (.int (Int32.ofNat o)), .val (.int (Int32.ofNat len)), .val .null, .unset] [])) := (c2.trans (st3 _ (Steps.refl _))).trans (by
    refine XS.iloadN X3.here hexec rfl (hb hbytes d4) rfl ?_
    refine XS.ifYes X3.here hexec rfl (pc0 := 5) rfl (hb hbytes d5) rfl (i0_ne_t (nz32 (by omega) l0)) (by decide) rfl ?_
    exact Steps.refl _)
  obtain ⟨T5, X5, q5, st5⟩ := X3.sget hexec hown (wk W (.fieldLink "java/lang/String" 38 "java/lang/String" "COMPACT_STRINGS" "Z")) s1 (fun _ _ h => by rw [hh3]; exact h) (g := (mkF m 27 #[.val (.ref a), .val (.ref b), .val (.int (Int32.ofNat o)), .val (.int (Int32.ofNat len)), .val .null, .unset] [])) rfl (hb hbytes d27)
  have hh5 := q5.trans hh3
  have c6 : Steps p.tables e below (s₁.setTop (entryFrame m #[.ref a, .ref b, .int (Int32.ofNat o), .int (Int32.ofNat len), .null] 6)) (T5.setTop (mkF m 30 #[.val (.ref a), .val (.ref b), .val (.int (Int32.ofNat o)), .val (.int (Int32.ofNat len)), .val .null, .unset] [.int z])) := c4.trans (st5 _ (Steps.refl _))
  have c7 : Steps p.tables e below (s₁.setTop (entryFrame m #[.ref a, .ref b, .int (Int32.ofNat o), .int (Int32.ofNat len), .null] 6)) (T5.setTop (mkF m 36 #[.val (.ref a), .val (.ref b), .val (.int (Int32.ofNat o)), .val (.int (Int32.ofNat len)), .val .null, .unset] [.int (Int32.ofNat len), .int (Int32.ofNat o), .ref b])) := c6.trans (by
    refine XS.ifNo X5.here hexec rfl (hb hbytes d30) rfl (i0_eq_f hz) ?_
    refine XS.aloadN X5.here hexec rfl (hb hbytes d33) rfl rfl ?_
    refine XS.iloadN X5.here hexec rfl (hb hbytes d34) rfl ?_
    refine XS.iloadN X5.here hexec rfl (hb hbytes d35) rfl ?_
    exact Steps.refl _)
  obtain ⟨v8, T8, X8, E8, g8⟩ := X5.callS hexec (Cmp3.law l b A o len) hown (wks W (staticW "java/lang/String" 177 Cmp3.yN)) (wk W Cmp3.tab) (W := 0) (Nat.le_of_ble_eq_true rfl) (Nat.le_of_ble_eq_true rfl) (Nat.le_refl _) (by show 0 + len ≤ len; omega) (g := (mkF m 36 #[.val (.ref a), .val (.ref b), .val (.int (Int32.ofNat o)), .val (.int (Int32.ofNat len)), .val .null, .unset] [.int (Int32.ofNat len), .int (Int32.ofNat o), .ref b])) rfl (by rw [hml]; rfl) c7 (argsL := [.ref b, .int (Int32.ofNat o), .int (Int32.ofNat len)]) (rest := []) rfl rfl (by show 2 * 0 + 0 ≤ _; decide) (hb hbytes d36) (⟨rfl, hA.mv X5.warmed.alike hh5, l1, l2, hp⟩)
  obtain ⟨e8, z8⟩ := E8
  obtain ⟨rfl, N, n1, n2, n3, n4, n5, n6⟩ := NewArr.mv _ T5 s _ _ hh5.symm (Vm.Alike.refl _) rfl e8
  rw [hh5] at z8
  have hB1 := hB.keep X8.warmed.alike (n6 _ _ hB.1)
  have hne : s.heap.size ≠ a := (Nat.ne_of_lt (Array.getElem?_eq_some_iff.mp hB.1).1).symm
  have c9 : Steps p.tables e below (s₁.setTop (entryFrame m #[.ref a, .ref b, .int (Int32.ofNat o), .int (Int32.ofNat len), .null] 6)) (T8.setTop (mkF m 39 #[.val (.ref a), .val (.ref b), .val (.int (Int32.ofNat o)), .val (.int (Int32.ofNat len)), .val .null, .unset] [.ref s.heap.size])) := g8
  have c10 : Steps p.tables e below (s₁.setTop (entryFrame m #[.ref a, .ref b, .int (Int32.ofNat o), .int (Int32.ofNat len), .null] 6)) (T8.setTop (mkF m 45 #[.val (.ref a), .val (.ref b), .val (.int (Int32.ofNat o)), .val (.int (Int32.ofNat len)), .val .null, .val (.ref s.heap.size)] [.int (Int32.ofNat N.slots.size), .ref s.heap.size, .ref a])) := by
    have hc : Steps p.tables e below (s₁.setTop (entryFrame m #[.ref a, .ref b, .int (Int32.ofNat o), .int (Int32.ofNat len), .null] 6)) (T8.setTop (mkF m 45 #[.val (.ref a), .val (.ref b), .val (.int (Int32.ofNat o)), .val (.int (Int32.ofNat len)), .val .null, .val (.ref s.heap.size)] [.int (Int32.ofNat len), .ref s.heap.size, .ref a])) := c9.trans (by
      refine XS.astore X8.here hexec rfl (hb hbytes d39) rfl rfl rfl ?_
      refine XS.aloadN X8.here hexec rfl (hb hbytes d41) rfl rfl ?_
      refine XS.aload X8.here hexec rfl (hb hbytes d42) rfl rfl ?_
      refine XS.iloadN X8.here hexec rfl (hb hbytes d44) rfl ?_
      exact Steps.refl _)
    rw [n4]; exact hc
  obtain ⟨v11, T11, X11, E11, g11⟩ := X8.callS hexec (CodL.law l s.heap.size N) hown (wks W (staticW "java/lang/String" 47 CodL.yN)) (wk W CodL.tab) (W := 1) (Nat.le_of_ble_eq_true rfl) (Nat.le_of_ble_eq_true rfl) (Nat.le_refl _) (by show 0 + len + 0 ≤ len; omega) (g := (mkF m 45 #[.val (.ref a), .val (.ref b), .val (.int (Int32.ofNat o)), .val (.int (Int32.ofNat len)), .val .null, .val (.ref s.heap.size)] [.int (Int32.ofNat N.slots.size), .ref s.heap.size, .ref a])) rfl (by rw [hml]; rfl) c10 (argsL := [.ref s.heap.size, .int (Int32.ofNat N.slots.size)]) (rest := [.ref a]) rfl rfl (by show 2 * 0 + (1 + 0) ≤ _; decide) (hb hbytes d45) (⟨rfl, n1⟩)
  obtain ⟨rfl, q11⟩ := E11
  have hB11 := hB1.mv (X8.warmed.alike.symm.trans X11.warmed.alike) q11
  have c12 : Steps p.tables e below (s₁.setTop (entryFrame m #[.ref a, .ref b, .int (Int32.ofNat o), .int (Int32.ofNat len), .null] 6)) (T11.setTop (mkF m 48 #[.val (.ref a), .val (.ref b), .val (.int (Int32.ofNat o)), .val (.int (Int32.ofNat len)), .val .null, .val (.ref s.heap.size)] [.int 0, .ref a])) := g11
  obtain ⟨T13, X13, p13, bl13, sl13, st13⟩ := X11.finit hexec hown (wk W (.fieldLink "java/lang/String" 15 "java/lang/String" "coder" "B")) (Or.inr ⟨_, (wk W (.laysFinal "java/lang/String" "java/lang/String" "coder" "B"))⟩) (Or.inl ⟨rfl, hnm⟩) f2 (Or.inl rfl) hB11 (t := .byte) (by decide +kernel) rfl (g := (mkF m 48 #[.val (.ref a), .val (.ref b), .val (.int (Int32.ofNat o)), .val (.int (Int32.ofNat len)), .val .null, .val (.ref s.heap.size)] [.int 0, .ref a])) rfl (rest := []) rfl (hb hbytes d48)
  have c14 : Steps p.tables e below (s₁.setTop (entryFrame m #[.ref a, .ref b, .int (Int32.ofNat o), .int (Int32.ofNat len), .null] 6)) (T13.setTop (mkF m 54 #[.val (.ref a), .val (.ref b), .val (.int (Int32.ofNat o)), .val (.int (Int32.ofNat len)), .val .null, .val (.ref s.heap.size)] [.ref s.heap.size, .ref a])) := (c12.trans (st13 _ (Steps.refl _))).trans (by
    refine XS.aloadN X13.here hexec rfl (hb hbytes d51) rfl rfl ?_
    refine XS.aload X13.here hexec rfl (hb hbytes d52) rfl rfl ?_
    exact Steps.refl _)
  obtain ⟨T15, X15, p15, bl15, sl15, st15⟩ := X13.finit hexec hown (wk W (.fieldLink "java/lang/String" 9 "java/lang/String" "value" "[B")) (Or.inr ⟨_, (wk W (.laysFinal "java/lang/String" "java/lang/String" "value" "[B"))⟩) (Or.inl ⟨rfl, hnm⟩) f1 (Or.inl rfl) bl13 (t := (.array .byte)) (by decide +kernel) rfl (g := (mkF m 54 #[.val (.ref a), .val (.ref b), .val (.int (Int32.ofNat o)), .val (.int (Int32.ofNat len)), .val .null, .val (.ref s.heap.size)] [.ref s.heap.size, .ref a])) rfl (rest := []) rfl (hb hbytes d54)
  have c16 : Steps p.tables e below (s₁.setTop (entryFrame m #[.ref a, .ref b, .int (Int32.ofNat o), .int (Int32.ofNat len), .null] 6)) (T15.setTop (mkF m 57 #[.val (.ref a), .val (.ref b), .val (.int (Int32.ofNat o)), .val (.int (Int32.ofNat len)), .val .null, .val (.ref s.heap.size)] [])) := c14.trans (st15 _ (Steps.refl _))
  have ap := apart (Or.inr ⟨_, (wk W (.laysFinal "java/lang/String" "java/lang/String" "value" "[B"))⟩) (Or.inr ⟨_, (wk W (.laysFinal "java/lang/String" "java/lang/String" "coder" "B"))⟩) f1 f2 (t₁ := .array .byte) (t₂ := .byte) (by decide +kernel) (by decide +kernel) (by decide)
  have al := X8.warmed.alike.symm.trans X15.warmed.alike
  have n7 : T11.heap[s.heap.size]? = some N := by rw [q11]; exact n1.1
  exact ⟨T15, none, _, _, _, X15, by simp, rfl, by omega, (fun _ => rfl), ⟨rfl, _, N, bl15, ((Same.refl D _).set _ (by simp)).set _ (by simp), sl15, (Cell.slots_setSlot_ne _ ap).trans sl13, n1.keep al (p15.other hne (p13.other hne n7)), n2, by rw [al.findClass]; exact n3, n4, n5, fun y c h1 h2 => p15.other h1 (p13.other h1 (by rw [q11]; exact n6 y c h2)), by rw [p15.2.2, p13.2.2, q11]; exact z8⟩, fun fs hl => c16.trans (X15.returnOut hexec hret (hb hbytes d57) hl)⟩
end New4
namespace New1
def yN : MethodName := ⟨"java/lang/String", "<init>", "([C)V"⟩
abbrev yB : ByteArray := jdk_42_method_3_code
theorem d0 : decode yB 0 = .ok (.aload_n 0, 1) := by decide +kernel
theorem d1 : decode yB 1 = .ok (.aload_n 1, 1) := by decide +kernel
theorem d2 : decode yB 2 = .ok (.iconst 0, 1) := by decide +kernel
theorem d3 : decode yB 3 = .ok (.aload_n 1, 1) := by decide +kernel
theorem d4 : decode yB 4 = .ok (.arraylength, 1) := by decide +kernel
theorem d5 : decode yB 5 = .ok (.aconst_null, 1) := by decide +kernel
theorem d6 : decode yB 6 = .ok (.invokespecial 27, 3) := by decide +kernel
theorem d9 : decode yB 9 = .ok (.return_, 1) := by decide +kernel
def site : List Cond := [New4.tab] ++ initW "java/lang/String" 27 New4.yN
def tab : Cond := tabOf yN yB 2 none site
def P (a : Addr) (D : Cell) (fV fC : Field) (b : Addr) (A : Cell) (z : Int32) (args : Array Value) (s : State) : Prop := args = #[.ref a, .ref b] ∧ Blank "java/lang/String" a D s ∧ Found "java/lang/String" "value" "[B" fV s ∧ Found "java/lang/String" "coder" "B" fC s ∧ Ch b A s ∧ StaticIs s "java/lang/String" "COMPACT_STRINGS" "Z" (.int z) ∧ ¬ z = 0 ∧ 0 < A.slots.size ∧ A.slots.size ≤ 536870912 ∧ ∀ i, i < A.slots.size → ¬ 255 < cv A i
def E (a : Addr) (D : Cell) (fV fC : Field) (A : Cell) (r : Option Value) (s u : State) : Prop := Got a D fV fC A 0 A.slots.size r s u
/-- new String(chars), not empty, no char above 255: a Latin-1 String of their low bytes -/
theorem law (l : Launch) (a : Addr) (D : Cell) (fV fC : Field) (b : Addr) (A : Cell) (z : Int32) : Law l yN 2 1 3 52 yB 2 none site (P a D fV fC b A z) (E a D fV fC A) [⟨a, fC.slot⟩, ⟨a, fV.slot⟩] 1 A.slots.size := by
  refine Law.of_walk (plainFor_of_name (by decide +kernel)) (by decide +kernel) (by decide +kernel) (by decide) (fun _ _ h => by rw [h.1]; rfl) (fun _ U U' hal hh h => ⟨h.1, h.2.1.mv hal hh, h.2.2.1.al hal, h.2.2.2.1.al hal, h.2.2.2.2.1.mv hal hh, h.2.2.2.2.2.1.there hal hh, h.2.2.2.2.2.2⟩) (fun r U U' V V' h1 hal h2 h => Got.mv r U U' V V' h1 hal h2 h) ?_
  intro p e s m args below meth c s₁ X0 hexec hbytes hml hret hlk hnm hown hh0 W hP
  obtain ⟨rfl, hB, f1, f2, hA, s1, hz, l0, l2, hp⟩ := hP
  have c1 : Steps p.tables e below (s₁.setTop (entryFrame m #[.ref a, .ref b] 2)) (s₁.setTop (mkF m 0 #[.val (.ref a), .val (.ref b)] [])) := entry rfl
  have c2 : Steps p.tables e below (s₁.setTop (entryFrame m #[.ref a, .ref b] 2)) (s₁.setTop (mkF m 6 #[.val (.ref a), .val (.ref b)] [.null, .int (Int32.ofNat A.slots.size), .int 0, .ref b, .ref a])) := c1.trans (by
    refine XS.aloadN X0.here hexec rfl (hb hbytes d0) rfl rfl ?_
    refine XS.aloadN X0.here hexec rfl (hb hbytes d1) rfl rfl ?_
    refine iconstV X0.here hexec rfl 0 (hb hbytes d2) (by decide) ?_
    refine XS.aloadN X0.here hexec rfl (hb hbytes d3) rfl rfl ?_
    refine X0.alen hexec (hA.1.mv X0.warmed.alike hh0) rfl rfl (hb hbytes d4) ?_
    refine XS.aconstNull X0.here hexec rfl (hb hbytes d5) ?_
    exact Steps.refl _)
  obtain ⟨v3, T3, X3, E3, g3⟩ := X0.callN hexec (New4.law l a D fV fC b A z 0 A.slots.size) rfl hown (wks W (initW "java/lang/String" 27 New4.yN)) (W New4.tab (by simp only [site, List.mem_cons, List.mem_append, true_or, or_true])) (W := 0) (Nat.le_of_ble_eq_true rfl) (Nat.le_of_ble_eq_true rfl) (Nat.le_refl _) (by show 0 + A.slots.size ≤ A.slots.size; omega) (g := (mkF m 6 #[.val (.ref a), .val (.ref b)] [.null, .int (Int32.ofNat A.slots.size), .int (Int32.ofNat 0), .ref b, .ref a])) rfl (by rw [hml]; rfl) c2 (argsL := [.ref b, .int (Int32.ofNat 0), .int (Int32.ofNat A.slots.size), .null]) (rest := []) rfl rfl (by show 2 * 0 + 0 ≤ _; decide) (hb hbytes d6) (⟨rfl, hB.mv X0.warmed.alike hh0, f1.al X0.warmed.alike, f2.al X0.warmed.alike, hA.mv X0.warmed.alike hh0, s1.there X0.warmed.alike hh0, hz, l0, by omega, l2, fun i hi => by rw [Nat.zero_add]; exact hp i hi⟩)
  have e0 := Got.mv _ s₁ s _ _ hh0.symm (Vm.Alike.refl _) rfl E3
  obtain rfl := e0.1
  have c4 : Steps p.tables e below (s₁.setTop (entryFrame m #[.ref a, .ref b] 2)) (T3.setTop (mkF m 9 #[.val (.ref a), .val (.ref b)] [])) := g3
  exact ⟨T3, none, _, _, _, X3, by simp, rfl, by omega, (fun _ => rfl), e0, fun fs hl => c4.trans (X3.returnOut hexec hret (hb hbytes d9) hl)⟩
theorem pays {l : Launch} {R : Room} {p : Program} {e : Env} {below : List Frame} {s : State} {sargs : Array Value} {len W : Nat} (a : Addr) (D : Cell) (fV fC : Field) (b : Addr) (A : Cell) (z : Int32) (htab : tab.before sargs s = true) (hfr : 4 ≤ R.frames) (hlo : W + 65 ≤ R.locals) :
    Back l R p e below s sargs yN len W (fun A₁ a₁ => A₁.cells + 1 ≤ R.cells ∧ A₁.slots + A.slots.size ≤ R.slots ∧ P a D fV fC b A z a₁ A₁.U) (fun A₁ _ v₁ B₁ => E a D fV fC A v₁ A₁.U B₁.U ∧ B₁.locs = A₁.locs ++ [⟨a, fC.slot⟩, ⟨a, fV.slot⟩] ∧ B₁.cells = A₁.cells + 1 ∧ B₁.slots = A₁.slots + A.slots.size) :=
  (law l a D fV fC b A z).pays htab hfr (by omega)
end New1
end StrChars
namespace StrChars.Road
open Jvm Sem ClassFile Op Lib Jvm.Stand Jvm.Free Jvm.Free.XT
open Jvm.Lib.Cold (StaticIs)
abbrev ST : String := "java/lang/String"
/-- every table word that New1's law asks, flat -/
abbrev words : List Jvm.Cond := [.code New1.yN New1.yB 2 none, .initialized ST, .methodLink ST 27 New4.yN, .instanceMethod New4.yN,
  .code New4.yN New4.yB 6 none, .fieldLink ST 38 ST "COMPACT_STRINGS" "Z", .laysFinal ST ST "value" "[B", .fieldLink ST 9 ST "value" "[B", .laysFinal ST ST "coder" "B", .fieldLink ST 15 ST "coder" "B",
  .methodLink ST 1 Lib.objectInit, .instanceMethod Lib.objectInit, .code Lib.objectInit ⟨#[0xb1]⟩ 1 none, .methodLink ST 177 Cmp3.yN, .static Cmp3.yN, .methodLink ST 47 CodL.yN, .static CodL.yN,
  .code Cmp3.yN Cmp3.yB 6 (some (.array .byte)), .initialized U16, .arrayClass .byte, .methodLink U16 115 Cmp5.yN, .static Cmp5.yN, .code Cmp5.yN Cmp5.yB 7 (some .int), .code CodL.yN CodL.yB 2 (some .byte)]
theorem tab_of {a : Array Value} {s : State} (h : ∀ w ∈ words, w.before a s = true) : New1.tab.before a s = true := by
  have h5 : Cmp5.tab.before a s = true := unparts (wk h (.code Cmp5.yN Cmp5.yB 7 (some .int))) (wks h (.initialized Cmp5.yN.cls :: Cmp5.site))
  have hc : CodL.tab.before a s = true := unparts (wk h (.code CodL.yN CodL.yB 2 (some .byte))) (wks h (.initialized CodL.yN.cls :: CodL.site))
  have q5 : ∀ w ∈ Cmp5.tab :: words, w.before a s = true := fun w hw => (List.mem_cons.mp hw).elim (fun e => e ▸ h5) (h w)
  have h3 : Cmp3.tab.before a s = true := unparts (wk q5 (.code Cmp3.yN Cmp3.yB 6 (some (.array .byte)))) (wks q5 (.initialized Cmp3.yN.cls :: Cmp3.site))
  have q3 : ∀ w ∈ Cmp3.tab :: CodL.tab :: words, w.before a s = true := fun w hw => (List.mem_cons.mp hw).elim (fun e => e ▸ h3) fun hw => (List.mem_cons.mp hw).elim (fun e => e ▸ hc) (h w)
  have h4 : New4.tab.before a s = true := unparts (wk q3 (.code New4.yN New4.yB 6 none)) (wks q3 (.initialized New4.yN.cls :: New4.site))
  have q4 : ∀ w ∈ New4.tab :: words, w.before a s = true := fun w hw => (List.mem_cons.mp hw).elim (fun e => e ▸ h4) (h w)
  exact unparts (wk q4 (.code New1.yN New1.yB 2 none)) (wks q4 (.initialized New1.yN.cls :: New1.site))
/-- the words ride from the start Z to the walk's own state -/
theorem moved {Z s : State} {a0 args : Array Value} (hZ : Z.Warmed39 s.vm) (hw : ∀ d ∈ words, d.before a0 Z = true) : ∀ d ∈ words, d.before args s = true := fun d hd => by
  have q := hw d hd
  have t : ∀ d ∈ words, d = .arrayClass .byte ∨ (d.onTables && d.keepsFace) = true := by decide +kernel
  rcases t d hd with rfl | t
  · exact RoadKit.mvA hZ q
  · exact RoadKit.mv hZ q t
/-- WHAT COMES BACK, over the tables of the start Z: h the heap at the call, h' behind it -/
def Q (Z : State) (x : Addr) (A : Cell) (h : Heap) (v : Option Value) (h' : Heap) (L : List Loc) : Prop := v = none ∧ (∀ y ∈ L, y.base = x) ∧ RoadKit.Keep h h' [x] ∧ h'.size = h.size + 1 ∧ RoadKit.Exa Z h' x ST ∧ RoadKit.Fld Z h' x ST "value" "[B" (.ref h.size) ∧ RoadKit.Fld Z h' x ST "coder" "B" (.int 0) ∧
  (∃ V : Cell, RoadKit.Arr Z h' h.size V .byte ∧ V.vm = .none ∧ Z.vm.findClass "[B" = some V.cls ∧ V.slots.size = A.slots.size ∧ ∀ j, j < A.slots.size → V.slots[j]? = some (.int (lo8 (cv A j)))) ∧
  ∀ (O n d : String) (w : Value), RoadKit.Fld Z h x O n d w → RoadKit.slotOf Z O n d ≠ RoadKit.slotOf Z ST "value" "[B" → RoadKit.slotOf Z O n d ≠ RoadKit.slotOf Z ST "coder" "B" → RoadKit.Fld Z h' x O n d w
/-- **new String(chars) AT A CALL, IN THE ROAD'S FORM**: for specialBack behind newO: x the fresh String, b the char[] with the cell A -/
theorem back {p : Program} {l : Launch} {e : Env} {R : Room} {s : State} {args : Array Value} {below : List Frame} {len W : Nat} {Z : State} {a0 : Array Value} {h : Heap} (hZ : Z.Warmed39 s.vm) (hw : ∀ d ∈ words, d.before a0 Z = true) {kI : Nat} (wi : (Jvm.Cond.instantiable ST kI).before a0 Z = true)
    {x b : Addr} {A : Cell} {z : Int32} {v0 c0 : Value} (E : RoadKit.Exa Z h x ST) (V : RoadKit.Fld Z h x ST "value" "[B" v0) (C : RoadKit.Fld Z h x ST "coder" "B" c0) (K : RoadKit.Arr Z h b A .char) (hty : Typed .char A) (S : RoadKit.Sta Z h ST "COMPACT_STRINGS" "Z" (.int z)) (hz : ¬ z = 0)
    (l0 : 0 < A.slots.size) (l2 : A.slots.size ≤ 536870912) (hp : ∀ i, i < A.slots.size → ¬ 255 < cv A i) (hfr : 4 ≤ R.frames) (hlo : W + 65 ≤ R.locals) :
    Back l R p e below s args New1.yN len W (fun P a => a = #[.ref x, .ref b] ∧ P.U.heap = h ∧ P.cells + 1 ≤ R.cells ∧ P.slots + A.slots.size ≤ R.slots)
      (fun P _ v B => ∃ L, Q Z x A h v B.U.heap L ∧ B.locs = P.locs ++ L ∧ B.cells = P.cells + 1 ∧ B.slots = P.slots + A.slots.size) := by
  intro m meth c P g ig mk a X hg hsize hdg hW hn hp'
  obtain ⟨rfl, rfl, r1, r2⟩ := hp'
  have al : Z.vm.Alike P.U.vm := hZ.alike.trans X.warmed.alike
  obtain ⟨D, cfV, kV, iV, fV, hD, gV, stV, knV, obV, asV, slV⟩ := id V
  obtain ⟨D', cfC, kC, iC, fC, hD', gC, stC, -, -, asC, slC⟩ := id C
  cases hD.symm.trans hD'
  obtain ⟨D2, kD, e1, e2, e3, e4, e5⟩ := id E
  cases hD.symm.trans e1
  obtain ⟨c2, k2, i1, i2, i3, -⟩ := Cond.instantiable_spec wi
  cases e2.symm.trans i1
  cases e3.symm.trans i2
  obtain ⟨kU, u1, u2⟩ := al.2.2 _ _ e3
  have hB : Blank ST x D P.U := ⟨hD, ⟨knV, fun q hq => by rw [hq] at obV; cases obV⟩, by rw [al.findClass]; exact e2, kU, u1, by rw [u2]; exact i3, by rw [u2]; exact e5 i3⟩
  have F1 : Found ST "value" "[B" fV P.U := ⟨SBG.found_only al ⟨cfV, kV, iV, gV⟩, stV⟩
  have F2 : Found ST "coder" "B" fC P.U := ⟨SBG.found_only al ⟨cfC, kC, iC, gC⟩, stC⟩
  have hA : Ch b A P.U := ⟨⟨K.1, State.isArrayOf_alike al K.2.1, K.2.2, by omega⟩, hty⟩
  have hS : StaticIs P.U ST "COMPACT_STRINGS" "Z" (.int z) := by
    obtain ⟨cfS, iS, kS, fS, st, cS, t1, t2, t3, t4, t5, t6, t7⟩ := S
    exact StaticIs.there (s := { Z with heap := P.U.heap }) ⟨cfS, iS, kS, fS, st, cS, t1, t2, t3, t4, t5, (fun q => by rw [q] at t6; cases t6), t7⟩ al rfl
  obtain ⟨v, B, X', ⟨⟨hv, E', V', q1, q2, q3, q4, q5, q6, q7, q8, q9, q10, q11⟩, hl, hc, hs⟩, st⟩ := New1.pays x D fV fC b A z (tab_of (moved hZ hw)) hfr hlo m meth c P g ig mk _ X hg hsize hdg hW hn ⟨r1, r2, rfl, hB, F1, F2, hA, hS, hz, l0, l2, hp⟩
  have al' : Z.vm.Alike B.U.vm := hZ.alike.trans X'.warmed.alike
  have hsz : E'.slots.size = D.slots.size := by
    obtain ⟨-, -, -, kB, w1, w2, w3⟩ := q1
    obtain ⟨kB', y1, y2⟩ := al'.2.2 _ _ e3
    rw [q2.2.1] at w1
    cases w1.symm.trans y1
    rw [w3, e5 i3, y2]
  refine ⟨v, B, X', ⟨_, ⟨hv, ?_, ⟨by omega, fun y cy hy hn' => q10 y cy (by simpa using hn') hy, fun y cy hy => ?_⟩, q11, ⟨E', _, q1.1, by rw [q2.2.1]; exact e2, by rw [q2.2.1]; exact e3, by rw [q2.1]; exact obV, fun _ => by rw [hsz]; exact e5 i3⟩,
    ⟨E', cfV, kV, iV, fV, q1.1, gV, stV, by rw [q2.1]; exact knV, by rw [q2.1]; exact obV, by rw [q2.2.1]; exact asV, q3⟩, ⟨E', cfC, kC, iC, fC, q1.1, gC, stC, by rw [q2.1]; exact knV, by rw [q2.1]; exact obV, by rw [q2.2.1]; exact asC, q4⟩,
    ⟨V', ⟨q5.1, State.isArrayOf_alike al'.symm q5.2.1, q5.2.2.1⟩, q6, by rw [← al'.findClass]; exact q7, q8, fun j hj => by have := q9 j hj; rwa [Nat.zero_add] at this⟩, fun O n d w F n1 n2 => ?_⟩, hl, hc, hs⟩, st⟩
  · intro y hy
    simp only [List.mem_cons, List.not_mem_nil, or_false] at hy
    rcases hy with rfl | rfl <;> rfl
  · by_cases q : y = x
    · subst q
      cases hD.symm.trans hy
      exact ⟨E', q1.1, q2.2.1, q2.1, hsz⟩
    · exact ⟨cy, q10 y cy q hy, rfl, rfl, rfl⟩
  · obtain ⟨D3, cf, k, i, f, g1, g2, g3, g4, g5, g6, g7⟩ := F
    cases hD.symm.trans g1
    simp only [RoadKit.slotOf, g2, gV, gC, Option.map_some, Option.getD_some] at n1 n2
    exact ⟨E', cf, k, i, f, q1.1, g2, g3, by rw [q2.1]; exact g4, by rw [q2.1]; exact g5, by rw [q2.2.1]; exact g6, by rw [q2.2.2 f.slot (by simp [n1, n2])]; exact g7⟩
end StrChars.Road
namespace StrChars.Road
open Jvm Sem ClassFile Op Lib Jvm.Stand Jvm.Free Jvm.Free.XT
/-- WHAT COMES BACK, the byte[] as a list of values -/
def QA (Z : State) (x : Addr) (zn : Int32) (cs : List Int32) (h : Heap) (v : Option Value) (h' : Heap) (L : List Loc) : Prop := v = none ∧ (∀ y ∈ L, y.base = x) ∧ RoadKit.Keep h h' [x] ∧ h'.size = h.size + 1 ∧ RoadKit.Exa Z h' x ST ∧ RoadKit.Fld Z h' x ST "value" "[B" (.ref h.size) ∧ RoadKit.Fld Z h' x ST "coder" "B" (.int 0) ∧
  (∃ kb, Z.vm.findClass "[B" = some kb ∧ RoadKit.Arv Z h' h.size kb .byte zn (cs.map fun c => .int (lo8 c)) (.int 0)) ∧
  ∀ (O n d : String) (w : Value), RoadKit.Fld Z h x O n d w → RoadKit.slotOf Z O n d ≠ RoadKit.slotOf Z ST "value" "[B" → RoadKit.slotOf Z O n d ≠ RoadKit.slotOf Z ST "coder" "B" → RoadKit.Fld Z h' x O n d w
/-- **new String(chars) AT A CALL, THE ARRAYS AS LISTS**: the char[] at b holds cs, not empty, no char above 255 -/
theorem backArv {p : Program} {l : Launch} {e : Env} {R : Room} {s : State} {args : Array Value} {below : List Frame} {len W : Nat} {Z : State} {a0 : Array Value} {h : Heap} (hZ : Z.Warmed39 s.vm) (hw : ∀ d ∈ words, d.before a0 Z = true) {kI : Nat} (wi : (Jvm.Cond.instantiable ST kI).before a0 Z = true)
    {x b : Addr} {k : ClassId} {zn z : Int32} {cs : List Int32} {dv v0 c0 : Value} (E : RoadKit.Exa Z h x ST) (V : RoadKit.Fld Z h x ST "value" "[B" v0) (C : RoadKit.Fld Z h x ST "coder" "B" c0) (K : RoadKit.Arv Z h b k .char zn (cs.map Value.int) dv) (S : RoadKit.Sta Z h ST "COMPACT_STRINGS" "Z" (.int z)) (hz : ¬ z = 0)
    (hlen : zn.toNatClampNeg = cs.length) (h0 : 0 < cs.length) (hbig : cs.length ≤ 536870912) (hall : ∀ c ∈ cs, ¬ 255 < c) (hfr : 4 ≤ R.frames) (hlo : W + 65 ≤ R.locals) :
    Back l R p e below s args New1.yN len W (fun P a => a = #[.ref x, .ref b] ∧ P.U.heap = h ∧ P.cells + 1 ≤ R.cells ∧ P.slots + cs.length ≤ R.slots)
      (fun P _ v B => ∃ L, QA Z x zn cs h v B.U.heap L ∧ B.locs = P.locs ++ L ∧ B.cells = P.cells + 1 ∧ B.slots = P.slots + cs.length) := by
  obtain ⟨A, K1, K2, K3, K4, K5, K6⟩ := K
  have e : A.slots.size = cs.length := K3.trans hlen
  have hat : ∀ (i : Nat) (hi : i < cs.length), A.slots[i]? = some (.int cs[i]) := fun i hi => by rw [K5 i (by omega)]; simp [List.getD_eq_getElem?_getD, hi]
  have hcv : ∀ (i : Nat) (hi : i < cs.length), cv A i = cs[i] := fun i hi => by unfold cv; rw [hat i hi]
  have hty : Typed .char A := fun i v hv => by
    have hi : i < A.slots.size := (Array.getElem?_eq_some_iff.mp hv).1
    have q := K5 i hi
    rw [hv] at q
    rw [Option.some.inj q]
    exact K6 i hi
  refine Back.mono (back hZ hw wi E V C K1 hty S hz (by omega) (by omega) (fun i hi => by rw [hcv i (by omega)]; exact hall _ (List.getElem_mem _)) hfr hlo) (fun P a hp => ⟨hp.1, hp.2.1, hp.2.2.1, by rw [e]; exact hp.2.2.2⟩) (fun P a v B hp hq => ?_)
  obtain ⟨L, ⟨q1, q2, q3, q4, q5, q6, q7, ⟨V', v1, v2, v3, v4, v5⟩, q9⟩, hl, hc, hs⟩ := hq
  refine ⟨L, ⟨q1, q2, q3, q4, q5, q6, q7, ⟨V'.cls, v3, V', v1, rfl, by rw [v4, e, hlen], K4, fun i hi => ?_, fun i hi => ?_⟩, q9⟩, hl, hc, by rw [hs, e]⟩
  · have hi' : i < cs.length := by omega
    rw [v5 i (by omega), hcv i hi']; simp [List.getD_eq_getElem?_getD, hi']
  · have hi' : i < cs.length := by omega
    simp only [List.getD_eq_getElem?_getD, List.getElem?_map, List.getElem?_eq_getElem hi', Option.map_some, Option.getD_some]
    exact fits_lo8 _
end StrChars.Road
namespace StrChars.Road
open Jvm Sem ClassFile Op Lib Jvm.Stand Jvm.Free Jvm.Free.XT
/-- WHAT COMES BACK, in the writer's own shape -/
def QV (Z : State) (x : Addr) (N : Int32) (bs : List Int32) (h : Heap) (n0 : Nat) (v : Option Value) (h' : Heap) (L : List Loc) : Prop := v = none ∧ RoadKit.Fr n0 L ∧ RoadKit.Keep h h' [x] ∧ RoadKit.Exa Z h' x ST ∧ RoadKit.Fld Z h' x ST "coder" "B" (.int 0) ∧
  ∃ (t : Addr) (kb : ClassId), n0 ≤ t ∧ h.size ≤ t ∧ ¬ t = x ∧ RoadKit.Fld Z h' x ST "value" "[B" (.ref t) ∧ RoadKit.Arv Z h' t kb .byte N (bs.map Value.int) (.int 0)
/-- **new String(chars) AT A CALL, FOR THE WRITER**: a char[] of n known ints, each 0 to 255 -/
theorem backV {p : Program} {l : Launch} {e : Env} {R : Room} {s : State} {args : Array Value} {below : List Frame} {len W : Nat} {Z : State} {a0 : Array Value} {h : Heap} (hZ : Z.Warmed39 s.vm) (hw : ∀ d ∈ words, d.before a0 Z = true) {kI : Nat} (wi : (Jvm.Cond.instantiable ST kI).before a0 Z = true)
    {x b : Addr} {kC : ClassId} {cs bs : List Int32} {d v0 c0 : Value} {z N : Int32} {n n0 : Nat} (hx0 : n0 ≤ x) (hh0 : n0 ≤ h.size) (E : RoadKit.Exa Z h x ST) (V : RoadKit.Fld Z h x ST "value" "[B" v0) (C : RoadKit.Fld Z h x ST "coder" "B" c0) (K : RoadKit.Arv Z h b kC .char N (cs.map Value.int) d) (S : RoadKit.Sta Z h ST "COMPACT_STRINGS" "Z" (.int z)) (hz : ¬ z = 0)
    (hn : cs.length = n) (hN : N = Int32.ofNat n) (l0 : 0 < n) (l2 : n ≤ 4000) (hp : ∀ c ∈ cs, ¬ c < 0 ∧ ¬ (255 : Int32) < c) (hb : bs = cs.map (fun c => c.toInt8.toInt32)) (hfr : 4 ≤ R.frames) (hlo : W + 65 ≤ R.locals) :
    Back l R p e below s args (⟨"java/lang/String", "<init>", "([C)V"⟩ : MethodName) len W (fun P a => a = #[.ref x, .ref b] ∧ P.U.heap = h ∧ P.cells + 1 ≤ R.cells ∧ P.slots + n ≤ R.slots)
      (fun P _ v B => ∃ L, QV Z x N bs h n0 v B.U.heap L ∧ B.locs = P.locs ++ L ∧ B.cells = P.cells + 1 ∧ B.slots = P.slots + n) := by
  subst hn hN hb
  refine Back.mono (backArv hZ hw wi E V C K S hz (n32 (by omega)) l0 (by omega) (fun c hc => (hp c hc).2) hfr hlo) (fun P a hp => hp) (fun P a v B hp hq => ?_)
  obtain ⟨L, ⟨q1, q2, q3, q4, q5, q6, q7, ⟨kb, v1, v2⟩, q9⟩, hl, hc, hs⟩ := hq
  exact ⟨L, ⟨q1, fun y hy => by rw [q2 y hy]; exact hx0, q3, q5, q7, h.size, kb, hh0, Nat.le_refl _, Nat.ne_of_gt E.lt, q6, by rw [List.map_map]; exact v2⟩, hl, hc, hs⟩
end StrChars.Road
end Jvm.Pilot.@@N@@
namespace Jvm.Pilot.@@N@@
open Jvm.Ow (Go Wd)
open Jvm Jvm.ClassFile Sem Op Lib Jvm.Free Jvm.Stand Jvm.LawKit Jvm.RoadKit Bundle Jvm.Pilot.@@N@@.Jvm.D
theorem ww {a0 : Array Value} {Z : State} (hw : ∀ d ∈ tables_1, d.before a0 Z = true) (k : Nat) {d : Jvm.Cond} (h : tables_1[k]? = some d) : d.before a0 Z = true := hw d (List.mem_of_getElem? h)
theorem pd0 : parseMethodDescriptor "()V" = some ⟨[], none⟩ := by decide +kernel
theorem pd1 : parseMethodDescriptor "([CIILjava/lang/Void;)V" = some ⟨[(.array .char), .int, .int, (.object "java/lang/Void")], none⟩ := by decide +kernel
theorem pd2 : parseMethodDescriptor "([C)V" = some ⟨[(.array .char)], none⟩ := by decide +kernel
theorem pd3 : parseMethodDescriptor "()B" = some ⟨[], (some .byte)⟩ := by decide +kernel
theorem pd4 : parseMethodDescriptor "(II)V" = some ⟨[.int, .int], none⟩ := by decide +kernel
theorem pd5 : parseMethodDescriptor "(II)I" = some ⟨[.int, .int], (some .int)⟩ := by decide +kernel
theorem pd6 : parseMethodDescriptor "([BII)[B" = some ⟨[(.array .byte), .int, .int], (some (.array .byte))⟩ := by decide +kernel
theorem pd7 : parseMethodDescriptor "(I)V" = some ⟨[.int], none⟩ := by decide +kernel
theorem pd8 : parseMethodDescriptor "(III)I" = some ⟨[.int, .int, .int], (some .int)⟩ := by decide +kernel
theorem pd9 : parseMethodDescriptor "(I)I" = some ⟨[.int], (some .int)⟩ := by decide +kernel
theorem pd10 : parseMethodDescriptor "([BI)[B" = some ⟨[(.array .byte), .int], (some (.array .byte))⟩ := by decide +kernel
theorem pd11 : parseMethodDescriptor "(Ljava/lang/String;)V" = some ⟨[(.object "java/lang/String")], none⟩ := by decide +kernel
theorem pd12 : parseMethodDescriptor "([BIB)V" = some ⟨[(.array .byte), .int, .byte], none⟩ := by decide +kernel
theorem pd13 : parseMethodDescriptor "()I" = some ⟨[], (some .int)⟩ := by decide +kernel
theorem pd14 : parseMethodDescriptor "(ILjava/lang/String;)V" = some ⟨[.int, (.object "java/lang/String")], none⟩ := by decide +kernel
theorem pd15 : parseMethodDescriptor "(Ljava/lang/String;)Ljava/lang/AbstractStringBuilder;" = some ⟨[(.object "java/lang/String")], (some (.object "java/lang/AbstractStringBuilder"))⟩ := by decide +kernel
theorem pd16 : parseMethodDescriptor "()[B" = some ⟨[], (some (.array .byte))⟩ := by decide +kernel
theorem pd17 : parseMethodDescriptor "()Z" = some ⟨[], (some .boolean)⟩ := by decide +kernel
theorem pd18 : parseMethodDescriptor "(Ljava/lang/AbstractStringBuilder;Ljava/lang/Void;)V" = some ⟨[(.object "java/lang/AbstractStringBuilder"), (.object "java/lang/Void")], none⟩ := by decide +kernel
theorem pd19 : parseMethodDescriptor "(Ljava/lang/StringBuilder;)V" = some ⟨[(.object "java/lang/StringBuilder")], none⟩ := by decide +kernel
theorem pd20 : parseMethodDescriptor "()Ljava/lang/Throwable;" = some ⟨[], (some (.object "java/lang/Throwable"))⟩ := by decide +kernel
theorem pd21 : parseMethodDescriptor "(Ljava/lang/String;)Ljava/lang/StringBuilder;" = some ⟨[(.object "java/lang/String")], (some (.object "java/lang/StringBuilder"))⟩ := by decide +kernel
theorem pd22 : parseMethodDescriptor "()Ljava/lang/String;" = some ⟨[], (some (.object "java/lang/String"))⟩ := by decide +kernel
theorem pd23 : parseMethodDescriptor "([B[B)Z" = some ⟨[(.array .byte), (.array .byte)], (some .boolean)⟩ := by decide +kernel
theorem pd24 : parseMethodDescriptor "(Ljava/lang/String;Ljava/lang/String;)Lcom/example/pricewright/pricewright/engine/UnpriceableException;" = some ⟨[(.object "java/lang/String"), (.object "java/lang/String")], (some (.object "com/example/pricewright/pricewright/engine/UnpriceableException"))⟩ := by decide +kernel
theorem pd25 : parseMethodDescriptor "(Ljava/lang/Object;)Z" = some ⟨[(.object "java/lang/Object")], (some .boolean)⟩ := by decide +kernel
theorem pn0 : plainName "java/lang/String" = true := by first | (simp [plainName, overriddenIn]; done) | decide +kernel
theorem pn1 : plainName "java/util/Arrays" = true := by first | (simp [plainName, overriddenIn]; done) | decide +kernel
theorem pn2 : plainName "java/lang/AbstractStringBuilder" = true := by first | (simp [plainName, overriddenIn]; done) | decide +kernel
theorem pn3 : plainName "java/lang/StringBuilder" = true := by first | (simp [plainName, overriddenIn]; done) | decide +kernel
theorem pn4 : plainName "jdk/internal/util/ArraysSupport" = true := by first | (simp [plainName, overriddenIn]; done) | decide +kernel
theorem pn5 : plainName "java/lang/Throwable" = true := by first | (simp [plainName, overriddenIn]; done) | decide +kernel
theorem pn6 : plainName "java/lang/Exception" = true := by first | (simp [plainName, overriddenIn]; done) | decide +kernel
theorem pn7 : plainName "java/lang/RuntimeException" = true := by first | (simp [plainName, overriddenIn]; done) | decide +kernel
theorem pn8 : plainName "com/example/pricewright/pricewright/engine/UnpriceableException" = true := by first | (simp [plainName, overriddenIn]; done) | decide +kernel
theorem pn9 : plainName "java/lang/StringLatin1" = true := by first | (simp [plainName, overriddenIn]; done) | decide +kernel
theorem pn10 : plainName "com/example/pricewright/pricewright/engine/UnpriceableExceptionOfSchemaPinLaw" = true := by first | (simp [plainName, overriddenIn]; done) | decide +kernel
abbrev EL : List (String × Nat) := consts_1
theorem d1_0 : decode jdk_42_method_149_code 0 = .ok (.aload_n 0, 1) := by decide +kernel
theorem d1_1 : decode jdk_42_method_149_code 1 = .ok (.invokespecial 1, 3) := by decide +kernel
theorem d1_4 : decode jdk_42_method_149_code 4 = .ok (.iload_n 3, 1) := by decide +kernel
theorem d1_5 : decode jdk_42_method_149_code 5 = .ok (.ifCond .ne 22, 3) := by decide +kernel
theorem d1_8 : decode jdk_42_method_149_code 8 = .ok (.aload_n 0, 1) := by decide +kernel
theorem d1_9 : decode jdk_42_method_149_code 9 = .ok (.ldc 7, 2) := by decide +kernel
theorem d1_11 : decode jdk_42_method_149_code 11 = .ok (.getfield 9, 3) := by decide +kernel
theorem d1_14 : decode jdk_42_method_149_code 14 = .ok (.putfield 9, 3) := by decide +kernel
theorem d1_17 : decode jdk_42_method_149_code 17 = .ok (.aload_n 0, 1) := by decide +kernel
theorem d1_18 : decode jdk_42_method_149_code 18 = .ok (.ldc 7, 2) := by decide +kernel
theorem d1_20 : decode jdk_42_method_149_code 20 = .ok (.getfield 15, 3) := by decide +kernel
theorem d1_23 : decode jdk_42_method_149_code 23 = .ok (.putfield 15, 3) := by decide +kernel
theorem d1_26 : decode jdk_42_method_149_code 26 = .ok (.return_, 1) := by decide +kernel
theorem d1_27 : decode jdk_42_method_149_code 27 = .ok (.getstatic 38, 3) := by decide +kernel
theorem d1_30 : decode jdk_42_method_149_code 30 = .ok (.ifCond .eq 28, 3) := by decide +kernel
theorem d1_33 : decode jdk_42_method_149_code 33 = .ok (.aload_n 1, 1) := by decide +kernel
theorem d1_34 : decode jdk_42_method_149_code 34 = .ok (.iload_n 2, 1) := by decide +kernel
theorem d1_35 : decode jdk_42_method_149_code 35 = .ok (.iload_n 3, 1) := by decide +kernel
theorem d1_36 : decode jdk_42_method_149_code 36 = .ok (.invokestatic 177, 3) := by decide +kernel
theorem d1_39 : decode jdk_42_method_149_code 39 = .ok (.astore 5, 2) := by decide +kernel
theorem d1_41 : decode jdk_42_method_149_code 41 = .ok (.aload_n 0, 1) := by decide +kernel
theorem d1_42 : decode jdk_42_method_149_code 42 = .ok (.aload 5, 2) := by decide +kernel
theorem d1_44 : decode jdk_42_method_149_code 44 = .ok (.iload_n 3, 1) := by decide +kernel
theorem d1_45 : decode jdk_42_method_149_code 45 = .ok (.invokestatic 47, 3) := by decide +kernel
theorem d1_48 : decode jdk_42_method_149_code 48 = .ok (.putfield 15, 3) := by decide +kernel
theorem d1_51 : decode jdk_42_method_149_code 51 = .ok (.aload_n 0, 1) := by decide +kernel
theorem d1_52 : decode jdk_42_method_149_code 52 = .ok (.aload 5, 2) := by decide +kernel
theorem d1_54 : decode jdk_42_method_149_code 54 = .ok (.putfield 9, 3) := by decide +kernel
theorem d1_57 : decode jdk_42_method_149_code 57 = .ok (.return_, 1) := by decide +kernel
theorem d1_58 : decode jdk_42_method_149_code 58 = .ok (.aload_n 0, 1) := by decide +kernel
theorem d1_59 : decode jdk_42_method_149_code 59 = .ok (.iconst 1, 1) := by decide +kernel
theorem d1_60 : decode jdk_42_method_149_code 60 = .ok (.putfield 15, 3) := by decide +kernel
theorem d1_63 : decode jdk_42_method_149_code 63 = .ok (.aload_n 0, 1) := by decide +kernel
theorem d1_64 : decode jdk_42_method_149_code 64 = .ok (.aload_n 1, 1) := by decide +kernel
theorem d1_65 : decode jdk_42_method_149_code 65 = .ok (.iload_n 2, 1) := by decide +kernel
theorem d1_66 : decode jdk_42_method_149_code 66 = .ok (.iload_n 3, 1) := by decide +kernel
theorem d1_67 : decode jdk_42_method_149_code 67 = .ok (.invokestatic 180, 3) := by decide +kernel
theorem d1_70 : decode jdk_42_method_149_code 70 = .ok (.putfield 9, 3) := by decide +kernel
theorem d1_73 : decode jdk_42_method_149_code 73 = .ok (.return_, 1) := by decide +kernel
set_option maxRecDepth 65536 in
set_option maxHeartbeats 4000000 in
theorem c_new4e (l : Launch) (Z : State) (a0 : Array Value) (hw : ∀ d ∈ tables_1, d.before a0 Z = true) (hEL : EW Z a0 EL) (h0 : Heap) (x b : Addr) (v0 c0 : Value) (E : Exa Z h0 x "java/lang/String") (V : Fld Z h0 x "java/lang/String" "value" "[B" v0) (C0 : Fld Z h0 x "java/lang/String" "coder" "B" c0) : Ow.PayW l Z EL [x] (⟨"java/lang/String", "<init>", "([CIILjava/lang/Void;)V"⟩ : MethodName) jdk_42_method_149_code 6 none ({ frames := 1, cells := 4, slots := 8, locals := 40 } : Room) #[(.ref x), (.ref b), (.int 0), (.int 0), (.null)] h0 (fun v h L => v = none ∧ Ow.Eff h0 h [x] L ∧ ∃ t kb, Ow.Str Z h x t kb []) := by
  refine Ow.PayW.of (Ls := #[.val (.ref x), .val (.ref b), .val (.int 0), .val (.int 0), .val (.null), .unset]) (plainFor_of_name pn0) (fun m => by first | rfl | (simp [entryFrame, mkF, argsToLocals, Value.category]; done)) ?_
  intro p e s m below meth c T vm0 hx hby hml hown hnm hme hret hlk X eT D hsf
  have wS : ∀ a ∈ Bundle.stringAtoms, a.before a0 Z = true := fun d hd => hw d ((by decide +kernel : ∀ d ∈ Bundle.stringAtoms, d ∈ tables_1) d hd)
  have hni := (name_of_methodNamed hnm hme).1
  have Sx : Safe Z EL vm0 h0 x := hsf x (by simp)
  have hlt := E.lt
  have hsl : RoadKit.slotOf Z "java/lang/String" "coder" "B" ≠ RoadKit.slotOf Z "java/lang/String" "value" "[B" := slot_ne (a0 := a0) (C := "java/lang/String") (Or.inr (ww hw 27 rfl)) (Or.inr (ww hw 29 rfl)) (by decide) (t := .byte) (t' := .array .byte) (by decide) (by decide)
  refine Ow.aloadN X hx (pc := 0) (hb hby d1_0) rfl rfl ?_
  refine Ow.objinit X hx D.hZ hown (ww hw 11 rfl) (ww hw 12 rfl) (ww hw 13 rfl) eT (by rw [hml]; rfl) (pc := 1) (hb hby d1_1) rfl rfl ?_
  intro T X eT
  refine Ow.iloadN X hx (pc := 4) (hb hby d1_4) rfl ?_
  refine Ow.if_ne X hx (pc := 5) (pc' := 27) (hb hby d1_5) (by decide) (by decide) (fun q => absurd rfl q) (fun h5 => ?_)
  refine Ow.aloadN X hx (pc := 8) (hb hby d1_8) rfl rfl ?_
  refine Ow.ldcS X hx eT D hEL hown (ww hw 240 rfl) wS (by decide) (vs := []) (z := 0) (by decide) (by decide) (by decide) (pc := 9) (hb hby d1_9) 0 (by decide) (by decide) (by decide) (by decide) ?_
  intro vm1 a1 T h1 b1 k1 X eT E1 D hown C1 A1 F1c F1v V1 ne1
  have Sx1 := C1.safe hlt Sx
  have ne := ne1 x Sx1
  refine Ow.getfield X hx D.hZ hown (ww hw 28 rfl) Via.refl eT F1v (pc := 11) (hb hby d1_11) ?_
  intro T X eT
  refine Ow.putfield X hx D.hZ hown (ww hw 28 rfl) Via.refl eT (V.ext E1) (E.ext E1) (Or.inr ⟨(ww hw 29 rfl), rfl, hni⟩) (ww hw 1 rfl) (ty := .array .byte) (by decide) rfl rfl (pc := 14) (hb hby d1_14) ?_
  intro T h2 X eT W2
  have Sx2 := D.safeWr W2 Sx1 Sx1
  have D := D.wr W2 Sx1
  refine Ow.aloadN X hx (pc := 17) (hb hby d1_17) rfl rfl ?_
  refine Ow.ldcS X hx eT D hEL hown (ww hw 240 rfl) wS (by decide) (vs := []) (z := 0) (by decide) (by decide) (by decide) (pc := 18) (hb hby d1_18) 0 (by decide) (by decide) (by decide) (by decide) ?_
  intro vm3 a3 T h3 b3 k3 X eT E3 D hown C3 A3 F3c F3v V3 ne3
  have Sx3 := C3.safe (by rw [W2.size]; exact Nat.lt_of_lt_of_le hlt E1.1) Sx2
  refine Ow.getfield X hx D.hZ hown (ww hw 26 rfl) Via.refl eT F3c (pc := 20) (hb hby d1_20) ?_
  intro T X eT
  refine Ow.putfield X hx D.hZ hown (ww hw 26 rfl) Via.refl eT (((C0.ext E1).other W2 (Or.inr hsl)).ext E3) (((E.ext E1).wr W2).ext E3) (Or.inr ⟨(ww hw 27 rfl), rfl, hni⟩) (ww hw 1 rfl) (ty := .byte) (by decide) rfl rfl (pc := 23) (hb hby d1_23) ?_
  intro T h4 X eT W4
  have D := D.wr W4 Sx3
  refine Ow.vreturnW X hx eT D hEL hlk hret (hb hby d1_26) ?_ (by decide) (by decide)
  rw [eT]
  refine ⟨rfl, (((((Ow.Eff.refl h0 [x]).ext E1).wr W2 (Or.inl (by simp))).ext E3).wr W4 (Or.inl (by simp))), b1, k1, ⟨(((E.ext E1).wr W2).ext E3).wr W4, (((C0.ext E1).other W2 (Or.inr hsl)).ext E3).same W4, (((V.ext E1).same W2).ext E3).other W4 (Or.inr (Ne.symm hsl)), ?_⟩⟩
  exact (((Ow.AL.of_arv V1 rfl).other W2 (Ne.symm ne.2)).ext E3).other W4 (Ne.symm ne.2)
theorem d0_0 : decode jdk_42_method_3_code 0 = .ok (.aload_n 0, 1) := by decide +kernel
theorem d0_1 : decode jdk_42_method_3_code 1 = .ok (.aload_n 1, 1) := by decide +kernel
theorem d0_2 : decode jdk_42_method_3_code 2 = .ok (.iconst 0, 1) := by decide +kernel
theorem d0_3 : decode jdk_42_method_3_code 3 = .ok (.aload_n 1, 1) := by decide +kernel
theorem d0_4 : decode jdk_42_method_3_code 4 = .ok (.arraylength, 1) := by decide +kernel
theorem d0_5 : decode jdk_42_method_3_code 5 = .ok (.aconst_null, 1) := by decide +kernel
theorem d0_6 : decode jdk_42_method_3_code 6 = .ok (.invokespecial 27, 3) := by decide +kernel
theorem d0_9 : decode jdk_42_method_3_code 9 = .ok (.return_, 1) := by decide +kernel
set_option maxRecDepth 65536 in
set_option maxHeartbeats 4000000 in
theorem c_new1e (l : Launch) (Z : State) (a0 : Array Value) (hw : ∀ d ∈ tables_1, d.before a0 Z = true) (hEL : EW Z a0 EL) (h0 : Heap) (x b : Addr) (v0 c0 : Value) (E : Exa Z h0 x "java/lang/String") (V : Fld Z h0 x "java/lang/String" "value" "[B" v0) (C0 : Fld Z h0 x "java/lang/String" "coder" "B" c0) (kc : ClassId) (A : Ow.AL Z h0 b kc .char []) : Ow.PayW l Z EL [x] (⟨"java/lang/String", "<init>", "([C)V"⟩ : MethodName) jdk_42_method_3_code 2 none ({ frames := 2, cells := 4, slots := 8, locals := 60 } : Room) #[(.ref x), (.ref b)] h0 (fun v h L => v = none ∧ Ow.Eff h0 h [x] L ∧ ∃ t kb, Ow.Str Z h x t kb []) := by
  refine Ow.PayW.of (Ls := #[.val (.ref x), .val (.ref b)]) (plainFor_of_name pn0) (fun m => by first | rfl | (simp [entryFrame, mkF, argsToLocals, Value.category]; done)) ?_
  intro p e s m below meth c T vm0 hx hby hml hown hnm hme hret hlk X eT D hsf
  refine Ow.aloadN X hx (pc := 0) (hb hby d0_0) rfl rfl ?_
  refine Ow.aloadN X hx (pc := 1) (hb hby d0_1) rfl rfl ?_
  refine Ow.iconst X hx (pc := 2) (0) (hb hby d0_2) (by decide) ?_
  refine Ow.aloadN X hx (pc := 3) (hb hby d0_3) rfl rfl ?_
  refine Ow.lengthL X hx D.hZ eT A 0 rfl (pc := 4) (hb hby d0_4) ?_
  refine Ow.aconst_null X hx (pc := 5) (hb hby d0_5) ?_
  refine Ow.callIW X hx (c_new4e l Z a0 hw hEL h0 x b v0 c0 E V C0) eT D hEL (fun y hy => by cases List.mem_singleton.mp hy; exact ⟨E.lt, hsf _ (by simp)⟩) rfl hown (ww hw 7 rfl) (ww hw 8 rfl) (ww hw 2 rfl) (ww hw 10 rfl) (by decide) pd1 (by rw [hml]; rfl) (argsL := [_, _, _, _]) rfl rfl rfl (pc := 6) (hb hby d0_6) rfl rfl (by decide) (by decide) ?_
  rintro _ vm1 T L X ⟨rfl, F, t, kb, St⟩ D hown C1
  dsimp only [Option.toList_some, Option.toList_none, List.cons_append, List.nil_append]
  exact Ow.vreturnW X hx rfl D hEL hlk hret (hb hby d0_9) ⟨rfl, F, t, kb, St⟩ (by decide) (by decide)
theorem own_ch8 : ∀ n : Fin 256, fits .char (.int (Int32.ofNat n.val)) = true ∧ ¬ (255 : Int32) < Int32.ofNat n.val ∧ nar .char (Int32.ofNat n.val) = Int32.ofNat n.val ∧ (Int32.ofNat n.val).toUInt32.toUInt16.toUInt32.toInt32 = Int32.ofNat n.val := by decide +kernel
/-- new String(cs), cs not empty, each a Latin-1 char: as a step -/
theorem strLat {p : Program} {l : Launch} {e : Env} {R : Room} {s : State} {m : MethodId} {args : Array Value} {below : List Frame} {meth : Method} {c : Code} {T : State} {locs : List Loc} {cells slots : Nat} {G : Outcome → State → Prop} {pc : Nat} {Ls : Array Slot} {rest : List Value} {Z : State} {a0 : Array Value} {h : Heap}
    (X : Stand p l e R s m args below meth c T locs cells slots) (hx : p.tables.exec = Jvm.exec) (hZ : Z.Warmed39 s.vm) (hw : ∀ d ∈ tables_1, d.before a0 Z = true) (eT : T.heap = h) {own : String} {index : Nat} (hown : s.vm.findClass own = some m.cls) (wl : (Cond.methodLink own index (⟨"java/lang/String", "<init>", "([C)V"⟩ : MethodName)).before a0 Z = true)
    {x b : Addr} {kc : ClassId} {cs : List Int32} {v0 c0 : Value} {z : Int32} (E : Exa Z h x "java/lang/String") (V : Fld Z h x "java/lang/String" "value" "[B" v0) (C0 : Fld Z h x "java/lang/String" "coder" "B" c0) (A : Ow.AL Z h b kc .char (cs.map Value.int)) (S : Sta Z h "java/lang/String" "COMPACT_STRINGS" "Z" (.int z)) (hz : ¬ z = 0) (n : Nat) (hn : cs.length = n) (h0 : 0 < n) (hbig : n ≤ 4000) (hall : ∀ c ∈ cs, ∃ k : Fin 256, c = Int32.ofNat k.val) (hsz : Ls.size = c.maxLocals)
    (hd : decode c.code pc = .ok (.invokespecial index, 3)) (hf : (4 : Nat).ble R.frames = true) (hlo : ((rest.map fun v => v.category).sum + 65).ble R.locals = true) (hce : cells + 1 ≤ R.cells) (hsl : slots + n ≤ R.slots)
    (K : ∀ (T' : State) (L : List Loc) (kb : ClassId), Stand p l e R s m args below meth c T' (locs ++ L) (cells + 1) (slots + n) → Ow.Eff h T'.heap [x] L → Ow.Str Z T'.heap x h.size kb (cs.map fun c => c.toInt8.toInt32) → Go p.tables e below G (T'.setTop (mkF m (pc + 3) Ls rest))) :
    Go p.tables e below G (T.setTop (mkF m pc Ls (.ref b :: .ref x :: rest))) := by
  subst hn
  have hws : ∀ d ∈ StrChars.Road.words, d.before a0 Z = true := fun d hd => hw d ((by decide +kernel : ∀ d ∈ StrChars.Road.words, d ∈ tables_1) d hd)
  have hb31 : cs.length < 2147483648 := by omega
  refine Ow.callIB X hx hZ (StrChars.Road.backArv (kI := 4) hZ hws (ww hw 1 rfl) E V C0 (A.arv (z := Int32.ofNat cs.length) (dv := .int 0) (Ow.n_nn hb31) (by rw [Ow.n_cl hb31, List.length_map]) (fun v hv => ?_)) S hz (Ow.n_cl hb31) h0 (by omega) (fun c hc => ?_) (Nat.le_of_ble_eq_true hf) (Nat.le_of_ble_eq_true hlo)) eT rfl hown wl (ww hw 5 rfl) (ww hw 6 rfl) (by decide) pd2 hsz (a := x) (argsL := [.ref b]) rfl rfl rfl hd hce hsl ?_
  · obtain ⟨c, hc, rfl⟩ := List.mem_map.mp hv
    obtain ⟨k, rfl⟩ := hall c hc
    exact (own_ch8 k).1
  · obtain ⟨k, rfl⟩ := hall c hc
    exact (own_ch8 k).2.1
  · rintro _ T' L X' ⟨rfl, q2, q3, q4, q5, q6, q7, ⟨kb, -, q8⟩, -⟩
    refine K T' L kb X' ⟨q3, fun y hy => Or.inl (by rw [q2 y hy]; simp)⟩ ⟨q5, q7, q6, ?_⟩
    have q9 := Ow.AL.of_arv q8 (by rw [Ow.n_cl hb31, List.length_map])
    rw [List.map_map]; exact q9
theorem own_mask8 (x : Int32) : ∃ n : Fin 256, (x &&& (255 : Int32)) = Int32.ofNat n.val := by
  refine ⟨⟨(x &&& 255).toBitVec.toNat, ?_⟩, ?_⟩
  · simp only [Int32.toBitVec_and, BitVec.toNat_and]
    exact Nat.lt_of_le_of_lt Nat.and_le_right (by decide)
  · apply Int32.toBitVec_inj.mp
    show _ = BitVec.ofNat 32 _
    rw [BitVec.ofNat_toNat]; simp
theorem own_sub {i j : Nat} (h : i ≤ j) : Int32.ofNat j - Int32.ofNat i = Int32.ofNat (j - i) := by
  have q := Int32.ofNat_add i (j - i)
  rw [Nat.add_sub_cancel' h] at q
  rw [q, Int32.add_comm, Int32.add_sub_cancel]
theorem own_neAL {Z : State} {a0 : Array Value} {h : Heap} {x b : Addr} {C : String} {k : ClassId} {ty : FieldType} {vs : List Value} {n : Nat} (E : Exa Z h x C) (F : Ow.AL Z h b k ty vs) (w : (Cond.instantiable C n).before a0 Z = true) : x ≠ b := fun q => by
  subst q
  obtain ⟨c1, k1, e1, f1, g1, -⟩ := E
  obtain ⟨c2, ⟨e2, hA, -⟩, -⟩ := F
  cases e1.symm.trans e2
  simp only [Cond.before, Cond.holds, Cond.value, f1, Option.bind_some, g1, Option.map_some] at w
  have ho : k1.kind = .ordinary := by
    simp only [beq_iff_eq, Option.some.injEq, Bool.and_eq_true, decide_eq_true_eq] at w; exact w.1.1.1
  obtain ⟨-, kk, hk, comp, hkind⟩ := hA
  rw [g1] at hk; cases hk; rw [ho] at hkind; cases hkind
theorem d12_0 : decode jdk_42_method_152_code 0 = .ok (.getstatic 38, 3) := by decide +kernel
theorem d12_3 : decode jdk_42_method_152_code 3 = .ok (.ifCond .eq 10, 3) := by decide +kernel
theorem d12_6 : decode jdk_42_method_152_code 6 = .ok (.aload_n 0, 1) := by decide +kernel
theorem d12_7 : decode jdk_42_method_152_code 7 = .ok (.getfield 15, 3) := by decide +kernel
theorem d12_10 : decode jdk_42_method_152_code 10 = .ok (.goto 4, 3) := by decide +kernel
theorem d12_13 : decode jdk_42_method_152_code 13 = .ok (.iconst 1, 1) := by decide +kernel
theorem d12_14 : decode jdk_42_method_152_code 14 = .ok (.ireturn, 1) := by decide +kernel
set_option maxRecDepth 65536 in
set_option maxHeartbeats 4000000 in
theorem c_coder (l : Launch) (Z : State) (a0 : Array Value) (hw : ∀ d ∈ tables_1, d.before a0 Z = true) (h0 : Heap) (z : Int32) (x : Addr) (S : Sta Z h0 "java/lang/String" "COMPACT_STRINGS" "Z" (.int z)) (hz : ¬ z = 0) (C0 : Fld Z h0 x "java/lang/String" "coder" "B" (.int 0)) : Ow.Pay l Z (⟨"java/lang/String", "coder", "()B"⟩ : MethodName) jdk_42_method_152_code 1 (some .byte) ({ frames := 0, cells := 0, slots := 0, locals := 0 } : Room) #[(.ref x)] h0 (fun v h L => v = some (.int 0) ∧ h = h0 ∧ L = []) := by
  refine Ow.Pay.of (Ls := #[.val (.ref x)]) (plainFor_of_name pn0) (fun m => by first | rfl | (simp [entryFrame, mkF, argsToLocals, Value.category]; done)) ?_
  intro p e s m below meth c T hx hby hml hown hnm hme hZ hret hlk X eT
  refine Ow.getstatic X hx hZ hown (ww hw 14 rfl) Via.refl eT S (pc := 0) (hb hby d12_0) ?_   -- "java/lang/String" "COMPACT_STRINGS" "Z"
  intro T X eT
  refine Ow.if_eq X hx (pc := 3) (pc' := 13) (hb hby d12_3) (by decide) (by decide) (fun q => absurd q hz) (fun h3 => ?_)
  refine Ow.aloadN X hx (pc := 6) (hb hby d12_6) rfl rfl ?_
  refine Ow.getfield X hx hZ hown (ww hw 26 rfl) Via.refl eT C0 (pc := 7) (hb hby d12_7) ?_   -- "java/lang/String" "coder" "B"
  intro T X eT
  refine Ow.goto X hx (pc := 10) (pc' := 14) (hb hby d12_10) (by decide) (by decide) ?_
  exact Ow.nreturn X hx hlk hret (Or.inr (Or.inl rfl)) (hb hby d12_14) ⟨rfl, eT, rfl⟩ (by decide) (by decide)
theorem d11_0 : decode jdk_42_method_54_code 0 = .ok (.aload_n 0, 1) := by decide +kernel
theorem d11_1 : decode jdk_42_method_54_code 1 = .ok (.getfield 9, 3) := by decide +kernel
theorem d11_4 : decode jdk_42_method_54_code 4 = .ok (.arraylength, 1) := by decide +kernel
theorem d11_5 : decode jdk_42_method_54_code 5 = .ok (.aload_n 0, 1) := by decide +kernel
theorem d11_6 : decode jdk_42_method_54_code 6 = .ok (.invokevirtual 335, 3) := by decide +kernel
theorem d11_9 : decode jdk_42_method_54_code 9 = .ok (.ishr, 1) := by decide +kernel
theorem d11_10 : decode jdk_42_method_54_code 10 = .ok (.ireturn, 1) := by decide +kernel
set_option maxRecDepth 65536 in
set_option maxHeartbeats 4000000 in
theorem c_length (l : Launch) (Z : State) (a0 : Array Value) (hw : ∀ d ∈ tables_1, d.before a0 Z = true) (h0 : Heap) (z : Int32) (x t : Addr) (kb : ClassId) (bs : List Int32) (S : Sta Z h0 "java/lang/String" "COMPACT_STRINGS" "Z" (.int z)) (hz : ¬ z = 0) (St : Ow.Str Z h0 x t kb bs) : Ow.Pay l Z (⟨"java/lang/String", "length", "()I"⟩ : MethodName) jdk_42_method_54_code 1 (some .int) ({ frames := 1, cells := 0, slots := 0, locals := 13 } : Room) #[(.ref x)] h0 (fun v h L => v = some (.int (Int32.ofNat bs.length)) ∧ h = h0 ∧ L = []) := by
  refine Ow.Pay.of (Ls := #[.val (.ref x)]) (plainFor_of_name pn0) (fun m => by first | rfl | (simp [entryFrame, mkF, argsToLocals, Value.category]; done)) ?_
  intro p e s m below meth c T hx hby hml hown hnm hme hZ hret hlk X eT
  refine Ow.aloadN X hx (pc := 0) (hb hby d11_0) rfl rfl ?_
  refine Ow.getfield X hx hZ hown (ww hw 28 rfl) Via.refl eT St.2.2.1 (pc := 1) (hb hby d11_1) ?_   -- "java/lang/String" "value" "[B"
  intro T X eT
  refine Ow.lengthL X hx hZ eT St.2.2.2 (Int32.ofNat bs.length) (by rw [List.length_map]) (pc := 4) (hb hby d11_4) ?_
  refine Ow.aloadN X hx (pc := 5) (hb hby d11_5) rfl rfl ?_
  refine Ow.callVP X hx hZ (c_coder l Z a0 hw h0 z x S hz St.2.1) rfl rfl eT hown (ww hw 72 rfl) (ww hw 73 rfl) (ww hw 75 rfl) (ww hw 74 rfl) (ww hw 2 rfl) (ww hw 76 rfl) (by decide) pd3 (by rw [hml]; rfl) St.1 (argsL := []) rfl rfl rfl (pc := 6) (hb hby d11_6) rfl rfl (by decide) (by decide) ?_   -- java/lang/String.coder:()B
  intro T X eT
  dsimp only [Option.toList_some, Option.toList_none, List.cons_append, List.nil_append]
  refine Ow.ishr X hx (pc := 9) (hb hby d11_9) ?_
  exact Ow.ireturn X hx hlk hret (hb hby d11_10) ⟨by rw [Ow.shr0], eT, rfl⟩ (by decide) (by decide)
theorem d16_0 : decode jdk_29_method_65_code 0 = .ok (.iload_n 0, 1) := by decide +kernel
theorem d16_1 : decode jdk_29_method_65_code 1 = .ok (.iload_n 1, 1) := by decide +kernel
theorem d16_2 : decode jdk_29_method_65_code 2 = .ok (.if_icmp .lt 7, 3) := by decide +kernel
theorem d16_5 : decode jdk_29_method_65_code 5 = .ok (.iload_n 0, 1) := by decide +kernel
theorem d16_6 : decode jdk_29_method_65_code 6 = .ok (.goto 4, 3) := by decide +kernel
theorem d16_9 : decode jdk_29_method_65_code 9 = .ok (.iload_n 1, 1) := by decide +kernel
theorem d16_10 : decode jdk_29_method_65_code 10 = .ok (.ireturn, 1) := by decide +kernel
set_option maxRecDepth 65536 in
set_option maxHeartbeats 4000000 in
theorem c_max (l : Launch) (Z : State) (a0 : Array Value) (hw : ∀ d ∈ tables_1, d.before a0 Z = true) (h0 : Heap) (a b : Int32) : Ow.Pay l Z (⟨"java/lang/Math", "max", "(II)I"⟩ : MethodName) jdk_29_method_65_code 2 (some .int) ({ frames := 0, cells := 0, slots := 0, locals := 0 } : Room) #[(.int a), (.int b)] h0 (fun v h L => v = some (.int (if a < b then b else a)) ∧ h = h0 ∧ L = []) := by
  refine Ow.Pay.of (Ls := #[.val (.int a), .val (.int b)]) (Jvm.Free.JP.mathPlain rfl (by decide)) (fun m => by first | rfl | (simp [entryFrame, mkF, argsToLocals, Value.category]; done)) ?_
  intro p e s m below meth c T hx hby hml hown hnm hme hZ hret hlk X eT
  refine Ow.iloadN X hx (pc := 0) (hb hby d16_0) rfl ?_
  refine Ow.iloadN X hx (pc := 1) (hb hby d16_1) rfl ?_
  refine Ow.icmp_lt X hx (pc := 2) (pc' := 9) (hb hby d16_2) (by decide) (by decide) (fun h2 => ?_) (fun h2 => ?_)
  · refine Ow.iloadN X hx (pc := 9) (hb hby d16_9) rfl ?_
    exact Ow.ireturn X hx hlk hret (hb hby d16_10) ⟨by simp [h2], eT, rfl⟩ (by decide) (by decide)
  · refine Ow.iloadN X hx (pc := 5) (hb hby d16_5) rfl ?_
    refine Ow.goto X hx (pc := 6) (pc' := 10) (hb hby d16_6) (by decide) (by decide) ?_
    exact Ow.ireturn X hx hlk hret (hb hby d16_10) ⟨by simp [h2], eT, rfl⟩ (by decide) (by decide)
theorem d18_0 : decode jdk_29_method_69_code 0 = .ok (.iload_n 0, 1) := by decide +kernel
theorem d18_1 : decode jdk_29_method_69_code 1 = .ok (.iload_n 1, 1) := by decide +kernel
theorem d18_2 : decode jdk_29_method_69_code 2 = .ok (.if_icmp .gt 7, 3) := by decide +kernel
theorem d18_5 : decode jdk_29_method_69_code 5 = .ok (.iload_n 0, 1) := by decide +kernel
theorem d18_6 : decode jdk_29_method_69_code 6 = .ok (.goto 4, 3) := by decide +kernel
theorem d18_9 : decode jdk_29_method_69_code 9 = .ok (.iload_n 1, 1) := by decide +kernel
theorem d18_10 : decode jdk_29_method_69_code 10 = .ok (.ireturn, 1) := by decide +kernel
set_option maxRecDepth 65536 in
set_option maxHeartbeats 4000000 in
theorem c_min (l : Launch) (Z : State) (a0 : Array Value) (hw : ∀ d ∈ tables_1, d.before a0 Z = true) (h0 : Heap) (a b : Int32) : Ow.Pay l Z (⟨"java/lang/Math", "min", "(II)I"⟩ : MethodName) jdk_29_method_69_code 2 (some .int) ({ frames := 0, cells := 0, slots := 0, locals := 0 } : Room) #[(.int a), (.int b)] h0 (fun v h L => v = some (.int (if b < a then b else a)) ∧ h = h0 ∧ L = []) := by
  refine Ow.Pay.of (Ls := #[.val (.int a), .val (.int b)]) (Jvm.Free.JP.mathPlain rfl (by decide)) (fun m => by first | rfl | (simp [entryFrame, mkF, argsToLocals, Value.category]; done)) ?_
  intro p e s m below meth c T hx hby hml hown hnm hme hZ hret hlk X eT
  refine Ow.iloadN X hx (pc := 0) (hb hby d18_0) rfl ?_
  refine Ow.iloadN X hx (pc := 1) (hb hby d18_1) rfl ?_
  refine Ow.icmp_gt X hx (pc := 2) (pc' := 9) (hb hby d18_2) (by decide) (by decide) (fun h2 => ?_) (fun h2 => ?_)
  · refine Ow.iloadN X hx (pc := 9) (hb hby d18_9) rfl ?_
    exact Ow.ireturn X hx hlk hret (hb hby d18_10) ⟨by simp [h2], eT, rfl⟩ (by decide) (by decide)
  · refine Ow.iloadN X hx (pc := 5) (hb hby d18_5) rfl ?_
    refine Ow.goto X hx (pc := 6) (pc' := 10) (hb hby d18_6) (by decide) (by decide) ?_
    exact Ow.ireturn X hx hlk hret (hb hby d18_10) ⟨by simp [h2], eT, rfl⟩ (by decide) (by decide)
theorem own_shl0 (x : Int32) : x <<< ((0 : Int32) &&& 31) = x := by
  have h : ((0 : Int32) &&& 31) = 0 := by decide
  rw [h]
  apply Int32.toBitVec_inj.mp
  simp
theorem own_add2 (n : Nat) : Int32.ofNat n + (2 : Int32) = Int32.ofNat (n + 2) := (Int32.ofNat_add n 2).symm
theorem own_max {b c : Nat} (hb : b < 2147483648) (hc : c < 2147483648) : (if Int32.ofNat b < Int32.ofNat c then Int32.ofNat c else Int32.ofNat b) = Int32.ofNat (max b c) := by
  by_cases h : b < c
  · rw [if_pos ((Ow.n_lt hb hc).mpr h), Nat.max_eq_right (Nat.le_of_lt h)]
  · rw [if_neg (fun q => h ((Ow.n_lt hb hc).mp q)), Nat.max_eq_left (Nat.le_of_not_lt h)]
theorem own_neg0 : ∀ k : Fin 256, ¬ (0 : Int32) < -(Int32.ofNat k.val) := by decide +kernel
theorem own_subneg {a b : Nat} (h : a ≤ b) (hb : b < 256) : ¬ (0 : Int32) < Int32.ofNat a - Int32.ofNat b := by
  have e : Int32.ofNat a - Int32.ofNat b = -(Int32.ofNat (b - a)) := by
    rw [← own_sub h, Int32.neg_sub]
  rw [e]
  exact own_neg0 ⟨b - a, by omega⟩
def own_gr (cap mn : Nat) : Nat := if mn ≤ cap then cap else cap + max (mn - cap) (cap + 2)
/-- a StringBuilder at sb, its array at v: bs, then r zeros -/
def own_SB (Z : State) (h : Heap) (sb v : Addr) (kv : ClassId) (bs : List Int32) (r : Nat) : Prop := Exa Z h sb "java/lang/StringBuilder" ∧ Fld Z h sb "java/lang/AbstractStringBuilder" "value" "[B" (.ref v) ∧ Fld Z h sb "java/lang/AbstractStringBuilder" "coder" "B" (.int 0) ∧ Fld Z h sb "java/lang/AbstractStringBuilder" "count" "I" (.int (Int32.ofNat bs.length)) ∧ Ow.AL Z h v kv .byte ((bs ++ List.replicate r 0).map Value.int)
section own_SBs
variable {Z : State} {h h' : Heap} {sb v : Addr} {kv : ClassId} {bs : List Int32} {r : Nat} {ws : List Addr}
theorem own_SB.ext (S : own_SB Z h sb v kv bs r) (E : Ext h h') : own_SB Z h' sb v kv bs r := ⟨S.1.ext E, S.2.1.ext E, S.2.2.1.ext E, S.2.2.2.1.ext E, S.2.2.2.2.ext E⟩
theorem own_SB.keep (S : own_SB Z h sb v kv bs r) (K : Keep h h' ws) (q1 : sb ∉ ws) (q2 : v ∉ ws) : own_SB Z h' sb v kv bs r := ⟨S.1.keep K, S.2.1.keep K q1, S.2.2.1.keep K q1, S.2.2.2.1.keep K q1, S.2.2.2.2.keep K q2⟩
theorem own_SB.lt (S : own_SB Z h sb v kv bs r) : sb < h.size := S.1.lt
theorem own_SB.ltB (S : own_SB Z h sb v kv bs r) : v < h.size := S.2.2.2.2.lt
end own_SBs
theorem own_cpy (bs : List Int32) (n : Nat) : (List.replicate n (Value.int 0)).take 0 ++ (((bs.map Value.int).drop 0).take bs.length ++ (List.replicate n (Value.int 0)).drop (0 + bs.length)) = (bs ++ List.replicate (n - bs.length) 0).map Value.int := by
  rw [List.take_zero, List.nil_append, List.drop_zero, List.take_of_length_le (by simp), Nat.zero_add, List.drop_replicate, List.map_append, List.map_replicate]
theorem own_rep (bs : List Int32) (r n : Nat) (h : bs.length + r ≤ n) : (bs ++ List.replicate r (0 : Int32)) ++ List.replicate (n - (bs ++ List.replicate r (0 : Int32)).length) 0 = bs ++ List.replicate (n - bs.length) 0 := by
  rw [List.append_assoc, List.replicate_append_replicate, List.length_append, List.length_replicate, show r + (n - (bs.length + r)) = n - bs.length by omega]
theorem own_put (cs : List Int32) (r : Nat) : ∀ bs : List Int32, (bs ++ List.replicate r (0 : Int32)).take bs.length ++ (cs ++ (bs ++ List.replicate r (0 : Int32)).drop (bs.length + cs.length)) = (bs ++ cs) ++ List.replicate (r - cs.length) 0
  | [] => by
    show [] ++ (cs ++ (List.replicate r (0 : Int32)).drop (0 + cs.length)) = cs ++ List.replicate (r - cs.length) 0
    rw [Nat.zero_add, List.drop_replicate, List.nil_append]
  | b :: bs => by
    have q := own_put cs r bs
    show b :: ((bs ++ List.replicate r (0 : Int32)).take bs.length ++ (cs ++ (b :: (bs ++ List.replicate r (0 : Int32))).drop (bs.length + 1 + cs.length))) = b :: ((bs ++ cs) ++ List.replicate (r - cs.length) 0)
    rw [show bs.length + 1 + cs.length = (bs.length + cs.length) + 1 from by omega]
    exact congrArg (List.cons b) q
theorem own_len (bs : List Int32) (r : Nat) : ((bs ++ List.replicate r (0 : Int32)).map Value.int).length = bs.length + r := by
  rw [List.length_map, List.length_append, List.length_replicate]
theorem own_fitA {bs cs : List Int32} (h1 : ∀ v ∈ bs.map Value.int, fits .byte v = true) (h2 : ∀ v ∈ cs.map Value.int, fits .byte v = true) : ∀ v ∈ (bs ++ cs).map Value.int, fits .byte v = true := fun v hv => by
  rw [List.map_append] at hv
  rcases List.mem_append.mp hv with q | q
  · exact h1 v q
  · exact h2 v q
theorem own_fitR (r : Nat) : ∀ v ∈ (List.replicate r (0 : Int32)).map Value.int, fits .byte v = true := fun v hv => by
  rw [List.map_replicate] at hv
  rw [(List.mem_replicate.mp hv).2]; rfl
theorem own_fitB (x : Int32) : fits .byte (.int x.toInt8.toInt32) = true := by
  have h1 := x.toInt8.le_toInt
  have h2 := x.toInt8.toInt_lt
  simp only [fits, Bool.and_eq_true, decide_eq_true_eq, Int32.le_iff_toInt_le, Int8.toInt_toInt32, show (-128 : Int32).toInt = -128 from by decide, show (127 : Int32).toInt = 127 from by decide]
  omega
theorem own_fitM (cs : List Int32) : ∀ v ∈ (cs.map fun c => c.toInt8.toInt32).map Value.int, fits .byte v = true := fun v hv => by
  obtain ⟨w, hw, rfl⟩ := List.mem_map.mp hv
  obtain ⟨c, -, rfl⟩ := List.mem_map.mp hw
  exact own_fitB c
theorem d31_0 : decode jdk_65_method_131_code 0 = .ok (.iload_n 1, 1) := by decide +kernel
theorem d31_1 : decode jdk_65_method_131_code 1 = .ok (.iload_n 0, 1) := by decide +kernel
theorem d31_2 : decode jdk_65_method_131_code 2 = .ok (.if_icmp .ge 35, 3) := by decide +kernel
theorem d31_5 : decode jdk_65_method_131_code 5 = .ok (.new 43, 3) := by decide +kernel
theorem d31_8 : decode jdk_65_method_131_code 8 = .ok (.dup, 1) := by decide +kernel
theorem d31_9 : decode jdk_65_method_131_code 9 = .ok (.new 45, 3) := by decide +kernel
theorem d31_12 : decode jdk_65_method_131_code 12 = .ok (.dup, 1) := by decide +kernel
theorem d31_13 : decode jdk_65_method_131_code 13 = .ok (.invokespecial 47, 3) := by decide +kernel
theorem d31_16 : decode jdk_65_method_131_code 16 = .ok (.iload_n 0, 1) := by decide +kernel
theorem d31_17 : decode jdk_65_method_131_code 17 = .ok (.invokevirtual 54, 3) := by decide +kernel
theorem d31_20 : decode jdk_65_method_131_code 20 = .ok (.ldc_w 337, 3) := by decide +kernel
theorem d31_23 : decode jdk_65_method_131_code 23 = .ok (.invokevirtual 50, 3) := by decide +kernel
theorem d31_26 : decode jdk_65_method_131_code 26 = .ok (.iload_n 1, 1) := by decide +kernel
theorem d31_27 : decode jdk_65_method_131_code 27 = .ok (.invokevirtual 54, 3) := by decide +kernel
theorem d31_30 : decode jdk_65_method_131_code 30 = .ok (.invokevirtual 61, 3) := by decide +kernel
theorem d31_33 : decode jdk_65_method_131_code 33 = .ok (.invokespecial 65, 3) := by decide +kernel
theorem d31_36 : decode jdk_65_method_131_code 36 = .ok (.athrow, 1) := by decide +kernel
theorem d31_37 : decode jdk_65_method_131_code 37 = .ok (.return_, 1) := by decide +kernel
set_option maxRecDepth 65536 in
set_option maxHeartbeats 4000000 in
theorem c_checkLength (l : Launch) (Z : State) (a0 : Array Value) (hw : ∀ d ∈ tables_1, d.before a0 Z = true) (h0 : Heap) (i j : Nat) (hij : i ≤ j) (hj : j < 2147483648) : Ow.Pay l Z (⟨"java/util/Arrays", "checkLength", "(II)V"⟩ : MethodName) jdk_65_method_131_code 2 none ({ frames := 0, cells := 0, slots := 0, locals := 0 } : Room) #[(.int (Int32.ofNat i)), (.int (Int32.ofNat j))] h0 (fun v h L => v = none ∧ h = h0 ∧ L = []) := by
  refine Ow.Pay.of (Ls := #[.val (.int (Int32.ofNat i)), .val (.int (Int32.ofNat j))]) (plainFor_of_name pn1) (fun m => by first | rfl | (simp [entryFrame, mkF, argsToLocals, Value.category]; done)) ?_
  intro p e s m below meth c T hx hby hml hown hnm hme hZ hret hlk X eT
  refine Ow.iloadN X hx (pc := 0) (hb hby d31_0) rfl ?_
  refine Ow.iloadN X hx (pc := 1) (hb hby d31_1) rfl ?_
  refine Ow.icmp_ge X hx (pc := 2) (pc' := 37) (hb hby d31_2) (by decide) (by decide) (fun h2 => ?_) (fun q => absurd ((Ow.n_lt (by omega) (by omega)).mp q) (by omega))
  exact Ow.vreturn X hx hlk hret (hb hby d31_37) ⟨rfl, eT, rfl⟩ (by decide) (by decide)
theorem d30_0 : decode jdk_65_method_133_code 0 = .ok (.iload_n 1, 1) := by decide +kernel
theorem d30_1 : decode jdk_65_method_133_code 1 = .ok (.iload_n 2, 1) := by decide +kernel
theorem d30_2 : decode jdk_65_method_133_code 2 = .ok (.invokestatic 343, 3) := by decide +kernel
theorem d30_5 : decode jdk_65_method_133_code 5 = .ok (.iload_n 2, 1) := by decide +kernel
theorem d30_6 : decode jdk_65_method_133_code 6 = .ok (.iload_n 1, 1) := by decide +kernel
theorem d30_7 : decode jdk_65_method_133_code 7 = .ok (.isub, 1) := by decide +kernel
theorem d30_8 : decode jdk_65_method_133_code 8 = .ok (.istore_n 3, 1) := by decide +kernel
theorem d30_9 : decode jdk_65_method_133_code 9 = .ok (.iload_n 3, 1) := by decide +kernel
theorem d30_10 : decode jdk_65_method_133_code 10 = .ok (.newarray .byte, 2) := by decide +kernel
theorem d30_12 : decode jdk_65_method_133_code 12 = .ok (.astore 4, 2) := by decide +kernel
theorem d30_14 : decode jdk_65_method_133_code 14 = .ok (.aload_n 0, 1) := by decide +kernel
theorem d30_15 : decode jdk_65_method_133_code 15 = .ok (.iload_n 1, 1) := by decide +kernel
theorem d30_16 : decode jdk_65_method_133_code 16 = .ok (.aload 4, 2) := by decide +kernel
theorem d30_18 : decode jdk_65_method_133_code 18 = .ok (.iconst 0, 1) := by decide +kernel
theorem d30_19 : decode jdk_65_method_133_code 19 = .ok (.aload_n 0, 1) := by decide +kernel
theorem d30_20 : decode jdk_65_method_133_code 20 = .ok (.arraylength, 1) := by decide +kernel
theorem d30_21 : decode jdk_65_method_133_code 21 = .ok (.iload_n 1, 1) := by decide +kernel
theorem d30_22 : decode jdk_65_method_133_code 22 = .ok (.isub, 1) := by decide +kernel
theorem d30_23 : decode jdk_65_method_133_code 23 = .ok (.iload_n 3, 1) := by decide +kernel
theorem d30_24 : decode jdk_65_method_133_code 24 = .ok (.invokestatic 304, 3) := by decide +kernel
theorem d30_27 : decode jdk_65_method_133_code 27 = .ok (.invokestatic 150, 3) := by decide +kernel
theorem d30_30 : decode jdk_65_method_133_code 30 = .ok (.aload 4, 2) := by decide +kernel
theorem d30_32 : decode jdk_65_method_133_code 32 = .ok (.areturn, 1) := by decide +kernel
set_option maxRecDepth 65536 in
set_option maxHeartbeats 4000000 in
theorem c_corb (l : Launch) (Z : State) (a0 : Array Value) (hw : ∀ d ∈ tables_1, d.before a0 Z = true) (h0 : Heap) (t : Addr) (kb : ClassId) (bs : List Int32) (i j : Nat) (A : Ow.AL Z h0 t kb .byte (bs.map Value.int)) (hfit : ∀ v ∈ bs.map Value.int, fits .byte v = true) (hij : i ≤ j) (hj : j ≤ bs.length) (hcap : bs.length ≤ 130) : Ow.Pay l Z (⟨"java/util/Arrays", "copyOfRangeByte", "([BII)[B"⟩ : MethodName) jdk_65_method_133_code 5 (some (.array .byte)) ({ frames := 1, cells := 1, slots := 130, locals := 18 } : Room) #[(.ref t), (.int (Int32.ofNat i)), (.int (Int32.ofNat j))] h0 (fun v h L => ∃ d kd, v = some (.ref d) ∧ Ow.Eff h0 h [] L ∧ h0.size ≤ d ∧ Ow.AL Z h d kd .byte (((bs.drop i).take (j - i)).map Value.int)) := by
  refine Ow.Pay.of (Ls := #[.val (.ref t), .val (.int (Int32.ofNat i)), .val (.int (Int32.ofNat j)), .unset, .unset]) (plainFor_of_name pn1) (fun m => by first | rfl | (simp [entryFrame, mkF, argsToLocals, Value.category]; done)) ?_
  intro p e s m below meth c T hx hby hml hown hnm hme hZ hret hlk X eT
  have F := Ow.Eff.refl h0 []
  refine Ow.iloadN X hx (pc := 0) (hb hby d30_0) rfl ?_
  refine Ow.iloadN X hx (pc := 1) (hb hby d30_1) rfl ?_
  refine Ow.callSP X hx hZ (c_checkLength l Z a0 hw _ i j hij (by omega)) rfl rfl eT hown (ww hw 164 rfl) (ww hw 165 rfl) (ww hw 101 rfl) (ww hw 166 rfl) (by decide) pd4 (by rw [hml]; rfl) (argsL := [_, _]) rfl rfl rfl (pc := 2) (hb hby d30_2) rfl rfl (by decide) (by decide) ?_   -- java/util/Arrays.checkLength:(II)V
  intro T X eT
  dsimp only [Option.toList_some, Option.toList_none, List.cons_append, List.nil_append]
  refine Ow.iloadN X hx (pc := 5) (hb hby d30_5) rfl ?_
  refine Ow.iloadN X hx (pc := 6) (hb hby d30_6) rfl ?_
  refine Ow.isub X hx (pc := 7) (hb hby d30_7) ?_
  rw [own_sub hij]
  refine Ow.istoreN X hx (pc := 8) #[_, _, _, _, _] (hb hby d30_8) rfl ?_
  refine Ow.iloadN X hx (pc := 9) (hb hby d30_9) rfl ?_
  refine Ow.newarrayL X hx hZ (ww hw 19 rfl) eT 130 (List.replicate (j - i) (.int 0)) (by rw [Ow.n_cl (by omega)]; rfl) (pc := 10) (hb hby d30_10) (Ow.n_nn (by omega)) (by rw [Ow.n_cl (by omega)]; omega) (by decide) (by decide) (by decide) ?_
  intro T h_d k_d d ha_d X eT E_d B_d
  have l_d : h0.size ≤ d := by rw [ha_d]; exact F.size
  have ne_t_d : t ≠ d := by rw [ha_d]; exact Nat.ne_of_lt A.lt
  have A := A.ext E_d
  have F := F.ext E_d
  refine Ow.astore X hx (pc := 12) #[_, _, _, _, _] (hb hby d30_12) rfl rfl ?_
  refine Ow.aloadN X hx (pc := 14) (hb hby d30_14) rfl rfl ?_
  refine Ow.iloadN X hx (pc := 15) (hb hby d30_15) rfl ?_
  refine Ow.aload X hx (pc := 16) (hb hby d30_16) rfl rfl ?_
  refine Ow.iconst X hx (pc := 18) (0) (hb hby d30_18) (by decide) ?_
  refine Ow.aloadN X hx (pc := 19) (hb hby d30_19) rfl rfl ?_
  refine Ow.lengthL X hx hZ eT A (Int32.ofNat bs.length) (by rw [List.length_map]) (pc := 20) (hb hby d30_20) ?_
  refine Ow.iloadN X hx (pc := 21) (hb hby d30_21) rfl ?_
  refine Ow.isub X hx (pc := 22) (hb hby d30_22) ?_
  rw [own_sub (show i ≤ bs.length by omega)]
  refine Ow.iloadN X hx (pc := 23) (hb hby d30_23) rfl ?_
  refine Ow.callSP X hx hZ (c_min l Z a0 hw _ _ _) rfl rfl eT hown (ww hw 103 rfl) (ww hw 104 rfl) (ww hw 95 rfl) (ww hw 105 rfl) (by decide) pd5 (by rw [hml]; rfl) (argsL := [_, _]) rfl rfl rfl (pc := 24) (hb hby d30_24) rfl rfl (by decide) (by decide) ?_   -- java/lang/Math.min:(II)I
  intro T X eT
  dsimp only [Option.toList_some, Option.toList_none, List.cons_append, List.nil_append]
  rw [show (if Int32.ofNat (j - i) < Int32.ofNat (bs.length - i) then Int32.ofNat (j - i) else Int32.ofNat (bs.length - i)) = Int32.ofNat (j - i) from by
    split
    · rfl
    · rename_i q; rw [Ow.n_lt (by omega) (by omega)] at q; congr 1; omega]
  refine Ow.arraycopyB X hx hZ eT hown (ww hw 106 rfl) (ww hw 109 rfl) (ww hw 107 rfl) (ww hw 108 rfl) A B_d hfit i 0 (j - i) (by rw [List.length_map]; omega) (by rw [List.length_replicate]; omega) (by rw [List.length_map]; omega) (by rw [List.length_replicate]; omega) (((bs.drop i).take (j - i)).map Value.int) (by simp [List.map_take, List.map_drop]) (by rw [hml]; rfl) (pc := 27) (hb hby d30_27) rfl rfl ?_
  intro T h_27 L X eT F2 B_d
  have F := F.call F2 (fun y hy => by cases List.mem_singleton.mp hy; exact Or.inr l_d)
  refine Ow.aload X hx (pc := 30) (hb hby d30_30) rfl rfl ?_
  exact Ow.areturn X hx hlk hret rfl rfl rfl (hb hby d30_32) ⟨d, _, rfl, by rw [eT]; exact F, l_d, by rw [eT]; exact B_d⟩ (by decide) (by decide)
theorem d29_0 : decode jdk_65_method_132_code 0 = .ok (.iload_n 1, 1) := by decide +kernel
theorem d29_1 : decode jdk_65_method_132_code 1 = .ok (.ifCond .ne 9, 3) := by decide +kernel
theorem d29_4 : decode jdk_65_method_132_code 4 = .ok (.iload_n 2, 1) := by decide +kernel
theorem d29_5 : decode jdk_65_method_132_code 5 = .ok (.aload_n 0, 1) := by decide +kernel
theorem d29_6 : decode jdk_65_method_132_code 6 = .ok (.arraylength, 1) := by decide +kernel
theorem d29_7 : decode jdk_65_method_132_code 7 = .ok (.if_icmp .eq 10, 3) := by decide +kernel
theorem d29_10 : decode jdk_65_method_132_code 10 = .ok (.aload_n 0, 1) := by decide +kernel
theorem d29_11 : decode jdk_65_method_132_code 11 = .ok (.iload_n 1, 1) := by decide +kernel
theorem d29_12 : decode jdk_65_method_132_code 12 = .ok (.iload_n 2, 1) := by decide +kernel
theorem d29_13 : decode jdk_65_method_132_code 13 = .ok (.invokestatic 339, 3) := by decide +kernel
theorem d29_16 : decode jdk_65_method_132_code 16 = .ok (.areturn, 1) := by decide +kernel
theorem d29_17 : decode jdk_65_method_132_code 17 = .ok (.aload_n 0, 1) := by decide +kernel
theorem d29_18 : decode jdk_65_method_132_code 18 = .ok (.invokevirtual 310, 3) := by decide +kernel
theorem d29_21 : decode jdk_65_method_132_code 21 = .ok (.checkcast 311, 3) := by decide +kernel
theorem d29_24 : decode jdk_65_method_132_code 24 = .ok (.areturn, 1) := by decide +kernel
set_option maxRecDepth 65536 in
set_option maxHeartbeats 4000000 in
theorem c_cor (l : Launch) (Z : State) (a0 : Array Value) (hw : ∀ d ∈ tables_1, d.before a0 Z = true) (h0 : Heap) (t : Addr) (kb : ClassId) (bs : List Int32) (i j : Nat) (A : Ow.AL Z h0 t kb .byte (bs.map Value.int)) (hfit : ∀ v ∈ bs.map Value.int, fits .byte v = true) (hij : i ≤ j) (hj : j ≤ bs.length) (hcap : bs.length ≤ 130) (hno : ¬ (i = 0 ∧ j = bs.length)) : Ow.Pay l Z (⟨"java/util/Arrays", "copyOfRange", "([BII)[B"⟩ : MethodName) jdk_65_method_132_code 3 (some (.array .byte)) ({ frames := 2, cells := 1, slots := 130, locals := 34 } : Room) #[(.ref t), (.int (Int32.ofNat i)), (.int (Int32.ofNat j))] h0 (fun v h L => ∃ d kd, v = some (.ref d) ∧ Ow.Eff h0 h [] L ∧ h0.size ≤ d ∧ Ow.AL Z h d kd .byte (((bs.drop i).take (j - i)).map Value.int)) := by
  refine Ow.Pay.of (Ls := #[.val (.ref t), .val (.int (Int32.ofNat i)), .val (.int (Int32.ofNat j))]) (plainFor_of_name pn1) (fun m => by first | rfl | (simp [entryFrame, mkF, argsToLocals, Value.category]; done)) ?_
  intro p e s m below meth c T hx hby hml hown hnm hme hZ hret hlk X eT
  refine Ow.iloadN X hx (pc := 0) (hb hby d29_0) rfl ?_
  refine Ow.if_ne X hx (pc := 1) (pc' := 10) (hb hby d29_1) (by decide) (by decide) (fun h1 => ?_) (fun h1 => ?_)
  · refine Ow.aloadN X hx (pc := 10) (hb hby d29_10) rfl rfl ?_
    refine Ow.iloadN X hx (pc := 11) (hb hby d29_11) rfl ?_
    refine Ow.iloadN X hx (pc := 12) (hb hby d29_12) rfl ?_
    refine Ow.callS X hx hZ (c_corb l Z a0 hw _ t kb bs i j A hfit hij hj hcap) eT hown (ww hw 161 rfl) (ww hw 162 rfl) (ww hw 101 rfl) (ww hw 163 rfl) (by decide) pd6 (by rw [hml]; rfl) (argsL := [_, _, _]) rfl rfl rfl (pc := 13) (hb hby d29_13) rfl rfl (by decide) (by decide) ?_
    rintro _ T L X ⟨d, kd, rfl, F2, l2, B2⟩
    dsimp only [Option.toList_some, Option.toList_none, List.cons_append, List.nil_append]
    exact Ow.areturn X hx hlk hret rfl rfl rfl (hb hby d29_16) ⟨d, kd, rfl, F2, l2, B2⟩ (by decide) (by decide)
  · refine Ow.iloadN X hx (pc := 4) (hb hby d29_4) rfl ?_
    refine Ow.aloadN X hx (pc := 5) (hb hby d29_5) rfl rfl ?_
    refine Ow.lengthL X hx hZ eT A (Int32.ofNat bs.length) (by rw [List.length_map]) (pc := 6) (hb hby d29_6) ?_
    refine Ow.icmp_eq X hx (pc := 7) (pc' := 17) (hb hby d29_7) (by decide) (by decide) (fun q => (hno ⟨(Ow.n_eq (n := 0) (by omega) (by omega)).mp h1, (Ow.n_eq (by omega) (by omega)).mp q⟩).elim) (fun h7 => ?_)
    refine Ow.aloadN X hx (pc := 10) (hb hby d29_10) rfl rfl ?_
    refine Ow.iloadN X hx (pc := 11) (hb hby d29_11) rfl ?_
    refine Ow.iloadN X hx (pc := 12) (hb hby d29_12) rfl ?_
    refine Ow.callS X hx hZ (c_corb l Z a0 hw _ t kb bs i j A hfit hij hj hcap) eT hown (ww hw 161 rfl) (ww hw 162 rfl) (ww hw 101 rfl) (ww hw 163 rfl) (by decide) pd6 (by rw [hml]; rfl) (argsL := [_, _, _]) rfl rfl rfl (pc := 13) (hb hby d29_13) rfl rfl (by decide) (by decide) ?_
    rintro _ T L X ⟨d, kd, rfl, F2, l2, B2⟩
    dsimp only [Option.toList_some, Option.toList_none, List.cons_append, List.nil_append]
    exact Ow.areturn X hx hlk hret rfl rfl rfl (hb hby d29_16) ⟨d, kd, rfl, F2, l2, B2⟩ (by decide) (by decide)
theorem d8_0 : decode jdk_68_method_2_code 0 = .ok (.aload_n 0, 1) := by decide +kernel
theorem d8_1 : decode jdk_68_method_2_code 1 = .ok (.invokespecial 3, 3) := by decide +kernel
theorem d8_4 : decode jdk_68_method_2_code 4 = .ok (.getstatic 18, 3) := by decide +kernel
theorem d8_7 : decode jdk_68_method_2_code 7 = .ok (.ifCond .eq 18, 3) := by decide +kernel
theorem d8_10 : decode jdk_68_method_2_code 10 = .ok (.aload_n 0, 1) := by decide +kernel
theorem d8_11 : decode jdk_68_method_2_code 11 = .ok (.iload_n 1, 1) := by decide +kernel
theorem d8_12 : decode jdk_68_method_2_code 12 = .ok (.newarray .byte, 2) := by decide +kernel
theorem d8_14 : decode jdk_68_method_2_code 14 = .ok (.putfield 15, 3) := by decide +kernel
theorem d8_17 : decode jdk_68_method_2_code 17 = .ok (.aload_n 0, 1) := by decide +kernel
theorem d8_18 : decode jdk_68_method_2_code 18 = .ok (.iconst 0, 1) := by decide +kernel
theorem d8_19 : decode jdk_68_method_2_code 19 = .ok (.putfield 22, 3) := by decide +kernel
theorem d8_22 : decode jdk_68_method_2_code 22 = .ok (.goto 16, 3) := by decide +kernel
theorem d8_25 : decode jdk_68_method_2_code 25 = .ok (.aload_n 0, 1) := by decide +kernel
theorem d8_26 : decode jdk_68_method_2_code 26 = .ok (.iload_n 1, 1) := by decide +kernel
theorem d8_27 : decode jdk_68_method_2_code 27 = .ok (.invokestatic 26, 3) := by decide +kernel
theorem d8_30 : decode jdk_68_method_2_code 30 = .ok (.putfield 15, 3) := by decide +kernel
theorem d8_33 : decode jdk_68_method_2_code 33 = .ok (.aload_n 0, 1) := by decide +kernel
theorem d8_34 : decode jdk_68_method_2_code 34 = .ok (.iconst 1, 1) := by decide +kernel
theorem d8_35 : decode jdk_68_method_2_code 35 = .ok (.putfield 22, 3) := by decide +kernel
theorem d8_38 : decode jdk_68_method_2_code 38 = .ok (.return_, 1) := by decide +kernel
set_option maxRecDepth 65536 in
set_option maxHeartbeats 4000000 in
theorem c_asbinit (l : Launch) (Z : State) (a0 : Array Value) (hw : ∀ d ∈ tables_1, d.before a0 Z = true) (h0 : Heap) (z : Int32) (S : Sta Z h0 "java/lang/String" "COMPACT_STRINGS" "Z" (.int z)) (hz : ¬ z = 0) (sb : Addr) (E : Exa Z h0 sb "java/lang/StringBuilder") (Fv : Fld Z h0 sb "java/lang/AbstractStringBuilder" "value" "[B" .null) (Fc : Fld Z h0 sb "java/lang/AbstractStringBuilder" "coder" "B" (.int 0)) (Fn : Fld Z h0 sb "java/lang/AbstractStringBuilder" "count" "I" (.int 0)) : Ow.Pay l Z (⟨"java/lang/AbstractStringBuilder", "<init>", "(I)V"⟩ : MethodName) jdk_68_method_2_code 2 none ({ frames := 1, cells := 1, slots := 16, locals := 12 } : Room) #[(.ref sb), (.int 16)] h0 (fun v h L => v = none ∧ Ow.Eff h0 h [sb] L ∧ ∃ v kv, h0.size ≤ v ∧ own_SB Z h sb v kv [] 16) := by
  refine Ow.Pay.of (Ls := #[.val (.ref sb), .val (.int 16)]) (plainFor_of_name pn2) (fun m => by first | rfl | (simp [entryFrame, mkF, argsToLocals, Value.category]; done)) ?_
  intro p e s m below meth c T hx hby hml hown hnm hme hZ hret hlk X eT
  have F := Ow.Eff.refl h0 [sb]
  have sn_value_coder : RoadKit.slotOf Z "java/lang/AbstractStringBuilder" "value" "[B" ≠ RoadKit.slotOf Z "java/lang/AbstractStringBuilder" "coder" "B" := slot_ne (a0 := a0) (C := "java/lang/StringBuilder") (Or.inl (ww hw 51 rfl)) (Or.inl (ww hw 53 rfl)) (by decide) (t := (.array .byte)) (t' := .byte) (by decide) (by decide)
  have sn_value_count : RoadKit.slotOf Z "java/lang/AbstractStringBuilder" "value" "[B" ≠ RoadKit.slotOf Z "java/lang/AbstractStringBuilder" "count" "I" := slot_ne (a0 := a0) (C := "java/lang/StringBuilder") (Or.inl (ww hw 51 rfl)) (Or.inl (ww hw 78 rfl)) (by decide) (t := (.array .byte)) (t' := .int) (by decide) (by decide)
  have sn_coder_count : RoadKit.slotOf Z "java/lang/AbstractStringBuilder" "coder" "B" ≠ RoadKit.slotOf Z "java/lang/AbstractStringBuilder" "count" "I" := slot_ne (a0 := a0) (C := "java/lang/StringBuilder") (Or.inl (ww hw 53 rfl)) (Or.inl (ww hw 78 rfl)) (by decide) (t := .byte) (t' := .int) (by decide) (by decide)
  refine Ow.aloadN X hx (pc := 0) (hb hby d8_0) rfl rfl ?_
  refine Ow.objinit X hx hZ hown (ww hw 48 rfl) (ww hw 12 rfl) (ww hw 13 rfl) eT (by rw [hml]; rfl) (pc := 1) (hb hby d8_1) rfl rfl ?_
  intro T X eT
  refine Ow.getstatic X hx hZ hown (ww hw 49 rfl) Via.refl eT S (pc := 4) (hb hby d8_4) ?_   -- "java/lang/String" "COMPACT_STRINGS" "Z"
  intro T X eT
  refine Ow.if_eq X hx (pc := 7) (pc' := 25) (hb hby d8_7) (by decide) (by decide) (fun q => absurd q hz) (fun h7 => ?_)
  refine Ow.aloadN X hx (pc := 10) (hb hby d8_10) rfl rfl ?_
  refine Ow.iloadN X hx (pc := 11) (hb hby d8_11) rfl ?_
  refine Ow.newarrayL X hx hZ (ww hw 19 rfl) eT 16 (vs := ((([] : List Int32) ++ List.replicate 16 0).map Value.int)) rfl (pc := 12) (hb hby d8_12) (by decide) (by decide) (by decide) (by decide) (by decide) ?_
  intro T h_v k_v v ha_v X eT E_v B_v
  have l_v : h0.size ≤ v := by rw [ha_v]; exact F.size
  have ne_sb_v : sb ≠ v := by rw [ha_v]; exact Nat.ne_of_lt E.lt
  have E := E.ext E_v
  have Fv := Fv.ext E_v
  have Fc := Fc.ext E_v
  have Fn := Fn.ext E_v
  have S := S.ext E_v
  have F := F.ext E_v
  refine Ow.putfield X hx hZ hown (ww hw 50 rfl) Via.refl eT Fv E (Or.inl (ww hw 51 rfl)) (ww hw 37 rfl) (ty := .array .byte) (by decide) rfl rfl (pc := 14) (hb hby d8_14) ?_
  intro T h_14 X eT W
  have Fv := Fv.same W
  have Fc := Fc.other W (Or.inr (Ne.symm sn_value_coder))
  have Fn := Fn.other W (Or.inr (Ne.symm sn_value_count))
  have E := E.wr W
  have B_v := B_v.other W (Ne.symm ne_sb_v)
  have F := F.wr W (Or.inl (by simp))
  refine Ow.aloadN X hx (pc := 17) (hb hby d8_17) rfl rfl ?_
  refine Ow.iconst X hx (pc := 18) (0) (hb hby d8_18) (by decide) ?_
  refine Ow.putfield X hx hZ hown (ww hw 52 rfl) Via.refl eT Fc E (Or.inl (ww hw 53 rfl)) (ww hw 37 rfl) (ty := .byte) (by decide) rfl rfl (pc := 19) (hb hby d8_19) ?_
  intro T h_19 X eT W
  have Fc := Fc.same W
  have Fv := Fv.other W (Or.inr sn_value_coder)
  have Fn := Fn.other W (Or.inr (Ne.symm sn_coder_count))
  have E := E.wr W
  have B_v := B_v.other W (Ne.symm ne_sb_v)
  have F := F.wr W (Or.inl (by simp))
  refine Ow.goto X hx (pc := 22) (pc' := 38) (hb hby d8_22) (by decide) (by decide) ?_
  exact Ow.vreturn X hx hlk hret (hb hby d8_38) ⟨rfl, by rw [eT]; exact F, v, _, l_v, by rw [eT]; exact ⟨E, Fv, Fc, Fn, B_v⟩⟩ (by decide) (by decide)
theorem d7_0 : decode jdk_67_method_1_code 0 = .ok (.aload_n 0, 1) := by decide +kernel
theorem d7_1 : decode jdk_67_method_1_code 1 = .ok (.bipush 16, 2) := by decide +kernel
theorem d7_3 : decode jdk_67_method_1_code 3 = .ok (.invokespecial 1, 3) := by decide +kernel
theorem d7_6 : decode jdk_67_method_1_code 6 = .ok (.return_, 1) := by decide +kernel
set_option maxRecDepth 65536 in
set_option maxHeartbeats 4000000 in
theorem c_sbinit (l : Launch) (Z : State) (a0 : Array Value) (hw : ∀ d ∈ tables_1, d.before a0 Z = true) (h0 : Heap) (z : Int32) (S : Sta Z h0 "java/lang/String" "COMPACT_STRINGS" "Z" (.int z)) (hz : ¬ z = 0) (sb : Addr) (E : Exa Z h0 sb "java/lang/StringBuilder") (Fv : Fld Z h0 sb "java/lang/AbstractStringBuilder" "value" "[B" .null) (Fc : Fld Z h0 sb "java/lang/AbstractStringBuilder" "coder" "B" (.int 0)) (Fn : Fld Z h0 sb "java/lang/AbstractStringBuilder" "count" "I" (.int 0)) : Ow.Pay l Z (⟨"java/lang/StringBuilder", "<init>", "()V"⟩ : MethodName) jdk_67_method_1_code 1 none ({ frames := 2, cells := 1, slots := 16, locals := 25 } : Room) #[(.ref sb)] h0 (fun v h L => v = none ∧ Ow.Eff h0 h [sb] L ∧ ∃ v kv, h0.size ≤ v ∧ own_SB Z h sb v kv [] 16) := by
  refine Ow.Pay.of (Ls := #[.val (.ref sb)]) (plainFor_of_name pn3) (fun m => by first | rfl | (simp [entryFrame, mkF, argsToLocals, Value.category]; done)) ?_
  intro p e s m below meth c T hx hby hml hown hnm hme hZ hret hlk X eT
  have F := Ow.Eff.refl h0 [sb]
  refine Ow.aloadN X hx (pc := 0) (hb hby d7_0) rfl rfl ?_
  refine Ow.bipush X hx (pc := 1) (16) (hb hby d7_1) (by decide) ?_
  refine Ow.callI X hx hZ (c_asbinit l Z a0 hw _ z S hz sb E Fv Fc Fn) eT rfl hown (ww hw 42 rfl) (ww hw 43 rfl) (ww hw 46 rfl) (ww hw 47 rfl) (by decide) pd7 (by rw [hml]; rfl) (argsL := [_]) rfl rfl rfl (pc := 3) (hb hby d7_3) rfl rfl (by decide) (by decide) ?_
  rintro _ T L X ⟨rfl, F2, v, kv, l_v, SBx⟩
  dsimp only [Option.toList_some, Option.toList_none, List.cons_append, List.nil_append]
  have F := F.call F2 (fun y hy => by cases List.mem_singleton.mp hy; exact Or.inl (by simp))
  exact Ow.vreturn X hx hlk hret (hb hby d7_6) ⟨rfl, F, v, kv, l_v, SBx⟩ (by decide) (by decide)
theorem d15_0 : decode jdk_48_method_27_code 0 = .ok (.iload_n 0, 1) := by decide +kernel
theorem d15_1 : decode jdk_48_method_27_code 1 = .ok (.iload_n 1, 1) := by decide +kernel
theorem d15_2 : decode jdk_48_method_27_code 2 = .ok (.iload_n 2, 1) := by decide +kernel
theorem d15_3 : decode jdk_48_method_27_code 3 = .ok (.invokestatic 194, 3) := by decide +kernel
theorem d15_6 : decode jdk_48_method_27_code 6 = .ok (.iadd, 1) := by decide +kernel
theorem d15_7 : decode jdk_48_method_27_code 7 = .ok (.istore_n 3, 1) := by decide +kernel
theorem d15_8 : decode jdk_48_method_27_code 8 = .ok (.iconst 0, 1) := by decide +kernel
theorem d15_9 : decode jdk_48_method_27_code 9 = .ok (.iload_n 3, 1) := by decide +kernel
theorem d15_10 : decode jdk_48_method_27_code 10 = .ok (.if_icmp .ge 11, 3) := by decide +kernel
theorem d15_13 : decode jdk_48_method_27_code 13 = .ok (.iload_n 3, 1) := by decide +kernel
theorem d15_14 : decode jdk_48_method_27_code 14 = .ok (.ldc 200, 2) := by decide +kernel
theorem d15_16 : decode jdk_48_method_27_code 16 = .ok (.if_icmp .gt 5, 3) := by decide +kernel
theorem d15_19 : decode jdk_48_method_27_code 19 = .ok (.iload_n 3, 1) := by decide +kernel
theorem d15_20 : decode jdk_48_method_27_code 20 = .ok (.ireturn, 1) := by decide +kernel
theorem d15_21 : decode jdk_48_method_27_code 21 = .ok (.iload_n 0, 1) := by decide +kernel
theorem d15_22 : decode jdk_48_method_27_code 22 = .ok (.iload_n 1, 1) := by decide +kernel
theorem d15_23 : decode jdk_48_method_27_code 23 = .ok (.invokestatic 201, 3) := by decide +kernel
theorem d15_26 : decode jdk_48_method_27_code 26 = .ok (.ireturn, 1) := by decide +kernel
set_option maxRecDepth 65536 in
set_option maxHeartbeats 4000000 in
theorem c_newLength (l : Launch) (Z : State) (a0 : Array Value) (hw : ∀ d ∈ tables_1, d.before a0 Z = true) (h0 : Heap) (n mg pg : Nat) (hn : n < 1000) (hm : mg < 1000) (hp : pg < 1000) (hpos : 0 < n + max mg pg) : Ow.Pay l Z (⟨"jdk/internal/util/ArraysSupport", "newLength", "(III)I"⟩ : MethodName) jdk_48_method_27_code 4 (some .int) ({ frames := 1, cells := 0, slots := 0, locals := 14 } : Room) #[(.int (Int32.ofNat n)), (.int (Int32.ofNat mg)), (.int (Int32.ofNat pg))] h0 (fun v h L => v = some (.int (Int32.ofNat (n + max mg pg))) ∧ h = h0 ∧ L = []) := by
  refine Ow.Pay.of (Ls := #[.val (.int (Int32.ofNat n)), .val (.int (Int32.ofNat mg)), .val (.int (Int32.ofNat pg)), .unset]) (plainFor_of_name pn4) (fun m => by first | rfl | (simp [entryFrame, mkF, argsToLocals, Value.category]; done)) ?_
  intro p e s m below meth c T hx hby hml hown hnm hme hZ hret hlk X eT
  refine Ow.iloadN X hx (pc := 0) (hb hby d15_0) rfl ?_
  refine Ow.iloadN X hx (pc := 1) (hb hby d15_1) rfl ?_
  refine Ow.iloadN X hx (pc := 2) (hb hby d15_2) rfl ?_
  refine Ow.callSP X hx hZ (c_max l Z a0 hw h0 _ _) rfl rfl eT hown (ww hw 93 rfl) (ww hw 94 rfl) (ww hw 95 rfl) (ww hw 96 rfl) (by decide) pd5 (by rw [hml]; rfl) (argsL := [_, _]) rfl rfl rfl (pc := 3) (hb hby d15_3) rfl rfl (by decide) (by decide) ?_   -- java/lang/Math.max:(II)I
  intro T X eT
  dsimp only [Option.toList_some, Option.toList_none, List.cons_append, List.nil_append]
  rw [own_max (by omega) (by omega)]
  refine Ow.iadd X hx (pc := 6) (hb hby d15_6) ?_
  rw [← Int32.ofNat_add]
  refine Ow.istoreN X hx (pc := 7) #[_, _, _, _] (hb hby d15_7) rfl ?_
  refine Ow.iconst X hx (pc := 8) (0) (hb hby d15_8) (by decide) ?_
  refine Ow.iloadN X hx (pc := 9) (hb hby d15_9) rfl ?_
  refine Ow.icmp_ge X hx (pc := 10) (pc' := 21) (hb hby d15_10) (by decide) (by decide) (fun q => absurd ((Ow.n_lt (i := 0) (by omega) (by omega)).mpr hpos) q) (fun h10 => ?_)
  refine Ow.iloadN X hx (pc := 13) (hb hby d15_13) rfl ?_
  refine Ow.ldcI X hx (pc := 14) (2147483639) (hb hby d15_14) hown (mvT hZ (ww hw 97 rfl)) ?_
  refine Ow.icmp_gt X hx (pc := 16) (pc' := 21) (hb hby d15_16) (by decide) (by decide) (fun q => absurd ((Ow.n_lt (i := 2147483639) (by omega) (by omega)).mp q) (by omega)) (fun h16 => ?_)
  refine Ow.iloadN X hx (pc := 19) (hb hby d15_19) rfl ?_
  exact Ow.ireturn X hx hlk hret (hb hby d15_20) ⟨rfl, eT, rfl⟩ (by decide) (by decide)
theorem d14_0 : decode jdk_68_method_10_code 0 = .ok (.aload_n 0, 1) := by decide +kernel
theorem d14_1 : decode jdk_68_method_10_code 1 = .ok (.getfield 15, 3) := by decide +kernel
theorem d14_4 : decode jdk_68_method_10_code 4 = .ok (.arraylength, 1) := by decide +kernel
theorem d14_5 : decode jdk_68_method_10_code 5 = .ok (.istore_n 2, 1) := by decide +kernel
theorem d14_6 : decode jdk_68_method_10_code 6 = .ok (.iload_n 1, 1) := by decide +kernel
theorem d14_7 : decode jdk_68_method_10_code 7 = .ok (.aload_n 0, 1) := by decide +kernel
theorem d14_8 : decode jdk_68_method_10_code 8 = .ok (.getfield 22, 3) := by decide +kernel
theorem d14_11 : decode jdk_68_method_10_code 11 = .ok (.ishl, 1) := by decide +kernel
theorem d14_12 : decode jdk_68_method_10_code 12 = .ok (.istore_n 3, 1) := by decide +kernel
theorem d14_13 : decode jdk_68_method_10_code 13 = .ok (.iload_n 3, 1) := by decide +kernel
theorem d14_14 : decode jdk_68_method_10_code 14 = .ok (.iload_n 2, 1) := by decide +kernel
theorem d14_15 : decode jdk_68_method_10_code 15 = .ok (.isub, 1) := by decide +kernel
theorem d14_16 : decode jdk_68_method_10_code 16 = .ok (.istore 4, 2) := by decide +kernel
theorem d14_18 : decode jdk_68_method_10_code 18 = .ok (.iload_n 2, 1) := by decide +kernel
theorem d14_19 : decode jdk_68_method_10_code 19 = .ok (.iload 4, 2) := by decide +kernel
theorem d14_21 : decode jdk_68_method_10_code 21 = .ok (.iload_n 2, 1) := by decide +kernel
theorem d14_22 : decode jdk_68_method_10_code 22 = .ok (.iconst 2, 1) := by decide +kernel
theorem d14_23 : decode jdk_68_method_10_code 23 = .ok (.aload_n 0, 1) := by decide +kernel
theorem d14_24 : decode jdk_68_method_10_code 24 = .ok (.getfield 22, 3) := by decide +kernel
theorem d14_27 : decode jdk_68_method_10_code 27 = .ok (.ishl, 1) := by decide +kernel
theorem d14_28 : decode jdk_68_method_10_code 28 = .ok (.iadd, 1) := by decide +kernel
theorem d14_29 : decode jdk_68_method_10_code 29 = .ok (.invokestatic 114, 3) := by decide +kernel
theorem d14_32 : decode jdk_68_method_10_code 32 = .ok (.istore 5, 2) := by decide +kernel
theorem d14_34 : decode jdk_68_method_10_code 34 = .ok (.iload 5, 2) := by decide +kernel
theorem d14_36 : decode jdk_68_method_10_code 36 = .ok (.ldc 39, 2) := by decide +kernel
theorem d14_38 : decode jdk_68_method_10_code 38 = .ok (.if_icmp .ne 13, 3) := by decide +kernel
theorem d14_41 : decode jdk_68_method_10_code 41 = .ok (.new 120, 3) := by decide +kernel
theorem d14_44 : decode jdk_68_method_10_code 44 = .ok (.dup, 1) := by decide +kernel
theorem d14_45 : decode jdk_68_method_10_code 45 = .ok (.ldc 122, 2) := by decide +kernel
theorem d14_47 : decode jdk_68_method_10_code 47 = .ok (.invokespecial 124, 3) := by decide +kernel
theorem d14_50 : decode jdk_68_method_10_code 50 = .ok (.athrow, 1) := by decide +kernel
theorem d14_51 : decode jdk_68_method_10_code 51 = .ok (.iload 5, 2) := by decide +kernel
theorem d14_53 : decode jdk_68_method_10_code 53 = .ok (.aload_n 0, 1) := by decide +kernel
theorem d14_54 : decode jdk_68_method_10_code 54 = .ok (.getfield 22, 3) := by decide +kernel
theorem d14_57 : decode jdk_68_method_10_code 57 = .ok (.ishr, 1) := by decide +kernel
theorem d14_58 : decode jdk_68_method_10_code 58 = .ok (.ireturn, 1) := by decide +kernel
set_option maxRecDepth 65536 in
set_option maxHeartbeats 4000000 in
theorem c_newCap (l : Launch) (Z : State) (a0 : Array Value) (hw : ∀ d ∈ tables_1, d.before a0 Z = true) (h0 : Heap) (sb v : Addr) (kv : ClassId) (vs : List Value) (cap mn : Nat) (Fv : Fld Z h0 sb "java/lang/AbstractStringBuilder" "value" "[B" (.ref v)) (Fc : Fld Z h0 sb "java/lang/AbstractStringBuilder" "coder" "B" (.int 0)) (A : Ow.AL Z h0 v kv .byte vs) (hcp : vs.length = cap) (hlt : cap < mn) (hmn : mn ≤ 64) : Ow.Pay l Z (⟨"java/lang/AbstractStringBuilder", "newCapacity", "(I)I"⟩ : MethodName) jdk_68_method_10_code 6 (some .int) ({ frames := 2, cells := 0, slots := 0, locals := 29 } : Room) #[(.ref sb), (.int (Int32.ofNat mn))] h0 (fun v h L => v = some (.int (Int32.ofNat (cap + max (mn - cap) (cap + 2)))) ∧ h = h0 ∧ L = []) := by
  refine Ow.Pay.of (Ls := #[.val (.ref sb), .val (.int (Int32.ofNat mn)), .unset, .unset, .unset, .unset]) (plainFor_of_name pn2) (fun m => by first | rfl | (simp [entryFrame, mkF, argsToLocals, Value.category]; done)) ?_
  intro p e s m below meth c T hx hby hml hown hnm hme hZ hret hlk X eT
  refine Ow.aloadN X hx (pc := 0) (hb hby d14_0) rfl rfl ?_
  refine Ow.getfield X hx hZ hown (ww hw 50 rfl) Via.refl eT Fv (pc := 1) (hb hby d14_1) ?_   -- "java/lang/AbstractStringBuilder" "value" "[B"
  intro T X eT
  refine Ow.lengthL X hx hZ eT A (Int32.ofNat cap) (by rw [hcp]) (pc := 4) (hb hby d14_4) ?_
  refine Ow.istoreN X hx (pc := 5) #[_, _, _, _, _, _] (hb hby d14_5) rfl ?_
  refine Ow.iloadN X hx (pc := 6) (hb hby d14_6) rfl ?_
  refine Ow.aloadN X hx (pc := 7) (hb hby d14_7) rfl rfl ?_
  refine Ow.getfield X hx hZ hown (ww hw 52 rfl) Via.refl eT Fc (pc := 8) (hb hby d14_8) ?_   -- "java/lang/AbstractStringBuilder" "coder" "B"
  intro T X eT
  refine Ow.ishl X hx (pc := 11) (hb hby d14_11) ?_
  rw [own_shl0]
  refine Ow.istoreN X hx (pc := 12) #[_, _, _, _, _, _] (hb hby d14_12) rfl ?_
  refine Ow.iloadN X hx (pc := 13) (hb hby d14_13) rfl ?_
  refine Ow.iloadN X hx (pc := 14) (hb hby d14_14) rfl ?_
  refine Ow.isub X hx (pc := 15) (hb hby d14_15) ?_
  rw [own_sub (Nat.le_of_lt hlt)]
  refine Ow.istore X hx (pc := 16) #[_, _, _, _, _, _] (hb hby d14_16) rfl ?_
  refine Ow.iloadN X hx (pc := 18) (hb hby d14_18) rfl ?_
  refine Ow.iload X hx (pc := 19) (hb hby d14_19) rfl ?_
  refine Ow.iloadN X hx (pc := 21) (hb hby d14_21) rfl ?_
  refine Ow.iconst X hx (pc := 22) (2) (hb hby d14_22) (by decide) ?_
  refine Ow.aloadN X hx (pc := 23) (hb hby d14_23) rfl rfl ?_
  refine Ow.getfield X hx hZ hown (ww hw 52 rfl) Via.refl eT Fc (pc := 24) (hb hby d14_24) ?_   -- "java/lang/AbstractStringBuilder" "coder" "B"
  intro T X eT
  refine Ow.ishl X hx (pc := 27) (hb hby d14_27) ?_
  rw [own_shl0]
  refine Ow.iadd X hx (pc := 28) (hb hby d14_28) ?_
  rw [own_add2]
  refine Ow.callSP X hx hZ (c_newLength l Z a0 hw h0 cap (mn - cap) (cap + 2) (by omega) (by omega) (by omega) (by omega)) rfl rfl eT hown (ww hw 89 rfl) (ww hw 90 rfl) (ww hw 91 rfl) (ww hw 92 rfl) (by decide) pd8 (by rw [hml]; rfl) (argsL := [_, _, _]) rfl rfl rfl (pc := 29) (hb hby d14_29) rfl rfl (by decide) (by decide) ?_   -- jdk/internal/util/ArraysSupport.newLength:(III)I
  intro T X eT
  dsimp only [Option.toList_some, Option.toList_none, List.cons_append, List.nil_append]
  refine Ow.istore X hx (pc := 32) #[_, _, _, _, _, _] (hb hby d14_32) rfl ?_
  refine Ow.iload X hx (pc := 34) (hb hby d14_34) rfl ?_
  refine Ow.ldcI X hx (pc := 36) (2147483647) (hb hby d14_36) hown (mvT hZ (ww hw 98 rfl)) ?_
  refine Ow.icmp_ne X hx (pc := 38) (pc' := 51) (hb hby d14_38) (by decide) (by decide) (fun h38 => ?_) (fun q => absurd ((Ow.n_eq (n := 2147483647) (by omega) (by omega)).mp q) (by omega))
  refine Ow.iload X hx (pc := 51) (hb hby d14_51) rfl ?_
  refine Ow.aloadN X hx (pc := 53) (hb hby d14_53) rfl rfl ?_
  refine Ow.getfield X hx hZ hown (ww hw 52 rfl) Via.refl eT Fc (pc := 54) (hb hby d14_54) ?_   -- "java/lang/AbstractStringBuilder" "coder" "B"
  intro T X eT
  refine Ow.ishr X hx (pc := 57) (hb hby d14_57) ?_
  rw [Ow.shr0]
  exact Ow.ireturn X hx hlk hret (hb hby d14_58) ⟨rfl, eT, rfl⟩ (by decide) (by decide)
theorem d17_0 : decode jdk_65_method_121_code 0 = .ok (.iload_n 1, 1) := by decide +kernel
theorem d17_1 : decode jdk_65_method_121_code 1 = .ok (.aload_n 0, 1) := by decide +kernel
theorem d17_2 : decode jdk_65_method_121_code 2 = .ok (.arraylength, 1) := by decide +kernel
theorem d17_3 : decode jdk_65_method_121_code 3 = .ok (.if_icmp .ne 11, 3) := by decide +kernel
theorem d17_6 : decode jdk_65_method_121_code 6 = .ok (.aload_n 0, 1) := by decide +kernel
theorem d17_7 : decode jdk_65_method_121_code 7 = .ok (.invokevirtual 310, 3) := by decide +kernel
theorem d17_10 : decode jdk_65_method_121_code 10 = .ok (.checkcast 311, 3) := by decide +kernel
theorem d17_13 : decode jdk_65_method_121_code 13 = .ok (.areturn, 1) := by decide +kernel
theorem d17_14 : decode jdk_65_method_121_code 14 = .ok (.iload_n 1, 1) := by decide +kernel
theorem d17_15 : decode jdk_65_method_121_code 15 = .ok (.newarray .byte, 2) := by decide +kernel
theorem d17_17 : decode jdk_65_method_121_code 17 = .ok (.astore_n 2, 1) := by decide +kernel
theorem d17_18 : decode jdk_65_method_121_code 18 = .ok (.aload_n 0, 1) := by decide +kernel
theorem d17_19 : decode jdk_65_method_121_code 19 = .ok (.iconst 0, 1) := by decide +kernel
theorem d17_20 : decode jdk_65_method_121_code 20 = .ok (.aload_n 2, 1) := by decide +kernel
theorem d17_21 : decode jdk_65_method_121_code 21 = .ok (.iconst 0, 1) := by decide +kernel
theorem d17_22 : decode jdk_65_method_121_code 22 = .ok (.aload_n 0, 1) := by decide +kernel
theorem d17_23 : decode jdk_65_method_121_code 23 = .ok (.arraylength, 1) := by decide +kernel
theorem d17_24 : decode jdk_65_method_121_code 24 = .ok (.iload_n 1, 1) := by decide +kernel
theorem d17_25 : decode jdk_65_method_121_code 25 = .ok (.invokestatic 304, 3) := by decide +kernel
theorem d17_28 : decode jdk_65_method_121_code 28 = .ok (.invokestatic 150, 3) := by decide +kernel
theorem d17_31 : decode jdk_65_method_121_code 31 = .ok (.aload_n 2, 1) := by decide +kernel
theorem d17_32 : decode jdk_65_method_121_code 32 = .ok (.areturn, 1) := by decide +kernel
set_option maxRecDepth 65536 in
set_option maxHeartbeats 4000000 in
theorem c_copyOf (l : Launch) (Z : State) (a0 : Array Value) (hw : ∀ d ∈ tables_1, d.before a0 Z = true) (h0 : Heap) (t : Addr) (kb : ClassId) (bs : List Int32) (n : Nat) (A : Ow.AL Z h0 t kb .byte (bs.map Value.int)) (hfit : ∀ v ∈ bs.map Value.int, fits .byte v = true) (hlt : bs.length < n) (hcap : n ≤ 130) : Ow.Pay l Z (⟨"java/util/Arrays", "copyOf", "([BI)[B"⟩ : MethodName) jdk_65_method_121_code 3 (some (.array .byte)) ({ frames := 1, cells := 1, slots := 130, locals := 18 } : Room) #[(.ref t), (.int (Int32.ofNat n))] h0 (fun v h L => ∃ d kd, v = some (.ref d) ∧ Ow.Eff h0 h [] L ∧ h0.size ≤ d ∧ Ow.AL Z h d kd .byte ((bs ++ List.replicate (n - bs.length) 0).map Value.int)) := by
  refine Ow.Pay.of (Ls := #[.val (.ref t), .val (.int (Int32.ofNat n)), .unset]) (plainFor_of_name pn1) (fun m => by first | rfl | (simp [entryFrame, mkF, argsToLocals, Value.category]; done)) ?_
  intro p e s m below meth c T hx hby hml hown hnm hme hZ hret hlk X eT
  have F := Ow.Eff.refl h0 []
  refine Ow.iloadN X hx (pc := 0) (hb hby d17_0) rfl ?_
  refine Ow.aloadN X hx (pc := 1) (hb hby d17_1) rfl rfl ?_
  refine Ow.lengthL X hx hZ eT A (Int32.ofNat bs.length) (by rw [List.length_map]) (pc := 2) (hb hby d17_2) ?_
  refine Ow.icmp_ne X hx (pc := 3) (pc' := 14) (hb hby d17_3) (by decide) (by decide) (fun h3 => ?_) (fun q => absurd ((Ow.n_eq (by omega) (by omega)).mp q) (by omega))
  refine Ow.iloadN X hx (pc := 14) (hb hby d17_14) rfl ?_
  refine Ow.newarrayL X hx hZ (ww hw 19 rfl) eT 130 (List.replicate n (.int 0)) (by rw [Ow.n_cl (by omega)]; rfl) (pc := 15) (hb hby d17_15) (Ow.n_nn (by omega)) (by rw [Ow.n_cl (by omega)]; omega) (by decide) (by decide) (by decide) ?_
  intro T h_d k_d d ha_d X eT E_d B_d
  have l_d : h0.size ≤ d := by rw [ha_d]; exact F.size
  have ne_t_d : t ≠ d := by rw [ha_d]; exact Nat.ne_of_lt A.lt
  have A := A.ext E_d
  have F := F.ext E_d
  refine Ow.astoreN X hx (pc := 17) #[_, _, _] (hb hby d17_17) rfl rfl ?_
  refine Ow.aloadN X hx (pc := 18) (hb hby d17_18) rfl rfl ?_
  refine Ow.iconst X hx (pc := 19) (0) (hb hby d17_19) (by decide) ?_
  refine Ow.aloadN X hx (pc := 20) (hb hby d17_20) rfl rfl ?_
  refine Ow.iconst X hx (pc := 21) (0) (hb hby d17_21) (by decide) ?_
  refine Ow.aloadN X hx (pc := 22) (hb hby d17_22) rfl rfl ?_
  refine Ow.lengthL X hx hZ eT A (Int32.ofNat bs.length) (by rw [List.length_map]) (pc := 23) (hb hby d17_23) ?_
  refine Ow.iloadN X hx (pc := 24) (hb hby d17_24) rfl ?_
  refine Ow.callSP X hx hZ (c_min l Z a0 hw _ _ _) rfl rfl eT hown (ww hw 103 rfl) (ww hw 104 rfl) (ww hw 95 rfl) (ww hw 105 rfl) (by decide) pd5 (by rw [hml]; rfl) (argsL := [_, _]) rfl rfl rfl (pc := 25) (hb hby d17_25) rfl rfl (by decide) (by decide) ?_   -- java/lang/Math.min:(II)I
  intro T X eT
  dsimp only [Option.toList_some, Option.toList_none, List.cons_append, List.nil_append]
  rw [show (if Int32.ofNat n < Int32.ofNat bs.length then Int32.ofNat n else Int32.ofNat bs.length) = Int32.ofNat bs.length from if_neg (fun q => absurd ((Ow.n_lt (by omega) (by omega)).mp q) (by omega))]
  refine Ow.arraycopyB X hx hZ eT hown (ww hw 106 rfl) (ww hw 109 rfl) (ww hw 107 rfl) (ww hw 108 rfl) A B_d hfit 0 0 bs.length (by rw [List.length_map]; omega) (by rw [List.length_replicate]; omega) (by rw [List.length_map]; omega) (by rw [List.length_replicate]; omega) ((bs ++ List.replicate (n - bs.length) 0).map Value.int) (own_cpy bs n) (by rw [hml]; rfl) (pc := 28) (hb hby d17_28) rfl rfl ?_
  intro T h_28 L X eT F2 B_d
  have F := F.call F2 (fun y hy => by cases List.mem_singleton.mp hy; exact Or.inr l_d)
  refine Ow.aloadN X hx (pc := 31) (hb hby d17_31) rfl rfl ?_
  exact Ow.areturn X hx hlk hret rfl rfl rfl (hb hby d17_32) ⟨d, _, rfl, by rw [eT]; exact F, l_d, by rw [eT]; exact B_d⟩ (by decide) (by decide)
theorem d13_0 : decode jdk_68_method_9_code 0 = .ok (.aload_n 0, 1) := by decide +kernel
theorem d13_1 : decode jdk_68_method_9_code 1 = .ok (.getfield 15, 3) := by decide +kernel
theorem d13_4 : decode jdk_68_method_9_code 4 = .ok (.arraylength, 1) := by decide +kernel
theorem d13_5 : decode jdk_68_method_9_code 5 = .ok (.aload_n 0, 1) := by decide +kernel
theorem d13_6 : decode jdk_68_method_9_code 6 = .ok (.getfield 22, 3) := by decide +kernel
theorem d13_9 : decode jdk_68_method_9_code 9 = .ok (.ishr, 1) := by decide +kernel
theorem d13_10 : decode jdk_68_method_9_code 10 = .ok (.istore_n 2, 1) := by decide +kernel
theorem d13_11 : decode jdk_68_method_9_code 11 = .ok (.iload_n 1, 1) := by decide +kernel
theorem d13_12 : decode jdk_68_method_9_code 12 = .ok (.iload_n 2, 1) := by decide +kernel
theorem d13_13 : decode jdk_68_method_9_code 13 = .ok (.isub, 1) := by decide +kernel
theorem d13_14 : decode jdk_68_method_9_code 14 = .ok (.ifCond .le 24, 3) := by decide +kernel
theorem d13_17 : decode jdk_68_method_9_code 17 = .ok (.aload_n 0, 1) := by decide +kernel
theorem d13_18 : decode jdk_68_method_9_code 18 = .ok (.aload_n 0, 1) := by decide +kernel
theorem d13_19 : decode jdk_68_method_9_code 19 = .ok (.getfield 15, 3) := by decide +kernel
theorem d13_22 : decode jdk_68_method_9_code 22 = .ok (.aload_n 0, 1) := by decide +kernel
theorem d13_23 : decode jdk_68_method_9_code 23 = .ok (.iload_n 1, 1) := by decide +kernel
theorem d13_24 : decode jdk_68_method_9_code 24 = .ok (.invokevirtual 104, 3) := by decide +kernel
theorem d13_27 : decode jdk_68_method_9_code 27 = .ok (.aload_n 0, 1) := by decide +kernel
theorem d13_28 : decode jdk_68_method_9_code 28 = .ok (.getfield 22, 3) := by decide +kernel
theorem d13_31 : decode jdk_68_method_9_code 31 = .ok (.ishl, 1) := by decide +kernel
theorem d13_32 : decode jdk_68_method_9_code 32 = .ok (.invokestatic 108, 3) := by decide +kernel
theorem d13_35 : decode jdk_68_method_9_code 35 = .ok (.putfield 15, 3) := by decide +kernel
theorem d13_38 : decode jdk_68_method_9_code 38 = .ok (.return_, 1) := by decide +kernel
set_option maxRecDepth 65536 in
set_option maxHeartbeats 4000000 in
theorem c_ensure (l : Launch) (Z : State) (a0 : Array Value) (hw : ∀ d ∈ tables_1, d.before a0 Z = true) (h0 : Heap) (sb v : Addr) (kv : ClassId) (bs : List Int32) (r : Nat) (SBx : own_SB Z h0 sb v kv bs r) (hfB : ∀ w ∈ (bs).map Value.int, fits .byte w = true) (mn : Nat) (hmn : mn ≤ 64) (hcap : bs.length + r ≤ 130) : Ow.Pay l Z (⟨"java/lang/AbstractStringBuilder", "ensureCapacityInternal", "(I)V"⟩ : MethodName) jdk_68_method_9_code 3 none ({ frames := 3, cells := 1, slots := 130, locals := 48 } : Room) #[(.ref sb), (.int (Int32.ofNat mn))] h0 (fun v1 h L => v1 = none ∧ Ow.Eff h0 h [sb] L ∧ ∃ v2 k2 r2, own_SB Z h sb v2 k2 bs r2 ∧ bs.length + r2 = own_gr (bs.length + r) mn ∧ (v2 = v ∨ h0.size ≤ v2)) := by
  refine Ow.Pay.of (Ls := #[.val (.ref sb), .val (.int (Int32.ofNat mn)), .unset]) (plainFor_of_name pn2) (fun m => by first | rfl | (simp [entryFrame, mkF, argsToLocals, Value.category]; done)) ?_
  intro p e s m below meth c T hx hby hml hown hnm hme hZ hret hlk X eT
  have hfit : ∀ w ∈ (bs ++ List.replicate r (0 : Int32)).map Value.int, fits .byte w = true := own_fitA hfB (own_fitR r)
  by_cases hg : mn ≤ bs.length + r
  · have F := Ow.Eff.refl h0 [sb]
    refine Ow.aloadN X hx (pc := 0) (hb hby d13_0) rfl rfl ?_
    refine Ow.getfield X hx hZ hown (ww hw 50 rfl) Via.refl eT SBx.2.1 (pc := 1) (hb hby d13_1) ?_   -- "java/lang/AbstractStringBuilder" "value" "[B"
    intro T X eT
    refine Ow.lengthL X hx hZ eT SBx.2.2.2.2 (Int32.ofNat (bs.length + r)) (by rw [own_len]) (pc := 4) (hb hby d13_4) ?_
    refine Ow.aloadN X hx (pc := 5) (hb hby d13_5) rfl rfl ?_
    refine Ow.getfield X hx hZ hown (ww hw 52 rfl) Via.refl eT SBx.2.2.1 (pc := 6) (hb hby d13_6) ?_   -- "java/lang/AbstractStringBuilder" "coder" "B"
    intro T X eT
    refine Ow.ishr X hx (pc := 9) (hb hby d13_9) ?_
    rw [Ow.shr0]
    refine Ow.istoreN X hx (pc := 10) #[_, _, _] (hb hby d13_10) rfl ?_
    refine Ow.iloadN X hx (pc := 11) (hb hby d13_11) rfl ?_
    refine Ow.iloadN X hx (pc := 12) (hb hby d13_12) rfl ?_
    refine Ow.isub X hx (pc := 13) (hb hby d13_13) ?_
    refine Ow.if_le X hx (pc := 14) (pc' := 38) (hb hby d13_14) (by decide) (by decide) (fun h14 => ?_) (fun q => absurd q (own_subneg hg (by omega)))
    exact Ow.vreturn X hx hlk hret (hb hby d13_38) ⟨rfl, by rw [eT]; exact F, v, kv, r, by rw [eT]; exact SBx, (if_pos hg).symm, Or.inl rfl⟩ (by decide) (by decide)
  · have F := Ow.Eff.refl h0 [sb]
    have hsl0 : sb < h0.size := SBx.1.lt
    have sn_value_coder : RoadKit.slotOf Z "java/lang/AbstractStringBuilder" "value" "[B" ≠ RoadKit.slotOf Z "java/lang/AbstractStringBuilder" "coder" "B" := slot_ne (a0 := a0) (C := "java/lang/StringBuilder") (Or.inl (ww hw 51 rfl)) (Or.inl (ww hw 53 rfl)) (by decide) (t := (.array .byte)) (t' := .byte) (by decide) (by decide)
    have sn_value_count : RoadKit.slotOf Z "java/lang/AbstractStringBuilder" "value" "[B" ≠ RoadKit.slotOf Z "java/lang/AbstractStringBuilder" "count" "I" := slot_ne (a0 := a0) (C := "java/lang/StringBuilder") (Or.inl (ww hw 51 rfl)) (Or.inl (ww hw 78 rfl)) (by decide) (t := (.array .byte)) (t' := .int) (by decide) (by decide)
    have sn_coder_count : RoadKit.slotOf Z "java/lang/AbstractStringBuilder" "coder" "B" ≠ RoadKit.slotOf Z "java/lang/AbstractStringBuilder" "count" "I" := slot_ne (a0 := a0) (C := "java/lang/StringBuilder") (Or.inl (ww hw 53 rfl)) (Or.inl (ww hw 78 rfl)) (by decide) (t := .byte) (t' := .int) (by decide) (by decide)
    obtain ⟨c2, hc2⟩ : ∃ q, q = bs.length + r + max (mn - (bs.length + r)) (bs.length + r + 2) := ⟨_, rfl⟩
    have hc3 : bs.length + r < c2 ∧ mn ≤ c2 ∧ c2 ≤ 130 := by omega
    have hwl : (bs ++ List.replicate r (0 : Int32)).length = bs.length + r := by rw [List.length_append, List.length_replicate]
    refine Ow.aloadN X hx (pc := 0) (hb hby d13_0) rfl rfl ?_
    refine Ow.getfield X hx hZ hown (ww hw 50 rfl) Via.refl eT SBx.2.1 (pc := 1) (hb hby d13_1) ?_   -- "java/lang/AbstractStringBuilder" "value" "[B"
    intro T X eT
    refine Ow.lengthL X hx hZ eT SBx.2.2.2.2 (Int32.ofNat (bs.length + r)) (by rw [own_len]) (pc := 4) (hb hby d13_4) ?_
    refine Ow.aloadN X hx (pc := 5) (hb hby d13_5) rfl rfl ?_
    refine Ow.getfield X hx hZ hown (ww hw 52 rfl) Via.refl eT SBx.2.2.1 (pc := 6) (hb hby d13_6) ?_   -- "java/lang/AbstractStringBuilder" "coder" "B"
    intro T X eT
    refine Ow.ishr X hx (pc := 9) (hb hby d13_9) ?_
    rw [Ow.shr0]
    refine Ow.istoreN X hx (pc := 10) #[_, _, _] (hb hby d13_10) rfl ?_
    refine Ow.iloadN X hx (pc := 11) (hb hby d13_11) rfl ?_
    refine Ow.iloadN X hx (pc := 12) (hb hby d13_12) rfl ?_
    refine Ow.isub X hx (pc := 13) (hb hby d13_13) ?_
    rw [own_sub (by omega)]
    refine Ow.if_le X hx (pc := 14) (pc' := 38) (hb hby d13_14) (by decide) (by decide) (fun q => absurd ((Ow.n_lt (i := 0) (by omega) (by omega)).mpr (by omega)) q) (fun h14 => ?_)
    refine Ow.aloadN X hx (pc := 17) (hb hby d13_17) rfl rfl ?_
    refine Ow.aloadN X hx (pc := 18) (hb hby d13_18) rfl rfl ?_
    refine Ow.getfield X hx hZ hown (ww hw 50 rfl) Via.refl eT SBx.2.1 (pc := 19) (hb hby d13_19) ?_   -- "java/lang/AbstractStringBuilder" "value" "[B"
    intro T X eT
    refine Ow.aloadN X hx (pc := 22) (hb hby d13_22) rfl rfl ?_
    refine Ow.iloadN X hx (pc := 23) (hb hby d13_23) rfl ?_
    refine Ow.callVP X hx hZ (c_newCap l Z a0 hw _ sb v kv _ (bs.length + r) mn SBx.2.1 SBx.2.2.1 SBx.2.2.2.2 (own_len bs r) (by omega) hmn) rfl rfl eT hown (ww hw 84 rfl) (Ow.decl_of (ww hw 88 rfl) (ww hw 85 rfl)) (ww hw 87 rfl) (ww hw 85 rfl) (ww hw 46 rfl) (ww hw 88 rfl) (by decide) pd9 (by rw [hml]; rfl) SBx.1 (argsL := [_]) rfl rfl rfl (pc := 24) (hb hby d13_24) rfl rfl (by decide) (by decide) ?_   -- java/lang/AbstractStringBuilder.newCapacity:(I)I
    intro T X eT
    dsimp only [Option.toList_some, Option.toList_none, List.cons_append, List.nil_append]
    rw [← hc2]
    refine Ow.aloadN X hx (pc := 27) (hb hby d13_27) rfl rfl ?_
    refine Ow.getfield X hx hZ hown (ww hw 52 rfl) Via.refl eT SBx.2.2.1 (pc := 28) (hb hby d13_28) ?_   -- "java/lang/AbstractStringBuilder" "coder" "B"
    intro T X eT
    refine Ow.ishl X hx (pc := 31) (hb hby d13_31) ?_
    rw [own_shl0]
    refine Ow.callS X hx hZ (c_copyOf l Z a0 hw _ v kv _ c2 SBx.2.2.2.2 hfit (by rw [hwl]; exact hc3.1) hc3.2.2) eT hown (ww hw 99 rfl) (ww hw 100 rfl) (ww hw 101 rfl) (ww hw 102 rfl) (by decide) pd10 (by rw [hml]; rfl) (argsL := [_, _]) rfl rfl rfl (pc := 32) (hb hby d13_32) rfl rfl (by decide) (by decide) ?_
    rintro _ T L X ⟨d, kd, rfl, F2, l_d, B_d⟩
    dsimp only [Option.toList_some, Option.toList_none, List.cons_append, List.nil_append]
    have F := F.call F2 (fun _ q => nomatch q)
    have SBx := SBx.ext (Ow.Keep.ext0 F2.1)
    rw [own_rep bs r c2 (Nat.le_of_lt hc3.1)] at B_d
    have ne_sb_d : sb ≠ d := Nat.ne_of_lt (Nat.lt_of_lt_of_le hsl0 l_d)
    obtain ⟨h_32, e_32⟩ : ∃ q, q = T.heap := ⟨_, rfl⟩
    rw [← e_32] at F SBx B_d
    have eT : T.heap = h_32 := e_32.symm
    refine Ow.putfield X hx hZ hown (ww hw 50 rfl) Via.refl eT SBx.2.1 SBx.1 (Or.inl (ww hw 51 rfl)) (ww hw 37 rfl) (ty := .array .byte) (by decide) rfl rfl (pc := 35) (hb hby d13_35) ?_
    intro T h_35 X eT W
    have F := F.wr W (Or.inl (by simp))
    have SBn : own_SB Z h_35 sb d kd bs (c2 - bs.length) := ⟨SBx.1.wr W, SBx.2.1.same W, SBx.2.2.1.other W (Or.inr (Ne.symm sn_value_coder)), SBx.2.2.2.1.other W (Or.inr (Ne.symm sn_value_count)), B_d.other W (Ne.symm ne_sb_d)⟩
    exact Ow.vreturn X hx hlk hret (hb hby d13_38) ⟨rfl, by rw [eT]; exact F, d, kd, c2 - bs.length, by rw [eT]; exact SBn, (by rw [show bs.length + (c2 - bs.length) = c2 by omega, hc2]; exact (if_neg hg).symm), Or.inr l_d⟩ (by decide) (by decide)
theorem d20_0 : decode jdk_68_method_71_code 0 = .ok (.getstatic 18, 3) := by decide +kernel
theorem d20_3 : decode jdk_68_method_71_code 3 = .ok (.ifCond .eq 18, 3) := by decide +kernel
theorem d20_6 : decode jdk_68_method_71_code 6 = .ok (.aload_n 0, 1) := by decide +kernel
theorem d20_7 : decode jdk_68_method_71_code 7 = .ok (.getfield 22, 3) := by decide +kernel
theorem d20_10 : decode jdk_68_method_71_code 10 = .ok (.aload_n 1, 1) := by decide +kernel
theorem d20_11 : decode jdk_68_method_71_code 11 = .ok (.invokevirtual 40, 3) := by decide +kernel
theorem d20_14 : decode jdk_68_method_71_code 14 = .ok (.if_icmp .eq 7, 3) := by decide +kernel
theorem d20_17 : decode jdk_68_method_71_code 17 = .ok (.aload_n 0, 1) := by decide +kernel
theorem d20_18 : decode jdk_68_method_71_code 18 = .ok (.invokevirtual 195, 3) := by decide +kernel
theorem d20_21 : decode jdk_68_method_71_code 21 = .ok (.return_, 1) := by decide +kernel
set_option maxRecDepth 65536 in
set_option maxHeartbeats 4000000 in
theorem c_infl (l : Launch) (Z : State) (a0 : Array Value) (hw : ∀ d ∈ tables_1, d.before a0 Z = true) (h0 : Heap) (z : Int32) (S : Sta Z h0 "java/lang/String" "COMPACT_STRINGS" "Z" (.int z)) (hz : ¬ z = 0) (sb x : Addr) (Fc : Fld Z h0 sb "java/lang/AbstractStringBuilder" "coder" "B" (.int 0)) (E : Exa Z h0 x "java/lang/String") (C0 : Fld Z h0 x "java/lang/String" "coder" "B" (.int 0)) : Ow.Pay l Z (⟨"java/lang/AbstractStringBuilder", "inflateIfNeededFor", "(Ljava/lang/String;)V"⟩ : MethodName) jdk_68_method_71_code 2 none ({ frames := 1, cells := 0, slots := 0, locals := 13 } : Room) #[(.ref sb), (.ref x)] h0 (fun v h L => v = none ∧ h = h0 ∧ L = []) := by
  refine Ow.Pay.of (Ls := #[.val (.ref sb), .val (.ref x)]) (plainFor_of_name pn2) (fun m => by first | rfl | (simp [entryFrame, mkF, argsToLocals, Value.category]; done)) ?_
  intro p e s m below meth c T hx hby hml hown hnm hme hZ hret hlk X eT
  refine Ow.getstatic X hx hZ hown (ww hw 49 rfl) Via.refl eT S (pc := 0) (hb hby d20_0) ?_   -- "java/lang/String" "COMPACT_STRINGS" "Z"
  intro T X eT
  refine Ow.if_eq X hx (pc := 3) (pc' := 21) (hb hby d20_3) (by decide) (by decide) (fun q => absurd q hz) (fun h3 => ?_)
  refine Ow.aloadN X hx (pc := 6) (hb hby d20_6) rfl rfl ?_
  refine Ow.getfield X hx hZ hown (ww hw 52 rfl) Via.refl eT Fc (pc := 7) (hb hby d20_7) ?_   -- "java/lang/AbstractStringBuilder" "coder" "B"
  intro T X eT
  refine Ow.aloadN X hx (pc := 10) (hb hby d20_10) rfl rfl ?_
  refine Ow.callVP X hx hZ (c_coder l Z a0 hw h0 z x S hz C0) rfl rfl eT hown (ww hw 120 rfl) (ww hw 73 rfl) (ww hw 75 rfl) (ww hw 74 rfl) (ww hw 2 rfl) (ww hw 76 rfl) (by decide) pd3 (by rw [hml]; rfl) E (argsL := []) rfl rfl rfl (pc := 11) (hb hby d20_11) rfl rfl (by decide) (by decide) ?_   -- java/lang/String.coder:()B
  intro T X eT
  dsimp only [Option.toList_some, Option.toList_none, List.cons_append, List.nil_append]
  refine Ow.icmp_eq X hx (pc := 14) (pc' := 21) (hb hby d20_14) (by decide) (by decide) (fun h14 => ?_) (fun q => absurd rfl q)
  exact Ow.vreturn X hx hlk hret (hb hby d20_21) ⟨rfl, eT, rfl⟩ (by decide) (by decide)
theorem d21_0 : decode jdk_42_method_147_code 0 = .ok (.aload_n 0, 1) := by decide +kernel
theorem d21_1 : decode jdk_42_method_147_code 1 = .ok (.invokevirtual 335, 3) := by decide +kernel
theorem d21_4 : decode jdk_42_method_147_code 4 = .ok (.iload_n 3, 1) := by decide +kernel
theorem d21_5 : decode jdk_42_method_147_code 5 = .ok (.if_icmp .ne 23, 3) := by decide +kernel
theorem d21_8 : decode jdk_42_method_147_code 8 = .ok (.aload_n 0, 1) := by decide +kernel
theorem d21_9 : decode jdk_42_method_147_code 9 = .ok (.getfield 9, 3) := by decide +kernel
theorem d21_12 : decode jdk_42_method_147_code 12 = .ok (.iconst 0, 1) := by decide +kernel
theorem d21_13 : decode jdk_42_method_147_code 13 = .ok (.aload_n 1, 1) := by decide +kernel
theorem d21_14 : decode jdk_42_method_147_code 14 = .ok (.iload_n 2, 1) := by decide +kernel
theorem d21_15 : decode jdk_42_method_147_code 15 = .ok (.iload_n 3, 1) := by decide +kernel
theorem d21_16 : decode jdk_42_method_147_code 16 = .ok (.ishl, 1) := by decide +kernel
theorem d21_17 : decode jdk_42_method_147_code 17 = .ok (.aload_n 0, 1) := by decide +kernel
theorem d21_18 : decode jdk_42_method_147_code 18 = .ok (.getfield 9, 3) := by decide +kernel
theorem d21_21 : decode jdk_42_method_147_code 21 = .ok (.arraylength, 1) := by decide +kernel
theorem d21_22 : decode jdk_42_method_147_code 22 = .ok (.invokestatic 212, 3) := by decide +kernel
theorem d21_25 : decode jdk_42_method_147_code 25 = .ok (.goto 18, 3) := by decide +kernel
theorem d21_28 : decode jdk_42_method_147_code 28 = .ok (.aload_n 0, 1) := by decide +kernel
theorem d21_29 : decode jdk_42_method_147_code 29 = .ok (.getfield 9, 3) := by decide +kernel
theorem d21_32 : decode jdk_42_method_147_code 32 = .ok (.iconst 0, 1) := by decide +kernel
theorem d21_33 : decode jdk_42_method_147_code 33 = .ok (.aload_n 1, 1) := by decide +kernel
theorem d21_34 : decode jdk_42_method_147_code 34 = .ok (.iload_n 2, 1) := by decide +kernel
theorem d21_35 : decode jdk_42_method_147_code 35 = .ok (.aload_n 0, 1) := by decide +kernel
theorem d21_36 : decode jdk_42_method_147_code 36 = .ok (.getfield 9, 3) := by decide +kernel
theorem d21_39 : decode jdk_42_method_147_code 39 = .ok (.arraylength, 1) := by decide +kernel
theorem d21_40 : decode jdk_42_method_147_code 40 = .ok (.invokestatic 106, 3) := by decide +kernel
theorem d21_43 : decode jdk_42_method_147_code 43 = .ok (.return_, 1) := by decide +kernel
set_option maxRecDepth 65536 in
set_option maxHeartbeats 4000000 in
theorem c_getB (l : Launch) (Z : State) (a0 : Array Value) (hw : ∀ d ∈ tables_1, d.before a0 Z = true) (h0 : Heap) (z : Int32) (S : Sta Z h0 "java/lang/String" "COMPACT_STRINGS" "Z" (.int z)) (hz : ¬ z = 0) (x t : Addr) (kb : ClassId) (cs : List Int32) (St : Ow.Str Z h0 x t kb cs) (hfC : ∀ w ∈ (cs).map Value.int, fits .byte w = true) (v : Addr) (kv : ClassId) (us : List Int32) (n : Nat) (B : Ow.AL Z h0 v kv .byte (us.map Value.int)) (hn : n + cs.length ≤ us.length) (hu : us.length ≤ 130) : Ow.Pay l Z (⟨"java/lang/String", "getBytes", "([BIB)V"⟩ : MethodName) jdk_42_method_147_code 4 none ({ frames := 1, cells := 0, slots := 0, locals := 18 } : Room) #[(.ref x), (.ref v), (.int (Int32.ofNat n)), (.int 0)] h0 (fun v1 h L => v1 = none ∧ Ow.Eff h0 h [v] L ∧ Ow.AL Z h v kv .byte ((us.take n ++ (cs ++ us.drop (n + cs.length))).map Value.int)) := by
  refine Ow.Pay.of (Ls := #[.val (.ref x), .val (.ref v), .val (.int (Int32.ofNat n)), .val (.int 0)]) (plainFor_of_name pn0) (fun m => by first | rfl | (simp [entryFrame, mkF, argsToLocals, Value.category]; done)) ?_
  intro p e s m below meth c T hx hby hml hown hnm hme hZ hret hlk X eT
  have F := Ow.Eff.refl h0 [v]
  refine Ow.aloadN X hx (pc := 0) (hb hby d21_0) rfl rfl ?_
  refine Ow.callVP X hx hZ (c_coder l Z a0 hw h0 z x S hz St.2.1) rfl rfl eT hown (ww hw 72 rfl) (ww hw 73 rfl) (ww hw 75 rfl) (ww hw 74 rfl) (ww hw 2 rfl) (ww hw 76 rfl) (by decide) pd3 (by rw [hml]; rfl) St.1 (argsL := []) rfl rfl rfl (pc := 1) (hb hby d21_1) rfl rfl (by decide) (by decide) ?_   -- java/lang/String.coder:()B
  intro T X eT
  dsimp only [Option.toList_some, Option.toList_none, List.cons_append, List.nil_append]
  refine Ow.iloadN X hx (pc := 4) (hb hby d21_4) rfl ?_
  refine Ow.icmp_ne X hx (pc := 5) (pc' := 28) (hb hby d21_5) (by decide) (by decide) (fun q => absurd rfl q) (fun h5 => ?_)
  refine Ow.aloadN X hx (pc := 8) (hb hby d21_8) rfl rfl ?_
  refine Ow.getfield X hx hZ hown (ww hw 28 rfl) Via.refl eT St.2.2.1 (pc := 9) (hb hby d21_9) ?_   -- "java/lang/String" "value" "[B"
  intro T X eT
  refine Ow.iconst X hx (pc := 12) (0) (hb hby d21_12) (by decide) ?_
  refine Ow.aloadN X hx (pc := 13) (hb hby d21_13) rfl rfl ?_
  refine Ow.iloadN X hx (pc := 14) (hb hby d21_14) rfl ?_
  refine Ow.iloadN X hx (pc := 15) (hb hby d21_15) rfl ?_
  refine Ow.ishl X hx (pc := 16) (hb hby d21_16) ?_
  rw [own_shl0]
  refine Ow.aloadN X hx (pc := 17) (hb hby d21_17) rfl rfl ?_
  refine Ow.getfield X hx hZ hown (ww hw 28 rfl) Via.refl eT St.2.2.1 (pc := 18) (hb hby d21_18) ?_   -- "java/lang/String" "value" "[B"
  intro T X eT
  refine Ow.lengthL X hx hZ eT St.2.2.2 (Int32.ofNat cs.length) (by rw [List.length_map]) (pc := 21) (hb hby d21_21) ?_
  refine Ow.arraycopyB X hx hZ eT hown (ww hw 126 rfl) (ww hw 109 rfl) (ww hw 107 rfl) (ww hw 108 rfl) St.2.2.2 B hfC 0 n cs.length (by rw [List.length_map]; omega) (by rw [List.length_map]; omega) (by rw [List.length_map]; omega) (by rw [List.length_map]; omega) ((us.take n ++ (cs ++ us.drop (n + cs.length))).map Value.int) (by rw [List.drop_zero, show (List.map Value.int cs).take cs.length = List.map Value.int cs from List.take_of_length_le (by simp)]; simp [List.map_take, List.map_drop]) (by rw [hml]; rfl) (pc := 22) (hb hby d21_22) rfl rfl ?_
  intro T h_22 L X eT F2 B
  have F := F.call F2 (fun y hy => by cases List.mem_singleton.mp hy; exact Or.inl (by simp))
  refine Ow.goto X hx (pc := 25) (pc' := 43) (hb hby d21_25) (by decide) (by decide) ?_
  exact Ow.vreturn X hx hlk hret (hb hby d21_43) ⟨rfl, by rw [eT]; exact F, by rw [eT]; exact B⟩ (by decide) (by decide)
theorem d19_0 : decode jdk_68_method_73_code 0 = .ok (.aload_n 0, 1) := by decide +kernel
theorem d19_1 : decode jdk_68_method_73_code 1 = .ok (.aload_n 2, 1) := by decide +kernel
theorem d19_2 : decode jdk_68_method_73_code 2 = .ok (.invokevirtual 397, 3) := by decide +kernel
theorem d19_5 : decode jdk_68_method_73_code 5 = .ok (.aload_n 2, 1) := by decide +kernel
theorem d19_6 : decode jdk_68_method_73_code 6 = .ok (.aload_n 0, 1) := by decide +kernel
theorem d19_7 : decode jdk_68_method_73_code 7 = .ok (.getfield 15, 3) := by decide +kernel
theorem d19_10 : decode jdk_68_method_73_code 10 = .ok (.iload_n 1, 1) := by decide +kernel
theorem d19_11 : decode jdk_68_method_73_code 11 = .ok (.aload_n 0, 1) := by decide +kernel
theorem d19_12 : decode jdk_68_method_73_code 12 = .ok (.getfield 22, 3) := by decide +kernel
theorem d19_15 : decode jdk_68_method_73_code 15 = .ok (.invokevirtual 399, 3) := by decide +kernel
theorem d19_18 : decode jdk_68_method_73_code 18 = .ok (.return_, 1) := by decide +kernel
set_option maxRecDepth 65536 in
set_option maxHeartbeats 4000000 in
theorem c_putStr (l : Launch) (Z : State) (a0 : Array Value) (hw : ∀ d ∈ tables_1, d.before a0 Z = true) (h0 : Heap) (z : Int32) (S : Sta Z h0 "java/lang/String" "COMPACT_STRINGS" "Z" (.int z)) (hz : ¬ z = 0) (sb v : Addr) (kv : ClassId) (bs : List Int32) (r : Nat) (SBx : own_SB Z h0 sb v kv bs r) (x t : Addr) (kb : ClassId) (cs : List Int32) (St : Ow.Str Z h0 x t kb cs) (hfC : ∀ w ∈ (cs).map Value.int, fits .byte w = true) (hr : cs.length ≤ r) (hcap : bs.length + r ≤ 130) : Ow.Pay l Z (⟨"java/lang/AbstractStringBuilder", "putStringAt", "(ILjava/lang/String;)V"⟩ : MethodName) jdk_68_method_73_code 3 none ({ frames := 2, cells := 0, slots := 0, locals := 33 } : Room) #[(.ref sb), (.int (Int32.ofNat bs.length)), (.ref x)] h0 (fun v1 h L => v1 = none ∧ Ow.Eff h0 h [v] L ∧ Ow.AL Z h v kv .byte (((bs ++ cs) ++ List.replicate (r - cs.length) 0).map Value.int)) := by
  refine Ow.Pay.of (Ls := #[.val (.ref sb), .val (.int (Int32.ofNat bs.length)), .val (.ref x)]) (plainFor_of_name pn2) (fun m => by first | rfl | (simp [entryFrame, mkF, argsToLocals, Value.category]; done)) ?_
  intro p e s m below meth c T hx hby hml hown hnm hme hZ hret hlk X eT
  have F := Ow.Eff.refl h0 [v]
  have hwl : (bs ++ List.replicate r (0 : Int32)).length = bs.length + r := by rw [List.length_append, List.length_replicate]
  refine Ow.aloadN X hx (pc := 0) (hb hby d19_0) rfl rfl ?_
  refine Ow.aloadN X hx (pc := 1) (hb hby d19_1) rfl rfl ?_
  refine Ow.callVP X hx hZ (c_infl l Z a0 hw _ z S hz sb x SBx.2.2.1 St.1 St.2.1) rfl rfl eT hown (ww hw 115 rfl) (Ow.decl_of (ww hw 119 rfl) (ww hw 116 rfl)) (ww hw 118 rfl) (ww hw 116 rfl) (ww hw 46 rfl) (ww hw 119 rfl) (by decide) pd11 (by rw [hml]; rfl) SBx.1 (argsL := [_]) rfl rfl rfl (pc := 2) (hb hby d19_2) rfl rfl (by decide) (by decide) ?_   -- java/lang/AbstractStringBuilder.inflateIfNeededFor:(Ljava/lang/String;)V
  intro T X eT
  dsimp only [Option.toList_some, Option.toList_none, List.cons_append, List.nil_append]
  refine Ow.aloadN X hx (pc := 5) (hb hby d19_5) rfl rfl ?_
  refine Ow.aloadN X hx (pc := 6) (hb hby d19_6) rfl rfl ?_
  refine Ow.getfield X hx hZ hown (ww hw 50 rfl) Via.refl eT SBx.2.1 (pc := 7) (hb hby d19_7) ?_   -- "java/lang/AbstractStringBuilder" "value" "[B"
  intro T X eT
  refine Ow.iloadN X hx (pc := 10) (hb hby d19_10) rfl ?_
  refine Ow.aloadN X hx (pc := 11) (hb hby d19_11) rfl rfl ?_
  refine Ow.getfield X hx hZ hown (ww hw 52 rfl) Via.refl eT SBx.2.2.1 (pc := 12) (hb hby d19_12) ?_   -- "java/lang/AbstractStringBuilder" "coder" "B"
  intro T X eT
  refine Ow.callV X hx hZ (c_getB l Z a0 hw _ z S hz x t kb cs St hfC v kv _ bs.length SBx.2.2.2.2 (by rw [hwl]; omega) (by rw [hwl]; omega)) eT hown (ww hw 121 rfl) (ww hw 122 rfl) (ww hw 124 rfl) (ww hw 123 rfl) (ww hw 2 rfl) (ww hw 125 rfl) (by decide) pd12 (by rw [hml]; rfl) St.1 (argsL := [_, _, _]) rfl rfl rfl (pc := 15) (hb hby d19_15) rfl rfl (by decide) (by decide) ?_
  rintro _ T L X ⟨rfl, F2, B⟩
  dsimp only [Option.toList_some, Option.toList_none, List.cons_append, List.nil_append]
  have F := F.call F2 (fun y hy => by cases List.mem_singleton.mp hy; exact Or.inl (by simp))
  rw [own_put cs r bs] at B
  exact Ow.vreturn X hx hlk hret (hb hby d19_18) ⟨rfl, F, B⟩ (by decide) (by decide)
theorem d10_0 : decode jdk_68_method_22_code 0 = .ok (.aload_n 1, 1) := by decide +kernel
theorem d10_1 : decode jdk_68_method_22_code 1 = .ok (.ifnonnull 8, 3) := by decide +kernel
theorem d10_4 : decode jdk_68_method_22_code 4 = .ok (.aload_n 0, 1) := by decide +kernel
theorem d10_5 : decode jdk_68_method_22_code 5 = .ok (.invokevirtual 204, 3) := by decide +kernel
theorem d10_8 : decode jdk_68_method_22_code 8 = .ok (.areturn, 1) := by decide +kernel
theorem d10_9 : decode jdk_68_method_22_code 9 = .ok (.aload_n 1, 1) := by decide +kernel
theorem d10_10 : decode jdk_68_method_22_code 10 = .ok (.invokevirtual 32, 3) := by decide +kernel
theorem d10_13 : decode jdk_68_method_22_code 13 = .ok (.istore_n 2, 1) := by decide +kernel
theorem d10_14 : decode jdk_68_method_22_code 14 = .ok (.aload_n 0, 1) := by decide +kernel
theorem d10_15 : decode jdk_68_method_22_code 15 = .ok (.aload_n 0, 1) := by decide +kernel
theorem d10_16 : decode jdk_68_method_22_code 16 = .ok (.getfield 79, 3) := by decide +kernel
theorem d10_19 : decode jdk_68_method_22_code 19 = .ok (.iload_n 2, 1) := by decide +kernel
theorem d10_20 : decode jdk_68_method_22_code 20 = .ok (.iadd, 1) := by decide +kernel
theorem d10_21 : decode jdk_68_method_22_code 21 = .ok (.invokevirtual 100, 3) := by decide +kernel
theorem d10_24 : decode jdk_68_method_22_code 24 = .ok (.aload_n 0, 1) := by decide +kernel
theorem d10_25 : decode jdk_68_method_22_code 25 = .ok (.aload_n 0, 1) := by decide +kernel
theorem d10_26 : decode jdk_68_method_22_code 26 = .ok (.getfield 79, 3) := by decide +kernel
theorem d10_29 : decode jdk_68_method_22_code 29 = .ok (.aload_n 1, 1) := by decide +kernel
theorem d10_30 : decode jdk_68_method_22_code 30 = .ok (.invokevirtual 208, 3) := by decide +kernel
theorem d10_33 : decode jdk_68_method_22_code 33 = .ok (.aload_n 0, 1) := by decide +kernel
theorem d10_34 : decode jdk_68_method_22_code 34 = .ok (.dup, 1) := by decide +kernel
theorem d10_35 : decode jdk_68_method_22_code 35 = .ok (.getfield 79, 3) := by decide +kernel
theorem d10_38 : decode jdk_68_method_22_code 38 = .ok (.iload_n 2, 1) := by decide +kernel
theorem d10_39 : decode jdk_68_method_22_code 39 = .ok (.iadd, 1) := by decide +kernel
theorem d10_40 : decode jdk_68_method_22_code 40 = .ok (.putfield 79, 3) := by decide +kernel
theorem d10_43 : decode jdk_68_method_22_code 43 = .ok (.aload_n 0, 1) := by decide +kernel
theorem d10_44 : decode jdk_68_method_22_code 44 = .ok (.areturn, 1) := by decide +kernel
set_option maxRecDepth 65536 in
set_option maxHeartbeats 40000000 in
theorem c_asbapp (l : Launch) (Z : State) (a0 : Array Value) (hw : ∀ d ∈ tables_1, d.before a0 Z = true) (h0 : Heap) (z : Int32) (S : Sta Z h0 "java/lang/String" "COMPACT_STRINGS" "Z" (.int z)) (hz : ¬ z = 0) (sb v : Addr) (kv : ClassId) (bs : List Int32) (r : Nat) (SBx : own_SB Z h0 sb v kv bs r) (hfB : ∀ w ∈ (bs).map Value.int, fits .byte w = true) (x t : Addr) (kb : ClassId) (cs : List Int32) (St : Ow.Str Z h0 x t kb cs) (hfC : ∀ w ∈ (cs).map Value.int, fits .byte w = true) (n1 : x ≠ sb) (n2 : t ≠ sb) (n3 : x ≠ v) (n4 : t ≠ v) (n5 : sb ≠ v) (hm : bs.length + cs.length ≤ 64) (hcap : bs.length + r ≤ 130) : Ow.Pay l Z (⟨"java/lang/AbstractStringBuilder", "append", "(Ljava/lang/String;)Ljava/lang/AbstractStringBuilder;"⟩ : MethodName) jdk_68_method_22_code 3 (some (.object "java/lang/AbstractStringBuilder")) ({ frames := 4, cells := 1, slots := 130, locals := 62 } : Room) #[(.ref sb), (.ref x)] h0 (fun v1 h L => v1 = some (.ref sb) ∧ Ow.Eff h0 h [sb, v] L ∧ ∃ v2 k2 r2, own_SB Z h sb v2 k2 (bs ++ cs) r2 ∧ bs.length + cs.length + r2 = own_gr (bs.length + r) (bs.length + cs.length) ∧ (v2 = v ∨ h0.size ≤ v2)) := by
  refine Ow.Pay.of (Ls := #[.val (.ref sb), .val (.ref x), .unset]) (plainFor_of_name pn2) (fun m => by first | rfl | (simp [entryFrame, mkF, argsToLocals, Value.category]; done)) ?_
  intro p e s m below meth c T hx hby hml hown hnm hme hZ hret hlk X eT
  have F := Ow.Eff.refl h0 [sb, v]
  have sn_value_coder : RoadKit.slotOf Z "java/lang/AbstractStringBuilder" "value" "[B" ≠ RoadKit.slotOf Z "java/lang/AbstractStringBuilder" "coder" "B" := slot_ne (a0 := a0) (C := "java/lang/StringBuilder") (Or.inl (ww hw 51 rfl)) (Or.inl (ww hw 53 rfl)) (by decide) (t := (.array .byte)) (t' := .byte) (by decide) (by decide)
  have sn_value_count : RoadKit.slotOf Z "java/lang/AbstractStringBuilder" "value" "[B" ≠ RoadKit.slotOf Z "java/lang/AbstractStringBuilder" "count" "I" := slot_ne (a0 := a0) (C := "java/lang/StringBuilder") (Or.inl (ww hw 51 rfl)) (Or.inl (ww hw 78 rfl)) (by decide) (t := (.array .byte)) (t' := .int) (by decide) (by decide)
  have sn_coder_count : RoadKit.slotOf Z "java/lang/AbstractStringBuilder" "coder" "B" ≠ RoadKit.slotOf Z "java/lang/AbstractStringBuilder" "count" "I" := slot_ne (a0 := a0) (C := "java/lang/StringBuilder") (Or.inl (ww hw 53 rfl)) (Or.inl (ww hw 78 rfl)) (by decide) (t := .byte) (t' := .int) (by decide) (by decide)
  have hsl0 : sb < h0.size := SBx.1.lt
  have P_sb := Ow.Exa.plain SBx.1
  have hxl := St.lt
  have htl := St.ltB
  refine Ow.aloadN X hx (pc := 0) (hb hby d10_0) rfl rfl ?_
  refine Ow.ifnonnull_r X hx (pc := 1) (pc' := 9) (hb hby d10_1) (by decide) (by decide) ?_
  refine Ow.aloadN X hx (pc := 9) (hb hby d10_9) rfl rfl ?_
  refine Ow.callVP X hx hZ (c_length l Z a0 hw _ z x t kb cs S hz St) rfl rfl eT hown (ww hw 67 rfl) (ww hw 68 rfl) (ww hw 70 rfl) (ww hw 69 rfl) (ww hw 2 rfl) (ww hw 71 rfl) (by decide) pd13 (by rw [hml]; rfl) St.1 (argsL := []) rfl rfl rfl (pc := 10) (hb hby d10_10) rfl rfl (by decide) (by decide) ?_   -- java/lang/String.length:()I
  intro T X eT
  dsimp only [Option.toList_some, Option.toList_none, List.cons_append, List.nil_append]
  refine Ow.istoreN X hx (pc := 13) #[_, _, _] (hb hby d10_13) rfl ?_
  refine Ow.aloadN X hx (pc := 14) (hb hby d10_14) rfl rfl ?_
  refine Ow.aloadN X hx (pc := 15) (hb hby d10_15) rfl rfl ?_
  refine Ow.getfield X hx hZ hown (ww hw 77 rfl) Via.refl eT SBx.2.2.2.1 (pc := 16) (hb hby d10_16) ?_   -- "java/lang/AbstractStringBuilder" "count" "I"
  intro T X eT
  refine Ow.iloadN X hx (pc := 19) (hb hby d10_19) rfl ?_
  refine Ow.iadd X hx (pc := 20) (hb hby d10_20) ?_
  rw [← Int32.ofNat_add]
  refine Ow.callV X hx hZ (c_ensure l Z a0 hw _ sb v kv bs r SBx hfB (bs.length + cs.length) hm hcap) eT hown (ww hw 79 rfl) (Ow.decl_of (ww hw 83 rfl) (ww hw 80 rfl)) (ww hw 82 rfl) (ww hw 80 rfl) (ww hw 46 rfl) (ww hw 83 rfl) (by decide) pd7 (by rw [hml]; rfl) SBx.1 (argsL := [_]) rfl rfl rfl (pc := 21) (hb hby d10_21) rfl rfl (by decide) (by decide) ?_
  rintro _ T L X ⟨rfl, F2, v2, k2, r2, SBy, hr2, hv⟩
  dsimp only [Option.toList_some, Option.toList_none, List.cons_append, List.nil_append]
  have F := F.call F2 (fun y hy => by cases List.mem_singleton.mp hy; exact Or.inl (by simp))
  have S := Ow.staKeep S F2.1 (fun y hy => by cases List.mem_singleton.mp hy; exact P_sb)
  have St := St.keep F2.1 (Ow.nin1 n1) (Ow.nin1 n2)
  have n6 : sb ≠ v2 := by
    rcases hv with q | q
    · rw [q]; exact n5
    · exact Nat.ne_of_lt (Nat.lt_of_lt_of_le hsl0 q)
  have hle : bs.length + cs.length ≤ bs.length + r2 ∧ bs.length + r2 ≤ 130 := by
    rw [hr2]; unfold own_gr
    split <;> omega
  obtain ⟨h_21, e_21⟩ : ∃ q, q = T.heap := ⟨_, rfl⟩
  rw [← e_21] at F S St SBy
  have eT : T.heap = h_21 := e_21.symm
  refine Ow.aloadN X hx (pc := 24) (hb hby d10_24) rfl rfl ?_
  refine Ow.aloadN X hx (pc := 25) (hb hby d10_25) rfl rfl ?_
  refine Ow.getfield X hx hZ hown (ww hw 77 rfl) Via.refl eT SBy.2.2.2.1 (pc := 26) (hb hby d10_26) ?_   -- "java/lang/AbstractStringBuilder" "count" "I"
  intro T X eT
  refine Ow.aloadN X hx (pc := 29) (hb hby d10_29) rfl rfl ?_
  refine Ow.callV X hx hZ (c_putStr l Z a0 hw _ z S hz sb v2 k2 bs r2 SBy x t kb cs St hfC (by omega) hle.2) eT hown (ww hw 110 rfl) (Ow.decl_of (ww hw 114 rfl) (ww hw 111 rfl)) (ww hw 113 rfl) (ww hw 111 rfl) (ww hw 46 rfl) (ww hw 114 rfl) (by decide) pd14 (by rw [hml]; rfl) SBy.1 (argsL := [_, _]) rfl rfl rfl (pc := 30) (hb hby d10_30) rfl rfl (by decide) (by decide) ?_
  rintro _ T L X ⟨rfl, F3, B3⟩
  dsimp only [Option.toList_some, Option.toList_none, List.cons_append, List.nil_append]
  have F := F.call F3 (fun y hy => by
    cases List.mem_singleton.mp hy
    rcases hv with q | q
    · exact Or.inl (by simp [q])
    · exact Or.inr q)
  have E := SBy.1.keep F3.1
  have Fv := SBy.2.1.keep F3.1 (Ow.nin1 n6)
  have Fc := SBy.2.2.1.keep F3.1 (Ow.nin1 n6)
  have Fn := SBy.2.2.2.1.keep F3.1 (Ow.nin1 n6)
  obtain ⟨h_30, e_30⟩ : ∃ q, q = T.heap := ⟨_, rfl⟩
  rw [← e_30] at F E Fv Fc Fn B3
  have eT : T.heap = h_30 := e_30.symm
  refine Ow.aloadN X hx (pc := 33) (hb hby d10_33) rfl rfl ?_
  refine Ow.dup X hx (pc := 34) (hb hby d10_34) rfl ?_
  refine Ow.getfield X hx hZ hown (ww hw 77 rfl) Via.refl eT Fn (pc := 35) (hb hby d10_35) ?_   -- "java/lang/AbstractStringBuilder" "count" "I"
  intro T X eT
  refine Ow.iloadN X hx (pc := 38) (hb hby d10_38) rfl ?_
  refine Ow.iadd X hx (pc := 39) (hb hby d10_39) ?_
  rw [← Int32.ofNat_add]
  refine Ow.putfield X hx hZ hown (ww hw 77 rfl) Via.refl eT Fn E (Or.inl (ww hw 78 rfl)) (ww hw 37 rfl) (ty := .int) (by decide) rfl rfl (pc := 40) (hb hby d10_40) ?_
  intro T h_40 X eT W
  have F := F.wr W (Or.inl (by simp))
  have Fn := Fn.same W
  rw [← List.length_append] at Fn
  have SBn : own_SB Z h_40 sb v2 k2 (bs ++ cs) (r2 - cs.length) := ⟨E.wr W, Fv.other W (Or.inr sn_value_count), Fc.other W (Or.inr sn_coder_count), Fn, B3.other W (Ne.symm n6)⟩
  refine Ow.aloadN X hx (pc := 43) (hb hby d10_43) rfl rfl ?_
  exact Ow.areturn X hx hlk hret rfl rfl rfl (hb hby d10_44) ⟨rfl, by rw [eT]; exact F, v2, k2, r2 - cs.length, by rw [eT]; exact SBn, (by rw [← hr2]; omega), hv⟩ (by decide) (by decide)
theorem d9_0 : decode jdk_67_method_7_code 0 = .ok (.aload_n 0, 1) := by decide +kernel
theorem d9_1 : decode jdk_67_method_7_code 1 = .ok (.aload_n 1, 1) := by decide +kernel
theorem d9_2 : decode jdk_67_method_7_code 2 = .ok (.invokespecial 29, 3) := by decide +kernel
theorem d9_5 : decode jdk_67_method_7_code 5 = .ok (.pop, 1) := by decide +kernel
theorem d9_6 : decode jdk_67_method_7_code 6 = .ok (.aload_n 0, 1) := by decide +kernel
theorem d9_7 : decode jdk_67_method_7_code 7 = .ok (.areturn, 1) := by decide +kernel
set_option maxRecDepth 65536 in
set_option maxHeartbeats 4000000 in
theorem c_sbapp (l : Launch) (Z : State) (a0 : Array Value) (hw : ∀ d ∈ tables_1, d.before a0 Z = true) (h0 : Heap) (z : Int32) (S : Sta Z h0 "java/lang/String" "COMPACT_STRINGS" "Z" (.int z)) (hz : ¬ z = 0) (sb v : Addr) (kv : ClassId) (bs : List Int32) (r : Nat) (SBx : own_SB Z h0 sb v kv bs r) (hfB : ∀ w ∈ (bs).map Value.int, fits .byte w = true) (x t : Addr) (kb : ClassId) (cs : List Int32) (St : Ow.Str Z h0 x t kb cs) (hfC : ∀ w ∈ (cs).map Value.int, fits .byte w = true) (n1 : x ≠ sb) (n2 : t ≠ sb) (n3 : x ≠ v) (n4 : t ≠ v) (n5 : sb ≠ v) (hm : bs.length + cs.length ≤ 64) (hcap : bs.length + r ≤ 130) : Ow.Pay l Z (⟨"java/lang/StringBuilder", "append", "(Ljava/lang/String;)Ljava/lang/StringBuilder;"⟩ : MethodName) jdk_67_method_7_code 2 (some (.object "java/lang/StringBuilder")) ({ frames := 5, cells := 1, slots := 130, locals := 76 } : Room) #[(.ref sb), (.ref x)] h0 (fun v1 h L => v1 = some (.ref sb) ∧ Ow.Eff h0 h [sb, v] L ∧ ∃ v2 k2 r2, own_SB Z h sb v2 k2 (bs ++ cs) r2 ∧ bs.length + cs.length + r2 = own_gr (bs.length + r) (bs.length + cs.length) ∧ (v2 = v ∨ h0.size ≤ v2)) := by
  refine Ow.Pay.of (Ls := #[.val (.ref sb), .val (.ref x)]) (plainFor_of_name pn3) (fun m => by first | rfl | (simp [entryFrame, mkF, argsToLocals, Value.category]; done)) ?_
  intro p e s m below meth c T hx hby hml hown hnm hme hZ hret hlk X eT
  have F := Ow.Eff.refl h0 [sb, v]
  refine Ow.aloadN X hx (pc := 0) (hb hby d9_0) rfl rfl ?_
  refine Ow.aloadN X hx (pc := 1) (hb hby d9_1) rfl rfl ?_
  refine Ow.callSup X hx hZ (c_asbapp l Z a0 hw _ z S hz sb v kv bs r SBx hfB x t kb cs St hfC n1 n2 n3 n4 n5 hm hcap) eT hown (ww hw 62 rfl) (Ow.same_self (ww hw 63 rfl) (by decide) (ww hw 143 rfl) rfl) (ww hw 63 rfl) (ww hw 64 rfl) (by decide) (ww hw 46 rfl) (ww hw 66 rfl) pd15 (by rw [hml]; rfl) SBx.1 (argsL := [_]) rfl rfl rfl (pc := 2) (hb hby d9_2) rfl rfl (by decide) (by decide) ?_
  rintro _ T L X ⟨rfl, F2, v2, k2, r2, SBn, hr, hv⟩
  dsimp only [Option.toList_some, Option.toList_none, List.cons_append, List.nil_append]
  have F := F.call F2 (fun y hy => Or.inl hy)
  refine Ow.pop X hx (pc := 5) (hb hby d9_5) rfl ?_
  refine Ow.aloadN X hx (pc := 6) (hb hby d9_6) rfl rfl ?_
  exact Ow.areturn X hx hlk hret rfl rfl rfl (hb hby d9_7) ⟨rfl, F, v2, k2, r2, SBn, hr, hv⟩ (by decide) (by decide)
theorem d25_0 : decode jdk_68_method_64_code 0 = .ok (.aload_n 0, 1) := by decide +kernel
theorem d25_1 : decode jdk_68_method_64_code 1 = .ok (.getfield 15, 3) := by decide +kernel
theorem d25_4 : decode jdk_68_method_64_code 4 = .ok (.areturn, 1) := by decide +kernel
set_option maxRecDepth 65536 in
set_option maxHeartbeats 4000000 in
theorem c_getValue (l : Launch) (Z : State) (a0 : Array Value) (hw : ∀ d ∈ tables_1, d.before a0 Z = true) (h0 : Heap) (sb vb : Addr) (F1 : Fld Z h0 sb "java/lang/AbstractStringBuilder" "value" "[B" (.ref vb)) : Ow.Pay l Z (⟨"java/lang/AbstractStringBuilder", "getValue", "()[B"⟩ : MethodName) jdk_68_method_64_code 1 (some (.array .byte)) ({ frames := 0, cells := 0, slots := 0, locals := 0 } : Room) #[(.ref sb)] h0 (fun v h L => v = some (.ref vb) ∧ h = h0 ∧ L = []) := by
  refine Ow.Pay.of (Ls := #[.val (.ref sb)]) (plainFor_of_name pn2) (fun m => by first | rfl | (simp [entryFrame, mkF, argsToLocals, Value.category]; done)) ?_
  intro p e s m below meth c T hx hby hml hown hnm hme hZ hret hlk X eT
  refine Ow.aloadN X hx (pc := 0) (hb hby d25_0) rfl rfl ?_
  refine Ow.getfield X hx hZ hown (ww hw 50 rfl) Via.refl eT F1 (pc := 1) (hb hby d25_1) ?_   -- "java/lang/AbstractStringBuilder" "value" "[B"
  intro T X eT
  exact Ow.areturn X hx hlk hret rfl rfl rfl (hb hby d25_4) ⟨rfl, eT, rfl⟩ (by decide) (by decide)
theorem d27_0 : decode jdk_68_method_6_code 0 = .ok (.aload_n 0, 1) := by decide +kernel
theorem d27_1 : decode jdk_68_method_6_code 1 = .ok (.getfield 79, 3) := by decide +kernel
theorem d27_4 : decode jdk_68_method_6_code 4 = .ok (.ireturn, 1) := by decide +kernel
set_option maxRecDepth 65536 in
set_option maxHeartbeats 4000000 in
theorem c_asblen (l : Launch) (Z : State) (a0 : Array Value) (hw : ∀ d ∈ tables_1, d.before a0 Z = true) (h0 : Heap) (sb : Addr) (n : Int32) (F1 : Fld Z h0 sb "java/lang/AbstractStringBuilder" "count" "I" (.int n)) : Ow.Pay l Z (⟨"java/lang/AbstractStringBuilder", "length", "()I"⟩ : MethodName) jdk_68_method_6_code 1 (some .int) ({ frames := 0, cells := 0, slots := 0, locals := 0 } : Room) #[(.ref sb)] h0 (fun v h L => v = some (.int n) ∧ h = h0 ∧ L = []) := by
  refine Ow.Pay.of (Ls := #[.val (.ref sb)]) (plainFor_of_name pn2) (fun m => by first | rfl | (simp [entryFrame, mkF, argsToLocals, Value.category]; done)) ?_
  intro p e s m below meth c T hx hby hml hown hnm hme hZ hret hlk X eT
  refine Ow.aloadN X hx (pc := 0) (hb hby d27_0) rfl rfl ?_
  refine Ow.getfield X hx hZ hown (ww hw 77 rfl) Via.refl eT F1 (pc := 1) (hb hby d27_1) ?_   -- "java/lang/AbstractStringBuilder" "count" "I"
  intro T X eT
  exact Ow.ireturn X hx hlk hret (hb hby d27_4) ⟨rfl, eT, rfl⟩ (by decide) (by decide)
theorem d26_0 : decode jdk_67_method_93_code 0 = .ok (.aload_n 0, 1) := by decide +kernel
theorem d26_1 : decode jdk_67_method_93_code 1 = .ok (.invokespecial 343, 3) := by decide +kernel
theorem d26_4 : decode jdk_67_method_93_code 4 = .ok (.ireturn, 1) := by decide +kernel
set_option maxRecDepth 65536 in
set_option maxHeartbeats 4000000 in
theorem c_sblen (l : Launch) (Z : State) (a0 : Array Value) (hw : ∀ d ∈ tables_1, d.before a0 Z = true) (h0 : Heap) (sb : Addr) (n : Int32) (E : Exa Z h0 sb "java/lang/StringBuilder") (F1 : Fld Z h0 sb "java/lang/AbstractStringBuilder" "count" "I" (.int n)) : Ow.Pay l Z (⟨"java/lang/StringBuilder", "length", "()I"⟩ : MethodName) jdk_67_method_93_code 1 (some .int) ({ frames := 1, cells := 0, slots := 0, locals := 12 } : Room) #[(.ref sb)] h0 (fun v h L => v = some (.int n) ∧ h = h0 ∧ L = []) := by
  refine Ow.Pay.of (Ls := #[.val (.ref sb)]) (plainFor_of_name pn3) (fun m => by first | rfl | (simp [entryFrame, mkF, argsToLocals, Value.category]; done)) ?_
  intro p e s m below meth c T hx hby hml hown hnm hme hZ hret hlk X eT
  refine Ow.aloadN X hx (pc := 0) (hb hby d26_0) rfl rfl ?_
  refine Ow.callSup X hx hZ (c_asblen l Z a0 hw _ sb n F1) eT hown (ww hw 151 rfl) (Ow.same_self (ww hw 147 rfl) (by decide) (ww hw 143 rfl) rfl) (ww hw 147 rfl) (ww hw 64 rfl) (by decide) (ww hw 46 rfl) (ww hw 152 rfl) pd13 (by rw [hml]; rfl) E (argsL := []) rfl rfl rfl (pc := 1) (hb hby d26_1) rfl rfl (by decide) (by decide) ?_
  rintro _ T L X ⟨rfl, eT, rfl⟩
  rw [List.append_nil] at X
  dsimp only [Option.toList_some, Option.toList_none, List.cons_append, List.nil_append]
  exact Ow.ireturn X hx hlk hret (hb hby d26_4) ⟨rfl, eT, rfl⟩ (by decide) (by decide)
theorem d28_0 : decode jdk_68_method_68_code 0 = .ok (.getstatic 18, 3) := by decide +kernel
theorem d28_3 : decode jdk_68_method_68_code 3 = .ok (.ifCond .eq 14, 3) := by decide +kernel
theorem d28_6 : decode jdk_68_method_68_code 6 = .ok (.aload_n 0, 1) := by decide +kernel
theorem d28_7 : decode jdk_68_method_68_code 7 = .ok (.getfield 22, 3) := by decide +kernel
theorem d28_10 : decode jdk_68_method_68_code 10 = .ok (.ifCond .ne 7, 3) := by decide +kernel
theorem d28_13 : decode jdk_68_method_68_code 13 = .ok (.iconst 1, 1) := by decide +kernel
theorem d28_14 : decode jdk_68_method_68_code 14 = .ok (.goto 4, 3) := by decide +kernel
theorem d28_17 : decode jdk_68_method_68_code 17 = .ok (.iconst 0, 1) := by decide +kernel
theorem d28_18 : decode jdk_68_method_68_code 18 = .ok (.ireturn, 1) := by decide +kernel
set_option maxRecDepth 65536 in
set_option maxHeartbeats 4000000 in
theorem c_asblat (l : Launch) (Z : State) (a0 : Array Value) (hw : ∀ d ∈ tables_1, d.before a0 Z = true) (h0 : Heap) (z : Int32) (S : Sta Z h0 "java/lang/String" "COMPACT_STRINGS" "Z" (.int z)) (hz : ¬ z = 0) (sb : Addr) (F7 : Fld Z h0 sb "java/lang/AbstractStringBuilder" "coder" "B" (.int 0)) : Ow.Pay l Z (⟨"java/lang/AbstractStringBuilder", "isLatin1", "()Z"⟩ : MethodName) jdk_68_method_68_code 1 (some .boolean) ({ frames := 0, cells := 0, slots := 0, locals := 0 } : Room) #[(.ref sb)] h0 (fun v h L => v = some (.int 1) ∧ h = h0 ∧ L = []) := by
  refine Ow.Pay.of (Ls := #[.val (.ref sb)]) (plainFor_of_name pn2) (fun m => by first | rfl | (simp [entryFrame, mkF, argsToLocals, Value.category]; done)) ?_
  intro p e s m below meth c T hx hby hml hown hnm hme hZ hret hlk X eT
  refine Ow.getstatic X hx hZ hown (ww hw 49 rfl) Via.refl eT S (pc := 0) (hb hby d28_0) ?_   -- "java/lang/String" "COMPACT_STRINGS" "Z"
  intro T X eT
  refine Ow.if_eq X hx (pc := 3) (pc' := 17) (hb hby d28_3) (by decide) (by decide) (fun q => absurd q hz) (fun h3 => ?_)
  refine Ow.aloadN X hx (pc := 6) (hb hby d28_6) rfl rfl ?_
  refine Ow.getfield X hx hZ hown (ww hw 52 rfl) Via.refl eT F7 (pc := 7) (hb hby d28_7) ?_   -- "java/lang/AbstractStringBuilder" "coder" "B"
  intro T X eT
  refine Ow.if_ne X hx (pc := 10) (pc' := 17) (hb hby d28_10) (by decide) (by decide) (fun q => absurd rfl q) (fun h10 => ?_)
  refine Ow.iconst X hx (pc := 13) (1) (hb hby d28_13) (by decide) ?_
  refine Ow.goto X hx (pc := 14) (pc' := 18) (hb hby d28_14) (by decide) (by decide) ?_
  exact Ow.nreturn X hx hlk hret (Or.inl rfl) (hb hby d28_18) ⟨rfl, eT, rfl⟩ (by decide) (by decide)
theorem d24_0 : decode jdk_42_method_150_code 0 = .ok (.aload_n 0, 1) := by decide +kernel
theorem d24_1 : decode jdk_42_method_150_code 1 = .ok (.invokespecial 1, 3) := by decide +kernel
theorem d24_4 : decode jdk_42_method_150_code 4 = .ok (.aload_n 1, 1) := by decide +kernel
theorem d24_5 : decode jdk_42_method_150_code 5 = .ok (.invokevirtual 552, 3) := by decide +kernel
theorem d24_8 : decode jdk_42_method_150_code 8 = .ok (.astore_n 3, 1) := by decide +kernel
theorem d24_9 : decode jdk_42_method_150_code 9 = .ok (.aload_n 1, 1) := by decide +kernel
theorem d24_10 : decode jdk_42_method_150_code 10 = .ok (.invokevirtual 549, 3) := by decide +kernel
theorem d24_13 : decode jdk_42_method_150_code 13 = .ok (.istore 4, 2) := by decide +kernel
theorem d24_15 : decode jdk_42_method_150_code 15 = .ok (.aload_n 1, 1) := by decide +kernel
theorem d24_16 : decode jdk_42_method_150_code 16 = .ok (.invokevirtual 1047, 3) := by decide +kernel
theorem d24_19 : decode jdk_42_method_150_code 19 = .ok (.ifCond .eq 22, 3) := by decide +kernel
theorem d24_22 : decode jdk_42_method_150_code 22 = .ok (.aload_n 0, 1) := by decide +kernel
theorem d24_23 : decode jdk_42_method_150_code 23 = .ok (.iconst 0, 1) := by decide +kernel
theorem d24_24 : decode jdk_42_method_150_code 24 = .ok (.putfield 15, 3) := by decide +kernel
theorem d24_27 : decode jdk_42_method_150_code 27 = .ok (.aload_n 0, 1) := by decide +kernel
theorem d24_28 : decode jdk_42_method_150_code 28 = .ok (.aload_n 3, 1) := by decide +kernel
theorem d24_29 : decode jdk_42_method_150_code 29 = .ok (.iconst 0, 1) := by decide +kernel
theorem d24_30 : decode jdk_42_method_150_code 30 = .ok (.iload 4, 2) := by decide +kernel
theorem d24_32 : decode jdk_42_method_150_code 32 = .ok (.invokestatic 54, 3) := by decide +kernel
theorem d24_35 : decode jdk_42_method_150_code 35 = .ok (.putfield 9, 3) := by decide +kernel
theorem d24_38 : decode jdk_42_method_150_code 38 = .ok (.goto 59, 3) := by decide +kernel
theorem d24_41 : decode jdk_42_method_150_code 41 = .ok (.getstatic 38, 3) := by decide +kernel
theorem d24_44 : decode jdk_42_method_150_code 44 = .ok (.ifCond .eq 35, 3) := by decide +kernel
theorem d24_47 : decode jdk_42_method_150_code 47 = .ok (.aload_n 1, 1) := by decide +kernel
theorem d24_48 : decode jdk_42_method_150_code 48 = .ok (.getfield 1048, 3) := by decide +kernel
theorem d24_51 : decode jdk_42_method_150_code 51 = .ok (.ifCond .eq 28, 3) := by decide +kernel
theorem d24_54 : decode jdk_42_method_150_code 54 = .ok (.aload_n 0, 1) := by decide +kernel
theorem d24_55 : decode jdk_42_method_150_code 55 = .ok (.aload_n 3, 1) := by decide +kernel
theorem d24_56 : decode jdk_42_method_150_code 56 = .ok (.iconst 0, 1) := by decide +kernel
theorem d24_57 : decode jdk_42_method_150_code 57 = .ok (.iload 4, 2) := by decide +kernel
theorem d24_59 : decode jdk_42_method_150_code 59 = .ok (.invokestatic 1051, 3) := by decide +kernel
theorem d24_62 : decode jdk_42_method_150_code 62 = .ok (.putfield 9, 3) := by decide +kernel
theorem d24_65 : decode jdk_42_method_150_code 65 = .ok (.aload_n 0, 1) := by decide +kernel
theorem d24_66 : decode jdk_42_method_150_code 66 = .ok (.aload_n 0, 1) := by decide +kernel
theorem d24_67 : decode jdk_42_method_150_code 67 = .ok (.getfield 9, 3) := by decide +kernel
theorem d24_70 : decode jdk_42_method_150_code 70 = .ok (.iload 4, 2) := by decide +kernel
theorem d24_72 : decode jdk_42_method_150_code 72 = .ok (.invokestatic 47, 3) := by decide +kernel
theorem d24_75 : decode jdk_42_method_150_code 75 = .ok (.putfield 15, 3) := by decide +kernel
theorem d24_78 : decode jdk_42_method_150_code 78 = .ok (.return_, 1) := by decide +kernel
theorem d24_79 : decode jdk_42_method_150_code 79 = .ok (.aload_n 0, 1) := by decide +kernel
theorem d24_80 : decode jdk_42_method_150_code 80 = .ok (.iconst 1, 1) := by decide +kernel
theorem d24_81 : decode jdk_42_method_150_code 81 = .ok (.putfield 15, 3) := by decide +kernel
theorem d24_84 : decode jdk_42_method_150_code 84 = .ok (.aload_n 0, 1) := by decide +kernel
theorem d24_85 : decode jdk_42_method_150_code 85 = .ok (.aload_n 3, 1) := by decide +kernel
theorem d24_86 : decode jdk_42_method_150_code 86 = .ok (.iconst 0, 1) := by decide +kernel
theorem d24_87 : decode jdk_42_method_150_code 87 = .ok (.iload 4, 2) := by decide +kernel
theorem d24_89 : decode jdk_42_method_150_code 89 = .ok (.iconst 1, 1) := by decide +kernel
theorem d24_90 : decode jdk_42_method_150_code 90 = .ok (.ishl, 1) := by decide +kernel
theorem d24_91 : decode jdk_42_method_150_code 91 = .ok (.invokestatic 54, 3) := by decide +kernel
theorem d24_94 : decode jdk_42_method_150_code 94 = .ok (.putfield 9, 3) := by decide +kernel
theorem d24_97 : decode jdk_42_method_150_code 97 = .ok (.return_, 1) := by decide +kernel
set_option maxRecDepth 65536 in
set_option maxHeartbeats 40000000 in
theorem c_strasb (l : Launch) (Z : State) (a0 : Array Value) (hw : ∀ d ∈ tables_1, d.before a0 Z = true) (h0 : Heap) (z : Int32) (S : Sta Z h0 "java/lang/String" "COMPACT_STRINGS" "Z" (.int z)) (hz : ¬ z = 0) (sb v : Addr) (kv : ClassId) (bs : List Int32) (r : Nat) (SBx : own_SB Z h0 sb v kv bs r) (hfB : ∀ w ∈ (bs).map Value.int, fits .byte w = true) (hr : 0 < r) (hcap : bs.length + r ≤ 130) (x : Addr) (v0 c0 : Value) (E : Exa Z h0 x "java/lang/String") (V0 : Fld Z h0 x "java/lang/String" "value" "[B" v0) (C0 : Fld Z h0 x "java/lang/String" "coder" "B" c0) (m1 : sb ≠ x) (m2 : v ≠ x) : Ow.Pay l Z (⟨"java/lang/String", "<init>", "(Ljava/lang/AbstractStringBuilder;Ljava/lang/Void;)V"⟩ : MethodName) jdk_42_method_150_code 5 none ({ frames := 3, cells := 1, slots := 130, locals := 50 } : Room) #[(.ref x), (.ref sb), (.null)] h0 (fun v1 h L => v1 = none ∧ Ow.Eff h0 h [x] L ∧ ∃ d kd, Ow.Str Z h x d kd bs) := by
  refine Ow.Pay.of (Ls := #[.val (.ref x), .val (.ref sb), .val (.null), .unset, .unset]) (plainFor_of_name pn0) (fun m => by first | rfl | (simp [entryFrame, mkF, argsToLocals, Value.category]; done)) ?_
  intro p e s m below meth c T hx hby hml hown hnm hme hZ hret hlk X eT
  have F := Ow.Eff.refl h0 [x]
  have hni := (name_of_methodNamed hnm hme).1
  have hsl : RoadKit.slotOf Z "java/lang/String" "coder" "B" ≠ RoadKit.slotOf Z "java/lang/String" "value" "[B" := slot_ne (a0 := a0) (C := "java/lang/String") (Or.inr (ww hw 27 rfl)) (Or.inr (ww hw 29 rfl)) (by decide) (t := .byte) (t' := .array .byte) (by decide) (by decide)
  have hwl : (bs ++ List.replicate r (0 : Int32)).length = bs.length + r := by rw [List.length_append, List.length_replicate]
  have hxl := E.lt
  refine Ow.aloadN X hx (pc := 0) (hb hby d24_0) rfl rfl ?_
  refine Ow.objinit X hx hZ hown (ww hw 11 rfl) (ww hw 12 rfl) (ww hw 13 rfl) eT (by rw [hml]; rfl) (pc := 1) (hb hby d24_1) rfl rfl ?_
  intro T X eT
  refine Ow.aloadN X hx (pc := 4) (hb hby d24_4) rfl rfl ?_
  refine Ow.callVP X hx hZ (c_getValue l Z a0 hw _ sb v SBx.2.1) rfl rfl eT hown (ww hw 140 rfl) (ww hw 141 rfl) (ww hw 143 rfl) (ww hw 142 rfl) (ww hw 46 rfl) (ww hw 144 rfl) (by decide) pd16 (by rw [hml]; rfl) SBx.1 (argsL := []) rfl rfl rfl (pc := 5) (hb hby d24_5) rfl rfl (by decide) (by decide) ?_   -- java/lang/AbstractStringBuilder.getValue:()[B
  intro T X eT
  dsimp only [Option.toList_some, Option.toList_none, List.cons_append, List.nil_append]
  refine Ow.astoreN X hx (pc := 8) #[_, _, _, _, _] (hb hby d24_8) rfl rfl ?_
  refine Ow.aloadN X hx (pc := 9) (hb hby d24_9) rfl rfl ?_
  refine Ow.callU X hx hZ (c_sblen l Z a0 hw _ sb _ SBx.1 SBx.2.2.2.1) eT hown (ww hw 145 rfl) (Ow.same_self (ww hw 147 rfl) (by decide) (ww hw 143 rfl) rfl) (ww hw 146 rfl) (ww hw 148 rfl) (ww hw 149 rfl) (ww hw 38 rfl) (ww hw 150 rfl) (by decide) pd13 (by rw [hml]; rfl) SBx.1 (argsL := []) rfl rfl rfl (pc := 10) (hb hby d24_10) rfl rfl (by decide) (by decide) ?_
  rintro _ T L X ⟨rfl, eT, rfl⟩
  rw [List.append_nil] at X
  dsimp only [Option.toList_some, Option.toList_none, List.cons_append, List.nil_append]
  refine Ow.istore X hx (pc := 13) #[_, _, _, _, _] (hb hby d24_13) rfl ?_
  refine Ow.aloadN X hx (pc := 15) (hb hby d24_15) rfl rfl ?_
  refine Ow.callVP X hx hZ (c_asblat l Z a0 hw _ z S hz sb SBx.2.2.1) rfl rfl eT hown (ww hw 153 rfl) (ww hw 154 rfl) (ww hw 156 rfl) (ww hw 155 rfl) (ww hw 46 rfl) (ww hw 157 rfl) (by decide) pd17 (by rw [hml]; rfl) SBx.1 (argsL := []) rfl rfl rfl (pc := 16) (hb hby d24_16) rfl rfl (by decide) (by decide) ?_   -- java/lang/AbstractStringBuilder.isLatin1:()Z
  intro T X eT
  dsimp only [Option.toList_some, Option.toList_none, List.cons_append, List.nil_append]
  refine Ow.if_eq X hx (pc := 19) (pc' := 41) (hb hby d24_19) (by decide) (by decide) (fun q => absurd q (by decide)) (fun h19 => ?_)
  refine Ow.aloadN X hx (pc := 22) (hb hby d24_22) rfl rfl ?_
  refine Ow.iconst X hx (pc := 23) (0) (hb hby d24_23) (by decide) ?_
  refine Ow.putfield X hx hZ hown (ww hw 26 rfl) Via.refl eT C0 E (Or.inr ⟨(ww hw 27 rfl), rfl, hni⟩) (ww hw 1 rfl) (ty := .byte) (by decide) rfl rfl (pc := 24) (hb hby d24_24) ?_
  intro T h_24 X eT W
  have C0 := C0.same W
  have V0 := V0.other W (Or.inr (Ne.symm hsl))
  have E := E.wr W
  have SBx := SBx.keep (Keep.of_wr W) (Ow.nin1 m1) (Ow.nin1 m2)
  have F := F.wr W (Or.inl (by simp))
  refine Ow.aloadN X hx (pc := 27) (hb hby d24_27) rfl rfl ?_
  refine Ow.aloadN X hx (pc := 28) (hb hby d24_28) rfl rfl ?_
  refine Ow.iconst X hx (pc := 29) (0) (hb hby d24_29) (by decide) ?_
  refine Ow.iload X hx (pc := 30) (hb hby d24_30) rfl ?_
  refine Ow.callS X hx hZ (c_cor l Z a0 hw _ v kv _ 0 bs.length SBx.2.2.2.2 (own_fitA hfB (own_fitR r)) (Nat.zero_le _) (by rw [hwl]; omega) (by rw [hwl]; exact hcap) (fun q => by rw [hwl] at q; omega)) eT hown (ww hw 158 rfl) (ww hw 159 rfl) (ww hw 101 rfl) (ww hw 160 rfl) (by decide) pd6 (by rw [hml]; rfl) (argsL := [_, _, _]) rfl rfl rfl (pc := 32) (hb hby d24_32) rfl rfl (by decide) (by decide) ?_
  rintro _ T L X ⟨d, kd, rfl, F2, l_d, B_d⟩
  dsimp only [Option.toList_some, Option.toList_none, List.cons_append, List.nil_append]
  have F := F.call F2 (fun _ q => nomatch q)
  have C0 := C0.ext (Ow.Keep.ext0 F2.1)
  have V0 := V0.ext (Ow.Keep.ext0 F2.1)
  have ne_x_d : x ≠ d := Nat.ne_of_lt (Nat.lt_of_lt_of_le E.lt l_d)
  have E := E.ext (Ow.Keep.ext0 F2.1)
  rw [show ((bs ++ List.replicate r (0 : Int32)).drop 0).take (bs.length - 0) = bs from by simp] at B_d
  obtain ⟨h_32, e_32⟩ : ∃ q, q = T.heap := ⟨_, rfl⟩
  rw [← e_32] at F C0 V0 E B_d
  have eT : T.heap = h_32 := e_32.symm
  refine Ow.putfield X hx hZ hown (ww hw 28 rfl) Via.refl eT V0 E (Or.inr ⟨(ww hw 29 rfl), rfl, hni⟩) (ww hw 1 rfl) (ty := .array .byte) (by decide) rfl rfl (pc := 35) (hb hby d24_35) ?_
  intro T h_35 X eT W
  have F := F.wr W (Or.inl (by simp))
  have Sx : Ow.Str Z h_35 x d kd bs := ⟨E.wr W, C0.other W (Or.inr hsl), V0.same W, B_d.other W (Ne.symm ne_x_d)⟩
  refine Ow.goto X hx (pc := 38) (pc' := 97) (hb hby d24_38) (by decide) (by decide) ?_
  exact Ow.vreturn X hx hlk hret (hb hby d24_97) ⟨rfl, by rw [eT]; exact F, d, kd, by rw [eT]; exact Sx⟩ (by decide) (by decide)
theorem d23_0 : decode jdk_42_method_53_code 0 = .ok (.aload_n 0, 1) := by decide +kernel
theorem d23_1 : decode jdk_42_method_53_code 1 = .ok (.aload_n 1, 1) := by decide +kernel
theorem d23_2 : decode jdk_42_method_53_code 2 = .ok (.aconst_null, 1) := by decide +kernel
theorem d23_3 : decode jdk_42_method_53_code 3 = .ok (.invokespecial 489, 3) := by decide +kernel
theorem d23_6 : decode jdk_42_method_53_code 6 = .ok (.return_, 1) := by decide +kernel
set_option maxRecDepth 65536 in
set_option maxHeartbeats 4000000 in
theorem c_strsb (l : Launch) (Z : State) (a0 : Array Value) (hw : ∀ d ∈ tables_1, d.before a0 Z = true) (h0 : Heap) (z : Int32) (S : Sta Z h0 "java/lang/String" "COMPACT_STRINGS" "Z" (.int z)) (hz : ¬ z = 0) (sb v : Addr) (kv : ClassId) (bs : List Int32) (r : Nat) (SBx : own_SB Z h0 sb v kv bs r) (hfB : ∀ w ∈ (bs).map Value.int, fits .byte w = true) (hr : 0 < r) (hcap : bs.length + r ≤ 130) (x : Addr) (v0 c0 : Value) (E : Exa Z h0 x "java/lang/String") (V0 : Fld Z h0 x "java/lang/String" "value" "[B" v0) (C0 : Fld Z h0 x "java/lang/String" "coder" "B" c0) (m1 : sb ≠ x) (m2 : v ≠ x) : Ow.Pay l Z (⟨"java/lang/String", "<init>", "(Ljava/lang/StringBuilder;)V"⟩ : MethodName) jdk_42_method_53_code 2 none ({ frames := 4, cells := 1, slots := 130, locals := 66 } : Room) #[(.ref x), (.ref sb)] h0 (fun v1 h L => v1 = none ∧ Ow.Eff h0 h [x] L ∧ ∃ d kd, Ow.Str Z h x d kd bs) := by
  refine Ow.Pay.of (Ls := #[.val (.ref x), .val (.ref sb)]) (plainFor_of_name pn0) (fun m => by first | rfl | (simp [entryFrame, mkF, argsToLocals, Value.category]; done)) ?_
  intro p e s m below meth c T hx hby hml hown hnm hme hZ hret hlk X eT
  have F := Ow.Eff.refl h0 [x]
  refine Ow.aloadN X hx (pc := 0) (hb hby d23_0) rfl rfl ?_
  refine Ow.aloadN X hx (pc := 1) (hb hby d23_1) rfl rfl ?_
  refine Ow.aconst_null X hx (pc := 2) (hb hby d23_2) ?_
  refine Ow.callI X hx hZ (c_strasb l Z a0 hw _ z S hz sb v kv bs r SBx hfB hr hcap x v0 c0 E V0 C0 m1 m2) eT rfl hown (ww hw 137 rfl) (ww hw 138 rfl) (ww hw 2 rfl) (ww hw 139 rfl) (by decide) pd18 (by rw [hml]; rfl) (argsL := [_, _]) rfl rfl rfl (pc := 3) (hb hby d23_3) rfl rfl (by decide) (by decide) ?_
  rintro _ T L X ⟨rfl, F2, d, kd, Sx⟩
  dsimp only [Option.toList_some, Option.toList_none, List.cons_append, List.nil_append]
  have F := F.call F2 (fun y hy => by cases List.mem_singleton.mp hy; exact Or.inl (by simp))
  exact Ow.vreturn X hx hlk hret (hb hby d23_6) ⟨rfl, F, d, kd, Sx⟩ (by decide) (by decide)
theorem d22_0 : decode jdk_67_method_42_code 0 = .ok (.new 18, 3) := by decide +kernel
theorem d22_3 : decode jdk_67_method_42_code 3 = .ok (.dup, 1) := by decide +kernel
theorem d22_4 : decode jdk_67_method_42_code 4 = .ok (.aload_n 0, 1) := by decide +kernel
theorem d22_5 : decode jdk_67_method_42_code 5 = .ok (.invokespecial 137, 3) := by decide +kernel
theorem d22_8 : decode jdk_67_method_42_code 8 = .ok (.areturn, 1) := by decide +kernel
set_option maxRecDepth 65536 in
set_option maxHeartbeats 4000000 in
theorem c_tostr (l : Launch) (Z : State) (a0 : Array Value) (hw : ∀ d ∈ tables_1, d.before a0 Z = true) (h0 : Heap) (z : Int32) (S : Sta Z h0 "java/lang/String" "COMPACT_STRINGS" "Z" (.int z)) (hz : ¬ z = 0) (sb v : Addr) (kv : ClassId) (bs : List Int32) (r : Nat) (SBx : own_SB Z h0 sb v kv bs r) (hfB : ∀ w ∈ (bs).map Value.int, fits .byte w = true) (hr : 0 < r) (hcap : bs.length + r ≤ 130) : Ow.Pay l Z (⟨"java/lang/StringBuilder", "toString", "()Ljava/lang/String;"⟩ : MethodName) jdk_67_method_42_code 1 (some (.object "java/lang/String")) ({ frames := 5, cells := 2, slots := 134, locals := 80 } : Room) #[(.ref sb)] h0 (fun v1 h L => ∃ x d kd, v1 = some (.ref x) ∧ Ow.Eff h0 h [] L ∧ Ow.Str Z h x d kd bs ∧ h0.size ≤ x) := by
  refine Ow.Pay.of (Ls := #[.val (.ref sb)]) (plainFor_of_name pn3) (fun m => by first | rfl | (simp [entryFrame, mkF, argsToLocals, Value.category]; done)) ?_
  intro p e s m below meth c T hx hby hml hown hnm hme hZ hret hlk X eT
  have F := Ow.Eff.refl h0 []
  refine Ow.new_ X hx hZ hown (ww hw 133 rfl) (ww hw 1 rfl) (ww hw 2 rfl) eT (pc := 0) (hb hby d22_0) (by decide) (by decide) ?_
  intro T h_x x ha_x X eT E_x A_x D_x U_x
  have l_x : h0.size ≤ x := by rw [ha_x]; exact F.size
  have ne_sb_x : sb ≠ x := by rw [ha_x]; exact Nat.ne_of_lt SBx.lt
  have ne_v_x : v ≠ x := by rw [ha_x]; exact Nat.ne_of_lt SBx.ltB
  have SBx := SBx.ext E_x
  have S := S.ext E_x
  have F := F.ext E_x
  have V0 := D_x (Or.inr (ww hw 29 rfl)) (ty := .array .byte) (by decide)
  have C0 := D_x (Or.inr (ww hw 27 rfl)) (ty := .byte) (by decide)
  refine Ow.dup X hx (pc := 3) (hb hby d22_3) rfl ?_
  refine Ow.aloadN X hx (pc := 4) (hb hby d22_4) rfl rfl ?_
  refine Ow.callI X hx hZ (c_strsb l Z a0 hw _ z S hz sb v kv bs r SBx hfB hr hcap x _ _ A_x V0 C0 ne_sb_x ne_v_x) eT rfl hown (ww hw 134 rfl) (ww hw 135 rfl) (ww hw 2 rfl) (ww hw 136 rfl) (by decide) pd19 (by rw [hml]; rfl) (argsL := [_]) rfl rfl rfl (pc := 5) (hb hby d22_5) rfl rfl (by decide) (by decide) ?_
  rintro _ T L X ⟨rfl, F2, d, kd, Sx⟩
  dsimp only [Option.toList_some, Option.toList_none, List.cons_append, List.nil_append]
  have F := F.call F2 (fun y hy => by cases List.mem_singleton.mp hy; exact Or.inr l_x)
  exact Ow.areturn X hx hlk hret rfl rfl rfl (hb hby d22_8) ⟨x, d, kd, rfl, F, Sx, l_x⟩ (by decide) (by decide)
theorem own_exc : ∀ d ∈ Jvm.Free.Exc.excAtoms "com/example/pricewright/pricewright/engine/UnpriceableException", d ≠ Ow.noW → d ∈ tables_1 := by decide +kernel
theorem d35_0 : decode jdk_78_method_2_code 0 = .ok (.aload_n 0, 1) := by decide +kernel
theorem d35_1 : decode jdk_78_method_2_code 1 = .ok (.invokespecial 1, 3) := by decide +kernel
theorem d35_4 : decode jdk_78_method_2_code 4 = .ok (.aload_n 0, 1) := by decide +kernel
theorem d35_5 : decode jdk_78_method_2_code 5 = .ok (.aload_n 0, 1) := by decide +kernel
theorem d35_6 : decode jdk_78_method_2_code 6 = .ok (.putfield 7, 3) := by decide +kernel
theorem d35_9 : decode jdk_78_method_2_code 9 = .ok (.aload_n 0, 1) := by decide +kernel
theorem d35_10 : decode jdk_78_method_2_code 10 = .ok (.getstatic 13, 3) := by decide +kernel
theorem d35_13 : decode jdk_78_method_2_code 13 = .ok (.putfield 17, 3) := by decide +kernel
theorem d35_16 : decode jdk_78_method_2_code 16 = .ok (.aload_n 0, 1) := by decide +kernel
theorem d35_17 : decode jdk_78_method_2_code 17 = .ok (.getstatic 20, 3) := by decide +kernel
theorem d35_20 : decode jdk_78_method_2_code 20 = .ok (.putfield 24, 3) := by decide +kernel
theorem d35_23 : decode jdk_78_method_2_code 23 = .ok (.aload_n 0, 1) := by decide +kernel
theorem d35_24 : decode jdk_78_method_2_code 24 = .ok (.invokevirtual 27, 3) := by decide +kernel
theorem d35_27 : decode jdk_78_method_2_code 27 = .ok (.pop, 1) := by decide +kernel
theorem d35_28 : decode jdk_78_method_2_code 28 = .ok (.aload_n 0, 1) := by decide +kernel
theorem d35_29 : decode jdk_78_method_2_code 29 = .ok (.aload_n 1, 1) := by decide +kernel
theorem d35_30 : decode jdk_78_method_2_code 30 = .ok (.putfield 31, 3) := by decide +kernel
theorem d35_33 : decode jdk_78_method_2_code 33 = .ok (.return_, 1) := by decide +kernel
set_option maxRecDepth 65536 in
set_option maxHeartbeats 40000000 in
theorem c_thr (l : Launch) (Z : State) (a0 : Array Value) (hw : ∀ d ∈ tables_1, d.before a0 Z = true) (hl : l.stackTraces = true) (us sn : Addr) (SU0 : Sta Z Z.heap "java/lang/Throwable" "UNASSIGNED_STACK" "[Ljava/lang/StackTraceElement;" (.ref us)) (SS0 : Sta Z Z.heap "java/lang/Throwable" "SUPPRESSED_SENTINEL" "Ljava/util/List;" (.ref sn)) (h0 : Heap) (TS : ThS Z h0) (a ms : Addr) (E : Exa Z h0 a "com/example/pricewright/pricewright/engine/UnpriceableException") (N : Unt h0 a) (Fc : Fld Z h0 a "java/lang/Throwable" "cause" "Ljava/lang/Throwable;" (.null)) (Fs : Fld Z h0 a "java/lang/Throwable" "stackTrace" "[Ljava/lang/StackTraceElement;" (.null)) (Fp : Fld Z h0 a "java/lang/Throwable" "suppressedExceptions" "Ljava/util/List;" (.null)) (Fb : Fld Z h0 a "java/lang/Throwable" "backtrace" "Ljava/lang/Object;" (.null)) (Fm : Fld Z h0 a "java/lang/Throwable" "detailMessage" "Ljava/lang/String;" (.null)) : Ow.PayT l Z (⟨"java/lang/Throwable", "<init>", "(Ljava/lang/String;)V"⟩ : MethodName) jdk_78_method_2_code 2 none ({ frames := 3, cells := 1, slots := 2752, locals := 42 } : Room) #[(.ref a), (.ref ms)] h0 (fun v h L => v = none ∧ Ow.Eff h0 h [a] L ∧ Exa Z h a "com/example/pricewright/pricewright/engine/UnpriceableException" ∧ Fld Z h a "java/lang/Throwable" "detailMessage" "Ljava/lang/String;" (.ref ms)) := by
  refine Ow.PayT.of (Ls := #[.val (.ref a), .val (.ref ms)]) (plainFor_of_name pn5) (fun m => by first | rfl | (simp [entryFrame, mkF, argsToLocals, Value.category]; done)) ?_
  intro p e s m below meth c T hx hby hml hown hnm hme hZ hret hlk X eT hsh hTK hBl
  have F := Ow.Eff.refl h0 [a]
  have sn_cause_stackTrace : RoadKit.slotOf Z "java/lang/Throwable" "cause" "Ljava/lang/Throwable;" ≠ RoadKit.slotOf Z "java/lang/Throwable" "stackTrace" "[Ljava/lang/StackTraceElement;" := slot_ne (a0 := a0) (C := "com/example/pricewright/pricewright/engine/UnpriceableException") (Or.inl (ww hw 189 rfl)) (Or.inl (ww hw 192 rfl)) (by decide) (t := .object "java/lang/Throwable") (t' := .array (.object "java/lang/StackTraceElement")) (by decide) (by decide)
  have sn_cause_suppressedExceptions : RoadKit.slotOf Z "java/lang/Throwable" "cause" "Ljava/lang/Throwable;" ≠ RoadKit.slotOf Z "java/lang/Throwable" "suppressedExceptions" "Ljava/util/List;" := slot_ne (a0 := a0) (C := "com/example/pricewright/pricewright/engine/UnpriceableException") (Or.inl (ww hw 189 rfl)) (Or.inl (ww hw 195 rfl)) (by decide) (t := .object "java/lang/Throwable") (t' := .object "java/util/List") (by decide) (by decide)
  have sn_cause_backtrace : RoadKit.slotOf Z "java/lang/Throwable" "cause" "Ljava/lang/Throwable;" ≠ RoadKit.slotOf Z "java/lang/Throwable" "backtrace" "Ljava/lang/Object;" := slot_ne (a0 := a0) (C := "com/example/pricewright/pricewright/engine/UnpriceableException") (Or.inl (ww hw 189 rfl)) (Or.inl (ww hw 220 rfl)) (by decide) (t := .object "java/lang/Throwable") (t' := .object "java/lang/Object") (by decide) (by decide)
  have sn_cause_detailMessage : RoadKit.slotOf Z "java/lang/Throwable" "cause" "Ljava/lang/Throwable;" ≠ RoadKit.slotOf Z "java/lang/Throwable" "detailMessage" "Ljava/lang/String;" := slot_ne (a0 := a0) (C := "com/example/pricewright/pricewright/engine/UnpriceableException") (Or.inl (ww hw 189 rfl)) (Or.inl (ww hw 219 rfl)) (by decide) (t := .object "java/lang/Throwable") (t' := .object "java/lang/String") (by decide) (by decide)
  have sn_stackTrace_suppressedExceptions : RoadKit.slotOf Z "java/lang/Throwable" "stackTrace" "[Ljava/lang/StackTraceElement;" ≠ RoadKit.slotOf Z "java/lang/Throwable" "suppressedExceptions" "Ljava/util/List;" := slot_ne (a0 := a0) (C := "com/example/pricewright/pricewright/engine/UnpriceableException") (Or.inl (ww hw 192 rfl)) (Or.inl (ww hw 195 rfl)) (by decide) (t := .array (.object "java/lang/StackTraceElement")) (t' := .object "java/util/List") (by decide) (by decide)
  have sn_stackTrace_backtrace : RoadKit.slotOf Z "java/lang/Throwable" "stackTrace" "[Ljava/lang/StackTraceElement;" ≠ RoadKit.slotOf Z "java/lang/Throwable" "backtrace" "Ljava/lang/Object;" := slot_ne (a0 := a0) (C := "com/example/pricewright/pricewright/engine/UnpriceableException") (Or.inl (ww hw 192 rfl)) (Or.inl (ww hw 220 rfl)) (by decide) (t := .array (.object "java/lang/StackTraceElement")) (t' := .object "java/lang/Object") (by decide) (by decide)
  have sn_stackTrace_detailMessage : RoadKit.slotOf Z "java/lang/Throwable" "stackTrace" "[Ljava/lang/StackTraceElement;" ≠ RoadKit.slotOf Z "java/lang/Throwable" "detailMessage" "Ljava/lang/String;" := slot_ne (a0 := a0) (C := "com/example/pricewright/pricewright/engine/UnpriceableException") (Or.inl (ww hw 192 rfl)) (Or.inl (ww hw 219 rfl)) (by decide) (t := .array (.object "java/lang/StackTraceElement")) (t' := .object "java/lang/String") (by decide) (by decide)
  have sn_suppressedExceptions_backtrace : RoadKit.slotOf Z "java/lang/Throwable" "suppressedExceptions" "Ljava/util/List;" ≠ RoadKit.slotOf Z "java/lang/Throwable" "backtrace" "Ljava/lang/Object;" := slot_ne (a0 := a0) (C := "com/example/pricewright/pricewright/engine/UnpriceableException") (Or.inl (ww hw 195 rfl)) (Or.inl (ww hw 220 rfl)) (by decide) (t := .object "java/util/List") (t' := .object "java/lang/Object") (by decide) (by decide)
  have sn_suppressedExceptions_detailMessage : RoadKit.slotOf Z "java/lang/Throwable" "suppressedExceptions" "Ljava/util/List;" ≠ RoadKit.slotOf Z "java/lang/Throwable" "detailMessage" "Ljava/lang/String;" := slot_ne (a0 := a0) (C := "com/example/pricewright/pricewright/engine/UnpriceableException") (Or.inl (ww hw 195 rfl)) (Or.inl (ww hw 219 rfl)) (by decide) (t := .object "java/util/List") (t' := .object "java/lang/String") (by decide) (by decide)
  have sn_backtrace_detailMessage : RoadKit.slotOf Z "java/lang/Throwable" "backtrace" "Ljava/lang/Object;" ≠ RoadKit.slotOf Z "java/lang/Throwable" "detailMessage" "Ljava/lang/String;" := slot_ne (a0 := a0) (C := "com/example/pricewright/pricewright/engine/UnpriceableException") (Or.inl (ww hw 220 rfl)) (Or.inl (ww hw 219 rfl)) (by decide) (t := .object "java/lang/Object") (t' := .object "java/lang/String") (by decide) (by decide)
  have SU := Ow.staTh SU0 TS (ww hw 216 rfl)
  have SS := Ow.staTh SS0 TS (ww hw 217 rfl)
  refine Ow.aloadN X hx (pc := 0) (hb hby d35_0) rfl rfl ?_
  refine Ow.objinit X hx hZ hown (ww hw 187 rfl) (ww hw 12 rfl) (ww hw 13 rfl) eT (by rw [hml]; rfl) (pc := 1) (hb hby d35_1) rfl rfl ?_
  intro T X eT
  refine Ow.aloadN X hx (pc := 4) (hb hby d35_4) rfl rfl ?_
  refine Ow.aloadN X hx (pc := 5) (hb hby d35_5) rfl rfl ?_
  refine Ow.putfield X hx hZ hown (ww hw 188 rfl) Via.refl eT Fc E (Or.inl (ww hw 189 rfl)) (ww hw 35 rfl) (ty := .object "java/lang/Throwable") (by decide) rfl rfl (pc := 6) (hb hby d35_6) ?_
  intro T h_6 X eT W
  have F := F.wr W (Or.inl (by simp))
  have E := E.wr W
  have N := Unt.wr W N
  have SU := SU.wr W
  have SS := SS.wr W
  have Fc := Fc.same W
  have Fs := Fs.other W (Or.inr (Ne.symm sn_cause_stackTrace))
  have Fp := Fp.other W (Or.inr (Ne.symm sn_cause_suppressedExceptions))
  have Fb := Fb.other W (Or.inr (Ne.symm sn_cause_backtrace))
  have Fm := Fm.other W (Or.inr (Ne.symm sn_cause_detailMessage))
  refine Ow.aloadN X hx (pc := 9) (hb hby d35_9) rfl rfl ?_
  refine Ow.getstatic X hx hZ hown (ww hw 190 rfl) Via.refl eT SU (pc := 10) (hb hby d35_10) ?_   -- "java/lang/Throwable" "UNASSIGNED_STACK" "[Ljava/lang/StackTraceElement;"
  intro T X eT
  refine Ow.putfield X hx hZ hown (ww hw 191 rfl) Via.refl eT Fs E (Or.inl (ww hw 192 rfl)) (ww hw 35 rfl) (ty := .array (.object "java/lang/StackTraceElement")) (by decide) rfl rfl (pc := 13) (hb hby d35_13) ?_
  intro T h_13 X eT W
  have F := F.wr W (Or.inl (by simp))
  have E := E.wr W
  have N := Unt.wr W N
  have SU := SU.wr W
  have SS := SS.wr W
  have Fs := Fs.same W
  have Fc := Fc.other W (Or.inr sn_cause_stackTrace)
  have Fp := Fp.other W (Or.inr (Ne.symm sn_stackTrace_suppressedExceptions))
  have Fb := Fb.other W (Or.inr (Ne.symm sn_stackTrace_backtrace))
  have Fm := Fm.other W (Or.inr (Ne.symm sn_stackTrace_detailMessage))
  refine Ow.aloadN X hx (pc := 16) (hb hby d35_16) rfl rfl ?_
  refine Ow.getstatic X hx hZ hown (ww hw 193 rfl) Via.refl eT SS (pc := 17) (hb hby d35_17) ?_   -- "java/lang/Throwable" "SUPPRESSED_SENTINEL" "Ljava/util/List;"
  intro T X eT
  refine Ow.putfield X hx hZ hown (ww hw 194 rfl) Via.refl eT Fp E (Or.inl (ww hw 195 rfl)) (ww hw 35 rfl) (ty := .object "java/util/List") (by decide) rfl rfl (pc := 20) (hb hby d35_20) ?_
  intro T h_20 X eT W
  have F := F.wr W (Or.inl (by simp))
  have E := E.wr W
  have N := Unt.wr W N
  have SU := SU.wr W
  have SS := SS.wr W
  have Fp := Fp.same W
  have Fc := Fc.other W (Or.inr sn_cause_suppressedExceptions)
  have Fs := Fs.other W (Or.inr sn_stackTrace_suppressedExceptions)
  have Fb := Fb.other W (Or.inr (Ne.symm sn_suppressedExceptions_backtrace))
  have Fm := Fm.other W (Or.inr (Ne.symm sn_suppressedExceptions_detailMessage))
  refine Ow.aloadN X hx (pc := 23) (hb hby d35_23) rfl rfl ?_
  have hW : ∀ d ∈ Jvm.Free.Exc.excAtoms "com/example/pricewright/pricewright/engine/UnpriceableException", d ≠ Ow.noW → d.before #[(.ref a), (.ref ms)] s = true := fun d q1 q2 => mvX (hT := by rw [hsh]; exact TS) hZ (List.all_eq_true.mp exc_ok d q1) (hw d (own_exc d q1 q2))
  refine Ow.callVB X hx hZ (y := Bundle.tFill) (as' := #[.ref a]) (Q := fun v h L => v = some (.ref a) ∧ Ow.Eff h_20 h [a] L) (kc := 1) (ks := 2752) (rest := []) (Ow.fillB X hx hl hZ (by decide) hW (ww hw 35 rfl) E N Fs Fb SU hTK hBl (W0 := 0) (by decide) (by decide)) eT hown (ww hw 196 rfl) (ww hw 197 rfl) (ww hw 199 rfl) (ww hw 198 rfl) (by decide) pd20 (by rw [hml]; rfl) E (argsL := []) rfl rfl rfl (pc := 24) (hb hby d35_24) (by decide) (by decide) ?_
  rintro _ T L X ⟨rfl, F2⟩
  dsimp only [Option.toList_some, Option.toList_none, List.cons_append, List.nil_append]
  have F := F.call F2 (fun y hy => by cases List.mem_singleton.mp hy; exact Or.inl (by simp))
  have E := E.keep F2.1
  obtain ⟨w1, Fm⟩ := Ow.fldKeep Fm F2.1
  obtain ⟨h_24, e_24⟩ : ∃ q, q = T.heap := ⟨_, rfl⟩
  rw [← e_24] at F E Fm
  have eT : T.heap = h_24 := e_24.symm
  refine Ow.pop X hx (pc := 27) (hb hby d35_27) rfl ?_
  refine Ow.aloadN X hx (pc := 28) (hb hby d35_28) rfl rfl ?_
  refine Ow.aloadN X hx (pc := 29) (hb hby d35_29) rfl rfl ?_
  refine Ow.putfield X hx hZ hown (ww hw 223 rfl) Via.refl eT Fm E (Or.inl (ww hw 219 rfl)) (ww hw 35 rfl) (ty := .object "java/lang/String") (by decide) rfl rfl (pc := 30) (hb hby d35_30) ?_
  intro T h_30 X eT W
  have F := F.wr W (Or.inl (by simp))
  have E := E.wr W
  have Fm := Fm.same W
  exact Ow.vreturn X hx hlk hret (hb hby d35_33) ⟨rfl, by rw [eT]; exact F, by rw [eT]; exact E, by rw [eT]; exact Fm⟩ (by decide) (by decide)
theorem d34_0 : decode jdk_59_method_2_code 0 = .ok (.aload_n 0, 1) := by decide +kernel
theorem d34_1 : decode jdk_59_method_2_code 1 = .ok (.aload_n 1, 1) := by decide +kernel
theorem d34_2 : decode jdk_59_method_2_code 2 = .ok (.invokespecial 7, 3) := by decide +kernel
theorem d34_5 : decode jdk_59_method_2_code 5 = .ok (.return_, 1) := by decide +kernel
set_option maxRecDepth 65536 in
set_option maxHeartbeats 4000000 in
theorem c_exi (l : Launch) (Z : State) (a0 : Array Value) (hw : ∀ d ∈ tables_1, d.before a0 Z = true) (hl : l.stackTraces = true) (us sn : Addr) (SU0 : Sta Z Z.heap "java/lang/Throwable" "UNASSIGNED_STACK" "[Ljava/lang/StackTraceElement;" (.ref us)) (SS0 : Sta Z Z.heap "java/lang/Throwable" "SUPPRESSED_SENTINEL" "Ljava/util/List;" (.ref sn)) (h0 : Heap) (TS : ThS Z h0) (a ms : Addr) (E : Exa Z h0 a "com/example/pricewright/pricewright/engine/UnpriceableException") (N : Unt h0 a) (Fc : Fld Z h0 a "java/lang/Throwable" "cause" "Ljava/lang/Throwable;" (.null)) (Fs : Fld Z h0 a "java/lang/Throwable" "stackTrace" "[Ljava/lang/StackTraceElement;" (.null)) (Fp : Fld Z h0 a "java/lang/Throwable" "suppressedExceptions" "Ljava/util/List;" (.null)) (Fb : Fld Z h0 a "java/lang/Throwable" "backtrace" "Ljava/lang/Object;" (.null)) (Fm : Fld Z h0 a "java/lang/Throwable" "detailMessage" "Ljava/lang/String;" (.null)) : Ow.PayT l Z (⟨"java/lang/Exception", "<init>", "(Ljava/lang/String;)V"⟩ : MethodName) jdk_59_method_2_code 2 none ({ frames := 4, cells := 1, slots := 2752, locals := 55 } : Room) #[(.ref a), (.ref ms)] h0 (fun v h L => v = none ∧ Ow.Eff h0 h [a] L ∧ Exa Z h a "com/example/pricewright/pricewright/engine/UnpriceableException" ∧ Fld Z h a "java/lang/Throwable" "detailMessage" "Ljava/lang/String;" (.ref ms)) := by
  refine Ow.PayT.of (Ls := #[.val (.ref a), .val (.ref ms)]) (plainFor_of_name pn6) (fun m => by first | rfl | (simp [entryFrame, mkF, argsToLocals, Value.category]; done)) ?_
  intro p e s m below meth c T hx hby hml hown hnm hme hZ hret hlk X eT hsh hTK hBl
  refine Ow.aloadN X hx (pc := 0) (hb hby d34_0) rfl rfl ?_
  refine Ow.aloadN X hx (pc := 1) (hb hby d34_1) rfl rfl ?_
  refine Ow.callIT X hx hZ (c_thr l Z a0 hw hl us sn SU0 SS0 _ TS a ms E N Fc Fs Fp Fb Fm) hTK hBl eT rfl hown (ww hw 181 rfl) (ww hw 182 rfl) (ww hw 185 rfl) (ww hw 186 rfl) (by decide) pd11 (by rw [hml]; rfl) (argsL := [_]) rfl rfl rfl (pc := 2) (hb hby d34_2) rfl rfl (by decide) (by decide) ?_
  rintro _ T L X ⟨rfl, F2, E, Fm⟩
  dsimp only [Option.toList_some, Option.toList_none, List.cons_append, List.nil_append]
  exact Ow.vreturn X hx hlk hret (hb hby d34_5) ⟨rfl, F2, E, Fm⟩ (by decide) (by decide)
theorem d33_0 : decode jdk_58_method_2_code 0 = .ok (.aload_n 0, 1) := by decide +kernel
theorem d33_1 : decode jdk_58_method_2_code 1 = .ok (.aload_n 1, 1) := by decide +kernel
theorem d33_2 : decode jdk_58_method_2_code 2 = .ok (.invokespecial 7, 3) := by decide +kernel
theorem d33_5 : decode jdk_58_method_2_code 5 = .ok (.return_, 1) := by decide +kernel
set_option maxRecDepth 65536 in
set_option maxHeartbeats 4000000 in
theorem c_rti (l : Launch) (Z : State) (a0 : Array Value) (hw : ∀ d ∈ tables_1, d.before a0 Z = true) (hl : l.stackTraces = true) (us sn : Addr) (SU0 : Sta Z Z.heap "java/lang/Throwable" "UNASSIGNED_STACK" "[Ljava/lang/StackTraceElement;" (.ref us)) (SS0 : Sta Z Z.heap "java/lang/Throwable" "SUPPRESSED_SENTINEL" "Ljava/util/List;" (.ref sn)) (h0 : Heap) (TS : ThS Z h0) (a ms : Addr) (E : Exa Z h0 a "com/example/pricewright/pricewright/engine/UnpriceableException") (N : Unt h0 a) (Fc : Fld Z h0 a "java/lang/Throwable" "cause" "Ljava/lang/Throwable;" (.null)) (Fs : Fld Z h0 a "java/lang/Throwable" "stackTrace" "[Ljava/lang/StackTraceElement;" (.null)) (Fp : Fld Z h0 a "java/lang/Throwable" "suppressedExceptions" "Ljava/util/List;" (.null)) (Fb : Fld Z h0 a "java/lang/Throwable" "backtrace" "Ljava/lang/Object;" (.null)) (Fm : Fld Z h0 a "java/lang/Throwable" "detailMessage" "Ljava/lang/String;" (.null)) : Ow.PayT l Z (⟨"java/lang/RuntimeException", "<init>", "(Ljava/lang/String;)V"⟩ : MethodName) jdk_58_method_2_code 2 none ({ frames := 5, cells := 1, slots := 2752, locals := 68 } : Room) #[(.ref a), (.ref ms)] h0 (fun v h L => v = none ∧ Ow.Eff h0 h [a] L ∧ Exa Z h a "com/example/pricewright/pricewright/engine/UnpriceableException" ∧ Fld Z h a "java/lang/Throwable" "detailMessage" "Ljava/lang/String;" (.ref ms)) := by
  refine Ow.PayT.of (Ls := #[.val (.ref a), .val (.ref ms)]) (plainFor_of_name pn7) (fun m => by first | rfl | (simp [entryFrame, mkF, argsToLocals, Value.category]; done)) ?_
  intro p e s m below meth c T hx hby hml hown hnm hme hZ hret hlk X eT hsh hTK hBl
  refine Ow.aloadN X hx (pc := 0) (hb hby d33_0) rfl rfl ?_
  refine Ow.aloadN X hx (pc := 1) (hb hby d33_1) rfl rfl ?_
  refine Ow.callIT X hx hZ (c_exi l Z a0 hw hl us sn SU0 SS0 _ TS a ms E N Fc Fs Fp Fb Fm) hTK hBl eT rfl hown (ww hw 175 rfl) (ww hw 176 rfl) (ww hw 179 rfl) (ww hw 180 rfl) (by decide) pd11 (by rw [hml]; rfl) (argsL := [_]) rfl rfl rfl (pc := 2) (hb hby d33_2) rfl rfl (by decide) (by decide) ?_
  rintro _ T L X ⟨rfl, F2, E, Fm⟩
  dsimp only [Option.toList_some, Option.toList_none, List.cons_append, List.nil_append]
  exact Ow.vreturn X hx hlk hret (hb hby d33_5) ⟨rfl, F2, E, Fm⟩ (by decide) (by decide)
theorem d32_0 : decode prog_34_method_1_code 0 = .ok (.aload_n 0, 1) := by decide +kernel
theorem d32_1 : decode prog_34_method_1_code 1 = .ok (.aload_n 1, 1) := by decide +kernel
theorem d32_2 : decode prog_34_method_1_code 2 = .ok (.invokespecial 1, 3) := by decide +kernel
theorem d32_5 : decode prog_34_method_1_code 5 = .ok (.return_, 1) := by decide +kernel
set_option maxRecDepth 65536 in
set_option maxHeartbeats 4000000 in
theorem c_uei (l : Launch) (Z : State) (a0 : Array Value) (hw : ∀ d ∈ tables_1, d.before a0 Z = true) (hl : l.stackTraces = true) (us sn : Addr) (SU0 : Sta Z Z.heap "java/lang/Throwable" "UNASSIGNED_STACK" "[Ljava/lang/StackTraceElement;" (.ref us)) (SS0 : Sta Z Z.heap "java/lang/Throwable" "SUPPRESSED_SENTINEL" "Ljava/util/List;" (.ref sn)) (h0 : Heap) (TS : ThS Z h0) (a ms : Addr) (E : Exa Z h0 a "com/example/pricewright/pricewright/engine/UnpriceableException") (N : Unt h0 a) (Fc : Fld Z h0 a "java/lang/Throwable" "cause" "Ljava/lang/Throwable;" (.null)) (Fs : Fld Z h0 a "java/lang/Throwable" "stackTrace" "[Ljava/lang/StackTraceElement;" (.null)) (Fp : Fld Z h0 a "java/lang/Throwable" "suppressedExceptions" "Ljava/util/List;" (.null)) (Fb : Fld Z h0 a "java/lang/Throwable" "backtrace" "Ljava/lang/Object;" (.null)) (Fm : Fld Z h0 a "java/lang/Throwable" "detailMessage" "Ljava/lang/String;" (.null)) : Ow.PayT l Z (⟨"com/example/pricewright/pricewright/engine/UnpriceableException", "<init>", "(Ljava/lang/String;)V"⟩ : MethodName) prog_34_method_1_code 2 none ({ frames := 6, cells := 1, slots := 2752, locals := 81 } : Room) #[(.ref a), (.ref ms)] h0 (fun v h L => v = none ∧ Ow.Eff h0 h [a] L ∧ Exa Z h a "com/example/pricewright/pricewright/engine/UnpriceableException" ∧ Fld Z h a "java/lang/Throwable" "detailMessage" "Ljava/lang/String;" (.ref ms)) := by
  refine Ow.PayT.of (Ls := #[.val (.ref a), .val (.ref ms)]) (plainFor_of_name pn8) (fun m => by first | rfl | (simp [entryFrame, mkF, argsToLocals, Value.category]; done)) ?_
  intro p e s m below meth c T hx hby hml hown hnm hme hZ hret hlk X eT hsh hTK hBl
  refine Ow.aloadN X hx (pc := 0) (hb hby d32_0) rfl rfl ?_
  refine Ow.aloadN X hx (pc := 1) (hb hby d32_1) rfl rfl ?_
  refine Ow.callIT X hx hZ (c_rti l Z a0 hw hl us sn SU0 SS0 _ TS a ms E N Fc Fs Fp Fb Fm) hTK hBl eT rfl hown (ww hw 170 rfl) (ww hw 171 rfl) (ww hw 173 rfl) (ww hw 174 rfl) (by decide) pd11 (by rw [hml]; rfl) (argsL := [_]) rfl rfl rfl (pc := 2) (hb hby d32_2) rfl rfl (by decide) (by decide) ?_
  rintro _ T L X ⟨rfl, F2, E, Fm⟩
  dsimp only [Option.toList_some, Option.toList_none, List.cons_append, List.nil_append]
  exact Ow.vreturn X hx hlk hret (hb hby d32_5) ⟨rfl, F2, E, Fm⟩ (by decide) (by decide)
theorem d6_0 : decode prog_34_method_4_code 0 = .ok (.new 8, 3) := by decide +kernel
theorem d6_3 : decode prog_34_method_4_code 3 = .ok (.dup, 1) := by decide +kernel
theorem d6_4 : decode prog_34_method_4_code 4 = .ok (.new 14, 3) := by decide +kernel
theorem d6_7 : decode prog_34_method_4_code 7 = .ok (.dup, 1) := by decide +kernel
theorem d6_8 : decode prog_34_method_4_code 8 = .ok (.invokespecial 16, 3) := by decide +kernel
theorem d6_11 : decode prog_34_method_4_code 11 = .ok (.ldc 31, 2) := by decide +kernel
theorem d6_13 : decode prog_34_method_4_code 13 = .ok (.invokevirtual 21, 3) := by decide +kernel
theorem d6_16 : decode prog_34_method_4_code 16 = .ok (.aload_n 0, 1) := by decide +kernel
theorem d6_17 : decode prog_34_method_4_code 17 = .ok (.invokevirtual 21, 3) := by decide +kernel
theorem d6_20 : decode prog_34_method_4_code 20 = .ok (.ldc 25, 2) := by decide +kernel
theorem d6_22 : decode prog_34_method_4_code 22 = .ok (.invokevirtual 21, 3) := by decide +kernel
theorem d6_25 : decode prog_34_method_4_code 25 = .ok (.aload_n 1, 1) := by decide +kernel
theorem d6_26 : decode prog_34_method_4_code 26 = .ok (.invokevirtual 21, 3) := by decide +kernel
theorem d6_29 : decode prog_34_method_4_code 29 = .ok (.invokevirtual 27, 3) := by decide +kernel
theorem d6_32 : decode prog_34_method_4_code 32 = .ok (.invokespecial 13, 3) := by decide +kernel
theorem d6_35 : decode prog_34_method_4_code 35 = .ok (.areturn, 1) := by decide +kernel
abbrev own_l1 : List Int32 := [99, 97, 110, 110, 111, 116, 32, 112, 114, 105, 99, 101, 32, 111, 114, 100, 101, 114, 115, 32, 119, 105, 116, 104, 32, 100, 105, 115, 99, 111, 117, 110, 116, 32, 115, 99, 104, 101, 109, 97, 32]
abbrev own_l2 : List Int32 := [58, 32]
theorem own_len1 : own_l1.length = 41 := by decide
theorem own_len2 : own_l2.length = 2 := by decide
theorem own_fl1 : ∀ v ∈ own_l1.map Value.int, fits .byte v = true := by decide +kernel
theorem own_fl2 : ∀ v ∈ own_l2.map Value.int, fits .byte v = true := by decide +kernel
set_option maxRecDepth 65536 in
set_option maxHeartbeats 40000000 in
theorem c_of (l : Launch) (Z : State) (a0 : Array Value) (hw : ∀ d ∈ tables_1, d.before a0 Z = true) (hEL : EW Z a0 EL) (hl : l.stackTraces = true) (us sn : Addr) (SU0 : Sta Z Z.heap "java/lang/Throwable" "UNASSIGNED_STACK" "[Ljava/lang/StackTraceElement;" (.ref us)) (SS0 : Sta Z Z.heap "java/lang/Throwable" "SUPPRESSED_SENTINEL" "Ljava/util/List;" (.ref sn)) (h0 : Heap) (z : Int32) (S : Sta Z h0 "java/lang/String" "COMPACT_STRINGS" "Z" (.int z)) (hz : ¬ z = 0) (TS : ThS Z h0) (x1 t1 x2 t2 : Addr) (j1 j2 : ClassId) (cs1 cs2 : List Int32) (Ss : Ow.Str Z h0 x1 t1 j1 cs1) (Sr : Ow.Str Z h0 x2 t2 j2 cs2) (hf1 : ∀ w ∈ (cs1).map Value.int, fits .byte w = true) (hf2 : ∀ w ∈ (cs2).map Value.int, fits .byte w = true) (hs1 : cs1.length = 2) (hs2 : cs2.length ≤ 2) : Ow.PayK l Z EL (⟨"com/example/pricewright/pricewright/engine/UnpriceableException", "ofSchema", "(Ljava/lang/String;Ljava/lang/String;)Lcom/example/pricewright/pricewright/engine/UnpriceableException;"⟩ : MethodName) prog_34_method_4_code 2 (some (.object "com/example/pricewright/pricewright/engine/UnpriceableException")) ({ frames := 7, cells := 14, slots := 3700, locals := 100 } : Room) #[(.ref x1), (.ref x2)] h0 (fun v1 h L => ∃ ue ms d kd, v1 = some (.ref ue) ∧ Ow.Eff h0 h [] L ∧ Exa Z h ue "com/example/pricewright/pricewright/engine/UnpriceableException" ∧ Fld Z h ue "java/lang/Throwable" "detailMessage" "Ljava/lang/String;" (.ref ms) ∧ Ow.Str Z h ms d kd (((([] ++ own_l1) ++ cs1) ++ own_l2) ++ cs2)) := by
  refine Ow.PayK.of (Ls := #[.val (.ref x1), .val (.ref x2)]) (plainFor_of_name pn8) (fun m => by first | rfl | (simp [entryFrame, mkF, argsToLocals, Value.category]; done)) ?_
  intro p e s m below meth c T vm0 hx hby hml hown hnm hme hret hlk X eT D hTK hBl hsh
  have F := Ow.Eff.refl h0 []
  have wS : ∀ a ∈ Bundle.stringAtoms, a.before a0 Z = true := fun d hd => hw d ((by decide +kernel : ∀ d ∈ Bundle.stringAtoms, d ∈ tables_1) d hd)
  have D0 := D
  refine Ow.new_ X hx D.hZ hown (ww hw 34 rfl) (ww hw 35 rfl) (ww hw 32 rfl) eT (pc := 0) (hb hby d6_0) (by decide) (by decide) ?_
  intro T h_ue ue ha_ue X eT E_ue A_ue D_ue U_ue
  have l_ue : h0.size ≤ ue := by rw [ha_ue]; exact F.size
  have ne_x1_ue : x1 ≠ ue := by rw [ha_ue]; exact Nat.ne_of_lt Ss.lt
  have ne_t1_ue : t1 ≠ ue := by rw [ha_ue]; exact Nat.ne_of_lt Ss.ltB
  have ne_x2_ue : x2 ≠ ue := by rw [ha_ue]; exact Nat.ne_of_lt Sr.lt
  have ne_t2_ue : t2 ≠ ue := by rw [ha_ue]; exact Nat.ne_of_lt Sr.ltB
  have S_ue := D.safeNew E_ue
  rw [← ha_ue] at S_ue
  have S := S.ext E_ue
  have TS := TS.ext E_ue
  have Ss := Ss.ext E_ue
  have Sr := Sr.ext E_ue
  have F := F.ext E_ue
  have D := D.ext E_ue
  have U_ue : Unt h_ue ue := U_ue
  have Fb := D_ue (Or.inl (ww hw 220 rfl)) (ty := .object "java/lang/Object") (by decide)
  have Fm := D_ue (Or.inl (ww hw 219 rfl)) (ty := .object "java/lang/String") (by decide)
  have Gc := D_ue (Or.inl (ww hw 189 rfl)) (ty := .object "java/lang/Throwable") (by decide)
  have Gs := D_ue (Or.inl (ww hw 192 rfl)) (ty := .array (.object "java/lang/StackTraceElement")) (by decide)
  have Gp := D_ue (Or.inl (ww hw 195 rfl)) (ty := .object "java/util/List") (by decide)
  refine Ow.dup X hx (pc := 3) (hb hby d6_3) rfl ?_
  refine Ow.new_ X hx D.hZ hown (ww hw 36 rfl) (ww hw 37 rfl) (ww hw 38 rfl) eT (pc := 4) (hb hby d6_4) (by decide) (by decide) ?_
  intro T h_sb sb ha_sb X eT E_sb A_sb D_sb U_sb
  have l_sb : h0.size ≤ sb := by rw [ha_sb]; exact F.size
  have ne_x1_sb : x1 ≠ sb := by rw [ha_sb]; exact Nat.ne_of_lt Ss.lt
  have ne_t1_sb : t1 ≠ sb := by rw [ha_sb]; exact Nat.ne_of_lt Ss.ltB
  have ne_x2_sb : x2 ≠ sb := by rw [ha_sb]; exact Nat.ne_of_lt Sr.lt
  have ne_t2_sb : t2 ≠ sb := by rw [ha_sb]; exact Nat.ne_of_lt Sr.ltB
  have ne_ue_sb : ue ≠ sb := by rw [ha_sb]; exact Nat.ne_of_lt A_ue.lt
  have S_sb := D.safeNew E_sb
  rw [← ha_sb] at S_sb
  have S := S.ext E_sb
  have TS := TS.ext E_sb
  have Ss := Ss.ext E_sb
  have Sr := Sr.ext E_sb
  have A_ue := A_ue.ext E_sb
  have Gc := Gc.ext E_sb
  have Gs := Gs.ext E_sb
  have Gp := Gp.ext E_sb
  have Fb := Fb.ext E_sb
  have Fm := Fm.ext E_sb
  have U_ue := U_ue.ext E_sb
  have S_ue := D.safeExt E_sb S_ue
  have F := F.ext E_sb
  have D := D.ext E_sb
  have Fv := D_sb (Or.inl (ww hw 51 rfl)) (ty := (.array .byte)) (by decide)
  have Fc := D_sb (Or.inl (ww hw 53 rfl)) (ty := .byte) (by decide)
  have Fn := D_sb (Or.inl (ww hw 78 rfl)) (ty := .int) (by decide)
  refine Ow.dup X hx (pc := 7) (hb hby d6_7) rfl ?_
  have P_sb := Ow.Exa.plain A_sb
  have hsbl := A_sb.lt
  have Ssb := S_sb
  have hpl : ∀ y ∈ [sb], ∃ c : Cell, h_sb[y]? = some c ∧ c.vm.isStatics = false := (fun y hy => by cases List.mem_singleton.mp hy; exact P_sb)
  refine Ow.callI X hx D.hZ (c_sbinit l Z a0 hw _ z S hz sb A_sb Fv Fc Fn) eT rfl hown (ww hw 39 rfl) (ww hw 40 rfl) (ww hw 38 rfl) (ww hw 41 rfl) (by decide) pd0 (by rw [hml]; rfl) (argsL := []) rfl rfl rfl (pc := 8) (hb hby d6_8) rfl rfl (by decide) (by decide) ?_
  rintro _ T L X ⟨rfl, F2, v, kv, l_v, SBx⟩
  dsimp only [Option.toList_some, Option.toList_none, List.cons_append, List.nil_append]
  have l2_v : h0.size ≤ v := Nat.le_trans F.size l_v
  have ne_x1_v : x1 ≠ v := Nat.ne_of_lt (Nat.lt_of_lt_of_le Ss.lt l_v)
  have ne_t1_v : t1 ≠ v := Nat.ne_of_lt (Nat.lt_of_lt_of_le Ss.ltB l_v)
  have ne_x2_v : x2 ≠ v := Nat.ne_of_lt (Nat.lt_of_lt_of_le Sr.lt l_v)
  have ne_t2_v : t2 ≠ v := Nat.ne_of_lt (Nat.lt_of_lt_of_le Sr.ltB l_v)
  have ne_ue_v : ue ≠ v := Nat.ne_of_lt (Nat.lt_of_lt_of_le A_ue.lt l_v)
  have ne_sb_v : sb ≠ v := Nat.ne_of_lt (Nat.lt_of_lt_of_le hsbl l_v)
  have hss : ∀ y ∈ [sb], Safe Z EL vm0 h_sb y := (fun y hy => by cases List.mem_singleton.mp hy; exact Ssb)
  have Sv := D.safeKeep F2.1 hss (Safe.new l_v)
  have F := F.call F2 (fun y hy => by cases List.mem_singleton.mp hy; exact Or.inr l_sb)
  have D := D.keep F2.1 hss
  -- kept
  have S := Ow.staKeep S F2.1 (fun y hy => hpl y hy)
  have TS := TS.keep F2.1 (fun y hy => Ow.nostat_of (hpl y hy))
  have Ss := Ss.keep F2.1 (Ow.nin1 ne_x1_sb) (Ow.nin1 ne_t1_sb)
  have Sr := Sr.keep F2.1 (Ow.nin1 ne_x2_sb) (Ow.nin1 ne_t2_sb)
  have A_ue := A_ue.keep F2.1
  have Gc := Gc.keep F2.1 (Ow.nin1 ne_ue_sb)
  have Gs := Gs.keep F2.1 (Ow.nin1 ne_ue_sb)
  have Gp := Gp.keep F2.1 (Ow.nin1 ne_ue_sb)
  have Fb := Fb.keep F2.1 (Ow.nin1 ne_ue_sb)
  have Fm := Fm.keep F2.1 (Ow.nin1 ne_ue_sb)
  have U_ue := Unt.keep F2.1 (Ow.nin1 ne_ue_sb) U_ue
  obtain ⟨h_8, e_8⟩ : ∃ q, q = T.heap := ⟨_, rfl⟩
  rw [← e_8] at F D SBx Sv S TS Ss Sr A_ue Gc Gs Gp Fb Fm U_ue
  have eT : T.heap = h_8 := e_8.symm
  have hsbl := SBx.1.lt
  have Ssb : Safe Z EL _ _ sb := Safe.exa D.hZ.alike SBx.1 (by decide) (by decide)
  refine Ow.ldcS X hx eT D hEL hown (ww hw 54 rfl) wS (by decide) (vs := [.int 99, .int 97, .int 110, .int 110, .int 111, .int 116, .int 32, .int 112, .int 114, .int 105, .int 99, .int 101, .int 32, .int 111, .int 114, .int 100, .int 101, .int 114, .int 115, .int 32, .int 119, .int 105, .int 116, .int 104, .int 32, .int 100, .int 105, .int 115, .int 99, .int 111, .int 117, .int 110, .int 116, .int 32, .int 115, .int 99, .int 104, .int 101, .int 109, .int 97, .int 32]) (z := 41) (by decide) (by decide) (by decide) (pc := 11) (hb hby d6_11) 164 (by decide) (by decide) (by decide) (by decide) ?_
  intro vm_la a_la T h_la b_la k_la X eT E_la D hown C_la A_la Fc_la Fv_la V_la ne_la
  have Sv := C_la.safe SBx.ltB Sv
  have Ssb := C_la.safe hsbl Ssb
  have S := S.ext E_la
  have TS := TS.ext E_la
  have Ss := Ss.ext E_la
  have Sr := Sr.ext E_la
  have A_ue := A_ue.ext E_la
  have Gc := Gc.ext E_la
  have Gs := Gs.ext E_la
  have Gp := Gp.ext E_la
  have Fb := Fb.ext E_la
  have Fm := Fm.ext E_la
  have U_ue := U_ue.ext E_la
  have F := F.ext E_la
  have SBx := SBx.ext E_la
  have hsbl := SBx.1.lt
  have St_la : Ow.Str Z h_la a_la b_la k_la [99, 97, 110, 110, 111, 116, 32, 112, 114, 105, 99, 101, 32, 111, 114, 100, 101, 114, 115, 32, 119, 105, 116, 104, 32, 100, 105, 115, 99, 111, 117, 110, 116, 32, 115, 99, 104, 101, 109, 97, 32] := ⟨A_la, Fc_la, Fv_la, Ow.AL.of_arv V_la rfl⟩
  have P_sb := Ow.Exa.plain SBx.1
  have P_v := Ow.AL.plain SBx.2.2.2.2
  have hpl : ∀ y ∈ [sb, v], ∃ c : Cell, h_la[y]? = some c ∧ c.vm.isStatics = false := fun y hy => by
    simp only [List.mem_cons, List.not_mem_nil, or_false] at hy
    rcases hy with rfl | rfl
    · exact P_sb
    · exact P_v
  refine Ow.callV X hx D.hZ (c_sbapp l Z a0 hw _ z S hz sb v _ [] 16 SBx (fun _ q => nomatch q) a_la b_la k_la own_l1 St_la own_fl1 (Ne.symm (ne_la sb Ssb).1) (Ne.symm (ne_la sb Ssb).2) (Ne.symm (ne_la v Sv).1) (Ne.symm (ne_la v Sv).2) ne_sb_v (by decide) (by decide)) eT hown (ww hw 57 rfl) (ww hw 58 rfl) (ww hw 60 rfl) (ww hw 59 rfl) (ww hw 38 rfl) (ww hw 61 rfl) (by decide) pd21 (by rw [hml]; rfl) SBx.1 (argsL := [_]) rfl rfl rfl (pc := 13) (hb hby d6_13) rfl rfl (by decide) (by decide) ?_
  rintro _ T L X ⟨rfl, F2, v1, k_v1, r_v1, SBx, hr_v1, hv⟩
  dsimp only [Option.toList_some, Option.toList_none, List.cons_append, List.nil_append]
  have ne_x1_v1 : x1 ≠ v1 := by
    rcases hv with q | q
    · rw [q]; exact ne_x1_v
    · exact Nat.ne_of_lt (Nat.lt_of_lt_of_le Ss.lt q)
  have ne_t1_v1 : t1 ≠ v1 := by
    rcases hv with q | q
    · rw [q]; exact ne_t1_v
    · exact Nat.ne_of_lt (Nat.lt_of_lt_of_le Ss.ltB q)
  have ne_x2_v1 : x2 ≠ v1 := by
    rcases hv with q | q
    · rw [q]; exact ne_x2_v
    · exact Nat.ne_of_lt (Nat.lt_of_lt_of_le Sr.lt q)
  have ne_t2_v1 : t2 ≠ v1 := by
    rcases hv with q | q
    · rw [q]; exact ne_t2_v
    · exact Nat.ne_of_lt (Nat.lt_of_lt_of_le Sr.ltB q)
  have ne_ue_v1 : ue ≠ v1 := by
    rcases hv with q | q
    · rw [q]; exact ne_ue_v
    · exact Nat.ne_of_lt (Nat.lt_of_lt_of_le A_ue.lt q)
  have ne_sb_v1 : sb ≠ v1 := by
    rcases hv with q | q
    · rw [q]; exact ne_sb_v
    · exact Nat.ne_of_lt (Nat.lt_of_lt_of_le hsbl q)
  have Sv1 : Safe Z EL vm_la h_la v1 := by
    rcases hv with q | q
    · rw [q]; exact Sv
    · exact Safe.new q
  have hss : ∀ y ∈ [sb, v], Safe Z EL vm_la h_la y := fun y hy => by
    simp only [List.mem_cons, List.not_mem_nil, or_false] at hy
    rcases hy with rfl | rfl
    · exact Ssb
    · exact Sv
  have Sv := D.safeKeep F2.1 hss Sv1
  have l2_v1 : h0.size ≤ v1 := by
    rcases hv with q | q
    · rw [q]; exact l2_v
    · exact Nat.le_trans F.size q
  have F := F.call F2 (fun y hy => by
    simp only [List.mem_cons, List.not_mem_nil, or_false] at hy
    rcases hy with rfl | rfl
    · exact Or.inr l_sb
    · exact Or.inr l2_v)
  have D := D.keep F2.1 hss
  -- kept
  have S := Ow.staKeep S F2.1 (fun y hy => hpl y hy)
  have TS := TS.keep F2.1 (fun y hy => Ow.nostat_of (hpl y hy))
  have Ss := Ss.keep F2.1 (ninS ne_x1_sb (Ow.nin1 ne_x1_v)) (ninS ne_t1_sb (Ow.nin1 ne_t1_v))
  have Sr := Sr.keep F2.1 (ninS ne_x2_sb (Ow.nin1 ne_x2_v)) (ninS ne_t2_sb (Ow.nin1 ne_t2_v))
  have A_ue := A_ue.keep F2.1
  have Gc := Gc.keep F2.1 (ninS ne_ue_sb (Ow.nin1 ne_ue_v))
  have Gs := Gs.keep F2.1 (ninS ne_ue_sb (Ow.nin1 ne_ue_v))
  have Gp := Gp.keep F2.1 (ninS ne_ue_sb (Ow.nin1 ne_ue_v))
  have Fb := Fb.keep F2.1 (ninS ne_ue_sb (Ow.nin1 ne_ue_v))
  have Fm := Fm.keep F2.1 (ninS ne_ue_sb (Ow.nin1 ne_ue_v))
  have U_ue := Unt.keep F2.1 (ninS ne_ue_sb (Ow.nin1 ne_ue_v)) U_ue
  obtain ⟨h_13, e_13⟩ : ∃ q, q = T.heap := ⟨_, rfl⟩
  rw [← e_13] at F D SBx Sv S TS Ss Sr A_ue Gc Gs Gp Fb Fm U_ue
  have eT : T.heap = h_13 := e_13.symm
  have hsbl := SBx.1.lt
  have Ssb : Safe Z EL _ _ sb := Safe.exa D.hZ.alike SBx.1 (by decide) (by decide)
  have hc1 : r_v1 = 0 := by
    have q1 := own_len1
    simp only [List.length_nil] at hr_v1
    unfold own_gr at hr_v1
    split at hr_v1 <;> omega
  subst hc1
  refine Ow.aloadN X hx (pc := 16) (hb hby d6_16) rfl rfl ?_
  have P_sb := Ow.Exa.plain SBx.1
  have P_v := Ow.AL.plain SBx.2.2.2.2
  have hpl : ∀ y ∈ [sb, v1], ∃ c : Cell, h_13[y]? = some c ∧ c.vm.isStatics = false := fun y hy => by
    simp only [List.mem_cons, List.not_mem_nil, or_false] at hy
    rcases hy with rfl | rfl
    · exact P_sb
    · exact P_v
  refine Ow.callV X hx D.hZ (c_sbapp l Z a0 hw _ z S hz sb v1 _ _ 0 SBx (own_fitA (fun _ q => nomatch q) own_fl1) x1 t1 _ cs1 Ss hf1 ne_x1_sb ne_t1_sb ne_x1_v1 ne_t1_v1 ne_sb_v1 (by have q1 := own_len1; have q2 := own_len2; have q3 := hs1; have q4 := hs2; simp only [List.length_append, List.length_nil]; omega) (by decide)) eT hown (ww hw 57 rfl) (ww hw 58 rfl) (ww hw 60 rfl) (ww hw 59 rfl) (ww hw 38 rfl) (ww hw 61 rfl) (by decide) pd21 (by rw [hml]; rfl) SBx.1 (argsL := [_]) rfl rfl rfl (pc := 17) (hb hby d6_17) rfl rfl (by decide) (by decide) ?_
  rintro _ T L X ⟨rfl, F2, v2, k_v2, r_v2, SBx, hr_v2, hv⟩
  dsimp only [Option.toList_some, Option.toList_none, List.cons_append, List.nil_append]
  have ne_x1_v2 : x1 ≠ v2 := by
    rcases hv with q | q
    · rw [q]; exact ne_x1_v1
    · exact Nat.ne_of_lt (Nat.lt_of_lt_of_le Ss.lt q)
  have ne_t1_v2 : t1 ≠ v2 := by
    rcases hv with q | q
    · rw [q]; exact ne_t1_v1
    · exact Nat.ne_of_lt (Nat.lt_of_lt_of_le Ss.ltB q)
  have ne_x2_v2 : x2 ≠ v2 := by
    rcases hv with q | q
    · rw [q]; exact ne_x2_v1
    · exact Nat.ne_of_lt (Nat.lt_of_lt_of_le Sr.lt q)
  have ne_t2_v2 : t2 ≠ v2 := by
    rcases hv with q | q
    · rw [q]; exact ne_t2_v1
    · exact Nat.ne_of_lt (Nat.lt_of_lt_of_le Sr.ltB q)
  have ne_ue_v2 : ue ≠ v2 := by
    rcases hv with q | q
    · rw [q]; exact ne_ue_v1
    · exact Nat.ne_of_lt (Nat.lt_of_lt_of_le A_ue.lt q)
  have ne_sb_v2 : sb ≠ v2 := by
    rcases hv with q | q
    · rw [q]; exact ne_sb_v1
    · exact Nat.ne_of_lt (Nat.lt_of_lt_of_le hsbl q)
  have Sv1 : Safe Z EL vm_la h_13 v2 := by
    rcases hv with q | q
    · rw [q]; exact Sv
    · exact Safe.new q
  have hss : ∀ y ∈ [sb, v1], Safe Z EL vm_la h_13 y := fun y hy => by
    simp only [List.mem_cons, List.not_mem_nil, or_false] at hy
    rcases hy with rfl | rfl
    · exact Ssb
    · exact Sv
  have Sv := D.safeKeep F2.1 hss Sv1
  have l2_v2 : h0.size ≤ v2 := by
    rcases hv with q | q
    · rw [q]; exact l2_v1
    · exact Nat.le_trans F.size q
  have F := F.call F2 (fun y hy => by
    simp only [List.mem_cons, List.not_mem_nil, or_false] at hy
    rcases hy with rfl | rfl
    · exact Or.inr l_sb
    · exact Or.inr l2_v1)
  have D := D.keep F2.1 hss
  -- kept
  have S := Ow.staKeep S F2.1 (fun y hy => hpl y hy)
  have TS := TS.keep F2.1 (fun y hy => Ow.nostat_of (hpl y hy))
  have Ss := Ss.keep F2.1 (ninS ne_x1_sb (Ow.nin1 ne_x1_v1)) (ninS ne_t1_sb (Ow.nin1 ne_t1_v1))
  have Sr := Sr.keep F2.1 (ninS ne_x2_sb (Ow.nin1 ne_x2_v1)) (ninS ne_t2_sb (Ow.nin1 ne_t2_v1))
  have A_ue := A_ue.keep F2.1
  have Gc := Gc.keep F2.1 (ninS ne_ue_sb (Ow.nin1 ne_ue_v1))
  have Gs := Gs.keep F2.1 (ninS ne_ue_sb (Ow.nin1 ne_ue_v1))
  have Gp := Gp.keep F2.1 (ninS ne_ue_sb (Ow.nin1 ne_ue_v1))
  have Fb := Fb.keep F2.1 (ninS ne_ue_sb (Ow.nin1 ne_ue_v1))
  have Fm := Fm.keep F2.1 (ninS ne_ue_sb (Ow.nin1 ne_ue_v1))
  have U_ue := Unt.keep F2.1 (ninS ne_ue_sb (Ow.nin1 ne_ue_v1)) U_ue
  obtain ⟨h_17, e_17⟩ : ∃ q, q = T.heap := ⟨_, rfl⟩
  rw [← e_17] at F D SBx Sv S TS Ss Sr A_ue Gc Gs Gp Fb Fm U_ue
  have eT : T.heap = h_17 := e_17.symm
  have hsbl := SBx.1.lt
  have Ssb : Safe Z EL _ _ sb := Safe.exa D.hZ.alike SBx.1 (by decide) (by decide)
  have hc2 : r_v2 = 41 := by
    simp only [List.length_append, List.length_nil, own_len1, own_len2, hs1] at hr_v2
    unfold own_gr at hr_v2
    split at hr_v2 <;> omega
  subst hc2
  refine Ow.ldcS X hx eT D hEL hown (ww hw 127 rfl) wS (by decide) (vs := [.int 58, .int 32]) (z := 2) (by decide) (by decide) (by decide) (pc := 20) (hb hby d6_20) 8 (by decide) (by decide) (by decide) (by decide) ?_
  intro vm_lb a_lb T h_lb b_lb k_lb X eT E_lb D hown C_lb A_lb Fc_lb Fv_lb V_lb ne_lb
  have Sv := C_lb.safe SBx.ltB Sv
  have Ssb := C_lb.safe hsbl Ssb
  have S := S.ext E_lb
  have TS := TS.ext E_lb
  have Ss := Ss.ext E_lb
  have Sr := Sr.ext E_lb
  have A_ue := A_ue.ext E_lb
  have Gc := Gc.ext E_lb
  have Gs := Gs.ext E_lb
  have Gp := Gp.ext E_lb
  have Fb := Fb.ext E_lb
  have Fm := Fm.ext E_lb
  have U_ue := U_ue.ext E_lb
  have F := F.ext E_lb
  have SBx := SBx.ext E_lb
  have hsbl := SBx.1.lt
  have St_lb : Ow.Str Z h_lb a_lb b_lb k_lb [58, 32] := ⟨A_lb, Fc_lb, Fv_lb, Ow.AL.of_arv V_lb rfl⟩
  have P_sb := Ow.Exa.plain SBx.1
  have P_v := Ow.AL.plain SBx.2.2.2.2
  have hpl : ∀ y ∈ [sb, v2], ∃ c : Cell, h_lb[y]? = some c ∧ c.vm.isStatics = false := fun y hy => by
    simp only [List.mem_cons, List.not_mem_nil, or_false] at hy
    rcases hy with rfl | rfl
    · exact P_sb
    · exact P_v
  refine Ow.callV X hx D.hZ (c_sbapp l Z a0 hw _ z S hz sb v2 _ _ 41 SBx (own_fitA (own_fitA (fun _ q => nomatch q) own_fl1) hf1) a_lb b_lb k_lb own_l2 St_lb own_fl2 (Ne.symm (ne_lb sb Ssb).1) (Ne.symm (ne_lb sb Ssb).2) (Ne.symm (ne_lb v2 Sv).1) (Ne.symm (ne_lb v2 Sv).2) ne_sb_v2 (by have q1 := own_len1; have q2 := own_len2; have q3 := hs1; have q4 := hs2; simp only [List.length_append, List.length_nil]; omega) (by have q1 := own_len1; have q2 := own_len2; have q3 := hs1; have q4 := hs2; simp only [List.length_append, List.length_nil]; omega)) eT hown (ww hw 57 rfl) (ww hw 58 rfl) (ww hw 60 rfl) (ww hw 59 rfl) (ww hw 38 rfl) (ww hw 61 rfl) (by decide) pd21 (by rw [hml]; rfl) SBx.1 (argsL := [_]) rfl rfl rfl (pc := 22) (hb hby d6_22) rfl rfl (by decide) (by decide) ?_
  rintro _ T L X ⟨rfl, F2, v3, k_v3, r_v3, SBx, hr_v3, hv⟩
  dsimp only [Option.toList_some, Option.toList_none, List.cons_append, List.nil_append]
  have ne_x1_v3 : x1 ≠ v3 := by
    rcases hv with q | q
    · rw [q]; exact ne_x1_v2
    · exact Nat.ne_of_lt (Nat.lt_of_lt_of_le Ss.lt q)
  have ne_t1_v3 : t1 ≠ v3 := by
    rcases hv with q | q
    · rw [q]; exact ne_t1_v2
    · exact Nat.ne_of_lt (Nat.lt_of_lt_of_le Ss.ltB q)
  have ne_x2_v3 : x2 ≠ v3 := by
    rcases hv with q | q
    · rw [q]; exact ne_x2_v2
    · exact Nat.ne_of_lt (Nat.lt_of_lt_of_le Sr.lt q)
  have ne_t2_v3 : t2 ≠ v3 := by
    rcases hv with q | q
    · rw [q]; exact ne_t2_v2
    · exact Nat.ne_of_lt (Nat.lt_of_lt_of_le Sr.ltB q)
  have ne_ue_v3 : ue ≠ v3 := by
    rcases hv with q | q
    · rw [q]; exact ne_ue_v2
    · exact Nat.ne_of_lt (Nat.lt_of_lt_of_le A_ue.lt q)
  have ne_sb_v3 : sb ≠ v3 := by
    rcases hv with q | q
    · rw [q]; exact ne_sb_v2
    · exact Nat.ne_of_lt (Nat.lt_of_lt_of_le hsbl q)
  have Sv1 : Safe Z EL vm_lb h_lb v3 := by
    rcases hv with q | q
    · rw [q]; exact Sv
    · exact Safe.new q
  have hss : ∀ y ∈ [sb, v2], Safe Z EL vm_lb h_lb y := fun y hy => by
    simp only [List.mem_cons, List.not_mem_nil, or_false] at hy
    rcases hy with rfl | rfl
    · exact Ssb
    · exact Sv
  have Sv := D.safeKeep F2.1 hss Sv1
  have l2_v3 : h0.size ≤ v3 := by
    rcases hv with q | q
    · rw [q]; exact l2_v2
    · exact Nat.le_trans F.size q
  have F := F.call F2 (fun y hy => by
    simp only [List.mem_cons, List.not_mem_nil, or_false] at hy
    rcases hy with rfl | rfl
    · exact Or.inr l_sb
    · exact Or.inr l2_v2)
  have D := D.keep F2.1 hss
  -- kept
  have S := Ow.staKeep S F2.1 (fun y hy => hpl y hy)
  have TS := TS.keep F2.1 (fun y hy => Ow.nostat_of (hpl y hy))
  have Ss := Ss.keep F2.1 (ninS ne_x1_sb (Ow.nin1 ne_x1_v2)) (ninS ne_t1_sb (Ow.nin1 ne_t1_v2))
  have Sr := Sr.keep F2.1 (ninS ne_x2_sb (Ow.nin1 ne_x2_v2)) (ninS ne_t2_sb (Ow.nin1 ne_t2_v2))
  have A_ue := A_ue.keep F2.1
  have Gc := Gc.keep F2.1 (ninS ne_ue_sb (Ow.nin1 ne_ue_v2))
  have Gs := Gs.keep F2.1 (ninS ne_ue_sb (Ow.nin1 ne_ue_v2))
  have Gp := Gp.keep F2.1 (ninS ne_ue_sb (Ow.nin1 ne_ue_v2))
  have Fb := Fb.keep F2.1 (ninS ne_ue_sb (Ow.nin1 ne_ue_v2))
  have Fm := Fm.keep F2.1 (ninS ne_ue_sb (Ow.nin1 ne_ue_v2))
  have U_ue := Unt.keep F2.1 (ninS ne_ue_sb (Ow.nin1 ne_ue_v2)) U_ue
  obtain ⟨h_22, e_22⟩ : ∃ q, q = T.heap := ⟨_, rfl⟩
  rw [← e_22] at F D SBx Sv S TS Ss Sr A_ue Gc Gs Gp Fb Fm U_ue
  have eT : T.heap = h_22 := e_22.symm
  have hsbl := SBx.1.lt
  have Ssb : Safe Z EL _ _ sb := Safe.exa D.hZ.alike SBx.1 (by decide) (by decide)
  have hc3 : r_v3 = 39 := by
    simp only [List.length_append, List.length_nil, own_len1, own_len2, hs1] at hr_v3
    unfold own_gr at hr_v3
    split at hr_v3 <;> omega
  subst hc3
  refine Ow.aloadN X hx (pc := 25) (hb hby d6_25) rfl rfl ?_
  have P_sb := Ow.Exa.plain SBx.1
  have P_v := Ow.AL.plain SBx.2.2.2.2
  have hpl : ∀ y ∈ [sb, v3], ∃ c : Cell, h_22[y]? = some c ∧ c.vm.isStatics = false := fun y hy => by
    simp only [List.mem_cons, List.not_mem_nil, or_false] at hy
    rcases hy with rfl | rfl
    · exact P_sb
    · exact P_v
  refine Ow.callV X hx D.hZ (c_sbapp l Z a0 hw _ z S hz sb v3 _ _ 39 SBx (own_fitA (own_fitA (own_fitA (fun _ q => nomatch q) own_fl1) hf1) own_fl2) x2 t2 _ cs2 Sr hf2 ne_x2_sb ne_t2_sb ne_x2_v3 ne_t2_v3 ne_sb_v3 (by have q1 := own_len1; have q2 := own_len2; have q3 := hs1; have q4 := hs2; simp only [List.length_append, List.length_nil]; omega) (by have q1 := own_len1; have q2 := own_len2; have q3 := hs1; have q4 := hs2; simp only [List.length_append, List.length_nil]; omega)) eT hown (ww hw 57 rfl) (ww hw 58 rfl) (ww hw 60 rfl) (ww hw 59 rfl) (ww hw 38 rfl) (ww hw 61 rfl) (by decide) pd21 (by rw [hml]; rfl) SBx.1 (argsL := [_]) rfl rfl rfl (pc := 26) (hb hby d6_26) rfl rfl (by decide) (by decide) ?_
  rintro _ T L X ⟨rfl, F2, v4, k_v4, r_v4, SBx, hr_v4, hv⟩
  dsimp only [Option.toList_some, Option.toList_none, List.cons_append, List.nil_append]
  have ne_x1_v4 : x1 ≠ v4 := by
    rcases hv with q | q
    · rw [q]; exact ne_x1_v3
    · exact Nat.ne_of_lt (Nat.lt_of_lt_of_le Ss.lt q)
  have ne_t1_v4 : t1 ≠ v4 := by
    rcases hv with q | q
    · rw [q]; exact ne_t1_v3
    · exact Nat.ne_of_lt (Nat.lt_of_lt_of_le Ss.ltB q)
  have ne_x2_v4 : x2 ≠ v4 := by
    rcases hv with q | q
    · rw [q]; exact ne_x2_v3
    · exact Nat.ne_of_lt (Nat.lt_of_lt_of_le Sr.lt q)
  have ne_t2_v4 : t2 ≠ v4 := by
    rcases hv with q | q
    · rw [q]; exact ne_t2_v3
    · exact Nat.ne_of_lt (Nat.lt_of_lt_of_le Sr.ltB q)
  have ne_ue_v4 : ue ≠ v4 := by
    rcases hv with q | q
    · rw [q]; exact ne_ue_v3
    · exact Nat.ne_of_lt (Nat.lt_of_lt_of_le A_ue.lt q)
  have ne_sb_v4 : sb ≠ v4 := by
    rcases hv with q | q
    · rw [q]; exact ne_sb_v3
    · exact Nat.ne_of_lt (Nat.lt_of_lt_of_le hsbl q)
  have Sv1 : Safe Z EL vm_lb h_22 v4 := by
    rcases hv with q | q
    · rw [q]; exact Sv
    · exact Safe.new q
  have hss : ∀ y ∈ [sb, v3], Safe Z EL vm_lb h_22 y := fun y hy => by
    simp only [List.mem_cons, List.not_mem_nil, or_false] at hy
    rcases hy with rfl | rfl
    · exact Ssb
    · exact Sv
  have Sv := D.safeKeep F2.1 hss Sv1
  have l2_v4 : h0.size ≤ v4 := by
    rcases hv with q | q
    · rw [q]; exact l2_v3
    · exact Nat.le_trans F.size q
  have F := F.call F2 (fun y hy => by
    simp only [List.mem_cons, List.not_mem_nil, or_false] at hy
    rcases hy with rfl | rfl
    · exact Or.inr l_sb
    · exact Or.inr l2_v3)
  have D := D.keep F2.1 hss
  -- kept
  have S := Ow.staKeep S F2.1 (fun y hy => hpl y hy)
  have TS := TS.keep F2.1 (fun y hy => Ow.nostat_of (hpl y hy))
  have Ss := Ss.keep F2.1 (ninS ne_x1_sb (Ow.nin1 ne_x1_v3)) (ninS ne_t1_sb (Ow.nin1 ne_t1_v3))
  have Sr := Sr.keep F2.1 (ninS ne_x2_sb (Ow.nin1 ne_x2_v3)) (ninS ne_t2_sb (Ow.nin1 ne_t2_v3))
  have A_ue := A_ue.keep F2.1
  have Gc := Gc.keep F2.1 (ninS ne_ue_sb (Ow.nin1 ne_ue_v3))
  have Gs := Gs.keep F2.1 (ninS ne_ue_sb (Ow.nin1 ne_ue_v3))
  have Gp := Gp.keep F2.1 (ninS ne_ue_sb (Ow.nin1 ne_ue_v3))
  have Fb := Fb.keep F2.1 (ninS ne_ue_sb (Ow.nin1 ne_ue_v3))
  have Fm := Fm.keep F2.1 (ninS ne_ue_sb (Ow.nin1 ne_ue_v3))
  have U_ue := Unt.keep F2.1 (ninS ne_ue_sb (Ow.nin1 ne_ue_v3)) U_ue
  obtain ⟨h_26, e_26⟩ : ∃ q, q = T.heap := ⟨_, rfl⟩
  rw [← e_26] at F D SBx Sv S TS Ss Sr A_ue Gc Gs Gp Fb Fm U_ue
  have eT : T.heap = h_26 := e_26.symm
  have hsbl := SBx.1.lt
  have Ssb : Safe Z EL _ _ sb := Safe.exa D.hZ.alike SBx.1 (by decide) (by decide)
  have hc4 : 45 + cs2.length + r_v4 = 84 := by
    simp only [List.length_append, List.length_nil, own_len1, own_len2, hs1] at hr_v4
    unfold own_gr at hr_v4
    split at hr_v4 <;> omega
  refine Ow.callV X hx D.hZ (c_tostr l Z a0 hw _ z S hz sb v4 _ _ r_v4 SBx (own_fitA (own_fitA (own_fitA (own_fitA (fun _ q => nomatch q) own_fl1) hf1) own_fl2) hf2) (by omega) (by have q0 := hc4; have q1 := own_len1; have q2 := own_len2; have q3 := hs1; have q4 := hs2; simp only [List.length_append, List.length_nil]; omega)) eT hown (ww hw 128 rfl) (ww hw 129 rfl) (ww hw 131 rfl) (ww hw 130 rfl) (ww hw 38 rfl) (ww hw 132 rfl) (by decide) pd22 (by rw [hml]; rfl) SBx.1 (argsL := []) rfl rfl rfl (pc := 29) (hb hby d6_29) rfl rfl (by decide) (by decide) ?_
  rintro _ T L X ⟨ms, d, kd, rfl, F2, Sm, l_ms⟩
  dsimp only [Option.toList_some, Option.toList_none, List.cons_append, List.nil_append]
  have F := F.call F2 (fun _ q => nomatch q)
  have S := S.ext (Ow.Keep.ext0 F2.1)
  have TS := TS.ext (Ow.Keep.ext0 F2.1)
  have Ss := Ss.ext (Ow.Keep.ext0 F2.1)
  have Sr := Sr.ext (Ow.Keep.ext0 F2.1)
  have A_ue := A_ue.ext (Ow.Keep.ext0 F2.1)
  have Gc := Gc.ext (Ow.Keep.ext0 F2.1)
  have Gs := Gs.ext (Ow.Keep.ext0 F2.1)
  have Gp := Gp.ext (Ow.Keep.ext0 F2.1)
  have Fb := Fb.ext (Ow.Keep.ext0 F2.1)
  have Fm := Fm.ext (Ow.Keep.ext0 F2.1)
  have U_ue := U_ue.ext (Ow.Keep.ext0 F2.1)
  have D := D.ext (Ow.Keep.ext0 F2.1)
  obtain ⟨h_29, e_29⟩ : ∃ q, q = T.heap := ⟨_, rfl⟩
  rw [← e_29] at F D Sm S TS Ss Sr A_ue Gc Gs Gp Fb Fm U_ue
  have eT : T.heap = h_29 := e_29.symm
  obtain ⟨⟨_, Q0, -⟩, -⟩ := id D0
  obtain ⟨⟨_, Q1, -⟩, -⟩ := id D
  have hal := Q0.1.alike.symm.trans Q1.1.alike
  have Sue : Safe Z EL _ _ ue := Safe.exa D.hZ.alike A_ue (by decide) (by decide)
  have ne_ms_ue : ms ≠ ue := Ne.symm (ne_exa A_ue Sm.1 (by decide))
  have ne_d_ue : d ≠ ue := Ne.symm (own_neAL A_ue Sm.2.2.2 (ww hw 35 rfl))
  refine Ow.callIT X hx D.hZ (c_uei l Z a0 hw hl us sn SU0 SS0 _ TS ue ms A_ue U_ue Gc Gs Gp Fb Fm) (Vm.MethodsKnown.alikeC hal hTK) (Vm.FramesKnown.alikeC hal hBl) eT rfl hown (ww hw 167 rfl) (ww hw 168 rfl) (ww hw 32 rfl) (ww hw 169 rfl) (by decide) pd11 (by rw [hml]; rfl) (argsL := [_]) rfl rfl rfl (pc := 32) (hb hby d6_32) rfl rfl (by decide) (by decide) ?_
  rintro _ T L X ⟨rfl, F2, A_ue, Fm⟩
  dsimp only [Option.toList_some, Option.toList_none, List.cons_append, List.nil_append]
  have F := F.call F2 (fun y hy => by cases List.mem_singleton.mp hy; exact Or.inr l_ue)
  have D := D.keep F2.1 (fun y hy => by cases List.mem_singleton.mp hy; exact Sue)
  have Sm := Sm.keep F2.1 (Ow.nin1 ne_ms_ue) (Ow.nin1 ne_d_ue)
  obtain ⟨h_32, e_32⟩ : ∃ q, q = T.heap := ⟨_, rfl⟩
  rw [← e_32] at F D Sm A_ue Fm
  have eT : T.heap = h_32 := e_32.symm
  exact Ow.areturnW X hx eT D hEL hlk hret rfl rfl rfl (hb hby d6_35) ⟨ue, ms, d, kd, rfl, by rw [eT]; exact F, by rw [eT]; exact A_ue, by rw [eT]; exact Fm, by rw [eT]; exact Sm⟩ (by decide) (by decide)
theorem d38_0 : decode jdk_78_method_6_code 0 = .ok (.aload_n 0, 1) := by decide +kernel
theorem d38_1 : decode jdk_78_method_6_code 1 = .ok (.getfield 31, 3) := by decide +kernel
theorem d38_4 : decode jdk_78_method_6_code 4 = .ok (.areturn, 1) := by decide +kernel
set_option maxRecDepth 65536 in
set_option maxHeartbeats 4000000 in
theorem c_gm (l : Launch) (Z : State) (a0 : Array Value) (hw : ∀ d ∈ tables_1, d.before a0 Z = true) (h0 : Heap) (a ms : Addr) (F1 : Fld Z h0 a "java/lang/Throwable" "detailMessage" "Ljava/lang/String;" (.ref ms)) : Ow.Pay l Z (⟨"java/lang/Throwable", "getMessage", "()Ljava/lang/String;"⟩ : MethodName) jdk_78_method_6_code 1 (some (.object "java/lang/String")) ({ frames := 0, cells := 0, slots := 0, locals := 0 } : Room) #[(.ref a)] h0 (fun v h L => v = some (.ref ms) ∧ h = h0 ∧ L = []) := by
  refine Ow.Pay.of (Ls := #[.val (.ref a)]) (plainFor_of_name pn5) (fun m => by first | rfl | (simp [entryFrame, mkF, argsToLocals, Value.category]; done)) ?_
  intro p e s m below meth c T hx hby hml hown hnm hme hZ hret hlk X eT
  refine Ow.aloadN X hx (pc := 0) (hb hby d38_0) rfl rfl ?_
  refine Ow.getfield X hx hZ hown (ww hw 223 rfl) Via.refl eT F1 (pc := 1) (hb hby d38_1) ?_   -- "java/lang/Throwable" "detailMessage" "Ljava/lang/String;"
  intro T X eT
  exact Ow.areturn X hx hlk hret rfl rfl rfl (hb hby d38_4) ⟨rfl, eT, rfl⟩ (by decide) (by decide)
/-- from i on, f places alike -/
def own_eqf (bs cs : List Int32) : Nat → Nat → Int32
  | _, 0 => 1
  | i, f + 1 => if bs.getD i 0 = cs.getD i 0 then own_eqf bs cs (i + 1) f else 0
theorem own_eqf_succ (bs cs : List Int32) (i f : Nat) : own_eqf bs cs i (f + 1) = if bs.getD i 0 = cs.getD i 0 then own_eqf bs cs (i + 1) f else 0 := rfl
def own_eqv (bs cs : List Int32) : Int32 := if bs.length = cs.length then own_eqf bs cs 0 bs.length else 0
theorem own_eqf01 (bs cs : List Int32) : ∀ (f i : Nat), own_eqf bs cs i f = 0 ∨ own_eqf bs cs i f = 1
  | 0, _ => Or.inr rfl
  | f + 1, i => by
    rw [own_eqf_succ]
    split
    · exact own_eqf01 bs cs f (i + 1)
    · exact Or.inl rfl
theorem own_eqv01 (bs cs : List Int32) : own_eqv bs cs = 0 ∨ own_eqv bs cs = 1 := by
  unfold own_eqv
  split
  · exact own_eqf01 bs cs _ _
  · exact Or.inl rfl
theorem d40_0 : decode jdk_43_method_13_code 0 = .ok (.aload_n 0, 1) := by decide +kernel
theorem d40_1 : decode jdk_43_method_13_code 1 = .ok (.arraylength, 1) := by decide +kernel
theorem d40_2 : decode jdk_43_method_13_code 2 = .ok (.aload_n 1, 1) := by decide +kernel
theorem d40_3 : decode jdk_43_method_13_code 3 = .ok (.arraylength, 1) := by decide +kernel
theorem d40_4 : decode jdk_43_method_13_code 4 = .ok (.if_icmp .ne 30, 3) := by decide +kernel
theorem d40_7 : decode jdk_43_method_13_code 7 = .ok (.iconst 0, 1) := by decide +kernel
theorem d40_8 : decode jdk_43_method_13_code 8 = .ok (.istore_n 2, 1) := by decide +kernel
theorem d40_9 : decode jdk_43_method_13_code 9 = .ok (.iload_n 2, 1) := by decide +kernel
theorem d40_10 : decode jdk_43_method_13_code 10 = .ok (.aload_n 0, 1) := by decide +kernel
theorem d40_11 : decode jdk_43_method_13_code 11 = .ok (.arraylength, 1) := by decide +kernel
theorem d40_12 : decode jdk_43_method_13_code 12 = .ok (.if_icmp .ge 20, 3) := by decide +kernel
theorem d40_15 : decode jdk_43_method_13_code 15 = .ok (.aload_n 0, 1) := by decide +kernel
theorem d40_16 : decode jdk_43_method_13_code 16 = .ok (.iload_n 2, 1) := by decide +kernel
theorem d40_17 : decode jdk_43_method_13_code 17 = .ok (.baload, 1) := by decide +kernel
theorem d40_18 : decode jdk_43_method_13_code 18 = .ok (.aload_n 1, 1) := by decide +kernel
theorem d40_19 : decode jdk_43_method_13_code 19 = .ok (.iload_n 2, 1) := by decide +kernel
theorem d40_20 : decode jdk_43_method_13_code 20 = .ok (.baload, 1) := by decide +kernel
theorem d40_21 : decode jdk_43_method_13_code 21 = .ok (.if_icmp .eq 5, 3) := by decide +kernel
theorem d40_24 : decode jdk_43_method_13_code 24 = .ok (.iconst 0, 1) := by decide +kernel
theorem d40_25 : decode jdk_43_method_13_code 25 = .ok (.ireturn, 1) := by decide +kernel
theorem d40_26 : decode jdk_43_method_13_code 26 = .ok (.iinc 2 1, 3) := by decide +kernel
theorem d40_29 : decode jdk_43_method_13_code 29 = .ok (.goto (-20), 3) := by decide +kernel
theorem d40_32 : decode jdk_43_method_13_code 32 = .ok (.iconst 1, 1) := by decide +kernel
theorem d40_33 : decode jdk_43_method_13_code 33 = .ok (.ireturn, 1) := by decide +kernel
theorem d40_34 : decode jdk_43_method_13_code 34 = .ok (.iconst 0, 1) := by decide +kernel
theorem d40_35 : decode jdk_43_method_13_code 35 = .ok (.ireturn, 1) := by decide +kernel
set_option maxRecDepth 65536 in
set_option maxHeartbeats 4000000 in
theorem c_leq (l : Launch) (Z : State) (a0 : Array Value) (hw : ∀ d ∈ tables_1, d.before a0 Z = true) (h0 : Heap) (t t2 : Addr) (kb kc : ClassId) (bs cs : List Int32) (A : Ow.AL Z h0 t kb .byte (bs.map Value.int)) (B : Ow.AL Z h0 t2 kc .byte (cs.map Value.int)) (hbs : bs.length < 2147483648) (hcs : cs.length < 2147483648) : Ow.Pay l Z (⟨"java/lang/StringLatin1", "equals", "([B[B)Z"⟩ : MethodName) jdk_43_method_13_code 3 (some .boolean) ({ frames := 0, cells := 0, slots := 0, locals := 0 } : Room) #[(.ref t), (.ref t2)] h0 (fun v h L => v = some (.int (own_eqv bs cs)) ∧ h = h0 ∧ L = []) := by
  refine Ow.Pay.of (Ls := #[.val (.ref t), .val (.ref t2), .unset]) (plainFor_of_name pn9) (fun m => by first | rfl | (simp [entryFrame, mkF, argsToLocals, Value.category]; done)) ?_
  intro p e s m below meth c T hx hby hml hown hnm hme hZ hret hlk X eT
  refine Ow.aloadN X hx (pc := 0) (hb hby d40_0) rfl rfl ?_
  refine Ow.lengthL X hx hZ eT A (Int32.ofNat bs.length) (by rw [List.length_map]) (pc := 1) (hb hby d40_1) ?_
  refine Ow.aloadN X hx (pc := 2) (hb hby d40_2) rfl rfl ?_
  refine Ow.lengthL X hx hZ eT B (Int32.ofNat cs.length) (by rw [List.length_map]) (pc := 3) (hb hby d40_3) ?_
  refine Ow.icmp_ne X hx (pc := 4) (pc' := 34) (hb hby d40_4) (by decide) (by decide) (fun h4 => ?_) (fun h4 => ?_)
  · refine Ow.iconst X hx (pc := 34) (0) (hb hby d40_34) (by decide) ?_
    exact Ow.nreturn X hx hlk hret (Or.inl rfl) (hb hby d40_35) ⟨congrArg (fun w => some (Value.int w)) (Eq.symm (show own_eqv bs cs = 0 from if_neg (fun r => h4 (congrArg Int32.ofNat r)))), eT, rfl⟩ (by decide) (by decide)
  · refine Ow.iconst X hx (pc := 7) (0) (hb hby d40_7) (by decide) ?_
    refine Ow.istoreN X hx (pc := 8) #[_, _, _] (hb hby d40_8) rfl ?_
    have hlen : bs.length = cs.length := (Ow.n_eq hbs hcs).mp h4
    have lp : ∀ (f i : Nat), i + f = bs.length → own_eqv bs cs = own_eqf bs cs i f → ∀ T, Stand p l e ({ frames := 0, cells := 0, slots := 0, locals := 0 } : Room) s m #[(.ref t), (.ref t2)] below meth c T [] 0 0 → T.heap = h0 → Go p.tables e below (Ow.EndN s (fun v h L => v = some (.int (own_eqv bs cs)) ∧ h = h0 ∧ L = []) 0 0) (T.setTop (mkF m 9 #[.val (.ref t), .val (.ref t2), .val (.int (Int32.ofNat i))] [])) := by
      intro f
      induction f with
      | zero =>
        intro i hi hv T X eT
        refine Ow.iloadN X hx (pc := 9) (hb hby d40_9) rfl ?_
        refine Ow.aloadN X hx (pc := 10) (hb hby d40_10) rfl rfl ?_
        refine Ow.lengthL X hx hZ eT A (Int32.ofNat bs.length) (by rw [List.length_map]) (pc := 11) (hb hby d40_11) ?_
        refine Ow.icmp_ge X hx (pc := 12) (pc' := 32) (hb hby d40_12) (by decide) (by decide) (fun h12 => ?_) (fun q => absurd ((Ow.n_lt (by omega) (by omega)).mp q) (by omega))
        refine Ow.iconst X hx (pc := 32) (1) (hb hby d40_32) (by decide) ?_
        exact Ow.nreturn X hx hlk hret (Or.inl rfl) (hb hby d40_33) ⟨congrArg (fun w => some (Value.int w)) (Eq.symm (show own_eqv bs cs = 1 from hv)), eT, rfl⟩ (by decide) (by decide)
      | succ f ih =>
        intro i hi hv T X eT
        have hi2 : i < bs.length := by omega
        have hi3 : i < cs.length := by omega
        have hg : (bs.map Value.int)[i]? = some (.int (bs.getD i 0)) := by simp [hi2]
        have hg2 : (cs.map Value.int)[i]? = some (.int (cs.getD i 0)) := by simp [hi3]
        rw [own_eqf_succ] at hv
        refine Ow.iloadN X hx (pc := 9) (hb hby d40_9) rfl ?_
        refine Ow.aloadN X hx (pc := 10) (hb hby d40_10) rfl rfl ?_
        refine Ow.lengthL X hx hZ eT A (Int32.ofNat bs.length) (by rw [List.length_map]) (pc := 11) (hb hby d40_11) ?_
        refine Ow.icmp_ge X hx (pc := 12) (pc' := 32) (hb hby d40_12) (by decide) (by decide) (fun q => absurd ((Ow.n_lt (by omega) (by omega)).mpr hi2) q) (fun h12 => ?_)
        refine Ow.aloadN X hx (pc := 15) (hb hby d40_15) rfl rfl ?_
        refine Ow.iloadN X hx (pc := 16) (hb hby d40_16) rfl ?_
        refine Ow.baloadL X hx hZ eT A i (.int (bs.getD i 0)) (Ow.n_nn (by omega)) (Ow.n_cl (by omega)) hg (pc := 17) (hb hby d40_17) ?_
        refine Ow.aloadN X hx (pc := 18) (hb hby d40_18) rfl rfl ?_
        refine Ow.iloadN X hx (pc := 19) (hb hby d40_19) rfl ?_
        refine Ow.baloadL X hx hZ eT B i (.int (cs.getD i 0)) (Ow.n_nn (by omega)) (Ow.n_cl (by omega)) hg2 (pc := 20) (hb hby d40_20) ?_
        refine Ow.icmp_eq X hx (pc := 21) (pc' := 26) (hb hby d40_21) (by decide) (by decide) (fun h21 => ?_) (fun h21 => ?_)
        · refine Ow.iinc X hx (pc := 26) 1 #[_, _, _] (hb hby d40_26) (by decide) rfl rfl ?_
          rw [Ow.n_one]
          refine Ow.goto X hx (pc := 29) (pc' := 9) (hb hby d40_29) (by decide) (by decide) ?_
          exact ih (i + 1) (by omega) (hv.trans (if_pos h21)) T X eT
        · refine Ow.iconst X hx (pc := 24) (0) (hb hby d40_24) (by decide) ?_
          exact Ow.nreturn X hx hlk hret (Or.inl rfl) (hb hby d40_25) ⟨congrArg (fun w => some (Value.int w)) (Eq.symm (show own_eqv bs cs = 0 from hv.trans (if_neg h21))), eT, rfl⟩ (by decide) (by decide)
    exact lp bs.length 0 (by omega) (if_pos hlen) T X eT
theorem d39_0 : decode jdk_42_method_66_code 0 = .ok (.aload_n 0, 1) := by decide +kernel
theorem d39_1 : decode jdk_42_method_66_code 1 = .ok (.aload_n 1, 1) := by decide +kernel
theorem d39_2 : decode jdk_42_method_66_code 2 = .ok (.if_acmp .ne 5, 3) := by decide +kernel
theorem d39_5 : decode jdk_42_method_66_code 5 = .ok (.iconst 1, 1) := by decide +kernel
theorem d39_6 : decode jdk_42_method_66_code 6 = .ok (.ireturn, 1) := by decide +kernel
theorem d39_7 : decode jdk_42_method_66_code 7 = .ok (.aload_n 1, 1) := by decide +kernel
theorem d39_8 : decode jdk_42_method_66_code 8 = .ok (.instanceof 10, 3) := by decide +kernel
theorem d39_11 : decode jdk_42_method_66_code 11 = .ok (.ifCond .eq 43, 3) := by decide +kernel
theorem d39_14 : decode jdk_42_method_66_code 14 = .ok (.aload_n 1, 1) := by decide +kernel
theorem d39_15 : decode jdk_42_method_66_code 15 = .ok (.checkcast 10, 3) := by decide +kernel
theorem d39_18 : decode jdk_42_method_66_code 18 = .ok (.astore_n 2, 1) := by decide +kernel
theorem d39_19 : decode jdk_42_method_66_code 19 = .ok (.getstatic 38, 3) := by decide +kernel
theorem d39_22 : decode jdk_42_method_66_code 22 = .ok (.ifCond .eq 14, 3) := by decide +kernel
theorem d39_25 : decode jdk_42_method_66_code 25 = .ok (.aload_n 0, 1) := by decide +kernel
theorem d39_26 : decode jdk_42_method_66_code 26 = .ok (.getfield 15, 3) := by decide +kernel
theorem d39_29 : decode jdk_42_method_66_code 29 = .ok (.aload_n 2, 1) := by decide +kernel
theorem d39_30 : decode jdk_42_method_66_code 30 = .ok (.getfield 15, 3) := by decide +kernel
theorem d39_33 : decode jdk_42_method_66_code 33 = .ok (.if_icmp .ne 21, 3) := by decide +kernel
theorem d39_36 : decode jdk_42_method_66_code 36 = .ok (.aload_n 0, 1) := by decide +kernel
theorem d39_37 : decode jdk_42_method_66_code 37 = .ok (.getfield 9, 3) := by decide +kernel
theorem d39_40 : decode jdk_42_method_66_code 40 = .ok (.aload_n 2, 1) := by decide +kernel
theorem d39_41 : decode jdk_42_method_66_code 41 = .ok (.getfield 9, 3) := by decide +kernel
theorem d39_44 : decode jdk_42_method_66_code 44 = .ok (.invokestatic 541, 3) := by decide +kernel
theorem d39_47 : decode jdk_42_method_66_code 47 = .ok (.ifCond .eq 7, 3) := by decide +kernel
theorem d39_50 : decode jdk_42_method_66_code 50 = .ok (.iconst 1, 1) := by decide +kernel
theorem d39_51 : decode jdk_42_method_66_code 51 = .ok (.goto 4, 3) := by decide +kernel
theorem d39_54 : decode jdk_42_method_66_code 54 = .ok (.iconst 0, 1) := by decide +kernel
theorem d39_55 : decode jdk_42_method_66_code 55 = .ok (.ireturn, 1) := by decide +kernel
set_option maxRecDepth 65536 in
set_option maxHeartbeats 4000000 in
theorem c_seq (l : Launch) (Z : State) (a0 : Array Value) (hw : ∀ d ∈ tables_1, d.before a0 Z = true) (h0 : Heap) (z : Int32) (x y : Addr) (t t2 : Addr) (kb kc : ClassId) (bs cs : List Int32) (S : Sta Z h0 "java/lang/String" "COMPACT_STRINGS" "Z" (.int z)) (hz : ¬ z = 0) (St : Ow.Str Z h0 x t kb bs) (St2 : Ow.Str Z h0 y t2 kc cs) (hne : x ≠ y) (hbs : bs.length < 2147483648) (hcs : cs.length < 2147483648) : Ow.Pay l Z (⟨"java/lang/String", "equals", "(Ljava/lang/Object;)Z"⟩ : MethodName) jdk_42_method_66_code 3 (some .boolean) ({ frames := 1, cells := 0, slots := 0, locals := 14 } : Room) #[(.ref x), (.ref y)] h0 (fun v h L => v = some (.int (own_eqv bs cs)) ∧ h = h0 ∧ L = []) := by
  refine Ow.Pay.of (Ls := #[.val (.ref x), .val (.ref y), .unset]) (plainFor_of_name pn0) (fun m => by first | rfl | (simp [entryFrame, mkF, argsToLocals, Value.category]; done)) ?_
  intro p e s m below meth c T hx hby hml hown hnm hme hZ hret hlk X eT
  refine Ow.aloadN X hx (pc := 0) (hb hby d39_0) rfl rfl ?_
  refine Ow.aloadN X hx (pc := 1) (hb hby d39_1) rfl rfl ?_
  refine Ow.acmp_ne X hx (pc := 2) (pc' := 7) (hb hby d39_2) rfl rfl (by decide) (by decide) (fun h2 => ?_) (fun q => absurd (Value.ref.inj q) hne)
  refine Ow.aloadN X hx (pc := 7) (hb hby d39_7) rfl rfl ?_
  refine Ow.instanceofY X hx hZ hown (ww hw 235 rfl) eT (Ins.self St2.1) (pc := 8) (hb hby d39_8) ?_
  intro T X eT
  refine Ow.if_eq X hx (pc := 11) (pc' := 54) (hb hby d39_11) (by decide) (by decide) (fun q => absurd q (by decide)) (fun h11 => ?_)
  refine Ow.aloadN X hx (pc := 14) (hb hby d39_14) rfl rfl ?_
  refine Ow.checkcast X hx hZ hown (ww hw 235 rfl) eT (Ins.self St2.1) (pc := 15) (hb hby d39_15) ?_
  intro T X eT
  refine Ow.astoreN X hx (pc := 18) #[_, _, _] (hb hby d39_18) rfl rfl ?_
  refine Ow.getstatic X hx hZ hown (ww hw 14 rfl) Via.refl eT S (pc := 19) (hb hby d39_19) ?_   -- "java/lang/String" "COMPACT_STRINGS" "Z"
  intro T X eT
  refine Ow.if_eq X hx (pc := 22) (pc' := 36) (hb hby d39_22) (by decide) (by decide) (fun q => absurd q hz) (fun h22 => ?_)
  refine Ow.aloadN X hx (pc := 25) (hb hby d39_25) rfl rfl ?_
  refine Ow.getfield X hx hZ hown (ww hw 26 rfl) Via.refl eT St.2.1 (pc := 26) (hb hby d39_26) ?_   -- "java/lang/String" "coder" "B"
  intro T X eT
  refine Ow.aloadN X hx (pc := 29) (hb hby d39_29) rfl rfl ?_
  refine Ow.getfield X hx hZ hown (ww hw 26 rfl) Via.refl eT St2.2.1 (pc := 30) (hb hby d39_30) ?_   -- "java/lang/String" "coder" "B"
  intro T X eT
  refine Ow.icmp_ne X hx (pc := 33) (pc' := 54) (hb hby d39_33) (by decide) (by decide) (fun q => absurd rfl q) (fun h33 => ?_)
  refine Ow.aloadN X hx (pc := 36) (hb hby d39_36) rfl rfl ?_
  refine Ow.getfield X hx hZ hown (ww hw 28 rfl) Via.refl eT St.2.2.1 (pc := 37) (hb hby d39_37) ?_   -- "java/lang/String" "value" "[B"
  intro T X eT
  refine Ow.aloadN X hx (pc := 40) (hb hby d39_40) rfl rfl ?_
  refine Ow.getfield X hx hZ hown (ww hw 28 rfl) Via.refl eT St2.2.2.1 (pc := 41) (hb hby d39_41) ?_   -- "java/lang/String" "value" "[B"
  intro T X eT
  refine Ow.callSP X hx hZ (c_leq l Z a0 hw h0 t t2 kb kc bs cs St.2.2.2 St2.2.2.2 hbs hcs) rfl rfl eT hown (ww hw 236 rfl) (ww hw 237 rfl) (ww hw 238 rfl) (ww hw 239 rfl) (by decide) pd23 (by rw [hml]; rfl) (argsL := [_, _]) rfl rfl rfl (pc := 44) (hb hby d39_44) rfl rfl (by decide) (by decide) ?_   -- java/lang/StringLatin1.equals:([B[B)Z
  intro T X eT
  dsimp only [Option.toList_some, Option.toList_none, List.cons_append, List.nil_append]
  refine Ow.if_eq X hx (pc := 47) (pc' := 54) (hb hby d39_47) (by decide) (by decide) (fun h47 => ?_) (fun h47 => ?_)
  · refine Ow.iconst X hx (pc := 54) (0) (hb hby d39_54) (by decide) ?_
    exact Ow.nreturn X hx hlk hret (Or.inl rfl) (hb hby d39_55) ⟨congrArg (fun w => some (Value.int w)) (Eq.symm h47), eT, rfl⟩ (by decide) (by decide)
  · refine Ow.iconst X hx (pc := 50) (1) (hb hby d39_50) (by decide) ?_
    refine Ow.goto X hx (pc := 51) (pc' := 55) (hb hby d39_51) (by decide) (by decide) ?_
    exact Ow.nreturn X hx hlk hret (Or.inl rfl) (hb hby d39_55) ⟨congrArg (fun w => some (Value.int w)) (Eq.symm ((own_eqv01 bs cs).resolve_left h47)), eT, rfl⟩ (by decide) (by decide)
theorem own_eqf_self (bs : List Int32) : ∀ (f i : Nat), own_eqf bs bs i f = 1
  | 0, _ => rfl
  | f + 1, i => by rw [own_eqf_succ, if_pos rfl]; exact own_eqf_self bs f (i + 1)
theorem own_eqv_self (bs : List Int32) : own_eqv bs bs = 1 := by
  unfold own_eqv
  rw [if_pos rfl]; exact own_eqf_self bs _ _
set_option maxRecDepth 65536 in
set_option maxHeartbeats 40000000 in
theorem law_0 (l : Launch) (Z : State) (a0 : Array Value) (hw : ∀ d ∈ tables_1, d.before a0 Z = true) (hEL : EW Z a0 EL) (hl : l.stackTraces = true) (us sn : Addr) (SU0 : Sta Z Z.heap "java/lang/Throwable" "UNASSIGNED_STACK" "[Ljava/lang/StackTraceElement;" (.ref us)) (SS0 : Sta Z Z.heap "java/lang/Throwable" "SUPPRESSED_SENTINEL" "Ljava/util/List;" (.ref sn)) (h0 : Heap) (z p0 p1 p2 p3 p4 : Int32) (S : Sta Z h0 "java/lang/String" "COMPACT_STRINGS" "Z" (.int z)) (hz : ¬ z = 0) (TS : ThS Z h0) (h36 : p4 &&& 1 = 0) : Ow.PayK l Z EL x code maxLocals ret room_1 #[(.int p0), (.int p1), (.int p2), (.int p3), (.int p4)] h0 (fun v h L => v = some (.int 1) ∧ Ow.Eff h0 h [] L) := by
  refine Ow.PayK.of (Ls := #[.val (.int p0), .val (.int p1), .val (.int p2), .val (.int p3), .val (.int p4), .unset, .unset, .unset, .unset, .unset, .unset, .unset, .unset, .unset]) (plainFor_of_name pn10) (fun m => by first | rfl | (simp [entryFrame, mkF, argsToLocals, Value.category, maxLocals]; done)) ?_
  intro p e s m below meth c T vm0 hx hby hml hown hnm hme hret hlk X eT D hTK hBl hsh
  obtain ⟨⟨_, Q0, -⟩, -⟩ := id D
  have F := Ow.Eff.refl h0 []
  obtain ⟨ka, hka⟩ := own_mask8 p0
  obtain ⟨kb, hkb⟩ := own_mask8 p1
  obtain ⟨kc, hkc⟩ := own_mask8 p2
  obtain ⟨kd, hkd⟩ := own_mask8 p3
  refine Ow.iloadN X hx (pc := 0) (hb hby at_0) rfl ?_
  refine Ow.sipush X hx (pc := 1) (255) (hb hby at_1) (by decide) ?_
  refine Ow.iand X hx (pc := 4) (hb hby at_4) ?_
  refine Ow.i2c X hx (pc := 5) (hb hby at_5) ?_
  rw [hka, (own_ch8 ka).2.2.2]
  refine Ow.istore X hx (pc := 6) #[_, _, _, _, _, _, _, _, _, _, _, _, _, _] (hb hby at_6) rfl ?_
  refine Ow.iloadN X hx (pc := 8) (hb hby at_8) rfl ?_
  refine Ow.sipush X hx (pc := 9) (255) (hb hby at_9) (by decide) ?_
  refine Ow.iand X hx (pc := 12) (hb hby at_12) ?_
  refine Ow.i2c X hx (pc := 13) (hb hby at_13) ?_
  rw [hkb, (own_ch8 kb).2.2.2]
  refine Ow.istore X hx (pc := 14) #[_, _, _, _, _, _, _, _, _, _, _, _, _, _] (hb hby at_14) rfl ?_
  refine Ow.iloadN X hx (pc := 16) (hb hby at_16) rfl ?_
  refine Ow.sipush X hx (pc := 17) (255) (hb hby at_17) (by decide) ?_
  refine Ow.iand X hx (pc := 20) (hb hby at_20) ?_
  refine Ow.i2c X hx (pc := 21) (hb hby at_21) ?_
  rw [hkc, (own_ch8 kc).2.2.2]
  refine Ow.istore X hx (pc := 22) #[_, _, _, _, _, _, _, _, _, _, _, _, _, _] (hb hby at_22) rfl ?_
  refine Ow.iloadN X hx (pc := 24) (hb hby at_24) rfl ?_
  refine Ow.sipush X hx (pc := 25) (255) (hb hby at_25) (by decide) ?_
  refine Ow.iand X hx (pc := 28) (hb hby at_28) ?_
  refine Ow.i2c X hx (pc := 29) (hb hby at_29) ?_
  rw [hkd, (own_ch8 kd).2.2.2]
  refine Ow.istore X hx (pc := 30) #[_, _, _, _, _, _, _, _, _, _, _, _, _, _] (hb hby at_30) rfl ?_
  refine Ow.iload X hx (pc := 32) (hb hby at_32) rfl ?_
  refine Ow.iconst X hx (pc := 34) (1) (hb hby at_34) (by decide) ?_
  refine Ow.iand X hx (pc := 35) (hb hby at_35) ?_
  refine Ow.if_eq X hx (pc := 36) (pc' := 43) (hb hby at_36) (by decide) (by decide) (fun h36 => ?_) (fun q => absurd h36 q)
  refine Ow.iconst X hx (pc := 43) (0) (hb hby at_43) (by decide) ?_
  refine Ow.istore X hx (pc := 44) #[_, _, _, _, _, _, _, _, _, _, _, _, _, _] (hb hby at_44) rfl ?_
  refine Ow.new_ X hx D.hZ hown (ww hw 0 rfl) (ww hw 1 rfl) (ww hw 2 rfl) eT (pc := 46) (hb hby at_46) (by decide) (by decide) ?_
  intro T h_x1 x1 ha_x1 X eT E_x1 A_x1 D_x1 U_x1
  have l_x1 : h0.size ≤ x1 := by rw [ha_x1]; exact F.size
  have S_x1 := D.safeNew E_x1
  rw [← ha_x1] at S_x1
  have S := S.ext E_x1
  have TS := TS.ext E_x1
  have F := F.ext E_x1
  have D := D.ext E_x1
  have V_x1 := D_x1 (Or.inr (ww hw 29 rfl)) (ty := .array .byte) (by decide)
  have C_x1 := D_x1 (Or.inr (ww hw 27 rfl)) (ty := .byte) (by decide)
  refine Ow.dup X hx (pc := 49) (hb hby at_49) rfl ?_
  refine Ow.iconst X hx (pc := 50) (2) (hb hby at_50) (by decide) ?_
  refine Ow.newarrayL X hx D.hZ (ww hw 3 rfl) eT 2 (vs := [_, _]) rfl (pc := 51) (hb hby at_51) (by decide) (by decide) (by decide) (by decide) (by decide) ?_
  intro T h_y1 k_y1 y1 ha_y1 X eT E_y1 B_y1
  have l_y1 : h0.size ≤ y1 := by rw [ha_y1]; exact F.size
  have ne_x1_y1 : x1 ≠ y1 := by rw [ha_y1]; exact Nat.ne_of_lt A_x1.lt
  have S_y1 := D.safeNew E_y1
  rw [← ha_y1] at S_y1
  have S := S.ext E_y1
  have TS := TS.ext E_y1
  have A_x1 := A_x1.ext E_y1
  have V_x1 := V_x1.ext E_y1
  have C_x1 := C_x1.ext E_y1
  have S_x1 := D.safeExt E_y1 S_x1
  have F := F.ext E_y1
  have D := D.ext E_y1
  refine Ow.dup X hx (pc := 53) (hb hby at_53) rfl ?_
  refine Ow.iconst X hx (pc := 54) (0) (hb hby at_54) (by decide) ?_
  refine Ow.iload X hx (pc := 55) (hb hby at_55) rfl ?_
  refine Ow.castoreL X hx D.hZ eT B_y1 0 [_, _] (by decide) (by decide) rfl rfl (pc := 57) (hb hby at_57) ?_
  intro T h_57 X eT W_57 B_y1
  rw [(own_ch8 ka).2.2.1] at B_y1 W_57
  have S := S.wr W_57
  have TS := TS.wr W_57
  have A_x1 := A_x1.wr W_57
  have V_x1 := V_x1.other W_57 (Or.inl ne_x1_y1)
  have C_x1 := C_x1.other W_57 (Or.inl ne_x1_y1)
  have S_tmp := S_y1
  have S_x1 := D.safeWr W_57 S_tmp S_x1
  have S_y1 := D.safeWr W_57 S_tmp S_y1
  have D := D.wr W_57 S_tmp
  have F := F.wr W_57 (Or.inr l_y1)
  refine Ow.dup X hx (pc := 58) (hb hby at_58) rfl ?_
  refine Ow.iconst X hx (pc := 59) (1) (hb hby at_59) (by decide) ?_
  refine Ow.iload X hx (pc := 60) (hb hby at_60) rfl ?_
  refine Ow.castoreL X hx D.hZ eT B_y1 1 [_, _] (by decide) (by decide) rfl rfl (pc := 62) (hb hby at_62) ?_
  intro T h_62 X eT W_62 B_y1
  rw [(own_ch8 kb).2.2.1] at B_y1 W_62
  have S := S.wr W_62
  have TS := TS.wr W_62
  have A_x1 := A_x1.wr W_62
  have V_x1 := V_x1.other W_62 (Or.inl ne_x1_y1)
  have C_x1 := C_x1.other W_62 (Or.inl ne_x1_y1)
  have S_tmp := S_y1
  have S_x1 := D.safeWr W_62 S_tmp S_x1
  have S_y1 := D.safeWr W_62 S_tmp S_y1
  have D := D.wr W_62 S_tmp
  have F := F.wr W_62 (Or.inr l_y1)
  have H8 : ∀ c ∈ ([(Int32.ofNat ka.val), (Int32.ofNat kb.val)] : List Int32), ∃ k : Fin 256, c = Int32.ofNat k.val := by
    intro c hc
    simp only [List.mem_cons, List.not_mem_nil, or_false] at hc
    rcases hc with rfl | rfl
    · exact ⟨ka, rfl⟩
    · exact ⟨kb, rfl⟩
  have P_x := Ow.Exa.plain A_x1
  refine strLat X hx D.hZ hw eT hown (ww hw 4 rfl) (cs := [(Int32.ofNat ka.val), (Int32.ofNat kb.val)]) A_x1 V_x1 C_x1 B_y1 S hz 2 rfl (by decide) (by decide) H8 (by rw [hml]; rfl) (pc := 63) (hb hby at_63) rfl rfl (by decide) (by decide) ?_
  intro T L k_x1 X F2 St_x1
  have F := F.call F2 (fun y hy => by cases List.mem_singleton.mp hy; exact Or.inr l_x1)
  -- kept
  have D := D.keep F2.1 (fun y hy => by cases List.mem_singleton.mp hy; exact S_x1)
  have S := Ow.staKeep S F2.1 (fun y hy => by cases List.mem_singleton.mp hy; exact P_x)
  have TS := TS.keep F2.1 (fun y hy => Ow.nostat_of (by cases List.mem_singleton.mp hy; exact P_x))
  obtain ⟨t_x1, e_tx1⟩ : ∃ t, Ow.Str Z T.heap x1 t k_x1 (List.map (fun c => c.toInt8.toInt32) [(Int32.ofNat ka.val), (Int32.ofNat kb.val)]) := ⟨_, St_x1⟩
  have St_x1 := e_tx1
  obtain ⟨h_63, e_63⟩ : ∃ q, q = T.heap := ⟨_, rfl⟩
  rw [← e_63] at F D S TS St_x1
  have eT : T.heap = h_63 := e_63.symm
  refine Ow.astore X hx (pc := 66) #[_, _, _, _, _, _, _, _, _, _, _, _, _, _] (hb hby at_66) rfl rfl ?_
  refine Ow.iload X hx (pc := 68) (hb hby at_68) rfl ?_
  refine Ow.if_eq X hx (pc := 70) (pc' := 88) (hb hby at_70) (by decide) (by decide) (fun h70 => ?_) (fun q => absurd rfl q)
  refine Ow.new_ X hx D.hZ hown (ww hw 0 rfl) (ww hw 1 rfl) (ww hw 2 rfl) eT (pc := 88) (hb hby at_88) (by decide) (by decide) ?_
  intro T h_x2 x2 ha_x2 X eT E_x2 A_x2 D_x2 U_x2
  have l_x2 : h0.size ≤ x2 := by rw [ha_x2]; exact F.size
  have ne_x1_x2 : x1 ≠ x2 := by rw [ha_x2]; exact Nat.ne_of_lt St_x1.lt
  have ne_t_x1_x2 : t_x1 ≠ x2 := by rw [ha_x2]; exact Nat.ne_of_lt St_x1.ltB
  have S_x2 := D.safeNew E_x2
  rw [← ha_x2] at S_x2
  have S := S.ext E_x2
  have TS := TS.ext E_x2
  have St_x1 := St_x1.ext E_x2
  have F := F.ext E_x2
  have D := D.ext E_x2
  have V_x2 := D_x2 (Or.inr (ww hw 29 rfl)) (ty := .array .byte) (by decide)
  have C_x2 := D_x2 (Or.inr (ww hw 27 rfl)) (ty := .byte) (by decide)
  refine Ow.dup X hx (pc := 91) (hb hby at_91) rfl ?_
  refine Ow.iconst X hx (pc := 92) (2) (hb hby at_92) (by decide) ?_
  refine Ow.newarrayL X hx D.hZ (ww hw 3 rfl) eT 2 (vs := [_, _]) rfl (pc := 93) (hb hby at_93) (by decide) (by decide) (by decide) (by decide) (by decide) ?_
  intro T h_y2 k_y2 y2 ha_y2 X eT E_y2 B_y2
  have l_y2 : h0.size ≤ y2 := by rw [ha_y2]; exact F.size
  have ne_x1_y2 : x1 ≠ y2 := by rw [ha_y2]; exact Nat.ne_of_lt St_x1.lt
  have ne_t_x1_y2 : t_x1 ≠ y2 := by rw [ha_y2]; exact Nat.ne_of_lt St_x1.ltB
  have ne_x2_y2 : x2 ≠ y2 := by rw [ha_y2]; exact Nat.ne_of_lt A_x2.lt
  have S_y2 := D.safeNew E_y2
  rw [← ha_y2] at S_y2
  have S := S.ext E_y2
  have TS := TS.ext E_y2
  have St_x1 := St_x1.ext E_y2
  have A_x2 := A_x2.ext E_y2
  have V_x2 := V_x2.ext E_y2
  have C_x2 := C_x2.ext E_y2
  have S_x2 := D.safeExt E_y2 S_x2
  have F := F.ext E_y2
  have D := D.ext E_y2
  refine Ow.dup X hx (pc := 95) (hb hby at_95) rfl ?_
  refine Ow.iconst X hx (pc := 96) (0) (hb hby at_96) (by decide) ?_
  refine Ow.iload X hx (pc := 97) (hb hby at_97) rfl ?_
  refine Ow.castoreL X hx D.hZ eT B_y2 0 [_, _] (by decide) (by decide) rfl rfl (pc := 99) (hb hby at_99) ?_
  intro T h_99 X eT W_99 B_y2
  rw [(own_ch8 kc).2.2.1] at B_y2 W_99
  have S := S.wr W_99
  have TS := TS.wr W_99
  have St_x1 := St_x1.keep (Keep.of_wr W_99) (Ow.nin1 ne_x1_y2) (Ow.nin1 ne_t_x1_y2)
  have A_x2 := A_x2.wr W_99
  have V_x2 := V_x2.other W_99 (Or.inl ne_x2_y2)
  have C_x2 := C_x2.other W_99 (Or.inl ne_x2_y2)
  have S_tmp := S_y2
  have S_x2 := D.safeWr W_99 S_tmp S_x2
  have S_y2 := D.safeWr W_99 S_tmp S_y2
  have D := D.wr W_99 S_tmp
  have F := F.wr W_99 (Or.inr l_y2)
  refine Ow.dup X hx (pc := 100) (hb hby at_100) rfl ?_
  refine Ow.iconst X hx (pc := 101) (1) (hb hby at_101) (by decide) ?_
  refine Ow.iload X hx (pc := 102) (hb hby at_102) rfl ?_
  refine Ow.castoreL X hx D.hZ eT B_y2 1 [_, _] (by decide) (by decide) rfl rfl (pc := 104) (hb hby at_104) ?_
  intro T h_104 X eT W_104 B_y2
  rw [(own_ch8 kd).2.2.1] at B_y2 W_104
  have S := S.wr W_104
  have TS := TS.wr W_104
  have St_x1 := St_x1.keep (Keep.of_wr W_104) (Ow.nin1 ne_x1_y2) (Ow.nin1 ne_t_x1_y2)
  have A_x2 := A_x2.wr W_104
  have V_x2 := V_x2.other W_104 (Or.inl ne_x2_y2)
  have C_x2 := C_x2.other W_104 (Or.inl ne_x2_y2)
  have S_tmp := S_y2
  have S_x2 := D.safeWr W_104 S_tmp S_x2
  have S_y2 := D.safeWr W_104 S_tmp S_y2
  have D := D.wr W_104 S_tmp
  have F := F.wr W_104 (Or.inr l_y2)
  have H8 : ∀ c ∈ ([(Int32.ofNat kc.val), (Int32.ofNat kd.val)] : List Int32), ∃ k : Fin 256, c = Int32.ofNat k.val := by
    intro c hc
    simp only [List.mem_cons, List.not_mem_nil, or_false] at hc
    rcases hc with rfl | rfl
    · exact ⟨kc, rfl⟩
    · exact ⟨kd, rfl⟩
  have P_x := Ow.Exa.plain A_x2
  refine strLat X hx D.hZ hw eT hown (ww hw 4 rfl) (cs := [(Int32.ofNat kc.val), (Int32.ofNat kd.val)]) A_x2 V_x2 C_x2 B_y2 S hz 2 rfl (by decide) (by decide) H8 (by rw [hml]; rfl) (pc := 105) (hb hby at_105) rfl rfl (by decide) (by decide) ?_
  intro T L k_x2 X F2 St_x2
  have F := F.call F2 (fun y hy => by cases List.mem_singleton.mp hy; exact Or.inr l_x2)
  -- kept
  have D := D.keep F2.1 (fun y hy => by cases List.mem_singleton.mp hy; exact S_x2)
  have S := Ow.staKeep S F2.1 (fun y hy => by cases List.mem_singleton.mp hy; exact P_x)
  have TS := TS.keep F2.1 (fun y hy => Ow.nostat_of (by cases List.mem_singleton.mp hy; exact P_x))
  have St_x1 := St_x1.keep F2.1 (Ow.nin1 ne_x1_x2) (Ow.nin1 ne_t_x1_x2)
  obtain ⟨t_x2, e_tx2⟩ : ∃ t, Ow.Str Z T.heap x2 t k_x2 (List.map (fun c => c.toInt8.toInt32) [(Int32.ofNat kc.val), (Int32.ofNat kd.val)]) := ⟨_, St_x2⟩
  have St_x2 := e_tx2
  obtain ⟨h_105, e_105⟩ : ∃ q, q = T.heap := ⟨_, rfl⟩
  rw [← e_105] at F D S TS St_x1 St_x2
  have eT : T.heap = h_105 := e_105.symm
  refine Ow.astore X hx (pc := 108) #[_, _, _, _, _, _, _, _, _, _, _, _, _, _] (hb hby at_108) rfl rfl ?_
  refine Ow.aload X hx (pc := 110) (hb hby at_110) rfl rfl ?_
  refine Ow.aload X hx (pc := 112) (hb hby at_112) rfl rfl ?_
  obtain ⟨⟨_, Q1, -⟩, -⟩ := id D
  have hal := Q0.1.alike.symm.trans Q1.1.alike
  refine Ow.callSK X hx (c_of l Z a0 hw hEL hl us sn SU0 SS0 _ z S hz TS x1 t_x1 x2 t_x2 _ _ _ (List.map (fun c => c.toInt8.toInt32) [(Int32.ofNat kc.val), (Int32.ofNat kd.val)]) St_x1 St_x2 (own_fitM _) (own_fitM _) rfl (by simp)) eT D hEL (Vm.MethodsKnown.alikeC hal hTK) (Vm.FramesKnown.alikeC hal hBl) hown (ww hw 30 rfl) (ww hw 31 rfl) (ww hw 32 rfl) (ww hw 33 rfl) (by decide) pd24 (by rw [hml]; rfl) (argsL := [_, _]) rfl rfl rfl (pc := 114) (hb hby at_114) rfl rfl (by decide) (by decide) ?_
  rintro _ vm2 T L X ⟨ue, ms, d, kq, rfl, F2, A_ue, Fm, Sm⟩ D hown C2
  dsimp only [Option.toList_some, Option.toList_none, List.cons_append, List.nil_append]
  have F := F.call F2 (fun _ q => nomatch q)
  have S := S.ext (Ow.Keep.ext0 F2.1)
  obtain ⟨h_114, e_114⟩ : ∃ q, q = T.heap := ⟨_, rfl⟩
  rw [← e_114] at F D S A_ue Fm Sm
  have eT : T.heap = h_114 := e_114.symm
  refine Ow.astore X hx (pc := 117) #[_, _, _, _, _, _, _, _, _, _, _, _, _, _] (hb hby at_117) rfl rfl ?_
  refine Ow.aload X hx (pc := 119) (hb hby at_119) rfl rfl ?_
  refine Ow.ifnonnull_r X hx (pc := 121) (pc' := 126) (hb hby at_121) (by decide) (by decide) ?_
  refine Ow.iload X hx (pc := 126) (hb hby at_126) rfl ?_
  refine Ow.if_eq X hx (pc := 128) (pc' := 404) (hb hby at_128) (by decide) (by decide) (fun h128 => ?_) (fun q => absurd rfl q)
  refine Ow.bipush X hx (pc := 404) (47) (hb hby at_404) (by decide) ?_
  refine Ow.newarrayL X hx D.hZ (ww hw 3 rfl) eT 47 (vs := [_, _, _, _, _, _, _, _, _, _, _, _, _, _, _, _, _, _, _, _, _, _, _, _, _, _, _, _, _, _, _, _, _, _, _, _, _, _, _, _, _, _, _, _, _, _, _]) rfl (pc := 406) (hb hby at_406) (by decide) (by decide) (by decide) (by decide) (by decide) ?_
  intro T h_ye k_ye ye ha_ye X eT E_ye B_ye
  have l_ye : h0.size ≤ ye := by rw [ha_ye]; exact F.size
  have ne_ue_ye : ue ≠ ye := by rw [ha_ye]; exact Nat.ne_of_lt A_ue.lt
  have ne_ms_ye : ms ≠ ye := by rw [ha_ye]; exact Nat.ne_of_lt Sm.lt
  have ne_d_ye : d ≠ ye := by rw [ha_ye]; exact Nat.ne_of_lt Sm.ltB
  have S_ye := D.safeNew E_ye
  rw [← ha_ye] at S_ye
  have S := S.ext E_ye
  have A_ue := A_ue.ext E_ye
  have Fm := Fm.ext E_ye
  have Sm := Sm.ext E_ye
  have F := F.ext E_ye
  have D := D.ext E_ye
  refine Ow.dup X hx (pc := 408) (hb hby at_408) rfl ?_
  refine Ow.iconst X hx (pc := 409) (0) (hb hby at_409) (by decide) ?_
  refine Ow.bipush X hx (pc := 410) (99) (hb hby at_410) (by decide) ?_
  refine Ow.castoreL X hx D.hZ eT B_ye 0 [_, _, _, _, _, _, _, _, _, _, _, _, _, _, _, _, _, _, _, _, _, _, _, _, _, _, _, _, _, _, _, _, _, _, _, _, _, _, _, _, _, _, _, _, _, _, _] (by decide) (by decide) rfl rfl (pc := 412) (hb hby at_412) ?_
  intro T h_412 X eT W_412 B_ye
  rw [show nar .char (99 : Int32) = 99 from by decide] at B_ye W_412
  have S := S.wr W_412
  have A_ue := A_ue.wr W_412
  have Fm := Fm.other W_412 (Or.inl ne_ue_ye)
  have Sm := Sm.keep (Keep.of_wr W_412) (Ow.nin1 ne_ms_ye) (Ow.nin1 ne_d_ye)
  have S_tmp := S_ye
  have S_ye := D.safeWr W_412 S_tmp S_ye
  have D := D.wr W_412 S_tmp
  have F := F.wr W_412 (Or.inr l_ye)
  refine Ow.dup X hx (pc := 413) (hb hby at_413) rfl ?_
  refine Ow.iconst X hx (pc := 414) (1) (hb hby at_414) (by decide) ?_
  refine Ow.bipush X hx (pc := 415) (97) (hb hby at_415) (by decide) ?_
  refine Ow.castoreL X hx D.hZ eT B_ye 1 [_, _, _, _, _, _, _, _, _, _, _, _, _, _, _, _, _, _, _, _, _, _, _, _, _, _, _, _, _, _, _, _, _, _, _, _, _, _, _, _, _, _, _, _, _, _, _] (by decide) (by decide) rfl rfl (pc := 417) (hb hby at_417) ?_
  intro T h_417 X eT W_417 B_ye
  rw [show nar .char (97 : Int32) = 97 from by decide] at B_ye W_417
  have S := S.wr W_417
  have A_ue := A_ue.wr W_417
  have Fm := Fm.other W_417 (Or.inl ne_ue_ye)
  have Sm := Sm.keep (Keep.of_wr W_417) (Ow.nin1 ne_ms_ye) (Ow.nin1 ne_d_ye)
  have S_tmp := S_ye
  have S_ye := D.safeWr W_417 S_tmp S_ye
  have D := D.wr W_417 S_tmp
  have F := F.wr W_417 (Or.inr l_ye)
  refine Ow.dup X hx (pc := 418) (hb hby at_418) rfl ?_
  refine Ow.iconst X hx (pc := 419) (2) (hb hby at_419) (by decide) ?_
  refine Ow.bipush X hx (pc := 420) (110) (hb hby at_420) (by decide) ?_
  refine Ow.castoreL X hx D.hZ eT B_ye 2 [_, _, _, _, _, _, _, _, _, _, _, _, _, _, _, _, _, _, _, _, _, _, _, _, _, _, _, _, _, _, _, _, _, _, _, _, _, _, _, _, _, _, _, _, _, _, _] (by decide) (by decide) rfl rfl (pc := 422) (hb hby at_422) ?_
  intro T h_422 X eT W_422 B_ye
  rw [show nar .char (110 : Int32) = 110 from by decide] at B_ye W_422
  have S := S.wr W_422
  have A_ue := A_ue.wr W_422
  have Fm := Fm.other W_422 (Or.inl ne_ue_ye)
  have Sm := Sm.keep (Keep.of_wr W_422) (Ow.nin1 ne_ms_ye) (Ow.nin1 ne_d_ye)
  have S_tmp := S_ye
  have S_ye := D.safeWr W_422 S_tmp S_ye
  have D := D.wr W_422 S_tmp
  have F := F.wr W_422 (Or.inr l_ye)
  refine Ow.dup X hx (pc := 423) (hb hby at_423) rfl ?_
  refine Ow.iconst X hx (pc := 424) (3) (hb hby at_424) (by decide) ?_
  refine Ow.bipush X hx (pc := 425) (110) (hb hby at_425) (by decide) ?_
  refine Ow.castoreL X hx D.hZ eT B_ye 3 [_, _, _, _, _, _, _, _, _, _, _, _, _, _, _, _, _, _, _, _, _, _, _, _, _, _, _, _, _, _, _, _, _, _, _, _, _, _, _, _, _, _, _, _, _, _, _] (by decide) (by decide) rfl rfl (pc := 427) (hb hby at_427) ?_
  intro T h_427 X eT W_427 B_ye
  rw [show nar .char (110 : Int32) = 110 from by decide] at B_ye W_427
  have S := S.wr W_427
  have A_ue := A_ue.wr W_427
  have Fm := Fm.other W_427 (Or.inl ne_ue_ye)
  have Sm := Sm.keep (Keep.of_wr W_427) (Ow.nin1 ne_ms_ye) (Ow.nin1 ne_d_ye)
  have S_tmp := S_ye
  have S_ye := D.safeWr W_427 S_tmp S_ye
  have D := D.wr W_427 S_tmp
  have F := F.wr W_427 (Or.inr l_ye)
  refine Ow.dup X hx (pc := 428) (hb hby at_428) rfl ?_
  refine Ow.iconst X hx (pc := 429) (4) (hb hby at_429) (by decide) ?_
  refine Ow.bipush X hx (pc := 430) (111) (hb hby at_430) (by decide) ?_
  refine Ow.castoreL X hx D.hZ eT B_ye 4 [_, _, _, _, _, _, _, _, _, _, _, _, _, _, _, _, _, _, _, _, _, _, _, _, _, _, _, _, _, _, _, _, _, _, _, _, _, _, _, _, _, _, _, _, _, _, _] (by decide) (by decide) rfl rfl (pc := 432) (hb hby at_432) ?_
  intro T h_432 X eT W_432 B_ye
  rw [show nar .char (111 : Int32) = 111 from by decide] at B_ye W_432
  have S := S.wr W_432
  have A_ue := A_ue.wr W_432
  have Fm := Fm.other W_432 (Or.inl ne_ue_ye)
  have Sm := Sm.keep (Keep.of_wr W_432) (Ow.nin1 ne_ms_ye) (Ow.nin1 ne_d_ye)
  have S_tmp := S_ye
  have S_ye := D.safeWr W_432 S_tmp S_ye
  have D := D.wr W_432 S_tmp
  have F := F.wr W_432 (Or.inr l_ye)
  refine Ow.dup X hx (pc := 433) (hb hby at_433) rfl ?_
  refine Ow.iconst X hx (pc := 434) (5) (hb hby at_434) (by decide) ?_
  refine Ow.bipush X hx (pc := 435) (116) (hb hby at_435) (by decide) ?_
  refine Ow.castoreL X hx D.hZ eT B_ye 5 [_, _, _, _, _, _, _, _, _, _, _, _, _, _, _, _, _, _, _, _, _, _, _, _, _, _, _, _, _, _, _, _, _, _, _, _, _, _, _, _, _, _, _, _, _, _, _] (by decide) (by decide) rfl rfl (pc := 437) (hb hby at_437) ?_
  intro T h_437 X eT W_437 B_ye
  rw [show nar .char (116 : Int32) = 116 from by decide] at B_ye W_437
  have S := S.wr W_437
  have A_ue := A_ue.wr W_437
  have Fm := Fm.other W_437 (Or.inl ne_ue_ye)
  have Sm := Sm.keep (Keep.of_wr W_437) (Ow.nin1 ne_ms_ye) (Ow.nin1 ne_d_ye)
  have S_tmp := S_ye
  have S_ye := D.safeWr W_437 S_tmp S_ye
  have D := D.wr W_437 S_tmp
  have F := F.wr W_437 (Or.inr l_ye)
  refine Ow.dup X hx (pc := 438) (hb hby at_438) rfl ?_
  refine Ow.bipush X hx (pc := 439) (6) (hb hby at_439) (by decide) ?_
  refine Ow.bipush X hx (pc := 441) (32) (hb hby at_441) (by decide) ?_
  refine Ow.castoreL X hx D.hZ eT B_ye 6 [_, _, _, _, _, _, _, _, _, _, _, _, _, _, _, _, _, _, _, _, _, _, _, _, _, _, _, _, _, _, _, _, _, _, _, _, _, _, _, _, _, _, _, _, _, _, _] (by decide) (by decide) rfl rfl (pc := 443) (hb hby at_443) ?_
  intro T h_443 X eT W_443 B_ye
  rw [show nar .char (32 : Int32) = 32 from by decide] at B_ye W_443
  have S := S.wr W_443
  have A_ue := A_ue.wr W_443
  have Fm := Fm.other W_443 (Or.inl ne_ue_ye)
  have Sm := Sm.keep (Keep.of_wr W_443) (Ow.nin1 ne_ms_ye) (Ow.nin1 ne_d_ye)
  have S_tmp := S_ye
  have S_ye := D.safeWr W_443 S_tmp S_ye
  have D := D.wr W_443 S_tmp
  have F := F.wr W_443 (Or.inr l_ye)
  refine Ow.dup X hx (pc := 444) (hb hby at_444) rfl ?_
  refine Ow.bipush X hx (pc := 445) (7) (hb hby at_445) (by decide) ?_
  refine Ow.bipush X hx (pc := 447) (112) (hb hby at_447) (by decide) ?_
  refine Ow.castoreL X hx D.hZ eT B_ye 7 [_, _, _, _, _, _, _, _, _, _, _, _, _, _, _, _, _, _, _, _, _, _, _, _, _, _, _, _, _, _, _, _, _, _, _, _, _, _, _, _, _, _, _, _, _, _, _] (by decide) (by decide) rfl rfl (pc := 449) (hb hby at_449) ?_
  intro T h_449 X eT W_449 B_ye
  rw [show nar .char (112 : Int32) = 112 from by decide] at B_ye W_449
  have S := S.wr W_449
  have A_ue := A_ue.wr W_449
  have Fm := Fm.other W_449 (Or.inl ne_ue_ye)
  have Sm := Sm.keep (Keep.of_wr W_449) (Ow.nin1 ne_ms_ye) (Ow.nin1 ne_d_ye)
  have S_tmp := S_ye
  have S_ye := D.safeWr W_449 S_tmp S_ye
  have D := D.wr W_449 S_tmp
  have F := F.wr W_449 (Or.inr l_ye)
  refine Ow.dup X hx (pc := 450) (hb hby at_450) rfl ?_
  refine Ow.bipush X hx (pc := 451) (8) (hb hby at_451) (by decide) ?_
  refine Ow.bipush X hx (pc := 453) (114) (hb hby at_453) (by decide) ?_
  refine Ow.castoreL X hx D.hZ eT B_ye 8 [_, _, _, _, _, _, _, _, _, _, _, _, _, _, _, _, _, _, _, _, _, _, _, _, _, _, _, _, _, _, _, _, _, _, _, _, _, _, _, _, _, _, _, _, _, _, _] (by decide) (by decide) rfl rfl (pc := 455) (hb hby at_455) ?_
  intro T h_455 X eT W_455 B_ye
  rw [show nar .char (114 : Int32) = 114 from by decide] at B_ye W_455
  have S := S.wr W_455
  have A_ue := A_ue.wr W_455
  have Fm := Fm.other W_455 (Or.inl ne_ue_ye)
  have Sm := Sm.keep (Keep.of_wr W_455) (Ow.nin1 ne_ms_ye) (Ow.nin1 ne_d_ye)
  have S_tmp := S_ye
  have S_ye := D.safeWr W_455 S_tmp S_ye
  have D := D.wr W_455 S_tmp
  have F := F.wr W_455 (Or.inr l_ye)
  refine Ow.dup X hx (pc := 456) (hb hby at_456) rfl ?_
  refine Ow.bipush X hx (pc := 457) (9) (hb hby at_457) (by decide) ?_
  refine Ow.bipush X hx (pc := 459) (105) (hb hby at_459) (by decide) ?_
  refine Ow.castoreL X hx D.hZ eT B_ye 9 [_, _, _, _, _, _, _, _, _, _, _, _, _, _, _, _, _, _, _, _, _, _, _, _, _, _, _, _, _, _, _, _, _, _, _, _, _, _, _, _, _, _, _, _, _, _, _] (by decide) (by decide) rfl rfl (pc := 461) (hb hby at_461) ?_
  intro T h_461 X eT W_461 B_ye
  rw [show nar .char (105 : Int32) = 105 from by decide] at B_ye W_461
  have S := S.wr W_461
  have A_ue := A_ue.wr W_461
  have Fm := Fm.other W_461 (Or.inl ne_ue_ye)
  have Sm := Sm.keep (Keep.of_wr W_461) (Ow.nin1 ne_ms_ye) (Ow.nin1 ne_d_ye)
  have S_tmp := S_ye
  have S_ye := D.safeWr W_461 S_tmp S_ye
  have D := D.wr W_461 S_tmp
  have F := F.wr W_461 (Or.inr l_ye)
  refine Ow.dup X hx (pc := 462) (hb hby at_462) rfl ?_
  refine Ow.bipush X hx (pc := 463) (10) (hb hby at_463) (by decide) ?_
  refine Ow.bipush X hx (pc := 465) (99) (hb hby at_465) (by decide) ?_
  refine Ow.castoreL X hx D.hZ eT B_ye 10 [_, _, _, _, _, _, _, _, _, _, _, _, _, _, _, _, _, _, _, _, _, _, _, _, _, _, _, _, _, _, _, _, _, _, _, _, _, _, _, _, _, _, _, _, _, _, _] (by decide) (by decide) rfl rfl (pc := 467) (hb hby at_467) ?_
  intro T h_467 X eT W_467 B_ye
  rw [show nar .char (99 : Int32) = 99 from by decide] at B_ye W_467
  have S := S.wr W_467
  have A_ue := A_ue.wr W_467
  have Fm := Fm.other W_467 (Or.inl ne_ue_ye)
  have Sm := Sm.keep (Keep.of_wr W_467) (Ow.nin1 ne_ms_ye) (Ow.nin1 ne_d_ye)
  have S_tmp := S_ye
  have S_ye := D.safeWr W_467 S_tmp S_ye
  have D := D.wr W_467 S_tmp
  have F := F.wr W_467 (Or.inr l_ye)
  refine Ow.dup X hx (pc := 468) (hb hby at_468) rfl ?_
  refine Ow.bipush X hx (pc := 469) (11) (hb hby at_469) (by decide) ?_
  refine Ow.bipush X hx (pc := 471) (101) (hb hby at_471) (by decide) ?_
  refine Ow.castoreL X hx D.hZ eT B_ye 11 [_, _, _, _, _, _, _, _, _, _, _, _, _, _, _, _, _, _, _, _, _, _, _, _, _, _, _, _, _, _, _, _, _, _, _, _, _, _, _, _, _, _, _, _, _, _, _] (by decide) (by decide) rfl rfl (pc := 473) (hb hby at_473) ?_
  intro T h_473 X eT W_473 B_ye
  rw [show nar .char (101 : Int32) = 101 from by decide] at B_ye W_473
  have S := S.wr W_473
  have A_ue := A_ue.wr W_473
  have Fm := Fm.other W_473 (Or.inl ne_ue_ye)
  have Sm := Sm.keep (Keep.of_wr W_473) (Ow.nin1 ne_ms_ye) (Ow.nin1 ne_d_ye)
  have S_tmp := S_ye
  have S_ye := D.safeWr W_473 S_tmp S_ye
  have D := D.wr W_473 S_tmp
  have F := F.wr W_473 (Or.inr l_ye)
  refine Ow.dup X hx (pc := 474) (hb hby at_474) rfl ?_
  refine Ow.bipush X hx (pc := 475) (12) (hb hby at_475) (by decide) ?_
  refine Ow.bipush X hx (pc := 477) (32) (hb hby at_477) (by decide) ?_
  refine Ow.castoreL X hx D.hZ eT B_ye 12 [_, _, _, _, _, _, _, _, _, _, _, _, _, _, _, _, _, _, _, _, _, _, _, _, _, _, _, _, _, _, _, _, _, _, _, _, _, _, _, _, _, _, _, _, _, _, _] (by decide) (by decide) rfl rfl (pc := 479) (hb hby at_479) ?_
  intro T h_479 X eT W_479 B_ye
  rw [show nar .char (32 : Int32) = 32 from by decide] at B_ye W_479
  have S := S.wr W_479
  have A_ue := A_ue.wr W_479
  have Fm := Fm.other W_479 (Or.inl ne_ue_ye)
  have Sm := Sm.keep (Keep.of_wr W_479) (Ow.nin1 ne_ms_ye) (Ow.nin1 ne_d_ye)
  have S_tmp := S_ye
  have S_ye := D.safeWr W_479 S_tmp S_ye
  have D := D.wr W_479 S_tmp
  have F := F.wr W_479 (Or.inr l_ye)
  refine Ow.dup X hx (pc := 480) (hb hby at_480) rfl ?_
  refine Ow.bipush X hx (pc := 481) (13) (hb hby at_481) (by decide) ?_
  refine Ow.bipush X hx (pc := 483) (111) (hb hby at_483) (by decide) ?_
  refine Ow.castoreL X hx D.hZ eT B_ye 13 [_, _, _, _, _, _, _, _, _, _, _, _, _, _, _, _, _, _, _, _, _, _, _, _, _, _, _, _, _, _, _, _, _, _, _, _, _, _, _, _, _, _, _, _, _, _, _] (by decide) (by decide) rfl rfl (pc := 485) (hb hby at_485) ?_
  intro T h_485 X eT W_485 B_ye
  rw [show nar .char (111 : Int32) = 111 from by decide] at B_ye W_485
  have S := S.wr W_485
  have A_ue := A_ue.wr W_485
  have Fm := Fm.other W_485 (Or.inl ne_ue_ye)
  have Sm := Sm.keep (Keep.of_wr W_485) (Ow.nin1 ne_ms_ye) (Ow.nin1 ne_d_ye)
  have S_tmp := S_ye
  have S_ye := D.safeWr W_485 S_tmp S_ye
  have D := D.wr W_485 S_tmp
  have F := F.wr W_485 (Or.inr l_ye)
  refine Ow.dup X hx (pc := 486) (hb hby at_486) rfl ?_
  refine Ow.bipush X hx (pc := 487) (14) (hb hby at_487) (by decide) ?_
  refine Ow.bipush X hx (pc := 489) (114) (hb hby at_489) (by decide) ?_
  refine Ow.castoreL X hx D.hZ eT B_ye 14 [_, _, _, _, _, _, _, _, _, _, _, _, _, _, _, _, _, _, _, _, _, _, _, _, _, _, _, _, _, _, _, _, _, _, _, _, _, _, _, _, _, _, _, _, _, _, _] (by decide) (by decide) rfl rfl (pc := 491) (hb hby at_491) ?_
  intro T h_491 X eT W_491 B_ye
  rw [show nar .char (114 : Int32) = 114 from by decide] at B_ye W_491
  have S := S.wr W_491
  have A_ue := A_ue.wr W_491
  have Fm := Fm.other W_491 (Or.inl ne_ue_ye)
  have Sm := Sm.keep (Keep.of_wr W_491) (Ow.nin1 ne_ms_ye) (Ow.nin1 ne_d_ye)
  have S_tmp := S_ye
  have S_ye := D.safeWr W_491 S_tmp S_ye
  have D := D.wr W_491 S_tmp
  have F := F.wr W_491 (Or.inr l_ye)
  refine Ow.dup X hx (pc := 492) (hb hby at_492) rfl ?_
  refine Ow.bipush X hx (pc := 493) (15) (hb hby at_493) (by decide) ?_
  refine Ow.bipush X hx (pc := 495) (100) (hb hby at_495) (by decide) ?_
  refine Ow.castoreL X hx D.hZ eT B_ye 15 [_, _, _, _, _, _, _, _, _, _, _, _, _, _, _, _, _, _, _, _, _, _, _, _, _, _, _, _, _, _, _, _, _, _, _, _, _, _, _, _, _, _, _, _, _, _, _] (by decide) (by decide) rfl rfl (pc := 497) (hb hby at_497) ?_
  intro T h_497 X eT W_497 B_ye
  rw [show nar .char (100 : Int32) = 100 from by decide] at B_ye W_497
  have S := S.wr W_497
  have A_ue := A_ue.wr W_497
  have Fm := Fm.other W_497 (Or.inl ne_ue_ye)
  have Sm := Sm.keep (Keep.of_wr W_497) (Ow.nin1 ne_ms_ye) (Ow.nin1 ne_d_ye)
  have S_tmp := S_ye
  have S_ye := D.safeWr W_497 S_tmp S_ye
  have D := D.wr W_497 S_tmp
  have F := F.wr W_497 (Or.inr l_ye)
  refine Ow.dup X hx (pc := 498) (hb hby at_498) rfl ?_
  refine Ow.bipush X hx (pc := 499) (16) (hb hby at_499) (by decide) ?_
  refine Ow.bipush X hx (pc := 501) (101) (hb hby at_501) (by decide) ?_
  refine Ow.castoreL X hx D.hZ eT B_ye 16 [_, _, _, _, _, _, _, _, _, _, _, _, _, _, _, _, _, _, _, _, _, _, _, _, _, _, _, _, _, _, _, _, _, _, _, _, _, _, _, _, _, _, _, _, _, _, _] (by decide) (by decide) rfl rfl (pc := 503) (hb hby at_503) ?_
  intro T h_503 X eT W_503 B_ye
  rw [show nar .char (101 : Int32) = 101 from by decide] at B_ye W_503
  have S := S.wr W_503
  have A_ue := A_ue.wr W_503
  have Fm := Fm.other W_503 (Or.inl ne_ue_ye)
  have Sm := Sm.keep (Keep.of_wr W_503) (Ow.nin1 ne_ms_ye) (Ow.nin1 ne_d_ye)
  have S_tmp := S_ye
  have S_ye := D.safeWr W_503 S_tmp S_ye
  have D := D.wr W_503 S_tmp
  have F := F.wr W_503 (Or.inr l_ye)
  refine Ow.dup X hx (pc := 504) (hb hby at_504) rfl ?_
  refine Ow.bipush X hx (pc := 505) (17) (hb hby at_505) (by decide) ?_
  refine Ow.bipush X hx (pc := 507) (114) (hb hby at_507) (by decide) ?_
  refine Ow.castoreL X hx D.hZ eT B_ye 17 [_, _, _, _, _, _, _, _, _, _, _, _, _, _, _, _, _, _, _, _, _, _, _, _, _, _, _, _, _, _, _, _, _, _, _, _, _, _, _, _, _, _, _, _, _, _, _] (by decide) (by decide) rfl rfl (pc := 509) (hb hby at_509) ?_
  intro T h_509 X eT W_509 B_ye
  rw [show nar .char (114 : Int32) = 114 from by decide] at B_ye W_509
  have S := S.wr W_509
  have A_ue := A_ue.wr W_509
  have Fm := Fm.other W_509 (Or.inl ne_ue_ye)
  have Sm := Sm.keep (Keep.of_wr W_509) (Ow.nin1 ne_ms_ye) (Ow.nin1 ne_d_ye)
  have S_tmp := S_ye
  have S_ye := D.safeWr W_509 S_tmp S_ye
  have D := D.wr W_509 S_tmp
  have F := F.wr W_509 (Or.inr l_ye)
  refine Ow.dup X hx (pc := 510) (hb hby at_510) rfl ?_
  refine Ow.bipush X hx (pc := 511) (18) (hb hby at_511) (by decide) ?_
  refine Ow.bipush X hx (pc := 513) (115) (hb hby at_513) (by decide) ?_
  refine Ow.castoreL X hx D.hZ eT B_ye 18 [_, _, _, _, _, _, _, _, _, _, _, _, _, _, _, _, _, _, _, _, _, _, _, _, _, _, _, _, _, _, _, _, _, _, _, _, _, _, _, _, _, _, _, _, _, _, _] (by decide) (by decide) rfl rfl (pc := 515) (hb hby at_515) ?_
  intro T h_515 X eT W_515 B_ye
  rw [show nar .char (115 : Int32) = 115 from by decide] at B_ye W_515
  have S := S.wr W_515
  have A_ue := A_ue.wr W_515
  have Fm := Fm.other W_515 (Or.inl ne_ue_ye)
  have Sm := Sm.keep (Keep.of_wr W_515) (Ow.nin1 ne_ms_ye) (Ow.nin1 ne_d_ye)
  have S_tmp := S_ye
  have S_ye := D.safeWr W_515 S_tmp S_ye
  have D := D.wr W_515 S_tmp
  have F := F.wr W_515 (Or.inr l_ye)
  refine Ow.dup X hx (pc := 516) (hb hby at_516) rfl ?_
  refine Ow.bipush X hx (pc := 517) (19) (hb hby at_517) (by decide) ?_
  refine Ow.bipush X hx (pc := 519) (32) (hb hby at_519) (by decide) ?_
  refine Ow.castoreL X hx D.hZ eT B_ye 19 [_, _, _, _, _, _, _, _, _, _, _, _, _, _, _, _, _, _, _, _, _, _, _, _, _, _, _, _, _, _, _, _, _, _, _, _, _, _, _, _, _, _, _, _, _, _, _] (by decide) (by decide) rfl rfl (pc := 521) (hb hby at_521) ?_
  intro T h_521 X eT W_521 B_ye
  rw [show nar .char (32 : Int32) = 32 from by decide] at B_ye W_521
  have S := S.wr W_521
  have A_ue := A_ue.wr W_521
  have Fm := Fm.other W_521 (Or.inl ne_ue_ye)
  have Sm := Sm.keep (Keep.of_wr W_521) (Ow.nin1 ne_ms_ye) (Ow.nin1 ne_d_ye)
  have S_tmp := S_ye
  have S_ye := D.safeWr W_521 S_tmp S_ye
  have D := D.wr W_521 S_tmp
  have F := F.wr W_521 (Or.inr l_ye)
  refine Ow.dup X hx (pc := 522) (hb hby at_522) rfl ?_
  refine Ow.bipush X hx (pc := 523) (20) (hb hby at_523) (by decide) ?_
  refine Ow.bipush X hx (pc := 525) (119) (hb hby at_525) (by decide) ?_
  refine Ow.castoreL X hx D.hZ eT B_ye 20 [_, _, _, _, _, _, _, _, _, _, _, _, _, _, _, _, _, _, _, _, _, _, _, _, _, _, _, _, _, _, _, _, _, _, _, _, _, _, _, _, _, _, _, _, _, _, _] (by decide) (by decide) rfl rfl (pc := 527) (hb hby at_527) ?_
  intro T h_527 X eT W_527 B_ye
  rw [show nar .char (119 : Int32) = 119 from by decide] at B_ye W_527
  have S := S.wr W_527
  have A_ue := A_ue.wr W_527
  have Fm := Fm.other W_527 (Or.inl ne_ue_ye)
  have Sm := Sm.keep (Keep.of_wr W_527) (Ow.nin1 ne_ms_ye) (Ow.nin1 ne_d_ye)
  have S_tmp := S_ye
  have S_ye := D.safeWr W_527 S_tmp S_ye
  have D := D.wr W_527 S_tmp
  have F := F.wr W_527 (Or.inr l_ye)
  refine Ow.dup X hx (pc := 528) (hb hby at_528) rfl ?_
  refine Ow.bipush X hx (pc := 529) (21) (hb hby at_529) (by decide) ?_
  refine Ow.bipush X hx (pc := 531) (105) (hb hby at_531) (by decide) ?_
  refine Ow.castoreL X hx D.hZ eT B_ye 21 [_, _, _, _, _, _, _, _, _, _, _, _, _, _, _, _, _, _, _, _, _, _, _, _, _, _, _, _, _, _, _, _, _, _, _, _, _, _, _, _, _, _, _, _, _, _, _] (by decide) (by decide) rfl rfl (pc := 533) (hb hby at_533) ?_
  intro T h_533 X eT W_533 B_ye
  rw [show nar .char (105 : Int32) = 105 from by decide] at B_ye W_533
  have S := S.wr W_533
  have A_ue := A_ue.wr W_533
  have Fm := Fm.other W_533 (Or.inl ne_ue_ye)
  have Sm := Sm.keep (Keep.of_wr W_533) (Ow.nin1 ne_ms_ye) (Ow.nin1 ne_d_ye)
  have S_tmp := S_ye
  have S_ye := D.safeWr W_533 S_tmp S_ye
  have D := D.wr W_533 S_tmp
  have F := F.wr W_533 (Or.inr l_ye)
  refine Ow.dup X hx (pc := 534) (hb hby at_534) rfl ?_
  refine Ow.bipush X hx (pc := 535) (22) (hb hby at_535) (by decide) ?_
  refine Ow.bipush X hx (pc := 537) (116) (hb hby at_537) (by decide) ?_
  refine Ow.castoreL X hx D.hZ eT B_ye 22 [_, _, _, _, _, _, _, _, _, _, _, _, _, _, _, _, _, _, _, _, _, _, _, _, _, _, _, _, _, _, _, _, _, _, _, _, _, _, _, _, _, _, _, _, _, _, _] (by decide) (by decide) rfl rfl (pc := 539) (hb hby at_539) ?_
  intro T h_539 X eT W_539 B_ye
  rw [show nar .char (116 : Int32) = 116 from by decide] at B_ye W_539
  have S := S.wr W_539
  have A_ue := A_ue.wr W_539
  have Fm := Fm.other W_539 (Or.inl ne_ue_ye)
  have Sm := Sm.keep (Keep.of_wr W_539) (Ow.nin1 ne_ms_ye) (Ow.nin1 ne_d_ye)
  have S_tmp := S_ye
  have S_ye := D.safeWr W_539 S_tmp S_ye
  have D := D.wr W_539 S_tmp
  have F := F.wr W_539 (Or.inr l_ye)
  refine Ow.dup X hx (pc := 540) (hb hby at_540) rfl ?_
  refine Ow.bipush X hx (pc := 541) (23) (hb hby at_541) (by decide) ?_
  refine Ow.bipush X hx (pc := 543) (104) (hb hby at_543) (by decide) ?_
  refine Ow.castoreL X hx D.hZ eT B_ye 23 [_, _, _, _, _, _, _, _, _, _, _, _, _, _, _, _, _, _, _, _, _, _, _, _, _, _, _, _, _, _, _, _, _, _, _, _, _, _, _, _, _, _, _, _, _, _, _] (by decide) (by decide) rfl rfl (pc := 545) (hb hby at_545) ?_
  intro T h_545 X eT W_545 B_ye
  rw [show nar .char (104 : Int32) = 104 from by decide] at B_ye W_545
  have S := S.wr W_545
  have A_ue := A_ue.wr W_545
  have Fm := Fm.other W_545 (Or.inl ne_ue_ye)
  have Sm := Sm.keep (Keep.of_wr W_545) (Ow.nin1 ne_ms_ye) (Ow.nin1 ne_d_ye)
  have S_tmp := S_ye
  have S_ye := D.safeWr W_545 S_tmp S_ye
  have D := D.wr W_545 S_tmp
  have F := F.wr W_545 (Or.inr l_ye)
  refine Ow.dup X hx (pc := 546) (hb hby at_546) rfl ?_
  refine Ow.bipush X hx (pc := 547) (24) (hb hby at_547) (by decide) ?_
  refine Ow.bipush X hx (pc := 549) (32) (hb hby at_549) (by decide) ?_
  refine Ow.castoreL X hx D.hZ eT B_ye 24 [_, _, _, _, _, _, _, _, _, _, _, _, _, _, _, _, _, _, _, _, _, _, _, _, _, _, _, _, _, _, _, _, _, _, _, _, _, _, _, _, _, _, _, _, _, _, _] (by decide) (by decide) rfl rfl (pc := 551) (hb hby at_551) ?_
  intro T h_551 X eT W_551 B_ye
  rw [show nar .char (32 : Int32) = 32 from by decide] at B_ye W_551
  have S := S.wr W_551
  have A_ue := A_ue.wr W_551
  have Fm := Fm.other W_551 (Or.inl ne_ue_ye)
  have Sm := Sm.keep (Keep.of_wr W_551) (Ow.nin1 ne_ms_ye) (Ow.nin1 ne_d_ye)
  have S_tmp := S_ye
  have S_ye := D.safeWr W_551 S_tmp S_ye
  have D := D.wr W_551 S_tmp
  have F := F.wr W_551 (Or.inr l_ye)
  refine Ow.dup X hx (pc := 552) (hb hby at_552) rfl ?_
  refine Ow.bipush X hx (pc := 553) (25) (hb hby at_553) (by decide) ?_
  refine Ow.bipush X hx (pc := 555) (100) (hb hby at_555) (by decide) ?_
  refine Ow.castoreL X hx D.hZ eT B_ye 25 [_, _, _, _, _, _, _, _, _, _, _, _, _, _, _, _, _, _, _, _, _, _, _, _, _, _, _, _, _, _, _, _, _, _, _, _, _, _, _, _, _, _, _, _, _, _, _] (by decide) (by decide) rfl rfl (pc := 557) (hb hby at_557) ?_
  intro T h_557 X eT W_557 B_ye
  rw [show nar .char (100 : Int32) = 100 from by decide] at B_ye W_557
  have S := S.wr W_557
  have A_ue := A_ue.wr W_557
  have Fm := Fm.other W_557 (Or.inl ne_ue_ye)
  have Sm := Sm.keep (Keep.of_wr W_557) (Ow.nin1 ne_ms_ye) (Ow.nin1 ne_d_ye)
  have S_tmp := S_ye
  have S_ye := D.safeWr W_557 S_tmp S_ye
  have D := D.wr W_557 S_tmp
  have F := F.wr W_557 (Or.inr l_ye)
  refine Ow.dup X hx (pc := 558) (hb hby at_558) rfl ?_
  refine Ow.bipush X hx (pc := 559) (26) (hb hby at_559) (by decide) ?_
  refine Ow.bipush X hx (pc := 561) (105) (hb hby at_561) (by decide) ?_
  refine Ow.castoreL X hx D.hZ eT B_ye 26 [_, _, _, _, _, _, _, _, _, _, _, _, _, _, _, _, _, _, _, _, _, _, _, _, _, _, _, _, _, _, _, _, _, _, _, _, _, _, _, _, _, _, _, _, _, _, _] (by decide) (by decide) rfl rfl (pc := 563) (hb hby at_563) ?_
  intro T h_563 X eT W_563 B_ye
  rw [show nar .char (105 : Int32) = 105 from by decide] at B_ye W_563
  have S := S.wr W_563
  have A_ue := A_ue.wr W_563
  have Fm := Fm.other W_563 (Or.inl ne_ue_ye)
  have Sm := Sm.keep (Keep.of_wr W_563) (Ow.nin1 ne_ms_ye) (Ow.nin1 ne_d_ye)
  have S_tmp := S_ye
  have S_ye := D.safeWr W_563 S_tmp S_ye
  have D := D.wr W_563 S_tmp
  have F := F.wr W_563 (Or.inr l_ye)
  refine Ow.dup X hx (pc := 564) (hb hby at_564) rfl ?_
  refine Ow.bipush X hx (pc := 565) (27) (hb hby at_565) (by decide) ?_
  refine Ow.bipush X hx (pc := 567) (115) (hb hby at_567) (by decide) ?_
  refine Ow.castoreL X hx D.hZ eT B_ye 27 [_, _, _, _, _, _, _, _, _, _, _, _, _, _, _, _, _, _, _, _, _, _, _, _, _, _, _, _, _, _, _, _, _, _, _, _, _, _, _, _, _, _, _, _, _, _, _] (by decide) (by decide) rfl rfl (pc := 569) (hb hby at_569) ?_
  intro T h_569 X eT W_569 B_ye
  rw [show nar .char (115 : Int32) = 115 from by decide] at B_ye W_569
  have S := S.wr W_569
  have A_ue := A_ue.wr W_569
  have Fm := Fm.other W_569 (Or.inl ne_ue_ye)
  have Sm := Sm.keep (Keep.of_wr W_569) (Ow.nin1 ne_ms_ye) (Ow.nin1 ne_d_ye)
  have S_tmp := S_ye
  have S_ye := D.safeWr W_569 S_tmp S_ye
  have D := D.wr W_569 S_tmp
  have F := F.wr W_569 (Or.inr l_ye)
  refine Ow.dup X hx (pc := 570) (hb hby at_570) rfl ?_
  refine Ow.bipush X hx (pc := 571) (28) (hb hby at_571) (by decide) ?_
  refine Ow.bipush X hx (pc := 573) (99) (hb hby at_573) (by decide) ?_
  refine Ow.castoreL X hx D.hZ eT B_ye 28 [_, _, _, _, _, _, _, _, _, _, _, _, _, _, _, _, _, _, _, _, _, _, _, _, _, _, _, _, _, _, _, _, _, _, _, _, _, _, _, _, _, _, _, _, _, _, _] (by decide) (by decide) rfl rfl (pc := 575) (hb hby at_575) ?_
  intro T h_575 X eT W_575 B_ye
  rw [show nar .char (99 : Int32) = 99 from by decide] at B_ye W_575
  have S := S.wr W_575
  have A_ue := A_ue.wr W_575
  have Fm := Fm.other W_575 (Or.inl ne_ue_ye)
  have Sm := Sm.keep (Keep.of_wr W_575) (Ow.nin1 ne_ms_ye) (Ow.nin1 ne_d_ye)
  have S_tmp := S_ye
  have S_ye := D.safeWr W_575 S_tmp S_ye
  have D := D.wr W_575 S_tmp
  have F := F.wr W_575 (Or.inr l_ye)
  refine Ow.dup X hx (pc := 576) (hb hby at_576) rfl ?_
  refine Ow.bipush X hx (pc := 577) (29) (hb hby at_577) (by decide) ?_
  refine Ow.bipush X hx (pc := 579) (111) (hb hby at_579) (by decide) ?_
  refine Ow.castoreL X hx D.hZ eT B_ye 29 [_, _, _, _, _, _, _, _, _, _, _, _, _, _, _, _, _, _, _, _, _, _, _, _, _, _, _, _, _, _, _, _, _, _, _, _, _, _, _, _, _, _, _, _, _, _, _] (by decide) (by decide) rfl rfl (pc := 581) (hb hby at_581) ?_
  intro T h_581 X eT W_581 B_ye
  rw [show nar .char (111 : Int32) = 111 from by decide] at B_ye W_581
  have S := S.wr W_581
  have A_ue := A_ue.wr W_581
  have Fm := Fm.other W_581 (Or.inl ne_ue_ye)
  have Sm := Sm.keep (Keep.of_wr W_581) (Ow.nin1 ne_ms_ye) (Ow.nin1 ne_d_ye)
  have S_tmp := S_ye
  have S_ye := D.safeWr W_581 S_tmp S_ye
  have D := D.wr W_581 S_tmp
  have F := F.wr W_581 (Or.inr l_ye)
  refine Ow.dup X hx (pc := 582) (hb hby at_582) rfl ?_
  refine Ow.bipush X hx (pc := 583) (30) (hb hby at_583) (by decide) ?_
  refine Ow.bipush X hx (pc := 585) (117) (hb hby at_585) (by decide) ?_
  refine Ow.castoreL X hx D.hZ eT B_ye 30 [_, _, _, _, _, _, _, _, _, _, _, _, _, _, _, _, _, _, _, _, _, _, _, _, _, _, _, _, _, _, _, _, _, _, _, _, _, _, _, _, _, _, _, _, _, _, _] (by decide) (by decide) rfl rfl (pc := 587) (hb hby at_587) ?_
  intro T h_587 X eT W_587 B_ye
  rw [show nar .char (117 : Int32) = 117 from by decide] at B_ye W_587
  have S := S.wr W_587
  have A_ue := A_ue.wr W_587
  have Fm := Fm.other W_587 (Or.inl ne_ue_ye)
  have Sm := Sm.keep (Keep.of_wr W_587) (Ow.nin1 ne_ms_ye) (Ow.nin1 ne_d_ye)
  have S_tmp := S_ye
  have S_ye := D.safeWr W_587 S_tmp S_ye
  have D := D.wr W_587 S_tmp
  have F := F.wr W_587 (Or.inr l_ye)
  refine Ow.dup X hx (pc := 588) (hb hby at_588) rfl ?_
  refine Ow.bipush X hx (pc := 589) (31) (hb hby at_589) (by decide) ?_
  refine Ow.bipush X hx (pc := 591) (110) (hb hby at_591) (by decide) ?_
  refine Ow.castoreL X hx D.hZ eT B_ye 31 [_, _, _, _, _, _, _, _, _, _, _, _, _, _, _, _, _, _, _, _, _, _, _, _, _, _, _, _, _, _, _, _, _, _, _, _, _, _, _, _, _, _, _, _, _, _, _] (by decide) (by decide) rfl rfl (pc := 593) (hb hby at_593) ?_
  intro T h_593 X eT W_593 B_ye
  rw [show nar .char (110 : Int32) = 110 from by decide] at B_ye W_593
  have S := S.wr W_593
  have A_ue := A_ue.wr W_593
  have Fm := Fm.other W_593 (Or.inl ne_ue_ye)
  have Sm := Sm.keep (Keep.of_wr W_593) (Ow.nin1 ne_ms_ye) (Ow.nin1 ne_d_ye)
  have S_tmp := S_ye
  have S_ye := D.safeWr W_593 S_tmp S_ye
  have D := D.wr W_593 S_tmp
  have F := F.wr W_593 (Or.inr l_ye)
  refine Ow.dup X hx (pc := 594) (hb hby at_594) rfl ?_
  refine Ow.bipush X hx (pc := 595) (32) (hb hby at_595) (by decide) ?_
  refine Ow.bipush X hx (pc := 597) (116) (hb hby at_597) (by decide) ?_
  refine Ow.castoreL X hx D.hZ eT B_ye 32 [_, _, _, _, _, _, _, _, _, _, _, _, _, _, _, _, _, _, _, _, _, _, _, _, _, _, _, _, _, _, _, _, _, _, _, _, _, _, _, _, _, _, _, _, _, _, _] (by decide) (by decide) rfl rfl (pc := 599) (hb hby at_599) ?_
  intro T h_599 X eT W_599 B_ye
  rw [show nar .char (116 : Int32) = 116 from by decide] at B_ye W_599
  have S := S.wr W_599
  have A_ue := A_ue.wr W_599
  have Fm := Fm.other W_599 (Or.inl ne_ue_ye)
  have Sm := Sm.keep (Keep.of_wr W_599) (Ow.nin1 ne_ms_ye) (Ow.nin1 ne_d_ye)
  have S_tmp := S_ye
  have S_ye := D.safeWr W_599 S_tmp S_ye
  have D := D.wr W_599 S_tmp
  have F := F.wr W_599 (Or.inr l_ye)
  refine Ow.dup X hx (pc := 600) (hb hby at_600) rfl ?_
  refine Ow.bipush X hx (pc := 601) (33) (hb hby at_601) (by decide) ?_
  refine Ow.bipush X hx (pc := 603) (32) (hb hby at_603) (by decide) ?_
  refine Ow.castoreL X hx D.hZ eT B_ye 33 [_, _, _, _, _, _, _, _, _, _, _, _, _, _, _, _, _, _, _, _, _, _, _, _, _, _, _, _, _, _, _, _, _, _, _, _, _, _, _, _, _, _, _, _, _, _, _] (by decide) (by decide) rfl rfl (pc := 605) (hb hby at_605) ?_
  intro T h_605 X eT W_605 B_ye
  rw [show nar .char (32 : Int32) = 32 from by decide] at B_ye W_605
  have S := S.wr W_605
  have A_ue := A_ue.wr W_605
  have Fm := Fm.other W_605 (Or.inl ne_ue_ye)
  have Sm := Sm.keep (Keep.of_wr W_605) (Ow.nin1 ne_ms_ye) (Ow.nin1 ne_d_ye)
  have S_tmp := S_ye
  have S_ye := D.safeWr W_605 S_tmp S_ye
  have D := D.wr W_605 S_tmp
  have F := F.wr W_605 (Or.inr l_ye)
  refine Ow.dup X hx (pc := 606) (hb hby at_606) rfl ?_
  refine Ow.bipush X hx (pc := 607) (34) (hb hby at_607) (by decide) ?_
  refine Ow.bipush X hx (pc := 609) (115) (hb hby at_609) (by decide) ?_
  refine Ow.castoreL X hx D.hZ eT B_ye 34 [_, _, _, _, _, _, _, _, _, _, _, _, _, _, _, _, _, _, _, _, _, _, _, _, _, _, _, _, _, _, _, _, _, _, _, _, _, _, _, _, _, _, _, _, _, _, _] (by decide) (by decide) rfl rfl (pc := 611) (hb hby at_611) ?_
  intro T h_611 X eT W_611 B_ye
  rw [show nar .char (115 : Int32) = 115 from by decide] at B_ye W_611
  have S := S.wr W_611
  have A_ue := A_ue.wr W_611
  have Fm := Fm.other W_611 (Or.inl ne_ue_ye)
  have Sm := Sm.keep (Keep.of_wr W_611) (Ow.nin1 ne_ms_ye) (Ow.nin1 ne_d_ye)
  have S_tmp := S_ye
  have S_ye := D.safeWr W_611 S_tmp S_ye
  have D := D.wr W_611 S_tmp
  have F := F.wr W_611 (Or.inr l_ye)
  refine Ow.dup X hx (pc := 612) (hb hby at_612) rfl ?_
  refine Ow.bipush X hx (pc := 613) (35) (hb hby at_613) (by decide) ?_
  refine Ow.bipush X hx (pc := 615) (99) (hb hby at_615) (by decide) ?_
  refine Ow.castoreL X hx D.hZ eT B_ye 35 [_, _, _, _, _, _, _, _, _, _, _, _, _, _, _, _, _, _, _, _, _, _, _, _, _, _, _, _, _, _, _, _, _, _, _, _, _, _, _, _, _, _, _, _, _, _, _] (by decide) (by decide) rfl rfl (pc := 617) (hb hby at_617) ?_
  intro T h_617 X eT W_617 B_ye
  rw [show nar .char (99 : Int32) = 99 from by decide] at B_ye W_617
  have S := S.wr W_617
  have A_ue := A_ue.wr W_617
  have Fm := Fm.other W_617 (Or.inl ne_ue_ye)
  have Sm := Sm.keep (Keep.of_wr W_617) (Ow.nin1 ne_ms_ye) (Ow.nin1 ne_d_ye)
  have S_tmp := S_ye
  have S_ye := D.safeWr W_617 S_tmp S_ye
  have D := D.wr W_617 S_tmp
  have F := F.wr W_617 (Or.inr l_ye)
  refine Ow.dup X hx (pc := 618) (hb hby at_618) rfl ?_
  refine Ow.bipush X hx (pc := 619) (36) (hb hby at_619) (by decide) ?_
  refine Ow.bipush X hx (pc := 621) (104) (hb hby at_621) (by decide) ?_
  refine Ow.castoreL X hx D.hZ eT B_ye 36 [_, _, _, _, _, _, _, _, _, _, _, _, _, _, _, _, _, _, _, _, _, _, _, _, _, _, _, _, _, _, _, _, _, _, _, _, _, _, _, _, _, _, _, _, _, _, _] (by decide) (by decide) rfl rfl (pc := 623) (hb hby at_623) ?_
  intro T h_623 X eT W_623 B_ye
  rw [show nar .char (104 : Int32) = 104 from by decide] at B_ye W_623
  have S := S.wr W_623
  have A_ue := A_ue.wr W_623
  have Fm := Fm.other W_623 (Or.inl ne_ue_ye)
  have Sm := Sm.keep (Keep.of_wr W_623) (Ow.nin1 ne_ms_ye) (Ow.nin1 ne_d_ye)
  have S_tmp := S_ye
  have S_ye := D.safeWr W_623 S_tmp S_ye
  have D := D.wr W_623 S_tmp
  have F := F.wr W_623 (Or.inr l_ye)
  refine Ow.dup X hx (pc := 624) (hb hby at_624) rfl ?_
  refine Ow.bipush X hx (pc := 625) (37) (hb hby at_625) (by decide) ?_
  refine Ow.bipush X hx (pc := 627) (101) (hb hby at_627) (by decide) ?_
  refine Ow.castoreL X hx D.hZ eT B_ye 37 [_, _, _, _, _, _, _, _, _, _, _, _, _, _, _, _, _, _, _, _, _, _, _, _, _, _, _, _, _, _, _, _, _, _, _, _, _, _, _, _, _, _, _, _, _, _, _] (by decide) (by decide) rfl rfl (pc := 629) (hb hby at_629) ?_
  intro T h_629 X eT W_629 B_ye
  rw [show nar .char (101 : Int32) = 101 from by decide] at B_ye W_629
  have S := S.wr W_629
  have A_ue := A_ue.wr W_629
  have Fm := Fm.other W_629 (Or.inl ne_ue_ye)
  have Sm := Sm.keep (Keep.of_wr W_629) (Ow.nin1 ne_ms_ye) (Ow.nin1 ne_d_ye)
  have S_tmp := S_ye
  have S_ye := D.safeWr W_629 S_tmp S_ye
  have D := D.wr W_629 S_tmp
  have F := F.wr W_629 (Or.inr l_ye)
  refine Ow.dup X hx (pc := 630) (hb hby at_630) rfl ?_
  refine Ow.bipush X hx (pc := 631) (38) (hb hby at_631) (by decide) ?_
  refine Ow.bipush X hx (pc := 633) (109) (hb hby at_633) (by decide) ?_
  refine Ow.castoreL X hx D.hZ eT B_ye 38 [_, _, _, _, _, _, _, _, _, _, _, _, _, _, _, _, _, _, _, _, _, _, _, _, _, _, _, _, _, _, _, _, _, _, _, _, _, _, _, _, _, _, _, _, _, _, _] (by decide) (by decide) rfl rfl (pc := 635) (hb hby at_635) ?_
  intro T h_635 X eT W_635 B_ye
  rw [show nar .char (109 : Int32) = 109 from by decide] at B_ye W_635
  have S := S.wr W_635
  have A_ue := A_ue.wr W_635
  have Fm := Fm.other W_635 (Or.inl ne_ue_ye)
  have Sm := Sm.keep (Keep.of_wr W_635) (Ow.nin1 ne_ms_ye) (Ow.nin1 ne_d_ye)
  have S_tmp := S_ye
  have S_ye := D.safeWr W_635 S_tmp S_ye
  have D := D.wr W_635 S_tmp
  have F := F.wr W_635 (Or.inr l_ye)
  refine Ow.dup X hx (pc := 636) (hb hby at_636) rfl ?_
  refine Ow.bipush X hx (pc := 637) (39) (hb hby at_637) (by decide) ?_
  refine Ow.bipush X hx (pc := 639) (97) (hb hby at_639) (by decide) ?_
  refine Ow.castoreL X hx D.hZ eT B_ye 39 [_, _, _, _, _, _, _, _, _, _, _, _, _, _, _, _, _, _, _, _, _, _, _, _, _, _, _, _, _, _, _, _, _, _, _, _, _, _, _, _, _, _, _, _, _, _, _] (by decide) (by decide) rfl rfl (pc := 641) (hb hby at_641) ?_
  intro T h_641 X eT W_641 B_ye
  rw [show nar .char (97 : Int32) = 97 from by decide] at B_ye W_641
  have S := S.wr W_641
  have A_ue := A_ue.wr W_641
  have Fm := Fm.other W_641 (Or.inl ne_ue_ye)
  have Sm := Sm.keep (Keep.of_wr W_641) (Ow.nin1 ne_ms_ye) (Ow.nin1 ne_d_ye)
  have S_tmp := S_ye
  have S_ye := D.safeWr W_641 S_tmp S_ye
  have D := D.wr W_641 S_tmp
  have F := F.wr W_641 (Or.inr l_ye)
  refine Ow.dup X hx (pc := 642) (hb hby at_642) rfl ?_
  refine Ow.bipush X hx (pc := 643) (40) (hb hby at_643) (by decide) ?_
  refine Ow.bipush X hx (pc := 645) (32) (hb hby at_645) (by decide) ?_
  refine Ow.castoreL X hx D.hZ eT B_ye 40 [_, _, _, _, _, _, _, _, _, _, _, _, _, _, _, _, _, _, _, _, _, _, _, _, _, _, _, _, _, _, _, _, _, _, _, _, _, _, _, _, _, _, _, _, _, _, _] (by decide) (by decide) rfl rfl (pc := 647) (hb hby at_647) ?_
  intro T h_647 X eT W_647 B_ye
  rw [show nar .char (32 : Int32) = 32 from by decide] at B_ye W_647
  have S := S.wr W_647
  have A_ue := A_ue.wr W_647
  have Fm := Fm.other W_647 (Or.inl ne_ue_ye)
  have Sm := Sm.keep (Keep.of_wr W_647) (Ow.nin1 ne_ms_ye) (Ow.nin1 ne_d_ye)
  have S_tmp := S_ye
  have S_ye := D.safeWr W_647 S_tmp S_ye
  have D := D.wr W_647 S_tmp
  have F := F.wr W_647 (Or.inr l_ye)
  refine Ow.dup X hx (pc := 648) (hb hby at_648) rfl ?_
  refine Ow.bipush X hx (pc := 649) (41) (hb hby at_649) (by decide) ?_
  refine Ow.iload X hx (pc := 651) (hb hby at_651) rfl ?_
  refine Ow.castoreL X hx D.hZ eT B_ye 41 [_, _, _, _, _, _, _, _, _, _, _, _, _, _, _, _, _, _, _, _, _, _, _, _, _, _, _, _, _, _, _, _, _, _, _, _, _, _, _, _, _, _, _, _, _, _, _] (by decide) (by decide) rfl rfl (pc := 653) (hb hby at_653) ?_
  intro T h_653 X eT W_653 B_ye
  rw [(own_ch8 ka).2.2.1] at B_ye W_653
  have S := S.wr W_653
  have A_ue := A_ue.wr W_653
  have Fm := Fm.other W_653 (Or.inl ne_ue_ye)
  have Sm := Sm.keep (Keep.of_wr W_653) (Ow.nin1 ne_ms_ye) (Ow.nin1 ne_d_ye)
  have S_tmp := S_ye
  have S_ye := D.safeWr W_653 S_tmp S_ye
  have D := D.wr W_653 S_tmp
  have F := F.wr W_653 (Or.inr l_ye)
  refine Ow.dup X hx (pc := 654) (hb hby at_654) rfl ?_
  refine Ow.bipush X hx (pc := 655) (42) (hb hby at_655) (by decide) ?_
  refine Ow.iload X hx (pc := 657) (hb hby at_657) rfl ?_
  refine Ow.castoreL X hx D.hZ eT B_ye 42 [_, _, _, _, _, _, _, _, _, _, _, _, _, _, _, _, _, _, _, _, _, _, _, _, _, _, _, _, _, _, _, _, _, _, _, _, _, _, _, _, _, _, _, _, _, _, _] (by decide) (by decide) rfl rfl (pc := 659) (hb hby at_659) ?_
  intro T h_659 X eT W_659 B_ye
  rw [(own_ch8 kb).2.2.1] at B_ye W_659
  have S := S.wr W_659
  have A_ue := A_ue.wr W_659
  have Fm := Fm.other W_659 (Or.inl ne_ue_ye)
  have Sm := Sm.keep (Keep.of_wr W_659) (Ow.nin1 ne_ms_ye) (Ow.nin1 ne_d_ye)
  have S_tmp := S_ye
  have S_ye := D.safeWr W_659 S_tmp S_ye
  have D := D.wr W_659 S_tmp
  have F := F.wr W_659 (Or.inr l_ye)
  refine Ow.dup X hx (pc := 660) (hb hby at_660) rfl ?_
  refine Ow.bipush X hx (pc := 661) (43) (hb hby at_661) (by decide) ?_
  refine Ow.bipush X hx (pc := 663) (58) (hb hby at_663) (by decide) ?_
  refine Ow.castoreL X hx D.hZ eT B_ye 43 [_, _, _, _, _, _, _, _, _, _, _, _, _, _, _, _, _, _, _, _, _, _, _, _, _, _, _, _, _, _, _, _, _, _, _, _, _, _, _, _, _, _, _, _, _, _, _] (by decide) (by decide) rfl rfl (pc := 665) (hb hby at_665) ?_
  intro T h_665 X eT W_665 B_ye
  rw [show nar .char (58 : Int32) = 58 from by decide] at B_ye W_665
  have S := S.wr W_665
  have A_ue := A_ue.wr W_665
  have Fm := Fm.other W_665 (Or.inl ne_ue_ye)
  have Sm := Sm.keep (Keep.of_wr W_665) (Ow.nin1 ne_ms_ye) (Ow.nin1 ne_d_ye)
  have S_tmp := S_ye
  have S_ye := D.safeWr W_665 S_tmp S_ye
  have D := D.wr W_665 S_tmp
  have F := F.wr W_665 (Or.inr l_ye)
  refine Ow.dup X hx (pc := 666) (hb hby at_666) rfl ?_
  refine Ow.bipush X hx (pc := 667) (44) (hb hby at_667) (by decide) ?_
  refine Ow.bipush X hx (pc := 669) (32) (hb hby at_669) (by decide) ?_
  refine Ow.castoreL X hx D.hZ eT B_ye 44 [_, _, _, _, _, _, _, _, _, _, _, _, _, _, _, _, _, _, _, _, _, _, _, _, _, _, _, _, _, _, _, _, _, _, _, _, _, _, _, _, _, _, _, _, _, _, _] (by decide) (by decide) rfl rfl (pc := 671) (hb hby at_671) ?_
  intro T h_671 X eT W_671 B_ye
  rw [show nar .char (32 : Int32) = 32 from by decide] at B_ye W_671
  have S := S.wr W_671
  have A_ue := A_ue.wr W_671
  have Fm := Fm.other W_671 (Or.inl ne_ue_ye)
  have Sm := Sm.keep (Keep.of_wr W_671) (Ow.nin1 ne_ms_ye) (Ow.nin1 ne_d_ye)
  have S_tmp := S_ye
  have S_ye := D.safeWr W_671 S_tmp S_ye
  have D := D.wr W_671 S_tmp
  have F := F.wr W_671 (Or.inr l_ye)
  refine Ow.dup X hx (pc := 672) (hb hby at_672) rfl ?_
  refine Ow.bipush X hx (pc := 673) (45) (hb hby at_673) (by decide) ?_
  refine Ow.iload X hx (pc := 675) (hb hby at_675) rfl ?_
  refine Ow.castoreL X hx D.hZ eT B_ye 45 [_, _, _, _, _, _, _, _, _, _, _, _, _, _, _, _, _, _, _, _, _, _, _, _, _, _, _, _, _, _, _, _, _, _, _, _, _, _, _, _, _, _, _, _, _, _, _] (by decide) (by decide) rfl rfl (pc := 677) (hb hby at_677) ?_
  intro T h_677 X eT W_677 B_ye
  rw [(own_ch8 kc).2.2.1] at B_ye W_677
  have S := S.wr W_677
  have A_ue := A_ue.wr W_677
  have Fm := Fm.other W_677 (Or.inl ne_ue_ye)
  have Sm := Sm.keep (Keep.of_wr W_677) (Ow.nin1 ne_ms_ye) (Ow.nin1 ne_d_ye)
  have S_tmp := S_ye
  have S_ye := D.safeWr W_677 S_tmp S_ye
  have D := D.wr W_677 S_tmp
  have F := F.wr W_677 (Or.inr l_ye)
  refine Ow.dup X hx (pc := 678) (hb hby at_678) rfl ?_
  refine Ow.bipush X hx (pc := 679) (46) (hb hby at_679) (by decide) ?_
  refine Ow.iload X hx (pc := 681) (hb hby at_681) rfl ?_
  refine Ow.castoreL X hx D.hZ eT B_ye 46 [_, _, _, _, _, _, _, _, _, _, _, _, _, _, _, _, _, _, _, _, _, _, _, _, _, _, _, _, _, _, _, _, _, _, _, _, _, _, _, _, _, _, _, _, _, _, _] (by decide) (by decide) rfl rfl (pc := 683) (hb hby at_683) ?_
  intro T h_683 X eT W_683 B_ye
  rw [(own_ch8 kd).2.2.1] at B_ye W_683
  have S := S.wr W_683
  have A_ue := A_ue.wr W_683
  have Fm := Fm.other W_683 (Or.inl ne_ue_ye)
  have Sm := Sm.keep (Keep.of_wr W_683) (Ow.nin1 ne_ms_ye) (Ow.nin1 ne_d_ye)
  have S_tmp := S_ye
  have S_ye := D.safeWr W_683 S_tmp S_ye
  have D := D.wr W_683 S_tmp
  have F := F.wr W_683 (Or.inr l_ye)
  refine Ow.astore X hx (pc := 684) #[_, _, _, _, _, _, _, _, _, _, _, _, _, _] (hb hby at_684) rfl rfl ?_
  refine Ow.new_ X hx D.hZ hown (ww hw 0 rfl) (ww hw 1 rfl) (ww hw 2 rfl) eT (pc := 686) (hb hby at_686) (by decide) (by decide) ?_
  intro T h_xe xe ha_xe X eT E_xe A_xe D_xe U_xe
  have l_xe : h0.size ≤ xe := by rw [ha_xe]; exact F.size
  have ne_ue_xe : ue ≠ xe := by rw [ha_xe]; exact Nat.ne_of_lt A_ue.lt
  have ne_ms_xe : ms ≠ xe := by rw [ha_xe]; exact Nat.ne_of_lt Sm.lt
  have ne_d_xe : d ≠ xe := by rw [ha_xe]; exact Nat.ne_of_lt Sm.ltB
  have ne_ye_xe : ye ≠ xe := by rw [ha_xe]; exact Nat.ne_of_lt B_ye.lt
  have S_xe := D.safeNew E_xe
  rw [← ha_xe] at S_xe
  have S := S.ext E_xe
  have A_ue := A_ue.ext E_xe
  have Fm := Fm.ext E_xe
  have Sm := Sm.ext E_xe
  have B_ye := B_ye.ext E_xe
  have S_ye := D.safeExt E_xe S_ye
  have F := F.ext E_xe
  have D := D.ext E_xe
  have V_xe := D_xe (Or.inr (ww hw 29 rfl)) (ty := .array .byte) (by decide)
  have C_xe := D_xe (Or.inr (ww hw 27 rfl)) (ty := .byte) (by decide)
  refine Ow.dup X hx (pc := 689) (hb hby at_689) rfl ?_
  refine Ow.aload X hx (pc := 690) (hb hby at_690) rfl rfl ?_
  have H8 : ∀ c ∈ ([99, 97, 110, 110, 111, 116, 32, 112, 114, 105, 99, 101, 32, 111, 114, 100, 101, 114, 115, 32, 119, 105, 116, 104, 32, 100, 105, 115, 99, 111, 117, 110, 116, 32, 115, 99, 104, 101, 109, 97, 32, (Int32.ofNat ka.val), (Int32.ofNat kb.val), 58, 32, (Int32.ofNat kc.val), (Int32.ofNat kd.val)] : List Int32), ∃ k : Fin 256, c = Int32.ofNat k.val := by
    intro c hc
    simp only [List.mem_cons, List.not_mem_nil, or_false] at hc
    rcases hc with rfl | rfl | rfl | rfl | rfl | rfl | rfl | rfl | rfl | rfl | rfl | rfl | rfl | rfl | rfl | rfl | rfl | rfl | rfl | rfl | rfl | rfl | rfl | rfl | rfl | rfl | rfl | rfl | rfl | rfl | rfl | rfl | rfl | rfl | rfl | rfl | rfl | rfl | rfl | rfl | rfl | rfl | rfl | rfl | rfl | rfl | rfl
    · exact ⟨99, rfl⟩
    · exact ⟨97, rfl⟩
    · exact ⟨110, rfl⟩
    · exact ⟨110, rfl⟩
    · exact ⟨111, rfl⟩
    · exact ⟨116, rfl⟩
    · exact ⟨32, rfl⟩
    · exact ⟨112, rfl⟩
    · exact ⟨114, rfl⟩
    · exact ⟨105, rfl⟩
    · exact ⟨99, rfl⟩
    · exact ⟨101, rfl⟩
    · exact ⟨32, rfl⟩
    · exact ⟨111, rfl⟩
    · exact ⟨114, rfl⟩
    · exact ⟨100, rfl⟩
    · exact ⟨101, rfl⟩
    · exact ⟨114, rfl⟩
    · exact ⟨115, rfl⟩
    · exact ⟨32, rfl⟩
    · exact ⟨119, rfl⟩
    · exact ⟨105, rfl⟩
    · exact ⟨116, rfl⟩
    · exact ⟨104, rfl⟩
    · exact ⟨32, rfl⟩
    · exact ⟨100, rfl⟩
    · exact ⟨105, rfl⟩
    · exact ⟨115, rfl⟩
    · exact ⟨99, rfl⟩
    · exact ⟨111, rfl⟩
    · exact ⟨117, rfl⟩
    · exact ⟨110, rfl⟩
    · exact ⟨116, rfl⟩
    · exact ⟨32, rfl⟩
    · exact ⟨115, rfl⟩
    · exact ⟨99, rfl⟩
    · exact ⟨104, rfl⟩
    · exact ⟨101, rfl⟩
    · exact ⟨109, rfl⟩
    · exact ⟨97, rfl⟩
    · exact ⟨32, rfl⟩
    · exact ⟨ka, rfl⟩
    · exact ⟨kb, rfl⟩
    · exact ⟨58, rfl⟩
    · exact ⟨32, rfl⟩
    · exact ⟨kc, rfl⟩
    · exact ⟨kd, rfl⟩
  have P_x := Ow.Exa.plain A_xe
  refine strLat X hx D.hZ hw eT hown (ww hw 4 rfl) (cs := [99, 97, 110, 110, 111, 116, 32, 112, 114, 105, 99, 101, 32, 111, 114, 100, 101, 114, 115, 32, 119, 105, 116, 104, 32, 100, 105, 115, 99, 111, 117, 110, 116, 32, 115, 99, 104, 101, 109, 97, 32, (Int32.ofNat ka.val), (Int32.ofNat kb.val), 58, 32, (Int32.ofNat kc.val), (Int32.ofNat kd.val)]) A_xe V_xe C_xe B_ye S hz 47 rfl (by decide) (by decide) H8 (by rw [hml]; rfl) (pc := 692) (hb hby at_692) rfl rfl (by decide) (by decide) ?_
  intro T L k_xe X F2 St_xe
  have F := F.call F2 (fun y hy => by cases List.mem_singleton.mp hy; exact Or.inr l_xe)
  -- kept
  have D := D.keep F2.1 (fun y hy => by cases List.mem_singleton.mp hy; exact S_xe)
  have S := Ow.staKeep S F2.1 (fun y hy => by cases List.mem_singleton.mp hy; exact P_x)
  have A_ue := A_ue.keep F2.1
  have Fm := Fm.keep F2.1 (Ow.nin1 ne_ue_xe)
  have Sm := Sm.keep F2.1 (Ow.nin1 ne_ms_xe) (Ow.nin1 ne_d_xe)
  obtain ⟨t_xe, e_txe⟩ : ∃ t, Ow.Str Z T.heap xe t k_xe (List.map (fun c => c.toInt8.toInt32) [99, 97, 110, 110, 111, 116, 32, 112, 114, 105, 99, 101, 32, 111, 114, 100, 101, 114, 115, 32, 119, 105, 116, 104, 32, 100, 105, 115, 99, 111, 117, 110, 116, 32, 115, 99, 104, 101, 109, 97, 32, (Int32.ofNat ka.val), (Int32.ofNat kb.val), 58, 32, (Int32.ofNat kc.val), (Int32.ofNat kd.val)]) := ⟨_, St_xe⟩
  have St_xe := e_txe
  obtain ⟨h_692, e_692⟩ : ∃ q, q = T.heap := ⟨_, rfl⟩
  rw [← e_692] at F D S A_ue Fm Sm St_xe
  have eT : T.heap = h_692 := e_692.symm
  refine Ow.aload X hx (pc := 695) (hb hby at_695) rfl rfl ?_
  refine Ow.callU X hx D.hZ (c_gm l Z a0 hw _ ue ms Fm) eT hown (ww hw 224 rfl) (ww hw 225 rfl) (ww hw 226 rfl) (ww hw 228 rfl) (ww hw 227 rfl) (ww hw 185 rfl) (ww hw 229 rfl) (by decide) pd22 (by rw [hml]; rfl) A_ue (argsL := []) rfl rfl rfl (pc := 697) (hb hby at_697) rfl rfl (by decide) (by decide) ?_
  rintro _ T L X ⟨rfl, eT, rfl⟩
  rw [List.append_nil] at X
  dsimp only [Option.toList_some, Option.toList_none, List.cons_append, List.nil_append]
  obtain ⟨qs, eqs⟩ : ∃ q : List Int32, q = (((([] ++ own_l1) ++ (List.map (fun c => c.toInt8.toInt32) [(Int32.ofNat ka.val), (Int32.ofNat kb.val)])) ++ own_l2) ++ (List.map (fun c => c.toInt8.toInt32) [(Int32.ofNat kc.val), (Int32.ofNat kd.val)])) := ⟨_, rfl⟩
  have Sm : Ow.Str Z h_692 ms d kq qs := by rw [eqs]; exact Sm
  have St_xe : Ow.Str Z h_692 xe t_xe k_xe qs := by rw [eqs]; exact St_xe
  have hqs : qs.length < 2147483648 := by rw [eqs]; simp
  refine Ow.callVP X hx D.hZ (c_seq l Z a0 hw _ z xe ms t_xe d k_xe kq qs qs S hz St_xe Sm (Ne.symm ne_ms_xe) hqs hqs) rfl rfl eT hown (ww hw 230 rfl) (ww hw 231 rfl) (ww hw 233 rfl) (ww hw 232 rfl) (ww hw 2 rfl) (ww hw 234 rfl) (by decide) pd25 (by rw [hml]; rfl) St_xe.1 (argsL := [_]) rfl rfl rfl (pc := 700) (hb hby at_700) rfl rfl (by decide) (by decide) ?_   -- java/lang/String.equals:(Ljava/lang/Object;)Z
  intro T X eT
  dsimp only [Option.toList_some, Option.toList_none, List.cons_append, List.nil_append]
  rw [own_eqv_self]
  exact Ow.nreturnW X hx eT D hEL hlk hret (Or.inl rfl) (hb hby at_703) ⟨rfl, by rw [eT]; exact F⟩ (by decide) (by decide)
set_option maxRecDepth 65536 in
set_option maxHeartbeats 40000000 in
theorem law_1 (l : Launch) (Z : State) (a0 : Array Value) (hw : ∀ d ∈ tables_1, d.before a0 Z = true) (hEL : EW Z a0 EL) (hl : l.stackTraces = true) (us sn : Addr) (SU0 : Sta Z Z.heap "java/lang/Throwable" "UNASSIGNED_STACK" "[Ljava/lang/StackTraceElement;" (.ref us)) (SS0 : Sta Z Z.heap "java/lang/Throwable" "SUPPRESSED_SENTINEL" "Ljava/util/List;" (.ref sn)) (h0 : Heap) (z p0 p1 p2 p3 p4 : Int32) (S : Sta Z h0 "java/lang/String" "COMPACT_STRINGS" "Z" (.int z)) (hz : ¬ z = 0) (TS : ThS Z h0) (h36 : ¬ p4 &&& 1 = 0) : Ow.PayK l Z EL x code maxLocals ret room_1 #[(.int p0), (.int p1), (.int p2), (.int p3), (.int p4)] h0 (fun v h L => v = some (.int 1) ∧ Ow.Eff h0 h [] L) := by
  refine Ow.PayK.of (Ls := #[.val (.int p0), .val (.int p1), .val (.int p2), .val (.int p3), .val (.int p4), .unset, .unset, .unset, .unset, .unset, .unset, .unset, .unset, .unset]) (plainFor_of_name pn10) (fun m => by first | rfl | (simp [entryFrame, mkF, argsToLocals, Value.category, maxLocals]; done)) ?_
  intro p e s m below meth c T vm0 hx hby hml hown hnm hme hret hlk X eT D hTK hBl hsh
  obtain ⟨⟨_, Q0, -⟩, -⟩ := id D
  have F := Ow.Eff.refl h0 []
  obtain ⟨ka, hka⟩ := own_mask8 p0
  obtain ⟨kb, hkb⟩ := own_mask8 p1
  obtain ⟨kc, hkc⟩ := own_mask8 p2
  obtain ⟨kd, hkd⟩ := own_mask8 p3
  refine Ow.iloadN X hx (pc := 0) (hb hby at_0) rfl ?_
  refine Ow.sipush X hx (pc := 1) (255) (hb hby at_1) (by decide) ?_
  refine Ow.iand X hx (pc := 4) (hb hby at_4) ?_
  refine Ow.i2c X hx (pc := 5) (hb hby at_5) ?_
  rw [hka, (own_ch8 ka).2.2.2]
  refine Ow.istore X hx (pc := 6) #[_, _, _, _, _, _, _, _, _, _, _, _, _, _] (hb hby at_6) rfl ?_
  refine Ow.iloadN X hx (pc := 8) (hb hby at_8) rfl ?_
  refine Ow.sipush X hx (pc := 9) (255) (hb hby at_9) (by decide) ?_
  refine Ow.iand X hx (pc := 12) (hb hby at_12) ?_
  refine Ow.i2c X hx (pc := 13) (hb hby at_13) ?_
  rw [hkb, (own_ch8 kb).2.2.2]
  refine Ow.istore X hx (pc := 14) #[_, _, _, _, _, _, _, _, _, _, _, _, _, _] (hb hby at_14) rfl ?_
  refine Ow.iloadN X hx (pc := 16) (hb hby at_16) rfl ?_
  refine Ow.sipush X hx (pc := 17) (255) (hb hby at_17) (by decide) ?_
  refine Ow.iand X hx (pc := 20) (hb hby at_20) ?_
  refine Ow.i2c X hx (pc := 21) (hb hby at_21) ?_
  rw [hkc, (own_ch8 kc).2.2.2]
  refine Ow.istore X hx (pc := 22) #[_, _, _, _, _, _, _, _, _, _, _, _, _, _] (hb hby at_22) rfl ?_
  refine Ow.iloadN X hx (pc := 24) (hb hby at_24) rfl ?_
  refine Ow.sipush X hx (pc := 25) (255) (hb hby at_25) (by decide) ?_
  refine Ow.iand X hx (pc := 28) (hb hby at_28) ?_
  refine Ow.i2c X hx (pc := 29) (hb hby at_29) ?_
  rw [hkd, (own_ch8 kd).2.2.2]
  refine Ow.istore X hx (pc := 30) #[_, _, _, _, _, _, _, _, _, _, _, _, _, _] (hb hby at_30) rfl ?_
  refine Ow.iload X hx (pc := 32) (hb hby at_32) rfl ?_
  refine Ow.iconst X hx (pc := 34) (1) (hb hby at_34) (by decide) ?_
  refine Ow.iand X hx (pc := 35) (hb hby at_35) ?_
  refine Ow.if_eq X hx (pc := 36) (pc' := 43) (hb hby at_36) (by decide) (by decide) (fun q => absurd q h36) (fun h36 => ?_)
  refine Ow.iconst X hx (pc := 39) (1) (hb hby at_39) (by decide) ?_
  refine Ow.goto X hx (pc := 40) (pc' := 44) (hb hby at_40) (by decide) (by decide) ?_
  refine Ow.istore X hx (pc := 44) #[_, _, _, _, _, _, _, _, _, _, _, _, _, _] (hb hby at_44) rfl ?_
  refine Ow.new_ X hx D.hZ hown (ww hw 0 rfl) (ww hw 1 rfl) (ww hw 2 rfl) eT (pc := 46) (hb hby at_46) (by decide) (by decide) ?_
  intro T h_x1 x1 ha_x1 X eT E_x1 A_x1 D_x1 U_x1
  have l_x1 : h0.size ≤ x1 := by rw [ha_x1]; exact F.size
  have S_x1 := D.safeNew E_x1
  rw [← ha_x1] at S_x1
  have S := S.ext E_x1
  have TS := TS.ext E_x1
  have F := F.ext E_x1
  have D := D.ext E_x1
  have V_x1 := D_x1 (Or.inr (ww hw 29 rfl)) (ty := .array .byte) (by decide)
  have C_x1 := D_x1 (Or.inr (ww hw 27 rfl)) (ty := .byte) (by decide)
  refine Ow.dup X hx (pc := 49) (hb hby at_49) rfl ?_
  refine Ow.iconst X hx (pc := 50) (2) (hb hby at_50) (by decide) ?_
  refine Ow.newarrayL X hx D.hZ (ww hw 3 rfl) eT 2 (vs := [_, _]) rfl (pc := 51) (hb hby at_51) (by decide) (by decide) (by decide) (by decide) (by decide) ?_
  intro T h_y1 k_y1 y1 ha_y1 X eT E_y1 B_y1
  have l_y1 : h0.size ≤ y1 := by rw [ha_y1]; exact F.size
  have ne_x1_y1 : x1 ≠ y1 := by rw [ha_y1]; exact Nat.ne_of_lt A_x1.lt
  have S_y1 := D.safeNew E_y1
  rw [← ha_y1] at S_y1
  have S := S.ext E_y1
  have TS := TS.ext E_y1
  have A_x1 := A_x1.ext E_y1
  have V_x1 := V_x1.ext E_y1
  have C_x1 := C_x1.ext E_y1
  have S_x1 := D.safeExt E_y1 S_x1
  have F := F.ext E_y1
  have D := D.ext E_y1
  refine Ow.dup X hx (pc := 53) (hb hby at_53) rfl ?_
  refine Ow.iconst X hx (pc := 54) (0) (hb hby at_54) (by decide) ?_
  refine Ow.iload X hx (pc := 55) (hb hby at_55) rfl ?_
  refine Ow.castoreL X hx D.hZ eT B_y1 0 [_, _] (by decide) (by decide) rfl rfl (pc := 57) (hb hby at_57) ?_
  intro T h_57 X eT W_57 B_y1
  rw [(own_ch8 ka).2.2.1] at B_y1 W_57
  have S := S.wr W_57
  have TS := TS.wr W_57
  have A_x1 := A_x1.wr W_57
  have V_x1 := V_x1.other W_57 (Or.inl ne_x1_y1)
  have C_x1 := C_x1.other W_57 (Or.inl ne_x1_y1)
  have S_tmp := S_y1
  have S_x1 := D.safeWr W_57 S_tmp S_x1
  have S_y1 := D.safeWr W_57 S_tmp S_y1
  have D := D.wr W_57 S_tmp
  have F := F.wr W_57 (Or.inr l_y1)
  refine Ow.dup X hx (pc := 58) (hb hby at_58) rfl ?_
  refine Ow.iconst X hx (pc := 59) (1) (hb hby at_59) (by decide) ?_
  refine Ow.iload X hx (pc := 60) (hb hby at_60) rfl ?_
  refine Ow.castoreL X hx D.hZ eT B_y1 1 [_, _] (by decide) (by decide) rfl rfl (pc := 62) (hb hby at_62) ?_
  intro T h_62 X eT W_62 B_y1
  rw [(own_ch8 kb).2.2.1] at B_y1 W_62
  have S := S.wr W_62
  have TS := TS.wr W_62
  have A_x1 := A_x1.wr W_62
  have V_x1 := V_x1.other W_62 (Or.inl ne_x1_y1)
  have C_x1 := C_x1.other W_62 (Or.inl ne_x1_y1)
  have S_tmp := S_y1
  have S_x1 := D.safeWr W_62 S_tmp S_x1
  have S_y1 := D.safeWr W_62 S_tmp S_y1
  have D := D.wr W_62 S_tmp
  have F := F.wr W_62 (Or.inr l_y1)
  have H8 : ∀ c ∈ ([(Int32.ofNat ka.val), (Int32.ofNat kb.val)] : List Int32), ∃ k : Fin 256, c = Int32.ofNat k.val := by
    intro c hc
    simp only [List.mem_cons, List.not_mem_nil, or_false] at hc
    rcases hc with rfl | rfl
    · exact ⟨ka, rfl⟩
    · exact ⟨kb, rfl⟩
  have P_x := Ow.Exa.plain A_x1
  refine strLat X hx D.hZ hw eT hown (ww hw 4 rfl) (cs := [(Int32.ofNat ka.val), (Int32.ofNat kb.val)]) A_x1 V_x1 C_x1 B_y1 S hz 2 rfl (by decide) (by decide) H8 (by rw [hml]; rfl) (pc := 63) (hb hby at_63) rfl rfl (by decide) (by decide) ?_
  intro T L k_x1 X F2 St_x1
  have F := F.call F2 (fun y hy => by cases List.mem_singleton.mp hy; exact Or.inr l_x1)
  -- kept
  have D := D.keep F2.1 (fun y hy => by cases List.mem_singleton.mp hy; exact S_x1)
  have S := Ow.staKeep S F2.1 (fun y hy => by cases List.mem_singleton.mp hy; exact P_x)
  have TS := TS.keep F2.1 (fun y hy => Ow.nostat_of (by cases List.mem_singleton.mp hy; exact P_x))
  obtain ⟨t_x1, e_tx1⟩ : ∃ t, Ow.Str Z T.heap x1 t k_x1 (List.map (fun c => c.toInt8.toInt32) [(Int32.ofNat ka.val), (Int32.ofNat kb.val)]) := ⟨_, St_x1⟩
  have St_x1 := e_tx1
  obtain ⟨h_63, e_63⟩ : ∃ q, q = T.heap := ⟨_, rfl⟩
  rw [← e_63] at F D S TS St_x1
  have eT : T.heap = h_63 := e_63.symm
  refine Ow.astore X hx (pc := 66) #[_, _, _, _, _, _, _, _, _, _, _, _, _, _] (hb hby at_66) rfl rfl ?_
  refine Ow.iload X hx (pc := 68) (hb hby at_68) rfl ?_
  refine Ow.if_eq X hx (pc := 70) (pc' := 88) (hb hby at_70) (by decide) (by decide) (fun q => absurd q (by decide)) (fun h70 => ?_)
  refine Ow.new_ X hx D.hZ hown (ww hw 0 rfl) (ww hw 1 rfl) (ww hw 2 rfl) eT (pc := 73) (hb hby at_73) (by decide) (by decide) ?_
  intro T h_x2 x2 ha_x2 X eT E_x2 A_x2 D_x2 U_x2
  have l_x2 : h0.size ≤ x2 := by rw [ha_x2]; exact F.size
  have ne_x1_x2 : x1 ≠ x2 := by rw [ha_x2]; exact Nat.ne_of_lt St_x1.lt
  have ne_t_x1_x2 : t_x1 ≠ x2 := by rw [ha_x2]; exact Nat.ne_of_lt St_x1.ltB
  have S_x2 := D.safeNew E_x2
  rw [← ha_x2] at S_x2
  have S := S.ext E_x2
  have TS := TS.ext E_x2
  have St_x1 := St_x1.ext E_x2
  have F := F.ext E_x2
  have D := D.ext E_x2
  have V_x2 := D_x2 (Or.inr (ww hw 29 rfl)) (ty := .array .byte) (by decide)
  have C_x2 := D_x2 (Or.inr (ww hw 27 rfl)) (ty := .byte) (by decide)
  refine Ow.dup X hx (pc := 76) (hb hby at_76) rfl ?_
  refine Ow.iconst X hx (pc := 77) (0) (hb hby at_77) (by decide) ?_
  refine Ow.newarrayL X hx D.hZ (ww hw 3 rfl) eT 0 (vs := []) rfl (pc := 78) (hb hby at_78) (by decide) (by decide) (by decide) (by decide) (by decide) ?_
  intro T h_y2 k_y2 y2 ha_y2 X eT E_y2 B_y2
  have l_y2 : h0.size ≤ y2 := by rw [ha_y2]; exact F.size
  have ne_x1_y2 : x1 ≠ y2 := by rw [ha_y2]; exact Nat.ne_of_lt St_x1.lt
  have ne_t_x1_y2 : t_x1 ≠ y2 := by rw [ha_y2]; exact Nat.ne_of_lt St_x1.ltB
  have ne_x2_y2 : x2 ≠ y2 := by rw [ha_y2]; exact Nat.ne_of_lt A_x2.lt
  have S_y2 := D.safeNew E_y2
  rw [← ha_y2] at S_y2
  have S := S.ext E_y2
  have TS := TS.ext E_y2
  have St_x1 := St_x1.ext E_y2
  have A_x2 := A_x2.ext E_y2
  have V_x2 := V_x2.ext E_y2
  have C_x2 := C_x2.ext E_y2
  have S_x2 := D.safeExt E_y2 S_x2
  have F := F.ext E_y2
  have D := D.ext E_y2
  have P_x := Ow.Exa.plain A_x2
  refine Ow.callIW X hx (c_new1e l Z a0 hw hEL _ _ _ _ _ A_x2 V_x2 C_x2 _ B_y2) eT D hEL (fun y hy => by cases List.mem_singleton.mp hy; exact ⟨A_x2.lt, S_x2⟩) rfl hown (ww hw 4 rfl) (ww hw 5 rfl) (ww hw 2 rfl) (ww hw 6 rfl) (by decide) pd2 (by rw [hml]; rfl) (argsL := [_]) rfl rfl rfl (pc := 80) (hb hby at_80) rfl rfl (by decide) (by decide) ?_
  rintro _ vm1 T L X ⟨rfl, F2, t_x2, k_x2, St_x2⟩ D hown C1
  dsimp only [Option.toList_some, Option.toList_none, List.cons_append, List.nil_append]
  have F := F.call F2 (fun y hy => by cases List.mem_singleton.mp hy; exact Or.inr l_x2)
  have S := Ow.staKeep S F2.1 (fun y hy => by cases List.mem_singleton.mp hy; exact P_x)
  have TS := TS.keep F2.1 (fun y hy => Ow.nostat_of (by cases List.mem_singleton.mp hy; exact P_x))
  have St_x1 := St_x1.keep F2.1 (Ow.nin1 ne_x1_x2) (Ow.nin1 ne_t_x1_x2)
  obtain ⟨h_80, e_80⟩ : ∃ q, q = T.heap := ⟨_, rfl⟩
  rw [← e_80] at F D S TS St_x1 St_x2
  have eT : T.heap = h_80 := e_80.symm
  refine Ow.astore X hx (pc := 83) #[_, _, _, _, _, _, _, _, _, _, _, _, _, _] (hb hby at_83) rfl rfl ?_
  refine Ow.goto X hx (pc := 85) (pc' := 110) (hb hby at_85) (by decide) (by decide) ?_
  refine Ow.aload X hx (pc := 110) (hb hby at_110) rfl rfl ?_
  refine Ow.aload X hx (pc := 112) (hb hby at_112) rfl rfl ?_
  obtain ⟨⟨_, Q1, -⟩, -⟩ := id D
  have hal := Q0.1.alike.symm.trans Q1.1.alike
  refine Ow.callSK X hx (c_of l Z a0 hw hEL hl us sn SU0 SS0 _ z S hz TS x1 t_x1 x2 t_x2 _ _ _ [] St_x1 St_x2 (own_fitM _) (fun _ q => nomatch q) rfl (by simp)) eT D hEL (Vm.MethodsKnown.alikeC hal hTK) (Vm.FramesKnown.alikeC hal hBl) hown (ww hw 30 rfl) (ww hw 31 rfl) (ww hw 32 rfl) (ww hw 33 rfl) (by decide) pd24 (by rw [hml]; rfl) (argsL := [_, _]) rfl rfl rfl (pc := 114) (hb hby at_114) rfl rfl (by decide) (by decide) ?_
  rintro _ vm2 T L X ⟨ue, ms, d, kq, rfl, F2, A_ue, Fm, Sm⟩ D hown C2
  dsimp only [Option.toList_some, Option.toList_none, List.cons_append, List.nil_append]
  have F := F.call F2 (fun _ q => nomatch q)
  have S := S.ext (Ow.Keep.ext0 F2.1)
  obtain ⟨h_114, e_114⟩ : ∃ q, q = T.heap := ⟨_, rfl⟩
  rw [← e_114] at F D S A_ue Fm Sm
  have eT : T.heap = h_114 := e_114.symm
  refine Ow.astore X hx (pc := 117) #[_, _, _, _, _, _, _, _, _, _, _, _, _, _] (hb hby at_117) rfl rfl ?_
  refine Ow.aload X hx (pc := 119) (hb hby at_119) rfl rfl ?_
  refine Ow.ifnonnull_r X hx (pc := 121) (pc' := 126) (hb hby at_121) (by decide) (by decide) ?_
  refine Ow.iload X hx (pc := 126) (hb hby at_126) rfl ?_
  refine Ow.if_eq X hx (pc := 128) (pc' := 404) (hb hby at_128) (by decide) (by decide) (fun q => absurd q (by decide)) (fun h128 => ?_)
  refine Ow.bipush X hx (pc := 131) (45) (hb hby at_131) (by decide) ?_
  refine Ow.newarrayL X hx D.hZ (ww hw 3 rfl) eT 45 (vs := [_, _, _, _, _, _, _, _, _, _, _, _, _, _, _, _, _, _, _, _, _, _, _, _, _, _, _, _, _, _, _, _, _, _, _, _, _, _, _, _, _, _, _, _, _]) rfl (pc := 133) (hb hby at_133) (by decide) (by decide) (by decide) (by decide) (by decide) ?_
  intro T h_ye k_ye ye ha_ye X eT E_ye B_ye
  have l_ye : h0.size ≤ ye := by rw [ha_ye]; exact F.size
  have ne_ue_ye : ue ≠ ye := by rw [ha_ye]; exact Nat.ne_of_lt A_ue.lt
  have ne_ms_ye : ms ≠ ye := by rw [ha_ye]; exact Nat.ne_of_lt Sm.lt
  have ne_d_ye : d ≠ ye := by rw [ha_ye]; exact Nat.ne_of_lt Sm.ltB
  have S_ye := D.safeNew E_ye
  rw [← ha_ye] at S_ye
  have S := S.ext E_ye
  have A_ue := A_ue.ext E_ye
  have Fm := Fm.ext E_ye
  have Sm := Sm.ext E_ye
  have F := F.ext E_ye
  have D := D.ext E_ye
  refine Ow.dup X hx (pc := 135) (hb hby at_135) rfl ?_
  refine Ow.iconst X hx (pc := 136) (0) (hb hby at_136) (by decide) ?_
  refine Ow.bipush X hx (pc := 137) (99) (hb hby at_137) (by decide) ?_
  refine Ow.castoreL X hx D.hZ eT B_ye 0 [_, _, _, _, _, _, _, _, _, _, _, _, _, _, _, _, _, _, _, _, _, _, _, _, _, _, _, _, _, _, _, _, _, _, _, _, _, _, _, _, _, _, _, _, _] (by decide) (by decide) rfl rfl (pc := 139) (hb hby at_139) ?_
  intro T h_139 X eT W_139 B_ye
  rw [show nar .char (99 : Int32) = 99 from by decide] at B_ye W_139
  have S := S.wr W_139
  have A_ue := A_ue.wr W_139
  have Fm := Fm.other W_139 (Or.inl ne_ue_ye)
  have Sm := Sm.keep (Keep.of_wr W_139) (Ow.nin1 ne_ms_ye) (Ow.nin1 ne_d_ye)
  have S_tmp := S_ye
  have S_ye := D.safeWr W_139 S_tmp S_ye
  have D := D.wr W_139 S_tmp
  have F := F.wr W_139 (Or.inr l_ye)
  refine Ow.dup X hx (pc := 140) (hb hby at_140) rfl ?_
  refine Ow.iconst X hx (pc := 141) (1) (hb hby at_141) (by decide) ?_
  refine Ow.bipush X hx (pc := 142) (97) (hb hby at_142) (by decide) ?_
  refine Ow.castoreL X hx D.hZ eT B_ye 1 [_, _, _, _, _, _, _, _, _, _, _, _, _, _, _, _, _, _, _, _, _, _, _, _, _, _, _, _, _, _, _, _, _, _, _, _, _, _, _, _, _, _, _, _, _] (by decide) (by decide) rfl rfl (pc := 144) (hb hby at_144) ?_
  intro T h_144 X eT W_144 B_ye
  rw [show nar .char (97 : Int32) = 97 from by decide] at B_ye W_144
  have S := S.wr W_144
  have A_ue := A_ue.wr W_144
  have Fm := Fm.other W_144 (Or.inl ne_ue_ye)
  have Sm := Sm.keep (Keep.of_wr W_144) (Ow.nin1 ne_ms_ye) (Ow.nin1 ne_d_ye)
  have S_tmp := S_ye
  have S_ye := D.safeWr W_144 S_tmp S_ye
  have D := D.wr W_144 S_tmp
  have F := F.wr W_144 (Or.inr l_ye)
  refine Ow.dup X hx (pc := 145) (hb hby at_145) rfl ?_
  refine Ow.iconst X hx (pc := 146) (2) (hb hby at_146) (by decide) ?_
  refine Ow.bipush X hx (pc := 147) (110) (hb hby at_147) (by decide) ?_
  refine Ow.castoreL X hx D.hZ eT B_ye 2 [_, _, _, _, _, _, _, _, _, _, _, _, _, _, _, _, _, _, _, _, _, _, _, _, _, _, _, _, _, _, _, _, _, _, _, _, _, _, _, _, _, _, _, _, _] (by decide) (by decide) rfl rfl (pc := 149) (hb hby at_149) ?_
  intro T h_149 X eT W_149 B_ye
  rw [show nar .char (110 : Int32) = 110 from by decide] at B_ye W_149
  have S := S.wr W_149
  have A_ue := A_ue.wr W_149
  have Fm := Fm.other W_149 (Or.inl ne_ue_ye)
  have Sm := Sm.keep (Keep.of_wr W_149) (Ow.nin1 ne_ms_ye) (Ow.nin1 ne_d_ye)
  have S_tmp := S_ye
  have S_ye := D.safeWr W_149 S_tmp S_ye
  have D := D.wr W_149 S_tmp
  have F := F.wr W_149 (Or.inr l_ye)
  refine Ow.dup X hx (pc := 150) (hb hby at_150) rfl ?_
  refine Ow.iconst X hx (pc := 151) (3) (hb hby at_151) (by decide) ?_
  refine Ow.bipush X hx (pc := 152) (110) (hb hby at_152) (by decide) ?_
  refine Ow.castoreL X hx D.hZ eT B_ye 3 [_, _, _, _, _, _, _, _, _, _, _, _, _, _, _, _, _, _, _, _, _, _, _, _, _, _, _, _, _, _, _, _, _, _, _, _, _, _, _, _, _, _, _, _, _] (by decide) (by decide) rfl rfl (pc := 154) (hb hby at_154) ?_
  intro T h_154 X eT W_154 B_ye
  rw [show nar .char (110 : Int32) = 110 from by decide] at B_ye W_154
  have S := S.wr W_154
  have A_ue := A_ue.wr W_154
  have Fm := Fm.other W_154 (Or.inl ne_ue_ye)
  have Sm := Sm.keep (Keep.of_wr W_154) (Ow.nin1 ne_ms_ye) (Ow.nin1 ne_d_ye)
  have S_tmp := S_ye
  have S_ye := D.safeWr W_154 S_tmp S_ye
  have D := D.wr W_154 S_tmp
  have F := F.wr W_154 (Or.inr l_ye)
  refine Ow.dup X hx (pc := 155) (hb hby at_155) rfl ?_
  refine Ow.iconst X hx (pc := 156) (4) (hb hby at_156) (by decide) ?_
  refine Ow.bipush X hx (pc := 157) (111) (hb hby at_157) (by decide) ?_
  refine Ow.castoreL X hx D.hZ eT B_ye 4 [_, _, _, _, _, _, _, _, _, _, _, _, _, _, _, _, _, _, _, _, _, _, _, _, _, _, _, _, _, _, _, _, _, _, _, _, _, _, _, _, _, _, _, _, _] (by decide) (by decide) rfl rfl (pc := 159) (hb hby at_159) ?_
  intro T h_159 X eT W_159 B_ye
  rw [show nar .char (111 : Int32) = 111 from by decide] at B_ye W_159
  have S := S.wr W_159
  have A_ue := A_ue.wr W_159
  have Fm := Fm.other W_159 (Or.inl ne_ue_ye)
  have Sm := Sm.keep (Keep.of_wr W_159) (Ow.nin1 ne_ms_ye) (Ow.nin1 ne_d_ye)
  have S_tmp := S_ye
  have S_ye := D.safeWr W_159 S_tmp S_ye
  have D := D.wr W_159 S_tmp
  have F := F.wr W_159 (Or.inr l_ye)
  refine Ow.dup X hx (pc := 160) (hb hby at_160) rfl ?_
  refine Ow.iconst X hx (pc := 161) (5) (hb hby at_161) (by decide) ?_
  refine Ow.bipush X hx (pc := 162) (116) (hb hby at_162) (by decide) ?_
  refine Ow.castoreL X hx D.hZ eT B_ye 5 [_, _, _, _, _, _, _, _, _, _, _, _, _, _, _, _, _, _, _, _, _, _, _, _, _, _, _, _, _, _, _, _, _, _, _, _, _, _, _, _, _, _, _, _, _] (by decide) (by decide) rfl rfl (pc := 164) (hb hby at_164) ?_
  intro T h_164 X eT W_164 B_ye
  rw [show nar .char (116 : Int32) = 116 from by decide] at B_ye W_164
  have S := S.wr W_164
  have A_ue := A_ue.wr W_164
  have Fm := Fm.other W_164 (Or.inl ne_ue_ye)
  have Sm := Sm.keep (Keep.of_wr W_164) (Ow.nin1 ne_ms_ye) (Ow.nin1 ne_d_ye)
  have S_tmp := S_ye
  have S_ye := D.safeWr W_164 S_tmp S_ye
  have D := D.wr W_164 S_tmp
  have F := F.wr W_164 (Or.inr l_ye)
  refine Ow.dup X hx (pc := 165) (hb hby at_165) rfl ?_
  refine Ow.bipush X hx (pc := 166) (6) (hb hby at_166) (by decide) ?_
  refine Ow.bipush X hx (pc := 168) (32) (hb hby at_168) (by decide) ?_
  refine Ow.castoreL X hx D.hZ eT B_ye 6 [_, _, _, _, _, _, _, _, _, _, _, _, _, _, _, _, _, _, _, _, _, _, _, _, _, _, _, _, _, _, _, _, _, _, _, _, _, _, _, _, _, _, _, _, _] (by decide) (by decide) rfl rfl (pc := 170) (hb hby at_170) ?_
  intro T h_170 X eT W_170 B_ye
  rw [show nar .char (32 : Int32) = 32 from by decide] at B_ye W_170
  have S := S.wr W_170
  have A_ue := A_ue.wr W_170
  have Fm := Fm.other W_170 (Or.inl ne_ue_ye)
  have Sm := Sm.keep (Keep.of_wr W_170) (Ow.nin1 ne_ms_ye) (Ow.nin1 ne_d_ye)
  have S_tmp := S_ye
  have S_ye := D.safeWr W_170 S_tmp S_ye
  have D := D.wr W_170 S_tmp
  have F := F.wr W_170 (Or.inr l_ye)
  refine Ow.dup X hx (pc := 171) (hb hby at_171) rfl ?_
  refine Ow.bipush X hx (pc := 172) (7) (hb hby at_172) (by decide) ?_
  refine Ow.bipush X hx (pc := 174) (112) (hb hby at_174) (by decide) ?_
  refine Ow.castoreL X hx D.hZ eT B_ye 7 [_, _, _, _, _, _, _, _, _, _, _, _, _, _, _, _, _, _, _, _, _, _, _, _, _, _, _, _, _, _, _, _, _, _, _, _, _, _, _, _, _, _, _, _, _] (by decide) (by decide) rfl rfl (pc := 176) (hb hby at_176) ?_
  intro T h_176 X eT W_176 B_ye
  rw [show nar .char (112 : Int32) = 112 from by decide] at B_ye W_176
  have S := S.wr W_176
  have A_ue := A_ue.wr W_176
  have Fm := Fm.other W_176 (Or.inl ne_ue_ye)
  have Sm := Sm.keep (Keep.of_wr W_176) (Ow.nin1 ne_ms_ye) (Ow.nin1 ne_d_ye)
  have S_tmp := S_ye
  have S_ye := D.safeWr W_176 S_tmp S_ye
  have D := D.wr W_176 S_tmp
  have F := F.wr W_176 (Or.inr l_ye)
  refine Ow.dup X hx (pc := 177) (hb hby at_177) rfl ?_
  refine Ow.bipush X hx (pc := 178) (8) (hb hby at_178) (by decide) ?_
  refine Ow.bipush X hx (pc := 180) (114) (hb hby at_180) (by decide) ?_
  refine Ow.castoreL X hx D.hZ eT B_ye 8 [_, _, _, _, _, _, _, _, _, _, _, _, _, _, _, _, _, _, _, _, _, _, _, _, _, _, _, _, _, _, _, _, _, _, _, _, _, _, _, _, _, _, _, _, _] (by decide) (by decide) rfl rfl (pc := 182) (hb hby at_182) ?_
  intro T h_182 X eT W_182 B_ye
  rw [show nar .char (114 : Int32) = 114 from by decide] at B_ye W_182
  have S := S.wr W_182
  have A_ue := A_ue.wr W_182
  have Fm := Fm.other W_182 (Or.inl ne_ue_ye)
  have Sm := Sm.keep (Keep.of_wr W_182) (Ow.nin1 ne_ms_ye) (Ow.nin1 ne_d_ye)
  have S_tmp := S_ye
  have S_ye := D.safeWr W_182 S_tmp S_ye
  have D := D.wr W_182 S_tmp
  have F := F.wr W_182 (Or.inr l_ye)
  refine Ow.dup X hx (pc := 183) (hb hby at_183) rfl ?_
  refine Ow.bipush X hx (pc := 184) (9) (hb hby at_184) (by decide) ?_
  refine Ow.bipush X hx (pc := 186) (105) (hb hby at_186) (by decide) ?_
  refine Ow.castoreL X hx D.hZ eT B_ye 9 [_, _, _, _, _, _, _, _, _, _, _, _, _, _, _, _, _, _, _, _, _, _, _, _, _, _, _, _, _, _, _, _, _, _, _, _, _, _, _, _, _, _, _, _, _] (by decide) (by decide) rfl rfl (pc := 188) (hb hby at_188) ?_
  intro T h_188 X eT W_188 B_ye
  rw [show nar .char (105 : Int32) = 105 from by decide] at B_ye W_188
  have S := S.wr W_188
  have A_ue := A_ue.wr W_188
  have Fm := Fm.other W_188 (Or.inl ne_ue_ye)
  have Sm := Sm.keep (Keep.of_wr W_188) (Ow.nin1 ne_ms_ye) (Ow.nin1 ne_d_ye)
  have S_tmp := S_ye
  have S_ye := D.safeWr W_188 S_tmp S_ye
  have D := D.wr W_188 S_tmp
  have F := F.wr W_188 (Or.inr l_ye)
  refine Ow.dup X hx (pc := 189) (hb hby at_189) rfl ?_
  refine Ow.bipush X hx (pc := 190) (10) (hb hby at_190) (by decide) ?_
  refine Ow.bipush X hx (pc := 192) (99) (hb hby at_192) (by decide) ?_
  refine Ow.castoreL X hx D.hZ eT B_ye 10 [_, _, _, _, _, _, _, _, _, _, _, _, _, _, _, _, _, _, _, _, _, _, _, _, _, _, _, _, _, _, _, _, _, _, _, _, _, _, _, _, _, _, _, _, _] (by decide) (by decide) rfl rfl (pc := 194) (hb hby at_194) ?_
  intro T h_194 X eT W_194 B_ye
  rw [show nar .char (99 : Int32) = 99 from by decide] at B_ye W_194
  have S := S.wr W_194
  have A_ue := A_ue.wr W_194
  have Fm := Fm.other W_194 (Or.inl ne_ue_ye)
  have Sm := Sm.keep (Keep.of_wr W_194) (Ow.nin1 ne_ms_ye) (Ow.nin1 ne_d_ye)
  have S_tmp := S_ye
  have S_ye := D.safeWr W_194 S_tmp S_ye
  have D := D.wr W_194 S_tmp
  have F := F.wr W_194 (Or.inr l_ye)
  refine Ow.dup X hx (pc := 195) (hb hby at_195) rfl ?_
  refine Ow.bipush X hx (pc := 196) (11) (hb hby at_196) (by decide) ?_
  refine Ow.bipush X hx (pc := 198) (101) (hb hby at_198) (by decide) ?_
  refine Ow.castoreL X hx D.hZ eT B_ye 11 [_, _, _, _, _, _, _, _, _, _, _, _, _, _, _, _, _, _, _, _, _, _, _, _, _, _, _, _, _, _, _, _, _, _, _, _, _, _, _, _, _, _, _, _, _] (by decide) (by decide) rfl rfl (pc := 200) (hb hby at_200) ?_
  intro T h_200 X eT W_200 B_ye
  rw [show nar .char (101 : Int32) = 101 from by decide] at B_ye W_200
  have S := S.wr W_200
  have A_ue := A_ue.wr W_200
  have Fm := Fm.other W_200 (Or.inl ne_ue_ye)
  have Sm := Sm.keep (Keep.of_wr W_200) (Ow.nin1 ne_ms_ye) (Ow.nin1 ne_d_ye)
  have S_tmp := S_ye
  have S_ye := D.safeWr W_200 S_tmp S_ye
  have D := D.wr W_200 S_tmp
  have F := F.wr W_200 (Or.inr l_ye)
  refine Ow.dup X hx (pc := 201) (hb hby at_201) rfl ?_
  refine Ow.bipush X hx (pc := 202) (12) (hb hby at_202) (by decide) ?_
  refine Ow.bipush X hx (pc := 204) (32) (hb hby at_204) (by decide) ?_
  refine Ow.castoreL X hx D.hZ eT B_ye 12 [_, _, _, _, _, _, _, _, _, _, _, _, _, _, _, _, _, _, _, _, _, _, _, _, _, _, _, _, _, _, _, _, _, _, _, _, _, _, _, _, _, _, _, _, _] (by decide) (by decide) rfl rfl (pc := 206) (hb hby at_206) ?_
  intro T h_206 X eT W_206 B_ye
  rw [show nar .char (32 : Int32) = 32 from by decide] at B_ye W_206
  have S := S.wr W_206
  have A_ue := A_ue.wr W_206
  have Fm := Fm.other W_206 (Or.inl ne_ue_ye)
  have Sm := Sm.keep (Keep.of_wr W_206) (Ow.nin1 ne_ms_ye) (Ow.nin1 ne_d_ye)
  have S_tmp := S_ye
  have S_ye := D.safeWr W_206 S_tmp S_ye
  have D := D.wr W_206 S_tmp
  have F := F.wr W_206 (Or.inr l_ye)
  refine Ow.dup X hx (pc := 207) (hb hby at_207) rfl ?_
  refine Ow.bipush X hx (pc := 208) (13) (hb hby at_208) (by decide) ?_
  refine Ow.bipush X hx (pc := 210) (111) (hb hby at_210) (by decide) ?_
  refine Ow.castoreL X hx D.hZ eT B_ye 13 [_, _, _, _, _, _, _, _, _, _, _, _, _, _, _, _, _, _, _, _, _, _, _, _, _, _, _, _, _, _, _, _, _, _, _, _, _, _, _, _, _, _, _, _, _] (by decide) (by decide) rfl rfl (pc := 212) (hb hby at_212) ?_
  intro T h_212 X eT W_212 B_ye
  rw [show nar .char (111 : Int32) = 111 from by decide] at B_ye W_212
  have S := S.wr W_212
  have A_ue := A_ue.wr W_212
  have Fm := Fm.other W_212 (Or.inl ne_ue_ye)
  have Sm := Sm.keep (Keep.of_wr W_212) (Ow.nin1 ne_ms_ye) (Ow.nin1 ne_d_ye)
  have S_tmp := S_ye
  have S_ye := D.safeWr W_212 S_tmp S_ye
  have D := D.wr W_212 S_tmp
  have F := F.wr W_212 (Or.inr l_ye)
  refine Ow.dup X hx (pc := 213) (hb hby at_213) rfl ?_
  refine Ow.bipush X hx (pc := 214) (14) (hb hby at_214) (by decide) ?_
  refine Ow.bipush X hx (pc := 216) (114) (hb hby at_216) (by decide) ?_
  refine Ow.castoreL X hx D.hZ eT B_ye 14 [_, _, _, _, _, _, _, _, _, _, _, _, _, _, _, _, _, _, _, _, _, _, _, _, _, _, _, _, _, _, _, _, _, _, _, _, _, _, _, _, _, _, _, _, _] (by decide) (by decide) rfl rfl (pc := 218) (hb hby at_218) ?_
  intro T h_218 X eT W_218 B_ye
  rw [show nar .char (114 : Int32) = 114 from by decide] at B_ye W_218
  have S := S.wr W_218
  have A_ue := A_ue.wr W_218
  have Fm := Fm.other W_218 (Or.inl ne_ue_ye)
  have Sm := Sm.keep (Keep.of_wr W_218) (Ow.nin1 ne_ms_ye) (Ow.nin1 ne_d_ye)
  have S_tmp := S_ye
  have S_ye := D.safeWr W_218 S_tmp S_ye
  have D := D.wr W_218 S_tmp
  have F := F.wr W_218 (Or.inr l_ye)
  refine Ow.dup X hx (pc := 219) (hb hby at_219) rfl ?_
  refine Ow.bipush X hx (pc := 220) (15) (hb hby at_220) (by decide) ?_
  refine Ow.bipush X hx (pc := 222) (100) (hb hby at_222) (by decide) ?_
  refine Ow.castoreL X hx D.hZ eT B_ye 15 [_, _, _, _, _, _, _, _, _, _, _, _, _, _, _, _, _, _, _, _, _, _, _, _, _, _, _, _, _, _, _, _, _, _, _, _, _, _, _, _, _, _, _, _, _] (by decide) (by decide) rfl rfl (pc := 224) (hb hby at_224) ?_
  intro T h_224 X eT W_224 B_ye
  rw [show nar .char (100 : Int32) = 100 from by decide] at B_ye W_224
  have S := S.wr W_224
  have A_ue := A_ue.wr W_224
  have Fm := Fm.other W_224 (Or.inl ne_ue_ye)
  have Sm := Sm.keep (Keep.of_wr W_224) (Ow.nin1 ne_ms_ye) (Ow.nin1 ne_d_ye)
  have S_tmp := S_ye
  have S_ye := D.safeWr W_224 S_tmp S_ye
  have D := D.wr W_224 S_tmp
  have F := F.wr W_224 (Or.inr l_ye)
  refine Ow.dup X hx (pc := 225) (hb hby at_225) rfl ?_
  refine Ow.bipush X hx (pc := 226) (16) (hb hby at_226) (by decide) ?_
  refine Ow.bipush X hx (pc := 228) (101) (hb hby at_228) (by decide) ?_
  refine Ow.castoreL X hx D.hZ eT B_ye 16 [_, _, _, _, _, _, _, _, _, _, _, _, _, _, _, _, _, _, _, _, _, _, _, _, _, _, _, _, _, _, _, _, _, _, _, _, _, _, _, _, _, _, _, _, _] (by decide) (by decide) rfl rfl (pc := 230) (hb hby at_230) ?_
  intro T h_230 X eT W_230 B_ye
  rw [show nar .char (101 : Int32) = 101 from by decide] at B_ye W_230
  have S := S.wr W_230
  have A_ue := A_ue.wr W_230
  have Fm := Fm.other W_230 (Or.inl ne_ue_ye)
  have Sm := Sm.keep (Keep.of_wr W_230) (Ow.nin1 ne_ms_ye) (Ow.nin1 ne_d_ye)
  have S_tmp := S_ye
  have S_ye := D.safeWr W_230 S_tmp S_ye
  have D := D.wr W_230 S_tmp
  have F := F.wr W_230 (Or.inr l_ye)
  refine Ow.dup X hx (pc := 231) (hb hby at_231) rfl ?_
  refine Ow.bipush X hx (pc := 232) (17) (hb hby at_232) (by decide) ?_
  refine Ow.bipush X hx (pc := 234) (114) (hb hby at_234) (by decide) ?_
  refine Ow.castoreL X hx D.hZ eT B_ye 17 [_, _, _, _, _, _, _, _, _, _, _, _, _, _, _, _, _, _, _, _, _, _, _, _, _, _, _, _, _, _, _, _, _, _, _, _, _, _, _, _, _, _, _, _, _] (by decide) (by decide) rfl rfl (pc := 236) (hb hby at_236) ?_
  intro T h_236 X eT W_236 B_ye
  rw [show nar .char (114 : Int32) = 114 from by decide] at B_ye W_236
  have S := S.wr W_236
  have A_ue := A_ue.wr W_236
  have Fm := Fm.other W_236 (Or.inl ne_ue_ye)
  have Sm := Sm.keep (Keep.of_wr W_236) (Ow.nin1 ne_ms_ye) (Ow.nin1 ne_d_ye)
  have S_tmp := S_ye
  have S_ye := D.safeWr W_236 S_tmp S_ye
  have D := D.wr W_236 S_tmp
  have F := F.wr W_236 (Or.inr l_ye)
  refine Ow.dup X hx (pc := 237) (hb hby at_237) rfl ?_
  refine Ow.bipush X hx (pc := 238) (18) (hb hby at_238) (by decide) ?_
  refine Ow.bipush X hx (pc := 240) (115) (hb hby at_240) (by decide) ?_
  refine Ow.castoreL X hx D.hZ eT B_ye 18 [_, _, _, _, _, _, _, _, _, _, _, _, _, _, _, _, _, _, _, _, _, _, _, _, _, _, _, _, _, _, _, _, _, _, _, _, _, _, _, _, _, _, _, _, _] (by decide) (by decide) rfl rfl (pc := 242) (hb hby at_242) ?_
  intro T h_242 X eT W_242 B_ye
  rw [show nar .char (115 : Int32) = 115 from by decide] at B_ye W_242
  have S := S.wr W_242
  have A_ue := A_ue.wr W_242
  have Fm := Fm.other W_242 (Or.inl ne_ue_ye)
  have Sm := Sm.keep (Keep.of_wr W_242) (Ow.nin1 ne_ms_ye) (Ow.nin1 ne_d_ye)
  have S_tmp := S_ye
  have S_ye := D.safeWr W_242 S_tmp S_ye
  have D := D.wr W_242 S_tmp
  have F := F.wr W_242 (Or.inr l_ye)
  refine Ow.dup X hx (pc := 243) (hb hby at_243) rfl ?_
  refine Ow.bipush X hx (pc := 244) (19) (hb hby at_244) (by decide) ?_
  refine Ow.bipush X hx (pc := 246) (32) (hb hby at_246) (by decide) ?_
  refine Ow.castoreL X hx D.hZ eT B_ye 19 [_, _, _, _, _, _, _, _, _, _, _, _, _, _, _, _, _, _, _, _, _, _, _, _, _, _, _, _, _, _, _, _, _, _, _, _, _, _, _, _, _, _, _, _, _] (by decide) (by decide) rfl rfl (pc := 248) (hb hby at_248) ?_
  intro T h_248 X eT W_248 B_ye
  rw [show nar .char (32 : Int32) = 32 from by decide] at B_ye W_248
  have S := S.wr W_248
  have A_ue := A_ue.wr W_248
  have Fm := Fm.other W_248 (Or.inl ne_ue_ye)
  have Sm := Sm.keep (Keep.of_wr W_248) (Ow.nin1 ne_ms_ye) (Ow.nin1 ne_d_ye)
  have S_tmp := S_ye
  have S_ye := D.safeWr W_248 S_tmp S_ye
  have D := D.wr W_248 S_tmp
  have F := F.wr W_248 (Or.inr l_ye)
  refine Ow.dup X hx (pc := 249) (hb hby at_249) rfl ?_
  refine Ow.bipush X hx (pc := 250) (20) (hb hby at_250) (by decide) ?_
  refine Ow.bipush X hx (pc := 252) (119) (hb hby at_252) (by decide) ?_
  refine Ow.castoreL X hx D.hZ eT B_ye 20 [_, _, _, _, _, _, _, _, _, _, _, _, _, _, _, _, _, _, _, _, _, _, _, _, _, _, _, _, _, _, _, _, _, _, _, _, _, _, _, _, _, _, _, _, _] (by decide) (by decide) rfl rfl (pc := 254) (hb hby at_254) ?_
  intro T h_254 X eT W_254 B_ye
  rw [show nar .char (119 : Int32) = 119 from by decide] at B_ye W_254
  have S := S.wr W_254
  have A_ue := A_ue.wr W_254
  have Fm := Fm.other W_254 (Or.inl ne_ue_ye)
  have Sm := Sm.keep (Keep.of_wr W_254) (Ow.nin1 ne_ms_ye) (Ow.nin1 ne_d_ye)
  have S_tmp := S_ye
  have S_ye := D.safeWr W_254 S_tmp S_ye
  have D := D.wr W_254 S_tmp
  have F := F.wr W_254 (Or.inr l_ye)
  refine Ow.dup X hx (pc := 255) (hb hby at_255) rfl ?_
  refine Ow.bipush X hx (pc := 256) (21) (hb hby at_256) (by decide) ?_
  refine Ow.bipush X hx (pc := 258) (105) (hb hby at_258) (by decide) ?_
  refine Ow.castoreL X hx D.hZ eT B_ye 21 [_, _, _, _, _, _, _, _, _, _, _, _, _, _, _, _, _, _, _, _, _, _, _, _, _, _, _, _, _, _, _, _, _, _, _, _, _, _, _, _, _, _, _, _, _] (by decide) (by decide) rfl rfl (pc := 260) (hb hby at_260) ?_
  intro T h_260 X eT W_260 B_ye
  rw [show nar .char (105 : Int32) = 105 from by decide] at B_ye W_260
  have S := S.wr W_260
  have A_ue := A_ue.wr W_260
  have Fm := Fm.other W_260 (Or.inl ne_ue_ye)
  have Sm := Sm.keep (Keep.of_wr W_260) (Ow.nin1 ne_ms_ye) (Ow.nin1 ne_d_ye)
  have S_tmp := S_ye
  have S_ye := D.safeWr W_260 S_tmp S_ye
  have D := D.wr W_260 S_tmp
  have F := F.wr W_260 (Or.inr l_ye)
  refine Ow.dup X hx (pc := 261) (hb hby at_261) rfl ?_
  refine Ow.bipush X hx (pc := 262) (22) (hb hby at_262) (by decide) ?_
  refine Ow.bipush X hx (pc := 264) (116) (hb hby at_264) (by decide) ?_
  refine Ow.castoreL X hx D.hZ eT B_ye 22 [_, _, _, _, _, _, _, _, _, _, _, _, _, _, _, _, _, _, _, _, _, _, _, _, _, _, _, _, _, _, _, _, _, _, _, _, _, _, _, _, _, _, _, _, _] (by decide) (by decide) rfl rfl (pc := 266) (hb hby at_266) ?_
  intro T h_266 X eT W_266 B_ye
  rw [show nar .char (116 : Int32) = 116 from by decide] at B_ye W_266
  have S := S.wr W_266
  have A_ue := A_ue.wr W_266
  have Fm := Fm.other W_266 (Or.inl ne_ue_ye)
  have Sm := Sm.keep (Keep.of_wr W_266) (Ow.nin1 ne_ms_ye) (Ow.nin1 ne_d_ye)
  have S_tmp := S_ye
  have S_ye := D.safeWr W_266 S_tmp S_ye
  have D := D.wr W_266 S_tmp
  have F := F.wr W_266 (Or.inr l_ye)
  refine Ow.dup X hx (pc := 267) (hb hby at_267) rfl ?_
  refine Ow.bipush X hx (pc := 268) (23) (hb hby at_268) (by decide) ?_
  refine Ow.bipush X hx (pc := 270) (104) (hb hby at_270) (by decide) ?_
  refine Ow.castoreL X hx D.hZ eT B_ye 23 [_, _, _, _, _, _, _, _, _, _, _, _, _, _, _, _, _, _, _, _, _, _, _, _, _, _, _, _, _, _, _, _, _, _, _, _, _, _, _, _, _, _, _, _, _] (by decide) (by decide) rfl rfl (pc := 272) (hb hby at_272) ?_
  intro T h_272 X eT W_272 B_ye
  rw [show nar .char (104 : Int32) = 104 from by decide] at B_ye W_272
  have S := S.wr W_272
  have A_ue := A_ue.wr W_272
  have Fm := Fm.other W_272 (Or.inl ne_ue_ye)
  have Sm := Sm.keep (Keep.of_wr W_272) (Ow.nin1 ne_ms_ye) (Ow.nin1 ne_d_ye)
  have S_tmp := S_ye
  have S_ye := D.safeWr W_272 S_tmp S_ye
  have D := D.wr W_272 S_tmp
  have F := F.wr W_272 (Or.inr l_ye)
  refine Ow.dup X hx (pc := 273) (hb hby at_273) rfl ?_
  refine Ow.bipush X hx (pc := 274) (24) (hb hby at_274) (by decide) ?_
  refine Ow.bipush X hx (pc := 276) (32) (hb hby at_276) (by decide) ?_
  refine Ow.castoreL X hx D.hZ eT B_ye 24 [_, _, _, _, _, _, _, _, _, _, _, _, _, _, _, _, _, _, _, _, _, _, _, _, _, _, _, _, _, _, _, _, _, _, _, _, _, _, _, _, _, _, _, _, _] (by decide) (by decide) rfl rfl (pc := 278) (hb hby at_278) ?_
  intro T h_278 X eT W_278 B_ye
  rw [show nar .char (32 : Int32) = 32 from by decide] at B_ye W_278
  have S := S.wr W_278
  have A_ue := A_ue.wr W_278
  have Fm := Fm.other W_278 (Or.inl ne_ue_ye)
  have Sm := Sm.keep (Keep.of_wr W_278) (Ow.nin1 ne_ms_ye) (Ow.nin1 ne_d_ye)
  have S_tmp := S_ye
  have S_ye := D.safeWr W_278 S_tmp S_ye
  have D := D.wr W_278 S_tmp
  have F := F.wr W_278 (Or.inr l_ye)
  refine Ow.dup X hx (pc := 279) (hb hby at_279) rfl ?_
  refine Ow.bipush X hx (pc := 280) (25) (hb hby at_280) (by decide) ?_
  refine Ow.bipush X hx (pc := 282) (100) (hb hby at_282) (by decide) ?_
  refine Ow.castoreL X hx D.hZ eT B_ye 25 [_, _, _, _, _, _, _, _, _, _, _, _, _, _, _, _, _, _, _, _, _, _, _, _, _, _, _, _, _, _, _, _, _, _, _, _, _, _, _, _, _, _, _, _, _] (by decide) (by decide) rfl rfl (pc := 284) (hb hby at_284) ?_
  intro T h_284 X eT W_284 B_ye
  rw [show nar .char (100 : Int32) = 100 from by decide] at B_ye W_284
  have S := S.wr W_284
  have A_ue := A_ue.wr W_284
  have Fm := Fm.other W_284 (Or.inl ne_ue_ye)
  have Sm := Sm.keep (Keep.of_wr W_284) (Ow.nin1 ne_ms_ye) (Ow.nin1 ne_d_ye)
  have S_tmp := S_ye
  have S_ye := D.safeWr W_284 S_tmp S_ye
  have D := D.wr W_284 S_tmp
  have F := F.wr W_284 (Or.inr l_ye)
  refine Ow.dup X hx (pc := 285) (hb hby at_285) rfl ?_
  refine Ow.bipush X hx (pc := 286) (26) (hb hby at_286) (by decide) ?_
  refine Ow.bipush X hx (pc := 288) (105) (hb hby at_288) (by decide) ?_
  refine Ow.castoreL X hx D.hZ eT B_ye 26 [_, _, _, _, _, _, _, _, _, _, _, _, _, _, _, _, _, _, _, _, _, _, _, _, _, _, _, _, _, _, _, _, _, _, _, _, _, _, _, _, _, _, _, _, _] (by decide) (by decide) rfl rfl (pc := 290) (hb hby at_290) ?_
  intro T h_290 X eT W_290 B_ye
  rw [show nar .char (105 : Int32) = 105 from by decide] at B_ye W_290
  have S := S.wr W_290
  have A_ue := A_ue.wr W_290
  have Fm := Fm.other W_290 (Or.inl ne_ue_ye)
  have Sm := Sm.keep (Keep.of_wr W_290) (Ow.nin1 ne_ms_ye) (Ow.nin1 ne_d_ye)
  have S_tmp := S_ye
  have S_ye := D.safeWr W_290 S_tmp S_ye
  have D := D.wr W_290 S_tmp
  have F := F.wr W_290 (Or.inr l_ye)
  refine Ow.dup X hx (pc := 291) (hb hby at_291) rfl ?_
  refine Ow.bipush X hx (pc := 292) (27) (hb hby at_292) (by decide) ?_
  refine Ow.bipush X hx (pc := 294) (115) (hb hby at_294) (by decide) ?_
  refine Ow.castoreL X hx D.hZ eT B_ye 27 [_, _, _, _, _, _, _, _, _, _, _, _, _, _, _, _, _, _, _, _, _, _, _, _, _, _, _, _, _, _, _, _, _, _, _, _, _, _, _, _, _, _, _, _, _] (by decide) (by decide) rfl rfl (pc := 296) (hb hby at_296) ?_
  intro T h_296 X eT W_296 B_ye
  rw [show nar .char (115 : Int32) = 115 from by decide] at B_ye W_296
  have S := S.wr W_296
  have A_ue := A_ue.wr W_296
  have Fm := Fm.other W_296 (Or.inl ne_ue_ye)
  have Sm := Sm.keep (Keep.of_wr W_296) (Ow.nin1 ne_ms_ye) (Ow.nin1 ne_d_ye)
  have S_tmp := S_ye
  have S_ye := D.safeWr W_296 S_tmp S_ye
  have D := D.wr W_296 S_tmp
  have F := F.wr W_296 (Or.inr l_ye)
  refine Ow.dup X hx (pc := 297) (hb hby at_297) rfl ?_
  refine Ow.bipush X hx (pc := 298) (28) (hb hby at_298) (by decide) ?_
  refine Ow.bipush X hx (pc := 300) (99) (hb hby at_300) (by decide) ?_
  refine Ow.castoreL X hx D.hZ eT B_ye 28 [_, _, _, _, _, _, _, _, _, _, _, _, _, _, _, _, _, _, _, _, _, _, _, _, _, _, _, _, _, _, _, _, _, _, _, _, _, _, _, _, _, _, _, _, _] (by decide) (by decide) rfl rfl (pc := 302) (hb hby at_302) ?_
  intro T h_302 X eT W_302 B_ye
  rw [show nar .char (99 : Int32) = 99 from by decide] at B_ye W_302
  have S := S.wr W_302
  have A_ue := A_ue.wr W_302
  have Fm := Fm.other W_302 (Or.inl ne_ue_ye)
  have Sm := Sm.keep (Keep.of_wr W_302) (Ow.nin1 ne_ms_ye) (Ow.nin1 ne_d_ye)
  have S_tmp := S_ye
  have S_ye := D.safeWr W_302 S_tmp S_ye
  have D := D.wr W_302 S_tmp
  have F := F.wr W_302 (Or.inr l_ye)
  refine Ow.dup X hx (pc := 303) (hb hby at_303) rfl ?_
  refine Ow.bipush X hx (pc := 304) (29) (hb hby at_304) (by decide) ?_
  refine Ow.bipush X hx (pc := 306) (111) (hb hby at_306) (by decide) ?_
  refine Ow.castoreL X hx D.hZ eT B_ye 29 [_, _, _, _, _, _, _, _, _, _, _, _, _, _, _, _, _, _, _, _, _, _, _, _, _, _, _, _, _, _, _, _, _, _, _, _, _, _, _, _, _, _, _, _, _] (by decide) (by decide) rfl rfl (pc := 308) (hb hby at_308) ?_
  intro T h_308 X eT W_308 B_ye
  rw [show nar .char (111 : Int32) = 111 from by decide] at B_ye W_308
  have S := S.wr W_308
  have A_ue := A_ue.wr W_308
  have Fm := Fm.other W_308 (Or.inl ne_ue_ye)
  have Sm := Sm.keep (Keep.of_wr W_308) (Ow.nin1 ne_ms_ye) (Ow.nin1 ne_d_ye)
  have S_tmp := S_ye
  have S_ye := D.safeWr W_308 S_tmp S_ye
  have D := D.wr W_308 S_tmp
  have F := F.wr W_308 (Or.inr l_ye)
  refine Ow.dup X hx (pc := 309) (hb hby at_309) rfl ?_
  refine Ow.bipush X hx (pc := 310) (30) (hb hby at_310) (by decide) ?_
  refine Ow.bipush X hx (pc := 312) (117) (hb hby at_312) (by decide) ?_
  refine Ow.castoreL X hx D.hZ eT B_ye 30 [_, _, _, _, _, _, _, _, _, _, _, _, _, _, _, _, _, _, _, _, _, _, _, _, _, _, _, _, _, _, _, _, _, _, _, _, _, _, _, _, _, _, _, _, _] (by decide) (by decide) rfl rfl (pc := 314) (hb hby at_314) ?_
  intro T h_314 X eT W_314 B_ye
  rw [show nar .char (117 : Int32) = 117 from by decide] at B_ye W_314
  have S := S.wr W_314
  have A_ue := A_ue.wr W_314
  have Fm := Fm.other W_314 (Or.inl ne_ue_ye)
  have Sm := Sm.keep (Keep.of_wr W_314) (Ow.nin1 ne_ms_ye) (Ow.nin1 ne_d_ye)
  have S_tmp := S_ye
  have S_ye := D.safeWr W_314 S_tmp S_ye
  have D := D.wr W_314 S_tmp
  have F := F.wr W_314 (Or.inr l_ye)
  refine Ow.dup X hx (pc := 315) (hb hby at_315) rfl ?_
  refine Ow.bipush X hx (pc := 316) (31) (hb hby at_316) (by decide) ?_
  refine Ow.bipush X hx (pc := 318) (110) (hb hby at_318) (by decide) ?_
  refine Ow.castoreL X hx D.hZ eT B_ye 31 [_, _, _, _, _, _, _, _, _, _, _, _, _, _, _, _, _, _, _, _, _, _, _, _, _, _, _, _, _, _, _, _, _, _, _, _, _, _, _, _, _, _, _, _, _] (by decide) (by decide) rfl rfl (pc := 320) (hb hby at_320) ?_
  intro T h_320 X eT W_320 B_ye
  rw [show nar .char (110 : Int32) = 110 from by decide] at B_ye W_320
  have S := S.wr W_320
  have A_ue := A_ue.wr W_320
  have Fm := Fm.other W_320 (Or.inl ne_ue_ye)
  have Sm := Sm.keep (Keep.of_wr W_320) (Ow.nin1 ne_ms_ye) (Ow.nin1 ne_d_ye)
  have S_tmp := S_ye
  have S_ye := D.safeWr W_320 S_tmp S_ye
  have D := D.wr W_320 S_tmp
  have F := F.wr W_320 (Or.inr l_ye)
  refine Ow.dup X hx (pc := 321) (hb hby at_321) rfl ?_
  refine Ow.bipush X hx (pc := 322) (32) (hb hby at_322) (by decide) ?_
  refine Ow.bipush X hx (pc := 324) (116) (hb hby at_324) (by decide) ?_
  refine Ow.castoreL X hx D.hZ eT B_ye 32 [_, _, _, _, _, _, _, _, _, _, _, _, _, _, _, _, _, _, _, _, _, _, _, _, _, _, _, _, _, _, _, _, _, _, _, _, _, _, _, _, _, _, _, _, _] (by decide) (by decide) rfl rfl (pc := 326) (hb hby at_326) ?_
  intro T h_326 X eT W_326 B_ye
  rw [show nar .char (116 : Int32) = 116 from by decide] at B_ye W_326
  have S := S.wr W_326
  have A_ue := A_ue.wr W_326
  have Fm := Fm.other W_326 (Or.inl ne_ue_ye)
  have Sm := Sm.keep (Keep.of_wr W_326) (Ow.nin1 ne_ms_ye) (Ow.nin1 ne_d_ye)
  have S_tmp := S_ye
  have S_ye := D.safeWr W_326 S_tmp S_ye
  have D := D.wr W_326 S_tmp
  have F := F.wr W_326 (Or.inr l_ye)
  refine Ow.dup X hx (pc := 327) (hb hby at_327) rfl ?_
  refine Ow.bipush X hx (pc := 328) (33) (hb hby at_328) (by decide) ?_
  refine Ow.bipush X hx (pc := 330) (32) (hb hby at_330) (by decide) ?_
  refine Ow.castoreL X hx D.hZ eT B_ye 33 [_, _, _, _, _, _, _, _, _, _, _, _, _, _, _, _, _, _, _, _, _, _, _, _, _, _, _, _, _, _, _, _, _, _, _, _, _, _, _, _, _, _, _, _, _] (by decide) (by decide) rfl rfl (pc := 332) (hb hby at_332) ?_
  intro T h_332 X eT W_332 B_ye
  rw [show nar .char (32 : Int32) = 32 from by decide] at B_ye W_332
  have S := S.wr W_332
  have A_ue := A_ue.wr W_332
  have Fm := Fm.other W_332 (Or.inl ne_ue_ye)
  have Sm := Sm.keep (Keep.of_wr W_332) (Ow.nin1 ne_ms_ye) (Ow.nin1 ne_d_ye)
  have S_tmp := S_ye
  have S_ye := D.safeWr W_332 S_tmp S_ye
  have D := D.wr W_332 S_tmp
  have F := F.wr W_332 (Or.inr l_ye)
  refine Ow.dup X hx (pc := 333) (hb hby at_333) rfl ?_
  refine Ow.bipush X hx (pc := 334) (34) (hb hby at_334) (by decide) ?_
  refine Ow.bipush X hx (pc := 336) (115) (hb hby at_336) (by decide) ?_
  refine Ow.castoreL X hx D.hZ eT B_ye 34 [_, _, _, _, _, _, _, _, _, _, _, _, _, _, _, _, _, _, _, _, _, _, _, _, _, _, _, _, _, _, _, _, _, _, _, _, _, _, _, _, _, _, _, _, _] (by decide) (by decide) rfl rfl (pc := 338) (hb hby at_338) ?_
  intro T h_338 X eT W_338 B_ye
  rw [show nar .char (115 : Int32) = 115 from by decide] at B_ye W_338
  have S := S.wr W_338
  have A_ue := A_ue.wr W_338
  have Fm := Fm.other W_338 (Or.inl ne_ue_ye)
  have Sm := Sm.keep (Keep.of_wr W_338) (Ow.nin1 ne_ms_ye) (Ow.nin1 ne_d_ye)
  have S_tmp := S_ye
  have S_ye := D.safeWr W_338 S_tmp S_ye
  have D := D.wr W_338 S_tmp
  have F := F.wr W_338 (Or.inr l_ye)
  refine Ow.dup X hx (pc := 339) (hb hby at_339) rfl ?_
  refine Ow.bipush X hx (pc := 340) (35) (hb hby at_340) (by decide) ?_
  refine Ow.bipush X hx (pc := 342) (99) (hb hby at_342) (by decide) ?_
  refine Ow.castoreL X hx D.hZ eT B_ye 35 [_, _, _, _, _, _, _, _, _, _, _, _, _, _, _, _, _, _, _, _, _, _, _, _, _, _, _, _, _, _, _, _, _, _, _, _, _, _, _, _, _, _, _, _, _] (by decide) (by decide) rfl rfl (pc := 344) (hb hby at_344) ?_
  intro T h_344 X eT W_344 B_ye
  rw [show nar .char (99 : Int32) = 99 from by decide] at B_ye W_344
  have S := S.wr W_344
  have A_ue := A_ue.wr W_344
  have Fm := Fm.other W_344 (Or.inl ne_ue_ye)
  have Sm := Sm.keep (Keep.of_wr W_344) (Ow.nin1 ne_ms_ye) (Ow.nin1 ne_d_ye)
  have S_tmp := S_ye
  have S_ye := D.safeWr W_344 S_tmp S_ye
  have D := D.wr W_344 S_tmp
  have F := F.wr W_344 (Or.inr l_ye)
  refine Ow.dup X hx (pc := 345) (hb hby at_345) rfl ?_
  refine Ow.bipush X hx (pc := 346) (36) (hb hby at_346) (by decide) ?_
  refine Ow.bipush X hx (pc := 348) (104) (hb hby at_348) (by decide) ?_
  refine Ow.castoreL X hx D.hZ eT B_ye 36 [_, _, _, _, _, _, _, _, _, _, _, _, _, _, _, _, _, _, _, _, _, _, _, _, _, _, _, _, _, _, _, _, _, _, _, _, _, _, _, _, _, _, _, _, _] (by decide) (by decide) rfl rfl (pc := 350) (hb hby at_350) ?_
  intro T h_350 X eT W_350 B_ye
  rw [show nar .char (104 : Int32) = 104 from by decide] at B_ye W_350
  have S := S.wr W_350
  have A_ue := A_ue.wr W_350
  have Fm := Fm.other W_350 (Or.inl ne_ue_ye)
  have Sm := Sm.keep (Keep.of_wr W_350) (Ow.nin1 ne_ms_ye) (Ow.nin1 ne_d_ye)
  have S_tmp := S_ye
  have S_ye := D.safeWr W_350 S_tmp S_ye
  have D := D.wr W_350 S_tmp
  have F := F.wr W_350 (Or.inr l_ye)
  refine Ow.dup X hx (pc := 351) (hb hby at_351) rfl ?_
  refine Ow.bipush X hx (pc := 352) (37) (hb hby at_352) (by decide) ?_
  refine Ow.bipush X hx (pc := 354) (101) (hb hby at_354) (by decide) ?_
  refine Ow.castoreL X hx D.hZ eT B_ye 37 [_, _, _, _, _, _, _, _, _, _, _, _, _, _, _, _, _, _, _, _, _, _, _, _, _, _, _, _, _, _, _, _, _, _, _, _, _, _, _, _, _, _, _, _, _] (by decide) (by decide) rfl rfl (pc := 356) (hb hby at_356) ?_
  intro T h_356 X eT W_356 B_ye
  rw [show nar .char (101 : Int32) = 101 from by decide] at B_ye W_356
  have S := S.wr W_356
  have A_ue := A_ue.wr W_356
  have Fm := Fm.other W_356 (Or.inl ne_ue_ye)
  have Sm := Sm.keep (Keep.of_wr W_356) (Ow.nin1 ne_ms_ye) (Ow.nin1 ne_d_ye)
  have S_tmp := S_ye
  have S_ye := D.safeWr W_356 S_tmp S_ye
  have D := D.wr W_356 S_tmp
  have F := F.wr W_356 (Or.inr l_ye)
  refine Ow.dup X hx (pc := 357) (hb hby at_357) rfl ?_
  refine Ow.bipush X hx (pc := 358) (38) (hb hby at_358) (by decide) ?_
  refine Ow.bipush X hx (pc := 360) (109) (hb hby at_360) (by decide) ?_
  refine Ow.castoreL X hx D.hZ eT B_ye 38 [_, _, _, _, _, _, _, _, _, _, _, _, _, _, _, _, _, _, _, _, _, _, _, _, _, _, _, _, _, _, _, _, _, _, _, _, _, _, _, _, _, _, _, _, _] (by decide) (by decide) rfl rfl (pc := 362) (hb hby at_362) ?_
  intro T h_362 X eT W_362 B_ye
  rw [show nar .char (109 : Int32) = 109 from by decide] at B_ye W_362
  have S := S.wr W_362
  have A_ue := A_ue.wr W_362
  have Fm := Fm.other W_362 (Or.inl ne_ue_ye)
  have Sm := Sm.keep (Keep.of_wr W_362) (Ow.nin1 ne_ms_ye) (Ow.nin1 ne_d_ye)
  have S_tmp := S_ye
  have S_ye := D.safeWr W_362 S_tmp S_ye
  have D := D.wr W_362 S_tmp
  have F := F.wr W_362 (Or.inr l_ye)
  refine Ow.dup X hx (pc := 363) (hb hby at_363) rfl ?_
  refine Ow.bipush X hx (pc := 364) (39) (hb hby at_364) (by decide) ?_
  refine Ow.bipush X hx (pc := 366) (97) (hb hby at_366) (by decide) ?_
  refine Ow.castoreL X hx D.hZ eT B_ye 39 [_, _, _, _, _, _, _, _, _, _, _, _, _, _, _, _, _, _, _, _, _, _, _, _, _, _, _, _, _, _, _, _, _, _, _, _, _, _, _, _, _, _, _, _, _] (by decide) (by decide) rfl rfl (pc := 368) (hb hby at_368) ?_
  intro T h_368 X eT W_368 B_ye
  rw [show nar .char (97 : Int32) = 97 from by decide] at B_ye W_368
  have S := S.wr W_368
  have A_ue := A_ue.wr W_368
  have Fm := Fm.other W_368 (Or.inl ne_ue_ye)
  have Sm := Sm.keep (Keep.of_wr W_368) (Ow.nin1 ne_ms_ye) (Ow.nin1 ne_d_ye)
  have S_tmp := S_ye
  have S_ye := D.safeWr W_368 S_tmp S_ye
  have D := D.wr W_368 S_tmp
  have F := F.wr W_368 (Or.inr l_ye)
  refine Ow.dup X hx (pc := 369) (hb hby at_369) rfl ?_
  refine Ow.bipush X hx (pc := 370) (40) (hb hby at_370) (by decide) ?_
  refine Ow.bipush X hx (pc := 372) (32) (hb hby at_372) (by decide) ?_
  refine Ow.castoreL X hx D.hZ eT B_ye 40 [_, _, _, _, _, _, _, _, _, _, _, _, _, _, _, _, _, _, _, _, _, _, _, _, _, _, _, _, _, _, _, _, _, _, _, _, _, _, _, _, _, _, _, _, _] (by decide) (by decide) rfl rfl (pc := 374) (hb hby at_374) ?_
  intro T h_374 X eT W_374 B_ye
  rw [show nar .char (32 : Int32) = 32 from by decide] at B_ye W_374
  have S := S.wr W_374
  have A_ue := A_ue.wr W_374
  have Fm := Fm.other W_374 (Or.inl ne_ue_ye)
  have Sm := Sm.keep (Keep.of_wr W_374) (Ow.nin1 ne_ms_ye) (Ow.nin1 ne_d_ye)
  have S_tmp := S_ye
  have S_ye := D.safeWr W_374 S_tmp S_ye
  have D := D.wr W_374 S_tmp
  have F := F.wr W_374 (Or.inr l_ye)
  refine Ow.dup X hx (pc := 375) (hb hby at_375) rfl ?_
  refine Ow.bipush X hx (pc := 376) (41) (hb hby at_376) (by decide) ?_
  refine Ow.iload X hx (pc := 378) (hb hby at_378) rfl ?_
  refine Ow.castoreL X hx D.hZ eT B_ye 41 [_, _, _, _, _, _, _, _, _, _, _, _, _, _, _, _, _, _, _, _, _, _, _, _, _, _, _, _, _, _, _, _, _, _, _, _, _, _, _, _, _, _, _, _, _] (by decide) (by decide) rfl rfl (pc := 380) (hb hby at_380) ?_
  intro T h_380 X eT W_380 B_ye
  rw [(own_ch8 ka).2.2.1] at B_ye W_380
  have S := S.wr W_380
  have A_ue := A_ue.wr W_380
  have Fm := Fm.other W_380 (Or.inl ne_ue_ye)
  have Sm := Sm.keep (Keep.of_wr W_380) (Ow.nin1 ne_ms_ye) (Ow.nin1 ne_d_ye)
  have S_tmp := S_ye
  have S_ye := D.safeWr W_380 S_tmp S_ye
  have D := D.wr W_380 S_tmp
  have F := F.wr W_380 (Or.inr l_ye)
  refine Ow.dup X hx (pc := 381) (hb hby at_381) rfl ?_
  refine Ow.bipush X hx (pc := 382) (42) (hb hby at_382) (by decide) ?_
  refine Ow.iload X hx (pc := 384) (hb hby at_384) rfl ?_
  refine Ow.castoreL X hx D.hZ eT B_ye 42 [_, _, _, _, _, _, _, _, _, _, _, _, _, _, _, _, _, _, _, _, _, _, _, _, _, _, _, _, _, _, _, _, _, _, _, _, _, _, _, _, _, _, _, _, _] (by decide) (by decide) rfl rfl (pc := 386) (hb hby at_386) ?_
  intro T h_386 X eT W_386 B_ye
  rw [(own_ch8 kb).2.2.1] at B_ye W_386
  have S := S.wr W_386
  have A_ue := A_ue.wr W_386
  have Fm := Fm.other W_386 (Or.inl ne_ue_ye)
  have Sm := Sm.keep (Keep.of_wr W_386) (Ow.nin1 ne_ms_ye) (Ow.nin1 ne_d_ye)
  have S_tmp := S_ye
  have S_ye := D.safeWr W_386 S_tmp S_ye
  have D := D.wr W_386 S_tmp
  have F := F.wr W_386 (Or.inr l_ye)
  refine Ow.dup X hx (pc := 387) (hb hby at_387) rfl ?_
  refine Ow.bipush X hx (pc := 388) (43) (hb hby at_388) (by decide) ?_
  refine Ow.bipush X hx (pc := 390) (58) (hb hby at_390) (by decide) ?_
  refine Ow.castoreL X hx D.hZ eT B_ye 43 [_, _, _, _, _, _, _, _, _, _, _, _, _, _, _, _, _, _, _, _, _, _, _, _, _, _, _, _, _, _, _, _, _, _, _, _, _, _, _, _, _, _, _, _, _] (by decide) (by decide) rfl rfl (pc := 392) (hb hby at_392) ?_
  intro T h_392 X eT W_392 B_ye
  rw [show nar .char (58 : Int32) = 58 from by decide] at B_ye W_392
  have S := S.wr W_392
  have A_ue := A_ue.wr W_392
  have Fm := Fm.other W_392 (Or.inl ne_ue_ye)
  have Sm := Sm.keep (Keep.of_wr W_392) (Ow.nin1 ne_ms_ye) (Ow.nin1 ne_d_ye)
  have S_tmp := S_ye
  have S_ye := D.safeWr W_392 S_tmp S_ye
  have D := D.wr W_392 S_tmp
  have F := F.wr W_392 (Or.inr l_ye)
  refine Ow.dup X hx (pc := 393) (hb hby at_393) rfl ?_
  refine Ow.bipush X hx (pc := 394) (44) (hb hby at_394) (by decide) ?_
  refine Ow.bipush X hx (pc := 396) (32) (hb hby at_396) (by decide) ?_
  refine Ow.castoreL X hx D.hZ eT B_ye 44 [_, _, _, _, _, _, _, _, _, _, _, _, _, _, _, _, _, _, _, _, _, _, _, _, _, _, _, _, _, _, _, _, _, _, _, _, _, _, _, _, _, _, _, _, _] (by decide) (by decide) rfl rfl (pc := 398) (hb hby at_398) ?_
  intro T h_398 X eT W_398 B_ye
  rw [show nar .char (32 : Int32) = 32 from by decide] at B_ye W_398
  have S := S.wr W_398
  have A_ue := A_ue.wr W_398
  have Fm := Fm.other W_398 (Or.inl ne_ue_ye)
  have Sm := Sm.keep (Keep.of_wr W_398) (Ow.nin1 ne_ms_ye) (Ow.nin1 ne_d_ye)
  have S_tmp := S_ye
  have S_ye := D.safeWr W_398 S_tmp S_ye
  have D := D.wr W_398 S_tmp
  have F := F.wr W_398 (Or.inr l_ye)
  refine Ow.astore X hx (pc := 399) #[_, _, _, _, _, _, _, _, _, _, _, _, _, _] (hb hby at_399) rfl rfl ?_
  refine Ow.goto X hx (pc := 401) (pc' := 686) (hb hby at_401) (by decide) (by decide) ?_
  refine Ow.new_ X hx D.hZ hown (ww hw 0 rfl) (ww hw 1 rfl) (ww hw 2 rfl) eT (pc := 686) (hb hby at_686) (by decide) (by decide) ?_
  intro T h_xe xe ha_xe X eT E_xe A_xe D_xe U_xe
  have l_xe : h0.size ≤ xe := by rw [ha_xe]; exact F.size
  have ne_ue_xe : ue ≠ xe := by rw [ha_xe]; exact Nat.ne_of_lt A_ue.lt
  have ne_ms_xe : ms ≠ xe := by rw [ha_xe]; exact Nat.ne_of_lt Sm.lt
  have ne_d_xe : d ≠ xe := by rw [ha_xe]; exact Nat.ne_of_lt Sm.ltB
  have ne_ye_xe : ye ≠ xe := by rw [ha_xe]; exact Nat.ne_of_lt B_ye.lt
  have S_xe := D.safeNew E_xe
  rw [← ha_xe] at S_xe
  have S := S.ext E_xe
  have A_ue := A_ue.ext E_xe
  have Fm := Fm.ext E_xe
  have Sm := Sm.ext E_xe
  have B_ye := B_ye.ext E_xe
  have S_ye := D.safeExt E_xe S_ye
  have F := F.ext E_xe
  have D := D.ext E_xe
  have V_xe := D_xe (Or.inr (ww hw 29 rfl)) (ty := .array .byte) (by decide)
  have C_xe := D_xe (Or.inr (ww hw 27 rfl)) (ty := .byte) (by decide)
  refine Ow.dup X hx (pc := 689) (hb hby at_689) rfl ?_
  refine Ow.aload X hx (pc := 690) (hb hby at_690) rfl rfl ?_
  have H8 : ∀ c ∈ ([99, 97, 110, 110, 111, 116, 32, 112, 114, 105, 99, 101, 32, 111, 114, 100, 101, 114, 115, 32, 119, 105, 116, 104, 32, 100, 105, 115, 99, 111, 117, 110, 116, 32, 115, 99, 104, 101, 109, 97, 32, (Int32.ofNat ka.val), (Int32.ofNat kb.val), 58, 32] : List Int32), ∃ k : Fin 256, c = Int32.ofNat k.val := by
    intro c hc
    simp only [List.mem_cons, List.not_mem_nil, or_false] at hc
    rcases hc with rfl | rfl | rfl | rfl | rfl | rfl | rfl | rfl | rfl | rfl | rfl | rfl | rfl | rfl | rfl | rfl | rfl | rfl | rfl | rfl | rfl | rfl | rfl | rfl | rfl | rfl | rfl | rfl | rfl | rfl | rfl | rfl | rfl | rfl | rfl | rfl | rfl | rfl | rfl | rfl | rfl | rfl | rfl | rfl | rfl
    · exact ⟨99, rfl⟩
    · exact ⟨97, rfl⟩
    · exact ⟨110, rfl⟩
    · exact ⟨110, rfl⟩
    · exact ⟨111, rfl⟩
    · exact ⟨116, rfl⟩
    · exact ⟨32, rfl⟩
    · exact ⟨112, rfl⟩
    · exact ⟨114, rfl⟩
    · exact ⟨105, rfl⟩
    · exact ⟨99, rfl⟩
    · exact ⟨101, rfl⟩
    · exact ⟨32, rfl⟩
    · exact ⟨111, rfl⟩
    · exact ⟨114, rfl⟩
    · exact ⟨100, rfl⟩
    · exact ⟨101, rfl⟩
    · exact ⟨114, rfl⟩
    · exact ⟨115, rfl⟩
    · exact ⟨32, rfl⟩
    · exact ⟨119, rfl⟩
    · exact ⟨105, rfl⟩
    · exact ⟨116, rfl⟩
    · exact ⟨104, rfl⟩
    · exact ⟨32, rfl⟩
    · exact ⟨100, rfl⟩
    · exact ⟨105, rfl⟩
    · exact ⟨115, rfl⟩
    · exact ⟨99, rfl⟩
    · exact ⟨111, rfl⟩
    · exact ⟨117, rfl⟩
    · exact ⟨110, rfl⟩
    · exact ⟨116, rfl⟩
    · exact ⟨32, rfl⟩
    · exact ⟨115, rfl⟩
    · exact ⟨99, rfl⟩
    · exact ⟨104, rfl⟩
    · exact ⟨101, rfl⟩
    · exact ⟨109, rfl⟩
    · exact ⟨97, rfl⟩
    · exact ⟨32, rfl⟩
    · exact ⟨ka, rfl⟩
    · exact ⟨kb, rfl⟩
    · exact ⟨58, rfl⟩
    · exact ⟨32, rfl⟩
  have P_x := Ow.Exa.plain A_xe
  refine strLat X hx D.hZ hw eT hown (ww hw 4 rfl) (cs := [99, 97, 110, 110, 111, 116, 32, 112, 114, 105, 99, 101, 32, 111, 114, 100, 101, 114, 115, 32, 119, 105, 116, 104, 32, 100, 105, 115, 99, 111, 117, 110, 116, 32, 115, 99, 104, 101, 109, 97, 32, (Int32.ofNat ka.val), (Int32.ofNat kb.val), 58, 32]) A_xe V_xe C_xe B_ye S hz 45 rfl (by decide) (by decide) H8 (by rw [hml]; rfl) (pc := 692) (hb hby at_692) rfl rfl (by decide) (by decide) ?_
  intro T L k_xe X F2 St_xe
  have F := F.call F2 (fun y hy => by cases List.mem_singleton.mp hy; exact Or.inr l_xe)
  -- kept
  have D := D.keep F2.1 (fun y hy => by cases List.mem_singleton.mp hy; exact S_xe)
  have S := Ow.staKeep S F2.1 (fun y hy => by cases List.mem_singleton.mp hy; exact P_x)
  have A_ue := A_ue.keep F2.1
  have Fm := Fm.keep F2.1 (Ow.nin1 ne_ue_xe)
  have Sm := Sm.keep F2.1 (Ow.nin1 ne_ms_xe) (Ow.nin1 ne_d_xe)
  obtain ⟨t_xe, e_txe⟩ : ∃ t, Ow.Str Z T.heap xe t k_xe (List.map (fun c => c.toInt8.toInt32) [99, 97, 110, 110, 111, 116, 32, 112, 114, 105, 99, 101, 32, 111, 114, 100, 101, 114, 115, 32, 119, 105, 116, 104, 32, 100, 105, 115, 99, 111, 117, 110, 116, 32, 115, 99, 104, 101, 109, 97, 32, (Int32.ofNat ka.val), (Int32.ofNat kb.val), 58, 32]) := ⟨_, St_xe⟩
  have St_xe := e_txe
  obtain ⟨h_692, e_692⟩ : ∃ q, q = T.heap := ⟨_, rfl⟩
  rw [← e_692] at F D S A_ue Fm Sm St_xe
  have eT : T.heap = h_692 := e_692.symm
  refine Ow.aload X hx (pc := 695) (hb hby at_695) rfl rfl ?_
  refine Ow.callU X hx D.hZ (c_gm l Z a0 hw _ ue ms Fm) eT hown (ww hw 224 rfl) (ww hw 225 rfl) (ww hw 226 rfl) (ww hw 228 rfl) (ww hw 227 rfl) (ww hw 185 rfl) (ww hw 229 rfl) (by decide) pd22 (by rw [hml]; rfl) A_ue (argsL := []) rfl rfl rfl (pc := 697) (hb hby at_697) rfl rfl (by decide) (by decide) ?_
  rintro _ T L X ⟨rfl, eT, rfl⟩
  rw [List.append_nil] at X
  dsimp only [Option.toList_some, Option.toList_none, List.cons_append, List.nil_append]
  obtain ⟨qs, eqs⟩ : ∃ q : List Int32, q = (((([] ++ own_l1) ++ (List.map (fun c => c.toInt8.toInt32) [(Int32.ofNat ka.val), (Int32.ofNat kb.val)])) ++ own_l2) ++ []) := ⟨_, rfl⟩
  have Sm : Ow.Str Z h_692 ms d kq qs := by rw [eqs]; exact Sm
  have St_xe : Ow.Str Z h_692 xe t_xe k_xe qs := by rw [eqs]; exact St_xe
  have hqs : qs.length < 2147483648 := by rw [eqs]; simp
  refine Ow.callVP X hx D.hZ (c_seq l Z a0 hw _ z xe ms t_xe d k_xe kq qs qs S hz St_xe Sm (Ne.symm ne_ms_xe) hqs hqs) rfl rfl eT hown (ww hw 230 rfl) (ww hw 231 rfl) (ww hw 233 rfl) (ww hw 232 rfl) (ww hw 2 rfl) (ww hw 234 rfl) (by decide) pd25 (by rw [hml]; rfl) St_xe.1 (argsL := [_]) rfl rfl rfl (pc := 700) (hb hby at_700) rfl rfl (by decide) (by decide) ?_   -- java/lang/String.equals:(Ljava/lang/Object;)Z
  intro T X eT
  dsimp only [Option.toList_some, Option.toList_none, List.cons_append, List.nil_append]
  rw [own_eqv_self]
  exact Ow.nreturnW X hx eT D hEL hlk hret (Or.inl rfl) (hb hby at_703) ⟨rfl, by rw [eT]; exact F⟩ (by decide) (by decide)
theorem law_w (l : Launch) (Z : State) (a0 : Array Value) (hw : ∀ d ∈ tables_1, d.before a0 Z = true) (hEL : EW Z a0 EL) (hl : l.stackTraces = true) (us sn : Addr) (SU0 : Sta Z Z.heap "java/lang/Throwable" "UNASSIGNED_STACK" "[Ljava/lang/StackTraceElement;" (.ref us)) (SS0 : Sta Z Z.heap "java/lang/Throwable" "SUPPRESSED_SENTINEL" "Ljava/util/List;" (.ref sn)) (h0 : Heap) (z p0 p1 p2 p3 p4 : Int32) (S : Sta Z h0 "java/lang/String" "COMPACT_STRINGS" "Z" (.int z)) (hz : ¬ z = 0) (TS : ThS Z h0) : Ow.PayK l Z EL x code maxLocals ret room_1 #[(.int p0), (.int p1), (.int p2), (.int p3), (.int p4)] h0 (fun v h L => v = some (.int 1) ∧ Ow.Eff h0 h [] L) := by
  by_cases h36 : p4 &&& 1 = 0
  · exact law_0 l Z a0 hw hEL hl us sn SU0 SS0 h0 z p0 p1 p2 p3 p4 S hz TS h36
  · exact law_1 l Z a0 hw hEL hl us sn SU0 SS0 h0 z p0 p1 p2 p3 p4 S hz TS h36
set_option maxRecDepth 65536 in
set_option maxHeartbeats 40000000 in
theorem comes_1 {Post : Tables → Env → Array Value → State → Outcome → State → Prop} (hpost : ∀ tb e args s v u, (limb_1_1.after args s (.returned v) u = true ∧ limb_1_2.after args s (.returned v) u = true ∧ True) → ReturnedEndW s (.returned v) u (Jvm.fieldLocs frame_1_writes args s ++ Jvm.arrayLocs frame_1_arrays args s ++ Jvm.staticLocs frame_1_statics s) 48 9344 → Post tb e args s (.returned v) u) :
    ArmFor flags0 classFile x code maxLocals ret World_1 tables_1 room_1 Calls_1 rest_1 Pre_1 Post := by
  intro l hfl _ _ p e ha hc hk s m args below hf hA hF happ hP
  obtain ⟨hcalls, hrest, hpre⟩ := hP
  obtain ⟨-, -, -, hnamed, -, -, -, hat⟩ := (Spec.applies_iff hf).mp happ
  obtain ⟨hg, hnar⟩ := and_e (Cond.before_iff.mp (show (Jvm.Cond.and given_1 narrow_1).before args s = true from hpre))
  obtain ⟨g0, g1⟩ := and_e hg
  obtain ⟨q0, g2⟩ := and_e g1
  obtain ⟨q1, g3⟩ := and_e g2
  obtain ⟨q2, g4⟩ := and_e g3
  obtain ⟨q3, g5⟩ := and_e g4
  have q4 := g5
  obtain ⟨w0, w1, w2, w3, w4, rfl⟩ : ∃ w0 w1 w2 w3 w4 : Value, args = #[w0, w1, w2, w3, w4] := by
    have hs : args.size = 5 := by simpa [Cond.value, given_1] using g0
    obtain ⟨L⟩ := args
    match L, hs with
    | [w0, w1, w2, w3, w4], _ => exact ⟨w0, w1, w2, w3, w4, rfl⟩
  have hw := fun d (hd : d ∈ tables_1) => atoms_spec (ws := Jvm.Cond.code x code maxLocals ret :: tables_1) hat d (List.mem_cons_of_mem _ hd)
  obtain ⟨hsets, hown0⟩ := atoms_of _ (rest_1_c_eq ▸ (show rest_1_c.before _ s = true from hrest))
  have hfit : Fit s := fun {y c} hc i hi => by
    obtain ⟨ha, rfl⟩ := Array.getElem?_eq_some_iff.mp hc
    have q := List.all_eq_true.mp ((Array.all_eq_true_iff_forall_mem.mp hF) _ (Array.getElem_mem ha)) i (List.mem_range.mpr hi)
    simpa [Array.getElem?_eq_getElem hi] using q
  obtain ⟨i0, e0⟩ := is_v q0
  obtain rfl : w0 = (.int i0) := Option.some.inj e0
  obtain ⟨i1, e1⟩ := is_v q1
  obtain rfl : w1 = (.int i1) := Option.some.inj e1
  obtain ⟨i2, e2⟩ := is_v q2
  obtain rfl : w2 = (.int i2) := Option.some.inj e2
  obtain ⟨i3, e3⟩ := is_v q3
  obtain rfl : w3 = (.int i3) := Option.some.inj e3
  obtain ⟨i4, e4⟩ := is_v q4
  obtain rfl : w4 = (.int i4) := Option.some.inj e4
  have n5 := not_v (Cond.before_iff.mp (hsets _ (List.mem_of_getElem? (i := 2) rfl)))
  obtain ⟨z, ez⟩ := is_v (Cond.before_iff.mp (hsets _ (List.mem_of_getElem? (i := 1) rfl)))
  have S : Sta s s.heap "java/lang/String" "COMPACT_STRINGS" "Z" (.int z) := Sta.start ez (Or.inl (hsets _ (List.mem_of_getElem? (i := 0) rfl)))
  have hz : ¬ (z = (0 : Int32)) := gotF (Cond.eq_ints ez (Term.int_eval (0))) n5
  have hl : l.stackTraces = true := by
    unfold Launch.stackTraces
    rw [hfl]; rfl
  obtain ⟨us, eus⟩ := arr_v (Cond.before_iff.mp (hsets _ (List.mem_of_getElem? (i := 17) rfl)))
  have SU0 : Sta s s.heap "java/lang/Throwable" "UNASSIGNED_STACK" "[Ljava/lang/StackTraceElement;" (.ref us) := Sta.start eus (Or.inl (hsets _ (List.mem_of_getElem? (i := 15) rfl)))
  obtain ⟨sn, esn⟩ := exa_v (Cond.before_iff.mp (hsets _ (List.mem_of_getElem? (i := 22) rfl)))
  have SS0 : Sta s s.heap "java/lang/Throwable" "SUPPRESSED_SENTINEL" "Ljava/util/List;" (.ref sn) := Sta.start esn (Or.inl (hsets _ (List.mem_of_getElem? (i := 20) rfl)))
  have hEL : EW s _ EL := EW.cons (ww hw 127 rfl) (by decide) (EW.cons (ww hw 54 rfl) (by decide) (EW.cons (ww hw 240 rfl) (by decide) (EW.nil)))
  have H : CHv s EL s.vm s.heap := CHv.start hEL hcalls.2.2.1 (hsets _ (List.mem_of_getElem? (i := 2) rfl)) (ww hw 19 rfl) (ww hw 1 rfl)
  obtain ⟨n, o, h1, h2, h3, _, L, rfl, ⟨rfl, F⟩, -, hq⟩ := law_w l s _ hw hEL hl us sn SU0 SS0 s.heap z i0 i1 i2 i3 i4 S hz ThS.start tables_1 p e ha hc hk s m _ below hf ((Spec.applies_iff_loose hf).mp happ).1 ⟨rfl, State.Warmed39.refl s, rfl, H⟩ ⟨MethodsKnown_of_tablesKnown hcalls.2.1, FramesKnown_of_framesKnown hcalls.1 hf⟩
  refine ⟨n, _, h1, h2, h3, hpost _ _ _ _ _ _ ⟨Cond.after_iff.mpr rfl, Cond.after_iff.mpr (eq_i res_at (Term.int_eval (1)) rfl), trivial⟩ ⟨hq.1, hq.2.1, hq.2.2.1, (hq.2.2.2.sift fun y hy => Or.inr (F.fr y hy)).mono (by decide) (by decide)⟩⟩
theorem main_1_1 : Claimed_1_1 := comes_1 fun _ _ _ _ _ _ h hF => ⟨h.1, hF⟩
theorem main_1_2 : Claimed_1_2 := comes_1 fun _ _ _ _ _ _ h hF => ⟨h.2.1, hF⟩
end Jvm.Pilot.@@N@@
namespace Jvm.Pilot.@@N@@
open Jvm Jvm.ClassFile Sem Op Lib Jvm.Free Jvm.Stand Jvm.Pilot.@@N@@.Jvm.D
/-! MADE BY PROGRAM (witnessworld.py) out of the Statement's table words and the real class files: 42 classes; the members and pool entries that the words name. The judged class is class 1, her method 1. -/
namespace start1
open Jvm.ClassFile
def u (s : String) : CpInfo := .utf8 (stringToUtf16 s)
/-- a pool by its gaps: so many unusable entries, then the entry; so many at the end -/
def gap : Nat → List CpInfo → List CpInfo
  | 0, r => r
  | n + 1, r => .unusable :: gap n r
def poolList (es : List (Nat × CpInfo)) (last : Nat) : List CpInfo := es.foldr (fun e r => gap e.1 (e.2 :: r)) (gap last [])
def pool (es : List (Nat × CpInfo)) (last : Nat) : Array CpInfo := ⟨poolList es last⟩
def fileOf (pool : Array CpInfo) (this : Nat) (attrs : Array Attribute := #[]) (ms : Array MethodInfo := #[]) (fl : Nat := 33) (sup : Nat := 0) (ifs : Array Nat := #[]) (fds : Array FieldInfo := #[]) : ClassFile where
  minorVersion := 0
  majorVersion := 65
  constantPool := pool
  accessFlags := fl
  thisClass := this
  superClass := sup
  interfaces := ifs
  fields := fds
  methods := ms
  attributes := attrs
def plain (name : String) (sup : Option ClassId) : Class where
  name := name
  kind := .ordinary
  loader := none
  accessFlags := 33
  super := sup
  interfaces := #[]
  cf := none
  fields := #[]
  methods := #[]
  instanceTypes := #[]
  staticTypes := #[]
  resolved := #[]
  callSites := []
  init := .initialized
  statics := none
  mirror := none

def pool0 : Array CpInfo := pool [(5, u "<init>"), (0, u "()V"), (1, .class_ 10), (1, u "java/lang/Object")] 113

def k0c0 : Code := { maxStack := 0, maxLocals := 1, code := object_method_1_code, exceptionTable := #[], attributes := #[] }
def k0m0 : Method := { name := "<init>", desc := "()V", sig := { parameters := [], returnType := none }, accessFlags := 1, code := some k0c0 }
/-- java/lang/Object -/
def k0 : Class := { plain "java/lang/Object" none with
  accessFlags := 33
  interfaces := #[]
  cf := some (fileOf pool0 8 #[] #[{ accessFlags := 1, nameIndex := 5, descriptorIndex := 6, attributes := #[] }] 33 0 #[] #[])
  fields := #[]
  methods := #[k0m0]
  instanceTypes := #[]
  staticTypes := #[]
  resolved := Array.replicate 124 none
  statics := none }

def pool1 : Array CpInfo := pool [(2, .class_ 4), (1, u "java/lang/Object"), (0, u "<init>"), (0, u "()V"), (0, .class_ 8), (0, u "java/lang/String"), (0, .methodref 7 10), (0, .nameAndType 5 11), (0, u "([C)V"), (0, .methodref 13 14), (0, .class_ 15), (0, .nameAndType 16 17), (0, u "com/example/pricewright/pricewright/engine/UnpriceableException"), (0, u "ofSchema"), (0, u "(Ljava/lang/String;Ljava/lang/String;)Lcom/example/pricewright/pricewright/engine/UnpriceableException;"), (0, .methodref 13 19), (0, .nameAndType 20 21), (0, u "getMessage"), (0, u "()Ljava/lang/String;"), (0, .methodref 7 23), (0, .nameAndType 24 25), (0, u "equals"), (0, u "(Ljava/lang/Object;)Z"), (0, .class_ 27), (0, u "com/example/pricewright/pricewright/engine/UnpriceableExceptionOfSchemaPinLaw"), (2, u "law"), (0, u "(IIIII)Z")] 5

def k1m0 : Method := { name := "<init>", desc := "()V", sig := { parameters := [], returnType := none }, accessFlags := 2, code := none }
def k1c1 : Code := { maxStack := 6, maxLocals := 14, code := code, exceptionTable := #[], attributes := #[] }
def k1m1 : Method := { name := "law", desc := "(IIIII)Z", sig := { parameters := [.int, .int, .int, .int, .int], returnType := some .boolean }, accessFlags := 9, code := some k1c1 }
/-- com/example/pricewright/pricewright/engine/UnpriceableExceptionOfSchemaPinLaw -/
def k1 : Class := { plain "com/example/pricewright/pricewright/engine/UnpriceableExceptionOfSchemaPinLaw" (some 0) with
  accessFlags := 49
  interfaces := #[]
  cf := some (fileOf pool1 26 #[] #[{ accessFlags := 2, nameIndex := 5, descriptorIndex := 6, attributes := #[] }, { accessFlags := 9, nameIndex := 30, descriptorIndex := 31, attributes := #[] }] 49 2 #[] #[])
  fields := #[]
  methods := #[k1m0, k1m1]
  instanceTypes := #[]
  staticTypes := #[]
  resolved := Array.replicate 37 none
  statics := none }

def pool2 : Array CpInfo := pool [(1, .class_ 2), (0, u "java/io/Serializable"), (0, .class_ 4), (0, u "java/lang/Object")] 2

/-- java/io/Serializable -/
def k2 : Class := { plain "java/io/Serializable" (some 0) with
  accessFlags := 1537
  interfaces := #[]
  cf := some (fileOf pool2 1 #[] #[] 1537 3 #[] #[])
  fields := #[]
  methods := #[]
  instanceTypes := #[]
  staticTypes := #[]
  resolved := Array.replicate 7 none
  statics := none }

def pool3 : Array CpInfo := pool [(1, .class_ 2), (0, u "java/lang/Comparable"), (0, .class_ 4), (0, u "java/lang/Object")] 7

/-- java/lang/Comparable -/
def k3 : Class := { plain "java/lang/Comparable" (some 0) with
  accessFlags := 1537
  interfaces := #[]
  cf := some (fileOf pool3 1 #[] #[] 1537 3 #[] #[])
  fields := #[]
  methods := #[]
  instanceTypes := #[]
  staticTypes := #[]
  resolved := Array.replicate 12 none
  statics := none }

def pool4 : Array CpInfo := pool [(2, .class_ 4), (1, u "java/lang/CharSequence"), (42, .class_ 48), (0, u "java/lang/CharSequence$1CodePointIterator"), (10, .class_ 60), (0, u "java/lang/CharSequence$1CharIterator"), (5, .class_ 67), (0, u "java/lang/Object")] 63

/-- java/lang/CharSequence -/
def k4 : Class := { plain "java/lang/CharSequence" (some 0) with
  accessFlags := 1537
  interfaces := #[]
  cf := some (fileOf pool4 2 #[.nestMembers #[47, 59]] #[] 1537 66 #[] #[])
  fields := #[]
  methods := #[]
  instanceTypes := #[]
  staticTypes := #[]
  resolved := Array.replicate 131 none
  statics := none }

def pool5 : Array CpInfo := pool [(1, .class_ 2), (0, u "java/lang/constant/Constable"), (0, .class_ 4), (0, u "java/lang/Object")] 6

/-- java/lang/constant/Constable -/
def k5 : Class := { plain "java/lang/constant/Constable" (some 0) with
  accessFlags := 1537
  interfaces := #[]
  cf := some (fileOf pool5 1 #[] #[] 1537 3 #[] #[])
  fields := #[]
  methods := #[]
  instanceTypes := #[]
  staticTypes := #[]
  resolved := Array.replicate 11 none
  statics := none }

def pool6 : Array CpInfo := pool [(1, .class_ 2), (0, u "java/lang/constant/ConstantDesc"), (0, .class_ 4), (0, u "java/lang/Object")] 32

/-- java/lang/constant/ConstantDesc -/
def k6 : Class := { plain "java/lang/constant/ConstantDesc" (some 0) with
  accessFlags := 1537
  interfaces := #[]
  cf := some (fileOf pool6 1 #[] #[] 1537 3 #[] #[])
  fields := #[]
  methods := #[]
  instanceTypes := #[]
  staticTypes := #[]
  resolved := Array.replicate 37 none
  statics := none }

def pool7 : Array CpInfo := pool [(1, .methodref 2 3), (0, .class_ 4), (0, .nameAndType 5 6), (0, u "java/lang/Object"), (0, u "<init>"), (0, u "()V"), (0, .string 8), (0, u ""), (0, .fieldref 10 11), (0, .class_ 12), (0, .nameAndType 13 14), (0, u "java/lang/String"), (0, u "value"), (0, u "[B"), (0, .fieldref 10 16), (0, .nameAndType 17 18), (0, u "coder"), (0, u "B"), (2, u "hash"), (0, u "I"), (2, u "hashIsZero"), (0, u "Z"), (0, .methodref 10 28), (0, .nameAndType 5 29), (0, u "([CIILjava/lang/Void;)V"), (8, .fieldref 10 39), (0, .nameAndType 40 26), (0, u "COMPACT_STRINGS"), (1, .class_ 44), (1, u "java/lang/StringUTF16"), (0, u "compress"), (1, .methodref 42 48), (0, .nameAndType 49 50), (0, u "coderFromArrayLen"), (0, u "([BI)B"), (3, .methodref 55 56), (0, .class_ 57), (0, .nameAndType 58 59), (0, u "java/util/Arrays"), (0, u "copyOfRange"), (0, u "([BII)[B"), (47, .class_ 109), (1, u "java/lang/StringLatin1"), (32, u "()Z"), (34, .methodref 42 178), (0, .nameAndType 45 179), (0, u "([CII)[B"), (13, .class_ 195), (1, u "java/lang/System"), (16, .methodref 193 213), (0, .nameAndType 214 215), (0, u "arraycopy"), (0, u "(Ljava/lang/Object;ILjava/lang/Object;II)V"), (118, u "()I"), (0, .methodref 10 336), (0, .nameAndType 17 337), (0, u "()B"), (2, u "()[B"), (148, .methodref 10 490), (0, .nameAndType 5 491), (0, u "(Ljava/lang/AbstractStringBuilder;Ljava/lang/Void;)V"), (1, .nameAndType 494 142), (0, u "isLatin1"), (11, .nameAndType 507 334), (0, u "length"), (24, u "getBytes"), (8, .methodref 107 542), (0, .nameAndType 543 544), (0, u "equals"), (0, u "([B[B)Z"), (4, .methodref 550 506), (0, .class_ 551), (0, u "java/lang/AbstractStringBuilder"), (0, .methodref 550 553), (0, .nameAndType 554 340), (0, u "getValue"), (18, u "(Ljava/lang/Object;)Z"), (1, .class_ 576), (0, u "java/lang/CharSequence"), (22, u "CASE_INSENSITIVE_ORDER"), (0, u "Ljava/util/Comparator;"), (220, u "([BIB)V"), (188, u "([C)V"), (36, .methodref 550 493), (53, u "serialPersistentFields"), (0, u "[Ljava/io/ObjectStreamField;"), (0, .class_ 1104), (0, u "java/lang/String$CaseInsensitiveComparator"), (1, .class_ 1107), (0, u "java/io/Serializable"), (0, .class_ 1109), (0, u "java/lang/Comparable"), (0, .class_ 1111), (0, u "java/lang/constant/Constable"), (0, .class_ 1113), (0, u "java/lang/constant/ConstantDesc"), (2, u "serialVersionUID"), (0, u "J"), (3, u "REPL"), (0, u "C"), (2, u "LATIN1"), (1, u "UTF16"), (105, u "(Ljava/lang/StringBuilder;)V")] 217

def k7m0 : Method := { name := "<init>", desc := "()V", sig := { parameters := [], returnType := none }, accessFlags := 1, code := none }
def k7c1 : Code := { maxStack := 5, maxLocals := 2, code := jdk_42_method_3_code, exceptionTable := #[], attributes := #[] }
def k7m1 : Method := { name := "<init>", desc := "([C)V", sig := { parameters := [(.array .char)], returnType := none }, accessFlags := 1, code := some k7c1 }
def k7c2 : Code := { maxStack := 3, maxLocals := 2, code := jdk_42_method_53_code, exceptionTable := #[], attributes := #[] }
def k7m2 : Method := { name := "<init>", desc := "(Ljava/lang/StringBuilder;)V", sig := { parameters := [(.object "java/lang/StringBuilder")], returnType := none }, accessFlags := 1, code := some k7c2 }
def k7c3 : Code := { maxStack := 2, maxLocals := 1, code := jdk_42_method_54_code, exceptionTable := #[], attributes := #[] }
def k7m3 : Method := { name := "length", desc := "()I", sig := { parameters := [], returnType := some .int }, accessFlags := 1, code := some k7c3 }
def k7c4 : Code := { maxStack := 2, maxLocals := 3, code := jdk_42_method_66_code, exceptionTable := #[], attributes := #[] }
def k7m4 : Method := { name := "equals", desc := "(Ljava/lang/Object;)Z", sig := { parameters := [(.object "java/lang/Object")], returnType := some .boolean }, accessFlags := 1, code := some k7c4 }
def k7c5 : Code := { maxStack := 5, maxLocals := 4, code := jdk_42_method_147_code, exceptionTable := #[], attributes := #[] }
def k7m5 : Method := { name := "getBytes", desc := "([BIB)V", sig := { parameters := [(.array .byte), .int, .byte], returnType := none }, accessFlags := 0, code := some k7c5 }
def k7c6 : Code := { maxStack := 4, maxLocals := 6, code := jdk_42_method_149_code, exceptionTable := #[], attributes := #[] }
def k7m6 : Method := { name := "<init>", desc := "([CIILjava/lang/Void;)V", sig := { parameters := [(.array .char), .int, .int, (.object "java/lang/Void")], returnType := none }, accessFlags := 2, code := some k7c6 }
def k7c7 : Code := { maxStack := 5, maxLocals := 5, code := jdk_42_method_150_code, exceptionTable := #[], attributes := #[] }
def k7m7 : Method := { name := "<init>", desc := "(Ljava/lang/AbstractStringBuilder;Ljava/lang/Void;)V", sig := { parameters := [(.object "java/lang/AbstractStringBuilder"), (.object "java/lang/Void")], returnType := none }, accessFlags := 0, code := some k7c7 }
def k7c8 : Code := { maxStack := 1, maxLocals := 1, code := jdk_42_method_152_code, exceptionTable := #[], attributes := #[] }
def k7m8 : Method := { name := "coder", desc := "()B", sig := { parameters := [], returnType := some .byte }, accessFlags := 0, code := some k7c8 }
/-- java/lang/String -/
def k7 : Class := { plain "java/lang/String" (some 0) with
  accessFlags := 49
  interfaces := #[2, 3, 4, 5, 6]
  cf := some (fileOf pool7 10 #[.nestMembers #[1103]] #[{ accessFlags := 1, nameIndex := 5, descriptorIndex := 6, attributes := #[] }, { accessFlags := 1, nameIndex := 5, descriptorIndex := 1010, attributes := #[] }, { accessFlags := 1, nameIndex := 5, descriptorIndex := 1233, attributes := #[] }, { accessFlags := 1, nameIndex := 507, descriptorIndex := 334, attributes := #[] }, { accessFlags := 1, nameIndex := 543, descriptorIndex := 573, attributes := #[] }, { accessFlags := 0, nameIndex := 532, descriptorIndex := 821, attributes := #[] }, { accessFlags := 2, nameIndex := 5, descriptorIndex := 29, attributes := #[] }, { accessFlags := 0, nameIndex := 5, descriptorIndex := 491, attributes := #[] }, { accessFlags := 0, nameIndex := 17, descriptorIndex := 337, attributes := #[] }] 49 2 #[1106, 1108, 575, 1110, 1112] #[{ accessFlags := 18, nameIndex := 13, descriptorIndex := 14, attributes := #[] }, { accessFlags := 18, nameIndex := 17, descriptorIndex := 18, attributes := #[] }, { accessFlags := 2, nameIndex := 21, descriptorIndex := 22, attributes := #[] }, { accessFlags := 2, nameIndex := 25, descriptorIndex := 26, attributes := #[] }, { accessFlags := 26, nameIndex := 1116, descriptorIndex := 1117, attributes := #[] }, { accessFlags := 24, nameIndex := 40, descriptorIndex := 26, attributes := #[] }, { accessFlags := 26, nameIndex := 1101, descriptorIndex := 1102, attributes := #[] }, { accessFlags := 26, nameIndex := 1121, descriptorIndex := 1122, attributes := #[] }, { accessFlags := 25, nameIndex := 599, descriptorIndex := 600, attributes := #[] }, { accessFlags := 24, nameIndex := 1125, descriptorIndex := 18, attributes := #[] }, { accessFlags := 24, nameIndex := 1127, descriptorIndex := 18, attributes := #[] }])
  fields := #[{ name := "value", type := (.array .byte), accessFlags := 18, slot := 0, constantValue := 0 }, { name := "coder", type := .byte, accessFlags := 18, slot := 1, constantValue := 0 }, { name := "hash", type := .int, accessFlags := 2, slot := 2, constantValue := 0 }, { name := "hashIsZero", type := .boolean, accessFlags := 2, slot := 3, constantValue := 0 }, { name := "serialVersionUID", type := .long, accessFlags := 26, slot := 0, constantValue := 0 }, { name := "COMPACT_STRINGS", type := .boolean, accessFlags := 24, slot := 1, constantValue := 0 }, { name := "serialPersistentFields", type := (.array (.object "java/io/ObjectStreamField")), accessFlags := 26, slot := 2, constantValue := 0 }, { name := "REPL", type := .char, accessFlags := 26, slot := 3, constantValue := 0 }, { name := "CASE_INSENSITIVE_ORDER", type := (.object "java/util/Comparator"), accessFlags := 25, slot := 4, constantValue := 0 }, { name := "LATIN1", type := .byte, accessFlags := 24, slot := 5, constantValue := 0 }, { name := "UTF16", type := .byte, accessFlags := 24, slot := 6, constantValue := 0 }]
  methods := #[k7m0, k7m1, k7m2, k7m3, k7m4, k7m5, k7m6, k7m7, k7m8]
  instanceTypes := #[(.array .byte), .byte, .int, .boolean]
  staticTypes := #[.long, .boolean, (.array (.object "java/io/ObjectStreamField")), .char, (.object "java/util/Comparator"), .byte, .byte]
  resolved := Array.replicate 1451 none
  statics := some 0 }

def pool8 : Array CpInfo := pool [(6, .class_ 8), (1, u "java/lang/Object"), (0, u "<init>"), (0, u "()V"), (1, .class_ 14), (1, u "java/lang/StringUTF16"), (31, u "$assertionsDisabled"), (0, u "Z"), (13, u "HI_BYTE_SHIFT"), (0, u "I"), (2, u "LO_BYTE_SHIFT"), (49, .methodref 12 116), (0, .nameAndType 117 118), (0, u "compress"), (0, u "([CI[BII)I"), (3, u "([CII)[B"), (138, u "coderFromArrayLen"), (0, u "([BI)B"), (106, .class_ 371), (1, u "java/lang/StringUTF16$LinesSpliterator"), (58, u "MAX_LENGTH"), (196, .class_ 628), (0, u "java/lang/StringUTF16$CodePointsSpliterator"), (0, .class_ 630), (0, u "java/lang/StringUTF16$CharsSpliterator")] 4

def k8m0 : Method := { name := "<init>", desc := "()V", sig := { parameters := [], returnType := none }, accessFlags := 0, code := none }
def k8c1 : Code := { maxStack := 2, maxLocals := 2, code := jdk_52_method_15_code, exceptionTable := #[], attributes := #[] }
def k8m1 : Method := { name := "coderFromArrayLen", desc := "([BI)B", sig := { parameters := [(.array .byte), .int], returnType := some .byte }, accessFlags := 8, code := some k8c1 }
def k8c2 : Code := { maxStack := 5, maxLocals := 6, code := jdk_52_method_16_code, exceptionTable := #[], attributes := #[] }
def k8m2 : Method := { name := "compress", desc := "([CII)[B", sig := { parameters := [(.array .char), .int, .int], returnType := some (.array .byte) }, accessFlags := 9, code := some k8c2 }
def k8c3 : Code := { maxStack := 3, maxLocals := 7, code := jdk_52_method_21_code, exceptionTable := #[], attributes := #[] }
def k8m3 : Method := { name := "compress", desc := "([CI[BII)I", sig := { parameters := [(.array .char), .int, (.array .byte), .int, .int], returnType := some .int }, accessFlags := 9, code := some k8c3 }
/-- java/lang/StringUTF16 -/
def k8 : Class := { plain "java/lang/StringUTF16" (some 0) with
  accessFlags := 48
  interfaces := #[]
  cf := some (fileOf pool8 12 #[.nestMembers #[627, 629, 369]] #[{ accessFlags := 0, nameIndex := 9, descriptorIndex := 10, attributes := #[] }, { accessFlags := 8, nameIndex := 261, descriptorIndex := 262, attributes := #[] }, { accessFlags := 9, nameIndex := 117, descriptorIndex := 122, attributes := #[] }, { accessFlags := 9, nameIndex := 117, descriptorIndex := 118, attributes := #[] }] 48 6 #[] #[{ accessFlags := 26, nameIndex := 61, descriptorIndex := 62, attributes := #[] }, { accessFlags := 26, nameIndex := 65, descriptorIndex := 62, attributes := #[] }, { accessFlags := 24, nameIndex := 430, descriptorIndex := 62, attributes := #[] }, { accessFlags := 4120, nameIndex := 46, descriptorIndex := 47, attributes := #[] }])
  fields := #[{ name := "HI_BYTE_SHIFT", type := .int, accessFlags := 26, slot := 0, constantValue := 0 }, { name := "LO_BYTE_SHIFT", type := .int, accessFlags := 26, slot := 1, constantValue := 0 }, { name := "MAX_LENGTH", type := .int, accessFlags := 24, slot := 2, constantValue := 0 }, { name := "$assertionsDisabled", type := .boolean, accessFlags := 4120, slot := 3, constantValue := 0 }]
  methods := #[k8m0, k8m1, k8m2, k8m3]
  instanceTypes := #[]
  staticTypes := #[.int, .int, .int, .boolean]
  resolved := Array.replicate 635 none
  statics := none }

def pool9 : Array CpInfo := pool [(1, .methodref 2 3), (0, .class_ 4), (0, .nameAndType 5 6), (0, u "java/lang/Object"), (0, u "<init>"), (0, u "()V"), (0, .fieldref 8 9), (0, .class_ 10), (0, .nameAndType 11 12), (0, u "java/lang/Throwable"), (0, u "cause"), (0, u "Ljava/lang/Throwable;"), (0, .fieldref 8 14), (0, .nameAndType 15 16), (0, u "UNASSIGNED_STACK"), (0, u "[Ljava/lang/StackTraceElement;"), (0, .fieldref 8 18), (0, .nameAndType 19 16), (0, u "stackTrace"), (0, .fieldref 8 21), (0, .nameAndType 22 23), (0, u "SUPPRESSED_SENTINEL"), (0, u "Ljava/util/List;"), (0, .fieldref 8 25), (0, .nameAndType 26 23), (0, u "suppressedExceptions"), (0, .methodref 8 28), (0, .nameAndType 29 30), (0, u "fillInStackTrace"), (0, u "()Ljava/lang/Throwable;"), (0, .fieldref 8 32), (0, .nameAndType 33 34), (0, u "detailMessage"), (0, u "Ljava/lang/String;"), (3, u "()Ljava/lang/String;"), (2, u "getMessage"), (51, .class_ 94), (0, u "java/lang/Throwable$WrappedPrintStream"), (6, .class_ 103), (1, u "java/lang/Throwable$PrintStreamOrWriter"), (61, u "$assertionsDisabled"), (0, u "Z"), (26, .class_ 194), (0, u "java/lang/Throwable$WrappedPrintWriter"), (3, .fieldref 8 199), (0, .nameAndType 200 201), (0, u "backtrace"), (0, u "Ljava/lang/Object;"), (0, .methodref 8 203), (0, .nameAndType 29 204), (0, u "(I)Ljava/lang/Throwable;"), (6, u "depth"), (0, u "I"), (10, u "(Ljava/lang/String;)V"), (45, .class_ 271), (1, u "java/lang/Throwable$SentinelHolder"), (32, u "EMPTY_THROWABLE_ARRAY"), (0, u "[Ljava/lang/Throwable;"), (12, .class_ 319), (0, u "java/io/Serializable"), (0, u "serialVersionUID"), (0, u "J"), (5, u "NULL_CAUSE_MESSAGE"), (0, u "SELF_SUPPRESSION_MESSAGE"), (0, u "CAUSE_CAPTION"), (0, u "SUPPRESSED_CAPTION")] 73

def k9c0 : Code := { maxStack := 2, maxLocals := 1, code := jdk_78_method_1_code, exceptionTable := #[], attributes := #[] }
def k9m0 : Method := { name := "<init>", desc := "()V", sig := { parameters := [], returnType := none }, accessFlags := 1, code := some k9c0 }
def k9c1 : Code := { maxStack := 2, maxLocals := 2, code := jdk_78_method_2_code, exceptionTable := #[], attributes := #[] }
def k9m1 : Method := { name := "<init>", desc := "(Ljava/lang/String;)V", sig := { parameters := [(.object "java/lang/String")], returnType := none }, accessFlags := 1, code := some k9c1 }
def k9c2 : Code := { maxStack := 1, maxLocals := 1, code := jdk_78_method_6_code, exceptionTable := #[], attributes := #[] }
def k9m2 : Method := { name := "getMessage", desc := "()Ljava/lang/String;", sig := { parameters := [], returnType := some (.object "java/lang/String") }, accessFlags := 1, code := some k9c2 }
def k9c3 : Code := { maxStack := 2, maxLocals := 1, code := ⟨#[0x2a, 0xb4, 0x00, 0x11, 0xc7, 0x00, 0x0a, 0x2a, 0xb4, 0x00, 0xc6, 0xc6, 0x00, 0x10, 0x2a, 0x03, 0xb6, 0x00, 0xca, 0x57, 0x2a, 0xb2, 0x00, 0x0d, 0xb5, 0x00, 0x11, 0x2a, 0xb0]⟩, exceptionTable := #[], attributes := #[] }
def k9m3 : Method := { name := "fillInStackTrace", desc := "()Ljava/lang/Throwable;", sig := { parameters := [], returnType := some (.object "java/lang/Throwable") }, accessFlags := 33, code := some k9c3 }
def k9m4 : Method := { name := "fillInStackTrace", desc := "(I)Ljava/lang/Throwable;", sig := { parameters := [.int], returnType := some (.object "java/lang/Throwable") }, accessFlags := 258, code := none }
/-- java/lang/Throwable -/
def k9 : Class := { plain "java/lang/Throwable" (some 0) with
  accessFlags := 33
  interfaces := #[2]
  cf := some (fileOf pool9 8 #[.nestMembers #[193, 93, 101, 269]] #[{ accessFlags := 1, nameIndex := 5, descriptorIndex := 6, attributes := #[] }, { accessFlags := 1, nameIndex := 5, descriptorIndex := 223, attributes := #[] }, { accessFlags := 1, nameIndex := 41, descriptorIndex := 38, attributes := #[] }, { accessFlags := 33, nameIndex := 29, descriptorIndex := 30, attributes := #[] }, { accessFlags := 258, nameIndex := 29, descriptorIndex := 204, attributes := #[] }] 33 2 #[318] #[{ accessFlags := 26, nameIndex := 320, descriptorIndex := 321, attributes := #[] }, { accessFlags := 130, nameIndex := 200, descriptorIndex := 201, attributes := #[] }, { accessFlags := 2, nameIndex := 33, descriptorIndex := 34, attributes := #[] }, { accessFlags := 26, nameIndex := 15, descriptorIndex := 16, attributes := #[] }, { accessFlags := 2, nameIndex := 11, descriptorIndex := 12, attributes := #[] }, { accessFlags := 2, nameIndex := 19, descriptorIndex := 16, attributes := #[] }, { accessFlags := 130, nameIndex := 211, descriptorIndex := 212, attributes := #[] }, { accessFlags := 26, nameIndex := 22, descriptorIndex := 23, attributes := #[] }, { accessFlags := 2, nameIndex := 26, descriptorIndex := 23, attributes := #[] }, { accessFlags := 26, nameIndex := 327, descriptorIndex := 34, attributes := #[] }, { accessFlags := 26, nameIndex := 328, descriptorIndex := 34, attributes := #[] }, { accessFlags := 26, nameIndex := 329, descriptorIndex := 34, attributes := #[] }, { accessFlags := 26, nameIndex := 330, descriptorIndex := 34, attributes := #[] }, { accessFlags := 26, nameIndex := 304, descriptorIndex := 305, attributes := #[] }, { accessFlags := 4120, nameIndex := 165, descriptorIndex := 166, attributes := #[] }])
  fields := #[{ name := "serialVersionUID", type := .long, accessFlags := 26, slot := 0, constantValue := 0 }, { name := "backtrace", type := (.object "java/lang/Object"), accessFlags := 130, slot := 0, constantValue := 0 }, { name := "detailMessage", type := (.object "java/lang/String"), accessFlags := 2, slot := 1, constantValue := 0 }, { name := "UNASSIGNED_STACK", type := (.array (.object "java/lang/StackTraceElement")), accessFlags := 26, slot := 1, constantValue := 0 }, { name := "cause", type := (.object "java/lang/Throwable"), accessFlags := 2, slot := 2, constantValue := 0 }, { name := "stackTrace", type := (.array (.object "java/lang/StackTraceElement")), accessFlags := 2, slot := 3, constantValue := 0 }, { name := "depth", type := .int, accessFlags := 130, slot := 4, constantValue := 0 }, { name := "SUPPRESSED_SENTINEL", type := (.object "java/util/List"), accessFlags := 26, slot := 2, constantValue := 0 }, { name := "suppressedExceptions", type := (.object "java/util/List"), accessFlags := 2, slot := 5, constantValue := 0 }, { name := "NULL_CAUSE_MESSAGE", type := (.object "java/lang/String"), accessFlags := 26, slot := 3, constantValue := 0 }, { name := "SELF_SUPPRESSION_MESSAGE", type := (.object "java/lang/String"), accessFlags := 26, slot := 4, constantValue := 0 }, { name := "CAUSE_CAPTION", type := (.object "java/lang/String"), accessFlags := 26, slot := 5, constantValue := 0 }, { name := "SUPPRESSED_CAPTION", type := (.object "java/lang/String"), accessFlags := 26, slot := 6, constantValue := 0 }, { name := "EMPTY_THROWABLE_ARRAY", type := (.array (.object "java/lang/Throwable")), accessFlags := 26, slot := 7, constantValue := 0 }, { name := "$assertionsDisabled", type := .boolean, accessFlags := 4120, slot := 8, constantValue := 0 }]
  methods := #[k9m0, k9m1, k9m2, k9m3, k9m4]
  instanceTypes := #[(.object "java/lang/Object"), (.object "java/lang/String"), (.object "java/lang/Throwable"), (.array (.object "java/lang/StackTraceElement")), .int, (.object "java/util/List")]
  staticTypes := #[.long, (.array (.object "java/lang/StackTraceElement")), (.object "java/util/List"), (.object "java/lang/String"), (.object "java/lang/String"), (.object "java/lang/String"), (.object "java/lang/String"), (.array (.object "java/lang/Throwable")), .boolean]
  resolved := Array.replicate 404 none
  statics := some 1 }

def pool10 : Array CpInfo := pool [(2, .class_ 4), (1, u "java/lang/Throwable"), (0, u "<init>"), (0, u "()V"), (0, .methodref 2 8), (0, .nameAndType 5 9), (0, u "(Ljava/lang/String;)V"), (9, .class_ 20), (0, u "java/lang/Exception"), (0, u "serialVersionUID"), (0, u "J")] 17

def k10m0 : Method := { name := "<init>", desc := "()V", sig := { parameters := [], returnType := none }, accessFlags := 1, code := none }
def k10c1 : Code := { maxStack := 2, maxLocals := 2, code := jdk_59_method_2_code, exceptionTable := #[], attributes := #[] }
def k10m1 : Method := { name := "<init>", desc := "(Ljava/lang/String;)V", sig := { parameters := [(.object "java/lang/String")], returnType := none }, accessFlags := 1, code := some k10c1 }
/-- java/lang/Exception -/
def k10 : Class := { plain "java/lang/Exception" (some 9) with
  accessFlags := 33
  interfaces := #[]
  cf := some (fileOf pool10 19 #[] #[{ accessFlags := 1, nameIndex := 5, descriptorIndex := 6, attributes := #[] }, { accessFlags := 1, nameIndex := 5, descriptorIndex := 9, attributes := #[] }] 33 2 #[] #[{ accessFlags := 24, nameIndex := 21, descriptorIndex := 22, attributes := #[] }])
  fields := #[{ name := "serialVersionUID", type := .long, accessFlags := 24, slot := 0, constantValue := 0 }]
  methods := #[k10m0, k10m1]
  instanceTypes := #[(.object "java/lang/Object"), (.object "java/lang/String"), (.object "java/lang/Throwable"), (.array (.object "java/lang/StackTraceElement")), .int, (.object "java/util/List")]
  staticTypes := #[.long]
  resolved := Array.replicate 40 none
  statics := none }

def pool11 : Array CpInfo := pool [(2, .class_ 4), (1, u "java/lang/Exception"), (0, u "<init>"), (0, u "()V"), (0, .methodref 2 8), (0, .nameAndType 5 9), (0, u "(Ljava/lang/String;)V"), (9, .class_ 20), (0, u "java/lang/RuntimeException"), (0, u "serialVersionUID"), (0, u "J")] 17

def k11m0 : Method := { name := "<init>", desc := "()V", sig := { parameters := [], returnType := none }, accessFlags := 1, code := none }
def k11c1 : Code := { maxStack := 2, maxLocals := 2, code := jdk_58_method_2_code, exceptionTable := #[], attributes := #[] }
def k11m1 : Method := { name := "<init>", desc := "(Ljava/lang/String;)V", sig := { parameters := [(.object "java/lang/String")], returnType := none }, accessFlags := 1, code := some k11c1 }
/-- java/lang/RuntimeException -/
def k11 : Class := { plain "java/lang/RuntimeException" (some 10) with
  accessFlags := 33
  interfaces := #[]
  cf := some (fileOf pool11 19 #[] #[{ accessFlags := 1, nameIndex := 5, descriptorIndex := 6, attributes := #[] }, { accessFlags := 1, nameIndex := 5, descriptorIndex := 9, attributes := #[] }] 33 2 #[] #[{ accessFlags := 24, nameIndex := 21, descriptorIndex := 22, attributes := #[] }])
  fields := #[{ name := "serialVersionUID", type := .long, accessFlags := 24, slot := 0, constantValue := 0 }]
  methods := #[k11m0, k11m1]
  instanceTypes := #[(.object "java/lang/Object"), (.object "java/lang/String"), (.object "java/lang/Throwable"), (.array (.object "java/lang/StackTraceElement")), .int, (.object "java/util/List")]
  staticTypes := #[.long]
  resolved := Array.replicate 40 none
  statics := none }

def pool12 : Array CpInfo := pool [(1, .methodref 2 3), (0, .class_ 4), (0, .nameAndType 5 6), (0, u "java/lang/RuntimeException"), (0, u "<init>"), (0, u "(Ljava/lang/String;)V"), (1, .class_ 10), (1, u "com/example/pricewright/pricewright/engine/UnpriceableException"), (2, .methodref 8 3), (0, .class_ 15), (0, u "java/lang/StringBuilder"), (0, .methodref 14 17), (0, .nameAndType 5 18), (0, u "()V"), (2, .methodref 14 22), (0, .nameAndType 23 24), (0, u "append"), (0, u "(Ljava/lang/String;)Ljava/lang/StringBuilder;"), (0, .string 26), (0, u ": "), (0, .methodref 14 28), (0, .nameAndType 29 30), (0, u "toString"), (0, u "()Ljava/lang/String;"), (0, .string 32), (0, u "cannot price orders with discount schema "), (4, u "serialVersionUID"), (0, u "J"), (7, u "(Ljava/lang/String;Ljava/lang/String;)Lcom/example/pricewright/pricewright/engine/UnpriceableException;"), (0, u "ofSchema")] 2

def k12c0 : Code := { maxStack := 2, maxLocals := 2, code := prog_34_method_1_code, exceptionTable := #[], attributes := #[] }
def k12m0 : Method := { name := "<init>", desc := "(Ljava/lang/String;)V", sig := { parameters := [(.object "java/lang/String")], returnType := none }, accessFlags := 0, code := some k12c0 }
def k12c1 : Code := { maxStack := 4, maxLocals := 2, code := prog_34_method_4_code, exceptionTable := #[], attributes := #[] }
def k12m1 : Method := { name := "ofSchema", desc := "(Ljava/lang/String;Ljava/lang/String;)Lcom/example/pricewright/pricewright/engine/UnpriceableException;", sig := { parameters := [(.object "java/lang/String"), (.object "java/lang/String")], returnType := some (.object "com/example/pricewright/pricewright/engine/UnpriceableException") }, accessFlags := 8, code := some k12c1 }
/-- com/example/pricewright/pricewright/engine/UnpriceableException -/
def k12 : Class := { plain "com/example/pricewright/pricewright/engine/UnpriceableException" (some 11) with
  accessFlags := 49
  interfaces := #[]
  cf := some (fileOf pool12 8 #[] #[{ accessFlags := 0, nameIndex := 5, descriptorIndex := 6, attributes := #[] }, { accessFlags := 8, nameIndex := 47, descriptorIndex := 46, attributes := #[] }] 49 2 #[] #[{ accessFlags := 26, nameIndex := 37, descriptorIndex := 38, attributes := #[] }])
  fields := #[{ name := "serialVersionUID", type := .long, accessFlags := 26, slot := 0, constantValue := 0 }]
  methods := #[k12m0, k12m1]
  instanceTypes := #[(.object "java/lang/Object"), (.object "java/lang/String"), (.object "java/lang/Throwable"), (.array (.object "java/lang/StackTraceElement")), .int, (.object "java/util/List")]
  staticTypes := #[.long]
  resolved := Array.replicate 50 none
  statics := none }

def pool13 : Array CpInfo := pool [(1, .class_ 2), (0, u "java/lang/Appendable"), (0, .class_ 4), (0, u "java/lang/Object")] 9

/-- java/lang/Appendable -/
def k13 : Class := { plain "java/lang/Appendable" (some 0) with
  accessFlags := 1537
  interfaces := #[]
  cf := some (fileOf pool13 1 #[] #[] 1537 3 #[] #[])
  fields := #[]
  methods := #[]
  instanceTypes := #[]
  staticTypes := #[]
  resolved := Array.replicate 14 none
  statics := none }

def pool14 : Array CpInfo := pool [(1, .class_ 2), (0, u "java/lang/String"), (0, .methodref 4 5), (0, .class_ 6), (0, .nameAndType 7 8), (0, u "java/lang/Object"), (0, u "<init>"), (0, u "()V"), (1, .class_ 12), (1, u "java/lang/AbstractStringBuilder"), (0, u "EMPTYVALUE"), (0, u "[B"), (0, .fieldref 10 16), (0, .nameAndType 17 14), (0, u "value"), (0, .fieldref 1 19), (0, .nameAndType 20 21), (0, u "COMPACT_STRINGS"), (0, u "Z"), (0, .fieldref 10 23), (0, .nameAndType 24 25), (0, u "coder"), (0, u "B"), (6, .methodref 1 33), (0, .nameAndType 34 35), (0, u "length"), (0, u "()I"), (3, .integer 2147483647), (0, .methodref 1 41), (0, .nameAndType 24 42), (0, u "()B"), (2, u "append"), (0, u "(Ljava/lang/String;)Ljava/lang/AbstractStringBuilder;"), (1, .class_ 49), (0, u "java/lang/CharSequence"), (19, u "(Ljava/lang/String;)V"), (5, u "maybeLatin1"), (3, .fieldref 10 80), (0, .nameAndType 81 82), (0, u "count"), (0, u "I"), (2, u "isLatin1"), (0, u "()Z"), (13, .methodref 10 101), (0, .nameAndType 102 103), (0, u "ensureCapacityInternal"), (0, u "(I)V"), (0, .methodref 10 105), (0, .nameAndType 106 107), (0, u "newCapacity"), (0, u "(I)I"), (0, .methodref 109 110), (0, .class_ 111), (0, .nameAndType 112 113), (0, u "java/util/Arrays"), (0, u "copyOf"), (0, u "([BI)[B"), (0, .methodref 115 116), (0, .class_ 117), (0, .nameAndType 118 119), (0, u "jdk/internal/util/ArraysSupport"), (0, u "newLength"), (0, u "(III)I"), (88, .methodref 10 209), (0, .nameAndType 210 211), (0, u "putStringAt"), (0, u "(ILjava/lang/String;)V"), (5, u "inflateIfNeededFor"), (2, .nameAndType 221 222), (0, u "getBytes"), (0, u "([BIB)V"), (174, .methodref 10 398), (0, .nameAndType 217 69), (0, .methodref 1 220), (3, u "()[B"), (40, .class_ 445), (0, u "java/lang/Appendable"), (106, u "getValue")] 56

def k14m0 : Method := { name := "<init>", desc := "()V", sig := { parameters := [], returnType := none }, accessFlags := 0, code := none }
def k14c1 : Code := { maxStack := 2, maxLocals := 2, code := jdk_68_method_2_code, exceptionTable := #[], attributes := #[] }
def k14m1 : Method := { name := "<init>", desc := "(I)V", sig := { parameters := [.int], returnType := none }, accessFlags := 0, code := some k14c1 }
def k14c2 : Code := { maxStack := 1, maxLocals := 1, code := jdk_68_method_6_code, exceptionTable := #[], attributes := #[] }
def k14m2 : Method := { name := "length", desc := "()I", sig := { parameters := [], returnType := some .int }, accessFlags := 1, code := some k14c2 }
def k14c3 : Code := { maxStack := 4, maxLocals := 3, code := jdk_68_method_9_code, exceptionTable := #[], attributes := #[] }
def k14m3 : Method := { name := "ensureCapacityInternal", desc := "(I)V", sig := { parameters := [.int], returnType := none }, accessFlags := 2, code := some k14c3 }
def k14c4 : Code := { maxStack := 5, maxLocals := 6, code := jdk_68_method_10_code, exceptionTable := #[], attributes := #[] }
def k14m4 : Method := { name := "newCapacity", desc := "(I)I", sig := { parameters := [.int], returnType := some .int }, accessFlags := 2, code := some k14c4 }
def k14c5 : Code := { maxStack := 3, maxLocals := 3, code := jdk_68_method_22_code, exceptionTable := #[], attributes := #[] }
def k14m5 : Method := { name := "append", desc := "(Ljava/lang/String;)Ljava/lang/AbstractStringBuilder;", sig := { parameters := [(.object "java/lang/String")], returnType := some (.object "java/lang/AbstractStringBuilder") }, accessFlags := 1, code := some k14c5 }
def k14c6 : Code := { maxStack := 1, maxLocals := 1, code := jdk_68_method_64_code, exceptionTable := #[], attributes := #[] }
def k14m6 : Method := { name := "getValue", desc := "()[B", sig := { parameters := [], returnType := some (.array .byte) }, accessFlags := 16, code := some k14c6 }
def k14c7 : Code := { maxStack := 1, maxLocals := 1, code := jdk_68_method_68_code, exceptionTable := #[], attributes := #[] }
def k14m7 : Method := { name := "isLatin1", desc := "()Z", sig := { parameters := [], returnType := some .boolean }, accessFlags := 16, code := some k14c7 }
def k14c8 : Code := { maxStack := 2, maxLocals := 2, code := jdk_68_method_71_code, exceptionTable := #[], attributes := #[] }
def k14m8 : Method := { name := "inflateIfNeededFor", desc := "(Ljava/lang/String;)V", sig := { parameters := [(.object "java/lang/String")], returnType := none }, accessFlags := 2, code := some k14c8 }
def k14c9 : Code := { maxStack := 4, maxLocals := 3, code := jdk_68_method_73_code, exceptionTable := #[], attributes := #[] }
def k14m9 : Method := { name := "putStringAt", desc := "(ILjava/lang/String;)V", sig := { parameters := [.int, (.object "java/lang/String")], returnType := none }, accessFlags := 2, code := some k14c9 }
/-- java/lang/AbstractStringBuilder -/
def k14 : Class := { plain "java/lang/AbstractStringBuilder" (some 0) with
  accessFlags := 1056
  interfaces := #[13, 4]
  cf := some (fileOf pool14 10 #[] #[{ accessFlags := 0, nameIndex := 7, descriptorIndex := 8, attributes := #[] }, { accessFlags := 0, nameIndex := 7, descriptorIndex := 103, attributes := #[] }, { accessFlags := 1, nameIndex := 34, descriptorIndex := 35, attributes := #[] }, { accessFlags := 2, nameIndex := 102, descriptorIndex := 103, attributes := #[] }, { accessFlags := 2, nameIndex := 106, descriptorIndex := 107, attributes := #[] }, { accessFlags := 1, nameIndex := 45, descriptorIndex := 46, attributes := #[] }, { accessFlags := 16, nameIndex := 552, descriptorIndex := 403, attributes := #[] }, { accessFlags := 16, nameIndex := 85, descriptorIndex := 86, attributes := #[] }, { accessFlags := 2, nameIndex := 217, descriptorIndex := 69, attributes := #[] }, { accessFlags := 2, nameIndex := 210, descriptorIndex := 211, attributes := #[] }] 1056 4 #[444, 48] #[{ accessFlags := 0, nameIndex := 17, descriptorIndex := 14, attributes := #[] }, { accessFlags := 0, nameIndex := 24, descriptorIndex := 25, attributes := #[] }, { accessFlags := 0, nameIndex := 75, descriptorIndex := 21, attributes := #[] }, { accessFlags := 0, nameIndex := 81, descriptorIndex := 82, attributes := #[] }, { accessFlags := 26, nameIndex := 13, descriptorIndex := 14, attributes := #[] }])
  fields := #[{ name := "value", type := (.array .byte), accessFlags := 0, slot := 0, constantValue := 0 }, { name := "coder", type := .byte, accessFlags := 0, slot := 1, constantValue := 0 }, { name := "maybeLatin1", type := .boolean, accessFlags := 0, slot := 2, constantValue := 0 }, { name := "count", type := .int, accessFlags := 0, slot := 3, constantValue := 0 }, { name := "EMPTYVALUE", type := (.array .byte), accessFlags := 26, slot := 0, constantValue := 0 }]
  methods := #[k14m0, k14m1, k14m2, k14m3, k14m4, k14m5, k14m6, k14m7, k14m8, k14m9]
  instanceTypes := #[(.array .byte), .byte, .boolean, .int]
  staticTypes := #[(.array .byte)]
  resolved := Array.replicate 609 none
  statics := none }

def pool15 : Array CpInfo := pool [(1, .methodref 2 3), (0, .class_ 4), (0, .nameAndType 5 6), (0, u "java/lang/AbstractStringBuilder"), (0, u "<init>"), (0, u "(I)V"), (11, .class_ 20), (1, u "java/lang/String"), (3, .class_ 26), (1, u "java/lang/StringBuilder"), (0, u "append"), (0, u "(Ljava/lang/String;)Ljava/lang/StringBuilder;"), (0, .methodref 2 30), (0, .nameAndType 27 31), (0, u "(Ljava/lang/String;)Ljava/lang/AbstractStringBuilder;"), (105, .methodref 18 138), (0, .nameAndType 5 139), (0, u "(Ljava/lang/StringBuilder;)V"), (5, u "()V"), (10, u "()I"), (186, .methodref 2 344), (0, .nameAndType 345 156), (0, u "length"), (3, .class_ 350), (0, u "java/lang/Appendable"), (0, .class_ 352), (0, u "java/io/Serializable"), (0, .class_ 354), (0, u "java/lang/Comparable"), (0, .class_ 356), (0, u "java/lang/CharSequence"), (0, u "serialVersionUID"), (0, u "J"), (40, u "toString"), (0, u "()Ljava/lang/String;")] 21

def k15c0 : Code := { maxStack := 2, maxLocals := 1, code := jdk_67_method_1_code, exceptionTable := #[], attributes := #[] }
def k15m0 : Method := { name := "<init>", desc := "()V", sig := { parameters := [], returnType := none }, accessFlags := 1, code := some k15c0 }
def k15c1 : Code := { maxStack := 2, maxLocals := 2, code := jdk_67_method_7_code, exceptionTable := #[], attributes := #[] }
def k15m1 : Method := { name := "append", desc := "(Ljava/lang/String;)Ljava/lang/StringBuilder;", sig := { parameters := [(.object "java/lang/String")], returnType := some (.object "java/lang/StringBuilder") }, accessFlags := 1, code := some k15c1 }
def k15c2 : Code := { maxStack := 3, maxLocals := 1, code := jdk_67_method_42_code, exceptionTable := #[], attributes := #[] }
def k15m2 : Method := { name := "toString", desc := "()Ljava/lang/String;", sig := { parameters := [], returnType := some (.object "java/lang/String") }, accessFlags := 1, code := some k15c2 }
def k15c3 : Code := { maxStack := 1, maxLocals := 1, code := jdk_67_method_93_code, exceptionTable := #[], attributes := #[] }
def k15m3 : Method := { name := "length", desc := "()I", sig := { parameters := [], returnType := some .int }, accessFlags := 4161, code := some k15c3 }
/-- java/lang/StringBuilder -/
def k15 : Class := { plain "java/lang/StringBuilder" (some 14) with
  accessFlags := 49
  interfaces := #[13, 2, 3, 4]
  cf := some (fileOf pool15 24 #[] #[{ accessFlags := 1, nameIndex := 5, descriptorIndex := 145, attributes := #[] }, { accessFlags := 1, nameIndex := 27, descriptorIndex := 28, attributes := #[] }, { accessFlags := 1, nameIndex := 399, descriptorIndex := 400, attributes := #[] }, { accessFlags := 4161, nameIndex := 345, descriptorIndex := 156, attributes := #[] }] 49 2 #[349, 351, 353, 355] #[{ accessFlags := 24, nameIndex := 357, descriptorIndex := 358, attributes := #[] }])
  fields := #[{ name := "serialVersionUID", type := .long, accessFlags := 24, slot := 0, constantValue := 0 }]
  methods := #[k15m0, k15m1, k15m2, k15m3]
  instanceTypes := #[(.array .byte), .byte, .boolean, .int]
  staticTypes := #[.long]
  resolved := Array.replicate 422 none
  statics := none }

def pool16 : Array CpInfo := pool [(9, u "<init>"), (6, .class_ 18), (1, u "java/lang/Object"), (0, u "()V"), (1, .class_ 23), (1, u "jdk/internal/util/ArraysSupport"), (0, u "LOG2_ARRAY_LONG_INDEX_SCALE"), (0, u "I"), (2, u "U"), (0, u "Ljdk/internal/misc/Unsafe;"), (8, u "BIG_ENDIAN"), (0, u "Z"), (8, u "LOG2_BYTE_BIT_SIZE"), (4, u "LOG2_ARRAY_INT_INDEX_SCALE"), (54, u "JLA"), (0, u "Ljdk/internal/access/JavaLangAccess;"), (11, u "LOG2_ARRAY_BOOLEAN_INDEX_SCALE"), (9, u "LOG2_ARRAY_BYTE_INDEX_SCALE"), (5, u "LOG2_ARRAY_CHAR_INDEX_SCALE"), (5, u "LOG2_ARRAY_SHORT_INDEX_SCALE"), (18, u "LOG2_ARRAY_FLOAT_INDEX_SCALE"), (24, u "LOG2_ARRAY_DOUBLE_INDEX_SCALE"), (6, .methodref 195 196), (0, .class_ 197), (0, .nameAndType 198 199), (0, u "java/lang/Math"), (0, u "max"), (0, u "(II)I"), (0, .integer 2147483639), (76, u "T_BOOLEAN"), (2, u "T_CHAR"), (1, u "T_FLOAT"), (1, u "T_DOUBLE"), (1, u "T_BYTE"), (1, u "T_SHORT"), (1, u "T_INT"), (1, u "T_LONG"), (1, u "SOFT_MAX_ARRAY_LENGTH"), (56, u "newLength"), (0, u "(III)I")] 25

def k16m0 : Method := { name := "<init>", desc := "()V", sig := { parameters := [], returnType := none }, accessFlags := 2, code := none }
def k16c1 : Code := { maxStack := 3, maxLocals := 4, code := jdk_48_method_27_code, exceptionTable := #[], attributes := #[] }
def k16m1 : Method := { name := "newLength", desc := "(III)I", sig := { parameters := [.int, .int, .int], returnType := some .int }, accessFlags := 9, code := some k16c1 }
/-- jdk/internal/util/ArraysSupport -/
def k16 : Class := { plain "jdk/internal/util/ArraysSupport" (some 0) with
  accessFlags := 33
  interfaces := #[]
  cf := some (fileOf pool16 21 #[] #[{ accessFlags := 2, nameIndex := 9, descriptorIndex := 19, attributes := #[] }, { accessFlags := 9, nameIndex := 351, descriptorIndex := 352, attributes := #[] }] 33 16 #[] #[{ accessFlags := 24, nameIndex := 28, descriptorIndex := 29, attributes := #[] }, { accessFlags := 26, nameIndex := 38, descriptorIndex := 39, attributes := #[] }, { accessFlags := 25, nameIndex := 121, descriptorIndex := 25, attributes := #[] }, { accessFlags := 25, nameIndex := 131, descriptorIndex := 25, attributes := #[] }, { accessFlags := 25, nameIndex := 137, descriptorIndex := 25, attributes := #[] }, { accessFlags := 25, nameIndex := 143, descriptorIndex := 25, attributes := #[] }, { accessFlags := 25, nameIndex := 53, descriptorIndex := 25, attributes := #[] }, { accessFlags := 25, nameIndex := 24, descriptorIndex := 25, attributes := #[] }, { accessFlags := 25, nameIndex := 162, descriptorIndex := 25, attributes := #[] }, { accessFlags := 25, nameIndex := 187, descriptorIndex := 25, attributes := #[] }, { accessFlags := 26, nameIndex := 48, descriptorIndex := 25, attributes := #[] }, { accessFlags := 25, nameIndex := 277, descriptorIndex := 25, attributes := #[] }, { accessFlags := 25, nameIndex := 280, descriptorIndex := 25, attributes := #[] }, { accessFlags := 25, nameIndex := 282, descriptorIndex := 25, attributes := #[] }, { accessFlags := 25, nameIndex := 284, descriptorIndex := 25, attributes := #[] }, { accessFlags := 25, nameIndex := 286, descriptorIndex := 25, attributes := #[] }, { accessFlags := 25, nameIndex := 288, descriptorIndex := 25, attributes := #[] }, { accessFlags := 25, nameIndex := 290, descriptorIndex := 25, attributes := #[] }, { accessFlags := 25, nameIndex := 292, descriptorIndex := 25, attributes := #[] }, { accessFlags := 26, nameIndex := 108, descriptorIndex := 109, attributes := #[] }, { accessFlags := 25, nameIndex := 294, descriptorIndex := 25, attributes := #[] }])
  fields := #[{ name := "U", type := (.object "jdk/internal/misc/Unsafe"), accessFlags := 24, slot := 0, constantValue := 0 }, { name := "BIG_ENDIAN", type := .boolean, accessFlags := 26, slot := 1, constantValue := 0 }, { name := "LOG2_ARRAY_BOOLEAN_INDEX_SCALE", type := .int, accessFlags := 25, slot := 2, constantValue := 0 }, { name := "LOG2_ARRAY_BYTE_INDEX_SCALE", type := .int, accessFlags := 25, slot := 3, constantValue := 0 }, { name := "LOG2_ARRAY_CHAR_INDEX_SCALE", type := .int, accessFlags := 25, slot := 4, constantValue := 0 }, { name := "LOG2_ARRAY_SHORT_INDEX_SCALE", type := .int, accessFlags := 25, slot := 5, constantValue := 0 }, { name := "LOG2_ARRAY_INT_INDEX_SCALE", type := .int, accessFlags := 25, slot := 6, constantValue := 0 }, { name := "LOG2_ARRAY_LONG_INDEX_SCALE", type := .int, accessFlags := 25, slot := 7, constantValue := 0 }, { name := "LOG2_ARRAY_FLOAT_INDEX_SCALE", type := .int, accessFlags := 25, slot := 8, constantValue := 0 }, { name := "LOG2_ARRAY_DOUBLE_INDEX_SCALE", type := .int, accessFlags := 25, slot := 9, constantValue := 0 }, { name := "LOG2_BYTE_BIT_SIZE", type := .int, accessFlags := 26, slot := 10, constantValue := 0 }, { name := "T_BOOLEAN", type := .int, accessFlags := 25, slot := 11, constantValue := 0 }, { name := "T_CHAR", type := .int, accessFlags := 25, slot := 12, constantValue := 0 }, { name := "T_FLOAT", type := .int, accessFlags := 25, slot := 13, constantValue := 0 }, { name := "T_DOUBLE", type := .int, accessFlags := 25, slot := 14, constantValue := 0 }, { name := "T_BYTE", type := .int, accessFlags := 25, slot := 15, constantValue := 0 }, { name := "T_SHORT", type := .int, accessFlags := 25, slot := 16, constantValue := 0 }, { name := "T_INT", type := .int, accessFlags := 25, slot := 17, constantValue := 0 }, { name := "T_LONG", type := .int, accessFlags := 25, slot := 18, constantValue := 0 }, { name := "JLA", type := (.object "jdk/internal/access/JavaLangAccess"), accessFlags := 26, slot := 19, constantValue := 0 }, { name := "SOFT_MAX_ARRAY_LENGTH", type := .int, accessFlags := 25, slot := 20, constantValue := 0 }]
  methods := #[k16m0, k16m1]
  instanceTypes := #[]
  staticTypes := #[(.object "jdk/internal/misc/Unsafe"), .boolean, .int, .int, .int, .int, .int, .int, .int, .int, .int, .int, .int, .int, .int, .int, .int, .int, .int, (.object "jdk/internal/access/JavaLangAccess"), .int]
  resolved := Array.replicate 378 none
  statics := none }

def pool17 : Array CpInfo := pool [(1, .class_ 2), (0, u "java/lang/Math"), (1, .class_ 6), (1, u "java/lang/Object"), (0, u "<init>"), (0, u "()V"), (89, .class_ 100), (1, u "java/lang/Math$RandomNumberGeneratorHolder"), (71, u "negativeZeroFloatBits"), (0, u "J"), (2, u "negativeZeroDoubleBits"), (21, u "max"), (2, u "min"), (43, u "$assertionsDisabled"), (0, u "Z"), (88, u "(II)I"), (2, u "twoToTheDoubleScaleDown"), (0, u "D"), (4, u "twoToTheDoubleScaleUp"), (9, u "E"), (3, u "PI"), (2, u "TAU"), (2, u "DEGREES_TO_RADIANS"), (0, u "RADIANS_TO_DEGREES")] 94

def k17m0 : Method := { name := "<init>", desc := "()V", sig := { parameters := [], returnType := none }, accessFlags := 2, code := none }
def k17c1 : Code := { maxStack := 2, maxLocals := 2, code := jdk_29_method_65_code, exceptionTable := #[], attributes := #[] }
def k17m1 : Method := { name := "max", desc := "(II)I", sig := { parameters := [.int, .int], returnType := some .int }, accessFlags := 9, code := some k17c1 }
def k17c2 : Code := { maxStack := 2, maxLocals := 2, code := jdk_29_method_69_code, exceptionTable := #[], attributes := #[] }
def k17m2 : Method := { name := "min", desc := "(II)I", sig := { parameters := [.int, .int], returnType := some .int }, accessFlags := 9, code := some k17c2 }
/-- java/lang/Math -/
def k17 : Class := { plain "java/lang/Math" (some 0) with
  accessFlags := 49
  interfaces := #[]
  cf := some (fileOf pool17 1 #[.nestMembers #[98]] #[{ accessFlags := 2, nameIndex := 7, descriptorIndex := 8, attributes := #[] }, { accessFlags := 9, nameIndex := 198, descriptorIndex := 335, attributes := #[] }, { accessFlags := 9, nameIndex := 201, descriptorIndex := 335, attributes := #[] }] 49 4 #[] #[{ accessFlags := 25, nameIndex := 354, descriptorIndex := 339, attributes := #[] }, { accessFlags := 25, nameIndex := 358, descriptorIndex := 339, attributes := #[] }, { accessFlags := 25, nameIndex := 361, descriptorIndex := 339, attributes := #[] }, { accessFlags := 26, nameIndex := 364, descriptorIndex := 339, attributes := #[] }, { accessFlags := 26, nameIndex := 365, descriptorIndex := 339, attributes := #[] }, { accessFlags := 26, nameIndex := 172, descriptorIndex := 173, attributes := #[] }, { accessFlags := 26, nameIndex := 176, descriptorIndex := 173, attributes := #[] }, { accessFlags := 8, nameIndex := 344, descriptorIndex := 339, attributes := #[] }, { accessFlags := 8, nameIndex := 338, descriptorIndex := 339, attributes := #[] }, { accessFlags := 4120, nameIndex := 245, descriptorIndex := 246, attributes := #[] }])
  fields := #[{ name := "E", type := .double, accessFlags := 25, slot := 0, constantValue := 0 }, { name := "PI", type := .double, accessFlags := 25, slot := 1, constantValue := 0 }, { name := "TAU", type := .double, accessFlags := 25, slot := 2, constantValue := 0 }, { name := "DEGREES_TO_RADIANS", type := .double, accessFlags := 26, slot := 3, constantValue := 0 }, { name := "RADIANS_TO_DEGREES", type := .double, accessFlags := 26, slot := 4, constantValue := 0 }, { name := "negativeZeroFloatBits", type := .long, accessFlags := 26, slot := 5, constantValue := 0 }, { name := "negativeZeroDoubleBits", type := .long, accessFlags := 26, slot := 6, constantValue := 0 }, { name := "twoToTheDoubleScaleUp", type := .double, accessFlags := 8, slot := 7, constantValue := 0 }, { name := "twoToTheDoubleScaleDown", type := .double, accessFlags := 8, slot := 8, constantValue := 0 }, { name := "$assertionsDisabled", type := .boolean, accessFlags := 4120, slot := 9, constantValue := 0 }]
  methods := #[k17m0, k17m1, k17m2]
  instanceTypes := #[]
  staticTypes := #[.double, .double, .double, .double, .double, .long, .long, .double, .double, .boolean]
  resolved := Array.replicate 460 none
  statics := none }

def pool18 : Array CpInfo := pool [(2, .class_ 4), (1, u "java/lang/Object"), (0, u "<init>"), (0, u "()V"), (7, .class_ 16), (1, u "java/util/Arrays"), (57, .class_ 76), (1, u "java/util/Arrays$NaturalOrder"), (36, .class_ 115), (1, u "java/util/Arrays$LegacyMergeSort"), (1, u "Z"), (21, u "copyOfRange"), (10, .methodref 151 152), (0, .class_ 153), (0, .nameAndType 154 155), (0, u "java/lang/System"), (0, u "arraycopy"), (0, u "(Ljava/lang/Object;ILjava/lang/Object;II)V"), (146, u "copyOf"), (1, .methodref 305 306), (0, .class_ 307), (0, .nameAndType 308 309), (0, u "java/lang/Math"), (0, u "min"), (0, u "(II)I"), (29, .methodref 14 340), (0, .nameAndType 341 342), (0, u "copyOfRangeByte"), (0, u "([BII)[B"), (0, .methodref 14 344), (0, .nameAndType 345 346), (0, u "checkLength"), (0, u "(II)V"), (28, .class_ 376), (0, u "java/util/Arrays$ArrayList"), (68, u "$assertionsDisabled"), (269, u "MIN_ARRAY_SORT_GRAN"), (0, u "I"), (2, u "INSERTIONSORT_THRESHOLD"), (149, u "([BI)[B"), (105, .class_ 976), (0, u "java/util/Arrays$ArrayItr")] 52

def k18m0 : Method := { name := "<init>", desc := "()V", sig := { parameters := [], returnType := none }, accessFlags := 2, code := none }
def k18c1 : Code := { maxStack := 6, maxLocals := 3, code := jdk_65_method_121_code, exceptionTable := #[], attributes := #[] }
def k18m1 : Method := { name := "copyOf", desc := "([BI)[B", sig := { parameters := [(.array .byte), .int], returnType := some (.array .byte) }, accessFlags := 9, code := some k18c1 }
def k18c2 : Code := { maxStack := 4, maxLocals := 2, code := jdk_65_method_131_code, exceptionTable := #[], attributes := #[] }
def k18m2 : Method := { name := "checkLength", desc := "(II)V", sig := { parameters := [.int, .int], returnType := none }, accessFlags := 10, code := some k18c2 }
def k18c3 : Code := { maxStack := 3, maxLocals := 3, code := jdk_65_method_132_code, exceptionTable := #[], attributes := #[] }
def k18m3 : Method := { name := "copyOfRange", desc := "([BII)[B", sig := { parameters := [(.array .byte), .int, .int], returnType := some (.array .byte) }, accessFlags := 9, code := some k18c3 }
def k18c4 : Code := { maxStack := 6, maxLocals := 5, code := jdk_65_method_133_code, exceptionTable := #[], attributes := #[] }
def k18m4 : Method := { name := "copyOfRangeByte", desc := "([BII)[B", sig := { parameters := [(.array .byte), .int, .int], returnType := some (.array .byte) }, accessFlags := 10, code := some k18c4 }
/-- java/util/Arrays -/
def k18 : Class := { plain "java/util/Arrays" (some 0) with
  accessFlags := 49
  interfaces := #[]
  cf := some (fileOf pool18 14 #[.nestMembers #[975, 375, 113, 74]] #[{ accessFlags := 2, nameIndex := 5, descriptorIndex := 6, attributes := #[] }, { accessFlags := 9, nameIndex := 302, descriptorIndex := 869, attributes := #[] }, { accessFlags := 10, nameIndex := 345, descriptorIndex := 346, attributes := #[] }, { accessFlags := 9, nameIndex := 139, descriptorIndex := 342, attributes := #[] }, { accessFlags := 10, nameIndex := 341, descriptorIndex := 342, attributes := #[] }] 49 2 #[] #[{ accessFlags := 26, nameIndex := 715, descriptorIndex := 716, attributes := #[] }, { accessFlags := 26, nameIndex := 719, descriptorIndex := 716, attributes := #[] }, { accessFlags := 4120, nameIndex := 445, descriptorIndex := 117, attributes := #[] }])
  fields := #[{ name := "MIN_ARRAY_SORT_GRAN", type := .int, accessFlags := 26, slot := 0, constantValue := 0 }, { name := "INSERTIONSORT_THRESHOLD", type := .int, accessFlags := 26, slot := 1, constantValue := 0 }, { name := "$assertionsDisabled", type := .boolean, accessFlags := 4120, slot := 2, constantValue := 0 }]
  methods := #[k18m0, k18m1, k18m2, k18m3, k18m4]
  instanceTypes := #[]
  staticTypes := #[.int, .int, .boolean]
  resolved := Array.replicate 1029 none
  statics := none }

def pool19 : Array CpInfo := pool [(2, .class_ 4), (1, u "java/lang/Object"), (0, u "<init>"), (0, u "()V"), (1, .class_ 10), (1, u "java/lang/System"), (0, u "allowSecurityManager"), (0, u "I"), (16, u "cons"), (0, u "Ljava/io/Console;"), (77, .class_ 110), (1, u "java/lang/System$CallersHolder"), (43, u "initialErrStream"), (0, u "Ljava/io/PrintStream;"), (19, u "security"), (0, u "Ljava/lang/SecurityManager;"), (31, .class_ 209), (0, u "java/lang/System$1"), (7, u "props"), (0, u "Ljava/util/Properties;"), (2, u "lineSeparator"), (0, u "Ljava/lang/String;"), (96, .class_ 321), (1, u "java/lang/System$LoggerFinder"), (5, .class_ 328), (0, u "java/lang/System$Logger"), (67, u "err"), (2, u "out"), (91, u "notSupportedJnuEncoding"), (15, u "in"), (17, u "initialIn"), (0, u "Ljava/io/InputStream;"), (35, u "bootLayer"), (0, u "Ljava/lang/ModuleLayer;"), (99, .class_ 664), (0, u "java/lang/System$2"), (9, u "NEVER"), (2, u "MAYBE"), (49, u "arraycopy"), (0, u "(Ljava/lang/Object;ILjava/lang/Object;II)V"), (72, .class_ 802), (0, u "java/lang/System$Logger$Level")] 31

def k19m0 : Method := { name := "<init>", desc := "()V", sig := { parameters := [], returnType := none }, accessFlags := 2, code := none }
def k19m1 : Method := { name := "arraycopy", desc := "(Ljava/lang/Object;ILjava/lang/Object;II)V", sig := { parameters := [(.object "java/lang/Object"), .int, (.object "java/lang/Object"), .int, .int], returnType := none }, accessFlags := 265, code := none }
/-- java/lang/System -/
def k19 : Class := { plain "java/lang/System" (some 0) with
  accessFlags := 49
  interfaces := #[]
  cf := some (fileOf pool19 8 #[.nestMembers #[319, 327, 801, 108, 663, 208]] #[{ accessFlags := 2, nameIndex := 5, descriptorIndex := 6, attributes := #[] }, { accessFlags := 265, nameIndex := 727, descriptorIndex := 728, attributes := #[] }] 49 2 #[] #[{ accessFlags := 25, nameIndex := 507, descriptorIndex := 526, attributes := #[] }, { accessFlags := 25, nameIndex := 399, descriptorIndex := 155, attributes := #[] }, { accessFlags := 25, nameIndex := 396, descriptorIndex := 155, attributes := #[] }, { accessFlags := 10, nameIndex := 525, descriptorIndex := 526, attributes := #[] }, { accessFlags := 26, nameIndex := 674, descriptorIndex := 12, attributes := #[] }, { accessFlags := 26, nameIndex := 677, descriptorIndex := 12, attributes := #[] }, { accessFlags := 10, nameIndex := 11, descriptorIndex := 12, attributes := #[] }, { accessFlags := 74, nameIndex := 175, descriptorIndex := 176, attributes := #[] }, { accessFlags := 10, nameIndex := 491, descriptorIndex := 222, attributes := #[] }, { accessFlags := 74, nameIndex := 29, descriptorIndex := 30, attributes := #[] }, { accessFlags := 74, nameIndex := 154, descriptorIndex := 155, attributes := #[] }, { accessFlags := 10, nameIndex := 217, descriptorIndex := 218, attributes := #[] }, { accessFlags := 10, nameIndex := 221, descriptorIndex := 222, attributes := #[] }, { accessFlags := 8, nameIndex := 562, descriptorIndex := 563, attributes := #[] }])
  fields := #[{ name := "in", type := (.object "java/io/InputStream"), accessFlags := 25, slot := 0, constantValue := 0 }, { name := "out", type := (.object "java/io/PrintStream"), accessFlags := 25, slot := 1, constantValue := 0 }, { name := "err", type := (.object "java/io/PrintStream"), accessFlags := 25, slot := 2, constantValue := 0 }, { name := "initialIn", type := (.object "java/io/InputStream"), accessFlags := 10, slot := 3, constantValue := 0 }, { name := "NEVER", type := .int, accessFlags := 26, slot := 4, constantValue := 0 }, { name := "MAYBE", type := .int, accessFlags := 26, slot := 5, constantValue := 0 }, { name := "allowSecurityManager", type := .int, accessFlags := 10, slot := 6, constantValue := 0 }, { name := "security", type := (.object "java/lang/SecurityManager"), accessFlags := 74, slot := 7, constantValue := 0 }, { name := "notSupportedJnuEncoding", type := (.object "java/lang/String"), accessFlags := 10, slot := 8, constantValue := 0 }, { name := "cons", type := (.object "java/io/Console"), accessFlags := 74, slot := 9, constantValue := 0 }, { name := "initialErrStream", type := (.object "java/io/PrintStream"), accessFlags := 74, slot := 10, constantValue := 0 }, { name := "props", type := (.object "java/util/Properties"), accessFlags := 10, slot := 11, constantValue := 0 }, { name := "lineSeparator", type := (.object "java/lang/String"), accessFlags := 10, slot := 12, constantValue := 0 }, { name := "bootLayer", type := (.object "java/lang/ModuleLayer"), accessFlags := 8, slot := 13, constantValue := 0 }]
  methods := #[k19m0, k19m1]
  instanceTypes := #[]
  staticTypes := #[(.object "java/io/InputStream"), (.object "java/io/PrintStream"), (.object "java/io/PrintStream"), (.object "java/io/InputStream"), .int, .int, .int, (.object "java/lang/SecurityManager"), (.object "java/lang/String"), (.object "java/io/Console"), (.object "java/io/PrintStream"), (.object "java/util/Properties"), (.object "java/lang/String"), (.object "java/lang/ModuleLayer")]
  resolved := Array.replicate 834 none
  statics := none }

def pool20 : Array CpInfo := pool [(4, .class_ 6), (1, u "java/lang/Object"), (0, u "<init>"), (0, u "()V"), (5, .class_ 16), (1, u "java/lang/StringLatin1"), (104, u "$assertionsDisabled"), (0, u "Z"), (98, .class_ 223), (1, u "java/lang/StringLatin1$LinesSpliterator"), (57, u "equals"), (0, u "([B[B)Z"), (107, .class_ 391), (0, u "java/lang/StringLatin1$CharsSpliterator")] 3

def k20m0 : Method := { name := "<init>", desc := "()V", sig := { parameters := [], returnType := none }, accessFlags := 0, code := none }
def k20c1 : Code := { maxStack := 3, maxLocals := 3, code := jdk_43_method_13_code, exceptionTable := #[], attributes := #[] }
def k20m1 : Method := { name := "equals", desc := "([B[B)Z", sig := { parameters := [(.array .byte), (.array .byte)], returnType := some .boolean }, accessFlags := 9, code := some k20c1 }
/-- java/lang/StringLatin1 -/
def k20 : Class := { plain "java/lang/StringLatin1" (some 0) with
  accessFlags := 48
  interfaces := #[]
  cf := some (fileOf pool20 14 #[.nestMembers #[390, 221]] #[{ accessFlags := 0, nameIndex := 7, descriptorIndex := 8, attributes := #[] }, { accessFlags := 9, nameIndex := 281, descriptorIndex := 282, attributes := #[] }] 48 4 #[] #[{ accessFlags := 4120, nameIndex := 121, descriptorIndex := 122, attributes := #[] }])
  fields := #[{ name := "$assertionsDisabled", type := .boolean, accessFlags := 4120, slot := 0, constantValue := 0 }]
  methods := #[k20m0, k20m1]
  instanceTypes := #[]
  staticTypes := #[.boolean]
  resolved := Array.replicate 395 none
  statics := none }

def pool21 : Array CpInfo := pool [(2, .class_ 4), (1, u "java/lang/Object"), (0, u "<init>"), (0, u "()V"), (17, .class_ 26), (1, u "jdk/internal/util/Preconditions"), (28, .class_ 56), (0, u "jdk/internal/util/Preconditions$4"), (57, .class_ 115), (0, u "jdk/internal/util/Preconditions$1"), (7, u "SIOOBE_FORMATTER"), (0, u "Ljava/util/function/BiFunction;"), (0, .class_ 126), (0, u "jdk/internal/util/Preconditions$2"), (3, u "AIOOBE_FORMATTER"), (0, .class_ 132), (0, u "jdk/internal/util/Preconditions$3"), (3, u "IOOBE_FORMATTER")] 57

def k21m0 : Method := { name := "<init>", desc := "()V", sig := { parameters := [], returnType := none }, accessFlags := 1, code := none }
/-- jdk/internal/util/Preconditions -/
def k21 : Class := { plain "jdk/internal/util/Preconditions" (some 0) with
  accessFlags := 33
  interfaces := #[]
  cf := some (fileOf pool21 24 #[.nestMembers #[55, 131, 125, 114]] #[{ accessFlags := 1, nameIndex := 5, descriptorIndex := 6, attributes := #[] }] 33 2 #[] #[{ accessFlags := 25, nameIndex := 123, descriptorIndex := 124, attributes := #[] }, { accessFlags := 25, nameIndex := 130, descriptorIndex := 124, attributes := #[] }, { accessFlags := 25, nameIndex := 136, descriptorIndex := 124, attributes := #[] }])
  fields := #[{ name := "SIOOBE_FORMATTER", type := (.object "java/util/function/BiFunction"), accessFlags := 25, slot := 0, constantValue := 0 }, { name := "AIOOBE_FORMATTER", type := (.object "java/util/function/BiFunction"), accessFlags := 25, slot := 1, constantValue := 0 }, { name := "IOOBE_FORMATTER", type := (.object "java/util/function/BiFunction"), accessFlags := 25, slot := 2, constantValue := 0 }]
  methods := #[k21m0]
  instanceTypes := #[]
  staticTypes := #[(.object "java/util/function/BiFunction"), (.object "java/util/function/BiFunction"), (.object "java/util/function/BiFunction")]
  resolved := Array.replicate 194 none
  statics := some 2 }

def pool22 : Array CpInfo := pool [(2, .class_ 4), (1, u "java/lang/Object"), (0, u "<init>"), (0, u "()V"), (12, .class_ 20), (0, u "java/util/Collections"), (63, u "r"), (0, u "Ljava/util/Random;"), (80, .class_ 167), (0, u "java/util/Collections$UnmodifiableCollection"), (6, .class_ 175), (0, u "java/util/Collections$UnmodifiableSequencedCollection"), (6, .class_ 183), (0, u "java/util/Collections$UnmodifiableSet"), (6, .class_ 191), (0, u "java/util/Collections$UnmodifiableSequencedSet"), (6, .class_ 199), (0, u "java/util/Collections$UnmodifiableSortedSet"), (6, .class_ 207), (0, u "java/util/Collections$UnmodifiableNavigableSet"), (4, .class_ 213), (0, u "java/util/Collections$UnmodifiableList"), (1, .class_ 216), (0, u "java/util/Collections$UnmodifiableRandomAccessList"), (6, .class_ 224), (0, u "java/util/Collections$UnmodifiableMap"), (6, .class_ 232), (0, u "java/util/Collections$UnmodifiableSequencedMap"), (4, .class_ 238), (0, u "java/util/Collections$UnmodifiableSortedMap"), (6, .class_ 246), (0, u "java/util/Collections$UnmodifiableNavigableMap"), (3, .class_ 251), (0, u "java/util/Collections$SynchronizedCollection"), (4, .class_ 257), (0, u "java/util/Collections$SynchronizedSet"), (4, .class_ 263), (0, u "java/util/Collections$SynchronizedSortedSet"), (1, .class_ 266), (0, u "java/util/Collections$SynchronizedNavigableSet"), (1, .class_ 269), (0, u "java/util/Collections$SynchronizedRandomAccessList"), (1, .class_ 272), (0, u "java/util/Collections$SynchronizedList"), (5, .class_ 279), (0, u "java/util/Collections$SynchronizedMap"), (1, .class_ 282), (0, u "java/util/Collections$SynchronizedSortedMap"), (1, .class_ 285), (0, u "java/util/Collections$SynchronizedNavigableMap"), (1, .class_ 288), (0, u "java/util/Collections$CheckedCollection"), (11, .class_ 301), (0, u "java/util/Collections$CheckedQueue"), (3, .class_ 306), (0, u "java/util/Collections$CheckedSet"), (3, .class_ 311), (0, u "java/util/Collections$CheckedSortedSet"), (3, .class_ 316), (0, u "java/util/Collections$CheckedNavigableSet"), (3, .class_ 321), (0, u "java/util/Collections$CheckedRandomAccessList"), (3, .class_ 326), (0, u "java/util/Collections$CheckedList"), (1, .class_ 329), (0, u "java/util/Collections$CheckedMap"), (3, .class_ 334), (0, u "java/util/Collections$CheckedSortedMap"), (3, .class_ 339), (0, u "java/util/Collections$CheckedNavigableMap"), (4, .class_ 346), (1, u "java/util/Collections$EmptyIterator"), (3, .class_ 352), (1, u "java/util/Collections$EmptyListIterator"), (2, .class_ 357), (1, u "java/util/Collections$EmptyEnumeration"), (4, u "EMPTY_SET"), (0, u "Ljava/util/Set;"), (6, u "EMPTY_LIST"), (0, u "Ljava/util/List;"), (2, u "EMPTY_MAP"), (0, u "Ljava/util/Map;"), (4, .class_ 381), (0, u "java/util/Collections$SingletonSet"), (2, .class_ 385), (0, u "java/util/Collections$1"), (1, .class_ 388), (0, u "java/util/Collections$2"), (1, .class_ 391), (0, u "java/util/Collections$SingletonList"), (1, .class_ 394), (0, u "java/util/Collections$SingletonMap"), (22, .class_ 418), (0, u "java/util/Collections$CopiesList"), (4, .class_ 425), (1, u "java/util/Collections$ReverseComparator"), (8, .class_ 435), (0, u "java/util/Collections$ReverseComparator2"), (6, .class_ 443), (0, u "java/util/Collections$3"), (25, .class_ 470), (0, u "java/util/Collections$SetFromMap"), (2, .class_ 474), (0, u "java/util/Collections$SequencedSetFromMap"), (3, .class_ 479), (0, u "java/util/Collections$AsLIFOQueue"), (11, .class_ 492), (0, u "java/util/Collections$EmptySet"), (1, .class_ 495), (0, u "java/util/Collections$EmptyList"), (1, .class_ 498), (0, u "java/util/Collections$EmptyMap"), (1, u "BINARYSEARCH_THRESHOLD"), (0, u "I"), (2, u "REVERSE_THRESHOLD"), (1, u "SHUFFLE_THRESHOLD"), (1, u "FILL_THRESHOLD"), (1, u "ROTATE_THRESHOLD"), (1, u "COPY_THRESHOLD"), (1, u "REPLACEALL_THRESHOLD"), (1, u "INDEXOFSUBLIST_THRESHOLD"), (333, .class_ 851), (0, u "java/util/Collections$CheckedMap$CheckedEntrySet"), (0, .class_ 853), (0, u "java/util/Collections$CheckedMap$CheckedEntrySet$CheckedEntry"), (0, .class_ 855), (0, u "java/util/Collections$CheckedMap$CheckedEntrySet$1"), (0, .class_ 857), (0, u "java/util/Collections$CheckedList$1"), (0, .class_ 859), (0, u "java/util/Collections$CheckedCollection$1"), (0, .class_ 861), (0, u "java/util/Collections$UnmodifiableNavigableMap$EmptyNavigableMap"), (0, .class_ 863), (0, u "java/util/Collections$UnmodifiableMap$UnmodifiableEntrySet"), (0, .class_ 865), (0, u "java/util/Collections$UnmodifiableMap$UnmodifiableEntrySet$UnmodifiableEntry"), (0, .class_ 867), (0, u "java/util/Collections$UnmodifiableMap$UnmodifiableEntrySet$UnmodifiableEntrySetSpliterator"), (0, .class_ 869), (0, u "java/util/Collections$UnmodifiableMap$UnmodifiableEntrySet$1"), (0, .class_ 871), (0, u "java/util/Collections$UnmodifiableList$1"), (0, .class_ 873), (0, u "java/util/Collections$UnmodifiableNavigableSet$EmptyNavigableSet"), (0, .class_ 875), (0, u "java/util/Collections$UnmodifiableCollection$1")] 57

def k22m0 : Method := { name := "<init>", desc := "()V", sig := { parameters := [], returnType := none }, accessFlags := 2, code := none }
/-- java/util/Collections -/
def k22 : Class := { plain "java/util/Collections" (some 0) with
  accessFlags := 33
  interfaces := #[]
  cf := some (fileOf pool22 19 #[.nestMembers #[478, 473, 469, 434, 423, 417, 393, 390, 380, 497, 494, 491, 355, 350, 344, 338, 333, 328, 850, 852, 854, 320, 325, 856, 315, 310, 305, 300, 287, 858, 284, 281, 278, 268, 271, 265, 262, 256, 250, 245, 860, 237, 231, 223, 862, 864, 866, 868, 215, 212, 870, 206, 872, 198, 190, 182, 174, 166, 874, 442, 387, 384]] #[{ accessFlags := 2, nameIndex := 5, descriptorIndex := 6, attributes := #[] }] 33 2 #[] #[{ accessFlags := 26, nameIndex := 500, descriptorIndex := 501, attributes := #[] }, { accessFlags := 26, nameIndex := 504, descriptorIndex := 501, attributes := #[] }, { accessFlags := 26, nameIndex := 506, descriptorIndex := 501, attributes := #[] }, { accessFlags := 26, nameIndex := 508, descriptorIndex := 501, attributes := #[] }, { accessFlags := 26, nameIndex := 510, descriptorIndex := 501, attributes := #[] }, { accessFlags := 26, nameIndex := 512, descriptorIndex := 501, attributes := #[] }, { accessFlags := 26, nameIndex := 514, descriptorIndex := 501, attributes := #[] }, { accessFlags := 26, nameIndex := 516, descriptorIndex := 501, attributes := #[] }, { accessFlags := 10, nameIndex := 84, descriptorIndex := 85, attributes := #[] }, { accessFlags := 25, nameIndex := 362, descriptorIndex := 363, attributes := #[] }, { accessFlags := 25, nameIndex := 370, descriptorIndex := 371, attributes := #[] }, { accessFlags := 25, nameIndex := 374, descriptorIndex := 375, attributes := #[] }])
  fields := #[{ name := "BINARYSEARCH_THRESHOLD", type := .int, accessFlags := 26, slot := 0, constantValue := 0 }, { name := "REVERSE_THRESHOLD", type := .int, accessFlags := 26, slot := 1, constantValue := 0 }, { name := "SHUFFLE_THRESHOLD", type := .int, accessFlags := 26, slot := 2, constantValue := 0 }, { name := "FILL_THRESHOLD", type := .int, accessFlags := 26, slot := 3, constantValue := 0 }, { name := "ROTATE_THRESHOLD", type := .int, accessFlags := 26, slot := 4, constantValue := 0 }, { name := "COPY_THRESHOLD", type := .int, accessFlags := 26, slot := 5, constantValue := 0 }, { name := "REPLACEALL_THRESHOLD", type := .int, accessFlags := 26, slot := 6, constantValue := 0 }, { name := "INDEXOFSUBLIST_THRESHOLD", type := .int, accessFlags := 26, slot := 7, constantValue := 0 }, { name := "r", type := (.object "java/util/Random"), accessFlags := 10, slot := 8, constantValue := 0 }, { name := "EMPTY_SET", type := (.object "java/util/Set"), accessFlags := 25, slot := 9, constantValue := 0 }, { name := "EMPTY_LIST", type := (.object "java/util/List"), accessFlags := 25, slot := 10, constantValue := 0 }, { name := "EMPTY_MAP", type := (.object "java/util/Map"), accessFlags := 25, slot := 11, constantValue := 0 }]
  methods := #[k22m0]
  instanceTypes := #[]
  staticTypes := #[.int, .int, .int, .int, .int, .int, .int, .int, (.object "java/util/Random"), (.object "java/util/Set"), (.object "java/util/List"), (.object "java/util/Map")]
  resolved := Array.replicate 933 none
  statics := some 3 }

def pool23 : Array CpInfo := pool [(8, .class_ 10), (1, u "java/lang/Iterable"), (24, .class_ 36), (0, u "java/lang/Object")] 25

/-- java/lang/Iterable -/
def k23 : Class := { plain "java/lang/Iterable" (some 0) with
  accessFlags := 1537
  interfaces := #[]
  cf := some (fileOf pool23 8 #[] #[] 1537 35 #[] #[])
  fields := #[]
  methods := #[]
  instanceTypes := #[]
  staticTypes := #[]
  resolved := Array.replicate 62 none
  statics := none }

def pool24 : Array CpInfo := pool [(10, .class_ 12), (1, u "java/util/Collection"), (47, .class_ 61), (0, u "java/lang/Object"), (0, .class_ 63), (0, u "java/lang/Iterable")] 51

/-- java/util/Collection -/
def k24 : Class := { plain "java/util/Collection" (some 0) with
  accessFlags := 1537
  interfaces := #[23]
  cf := some (fileOf pool24 10 #[] #[] 1537 60 #[62] #[])
  fields := #[]
  methods := #[]
  instanceTypes := #[]
  staticTypes := #[]
  resolved := Array.replicate 115 none
  statics := none }

def pool25 : Array CpInfo := pool [(2, .class_ 4), (1, u "java/lang/Object"), (0, u "<init>"), (0, u "()V"), (1, .class_ 10), (1, u "java/util/AbstractCollection"), (66, .class_ 78), (0, u "java/util/Collection")] 81

def k25m0 : Method := { name := "<init>", desc := "()V", sig := { parameters := [], returnType := none }, accessFlags := 4, code := none }
/-- java/util/AbstractCollection -/
def k25 : Class := { plain "java/util/AbstractCollection" (some 0) with
  accessFlags := 1057
  interfaces := #[24]
  cf := some (fileOf pool25 8 #[] #[{ accessFlags := 4, nameIndex := 5, descriptorIndex := 6, attributes := #[] }] 1057 2 #[77] #[])
  fields := #[]
  methods := #[k25m0]
  instanceTypes := #[]
  staticTypes := #[]
  resolved := Array.replicate 160 none
  statics := none }

def pool26 : Array CpInfo := pool [(8, .class_ 10), (1, u "java/util/SequencedCollection"), (15, .class_ 27), (0, u "java/lang/Object"), (0, .class_ 29), (0, u "java/util/Collection")] 27

/-- java/util/SequencedCollection -/
def k26 : Class := { plain "java/util/SequencedCollection" (some 0) with
  accessFlags := 1537
  interfaces := #[24]
  cf := some (fileOf pool26 8 #[] #[] 1537 26 #[28] #[])
  fields := #[]
  methods := #[]
  instanceTypes := #[]
  staticTypes := #[]
  resolved := Array.replicate 57 none
  statics := none }

def pool27 : Array CpInfo := pool [(8, .class_ 10), (1, u "java/util/List"), (92, .class_ 104), (0, u "java/lang/Object"), (15, .class_ 121), (0, u "java/util/SequencedCollection")] 129

/-- java/util/List -/
def k27 : Class := { plain "java/util/List" (some 0) with
  accessFlags := 1537
  interfaces := #[26]
  cf := some (fileOf pool27 8 #[] #[] 1537 103 #[120] #[])
  fields := #[]
  methods := #[]
  instanceTypes := #[]
  staticTypes := #[]
  resolved := Array.replicate 251 none
  statics := none }

def pool28 : Array CpInfo := pool [(2, .class_ 4), (1, u "java/util/AbstractCollection"), (0, u "<init>"), (0, u "()V"), (1, .class_ 10), (1, u "java/util/AbstractList"), (0, u "modCount"), (0, u "I"), (64, .class_ 78), (0, u "java/util/AbstractList$Itr"), (3, .class_ 83), (0, u "java/util/AbstractList$ListItr"), (9, .class_ 94), (0, u "java/util/AbstractList$RandomAccessSubList"), (3, .class_ 99), (0, u "java/util/AbstractList$SubList"), (33, .class_ 134), (0, u "java/util/List"), (73, .class_ 209), (0, u "java/util/AbstractList$SubList$1"), (0, .class_ 211), (0, u "java/util/AbstractList$RandomAccessSpliterator")] 6

def k28m0 : Method := { name := "<init>", desc := "()V", sig := { parameters := [], returnType := none }, accessFlags := 4, code := none }
/-- java/util/AbstractList -/
def k28 : Class := { plain "java/util/AbstractList" (some 25) with
  accessFlags := 1057
  interfaces := #[27]
  cf := some (fileOf pool28 8 #[.nestMembers #[93, 98, 208, 210, 82, 77]] #[{ accessFlags := 4, nameIndex := 5, descriptorIndex := 6, attributes := #[] }] 1057 2 #[133] #[{ accessFlags := 132, nameIndex := 11, descriptorIndex := 12, attributes := #[] }])
  fields := #[{ name := "modCount", type := .int, accessFlags := 132, slot := 0, constantValue := 0 }]
  methods := #[k28m0]
  instanceTypes := #[.int]
  staticTypes := #[]
  resolved := Array.replicate 218 none
  statics := none }

def pool29 : Array CpInfo := pool [(1, .class_ 2), (0, u "java/util/RandomAccess"), (0, .class_ 4), (0, u "java/lang/Object")] 2

/-- java/util/RandomAccess -/
def k29 : Class := { plain "java/util/RandomAccess" (some 0) with
  accessFlags := 1537
  interfaces := #[]
  cf := some (fileOf pool29 1 #[] #[] 1537 3 #[] #[])
  fields := #[]
  methods := #[]
  instanceTypes := #[]
  staticTypes := #[]
  resolved := Array.replicate 7 none
  statics := none }

def pool30 : Array CpInfo := pool [(2, .class_ 4), (1, u "java/util/AbstractList"), (0, u "<init>"), (0, u "()V"), (1, .class_ 10), (1, u "java/util/Collections"), (54, .class_ 66), (0, u "java/util/Collections$EmptyList"), (0, .class_ 68), (0, u "java/util/RandomAccess"), (0, .class_ 70), (0, u "java/io/Serializable"), (0, u "serialVersionUID"), (0, u "J")] 77

def k30m0 : Method := { name := "<init>", desc := "()V", sig := { parameters := [], returnType := none }, accessFlags := 2, code := none }
/-- java/util/Collections$EmptyList -/
def k30 : Class := { plain "java/util/Collections$EmptyList" (some 28) with
  accessFlags := 32
  interfaces := #[29, 2]
  cf := some (fileOf pool30 65 #[.nestHost 8] #[{ accessFlags := 2, nameIndex := 5, descriptorIndex := 6, attributes := #[] }] 32 2 #[67, 69] #[{ accessFlags := 26, nameIndex := 71, descriptorIndex := 72, attributes := #[] }])
  fields := #[{ name := "serialVersionUID", type := .long, accessFlags := 26, slot := 0, constantValue := 0 }]
  methods := #[k30m0]
  instanceTypes := #[.int]
  staticTypes := #[.long]
  resolved := Array.replicate 150 none
  statics := none }

def pool31 : Array CpInfo := pool [(2, .class_ 4), (1, u "java/lang/StackTraceElement"), (0, u "<init>"), (2, .class_ 10), (1, u "java/lang/Object"), (0, u "()V"), (2, u "format"), (0, u "B"), (2, u "classLoaderName"), (0, u "Ljava/lang/String;"), (2, u "moduleName"), (2, u "moduleVersion"), (12, u "declaringClass"), (4, u "methodName"), (2, u "fileName"), (2, u "lineNumber"), (0, u "I"), (65, u "declaringClassObject"), (0, u "Ljava/lang/Class;"), (33, .class_ 153), (1, u "java/lang/StackTraceElement$HashedModules"), (17, .class_ 172), (0, u "java/io/Serializable"), (0, u "NATIVE_METHOD"), (1, u "UNKNOWN_SOURCE"), (2, u "BUILTIN_CLASS_LOADER"), (1, u "JDK_NON_UPGRADEABLE_MODULE"), (1, u "serialVersionUID"), (0, u "J")] 51

def k31m0 : Method := { name := "<init>", desc := "()V", sig := { parameters := [], returnType := none }, accessFlags := 2, code := none }
/-- java/lang/StackTraceElement -/
def k31 : Class := { plain "java/lang/StackTraceElement" (some 0) with
  accessFlags := 49
  interfaces := #[2]
  cf := some (fileOf pool31 2 #[.nestMembers #[151]] #[{ accessFlags := 2, nameIndex := 5, descriptorIndex := 11, attributes := #[] }] 49 8 #[171] #[{ accessFlags := 26, nameIndex := 173, descriptorIndex := 19, attributes := #[] }, { accessFlags := 26, nameIndex := 175, descriptorIndex := 19, attributes := #[] }, { accessFlags := 130, nameIndex := 116, descriptorIndex := 117, attributes := #[] }, { accessFlags := 2, nameIndex := 18, descriptorIndex := 19, attributes := #[] }, { accessFlags := 2, nameIndex := 22, descriptorIndex := 19, attributes := #[] }, { accessFlags := 2, nameIndex := 25, descriptorIndex := 19, attributes := #[] }, { accessFlags := 2, nameIndex := 38, descriptorIndex := 19, attributes := #[] }, { accessFlags := 2, nameIndex := 43, descriptorIndex := 19, attributes := #[] }, { accessFlags := 2, nameIndex := 46, descriptorIndex := 19, attributes := #[] }, { accessFlags := 2, nameIndex := 49, descriptorIndex := 50, attributes := #[] }, { accessFlags := 2, nameIndex := 14, descriptorIndex := 15, attributes := #[] }, { accessFlags := 26, nameIndex := 178, descriptorIndex := 15, attributes := #[] }, { accessFlags := 26, nameIndex := 180, descriptorIndex := 15, attributes := #[] }, { accessFlags := 26, nameIndex := 182, descriptorIndex := 183, attributes := #[] }])
  fields := #[{ name := "NATIVE_METHOD", type := (.object "java/lang/String"), accessFlags := 26, slot := 0, constantValue := 0 }, { name := "UNKNOWN_SOURCE", type := (.object "java/lang/String"), accessFlags := 26, slot := 1, constantValue := 0 }, { name := "declaringClassObject", type := (.object "java/lang/Class"), accessFlags := 130, slot := 0, constantValue := 0 }, { name := "classLoaderName", type := (.object "java/lang/String"), accessFlags := 2, slot := 1, constantValue := 0 }, { name := "moduleName", type := (.object "java/lang/String"), accessFlags := 2, slot := 2, constantValue := 0 }, { name := "moduleVersion", type := (.object "java/lang/String"), accessFlags := 2, slot := 3, constantValue := 0 }, { name := "declaringClass", type := (.object "java/lang/String"), accessFlags := 2, slot := 4, constantValue := 0 }, { name := "methodName", type := (.object "java/lang/String"), accessFlags := 2, slot := 5, constantValue := 0 }, { name := "fileName", type := (.object "java/lang/String"), accessFlags := 2, slot := 6, constantValue := 0 }, { name := "lineNumber", type := .int, accessFlags := 2, slot := 7, constantValue := 0 }, { name := "format", type := .byte, accessFlags := 2, slot := 8, constantValue := 0 }, { name := "BUILTIN_CLASS_LOADER", type := .byte, accessFlags := 26, slot := 2, constantValue := 0 }, { name := "JDK_NON_UPGRADEABLE_MODULE", type := .byte, accessFlags := 26, slot := 3, constantValue := 0 }, { name := "serialVersionUID", type := .long, accessFlags := 26, slot := 4, constantValue := 0 }]
  methods := #[k31m0]
  instanceTypes := #[(.object "java/lang/Class"), (.object "java/lang/String"), (.object "java/lang/String"), (.object "java/lang/String"), (.object "java/lang/String"), (.object "java/lang/String"), (.object "java/lang/String"), .int, .byte]
  staticTypes := #[(.object "java/lang/String"), (.object "java/lang/String"), .byte, .byte, .long]
  resolved := Array.replicate 235 none
  statics := none }

def pool32 : Array CpInfo := pool [(1, u "java/lang/Cloneable"), (0, .class_ 1), (0, u "java/lang/Object"), (0, .class_ 3)] 3

/-- java/lang/Cloneable -/
def k32 : Class := { plain "java/lang/Cloneable" (some 0) with
  accessFlags := 1537
  interfaces := #[]
  cf := some (fileOf pool32 2 #[] #[] 1537 4 #[] #[])
  fields := #[]
  methods := #[]
  instanceTypes := #[]
  staticTypes := #[]
  resolved := Array.replicate 8 none
  statics := none }

/-- the primitive byte -/
def k33 : Class := { plain "byte" none with kind := .primitive 'B', accessFlags := 0x411 }
/-- [B -/
def k34 : Class := { plain "[B" (some 0) with kind := .array 33 .byte, interfaces := #[32, 2], accessFlags := 1041 }

/-- the primitive char -/
def k35 : Class := { plain "char" none with kind := .primitive 'C', accessFlags := 0x411 }
/-- [C -/
def k36 : Class := { plain "[C" (some 0) with kind := .array 35 .char, interfaces := #[32, 2], accessFlags := 1041 }

/-- the primitive int -/
def k37 : Class := { plain "int" none with kind := .primitive 'I', accessFlags := 0x411 }
/-- [I -/
def k38 : Class := { plain "[I" (some 0) with kind := .array 37 .int, interfaces := #[32, 2], accessFlags := 1041 }

/-- [Ljava/lang/Object; -/
def k39 : Class := { plain "[Ljava/lang/Object;" (some 0) with kind := .array 0 (.object "java/lang/Object"), interfaces := #[32, 2], accessFlags := 1041 }

/-- [Ljava/lang/StackTraceElement; -/
def k40 : Class := { plain "[Ljava/lang/StackTraceElement;" (some 0) with kind := .array 31 (.object "java/lang/StackTraceElement"), interfaces := #[32, 2], accessFlags := 1041 }

/-- [Ljava/lang/Throwable; -/
def k41 : Class := { plain "[Ljava/lang/Throwable;" (some 0) with kind := .array 9 (.object "java/lang/Throwable"), interfaces := #[32, 2], accessFlags := 1041 }

def heap : Heap := #[{ cls := 7, slots := #[.long 0, .int 1, .null, .int 0, .null, .int 0, .int 0], vm := .statics 7 },
  { cls := 9, slots := #[.long 0, .ref 4, .ref 5, .null, .null, .null, .null, .ref 6, .int 1], vm := .statics 9 },
  { cls := 21, slots := #[.null, .null, .null], vm := .statics 21 },
  { cls := 22, slots := #[.int 0, .int 0, .int 0, .int 0, .int 0, .int 0, .int 0, .int 0, .null, .null, .ref 5, .null], vm := .statics 22 },
  { cls := 40, slots := #[], vm := .none },
  { cls := 30, slots := #[.int 0], vm := .none },
  { cls := 41, slots := #[], vm := .none }]
def classes : Array Class := #[k0, k1, k2, k3, k4, k5, k6, k7, k8, k9, k10, k11, k12, k13, k14, k15, k16, k17, k18, k19, k20, k21, k22, k23, k24, k25, k26, k27, k28, k29, k30, k31, k32, k33, k34, k35, k36, k37, k38, k39, k40, k41]
def interned : List (Array UInt16 × Addr) := []
def slotsUsed : Nat := 32
def theMethod : MethodId := ⟨1, 1⟩
def args0 : Array Value := #[.int 5, .int 6, .int 7, .int 8, .int 9]
def aboutOver (below : List Frame) : State where
  vm := { classes := classes, interned := interned.toArray }
  heap := heap
  slotsUsed := slotsUsed
  threads := #[{ frames := .invoking theMethod args0 :: below }]
def below0 : List Frame := [.native { method := ⟨0, 0⟩, args := #[] }]
def about1 : State := aboutOver below0
def p0 : Program := .bare "" "" ""
def e0 : Env := launch0.env 0 0 0
theorem w_frames : about1.frames = Frame.invoking theMethod args0 :: below0 := rfl
set_option maxRecDepth 65536 in
theorem w_args : argsFit about1.vm theMethod args0 = true := by decide +kernel
set_option maxRecDepth 65536 in
theorem w_heap : heapFits about1 = true := by decide +kernel
set_option maxRecDepth 65536 in
theorem w_runnable : about1.curStatus? = some .runnable := by decide +kernel
set_option maxRecDepth 65536 in
theorem w_alone : about1.alone = true := by decide +kernel
set_option maxRecDepth 65536 in
theorem w_named : about1.methodNamed? x = some theMethod := by decide +kernel
set_option maxRecDepth 65536 in
theorem w_hears : about1.hears theMethod below0 = true := by decide +kernel
set_option maxRecDepth 65536 in
theorem w_ripe : about1.ripe theMethod args0 below0 = true := by decide +kernel
theorem w_running : about1.status = .running := rfl
set_option maxRecDepth 65536 in
theorem w_room : about1.hasRoom e0.platform room_1 = true :=
  launch0.hasRoom_least _ room_1 (by decide +kernel) (by decide +kernel) (by decide +kernel) (by decide +kernel) (by decide +kernel) (by decide +kernel)
theorem allAtoms_all (ts : List Jvm.Cond) (a : Array Jvm.Value) (st : Jvm.State) : (allAtoms ts).before a st = ts.all (fun c => c.before a st) := by
  induction ts with
  | nil => rfl
  | cons c t ih =>
    show (Jvm.Cond.and c (allAtoms t)).before a st = _
    rw [Jvm.Cond.before_and, ih, List.all_cons]
def words1 : List Jvm.Cond := Jvm.Cond.code x code maxLocals ret :: tables_1
/-- a 'code' word, met by the world's own term for the bytes: nothing is compared byte by byte -/
theorem code_word {y : MethodName} {bytes : ByteArray} {mx : Nat} {rt : Option FieldType} {a : Array Value} {s : State} {m : MethodId} {meth : Method} {c : Code} (h1 : s.methodNamed? y = some m) (h2 : s.vm.method? m = some meth) (h3 : meth.code = some c) (h4 : c.code = bytes)
    (h5 : (c.maxLocals == mx && c.exceptionTable.isEmpty && decide (c.maxStack ≤ mostOperands) && decide (meth.sig.returnType = rt) && !meth.locks && decide (parseMethodDescriptor y.desc = some meth.sig)) = true) : (Jvm.Cond.code y bytes mx rt).before a s = true := by
  simp only [Bool.and_eq_true, beq_iff_eq, Bool.not_eq_true', decide_eq_true_eq] at h5
  obtain ⟨⟨⟨⟨⟨g1, g2⟩, g3⟩, g4⟩, g5⟩, g6⟩ := h5
  simp [Cond.before, Cond.holds, Cond.value, h1, h2, h3, h4, g1, g2, g3, g4, g5, g6]
def isCode : Jvm.Cond → Bool
  | .code _ _ _ _ => true
  | _ => false
theorem all_split {L : List Jvm.Cond} {P : Jvm.Cond → Bool} (h1 : L.all (fun c => isCode c || P c) = true) (h2 : ∀ c ∈ L.filter isCode, P c = true) : L.all P = true := by
  refine List.all_eq_true.mpr fun c hc => ?_
  have h := List.all_eq_true.mp h1 c hc
  rcases Bool.eq_false_or_eq_true (isCode c) with hi | hi
  · exact h2 c (List.mem_filter.mpr ⟨hc, hi⟩)
  · simpa [hi] using h
set_option maxRecDepth 65536 in
theorem w_c0 : (Jvm.Cond.code x code maxLocals ret).before args0 about1 = true := code_word (m := ⟨1, 1⟩) (meth := k1m1) (c := k1c1) (by decide +kernel) rfl rfl rfl (by decide +kernel)
set_option maxRecDepth 65536 in
theorem w_c1 : (Jvm.Cond.code ({ cls := "java/lang/String", name := "<init>", desc := "([C)V" } : Jvm.MethodName) jdk_42_method_3_code (2 : Nat) (Option.none : Option Jvm.ClassFile.FieldType)).before args0 about1 = true := code_word (m := ⟨7, 1⟩) (meth := k7m1) (c := k7c1) (by decide +kernel) rfl rfl rfl (by decide +kernel)
set_option maxRecDepth 65536 in
theorem w_c2 : (Jvm.Cond.code ({ cls := "java/lang/String", name := "<init>", desc := "([CIILjava/lang/Void;)V" } : Jvm.MethodName) jdk_42_method_149_code (6 : Nat) (Option.none : Option Jvm.ClassFile.FieldType)).before args0 about1 = true := code_word (m := ⟨7, 6⟩) (meth := k7m6) (c := k7c6) (by decide +kernel) rfl rfl rfl (by decide +kernel)
set_option maxRecDepth 65536 in
theorem w_c3 : (Jvm.Cond.code ({ cls := "java/lang/Object", name := "<init>", desc := "()V" } : Jvm.MethodName) object_method_1_code (1 : Nat) (Option.none : Option Jvm.ClassFile.FieldType)).before args0 about1 = true := code_word (m := ⟨0, 0⟩) (meth := k0m0) (c := k0c0) (by decide +kernel) rfl rfl rfl (by decide +kernel)
set_option maxRecDepth 65536 in
theorem w_c4 : (Jvm.Cond.code ({ cls := "java/lang/StringUTF16", name := "compress", desc := "([CII)[B" } : Jvm.MethodName) jdk_52_method_16_code (6 : Nat) (Option.some (Jvm.ClassFile.FieldType.array Jvm.ClassFile.FieldType.byte))).before args0 about1 = true := code_word (m := ⟨8, 2⟩) (meth := k8m2) (c := k8c2) (by decide +kernel) rfl rfl rfl (by decide +kernel)
set_option maxRecDepth 65536 in
theorem w_c5 : (Jvm.Cond.code ({ cls := "java/lang/StringUTF16", name := "compress", desc := "([CI[BII)I" } : Jvm.MethodName) jdk_52_method_21_code (7 : Nat) (Option.some Jvm.ClassFile.FieldType.int)).before args0 about1 = true := code_word (m := ⟨8, 3⟩) (meth := k8m3) (c := k8c3) (by decide +kernel) rfl rfl rfl (by decide +kernel)
set_option maxRecDepth 65536 in
theorem w_c6 : (Jvm.Cond.code ({ cls := "java/lang/StringUTF16", name := "coderFromArrayLen", desc := "([BI)B" } : Jvm.MethodName) jdk_52_method_15_code (2 : Nat) (Option.some Jvm.ClassFile.FieldType.byte)).before args0 about1 = true := code_word (m := ⟨8, 1⟩) (meth := k8m1) (c := k8c1) (by decide +kernel) rfl rfl rfl (by decide +kernel)
set_option maxRecDepth 65536 in
theorem w_c7 : (Jvm.Cond.code ({ cls := "com/example/pricewright/pricewright/engine/UnpriceableException", name := "ofSchema", desc := "(Ljava/lang/String;Ljava/lang/String;)Lcom/example/pricewright/pricewright/engine/UnpriceableException;" } : Jvm.MethodName) prog_34_method_4_code (2 : Nat) (Option.some (Jvm.ClassFile.FieldType.object "com/example/pricewright/pricewright/engine/UnpriceableException"))).before args0 about1 = true := code_word (m := ⟨12, 1⟩) (meth := k12m1) (c := k12c1) (by decide +kernel) rfl rfl rfl (by decide +kernel)
set_option maxRecDepth 65536 in
theorem w_c8 : (Jvm.Cond.code ({ cls := "java/lang/StringBuilder", name := "<init>", desc := "()V" } : Jvm.MethodName) jdk_67_method_1_code (1 : Nat) (Option.none : Option Jvm.ClassFile.FieldType)).before args0 about1 = true := code_word (m := ⟨15, 0⟩) (meth := k15m0) (c := k15c0) (by decide +kernel) rfl rfl rfl (by decide +kernel)
set_option maxRecDepth 65536 in
theorem w_c9 : (Jvm.Cond.code ({ cls := "java/lang/AbstractStringBuilder", name := "<init>", desc := "(I)V" } : Jvm.MethodName) jdk_68_method_2_code (2 : Nat) (Option.none : Option Jvm.ClassFile.FieldType)).before args0 about1 = true := code_word (m := ⟨14, 1⟩) (meth := k14m1) (c := k14c1) (by decide +kernel) rfl rfl rfl (by decide +kernel)
set_option maxRecDepth 65536 in
theorem w_c10 : (Jvm.Cond.code ({ cls := "java/lang/StringBuilder", name := "append", desc := "(Ljava/lang/String;)Ljava/lang/StringBuilder;" } : Jvm.MethodName) jdk_67_method_7_code (2 : Nat) (Option.some (Jvm.ClassFile.FieldType.object "java/lang/StringBuilder"))).before args0 about1 = true := code_word (m := ⟨15, 1⟩) (meth := k15m1) (c := k15c1) (by decide +kernel) rfl rfl rfl (by decide +kernel)
set_option maxRecDepth 65536 in
theorem w_c11 : (Jvm.Cond.code ({ cls := "java/lang/AbstractStringBuilder", name := "append", desc := "(Ljava/lang/String;)Ljava/lang/AbstractStringBuilder;" } : Jvm.MethodName) jdk_68_method_22_code (3 : Nat) (Option.some (Jvm.ClassFile.FieldType.object "java/lang/AbstractStringBuilder"))).before args0 about1 = true := code_word (m := ⟨14, 5⟩) (meth := k14m5) (c := k14c5) (by decide +kernel) rfl rfl rfl (by decide +kernel)
set_option maxRecDepth 65536 in
theorem w_c12 : (Jvm.Cond.code ({ cls := "java/lang/String", name := "length", desc := "()I" } : Jvm.MethodName) jdk_42_method_54_code (1 : Nat) (Option.some Jvm.ClassFile.FieldType.int)).before args0 about1 = true := code_word (m := ⟨7, 3⟩) (meth := k7m3) (c := k7c3) (by decide +kernel) rfl rfl rfl (by decide +kernel)
set_option maxRecDepth 65536 in
theorem w_c13 : (Jvm.Cond.code ({ cls := "java/lang/String", name := "coder", desc := "()B" } : Jvm.MethodName) jdk_42_method_152_code (1 : Nat) (Option.some Jvm.ClassFile.FieldType.byte)).before args0 about1 = true := code_word (m := ⟨7, 8⟩) (meth := k7m8) (c := k7c8) (by decide +kernel) rfl rfl rfl (by decide +kernel)
set_option maxRecDepth 65536 in
theorem w_c14 : (Jvm.Cond.code ({ cls := "java/lang/AbstractStringBuilder", name := "ensureCapacityInternal", desc := "(I)V" } : Jvm.MethodName) jdk_68_method_9_code (3 : Nat) (Option.none : Option Jvm.ClassFile.FieldType)).before args0 about1 = true := code_word (m := ⟨14, 3⟩) (meth := k14m3) (c := k14c3) (by decide +kernel) rfl rfl rfl (by decide +kernel)
set_option maxRecDepth 65536 in
theorem w_c15 : (Jvm.Cond.code ({ cls := "java/lang/AbstractStringBuilder", name := "newCapacity", desc := "(I)I" } : Jvm.MethodName) jdk_68_method_10_code (6 : Nat) (Option.some Jvm.ClassFile.FieldType.int)).before args0 about1 = true := code_word (m := ⟨14, 4⟩) (meth := k14m4) (c := k14c4) (by decide +kernel) rfl rfl rfl (by decide +kernel)
set_option maxRecDepth 65536 in
theorem w_c16 : (Jvm.Cond.code ({ cls := "jdk/internal/util/ArraysSupport", name := "newLength", desc := "(III)I" } : Jvm.MethodName) jdk_48_method_27_code (4 : Nat) (Option.some Jvm.ClassFile.FieldType.int)).before args0 about1 = true := code_word (m := ⟨16, 1⟩) (meth := k16m1) (c := k16c1) (by decide +kernel) rfl rfl rfl (by decide +kernel)
set_option maxRecDepth 65536 in
theorem w_c17 : (Jvm.Cond.code ({ cls := "java/lang/Math", name := "max", desc := "(II)I" } : Jvm.MethodName) jdk_29_method_65_code (2 : Nat) (Option.some Jvm.ClassFile.FieldType.int)).before args0 about1 = true := code_word (m := ⟨17, 1⟩) (meth := k17m1) (c := k17c1) (by decide +kernel) rfl rfl rfl (by decide +kernel)
set_option maxRecDepth 65536 in
theorem w_c18 : (Jvm.Cond.code ({ cls := "java/util/Arrays", name := "copyOf", desc := "([BI)[B" } : Jvm.MethodName) jdk_65_method_121_code (3 : Nat) (Option.some (Jvm.ClassFile.FieldType.array Jvm.ClassFile.FieldType.byte))).before args0 about1 = true := code_word (m := ⟨18, 1⟩) (meth := k18m1) (c := k18c1) (by decide +kernel) rfl rfl rfl (by decide +kernel)
set_option maxRecDepth 65536 in
theorem w_c19 : (Jvm.Cond.code ({ cls := "java/lang/Math", name := "min", desc := "(II)I" } : Jvm.MethodName) jdk_29_method_69_code (2 : Nat) (Option.some Jvm.ClassFile.FieldType.int)).before args0 about1 = true := code_word (m := ⟨17, 2⟩) (meth := k17m2) (c := k17c2) (by decide +kernel) rfl rfl rfl (by decide +kernel)
set_option maxRecDepth 65536 in
theorem w_c20 : (Jvm.Cond.code ({ cls := "java/lang/AbstractStringBuilder", name := "putStringAt", desc := "(ILjava/lang/String;)V" } : Jvm.MethodName) jdk_68_method_73_code (3 : Nat) (Option.none : Option Jvm.ClassFile.FieldType)).before args0 about1 = true := code_word (m := ⟨14, 9⟩) (meth := k14m9) (c := k14c9) (by decide +kernel) rfl rfl rfl (by decide +kernel)
set_option maxRecDepth 65536 in
theorem w_c21 : (Jvm.Cond.code ({ cls := "java/lang/AbstractStringBuilder", name := "inflateIfNeededFor", desc := "(Ljava/lang/String;)V" } : Jvm.MethodName) jdk_68_method_71_code (2 : Nat) (Option.none : Option Jvm.ClassFile.FieldType)).before args0 about1 = true := code_word (m := ⟨14, 8⟩) (meth := k14m8) (c := k14c8) (by decide +kernel) rfl rfl rfl (by decide +kernel)
set_option maxRecDepth 65536 in
theorem w_c22 : (Jvm.Cond.code ({ cls := "java/lang/String", name := "getBytes", desc := "([BIB)V" } : Jvm.MethodName) jdk_42_method_147_code (4 : Nat) (Option.none : Option Jvm.ClassFile.FieldType)).before args0 about1 = true := code_word (m := ⟨7, 5⟩) (meth := k7m5) (c := k7c5) (by decide +kernel) rfl rfl rfl (by decide +kernel)
set_option maxRecDepth 65536 in
theorem w_c23 : (Jvm.Cond.code ({ cls := "java/lang/StringBuilder", name := "toString", desc := "()Ljava/lang/String;" } : Jvm.MethodName) jdk_67_method_42_code (1 : Nat) (Option.some (Jvm.ClassFile.FieldType.object "java/lang/String"))).before args0 about1 = true := code_word (m := ⟨15, 2⟩) (meth := k15m2) (c := k15c2) (by decide +kernel) rfl rfl rfl (by decide +kernel)
set_option maxRecDepth 65536 in
theorem w_c24 : (Jvm.Cond.code ({ cls := "java/lang/String", name := "<init>", desc := "(Ljava/lang/StringBuilder;)V" } : Jvm.MethodName) jdk_42_method_53_code (2 : Nat) (Option.none : Option Jvm.ClassFile.FieldType)).before args0 about1 = true := code_word (m := ⟨7, 2⟩) (meth := k7m2) (c := k7c2) (by decide +kernel) rfl rfl rfl (by decide +kernel)
set_option maxRecDepth 65536 in
theorem w_c25 : (Jvm.Cond.code ({ cls := "java/lang/String", name := "<init>", desc := "(Ljava/lang/AbstractStringBuilder;Ljava/lang/Void;)V" } : Jvm.MethodName) jdk_42_method_150_code (5 : Nat) (Option.none : Option Jvm.ClassFile.FieldType)).before args0 about1 = true := code_word (m := ⟨7, 7⟩) (meth := k7m7) (c := k7c7) (by decide +kernel) rfl rfl rfl (by decide +kernel)
set_option maxRecDepth 65536 in
theorem w_c26 : (Jvm.Cond.code ({ cls := "java/lang/AbstractStringBuilder", name := "getValue", desc := "()[B" } : Jvm.MethodName) jdk_68_method_64_code (1 : Nat) (Option.some (Jvm.ClassFile.FieldType.array Jvm.ClassFile.FieldType.byte))).before args0 about1 = true := code_word (m := ⟨14, 6⟩) (meth := k14m6) (c := k14c6) (by decide +kernel) rfl rfl rfl (by decide +kernel)
set_option maxRecDepth 65536 in
theorem w_c27 : (Jvm.Cond.code ({ cls := "java/lang/StringBuilder", name := "length", desc := "()I" } : Jvm.MethodName) jdk_67_method_93_code (1 : Nat) (Option.some Jvm.ClassFile.FieldType.int)).before args0 about1 = true := code_word (m := ⟨15, 3⟩) (meth := k15m3) (c := k15c3) (by decide +kernel) rfl rfl rfl (by decide +kernel)
set_option maxRecDepth 65536 in
theorem w_c28 : (Jvm.Cond.code ({ cls := "java/lang/AbstractStringBuilder", name := "length", desc := "()I" } : Jvm.MethodName) jdk_68_method_6_code (1 : Nat) (Option.some Jvm.ClassFile.FieldType.int)).before args0 about1 = true := code_word (m := ⟨14, 2⟩) (meth := k14m2) (c := k14c2) (by decide +kernel) rfl rfl rfl (by decide +kernel)
set_option maxRecDepth 65536 in
theorem w_c29 : (Jvm.Cond.code ({ cls := "java/lang/AbstractStringBuilder", name := "isLatin1", desc := "()Z" } : Jvm.MethodName) jdk_68_method_68_code (1 : Nat) (Option.some Jvm.ClassFile.FieldType.boolean)).before args0 about1 = true := code_word (m := ⟨14, 7⟩) (meth := k14m7) (c := k14c7) (by decide +kernel) rfl rfl rfl (by decide +kernel)
set_option maxRecDepth 65536 in
theorem w_c30 : (Jvm.Cond.code ({ cls := "java/util/Arrays", name := "copyOfRange", desc := "([BII)[B" } : Jvm.MethodName) jdk_65_method_132_code (3 : Nat) (Option.some (Jvm.ClassFile.FieldType.array Jvm.ClassFile.FieldType.byte))).before args0 about1 = true := code_word (m := ⟨18, 3⟩) (meth := k18m3) (c := k18c3) (by decide +kernel) rfl rfl rfl (by decide +kernel)
set_option maxRecDepth 65536 in
theorem w_c31 : (Jvm.Cond.code ({ cls := "java/util/Arrays", name := "copyOfRangeByte", desc := "([BII)[B" } : Jvm.MethodName) jdk_65_method_133_code (5 : Nat) (Option.some (Jvm.ClassFile.FieldType.array Jvm.ClassFile.FieldType.byte))).before args0 about1 = true := code_word (m := ⟨18, 4⟩) (meth := k18m4) (c := k18c4) (by decide +kernel) rfl rfl rfl (by decide +kernel)
set_option maxRecDepth 65536 in
theorem w_c32 : (Jvm.Cond.code ({ cls := "java/util/Arrays", name := "checkLength", desc := "(II)V" } : Jvm.MethodName) jdk_65_method_131_code (2 : Nat) (Option.none : Option Jvm.ClassFile.FieldType)).before args0 about1 = true := code_word (m := ⟨18, 2⟩) (meth := k18m2) (c := k18c2) (by decide +kernel) rfl rfl rfl (by decide +kernel)
set_option maxRecDepth 65536 in
theorem w_c33 : (Jvm.Cond.code ({ cls := "com/example/pricewright/pricewright/engine/UnpriceableException", name := "<init>", desc := "(Ljava/lang/String;)V" } : Jvm.MethodName) prog_34_method_1_code (2 : Nat) (Option.none : Option Jvm.ClassFile.FieldType)).before args0 about1 = true := code_word (m := ⟨12, 0⟩) (meth := k12m0) (c := k12c0) (by decide +kernel) rfl rfl rfl (by decide +kernel)
set_option maxRecDepth 65536 in
theorem w_c34 : (Jvm.Cond.code ({ cls := "java/lang/RuntimeException", name := "<init>", desc := "(Ljava/lang/String;)V" } : Jvm.MethodName) jdk_58_method_2_code (2 : Nat) (Option.none : Option Jvm.ClassFile.FieldType)).before args0 about1 = true := code_word (m := ⟨11, 1⟩) (meth := k11m1) (c := k11c1) (by decide +kernel) rfl rfl rfl (by decide +kernel)
set_option maxRecDepth 65536 in
theorem w_c35 : (Jvm.Cond.code ({ cls := "java/lang/Exception", name := "<init>", desc := "(Ljava/lang/String;)V" } : Jvm.MethodName) jdk_59_method_2_code (2 : Nat) (Option.none : Option Jvm.ClassFile.FieldType)).before args0 about1 = true := code_word (m := ⟨10, 1⟩) (meth := k10m1) (c := k10c1) (by decide +kernel) rfl rfl rfl (by decide +kernel)
set_option maxRecDepth 65536 in
theorem w_c36 : (Jvm.Cond.code ({ cls := "java/lang/Throwable", name := "<init>", desc := "(Ljava/lang/String;)V" } : Jvm.MethodName) jdk_78_method_2_code (2 : Nat) (Option.none : Option Jvm.ClassFile.FieldType)).before args0 about1 = true := code_word (m := ⟨9, 1⟩) (meth := k9m1) (c := k9c1) (by decide +kernel) rfl rfl rfl (by decide +kernel)
set_option maxRecDepth 65536 in
theorem w_c37 : (Jvm.Cond.code ({ cls := "java/lang/Throwable", name := "<init>", desc := "()V" } : Jvm.MethodName) jdk_78_method_1_code (1 : Nat) (Option.none : Option Jvm.ClassFile.FieldType)).before args0 about1 = true := code_word (m := ⟨9, 0⟩) (meth := k9m0) (c := k9c0) (by decide +kernel) rfl rfl rfl (by decide +kernel)
set_option maxRecDepth 65536 in
theorem w_c38 : (Jvm.Cond.code ({ cls := "java/lang/Throwable", name := "getMessage", desc := "()Ljava/lang/String;" } : Jvm.MethodName) jdk_78_method_6_code (1 : Nat) (Option.some (Jvm.ClassFile.FieldType.object "java/lang/String"))).before args0 about1 = true := code_word (m := ⟨9, 2⟩) (meth := k9m2) (c := k9c2) (by decide +kernel) rfl rfl rfl (by decide +kernel)
set_option maxRecDepth 65536 in
theorem w_c39 : (Jvm.Cond.code ({ cls := "java/lang/String", name := "equals", desc := "(Ljava/lang/Object;)Z" } : Jvm.MethodName) jdk_42_method_66_code (3 : Nat) (Option.some Jvm.ClassFile.FieldType.boolean)).before args0 about1 = true := code_word (m := ⟨7, 4⟩) (meth := k7m4) (c := k7c4) (by decide +kernel) rfl rfl rfl (by decide +kernel)
set_option maxRecDepth 65536 in
theorem w_c40 : (Jvm.Cond.code ({ cls := "java/lang/StringLatin1", name := "equals", desc := "([B[B)Z" } : Jvm.MethodName) jdk_43_method_13_code (3 : Nat) (Option.some Jvm.ClassFile.FieldType.boolean)).before args0 about1 = true := code_word (m := ⟨20, 1⟩) (meth := k20m1) (c := k20c1) (by decide +kernel) rfl rfl rfl (by decide +kernel)
def codes1 : List Jvm.Cond := [Jvm.Cond.code x code maxLocals ret, Jvm.Cond.code ({ cls := "java/lang/String", name := "<init>", desc := "([C)V" } : Jvm.MethodName) jdk_42_method_3_code (2 : Nat) (Option.none : Option Jvm.ClassFile.FieldType), Jvm.Cond.code ({ cls := "java/lang/String", name := "<init>", desc := "([CIILjava/lang/Void;)V" } : Jvm.MethodName) jdk_42_method_149_code (6 : Nat) (Option.none : Option Jvm.ClassFile.FieldType), Jvm.Cond.code ({ cls := "java/lang/Object", name := "<init>", desc := "()V" } : Jvm.MethodName) object_method_1_code (1 : Nat) (Option.none : Option Jvm.ClassFile.FieldType), Jvm.Cond.code ({ cls := "java/lang/StringUTF16", name := "compress", desc := "([CII)[B" } : Jvm.MethodName) jdk_52_method_16_code (6 : Nat) (Option.some (Jvm.ClassFile.FieldType.array Jvm.ClassFile.FieldType.byte)), Jvm.Cond.code ({ cls := "java/lang/StringUTF16", name := "compress", desc := "([CI[BII)I" } : Jvm.MethodName) jdk_52_method_21_code (7 : Nat) (Option.some Jvm.ClassFile.FieldType.int), Jvm.Cond.code ({ cls := "java/lang/StringUTF16", name := "coderFromArrayLen", desc := "([BI)B" } : Jvm.MethodName) jdk_52_method_15_code (2 : Nat) (Option.some Jvm.ClassFile.FieldType.byte), Jvm.Cond.code ({ cls := "com/example/pricewright/pricewright/engine/UnpriceableException", name := "ofSchema", desc := "(Ljava/lang/String;Ljava/lang/String;)Lcom/example/pricewright/pricewright/engine/UnpriceableException;" } : Jvm.MethodName) prog_34_method_4_code (2 : Nat) (Option.some (Jvm.ClassFile.FieldType.object "com/example/pricewright/pricewright/engine/UnpriceableException")), Jvm.Cond.code ({ cls := "java/lang/StringBuilder", name := "<init>", desc := "()V" } : Jvm.MethodName) jdk_67_method_1_code (1 : Nat) (Option.none : Option Jvm.ClassFile.FieldType), Jvm.Cond.code ({ cls := "java/lang/AbstractStringBuilder", name := "<init>", desc := "(I)V" } : Jvm.MethodName) jdk_68_method_2_code (2 : Nat) (Option.none : Option Jvm.ClassFile.FieldType), Jvm.Cond.code ({ cls := "java/lang/StringBuilder", name := "append", desc := "(Ljava/lang/String;)Ljava/lang/StringBuilder;" } : Jvm.MethodName) jdk_67_method_7_code (2 : Nat) (Option.some (Jvm.ClassFile.FieldType.object "java/lang/StringBuilder")), Jvm.Cond.code ({ cls := "java/lang/AbstractStringBuilder", name := "append", desc := "(Ljava/lang/String;)Ljava/lang/AbstractStringBuilder;" } : Jvm.MethodName) jdk_68_method_22_code (3 : Nat) (Option.some (Jvm.ClassFile.FieldType.object "java/lang/AbstractStringBuilder")), Jvm.Cond.code ({ cls := "java/lang/String", name := "length", desc := "()I" } : Jvm.MethodName) jdk_42_method_54_code (1 : Nat) (Option.some Jvm.ClassFile.FieldType.int), Jvm.Cond.code ({ cls := "java/lang/String", name := "coder", desc := "()B" } : Jvm.MethodName) jdk_42_method_152_code (1 : Nat) (Option.some Jvm.ClassFile.FieldType.byte), Jvm.Cond.code ({ cls := "java/lang/AbstractStringBuilder", name := "ensureCapacityInternal", desc := "(I)V" } : Jvm.MethodName) jdk_68_method_9_code (3 : Nat) (Option.none : Option Jvm.ClassFile.FieldType), Jvm.Cond.code ({ cls := "java/lang/AbstractStringBuilder", name := "newCapacity", desc := "(I)I" } : Jvm.MethodName) jdk_68_method_10_code (6 : Nat) (Option.some Jvm.ClassFile.FieldType.int), Jvm.Cond.code ({ cls := "jdk/internal/util/ArraysSupport", name := "newLength", desc := "(III)I" } : Jvm.MethodName) jdk_48_method_27_code (4 : Nat) (Option.some Jvm.ClassFile.FieldType.int), Jvm.Cond.code ({ cls := "java/lang/Math", name := "max", desc := "(II)I" } : Jvm.MethodName) jdk_29_method_65_code (2 : Nat) (Option.some Jvm.ClassFile.FieldType.int), Jvm.Cond.code ({ cls := "java/util/Arrays", name := "copyOf", desc := "([BI)[B" } : Jvm.MethodName) jdk_65_method_121_code (3 : Nat) (Option.some (Jvm.ClassFile.FieldType.array Jvm.ClassFile.FieldType.byte)), Jvm.Cond.code ({ cls := "java/lang/Math", name := "min", desc := "(II)I" } : Jvm.MethodName) jdk_29_method_69_code (2 : Nat) (Option.some Jvm.ClassFile.FieldType.int), Jvm.Cond.code ({ cls := "java/lang/AbstractStringBuilder", name := "putStringAt", desc := "(ILjava/lang/String;)V" } : Jvm.MethodName) jdk_68_method_73_code (3 : Nat) (Option.none : Option Jvm.ClassFile.FieldType), Jvm.Cond.code ({ cls := "java/lang/AbstractStringBuilder", name := "inflateIfNeededFor", desc := "(Ljava/lang/String;)V" } : Jvm.MethodName) jdk_68_method_71_code (2 : Nat) (Option.none : Option Jvm.ClassFile.FieldType), Jvm.Cond.code ({ cls := "java/lang/String", name := "getBytes", desc := "([BIB)V" } : Jvm.MethodName) jdk_42_method_147_code (4 : Nat) (Option.none : Option Jvm.ClassFile.FieldType), Jvm.Cond.code ({ cls := "java/lang/StringBuilder", name := "toString", desc := "()Ljava/lang/String;" } : Jvm.MethodName) jdk_67_method_42_code (1 : Nat) (Option.some (Jvm.ClassFile.FieldType.object "java/lang/String")), Jvm.Cond.code ({ cls := "java/lang/String", name := "<init>", desc := "(Ljava/lang/StringBuilder;)V" } : Jvm.MethodName) jdk_42_method_53_code (2 : Nat) (Option.none : Option Jvm.ClassFile.FieldType), Jvm.Cond.code ({ cls := "java/lang/String", name := "<init>", desc := "(Ljava/lang/AbstractStringBuilder;Ljava/lang/Void;)V" } : Jvm.MethodName) jdk_42_method_150_code (5 : Nat) (Option.none : Option Jvm.ClassFile.FieldType), Jvm.Cond.code ({ cls := "java/lang/AbstractStringBuilder", name := "getValue", desc := "()[B" } : Jvm.MethodName) jdk_68_method_64_code (1 : Nat) (Option.some (Jvm.ClassFile.FieldType.array Jvm.ClassFile.FieldType.byte)), Jvm.Cond.code ({ cls := "java/lang/StringBuilder", name := "length", desc := "()I" } : Jvm.MethodName) jdk_67_method_93_code (1 : Nat) (Option.some Jvm.ClassFile.FieldType.int), Jvm.Cond.code ({ cls := "java/lang/AbstractStringBuilder", name := "length", desc := "()I" } : Jvm.MethodName) jdk_68_method_6_code (1 : Nat) (Option.some Jvm.ClassFile.FieldType.int), Jvm.Cond.code ({ cls := "java/lang/AbstractStringBuilder", name := "isLatin1", desc := "()Z" } : Jvm.MethodName) jdk_68_method_68_code (1 : Nat) (Option.some Jvm.ClassFile.FieldType.boolean), Jvm.Cond.code ({ cls := "java/util/Arrays", name := "copyOfRange", desc := "([BII)[B" } : Jvm.MethodName) jdk_65_method_132_code (3 : Nat) (Option.some (Jvm.ClassFile.FieldType.array Jvm.ClassFile.FieldType.byte)), Jvm.Cond.code ({ cls := "java/util/Arrays", name := "copyOfRangeByte", desc := "([BII)[B" } : Jvm.MethodName) jdk_65_method_133_code (5 : Nat) (Option.some (Jvm.ClassFile.FieldType.array Jvm.ClassFile.FieldType.byte)), Jvm.Cond.code ({ cls := "java/util/Arrays", name := "checkLength", desc := "(II)V" } : Jvm.MethodName) jdk_65_method_131_code (2 : Nat) (Option.none : Option Jvm.ClassFile.FieldType), Jvm.Cond.code ({ cls := "com/example/pricewright/pricewright/engine/UnpriceableException", name := "<init>", desc := "(Ljava/lang/String;)V" } : Jvm.MethodName) prog_34_method_1_code (2 : Nat) (Option.none : Option Jvm.ClassFile.FieldType), Jvm.Cond.code ({ cls := "java/lang/RuntimeException", name := "<init>", desc := "(Ljava/lang/String;)V" } : Jvm.MethodName) jdk_58_method_2_code (2 : Nat) (Option.none : Option Jvm.ClassFile.FieldType), Jvm.Cond.code ({ cls := "java/lang/Exception", name := "<init>", desc := "(Ljava/lang/String;)V" } : Jvm.MethodName) jdk_59_method_2_code (2 : Nat) (Option.none : Option Jvm.ClassFile.FieldType), Jvm.Cond.code ({ cls := "java/lang/Throwable", name := "<init>", desc := "(Ljava/lang/String;)V" } : Jvm.MethodName) jdk_78_method_2_code (2 : Nat) (Option.none : Option Jvm.ClassFile.FieldType), Jvm.Cond.code ({ cls := "java/lang/Throwable", name := "<init>", desc := "()V" } : Jvm.MethodName) jdk_78_method_1_code (1 : Nat) (Option.none : Option Jvm.ClassFile.FieldType), Jvm.Cond.code ({ cls := "java/lang/Throwable", name := "getMessage", desc := "()Ljava/lang/String;" } : Jvm.MethodName) jdk_78_method_6_code (1 : Nat) (Option.some (Jvm.ClassFile.FieldType.object "java/lang/String")), Jvm.Cond.code ({ cls := "java/lang/String", name := "equals", desc := "(Ljava/lang/Object;)Z" } : Jvm.MethodName) jdk_42_method_66_code (3 : Nat) (Option.some Jvm.ClassFile.FieldType.boolean), Jvm.Cond.code ({ cls := "java/lang/StringLatin1", name := "equals", desc := "([B[B)Z" } : Jvm.MethodName) jdk_43_method_13_code (3 : Nat) (Option.some Jvm.ClassFile.FieldType.boolean)]
set_option maxRecDepth 65536 in
theorem codes_eq : words1.filter isCode = codes1 := rfl
theorem w_codes : ∀ c ∈ words1.filter isCode, c.before args0 about1 = true := by
  rw [codes_eq]
  intro c hc
  simp only [codes1, List.mem_cons, List.not_mem_nil, or_false] at hc
  rcases hc with rfl | rfl | rfl | rfl | rfl | rfl | rfl | rfl | rfl | rfl | rfl | rfl | rfl | rfl | rfl | rfl | rfl | rfl | rfl | rfl | rfl | rfl | rfl | rfl | rfl | rfl | rfl | rfl | rfl | rfl | rfl | rfl | rfl | rfl | rfl | rfl | rfl | rfl | rfl | rfl | rfl
  · exact w_c0
  · exact w_c1
  · exact w_c2
  · exact w_c3
  · exact w_c4
  · exact w_c5
  · exact w_c6
  · exact w_c7
  · exact w_c8
  · exact w_c9
  · exact w_c10
  · exact w_c11
  · exact w_c12
  · exact w_c13
  · exact w_c14
  · exact w_c15
  · exact w_c16
  · exact w_c17
  · exact w_c18
  · exact w_c19
  · exact w_c20
  · exact w_c21
  · exact w_c22
  · exact w_c23
  · exact w_c24
  · exact w_c25
  · exact w_c26
  · exact w_c27
  · exact w_c28
  · exact w_c29
  · exact w_c30
  · exact w_c31
  · exact w_c32
  · exact w_c33
  · exact w_c34
  · exact w_c35
  · exact w_c36
  · exact w_c37
  · exact w_c38
  · exact w_c39
  · exact w_c40
set_option maxRecDepth 65536 in
theorem w_t1 : (words1.take 24).all (fun c => isCode c || c.before args0 about1) = true := by decide +kernel
set_option maxRecDepth 65536 in
theorem w_t2 : ((words1.drop 24).take 24).all (fun c => isCode c || c.before args0 about1) = true := by decide +kernel
set_option maxRecDepth 65536 in
theorem w_t3 : (((words1.drop 24).drop 24).take 24).all (fun c => isCode c || c.before args0 about1) = true := by decide +kernel
set_option maxRecDepth 65536 in
theorem w_t4 : ((((words1.drop 24).drop 24).drop 24).take 24).all (fun c => isCode c || c.before args0 about1) = true := by decide +kernel
set_option maxRecDepth 65536 in
theorem w_t5 : (((((words1.drop 24).drop 24).drop 24).drop 24).take 24).all (fun c => isCode c || c.before args0 about1) = true := by decide +kernel
set_option maxRecDepth 65536 in
theorem w_t6 : ((((((words1.drop 24).drop 24).drop 24).drop 24).drop 24).take 24).all (fun c => isCode c || c.before args0 about1) = true := by decide +kernel
set_option maxRecDepth 65536 in
theorem w_t7 : (((((((words1.drop 24).drop 24).drop 24).drop 24).drop 24).drop 24).take 24).all (fun c => isCode c || c.before args0 about1) = true := by decide +kernel
set_option maxRecDepth 65536 in
theorem w_t8 : ((((((((words1.drop 24).drop 24).drop 24).drop 24).drop 24).drop 24).drop 24).take 24).all (fun c => isCode c || c.before args0 about1) = true := by decide +kernel
set_option maxRecDepth 65536 in
theorem w_t9 : (((((((((words1.drop 24).drop 24).drop 24).drop 24).drop 24).drop 24).drop 24).drop 24).take 24).all (fun c => isCode c || c.before args0 about1) = true := by decide +kernel
set_option maxRecDepth 65536 in
theorem w_t10 : ((((((((((words1.drop 24).drop 24).drop 24).drop 24).drop 24).drop 24).drop 24).drop 24).drop 24).take 24).all (fun c => isCode c || c.before args0 about1) = true := by decide +kernel
set_option maxRecDepth 65536 in
theorem w_t11 : ((((((((((words1.drop 24).drop 24).drop 24).drop 24).drop 24).drop 24).drop 24).drop 24).drop 24).drop 24).all (fun c => isCode c || c.before args0 about1) = true := by decide +kernel
theorem w_tables : (allAtoms (Jvm.Cond.code x code maxLocals ret :: tables_1)).before args0 about1 = true := by
  rw [allAtoms_all]
  show words1.all (fun c => c.before args0 about1) = true
  refine all_split ?_ w_codes
  rw [← List.take_append_drop 24 words1, List.all_append, w_t1, ← List.take_append_drop 24 (words1.drop 24), List.all_append, w_t2, ← List.take_append_drop 24 ((words1.drop 24).drop 24), List.all_append, w_t3, ← List.take_append_drop 24 (((words1.drop 24).drop 24).drop 24), List.all_append, w_t4, ← List.take_append_drop 24 ((((words1.drop 24).drop 24).drop 24).drop 24), List.all_append, w_t5, ← List.take_append_drop 24 (((((words1.drop 24).drop 24).drop 24).drop 24).drop 24), List.all_append, w_t6, ← List.take_append_drop 24 ((((((words1.drop 24).drop 24).drop 24).drop 24).drop 24).drop 24), List.all_append, w_t7, ← List.take_append_drop 24 (((((((words1.drop 24).drop 24).drop 24).drop 24).drop 24).drop 24).drop 24), List.all_append, w_t8, ← List.take_append_drop 24 ((((((((words1.drop 24).drop 24).drop 24).drop 24).drop 24).drop 24).drop 24).drop 24), List.all_append, w_t9, ← List.take_append_drop 24 (((((((((words1.drop 24).drop 24).drop 24).drop 24).drop 24).drop 24).drop 24).drop 24).drop 24), List.all_append, w_t10, w_t11]
  rfl
set_option maxRecDepth 65536 in
theorem w_rest : rest_1_c.before args0 about1 = true := by decide +kernel
set_option maxRecDepth 65536 in
theorem w_case : (Jvm.Cond.and given_1 narrow_1).before args0 about1 = true := by decide +kernel
set_option maxRecDepth 65536 in
theorem w_consts : constsHeld consts_1 about1 := Jvm.Lit.constsHeldB_iff.mp (by decide +kernel)
theorem w_applies : (headSpec (Jvm.Cond.code x code maxLocals ret :: tables_1) room_1).applies x e0.platform about1 = true :=
  (Spec.applies_iff w_frames).mpr ⟨w_running, w_runnable, w_alone, w_named, w_hears, w_ripe, w_room, w_tables⟩
theorem atStart : AtStart classFile x code maxLocals ret World_1 tables_1 room_1 Calls_1 rest_1 Pre_1 launch0 p0 e0 about1 theMethod args0 below0 :=
  ⟨lists_1, trivial, launch0.admits_env _ _ _, launch0.least_env, fairChoices_fair.cas, fairChoices_fair.clock, w_frames, w_args, w_heap, w_applies, ⟨(by decide +kernel : framesKnown about1 = true), ⟨(by decide +kernel : tablesKnown about1 = true), ⟨w_consts, trivial⟩⟩⟩, w_rest, w_case⟩
end start1
theorem witness_1 : WitnessClaimed_1 := ⟨start1.p0, start1.e0, start1.about1, start1.theMethod, start1.args0, start1.below0, start1.atStart⟩
end Jvm.Pilot.@@N@@
