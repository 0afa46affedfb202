import JvmDerived
import JvmDerived.Pilot.@@N@@Statement
import JvmDerived.Pilot.@@N@@Code
set_option linter.unusedVariables false
set_option linter.unusedSimpArgs false
namespace Jvm.Ow
open Sem ClassFile Op Lib Jvm.Stand Jvm.Free Jvm.LawKit Jvm.RoadKit
/-- from S the run goes on to an end that G accepts -/
def Go (tb : Tables) (e : Env) (below : List Frame) (G : Outcome → State → Prop) (S : State) : Prop := ∃ t o, Steps tb e below S t ∧ t.status = .running ∧ Ended t below o ∧ G o t
theorem Go.via {tb : Tables} {e : Env} {below : List Frame} {G : Outcome → State → Prop} {S S' : State} (st : ∀ target, Steps tb e below S' target → Steps tb e below S target) (K : Go tb e below G S') : Go tb e below G S := by
  obtain ⟨t, o, h1, h2⟩ := K
  exact ⟨t, o, st t h1, h2⟩
theorem Go.thru {tb : Tables} {e : Env} {below : List Frame} {G : Outcome → State → Prop} {S S' : State} (st : Steps tb e below S S') (K : Go tb e below G S') : Go tb e below G S := by
  obtain ⟨t, o, h1, h2⟩ := K
  exact ⟨t, o, st.trans h1, h2⟩
section Steps1
variable {p : Program} {l : Launch} {e : Env} {R : Room} {s : State} {m : MethodId} {args : Array Value} {below : List Frame} {meth : Method} {c : Code} {T : State} {locs : List Loc} {cells slots : Nat} {G : Outcome → State → Prop} {pc pc' : Nat} {Ls : Array Slot} {rest : List Value}
theorem aloadN (X : Stand p l e R s m args below meth c T locs cells slots) (hx : p.tables.exec = Jvm.exec) {k : Fin 4} {v : Value} (hd : decode c.code pc = .ok (.aload_n k, 1)) (hl : Ls[k.val]? = some (.val v)) (hv : v.isRef = true) (K : Go p.tables e below G (T.setTop (mkF m (pc + 1) Ls (v :: rest)))) : Go p.tables e below G (T.setTop (mkF m (pc) Ls rest)) := K.via fun _ r => XS.aloadN X.here hx rfl hd hl hv r
theorem aload (X : Stand p l e R s m args below meth c T locs cells slots) (hx : p.tables.exec = Jvm.exec) {k : Nat} {v : Value} (hd : decode c.code pc = .ok (.aload k, 2)) (hl : Ls[k]? = some (.val v)) (hv : v.isRef = true) (K : Go p.tables e below G (T.setTop (mkF m (pc + 2) Ls (v :: rest)))) : Go p.tables e below G (T.setTop (mkF m (pc) Ls rest)) := K.via fun _ r => XS.aload X.here hx rfl hd hl hv r
theorem iloadN (X : Stand p l e R s m args below meth c T locs cells slots) (hx : p.tables.exec = Jvm.exec) {k : Fin 4} {v : Int32} (hd : decode c.code pc = .ok (.iload_n k, 1)) (hl : Ls[k.val]? = some (.val (.int v))) (K : Go p.tables e below G (T.setTop (mkF m (pc + 1) Ls (.int v :: rest)))) : Go p.tables e below G (T.setTop (mkF m (pc) Ls rest)) := K.via fun _ r => XS.iloadN X.here hx rfl hd hl r
theorem iload (X : Stand p l e R s m args below meth c T locs cells slots) (hx : p.tables.exec = Jvm.exec) {k : Nat} {v : Int32} (hd : decode c.code pc = .ok (.iload k, 2)) (hl : Ls[k]? = some (.val (.int v))) (K : Go p.tables e below G (T.setTop (mkF m (pc + 2) Ls (.int v :: rest)))) : Go p.tables e below G (T.setTop (mkF m (pc) Ls rest)) := K.via fun _ r => XS.iload X.here hx rfl hd hl r
theorem lloadN (X : Stand p l e R s m args below meth c T locs cells slots) (hx : p.tables.exec = Jvm.exec) {k : Fin 4} {v : Int64} (hd : decode c.code pc = .ok (.lload_n k, 1)) (hl : Ls[k.val]? = some (.val (.long v))) (K : Go p.tables e below G (T.setTop (mkF m (pc + 1) Ls (.long v :: rest)))) : Go p.tables e below G (T.setTop (mkF m (pc) Ls rest)) := K.via fun _ r => XT.lloadN X.here hx rfl hd hl r
theorem lload (X : Stand p l e R s m args below meth c T locs cells slots) (hx : p.tables.exec = Jvm.exec) {k : Nat} {v : Int64} (hd : decode c.code pc = .ok (.lload k, 2)) (hl : Ls[k]? = some (.val (.long v))) (K : Go p.tables e below G (T.setTop (mkF m (pc + 2) Ls (.long v :: rest)))) : Go p.tables e below G (T.setTop (mkF m (pc) Ls rest)) := K.via fun _ r => XT.lload X.here hx rfl hd hl r
theorem iconst (X : Stand p l e R s m args below meth c T locs cells slots) (hx : p.tables.exec = Jvm.exec) {i : Int} (v : Int32) (hd : decode c.code pc = .ok (.iconst i, 1)) (hv : Int32.ofInt i = v) (K : Go p.tables e below G (T.setTop (mkF m (pc + 1) Ls (.int v :: rest)))) : Go p.tables e below G (T.setTop (mkF m (pc) Ls rest)) := K.via fun _ r => XT.iconstV X.here hx rfl v hd hv r
theorem bipush (X : Stand p l e R s m args below meth c T locs cells slots) (hx : p.tables.exec = Jvm.exec) {i : Int} (v : Int32) (hd : decode c.code pc = .ok (.bipush i, 2)) (hv : (Int8.ofInt i).toInt32 = v) (K : Go p.tables e below G (T.setTop (mkF m (pc + 2) Ls (.int v :: rest)))) : Go p.tables e below G (T.setTop (mkF m (pc) Ls rest)) := K.via fun _ r => XT.bipushV X.here hx rfl v hd hv r
theorem sipush (X : Stand p l e R s m args below meth c T locs cells slots) (hx : p.tables.exec = Jvm.exec) {i : Int} (v : Int32) (hd : decode c.code pc = .ok (.sipush i, 3)) (hv : (Int16.ofInt i).toInt32 = v) (K : Go p.tables e below G (T.setTop (mkF m (pc + 3) Ls (.int v :: rest)))) : Go p.tables e below G (T.setTop (mkF m (pc) Ls rest)) := K.via fun _ r => XT.sipushV X.here hx rfl v hd hv r
theorem lconst (X : Stand p l e R s m args below meth c T locs cells slots) (hx : p.tables.exec = Jvm.exec) {k : Fin 2} (v : Int64) (hd : decode c.code pc = .ok (.lconst k, 1)) (hv : Int64.ofNat k = v) (K : Go p.tables e below G (T.setTop (mkF m (pc + 1) Ls (.long v :: rest)))) : Go p.tables e below G (T.setTop (mkF m (pc) Ls rest)) := K.via fun _ r => XT.lconstV X.here hx rfl v hd hv r
theorem aconst_null (X : Stand p l e R s m args below meth c T locs cells slots) (hx : p.tables.exec = Jvm.exec)  (hd : decode c.code pc = .ok (.aconst_null, 1))  (K : Go p.tables e below G (T.setTop (mkF m (pc + 1) Ls (.null :: rest)))) : Go p.tables e below G (T.setTop (mkF m (pc) Ls rest)) := K.via fun _ r => XS.aconstNull X.here hx rfl hd r
theorem ldcI (X : Stand p l e R s m args below meth c T locs cells slots) (hx : p.tables.exec = Jvm.exec) {own : String} {index : Nat} (v : Int32) (hd : decode c.code pc = .ok (.ldc index, 2)) (hown : s.vm.findClass own = some m.cls) (hc : (Cond.constant own index v).before args s = true) (K : Go p.tables e below G (T.setTop (mkF m (pc + 2) Ls (.int v :: rest)))) : Go p.tables e below G (T.setTop (mkF m (pc) Ls rest)) := K.via fun _ r => X.ldcI hx hown hc rfl hd r
theorem ldcWI (X : Stand p l e R s m args below meth c T locs cells slots) (hx : p.tables.exec = Jvm.exec) {own : String} {index : Nat} (v : Int32) (hd : decode c.code pc = .ok (.ldc_w index, 3)) (hown : s.vm.findClass own = some m.cls) (hc : (Cond.constant own index v).before args s = true) (K : Go p.tables e below G (T.setTop (mkF m (pc + 3) Ls (.int v :: rest)))) : Go p.tables e below G (T.setTop (mkF m (pc) Ls rest)) := K.via fun _ r => X.ldcWI hx hown hc rfl hd r
theorem ldc2J (X : Stand p l e R s m args below meth c T locs cells slots) (hx : p.tables.exec = Jvm.exec) {own : String} {index : Nat} (v : Int64) (hd : decode c.code pc = .ok (.ldc2_w index, 3)) (hown : s.vm.findClass own = some m.cls) (hc : (Cond.constantLong own index v).before args s = true) (K : Go p.tables e below G (T.setTop (mkF m (pc + 3) Ls (.long v :: rest)))) : Go p.tables e below G (T.setTop (mkF m (pc) Ls rest)) := K.via fun _ r => X.ldc2J hx hown hc rfl hd r
theorem iadd (X : Stand p l e R s m args below meth c T locs cells slots) (hx : p.tables.exec = Jvm.exec) {x y : Int32} (hd : decode c.code pc = .ok (.iadd, 1))  (K : Go p.tables e below G (T.setTop (mkF m (pc + 1) Ls (.int (x + y) :: rest)))) : Go p.tables e below G (T.setTop (mkF m (pc) Ls (.int y :: .int x :: rest))) := K.via fun _ r => XS.iadd X.here hx rfl hd rfl r
theorem isub (X : Stand p l e R s m args below meth c T locs cells slots) (hx : p.tables.exec = Jvm.exec) {x y : Int32} (hd : decode c.code pc = .ok (.isub, 1))  (K : Go p.tables e below G (T.setTop (mkF m (pc + 1) Ls (.int (x - y) :: rest)))) : Go p.tables e below G (T.setTop (mkF m (pc) Ls (.int y :: .int x :: rest))) := K.via fun _ r => XS.isub X.here hx rfl hd rfl r
theorem iand (X : Stand p l e R s m args below meth c T locs cells slots) (hx : p.tables.exec = Jvm.exec) {x y : Int32} (hd : decode c.code pc = .ok (.iand, 1))  (K : Go p.tables e below G (T.setTop (mkF m (pc + 1) Ls (.int (x &&& y) :: rest)))) : Go p.tables e below G (T.setTop (mkF m (pc) Ls (.int y :: .int x :: rest))) := K.via fun _ r => XS.iand X.here hx rfl hd rfl r
theorem imul (X : Stand p l e R s m args below meth c T locs cells slots) (hx : p.tables.exec = Jvm.exec) {x y : Int32} (hd : decode c.code pc = .ok (.imul, 1))  (K : Go p.tables e below G (T.setTop (mkF m (pc + 1) Ls (.int (x * y) :: rest)))) : Go p.tables e below G (T.setTop (mkF m (pc) Ls (.int y :: .int x :: rest))) := K.via fun _ r => XS.imul X.here hx rfl hd rfl r
theorem ixor (X : Stand p l e R s m args below meth c T locs cells slots) (hx : p.tables.exec = Jvm.exec) {x y : Int32} (hd : decode c.code pc = .ok (.ixor, 1))  (K : Go p.tables e below G (T.setTop (mkF m (pc + 1) Ls (.int (x ^^^ y) :: rest)))) : Go p.tables e below G (T.setTop (mkF m (pc) Ls (.int y :: .int x :: rest))) := K.via fun _ r => XT.ixor X.here hx rfl hd rfl r
theorem ior (X : Stand p l e R s m args below meth c T locs cells slots) (hx : p.tables.exec = Jvm.exec) {x y : Int32} (hd : decode c.code pc = .ok (.ior, 1))  (K : Go p.tables e below G (T.setTop (mkF m (pc + 1) Ls (.int (x ||| y) :: rest)))) : Go p.tables e below G (T.setTop (mkF m (pc) Ls (.int y :: .int x :: rest))) := K.via fun _ r => XT.ior X.here hx rfl hd rfl r
theorem ishl (X : Stand p l e R s m args below meth c T locs cells slots) (hx : p.tables.exec = Jvm.exec) {x y : Int32} (hd : decode c.code pc = .ok (.ishl, 1))  (K : Go p.tables e below G (T.setTop (mkF m (pc + 1) Ls (.int (x <<< (y &&& 31)) :: rest)))) : Go p.tables e below G (T.setTop (mkF m (pc) Ls (.int y :: .int x :: rest))) := K.via fun _ r => XT.ishl X.here hx rfl hd rfl r
theorem ishr (X : Stand p l e R s m args below meth c T locs cells slots) (hx : p.tables.exec = Jvm.exec) {x y : Int32} (hd : decode c.code pc = .ok (.ishr, 1))  (K : Go p.tables e below G (T.setTop (mkF m (pc + 1) Ls (.int (x >>> (y &&& 31)) :: rest)))) : Go p.tables e below G (T.setTop (mkF m (pc) Ls (.int y :: .int x :: rest))) := K.via fun _ r => XT.ishr X.here hx rfl hd rfl r
theorem iushr (X : Stand p l e R s m args below meth c T locs cells slots) (hx : p.tables.exec = Jvm.exec) {x y : Int32} (hd : decode c.code pc = .ok (.iushr, 1))  (K : Go p.tables e below G (T.setTop (mkF m (pc + 1) Ls (.int (XT.ushr x y) :: rest)))) : Go p.tables e below G (T.setTop (mkF m (pc) Ls (.int y :: .int x :: rest))) := K.via fun _ r => XT.iushr X.here hx rfl hd rfl r
theorem idiv (X : Stand p l e R s m args below meth c T locs cells slots) (hx : p.tables.exec = Jvm.exec) {x y : Int32} (hd : decode c.code pc = .ok (.idiv, 1)) (hy : y ≠ 0) (K : Go p.tables e below G (T.setTop (mkF m (pc + 1) Ls (.int (x / y) :: rest)))) : Go p.tables e below G (T.setTop (mkF m (pc) Ls (.int y :: .int x :: rest))) := K.via fun _ r => XS.idiv X.here hx rfl hd rfl hy r
theorem irem (X : Stand p l e R s m args below meth c T locs cells slots) (hx : p.tables.exec = Jvm.exec) {x y : Int32} (hd : decode c.code pc = .ok (.irem, 1)) (hy : y ≠ 0) (K : Go p.tables e below G (T.setTop (mkF m (pc + 1) Ls (.int (x % y) :: rest)))) : Go p.tables e below G (T.setTop (mkF m (pc) Ls (.int y :: .int x :: rest))) := K.via fun _ r => RoadKit.iremM X hx rfl hd rfl hy r
theorem ineg (X : Stand p l e R s m args below meth c T locs cells slots) (hx : p.tables.exec = Jvm.exec) {x : Int32} (hd : decode c.code pc = .ok (.ineg, 1))  (K : Go p.tables e below G (T.setTop (mkF m (pc + 1) Ls (.int (-x) :: rest)))) : Go p.tables e below G (T.setTop (mkF m (pc) Ls (.int x :: rest))) := K.via fun _ r => XS.ineg X.here hx rfl hd rfl r
theorem ladd (X : Stand p l e R s m args below meth c T locs cells slots) (hx : p.tables.exec = Jvm.exec) {x y : Int64} (hd : decode c.code pc = .ok (.ladd, 1))  (K : Go p.tables e below G (T.setTop (mkF m (pc + 1) Ls (.long (x + y) :: rest)))) : Go p.tables e below G (T.setTop (mkF m (pc) Ls (.long y :: .long x :: rest))) := K.via fun _ r => XT.ladd X.here hx rfl hd rfl r
theorem lsub (X : Stand p l e R s m args below meth c T locs cells slots) (hx : p.tables.exec = Jvm.exec) {x y : Int64} (hd : decode c.code pc = .ok (.lsub, 1))  (K : Go p.tables e below G (T.setTop (mkF m (pc + 1) Ls (.long (x - y) :: rest)))) : Go p.tables e below G (T.setTop (mkF m (pc) Ls (.long y :: .long x :: rest))) := K.via fun _ r => XT.lsub X.here hx rfl hd rfl r
theorem lmul (X : Stand p l e R s m args below meth c T locs cells slots) (hx : p.tables.exec = Jvm.exec) {x y : Int64} (hd : decode c.code pc = .ok (.lmul, 1))  (K : Go p.tables e below G (T.setTop (mkF m (pc + 1) Ls (.long (x * y) :: rest)))) : Go p.tables e below G (T.setTop (mkF m (pc) Ls (.long y :: .long x :: rest))) := K.via fun _ r => XT.lmul X.here hx rfl hd rfl r
theorem land (X : Stand p l e R s m args below meth c T locs cells slots) (hx : p.tables.exec = Jvm.exec) {x y : Int64} (hd : decode c.code pc = .ok (.land, 1))  (K : Go p.tables e below G (T.setTop (mkF m (pc + 1) Ls (.long (x &&& y) :: rest)))) : Go p.tables e below G (T.setTop (mkF m (pc) Ls (.long y :: .long x :: rest))) := K.via fun _ r => XT.land X.here hx rfl hd rfl r
theorem lor (X : Stand p l e R s m args below meth c T locs cells slots) (hx : p.tables.exec = Jvm.exec) {x y : Int64} (hd : decode c.code pc = .ok (.lor, 1))  (K : Go p.tables e below G (T.setTop (mkF m (pc + 1) Ls (.long (x ||| y) :: rest)))) : Go p.tables e below G (T.setTop (mkF m (pc) Ls (.long y :: .long x :: rest))) := K.via fun _ r => XT.lor X.here hx rfl hd rfl r
theorem lxor (X : Stand p l e R s m args below meth c T locs cells slots) (hx : p.tables.exec = Jvm.exec) {x y : Int64} (hd : decode c.code pc = .ok (.lxor, 1))  (K : Go p.tables e below G (T.setTop (mkF m (pc + 1) Ls (.long (x ^^^ y) :: rest)))) : Go p.tables e below G (T.setTop (mkF m (pc) Ls (.long y :: .long x :: rest))) := K.via fun _ r => XT.lxor X.here hx rfl hd rfl r
theorem ldiv (X : Stand p l e R s m args below meth c T locs cells slots) (hx : p.tables.exec = Jvm.exec) {x y : Int64} (hd : decode c.code pc = .ok (.ldiv, 1)) (hy : y ≠ 0) (K : Go p.tables e below G (T.setTop (mkF m (pc + 1) Ls (.long (x / y) :: rest)))) : Go p.tables e below G (T.setTop (mkF m (pc) Ls (.long y :: .long x :: rest))) := K.via fun _ r => XT.ldiv X.here hx rfl hd rfl hy r
theorem lrem (X : Stand p l e R s m args below meth c T locs cells slots) (hx : p.tables.exec = Jvm.exec) {x y : Int64} (hd : decode c.code pc = .ok (.lrem, 1)) (hy : y ≠ 0) (K : Go p.tables e below G (T.setTop (mkF m (pc + 1) Ls (.long (x - (x / y) * y) :: rest)))) : Go p.tables e below G (T.setTop (mkF m (pc) Ls (.long y :: .long x :: rest))) := K.via fun _ r => XT.lrem X.here hx rfl hd rfl hy r
theorem lshl (X : Stand p l e R s m args below meth c T locs cells slots) (hx : p.tables.exec = Jvm.exec) {x : Int64} {y : Int32} (hd : decode c.code pc = .ok (.lshl, 1))  (K : Go p.tables e below G (T.setTop (mkF m (pc + 1) Ls (.long (x <<< (y.toInt64 &&& 63)) :: rest)))) : Go p.tables e below G (T.setTop (mkF m (pc) Ls (.int y :: .long x :: rest))) := K.via fun _ r => XT.lshl X.here hx rfl hd rfl r
theorem lshr (X : Stand p l e R s m args below meth c T locs cells slots) (hx : p.tables.exec = Jvm.exec) {x : Int64} {y : Int32} (hd : decode c.code pc = .ok (.lshr, 1))  (K : Go p.tables e below G (T.setTop (mkF m (pc + 1) Ls (.long (x >>> (y.toInt64 &&& 63)) :: rest)))) : Go p.tables e below G (T.setTop (mkF m (pc) Ls (.int y :: .long x :: rest))) := K.via fun _ r => XT.lshr X.here hx rfl hd rfl r
theorem lushr (X : Stand p l e R s m args below meth c T locs cells slots) (hx : p.tables.exec = Jvm.exec) {x : Int64} {y : Int32} (hd : decode c.code pc = .ok (.lushr, 1))  (K : Go p.tables e below G (T.setTop (mkF m (pc + 1) Ls (.long (XT.ushrL x y) :: rest)))) : Go p.tables e below G (T.setTop (mkF m (pc) Ls (.int y :: .long x :: rest))) := K.via fun _ r => XT.lushr X.here hx rfl hd rfl r
theorem lneg (X : Stand p l e R s m args below meth c T locs cells slots) (hx : p.tables.exec = Jvm.exec) {x : Int64} (hd : decode c.code pc = .ok (.lneg, 1))  (K : Go p.tables e below G (T.setTop (mkF m (pc + 1) Ls (.long (-x) :: rest)))) : Go p.tables e below G (T.setTop (mkF m (pc) Ls (.long x :: rest))) := K.via fun _ r => XT.lneg X.here hx rfl hd rfl r
theorem lcmp (X : Stand p l e R s m args below meth c T locs cells slots) (hx : p.tables.exec = Jvm.exec) {x y : Int64} (hd : decode c.code pc = .ok (.lcmp, 1))  (K : Go p.tables e below G (T.setTop (mkF m (pc + 1) Ls (.int (XT.cmpL x y) :: rest)))) : Go p.tables e below G (T.setTop (mkF m (pc) Ls (.long y :: .long x :: rest))) := K.via fun _ r => XT.lcmp X.here hx rfl hd rfl r
theorem i2l (X : Stand p l e R s m args below meth c T locs cells slots) (hx : p.tables.exec = Jvm.exec) {x : Int32} (hd : decode c.code pc = .ok (.i2l, 1))  (K : Go p.tables e below G (T.setTop (mkF m (pc + 1) Ls (.long (x.toInt64) :: rest)))) : Go p.tables e below G (T.setTop (mkF m (pc) Ls (.int x :: rest))) := K.via fun _ r => XT.i2l X.here hx rfl hd rfl r
theorem l2i (X : Stand p l e R s m args below meth c T locs cells slots) (hx : p.tables.exec = Jvm.exec) {x : Int64} (hd : decode c.code pc = .ok (.l2i, 1))  (K : Go p.tables e below G (T.setTop (mkF m (pc + 1) Ls (.int (x.toInt32) :: rest)))) : Go p.tables e below G (T.setTop (mkF m (pc) Ls (.long x :: rest))) := K.via fun _ r => XT.l2i X.here hx rfl hd rfl r
theorem i2b (X : Stand p l e R s m args below meth c T locs cells slots) (hx : p.tables.exec = Jvm.exec) {x : Int32} (hd : decode c.code pc = .ok (.i2b, 1))  (K : Go p.tables e below G (T.setTop (mkF m (pc + 1) Ls (.int (x.toInt8.toInt32) :: rest)))) : Go p.tables e below G (T.setTop (mkF m (pc) Ls (.int x :: rest))) := K.via fun _ r => XT.i2b X.here hx rfl hd rfl r
theorem i2c (X : Stand p l e R s m args below meth c T locs cells slots) (hx : p.tables.exec = Jvm.exec) {x : Int32} (hd : decode c.code pc = .ok (.i2c, 1))  (K : Go p.tables e below G (T.setTop (mkF m (pc + 1) Ls (.int (x.toUInt32.toUInt16.toUInt32.toInt32) :: rest)))) : Go p.tables e below G (T.setTop (mkF m (pc) Ls (.int x :: rest))) := K.via fun _ r => XT.i2c X.here hx rfl hd rfl r
theorem i2s (X : Stand p l e R s m args below meth c T locs cells slots) (hx : p.tables.exec = Jvm.exec) {x : Int32} (hd : decode c.code pc = .ok (.i2s, 1))  (K : Go p.tables e below G (T.setTop (mkF m (pc + 1) Ls (.int (x.toInt16.toInt32) :: rest)))) : Go p.tables e below G (T.setTop (mkF m (pc) Ls (.int x :: rest))) := K.via fun _ r => XT.i2s X.here hx rfl hd rfl r
theorem dup (X : Stand p l e R s m args below meth c T locs cells slots) (hx : p.tables.exec = Jvm.exec) {v : Value} (hd : decode c.code pc = .ok (.dup, 1)) (hv : v.category = 1) (K : Go p.tables e below G (T.setTop (mkF m (pc + 1) Ls (v :: v :: rest)))) : Go p.tables e below G (T.setTop (mkF m (pc) Ls (v :: rest))) := K.via fun _ r => XS.dup X.here hx rfl hd rfl hv r
theorem pop (X : Stand p l e R s m args below meth c T locs cells slots) (hx : p.tables.exec = Jvm.exec) {v : Value} (hd : decode c.code pc = .ok (.pop, 1)) (hv : v.category = 1) (K : Go p.tables e below G (T.setTop (mkF m (pc + 1) Ls rest))) : Go p.tables e below G (T.setTop (mkF m (pc) Ls (v :: rest))) := K.via fun _ r => XT.pop X.here hx rfl hd rfl hv r
theorem dup_x1 (X : Stand p l e R s m args below meth c T locs cells slots) (hx : p.tables.exec = Jvm.exec) {v w : Value} (hd : decode c.code pc = .ok (.dup_x1, 1)) (hv : v.category = 1) (hw : w.category = 1) (K : Go p.tables e below G (T.setTop (mkF m (pc + 1) Ls (v :: w :: v :: rest)))) : Go p.tables e below G (T.setTop (mkF m (pc) Ls (v :: w :: rest))) := K.via fun _ r => XT.dupX1 X.here hx rfl hd rfl hv hw r
theorem dup2 (X : Stand p l e R s m args below meth c T locs cells slots) (hx : p.tables.exec = Jvm.exec) {v w : Value} (hd : decode c.code pc = .ok (.dup2, 1)) (hv : v.category = 1) (hw : w.category = 1) (K : Go p.tables e below G (T.setTop (mkF m (pc + 1) Ls (v :: w :: v :: w :: rest)))) : Go p.tables e below G (T.setTop (mkF m (pc) Ls (v :: w :: rest))) := K.via fun _ r => XT.dup2 X.here hx rfl hd rfl hv hw r
theorem dup2L (X : Stand p l e R s m args below meth c T locs cells slots) (hx : p.tables.exec = Jvm.exec) {x : Int64} (hd : decode c.code pc = .ok (.dup2, 1))  (K : Go p.tables e below G (T.setTop (mkF m (pc + 1) Ls (.long x :: .long x :: rest)))) : Go p.tables e below G (T.setTop (mkF m (pc) Ls (.long x :: rest))) := K.via fun _ r => XT.dup2L X.here hx rfl hd rfl r
theorem istoreN (X : Stand p l e R s m args below meth c T locs cells slots) (hx : p.tables.exec = Jvm.exec) {k : Fin 4} {x : Int32} (L2 : Array Slot) (hd : decode c.code pc = .ok (.istore_n k, 1))  (hl : storeLocals Ls k.val (.int x) = some L2) (K : Go p.tables e below G (T.setTop (mkF m (pc + 1) L2 rest))) : Go p.tables e below G (T.setTop (mkF m (pc) Ls ((.int x) :: rest))) := K.via fun _ r => XS.istoreN X.here hx rfl hd rfl hl r
theorem istore (X : Stand p l e R s m args below meth c T locs cells slots) (hx : p.tables.exec = Jvm.exec) {k : Nat} {x : Int32} (L2 : Array Slot) (hd : decode c.code pc = .ok (.istore k, 2))  (hl : storeLocals Ls k (.int x) = some L2) (K : Go p.tables e below G (T.setTop (mkF m (pc + 2) L2 rest))) : Go p.tables e below G (T.setTop (mkF m (pc) Ls ((.int x) :: rest))) := K.via fun _ r => XS.istore X.here hx rfl hd rfl hl r
theorem astoreN (X : Stand p l e R s m args below meth c T locs cells slots) (hx : p.tables.exec = Jvm.exec) {k : Fin 4} {v : Value} (L2 : Array Slot) (hd : decode c.code pc = .ok (.astore_n k, 1)) (hv : v.isRef = true) (hl : storeLocals Ls k.val v = some L2) (K : Go p.tables e below G (T.setTop (mkF m (pc + 1) L2 rest))) : Go p.tables e below G (T.setTop (mkF m (pc) Ls (v :: rest))) := K.via fun _ r => XS.astoreN X.here hx rfl hd rfl hv hl r
theorem astore (X : Stand p l e R s m args below meth c T locs cells slots) (hx : p.tables.exec = Jvm.exec) {k : Nat} {v : Value} (L2 : Array Slot) (hd : decode c.code pc = .ok (.astore k, 2)) (hv : v.isRef = true) (hl : storeLocals Ls k v = some L2) (K : Go p.tables e below G (T.setTop (mkF m (pc + 2) L2 rest))) : Go p.tables e below G (T.setTop (mkF m (pc) Ls (v :: rest))) := K.via fun _ r => XS.astore X.here hx rfl hd rfl hv hl r
theorem lstoreN (X : Stand p l e R s m args below meth c T locs cells slots) (hx : p.tables.exec = Jvm.exec) {k : Fin 4} {x : Int64} (L2 : Array Slot) (hd : decode c.code pc = .ok (.lstore_n k, 1))  (hl : storeLocals Ls k.val (.long x) = some L2) (K : Go p.tables e below G (T.setTop (mkF m (pc + 1) L2 rest))) : Go p.tables e below G (T.setTop (mkF m (pc) Ls ((.long x) :: rest))) := K.via fun _ r => XT.lstoreN X.here hx rfl hd rfl hl r
theorem lstore (X : Stand p l e R s m args below meth c T locs cells slots) (hx : p.tables.exec = Jvm.exec) {k : Nat} {x : Int64} (L2 : Array Slot) (hd : decode c.code pc = .ok (.lstore k, 2))  (hl : storeLocals Ls k (.long x) = some L2) (K : Go p.tables e below G (T.setTop (mkF m (pc + 2) L2 rest))) : Go p.tables e below G (T.setTop (mkF m (pc) Ls ((.long x) :: rest))) := K.via fun _ r => XT.lstore X.here hx rfl hd rfl hl r
theorem iinc (X : Stand p l e R s m args below meth c T locs cells slots) (hx : p.tables.exec = Jvm.exec) {k : Nat} {cst : Int} {x : Int32} (v : Int32) (L2 : Array Slot) (hd : decode c.code pc = .ok (.iinc k cst, 3)) (hv : Int32.ofInt cst = v) (hl : Ls[k]? = some (.val (.int x))) (hl' : storeLocals Ls k (.int (x + v)) = some L2) (K : Go p.tables e below G (T.setTop (mkF m (pc + 3) L2 rest))) : Go p.tables e below G (T.setTop (mkF m (pc) Ls rest)) := K.via fun _ r => XT.iincV X.here hx rfl v hd hv hl hl' r
theorem goto (X : Stand p l e R s m args below meth c T locs cells slots) (hx : p.tables.exec = Jvm.exec) {o : Int} (hd : decode c.code pc = .ok (.goto o, 3)) (ho : 0 ≤ (pc : Int) + o) (hp : ((pc : Int) + o).toNat = pc') (K : Go p.tables e below G (T.setTop (mkF m (pc') Ls rest))) : Go p.tables e below G (T.setTop (mkF m (pc) Ls rest)) := K.via fun _ r => XS.goto X.here hx rfl rfl hd ho hp r
theorem if_eq (X : Stand p l e R s m args below meth c T locs cells slots) (hx : p.tables.exec = Jvm.exec) {x : Int32} {o : Int} (hd : decode c.code pc = .ok (.ifCond .eq o, 3)) (ho : 0 ≤ (pc : Int) + o) (hp : ((pc : Int) + o).toNat = pc') (KT : x = 0 → Go p.tables e below G (T.setTop (mkF m (pc') Ls rest))) (KF : ¬ x = 0 → Go p.tables e below G (T.setTop (mkF m (pc + 3) Ls rest))) : Go p.tables e below G (T.setTop (mkF m (pc) Ls (.int x :: rest))) := by
  by_cases h : x = 0
  · exact (KT h).via fun _ r => XS.ifYes X.here hx rfl rfl hd rfl (XT.i0_eq_t h) ho hp r
  · exact (KF h).via fun _ r => XS.ifNo X.here hx rfl hd rfl (XT.i0_eq_f h) r
theorem if_ne (X : Stand p l e R s m args below meth c T locs cells slots) (hx : p.tables.exec = Jvm.exec) {x : Int32} {o : Int} (hd : decode c.code pc = .ok (.ifCond .ne o, 3)) (ho : 0 ≤ (pc : Int) + o) (hp : ((pc : Int) + o).toNat = pc') (KT : ¬ x = 0 → Go p.tables e below G (T.setTop (mkF m (pc') Ls rest))) (KF : x = 0 → Go p.tables e below G (T.setTop (mkF m (pc + 3) Ls rest))) : Go p.tables e below G (T.setTop (mkF m (pc) Ls (.int x :: rest))) := by
  by_cases h : x = 0
  · exact (KF h).via fun _ r => XS.ifNo X.here hx rfl hd rfl (XT.i0_ne_f h) r
  · exact (KT h).via fun _ r => XS.ifYes X.here hx rfl rfl hd rfl (XT.i0_ne_t h) ho hp r
theorem if_lt (X : Stand p l e R s m args below meth c T locs cells slots) (hx : p.tables.exec = Jvm.exec) {x : Int32} {o : Int} (hd : decode c.code pc = .ok (.ifCond .lt o, 3)) (ho : 0 ≤ (pc : Int) + o) (hp : ((pc : Int) + o).toNat = pc') (KT : x < 0 → Go p.tables e below G (T.setTop (mkF m (pc') Ls rest))) (KF : ¬ x < 0 → Go p.tables e below G (T.setTop (mkF m (pc + 3) Ls rest))) : Go p.tables e below G (T.setTop (mkF m (pc) Ls (.int x :: rest))) := by
  by_cases h : x < 0
  · exact (KT h).via fun _ r => XS.ifYes X.here hx rfl rfl hd rfl (XT.i0_lt_t h) ho hp r
  · exact (KF h).via fun _ r => XS.ifNo X.here hx rfl hd rfl (XT.i0_lt_f h) r
theorem if_ge (X : Stand p l e R s m args below meth c T locs cells slots) (hx : p.tables.exec = Jvm.exec) {x : Int32} {o : Int} (hd : decode c.code pc = .ok (.ifCond .ge o, 3)) (ho : 0 ≤ (pc : Int) + o) (hp : ((pc : Int) + o).toNat = pc') (KT : ¬ x < 0 → Go p.tables e below G (T.setTop (mkF m (pc') Ls rest))) (KF : x < 0 → Go p.tables e below G (T.setTop (mkF m (pc + 3) Ls rest))) : Go p.tables e below G (T.setTop (mkF m (pc) Ls (.int x :: rest))) := by
  by_cases h : x < 0
  · exact (KF h).via fun _ r => XS.ifNo X.here hx rfl hd rfl (XT.i0_ge_f h) r
  · exact (KT h).via fun _ r => XS.ifYes X.here hx rfl rfl hd rfl (XT.i0_ge_t h) ho hp r
theorem if_gt (X : Stand p l e R s m args below meth c T locs cells slots) (hx : p.tables.exec = Jvm.exec) {x : Int32} {o : Int} (hd : decode c.code pc = .ok (.ifCond .gt o, 3)) (ho : 0 ≤ (pc : Int) + o) (hp : ((pc : Int) + o).toNat = pc') (KT : 0 < x → Go p.tables e below G (T.setTop (mkF m (pc') Ls rest))) (KF : ¬ 0 < x → Go p.tables e below G (T.setTop (mkF m (pc + 3) Ls rest))) : Go p.tables e below G (T.setTop (mkF m (pc) Ls (.int x :: rest))) := by
  by_cases h : 0 < x
  · exact (KT h).via fun _ r => XS.ifYes X.here hx rfl rfl hd rfl (XT.i0_gt_t h) ho hp r
  · exact (KF h).via fun _ r => XS.ifNo X.here hx rfl hd rfl (XT.i0_gt_f h) r
theorem if_le (X : Stand p l e R s m args below meth c T locs cells slots) (hx : p.tables.exec = Jvm.exec) {x : Int32} {o : Int} (hd : decode c.code pc = .ok (.ifCond .le o, 3)) (ho : 0 ≤ (pc : Int) + o) (hp : ((pc : Int) + o).toNat = pc') (KT : ¬ 0 < x → Go p.tables e below G (T.setTop (mkF m (pc') Ls rest))) (KF : 0 < x → Go p.tables e below G (T.setTop (mkF m (pc + 3) Ls rest))) : Go p.tables e below G (T.setTop (mkF m (pc) Ls (.int x :: rest))) := by
  by_cases h : 0 < x
  · exact (KF h).via fun _ r => XS.ifNo X.here hx rfl hd rfl (XT.i0_le_f h) r
  · exact (KT h).via fun _ r => XS.ifYes X.here hx rfl rfl hd rfl (XT.i0_le_t h) ho hp r
theorem icmp_eq (X : Stand p l e R s m args below meth c T locs cells slots) (hx : p.tables.exec = Jvm.exec) {x y : Int32} {o : Int} (hd : decode c.code pc = .ok (.if_icmp .eq o, 3)) (ho : 0 ≤ (pc : Int) + o) (hp : ((pc : Int) + o).toNat = pc') (KT : x = y → Go p.tables e below G (T.setTop (mkF m (pc') Ls rest))) (KF : ¬ x = y → Go p.tables e below G (T.setTop (mkF m (pc + 3) Ls rest))) : Go p.tables e below G (T.setTop (mkF m (pc) Ls (.int y :: .int x :: rest))) := by
  by_cases h : x = y
  · exact (KT h).via fun _ r => XS.icmpYes X.here hx rfl rfl hd rfl (XT.ii_eq_t h) ho hp r
  · exact (KF h).via fun _ r => XS.icmpNo X.here hx rfl hd rfl (XT.ii_eq_f h) r
theorem icmp_ne (X : Stand p l e R s m args below meth c T locs cells slots) (hx : p.tables.exec = Jvm.exec) {x y : Int32} {o : Int} (hd : decode c.code pc = .ok (.if_icmp .ne o, 3)) (ho : 0 ≤ (pc : Int) + o) (hp : ((pc : Int) + o).toNat = pc') (KT : ¬ x = y → Go p.tables e below G (T.setTop (mkF m (pc') Ls rest))) (KF : x = y → Go p.tables e below G (T.setTop (mkF m (pc + 3) Ls rest))) : Go p.tables e below G (T.setTop (mkF m (pc) Ls (.int y :: .int x :: rest))) := by
  by_cases h : x = y
  · exact (KF h).via fun _ r => XS.icmpNo X.here hx rfl hd rfl (XT.ii_ne_f h) r
  · exact (KT h).via fun _ r => XS.icmpYes X.here hx rfl rfl hd rfl (XT.ii_ne_t h) ho hp r
theorem icmp_lt (X : Stand p l e R s m args below meth c T locs cells slots) (hx : p.tables.exec = Jvm.exec) {x y : Int32} {o : Int} (hd : decode c.code pc = .ok (.if_icmp .lt o, 3)) (ho : 0 ≤ (pc : Int) + o) (hp : ((pc : Int) + o).toNat = pc') (KT : x < y → Go p.tables e below G (T.setTop (mkF m (pc') Ls rest))) (KF : ¬ x < y → Go p.tables e below G (T.setTop (mkF m (pc + 3) Ls rest))) : Go p.tables e below G (T.setTop (mkF m (pc) Ls (.int y :: .int x :: rest))) := by
  by_cases h : x < y
  · exact (KT h).via fun _ r => XS.icmpYes X.here hx rfl rfl hd rfl (XT.ii_lt_t h) ho hp r
  · exact (KF h).via fun _ r => XS.icmpNo X.here hx rfl hd rfl (XT.ii_lt_f h) r
theorem icmp_ge (X : Stand p l e R s m args below meth c T locs cells slots) (hx : p.tables.exec = Jvm.exec) {x y : Int32} {o : Int} (hd : decode c.code pc = .ok (.if_icmp .ge o, 3)) (ho : 0 ≤ (pc : Int) + o) (hp : ((pc : Int) + o).toNat = pc') (KT : ¬ x < y → Go p.tables e below G (T.setTop (mkF m (pc') Ls rest))) (KF : x < y → Go p.tables e below G (T.setTop (mkF m (pc + 3) Ls rest))) : Go p.tables e below G (T.setTop (mkF m (pc) Ls (.int y :: .int x :: rest))) := by
  by_cases h : x < y
  · exact (KF h).via fun _ r => XS.icmpNo X.here hx rfl hd rfl (XT.ii_ge_f h) r
  · exact (KT h).via fun _ r => XS.icmpYes X.here hx rfl rfl hd rfl (XT.ii_ge_t h) ho hp r
theorem icmp_gt (X : Stand p l e R s m args below meth c T locs cells slots) (hx : p.tables.exec = Jvm.exec) {x y : Int32} {o : Int} (hd : decode c.code pc = .ok (.if_icmp .gt o, 3)) (ho : 0 ≤ (pc : Int) + o) (hp : ((pc : Int) + o).toNat = pc') (KT : y < x → Go p.tables e below G (T.setTop (mkF m (pc') Ls rest))) (KF : ¬ y < x → Go p.tables e below G (T.setTop (mkF m (pc + 3) Ls rest))) : Go p.tables e below G (T.setTop (mkF m (pc) Ls (.int y :: .int x :: rest))) := by
  by_cases h : y < x
  · exact (KT h).via fun _ r => XS.icmpYes X.here hx rfl rfl hd rfl (XT.ii_gt_t h) ho hp r
  · exact (KF h).via fun _ r => XS.icmpNo X.here hx rfl hd rfl (XT.ii_gt_f h) r
theorem icmp_le (X : Stand p l e R s m args below meth c T locs cells slots) (hx : p.tables.exec = Jvm.exec) {x y : Int32} {o : Int} (hd : decode c.code pc = .ok (.if_icmp .le o, 3)) (ho : 0 ≤ (pc : Int) + o) (hp : ((pc : Int) + o).toNat = pc') (KT : ¬ y < x → Go p.tables e below G (T.setTop (mkF m (pc') Ls rest))) (KF : y < x → Go p.tables e below G (T.setTop (mkF m (pc + 3) Ls rest))) : Go p.tables e below G (T.setTop (mkF m (pc) Ls (.int y :: .int x :: rest))) := by
  by_cases h : y < x
  · exact (KF h).via fun _ r => XS.icmpNo X.here hx rfl hd rfl (XT.ii_le_f h) r
  · exact (KT h).via fun _ r => XS.icmpYes X.here hx rfl rfl hd rfl (XT.ii_le_t h) ho hp r
theorem ifnull_n (X : Stand p l e R s m args below meth c T locs cells slots) (hx : p.tables.exec = Jvm.exec) {o : Int} (hd : decode c.code pc = .ok (.ifnull o, 3)) (ho : 0 ≤ (pc : Int) + o) (hp : ((pc : Int) + o).toNat = pc') (K : Go p.tables e below G (T.setTop (mkF m (pc') Ls rest))) : Go p.tables e below G (T.setTop (mkF m (pc) Ls (.null :: rest))) := K.via fun _ r => XS.ifnullYes X.here hx rfl rfl hd rfl ho hp r
theorem ifnull_r (X : Stand p l e R s m args below meth c T locs cells slots) (hx : p.tables.exec = Jvm.exec) {o : Int} {b : Addr} (hd : decode c.code pc = .ok (.ifnull o, 3)) (K : Go p.tables e below G (T.setTop (mkF m (pc + 3) Ls rest))) : Go p.tables e below G (T.setTop (mkF m (pc) Ls (.ref b :: rest))) := K.via fun _ r => XS.ifnullNo X.here hx rfl hd rfl r
theorem ifnonnull_r (X : Stand p l e R s m args below meth c T locs cells slots) (hx : p.tables.exec = Jvm.exec) {o : Int} {b : Addr} (hd : decode c.code pc = .ok (.ifnonnull o, 3)) (ho : 0 ≤ (pc : Int) + o) (hp : ((pc : Int) + o).toNat = pc') (K : Go p.tables e below G (T.setTop (mkF m (pc') Ls rest))) : Go p.tables e below G (T.setTop (mkF m (pc) Ls (.ref b :: rest))) := K.via fun _ r => XT.ifnonnullYes X.here hx rfl rfl hd rfl ho hp r
theorem ifnonnull_n (X : Stand p l e R s m args below meth c T locs cells slots) (hx : p.tables.exec = Jvm.exec) {o : Int} (hd : decode c.code pc = .ok (.ifnonnull o, 3)) (K : Go p.tables e below G (T.setTop (mkF m (pc + 3) Ls rest))) : Go p.tables e below G (T.setTop (mkF m (pc) Ls (.null :: rest))) := K.via fun _ r => XT.ifnonnullNo X.here hx rfl hd rfl r
theorem acmp_eq (X : Stand p l e R s m args below meth c T locs cells slots) (hx : p.tables.exec = Jvm.exec) {v w : Value} {o : Int} (hd : decode c.code pc = .ok (.if_acmp .eq o, 3)) (h1 : v.isRef = true) (h2 : w.isRef = true) (ho : 0 ≤ (pc : Int) + o) (hp : ((pc : Int) + o).toNat = pc') (KT : v = w → Go p.tables e below G (T.setTop (mkF m (pc') Ls rest))) (KF : ¬ v = w → Go p.tables e below G (T.setTop (mkF m (pc + 3) Ls rest))) : Go p.tables e below G (T.setTop (mkF m (pc) Ls (w :: v :: rest))) := by
  by_cases h : v = w
  · exact (KT h).via fun _ r => XT.acmpYes X.here hx rfl rfl hd rfl h1 h2 (XT.aa_eq_t h) ho hp r
  · exact (KF h).via fun _ r => XT.acmpNo X.here hx rfl hd rfl h1 h2 (XT.aa_eq_f h) r
theorem acmp_ne (X : Stand p l e R s m args below meth c T locs cells slots) (hx : p.tables.exec = Jvm.exec) {v w : Value} {o : Int} (hd : decode c.code pc = .ok (.if_acmp .ne o, 3)) (h1 : v.isRef = true) (h2 : w.isRef = true) (ho : 0 ≤ (pc : Int) + o) (hp : ((pc : Int) + o).toNat = pc') (KT : ¬ v = w → Go p.tables e below G (T.setTop (mkF m (pc') Ls rest))) (KF : v = w → Go p.tables e below G (T.setTop (mkF m (pc + 3) Ls rest))) : Go p.tables e below G (T.setTop (mkF m (pc) Ls (w :: v :: rest))) := by
  by_cases h : v = w
  · exact (KF h).via fun _ r => XT.acmpNo X.here hx rfl hd rfl h1 h2 (XT.aa_ne_f h) r
  · exact (KT h).via fun _ r => XT.acmpYes X.here hx rfl rfl hd rfl h1 h2 (XT.aa_ne_t h) ho hp r
theorem iaload (X : Stand p l e R s m args below meth c T locs cells slots) (hx : p.tables.exec = Jvm.exec) {Z : State} {h : Heap} (hZ : Z.Warmed39 s.vm) (eT : T.heap = h) {a : Addr} {cell : Cell} {j : Int32} (v : Value) (A : Arr Z h a cell .int) (hin : ¬ (j < 0 ∨ cell.slots.size ≤ j.toNatClampNeg)) (hv : cell.slots[j.toNatClampNeg]? = some v) (hd : decode c.code pc = .ok (.iaload, 1)) (K : Go p.tables e below G (T.setTop (mkF m (pc + 1) Ls (v :: rest)))) : Go p.tables e below G (T.setTop (mkF m (pc) Ls (.int j :: .ref a :: rest))) := K.via fun t r => X.iaload hx (g := mkF m pc Ls (.int j :: .ref a :: rest)) (by rw [eT]; exact A.1) (State.isArrayOf_alike hZ.alike A.2.1) A.2.2 hin hv rfl rfl hd t r
theorem caload (X : Stand p l e R s m args below meth c T locs cells slots) (hx : p.tables.exec = Jvm.exec) {Z : State} {h : Heap} (hZ : Z.Warmed39 s.vm) (eT : T.heap = h) {a : Addr} {cell : Cell} {j : Int32} (v : Value) (A : Arr Z h a cell .char) (hin : ¬ (j < 0 ∨ cell.slots.size ≤ j.toNatClampNeg)) (hv : cell.slots[j.toNatClampNeg]? = some v) (hd : decode c.code pc = .ok (.caload, 1)) (K : Go p.tables e below G (T.setTop (mkF m (pc + 1) Ls (v :: rest)))) : Go p.tables e below G (T.setTop (mkF m (pc) Ls (.int j :: .ref a :: rest))) := K.via fun t r => X.caload hx (g := mkF m pc Ls (.int j :: .ref a :: rest)) (by rw [eT]; exact A.1) (State.isArrayOf_alike hZ.alike A.2.1) A.2.2 hin hv rfl rfl hd t r
theorem laload (X : Stand p l e R s m args below meth c T locs cells slots) (hx : p.tables.exec = Jvm.exec) {Z : State} {h : Heap} (hZ : Z.Warmed39 s.vm) (eT : T.heap = h) {a : Addr} {cell : Cell} {j : Int32} (v : Value) (A : Arr Z h a cell .long) (hin : ¬ (j < 0 ∨ cell.slots.size ≤ j.toNatClampNeg)) (hv : cell.slots[j.toNatClampNeg]? = some v) (hd : decode c.code pc = .ok (.laload, 1)) (K : Go p.tables e below G (T.setTop (mkF m (pc + 1) Ls (v :: rest)))) : Go p.tables e below G (T.setTop (mkF m (pc) Ls (.int j :: .ref a :: rest))) := K.via fun t r => X.laload hx (g := mkF m pc Ls (.int j :: .ref a :: rest)) (by rw [eT]; exact A.1) (State.isArrayOf_alike hZ.alike A.2.1) A.2.2 hin hv rfl rfl hd t r
theorem baload (X : Stand p l e R s m args below meth c T locs cells slots) (hx : p.tables.exec = Jvm.exec) {Z : State} {h : Heap} (hZ : Z.Warmed39 s.vm) (eT : T.heap = h) {a : Addr} {cell : Cell} {j : Int32} (v : Value) (A : Arr Z h a cell .byte) (hin : ¬ (j < 0 ∨ cell.slots.size ≤ j.toNatClampNeg)) (hv : cell.slots[j.toNatClampNeg]? = some v) (hd : decode c.code pc = .ok (.baload, 1)) (K : Go p.tables e below G (T.setTop (mkF m (pc + 1) Ls (v :: rest)))) : Go p.tables e below G (T.setTop (mkF m (pc) Ls (.int j :: .ref a :: rest))) := K.via fun t r => X.baloadBytes hx (g := mkF m pc Ls (.int j :: .ref a :: rest)) (by rw [eT]; exact A.1) (State.isArrayOf_alike hZ.alike A.2.1) A.2.2 hin hv rfl rfl hd t r
theorem zaload (X : Stand p l e R s m args below meth c T locs cells slots) (hx : p.tables.exec = Jvm.exec) {Z : State} {h : Heap} (hZ : Z.Warmed39 s.vm) (eT : T.heap = h) {a : Addr} {cell : Cell} {j : Int32} (v : Value) (A : Arr Z h a cell .boolean) (hin : ¬ (j < 0 ∨ cell.slots.size ≤ j.toNatClampNeg)) (hv : cell.slots[j.toNatClampNeg]? = some v) (hd : decode c.code pc = .ok (.baload, 1)) (K : Go p.tables e below G (T.setTop (mkF m (pc + 1) Ls (v :: rest)))) : Go p.tables e below G (T.setTop (mkF m (pc) Ls (.int j :: .ref a :: rest))) := K.via fun t r => X.baloadBooleans hx (g := mkF m pc Ls (.int j :: .ref a :: rest)) (by rw [eT]; exact A.1) (State.isArrayOf_alike hZ.alike A.2.1) A.2.2 hin hv rfl rfl hd t r
theorem aaload (X : Stand p l e R s m args below meth c T locs cells slots) (hx : p.tables.exec = Jvm.exec) {Z : State} {h : Heap} (hZ : Z.Warmed39 s.vm) (eT : T.heap = h) {a : Addr} {cell : Cell} {ty : FieldType} {j : Int32} (v : Value) (A : Arr Z h a cell ty) (hty : ty.isReference = true) (hin : ¬ (j < 0 ∨ cell.slots.size ≤ j.toNatClampNeg)) (hv : cell.slots[j.toNatClampNeg]? = some v) (hd : decode c.code pc = .ok (.aaload, 1)) (K : Go p.tables e below G (T.setTop (mkF m (pc + 1) Ls (v :: rest)))) : Go p.tables e below G (T.setTop (mkF m (pc) Ls (.int j :: .ref a :: rest))) := K.via fun t r => X.aaload hx (g := mkF m pc Ls (.int j :: .ref a :: rest)) (by rw [eT]; exact A.1) (State.isArrayOf_alike hZ.alike A.2.1) hty A.2.2 hin hv rfl rfl hd t r
theorem arraylength (X : Stand p l e R s m args below meth c T locs cells slots) (hx : p.tables.exec = Jvm.exec) {Z : State} {h : Heap} (hZ : Z.Warmed39 s.vm) (eT : T.heap = h) {a : Addr} {cell : Cell} {ty : FieldType} (N : Int32) (A : Arr Z h a cell ty) (hN : cell.slots.size.toInt32 = N) (hd : decode c.code pc = .ok (.arraylength, 1)) (K : Go p.tables e below G (T.setTop (mkF m (pc + 1) Ls (.int N :: rest)))) : Go p.tables e below G (T.setTop (mkF m (pc) Ls (.ref a :: rest))) := K.via fun t r => X.arraylength hx (g := mkF m pc Ls (.ref a :: rest)) (by rw [eT]; exact A.1) (State.isArrayOf_alike hZ.alike A.2.1) rfl rfl hd t (by rw [hN]; exact r)
end Steps1
section Ends
variable {p : Program} {l : Launch} {e : Env} {R : Room} {s : State} {m : MethodId} {args : Array Value} {below : List Frame} {meth : Method} {c : Code} {T : State} {locs : List Loc} {cells slots : Nat} {pc pc' : Nat} {Ls : Array Slot} {rest : List Value} {Q : Option Value → Heap → List Loc → Prop} {k n : Nat}
/-- what a narrow contract says of its end -/
abbrev EndN (s : State) (Q : Option Value → Heap → List Loc → Prop) (k n : Nat) : Outcome → State → Prop := fun o t => ∃ v L, o = .returned v ∧ Q v t.heap L ∧ FrameEnd s o t L k n
theorem fin_of (X : Stand p l e R s m args below meth c T locs cells slots) (hlk : meth.locks = false) {v : Option Value} (hv : meth.sig.returnType = none → v = none) {g : JFrame} (st : ∀ fs, (∀ (f : JFrame) (acts : List Action), f.method = m → f.locked = none → f.entered = [] → (doReturn e (T.setTop f) acts v).1 = T.setFrames fs) → Steps p.tables e below (T.setTop g) (T.setFrames fs)) (hQ : Q v T.heap locs) (hk : cells ≤ k) (hn : slots ≤ n) : Go p.tables e below (EndN s Q k n) (T.setTop g) := by
  obtain ⟨fs, hr, hrun, hended, hW, hsame⟩ := X.leave (v := v) hv hlk
  exact ⟨_, _, st fs hr, hrun, hended, _, _, rfl, hQ, ⟨_, rfl⟩, hW, hsame.mono hk hn⟩
theorem ireturn (X : Stand p l e R s m args below meth c T locs cells slots) (hx : p.tables.exec = Jvm.exec) (hlk : meth.locks = false) {z : Int32} (hret : meth.sig.returnType = some .int) (hd : decode c.code pc = .ok (.ireturn, 1)) (hQ : Q (some (.int z)) T.heap locs) (hk : cells ≤ k) (hn : slots ≤ n) : Go p.tables e below (EndN s Q k n) (T.setTop (mkF m pc Ls (.int z :: rest))) :=
  fin_of X hlk (v := some (.int z)) (fun h => by rw [hret] at h; cases h) (fun fs hr => retOut X hx hret rfl (Or.inl ⟨rfl, Or.inl rfl, z, rfl⟩) hd hr) hQ hk hn
theorem nreturn (X : Stand p l e R s m args below meth c T locs cells slots) (hx : p.tables.exec = Jvm.exec) (hlk : meth.locks = false) {z : Int32} {t : FieldType} (hret : meth.sig.returnType = some t) (ht : t = .boolean ∨ t = .byte ∨ t = .char ∨ t = .short) (hd : decode c.code pc = .ok (.ireturn, 1)) (hQ : Q (some (.int (nar t z))) T.heap locs) (hk : cells ≤ k) (hn : slots ≤ n) : Go p.tables e below (EndN s Q k n) (T.setTop (mkF m pc Ls (.int z :: rest))) :=
  fin_of X hlk (v := some (.int (nar t z))) (fun h => by rw [hret] at h; cases h) (fun fs hr => retN X hx hret ht hd hr) hQ hk hn
theorem areturn (X : Stand p l e R s m args below meth c T locs cells slots) (hx : p.tables.exec = Jvm.exec) (hlk : meth.locks = false) {w : Value} {t : FieldType} (hret : meth.sig.returnType = some t) (ht : t.isReference = true) (hw : w.isRef = true) (hna : narrow t w = w) (hd : decode c.code pc = .ok (.areturn, 1)) (hQ : Q (some w) T.heap locs) (hk : cells ≤ k) (hn : slots ≤ n) : Go p.tables e below (EndN s Q k n) (T.setTop (mkF m pc Ls (w :: rest))) :=
  fin_of X hlk (v := some w) (fun h => by rw [hret] at h; cases h) (fun fs hr => retOut X hx hret hna (Or.inr (Or.inr (Or.inr (Or.inr ⟨rfl, ht, hw⟩)))) hd hr) hQ hk hn
theorem lreturn (X : Stand p l e R s m args below meth c T locs cells slots) (hx : p.tables.exec = Jvm.exec) (hlk : meth.locks = false) {z : Int64} (hret : meth.sig.returnType = some .long) (hd : decode c.code pc = .ok (.lreturn, 1)) (hQ : Q (some (.long z)) T.heap locs) (hk : cells ≤ k) (hn : slots ≤ n) : Go p.tables e below (EndN s Q k n) (T.setTop (mkF m pc Ls (.long z :: rest))) :=
  fin_of X hlk (v := some (.long z)) (fun h => by rw [hret] at h; cases h) (fun fs hr => retOut X hx hret rfl (Or.inr (Or.inl ⟨rfl, rfl, z, rfl⟩)) hd hr) hQ hk hn
theorem vreturn (X : Stand p l e R s m args below meth c T locs cells slots) (hx : p.tables.exec = Jvm.exec) (hlk : meth.locks = false) (hret : meth.sig.returnType = none) (hd : decode c.code pc = .ok (.return_, 1)) (hQ : Q none T.heap locs) (hk : cells ≤ k) (hn : slots ≤ n) : Go p.tables e below (EndN s Q k n) (T.setTop (mkF m pc Ls [])) :=
  fin_of X hlk (v := none) (fun _ => rfl) (fun fs hr => X.returnOut hx hret hd hr) hQ hk hn
end Ends
section Pays
/-- a narrow contract: called with as' at a heap h0 the method returns v, Q v says of the heap behind -/
def Pay (l : Launch) (Z : State) (y : MethodName) (bytes : ByteArray) (maxL : Nat) (ret : Option FieldType) (rm : Room) (as' : Array Value) (h0 : Heap) (Q : Option Value → Heap → List Loc → Prop) : Prop :=
  ∀ ws : List Jvm.Cond, MetFree l y (head1 (Jvm.Cond.code y bytes maxL ret :: ws) rm) (fun a U => a = as' ∧ Z.Warmed39 U.vm ∧ U.heap = h0) (fun _ _ _ _ _ => True) (fun _ U o U' => ∃ v L, o = .returned v ∧ Q v U'.heap L ∧ FrameEnd U o U' L rm.cells rm.slots)
variable {l : Launch} {Z : State} {y : MethodName} {bytes : ByteArray} {maxL : Nat} {ret : Option FieldType} {rm : Room} {as' : Array Value} {h0 : Heap} {Q : Option Value → Heap → List Loc → Prop}
theorem Pay.of {Ls : Array Slot} (hpn : plainFor y = true) (hef : ∀ m, entryFrame m as' maxL = mkF m 0 Ls [])
    (body : ∀ (p : Program) (e : Env) (s : State) (m : MethodId) (below : List Frame) (meth : Method) (c : Code) (T : State), p.tables.exec = Jvm.exec → c.code = bytes → c.maxLocals = maxL → s.vm.findClass y.cls = some m.cls → s.methodNamed? y = some m → s.vm.method? m = some meth → Z.Warmed39 s.vm → meth.sig.returnType = ret → meth.locks = false → Stand p l e rm s m as' below meth c T [] 0 0 → T.heap = h0 →
      Go p.tables e below (EndN s Q rm.cells rm.slots) (T.setTop (mkF m 0 Ls []))) : Pay l Z y bytes maxL ret rm as' h0 Q := by
  intro ws
  refine MetFree.of_bodySF hpn hisR ?_
  intro p e s m args below meth c s₁ Bd hml0 hP hK
  obtain ⟨rfl, hZ, hh⟩ := hP
  rw [hef m]
  exact body p e s m below meth c s₁ Bd.exec Bd.bytes hml0 (findClass_of_methodNamed Bd.named) Bd.named Bd.method hZ Bd.returns Bd.notSynchronized (Stand.of_body Bd) (by rw [← hh, Bd.state]; rfl)
theorem Pay.mono {Q' : Option Value → Heap → List Loc → Prop} (P : Pay l Z y bytes maxL ret rm as' h0 Q) (h : ∀ v h L, Q v h L → Q' v h L) : Pay l Z y bytes maxL ret rm as' h0 Q' := fun ws =>
  (P ws).mono (fun _ _ q => q) (fun _ _ _ _ _ q => q) fun _ _ _ _ _ ⟨v, L, h1, h2, h3⟩ => ⟨v, L, h1, h _ _ _ h2, h3⟩
variable {p : Program} {e : Env} {R : Room} {s : State} {m : MethodId} {args : Array Value} {below : List Frame} {meth : Method} {c : Code} {T : State} {locs : List Loc} {cells slots : Nat} {G : Outcome → State → Prop} {pc : Nat} {Ls : Array Slot} {a0 : Array Value}
/-- invokestatic, by whoever pays it -/
theorem callSB (X : Stand p l e R s m args below meth c T locs cells slots) (hx : p.tables.exec = Jvm.exec) (hZ : Z.Warmed39 s.vm) {argsL rest st : List Value} {kc ks : Nat}
    (hK : Back l R p e below s args y 3 ((rest.map fun v => v.category).sum) (fun A a => a = as' ∧ A.U.heap = h0 ∧ A.cells + kc ≤ R.cells ∧ A.slots + ks ≤ R.slots) (fun A _ v B => ∃ L, Q v B.U.heap L ∧ B.locs = A.locs ++ L ∧ B.cells = A.cells + kc ∧ B.slots = A.slots + ks)) (eT : T.heap = h0) {own : String} {index : Nat} (hown : s.vm.findClass own = some m.cls)
    (wl : (Cond.methodLink own index y).before a0 Z = true) (wst : (Cond.static y).before a0 Z = true) (wz : (Cond.initialized y.cls).before a0 Z = true) (wc : (Cond.code y bytes maxL ret).before a0 Z = true)
    (hy : y.cls ≠ "java/lang/invoke/MethodHandle" ∧ y.cls ≠ "java/lang/invoke/VarHandle") {ps : List FieldType} {rt : Option FieldType} (hpd : parseMethodDescriptor y.desc = some ⟨ps, rt⟩) (hsz : Ls.size = c.maxLocals)
    (has : argsL.toArray = as') (hlen : argsL.length = ps.length) (hst : st = argsL.reverse ++ rest) (hd : decode c.code pc = .ok (.invokestatic index, 3)) (hce : cells + kc ≤ R.cells) (hsl : slots + ks ≤ R.slots)
    (K : ∀ (v : Option Value) (T' : State) (L : List Loc), Stand p l e R s m args below meth c T' (locs ++ L) (cells + kc) (slots + ks) → Q v T'.heap L → Go p.tables e below G (T'.setTop (mkF m (pc + 3) Ls (v.toList ++ rest)))) :
    Go p.tables e below G (T.setTop (mkF m pc Ls st)) := by
  obtain ⟨_, _, ⟨T1, L1, k1, n1⟩, -, X1, ⟨Lc, hQ, l1, y1, z1⟩, st1⟩ := Jvm.LawKit.callS X hx (y := y) hown (mvT hZ wl) (mvT hZ wst) (mvT hZ wz) (mvT hZ wc) hy hK (g := mkF m pc Ls st) rfl hsz (argsL := argsL) (rest := rest) (lenOf hpd hlen) hst (by show 2 * 0 + _ ≤ _; omega) hd (fun _ _ => ⟨has, eT, hce, hsl⟩)
  dsimp only [Pt.U, Pt.locs, Pt.cells, Pt.slots] at X1 l1 y1 z1 st1 hQ
  subst l1 y1 z1
  exact (K _ _ _ X1 hQ).via st1
/-- invokestatic by a narrow contract -/
theorem callS (X : Stand p l e R s m args below meth c T locs cells slots) (hx : p.tables.exec = Jvm.exec) (hZ : Z.Warmed39 s.vm) (hP : Pay l Z y bytes maxL ret rm as' h0 Q) (eT : T.heap = h0) {own : String} {index : Nat} (hown : s.vm.findClass own = some m.cls)
    (wl : (Cond.methodLink own index y).before a0 Z = true) (wst : (Cond.static y).before a0 Z = true) (wz : (Cond.initialized y.cls).before a0 Z = true) (wc : (Cond.code y bytes maxL ret).before a0 Z = true)
    (hy : y.cls ≠ "java/lang/invoke/MethodHandle" ∧ y.cls ≠ "java/lang/invoke/VarHandle") {ps : List FieldType} {rt : Option FieldType} (hpd : parseMethodDescriptor y.desc = some ⟨ps, rt⟩) (hsz : Ls.size = c.maxLocals)
    {argsL rest st : List Value} (has : argsL.toArray = as') (hlen : argsL.length = ps.length) (hst : st = argsL.reverse ++ rest) (hd : decode c.code pc = .ok (.invokestatic index, 3))
    (hf : (rm.frames + 1).ble R.frames = true) (hlo : ((rest.map fun v => v.category).sum + (maxL + 11) + rm.locals).ble R.locals = true) (hce : cells + rm.cells ≤ R.cells) (hsl : slots + rm.slots ≤ R.slots)
    (K : ∀ (v : Option Value) (T' : State) (L : List Loc), Stand p l e R s m args below meth c T' (locs ++ L) (cells + rm.cells) (slots + rm.slots) → Q v T'.heap L → Go p.tables e below G (T'.setTop (mkF m (pc + 3) Ls (v.toList ++ rest)))) :
    Go p.tables e below G (T.setTop (mkF m pc Ls st)) :=
  callSB X hx hZ (backOf (W := (rest.map fun v => v.category).sum) (hP []) hZ wc wz (Nat.le_of_ble_eq_true hf) (Nat.le_of_ble_eq_true hlo)) eT hown wl wst wz wc hy hpd hsz has hlen hst hd hce hsl K
/-- .. that moves nothing -/
theorem callSP (X : Stand p l e R s m args below meth c T locs cells slots) (hx : p.tables.exec = Jvm.exec) (hZ : Z.Warmed39 s.vm) {r : Option Value} (hP : Pay l Z y bytes maxL ret rm as' h0 (fun v h L => v = r ∧ h = h0 ∧ L = [])) (h0c : rm.cells = 0) (h0s : rm.slots = 0) (eT : T.heap = h0) {own : String} {index : Nat} (hown : s.vm.findClass own = some m.cls)
    (wl : (Cond.methodLink own index y).before a0 Z = true) (wst : (Cond.static y).before a0 Z = true) (wz : (Cond.initialized y.cls).before a0 Z = true) (wc : (Cond.code y bytes maxL ret).before a0 Z = true)
    (hy : y.cls ≠ "java/lang/invoke/MethodHandle" ∧ y.cls ≠ "java/lang/invoke/VarHandle") {ps : List FieldType} {rt : Option FieldType} (hpd : parseMethodDescriptor y.desc = some ⟨ps, rt⟩) (hsz : Ls.size = c.maxLocals)
    {argsL rest st : List Value} (has : argsL.toArray = as') (hlen : argsL.length = ps.length) (hst : st = argsL.reverse ++ rest) (hd : decode c.code pc = .ok (.invokestatic index, 3))
    (hf : (rm.frames + 1).ble R.frames = true) (hlo : ((rest.map fun v => v.category).sum + (maxL + 11) + rm.locals).ble R.locals = true) (hce : cells ≤ R.cells) (hsl : slots ≤ R.slots)
    (K : ∀ (T' : State), Stand p l e R s m args below meth c T' locs cells slots → T'.heap = h0 → Go p.tables e below G (T'.setTop (mkF m (pc + 3) Ls (r.toList ++ rest)))) :
    Go p.tables e below G (T.setTop (mkF m pc Ls st)) := by
  refine callS X hx hZ hP eT hown wl wst wz wc hy hpd hsz has hlen hst hd hf hlo (by rw [h0c]; exact hce) (by rw [h0s]; exact hsl) ?_
  rintro v T' L X' ⟨rfl, hh, rfl⟩
  rw [h0c, h0s, List.append_nil] at X'
  exact K T' X' hh
end Pays
end Jvm.Ow
namespace Jvm.Ow
open Sem ClassFile Op Lib Jvm.Stand Jvm.Free Jvm.LawKit Jvm.RoadKit
section Heaps
variable {p : Program} {l : Launch} {e : Env} {R : Room} {s : State} {m : MethodId} {args : Array Value} {below : List Frame} {meth : Method} {c : Code} {T : State} {locs : List Loc} {cells slots : Nat} {G : Outcome → State → Prop} {pc pc' : Nat} {Ls : Array Slot} {rest : List Value} {Z : State} {a0 : Array Value} {h : Heap}
theorem new_ (X : Stand p l e R s m args below meth c T locs cells slots) (hx : p.tables.exec = Jvm.exec) (hZ : Z.Warmed39 s.vm) {own C : String} {index n : Nat} (hown : s.vm.findClass own = some m.cls) (w : (Cond.classLink own index C).before a0 Z = true) (wi : (Cond.instantiable C n).before a0 Z = true) (wz : (Cond.initialized C).before a0 Z = true) (eT : T.heap = h)
    (hd : decode c.code pc = .ok (.new index, 3)) (hc : cells + 1 ≤ R.cells) (hl : slots + n ≤ R.slots)
    (K : ∀ T' h' (a : Addr), a = h.size → Stand p l e R s m args below meth c T' locs (cells + 1) (slots + n) → T'.heap = h' → Ext h h' → Exa Z h' a C → (∀ {O nm d : String} {ty : FieldType}, Laid Z a0 C O nm d → parseFieldDescriptor d = some ty → Fld Z h' a O nm d (defaultValue ty)) → (∃ cell : Cell, h'[a]? = some cell ∧ cell.vm = .none ∧ cell.monitor = {}) →
      Go p.tables e below G (T'.setTop (mkF m (pc + 3) Ls (.ref a :: rest)))) : Go p.tables e below G (T.setTop (mkF m pc Ls rest)) := by
  obtain ⟨T', h', X', e', E, A, D, U, st⟩ := newO X hx hZ hown w wi wz eT (g := mkF m pc Ls rest) rfl hd hc hl
  exact (K T' h' _ rfl X' e' E A D U).via st
theorem newarray (X : Stand p l e R s m args below meth c T locs cells slots) (hx : p.tables.exec = Jvm.exec) (hZ : Z.Warmed39 s.vm) {aty : ArrayType} (w : (Cond.arrayClass (newarray.typeOf aty)).before a0 Z = true) (eT : T.heap = h) (cap : Nat) {n : Int32}
    (hd : decode c.code pc = .ok (.newarray aty, 2)) (hn : ¬ n < 0) (hcap : n.toNatClampNeg ≤ cap) (hb : cap * 8 ≤ 536870912) (hc : cells + 1 ≤ R.cells) (hl : slots + cap ≤ R.slots)
    (K : ∀ T' h' cA (a : Addr), a = h.size → Stand p l e R s m args below meth c T' locs (cells + 1) (slots + cap) → T'.heap = h' → Ext h h' → Arr Z h' a (newA cA (newarray.typeOf aty) n) (newarray.typeOf aty) →
      Go p.tables e below G (T'.setTop (mkF m (pc + 2) Ls (.ref a :: rest)))) : Go p.tables e below G (T.setTop (mkF m pc Ls (.int n :: rest))) := by
  obtain ⟨T', h', cA, X', e', E, A, st⟩ := newP X hx hZ w eT (g := mkF m pc Ls (.int n :: rest)) rfl hd rfl hn hcap hb hc hl
  exact (K T' h' cA _ rfl X' e' E A).via st
theorem getfield (X : Stand p l e R s m args below meth c T locs cells slots) (hx : p.tables.exec = Jvm.exec) (hZ : Z.Warmed39 s.vm) {own R0 O n d : String} {index : Nat} (hown : s.vm.findClass own = some m.cls) (w : (Cond.fieldLink own index R0 n d).before a0 Z = true) (via : Via Z R0 O n d) (eT : T.heap = h) {a : Addr} {v : Value} (F : Fld Z h a O n d v)
    (hd : decode c.code pc = .ok (.getfield index, 3)) (K : ∀ T', Stand p l e R s m args below meth c T' locs cells slots → T'.heap = h → Go p.tables e below G (T'.setTop (mkF m (pc + 3) Ls (v :: rest)))) : Go p.tables e below G (T.setTop (mkF m pc Ls (.ref a :: rest))) := by
  obtain ⟨T', X', e', st⟩ := getF X hx hZ hown (host := "") (Or.inl w) via eT F (g := mkF m pc Ls (.ref a :: rest)) rfl rfl hd
  exact (K T' X' e').via st
theorem putfield (X : Stand p l e R s m args below meth c T locs cells slots) (hx : p.tables.exec = Jvm.exec) (hZ : Z.Warmed39 s.vm) {own R0 O n d C : String} {index kk : Nat} {ty : FieldType} (hown : s.vm.findClass own = some m.cls) (w : (Cond.fieldLink own index R0 n d).before a0 Z = true) (via : Via Z R0 O n d)
    (eT : T.heap = h) {a : Addr} {v old : Value} (F : Fld Z h a O n d old) (E : Exa Z h a C) (L : (Cond.lays C O n d).before a0 Z = true ∨ ((Cond.laysFinal C O n d).before a0 Z = true ∧ own = O ∧ meth.name = "<init>")) (wi : (Cond.instantiable C kk).before a0 Z = true)
    (hty : parseFieldDescriptor d = some ty) (hn : narrow ty v = v) (hf : fits ty v = true) (hd : decode c.code pc = .ok (.putfield index, 3))
    (K : ∀ T' h', Stand p l e R s m args below meth c T' (locs ++ [⟨a, RoadKit.slotOf Z O n d⟩]) cells slots → T'.heap = h' → Wr h h' a (RoadKit.slotOf Z O n d) v → Go p.tables e below G (T'.setTop (mkF m (pc + 3) Ls rest))) : Go p.tables e below G (T.setTop (mkF m pc Ls (v :: .ref a :: rest))) := by
  obtain ⟨T', h', X', e', W, st⟩ := putF X hx hZ hown (host := "") (Or.inl w) via eT F E L wi hty hn hf (g := mkF m pc Ls (v :: .ref a :: rest)) rfl rfl hd
  exact (K T' h' X' e' W).via st
theorem getstatic (X : Stand p l e R s m args below meth c T locs cells slots) (hx : p.tables.exec = Jvm.exec) (hZ : Z.Warmed39 s.vm) {own R0 O n d : String} {index : Nat} (hown : s.vm.findClass own = some m.cls) (w : (Cond.fieldLink own index R0 n d).before a0 Z = true) (via : Via Z R0 O n d) (eT : T.heap = h) {v : Value} (F : Sta Z h O n d v)
    (hd : decode c.code pc = .ok (.getstatic index, 3)) (K : ∀ T', Stand p l e R s m args below meth c T' locs cells slots → T'.heap = h → Go p.tables e below G (T'.setTop (mkF m (pc + 3) Ls (v :: rest)))) : Go p.tables e below G (T.setTop (mkF m pc Ls rest)) := by
  obtain ⟨T', X', e', st⟩ := getS (host := "") X hx hZ hown w via eT F (g := mkF m pc Ls rest) rfl hd
  exact (K T' X' e').via st
theorem objinit (X : Stand p l e R s m args below meth c T locs cells slots) (hx : p.tables.exec = Jvm.exec) (hZ : Z.Warmed39 s.vm) {own : String} {idx : Nat} (hown : s.vm.findClass own = some m.cls) (w1 : (Cond.methodLink own idx Lib.objectInit).before a0 Z = true) (w2 : (Cond.instanceMethod Lib.objectInit).before a0 Z = true)
    (w3 : (Cond.code Lib.objectInit ⟨#[0xb1]⟩ 1 none).before a0 Z = true) (eT : T.heap = h) (hsz : Ls.size = c.maxLocals) {a : Addr} (hd : decode c.code pc = .ok (.invokespecial idx, 3)) (hf : (1 : Nat).ble R.frames = true) (hl : ((rest.map fun v => v.category).sum + 12).ble R.locals = true)
    (K : ∀ T', Stand p l e R s m args below meth c T' locs cells slots → T'.heap = h → Go p.tables e below G (T'.setTop (mkF m (pc + 3) Ls rest))) : Go p.tables e below G (T.setTop (mkF m pc Ls (.ref a :: rest))) := by
  obtain ⟨T', X', e', st⟩ := initO X hx hZ hown w1 w2 w3 eT (g := mkF m pc Ls (.ref a :: rest)) rfl hsz rfl hd (Nat.le_of_ble_eq_true hf) (W := (rest.map fun v => v.category).sum) (by show 2 * 0 + _ ≤ _; omega) (Nat.le_of_ble_eq_true hl)
  exact (K T' X' e').via st
theorem castore (X : Stand p l e R s m args below meth c T locs cells slots) (hx : p.tables.exec = Jvm.exec) (hZ : Z.Warmed39 s.vm) (eT : T.heap = h) {a : Addr} {cl : Cell} (A : Arr Z h a cl .char) {j x : Int32} (hj : ¬ (j < 0 ∨ cl.slots.size ≤ j.toNatClampNeg)) (hd : decode c.code pc = .ok (.castore, 1))
    (K : ∀ T' h', Stand p l e R s m args below meth c T' (locs ++ [⟨a, j.toNatClampNeg⟩]) cells slots → T'.heap = h' → Wr h h' a j.toNatClampNeg (.int (nar .char x)) → Go p.tables e below G (T'.setTop (mkF m (pc + 1) Ls rest))) : Go p.tables e below G (T.setTop (mkF m pc Ls (.int x :: .int j :: .ref a :: rest))) := by
  obtain ⟨T', h', X', e', W, st⟩ := stC X hx hZ eT A hj (g := mkF m pc Ls (.int x :: .int j :: .ref a :: rest)) rfl rfl hd
  exact (K T' h' X' e' W).via st
theorem bastore (X : Stand p l e R s m args below meth c T locs cells slots) (hx : p.tables.exec = Jvm.exec) (hZ : Z.Warmed39 s.vm) (eT : T.heap = h) {a : Addr} {cl : Cell} (A : Arr Z h a cl .byte) {j x : Int32} (hj : ¬ (j < 0 ∨ cl.slots.size ≤ j.toNatClampNeg)) (hd : decode c.code pc = .ok (.bastore, 1))
    (K : ∀ T' h', Stand p l e R s m args below meth c T' (locs ++ [⟨a, j.toNatClampNeg⟩]) cells slots → T'.heap = h' → Wr h h' a j.toNatClampNeg (.int (nar .byte x)) → Go p.tables e below G (T'.setTop (mkF m (pc + 1) Ls rest))) : Go p.tables e below G (T.setTop (mkF m pc Ls (.int x :: .int j :: .ref a :: rest))) := by
  obtain ⟨T', h', X', e', W, st⟩ := stB X hx hZ eT A hj (g := mkF m pc Ls (.int x :: .int j :: .ref a :: rest)) rfl rfl hd
  exact (K T' h' X' e' W).via st
theorem zastore (X : Stand p l e R s m args below meth c T locs cells slots) (hx : p.tables.exec = Jvm.exec) (hZ : Z.Warmed39 s.vm) (eT : T.heap = h) {a : Addr} {cl : Cell} (A : Arr Z h a cl .boolean) {j x : Int32} (hj : ¬ (j < 0 ∨ cl.slots.size ≤ j.toNatClampNeg)) (hd : decode c.code pc = .ok (.bastore, 1))
    (K : ∀ T' h', Stand p l e R s m args below meth c T' (locs ++ [⟨a, j.toNatClampNeg⟩]) cells slots → T'.heap = h' → Wr h h' a j.toNatClampNeg (.int (nar .boolean x)) → Go p.tables e below G (T'.setTop (mkF m (pc + 1) Ls rest))) : Go p.tables e below G (T.setTop (mkF m pc Ls (.int x :: .int j :: .ref a :: rest))) := by
  obtain ⟨T', h', X', e', W, st⟩ := stZ X hx hZ eT A hj (g := mkF m pc Ls (.int x :: .int j :: .ref a :: rest)) rfl rfl hd
  exact (K T' h' X' e' W).via st
theorem iastore (X : Stand p l e R s m args below meth c T locs cells slots) (hx : p.tables.exec = Jvm.exec) (hZ : Z.Warmed39 s.vm) (eT : T.heap = h) {a : Addr} {cl : Cell} (A : Arr Z h a cl .int) {j x : Int32} (hj : ¬ (j < 0 ∨ cl.slots.size ≤ j.toNatClampNeg)) (hd : decode c.code pc = .ok (.iastore, 1))
    (K : ∀ T' h', Stand p l e R s m args below meth c T' (locs ++ [⟨a, j.toNatClampNeg⟩]) cells slots → T'.heap = h' → Wr h h' a j.toNatClampNeg (.int x) → Go p.tables e below G (T'.setTop (mkF m (pc + 1) Ls rest))) : Go p.tables e below G (T.setTop (mkF m pc Ls (.int x :: .int j :: .ref a :: rest))) := by
  obtain ⟨T', h', X', e', W, st⟩ := stI X hx hZ eT A hj (g := mkF m pc Ls (.int x :: .int j :: .ref a :: rest)) rfl rfl hd
  exact (K T' h' X' e' W).via st
theorem checkcast (X : Stand p l e R s m args below meth c T locs cells slots) (hx : p.tables.exec = Jvm.exec) (hZ : Z.Warmed39 s.vm) {own K0 : String} {index : Nat} (hown : s.vm.findClass own = some m.cls) (w : (Cond.classLink own index K0).before a0 Z = true) (eT : T.heap = h) {a : Addr} (F : Ins Z h a K0 true) (hd : decode c.code pc = .ok (.checkcast index, 3))
    (K : ∀ T', Stand p l e R s m args below meth c T' locs cells slots → T'.heap = h → Go p.tables e below G (T'.setTop (mkF m (pc + 3) Ls (.ref a :: rest)))) : Go p.tables e below G (T.setTop (mkF m pc Ls (.ref a :: rest))) := by
  obtain ⟨T', X', e', st⟩ := castY X hx hZ hown w eT F (g := mkF m pc Ls (.ref a :: rest)) rfl rfl hd
  exact (K T' X' e').via st
theorem instanceofY (X : Stand p l e R s m args below meth c T locs cells slots) (hx : p.tables.exec = Jvm.exec) (hZ : Z.Warmed39 s.vm) {own K0 : String} {index : Nat} (hown : s.vm.findClass own = some m.cls) (w : (Cond.classLink own index K0).before a0 Z = true) (eT : T.heap = h) {a : Addr} (F : Ins Z h a K0 true) (hd : decode c.code pc = .ok (.instanceof index, 3))
    (K : ∀ T', Stand p l e R s m args below meth c T' locs cells slots → T'.heap = h → Go p.tables e below G (T'.setTop (mkF m (pc + 3) Ls (.int 1 :: rest)))) : Go p.tables e below G (T.setTop (mkF m pc Ls (.ref a :: rest))) := by
  obtain ⟨T', X', e', st⟩ := instY X hx hZ hown w eT F (g := mkF m pc Ls (.ref a :: rest)) rfl rfl hd
  exact (K T' X' e').via st
end Heaps
section Calls
variable {l : Launch} {Z : State} {y : MethodName} {bytes : ByteArray} {maxL : Nat} {ret : Option FieldType} {rm : Room} {as' : Array Value} {h0 : Heap} {Q : Option Value → Heap → List Loc → Prop}
variable {p : Program} {e : Env} {R : Room} {s : State} {m : MethodId} {args : Array Value} {below : List Frame} {meth : Method} {c : Code} {T : State} {locs : List Loc} {cells slots : Nat} {G : Outcome → State → Prop} {pc : Nat} {Ls : Array Slot} {a0 : Array Value}
/-- invokespecial of a constructor, by whoever pays it -/
theorem callIB (X : Stand p l e R s m args below meth c T locs cells slots) (hx : p.tables.exec = Jvm.exec) (hZ : Z.Warmed39 s.vm) {a : Addr} {argsL rest st : List Value} {kc ks : Nat}
    (hK : Back l R p e below s args y 3 ((rest.map fun v => v.category).sum) (fun A a => a = as' ∧ A.U.heap = h0 ∧ A.cells + kc ≤ R.cells ∧ A.slots + ks ≤ R.slots) (fun A _ v B => ∃ L, Q v B.U.heap L ∧ B.locs = A.locs ++ L ∧ B.cells = A.cells + kc ∧ B.slots = A.slots + ks)) (eT : T.heap = h0) (hni : y.name = "<init>") {own : String} {index : Nat} (hown : s.vm.findClass own = some m.cls)
    (wl : (Cond.methodLink own index y).before a0 Z = true) (win : (Cond.instanceMethod y).before a0 Z = true) (wc : (Cond.code y bytes maxL none).before a0 Z = true)
    (hy : y.cls ≠ "java/lang/invoke/MethodHandle" ∧ y.cls ≠ "java/lang/invoke/VarHandle") {ps : List FieldType} {rt : Option FieldType} (hpd : parseMethodDescriptor y.desc = some ⟨ps, rt⟩) (hsz : Ls.size = c.maxLocals)
    (has : (.ref a :: argsL).toArray = as') (hlen : argsL.length = ps.length) (hst : st = argsL.reverse ++ .ref a :: rest) (hd : decode c.code pc = .ok (.invokespecial index, 3)) (hce : cells + kc ≤ R.cells) (hsl : slots + ks ≤ R.slots)
    (K : ∀ (v : Option Value) (T' : State) (L : List Loc), Stand p l e R s m args below meth c T' (locs ++ L) (cells + kc) (slots + ks) → Q v T'.heap L → Go p.tables e below G (T'.setTop (mkF m (pc + 3) Ls (v.toList ++ rest)))) :
    Go p.tables e below G (T.setTop (mkF m pc Ls st)) := by
  obtain ⟨_, _, ⟨T1, L1, k1, n1⟩, -, X1, ⟨Lc, hQ, l1, y1, z1⟩, st1⟩ := X.specialBack hx (y := y) hni hown (mvT hZ wl) (mvT hZ win) (mvT hZ wc) hy hK (g := mkF m pc Ls st) rfl hsz (Steps.refl _) (a := a) (argsL := argsL) (rest := rest) (lenOf hpd hlen) hst (by show 2 * 0 + _ ≤ _; omega) hd (fun _ _ => ⟨has, eT, hce, hsl⟩)
  dsimp only [Pt.U, Pt.locs, Pt.cells, Pt.slots] at X1 l1 y1 z1 st1 hQ
  subst l1 y1 z1
  exact (K _ _ _ X1 hQ).thru st1
/-- invokespecial of a constructor by a narrow contract -/
theorem callI (X : Stand p l e R s m args below meth c T locs cells slots) (hx : p.tables.exec = Jvm.exec) (hZ : Z.Warmed39 s.vm) (hP : Pay l Z y bytes maxL none rm as' h0 Q) (eT : T.heap = h0) (hni : y.name = "<init>") {own : String} {index : Nat} (hown : s.vm.findClass own = some m.cls)
    (wl : (Cond.methodLink own index y).before a0 Z = true) (win : (Cond.instanceMethod y).before a0 Z = true) (wz : (Cond.initialized y.cls).before a0 Z = true) (wc : (Cond.code y bytes maxL none).before a0 Z = true)
    (hy : y.cls ≠ "java/lang/invoke/MethodHandle" ∧ y.cls ≠ "java/lang/invoke/VarHandle") {ps : List FieldType} {rt : Option FieldType} (hpd : parseMethodDescriptor y.desc = some ⟨ps, rt⟩) (hsz : Ls.size = c.maxLocals)
    {a : Addr} {argsL rest st : List Value} (has : (.ref a :: argsL).toArray = as') (hlen : argsL.length = ps.length) (hst : st = argsL.reverse ++ .ref a :: rest) (hd : decode c.code pc = .ok (.invokespecial index, 3))
    (hf : (rm.frames + 1).ble R.frames = true) (hlo : ((rest.map fun v => v.category).sum + (maxL + 11) + rm.locals).ble R.locals = true) (hce : cells + rm.cells ≤ R.cells) (hsl : slots + rm.slots ≤ R.slots)
    (K : ∀ (v : Option Value) (T' : State) (L : List Loc), Stand p l e R s m args below meth c T' (locs ++ L) (cells + rm.cells) (slots + rm.slots) → Q v T'.heap L → Go p.tables e below G (T'.setTop (mkF m (pc + 3) Ls (v.toList ++ rest)))) :
    Go p.tables e below G (T.setTop (mkF m pc Ls st)) :=
  callIB X hx hZ (backOf (W := (rest.map fun v => v.category).sum) (hP []) hZ wc wz (Nat.le_of_ble_eq_true hf) (Nat.le_of_ble_eq_true hlo)) eT hni hown wl win wc hy hpd hsz has hlen hst hd hce hsl K
/-- invokevirtual, by whoever pays it: x is named, y is selected -/
theorem callVB (X : Stand p l e R s m args below meth c T locs cells slots) (hx : p.tables.exec = Jvm.exec) (hZ : Z.Warmed39 s.vm) {a : Addr} {argsL rest st : List Value} {kc ks : Nat}
    (hK : Back l R p e below s args y 3 ((rest.map fun v => v.category).sum) (fun A a => a = as' ∧ A.U.heap = h0 ∧ A.cells + kc ≤ R.cells ∧ A.slots + ks ≤ R.slots) (fun A _ v B => ∃ L, Q v B.U.heap L ∧ B.locs = A.locs ++ L ∧ B.cells = A.cells + kc ∧ B.slots = A.slots + ks)) (eT : T.heap = h0) {C : String} {own : String} {index : Nat} (hown : s.vm.findClass own = some m.cls)
    (wl : (Cond.methodLink own index y).before a0 Z = true) (wd : (Cond.declares y).before a0 Z = true) (wse : (Cond.selects C y y).before a0 Z = true) (win : (Cond.instanceMethod y).before a0 Z = true)
    (hy : y.cls ≠ "java/lang/invoke/MethodHandle" ∧ y.cls ≠ "java/lang/invoke/VarHandle") {ps : List FieldType} {rt : Option FieldType} (hpd : parseMethodDescriptor y.desc = some ⟨ps, rt⟩) (hsz : Ls.size = c.maxLocals)
    (E : Exa Z h0 a C) (has : (.ref a :: argsL).toArray = as') (hlen : argsL.length = ps.length) (hst : st = argsL.reverse ++ .ref a :: rest) (hd : decode c.code pc = .ok (.invokevirtual index, 3)) (hce : cells + kc ≤ R.cells) (hsl : slots + ks ≤ R.slots)
    (K : ∀ (v : Option Value) (T' : State) (L : List Loc), Stand p l e R s m args below meth c T' (locs ++ L) (cells + kc) (slots + ks) → Q v T'.heap L → Go p.tables e below G (T'.setTop (mkF m (pc + 3) Ls (v.toList ++ rest)))) :
    Go p.tables e below G (T.setTop (mkF m pc Ls st)) := by
  obtain ⟨cq, kq, qa, qb, qc⟩ := isOf hZ eT E
  obtain ⟨_, _, ⟨T1, L1, k1, n1⟩, -, X1, ⟨Lc, hQ, l1, y1, z1⟩, st1⟩ := X.virtualBack hx (y := y) (z := y) hown (mvT hZ wl) (mvT hZ wd) (notFace_of_selects (args := #[]) (mvT hZ wse)) (mvT hZ wse) (mvT hZ win) hy hK qa qc (g := mkF m pc Ls st) rfl hsz (Steps.refl _) (argsL := argsL) (rest := rest) (lenOf hpd hlen) hst (by show 2 * 0 + _ ≤ _; omega) hd (fun _ _ => ⟨has, eT, hce, hsl⟩)
  dsimp only [Pt.U, Pt.locs, Pt.cells, Pt.slots] at X1 l1 y1 z1 st1 hQ
  subst l1 y1 z1
  exact (K _ _ _ X1 hQ).thru st1
/-- invokevirtual by a narrow contract -/
theorem callV (X : Stand p l e R s m args below meth c T locs cells slots) (hx : p.tables.exec = Jvm.exec) (hZ : Z.Warmed39 s.vm) (hP : Pay l Z y bytes maxL ret rm as' h0 Q) (eT : T.heap = h0) {C : String} {own : String} {index : Nat} (hown : s.vm.findClass own = some m.cls)
    (wl : (Cond.methodLink own index y).before a0 Z = true) (wd : (Cond.declares y).before a0 Z = true) (wse : (Cond.selects C y y).before a0 Z = true) (win : (Cond.instanceMethod y).before a0 Z = true) (wz : (Cond.initialized y.cls).before a0 Z = true) (wc : (Cond.code y bytes maxL ret).before a0 Z = true)
    (hy : y.cls ≠ "java/lang/invoke/MethodHandle" ∧ y.cls ≠ "java/lang/invoke/VarHandle") {ps : List FieldType} {rt : Option FieldType} (hpd : parseMethodDescriptor y.desc = some ⟨ps, rt⟩) (hsz : Ls.size = c.maxLocals)
    {a : Addr} (E : Exa Z h0 a C) {argsL rest st : List Value} (has : (.ref a :: argsL).toArray = as') (hlen : argsL.length = ps.length) (hst : st = argsL.reverse ++ .ref a :: rest) (hd : decode c.code pc = .ok (.invokevirtual index, 3))
    (hf : (rm.frames + 1).ble R.frames = true) (hlo : ((rest.map fun v => v.category).sum + (maxL + 11) + rm.locals).ble R.locals = true) (hce : cells + rm.cells ≤ R.cells) (hsl : slots + rm.slots ≤ R.slots)
    (K : ∀ (v : Option Value) (T' : State) (L : List Loc), Stand p l e R s m args below meth c T' (locs ++ L) (cells + rm.cells) (slots + rm.slots) → Q v T'.heap L → Go p.tables e below G (T'.setTop (mkF m (pc + 3) Ls (v.toList ++ rest)))) :
    Go p.tables e below G (T.setTop (mkF m pc Ls st)) :=
  callVB X hx hZ (backOf (W := (rest.map fun v => v.category).sum) (hP []) hZ wc wz (Nat.le_of_ble_eq_true hf) (Nat.le_of_ble_eq_true hlo)) eT hown wl wd wse win hy hpd hsz E has hlen hst hd hce hsl K
/-- .. that moves nothing -/
theorem callVP (X : Stand p l e R s m args below meth c T locs cells slots) (hx : p.tables.exec = Jvm.exec) (hZ : Z.Warmed39 s.vm) {r : Option Value} (hP : Pay l Z y bytes maxL ret rm as' h0 (fun v h L => v = r ∧ h = h0 ∧ L = [])) (h0c : rm.cells = 0) (h0s : rm.slots = 0) (eT : T.heap = h0) {C : String} {own : String} {index : Nat} (hown : s.vm.findClass own = some m.cls)
    (wl : (Cond.methodLink own index y).before a0 Z = true) (wd : (Cond.declares y).before a0 Z = true) (wse : (Cond.selects C y y).before a0 Z = true) (win : (Cond.instanceMethod y).before a0 Z = true) (wz : (Cond.initialized y.cls).before a0 Z = true) (wc : (Cond.code y bytes maxL ret).before a0 Z = true)
    (hy : y.cls ≠ "java/lang/invoke/MethodHandle" ∧ y.cls ≠ "java/lang/invoke/VarHandle") {ps : List FieldType} {rt : Option FieldType} (hpd : parseMethodDescriptor y.desc = some ⟨ps, rt⟩) (hsz : Ls.size = c.maxLocals)
    {a : Addr} (E : Exa Z h0 a C) {argsL rest st : List Value} (has : (.ref a :: argsL).toArray = as') (hlen : argsL.length = ps.length) (hst : st = argsL.reverse ++ .ref a :: rest) (hd : decode c.code pc = .ok (.invokevirtual index, 3))
    (hf : (rm.frames + 1).ble R.frames = true) (hlo : ((rest.map fun v => v.category).sum + (maxL + 11) + rm.locals).ble R.locals = true) (hce : cells ≤ R.cells) (hsl : slots ≤ R.slots)
    (K : ∀ (T' : State), Stand p l e R s m args below meth c T' locs cells slots → T'.heap = h0 → Go p.tables e below G (T'.setTop (mkF m (pc + 3) Ls (r.toList ++ rest)))) :
    Go p.tables e below G (T.setTop (mkF m pc Ls st)) := by
  refine callV X hx hZ hP eT hown wl wd wse win wz wc hy hpd hsz E has hlen hst hd hf hlo (by rw [h0c]; exact hce) (by rw [h0s]; exact hsl) ?_
  rintro v T' L X' ⟨rfl, hh, rfl⟩
  rw [h0c, h0s, List.append_nil] at X'
  exact K T' X' hh
end Calls
end Jvm.Ow
namespace Jvm.Ow
open Sem ClassFile Op Lib Jvm.Stand Jvm.Free Jvm.LawKit Jvm.RoadKit
/-- an array whose slots are known, one by one -/
def AL (Z : State) (h : Heap) (a : Addr) (k : ClassId) (ty : FieldType) (vs : List Value) : Prop := ∃ c : Cell, Arr Z h a c ty ∧ c.cls = k ∧ c.slots = vs.toArray
/-- what has moved from h0 to h: the cells ws and new ones -/
def Eff (h0 h : Heap) (ws : List Addr) (L : List Loc) : Prop := Keep h0 h ws ∧ ∀ y ∈ L, y.base ∈ ws ∨ h0.size ≤ y.base
section ALs
variable {Z : State} {h h' h0 : Heap} {a b : Addr} {k : ClassId} {ty : FieldType} {vs : List Value} {v : Value} {ws ws' : List Addr} {L L' : List Loc} {sl : Nat} {C n d : String}
theorem AL.lt (A : AL Z h a k ty vs) : a < h.size := by obtain ⟨c, A, -⟩ := A; exact A.lt
theorem AL.ext (A : AL Z h a k ty vs) (E : Ext h h') : AL Z h' a k ty vs := by obtain ⟨c, A, r⟩ := A; exact ⟨c, A.ext E, r⟩
theorem AL.other (A : AL Z h b k ty vs) (W : Wr h h' a sl v) (q : b ≠ a) : AL Z h' b k ty vs := by obtain ⟨c, A, r⟩ := A; exact ⟨c, A.other W q, r⟩
theorem AL.keep (A : AL Z h a k ty vs) (K : Keep h h' ws) (q : a ∉ ws) : AL Z h' a k ty vs := by obtain ⟨c, A, r⟩ := A; exact ⟨c, ⟨K.2.1 a c A.1 q, A.2⟩, r⟩
theorem AL.new {z : Int32} (A : Arr Z h a (newA k ty z) ty) (vs : List Value) (q : List.replicate z.toNatClampNeg (defaultValue ty) = vs) : AL Z h a k ty vs := ⟨_, A, rfl, by rw [← q]; simp [newA]⟩
theorem AL.set (A : AL Z h a k ty vs) {i : Nat} (W : Wr h h' a i v) (vs' : List Value) (q : vs.set i v = vs') : AL Z h' a k ty vs' := by
  obtain ⟨c, A, r1, r2⟩ := A
  refine ⟨_, A.same W, r1, ?_⟩
  show c.slots.setIfInBounds i v = _
  rw [r2, ← q]; simp
theorem AL.arr (A : AL Z h a k ty vs) : ∃ c : Cell, Arr Z h a c ty ∧ c.cls = k ∧ c.slots.size = vs.length ∧ ∀ i : Nat, c.slots[i]? = vs[i]? := by
  obtain ⟨c, A, r1, r2⟩ := A
  exact ⟨c, A, r1, by rw [r2]; simp, fun i => by rw [r2]; simp⟩
theorem AL.arv (A : AL Z h a k ty vs) {z : Int32} {dv : Value} (hz : ¬ z < 0) (hl : z.toNatClampNeg = vs.length) (hf : ∀ v ∈ vs, fits ty v = true) : Arv Z h a k ty z vs dv := by
  obtain ⟨c, A, r1, r2, r3⟩ := A.arr
  refine ⟨c, A, r1, by rw [r2, hl], hz, fun i hi => ?_, fun i hi => ?_⟩
  · rw [r3, List.getD_eq_getElem?_getD, List.getElem?_eq_getElem (by omega)]; rfl
  · rw [List.getD_eq_getElem?_getD, List.getElem?_eq_getElem (by omega)]; exact hf _ (List.getElem_mem _)
theorem AL.of_arv {z : Int32} {dv : Value} (A : Arv Z h a k ty z vs dv) (hl : z.toNatClampNeg = vs.length) : AL Z h a k ty vs := by
  obtain ⟨c, A, r1, r2, r3, H, -⟩ := A
  refine ⟨c, A, r1, Array.ext_getElem? fun i => ?_⟩
  by_cases q : i < c.slots.size
  · rw [H i q, List.getD_eq_getElem?_getD]
    have : i < vs.length := by omega
    simp [this]
  · rw [Array.getElem?_eq_none (by omega)]
    have : vs.length ≤ i := by omega
    simp [this]
theorem Eff.refl (h : Heap) (ws : List Addr) : Eff h h ws [] := ⟨Keep.refl h ws, fun _ q => nomatch q⟩
theorem Eff.size (F : Eff h0 h ws L) : h0.size ≤ h.size := F.1.1
theorem Eff.ext (F : Eff h0 h ws L) (E : Ext h h') : Eff h0 h' ws L := ⟨F.1.ext E, F.2⟩
theorem Eff.wr (F : Eff h0 h ws L) (W : Wr h h' a sl v) (q : a ∈ ws ∨ h0.size ≤ a) : Eff h0 h' ws (L ++ [⟨a, sl⟩]) := ⟨F.1.wr W q, fun y hy => by
  rcases List.mem_append.mp hy with hy | hy
  · exact F.2 y hy
  · cases List.mem_singleton.mp hy; exact q⟩
theorem Eff.call (F : Eff h0 h ws L) (F' : Eff h h' ws' L') (q : ∀ x ∈ ws', x ∈ ws ∨ h0.size ≤ x) : Eff h0 h' ws (L ++ L') := ⟨F.1.trans F'.1 q, fun y hy => by
  rcases List.mem_append.mp hy with hy | hy
  · exact F.2 y hy
  · rcases F'.2 y hy with r | r
    · exact q _ r
    · exact Or.inr (Nat.le_trans F.1.1 r)⟩
theorem Eff.app0 (F : Eff h0 h ws L) : Eff h0 h ws (L ++ []) := by rw [List.append_nil]; exact F
theorem Eff.fr (F : Eff h0 h [] L) : Fr h0.size L := fun y hy => (F.2 y hy).elim (fun q => nomatch q) id
theorem Eff.keep (F : Eff h0 h ws L) : Keep h0 h ws := F.1
theorem ext_ne (q : a < h.size) : a ≠ h.size := Nat.ne_of_lt q
theorem Keep.ext0 (K : Keep h h' []) : Ext h h' := ⟨K.1, fun x c q => K.2.1 x c q nin0⟩
end ALs
section ALsteps
variable {p : Program} {l : Launch} {e : Env} {R : Room} {s : State} {m : MethodId} {args : Array Value} {below : List Frame} {meth : Method} {c : Code} {T : State} {locs : List Loc} {cells slots : Nat} {G : Outcome → State → Prop} {pc pc' : Nat} {Ls : Array Slot} {rest : List Value} {Z : State} {a0 : Array Value} {h : Heap} {a : Addr} {kc : ClassId} {vs : List Value}
theorem inb {c : Cell} {j : Int32} (hs : c.slots.size = vs.length) (h0 : ¬ j < 0) {i : Nat} (hi : j.toNatClampNeg = i) (hl : i < vs.length) : ¬ (j < 0 ∨ c.slots.size ≤ j.toNatClampNeg) := by
  rw [hi, hs]; exact fun q => q.elim h0 (Nat.not_le.mpr hl)
/-- newarray: all slots at their first value -/
theorem newarrayL (X : Stand p l e R s m args below meth c T locs cells slots) (hx : p.tables.exec = Jvm.exec) (hZ : Z.Warmed39 s.vm) {aty : ArrayType} (w : (Cond.arrayClass (newarray.typeOf aty)).before a0 Z = true) (eT : T.heap = h) (cap : Nat) {n : Int32} (vs : List Value) (hvs : List.replicate n.toNatClampNeg (defaultValue (newarray.typeOf aty)) = vs)
    (hd : decode c.code pc = .ok (.newarray aty, 2)) (hn : ¬ n < 0) (hcap : n.toNatClampNeg ≤ cap) (hb : cap * 8 ≤ 536870912) (hc : cells + 1 ≤ R.cells) (hl : slots + cap ≤ R.slots)
    (K : ∀ T' h' cA (a : Addr), a = h.size → Stand p l e R s m args below meth c T' locs (cells + 1) (slots + cap) → T'.heap = h' → Ext h h' → AL Z h' a cA (newarray.typeOf aty) vs →
      Go p.tables e below G (T'.setTop (mkF m (pc + 2) Ls (.ref a :: rest)))) : Go p.tables e below G (T.setTop (mkF m pc Ls (.int n :: rest))) :=
  newarray X hx hZ w eT cap hd hn hcap hb hc hl fun T' h' cA a ha X' e' E A => K T' h' cA a ha X' e' E (AL.new A vs hvs)
theorem castoreL (X : Stand p l e R s m args below meth c T locs cells slots) (hx : p.tables.exec = Jvm.exec) (hZ : Z.Warmed39 s.vm) (eT : T.heap = h) (A : AL Z h a kc .char vs) {j x : Int32} (i : Nat) (vs' : List Value) (hj0 : ¬ j < 0) (hj : j.toNatClampNeg = i) (hi : i.blt vs.length = true) (hvs : vs.set i (.int (nar .char x)) = vs') (hd : decode c.code pc = .ok (.castore, 1))
    (K : ∀ T' h', Stand p l e R s m args below meth c T' (locs ++ [⟨a, i⟩]) cells slots → T'.heap = h' → Wr h h' a i (.int (nar .char x)) → AL Z h' a kc .char vs' → Go p.tables e below G (T'.setTop (mkF m (pc + 1) Ls rest))) : Go p.tables e below G (T.setTop (mkF m pc Ls (.int x :: .int j :: .ref a :: rest))) := by
  obtain ⟨cl, Ar, -, q2, -⟩ := A.arr
  have hi' : i < vs.length := by simpa [Nat.blt_eq] using hi
  refine castore X hx hZ eT Ar (inb q2 hj0 hj hi') hd ?_
  rw [hj]
  exact fun T' h' X' e' W => K T' h' X' e' W (A.set W vs' hvs)
theorem bastoreL (X : Stand p l e R s m args below meth c T locs cells slots) (hx : p.tables.exec = Jvm.exec) (hZ : Z.Warmed39 s.vm) (eT : T.heap = h) (A : AL Z h a kc .byte vs) {j x : Int32} (i : Nat) (vs' : List Value) (hj0 : ¬ j < 0) (hj : j.toNatClampNeg = i) (hi : i.blt vs.length = true) (hvs : vs.set i (.int (nar .byte x)) = vs') (hd : decode c.code pc = .ok (.bastore, 1))
    (K : ∀ T' h', Stand p l e R s m args below meth c T' (locs ++ [⟨a, i⟩]) cells slots → T'.heap = h' → Wr h h' a i (.int (nar .byte x)) → AL Z h' a kc .byte vs' → Go p.tables e below G (T'.setTop (mkF m (pc + 1) Ls rest))) : Go p.tables e below G (T.setTop (mkF m pc Ls (.int x :: .int j :: .ref a :: rest))) := by
  obtain ⟨cl, Ar, -, q2, -⟩ := A.arr
  have hi' : i < vs.length := by simpa [Nat.blt_eq] using hi
  refine bastore X hx hZ eT Ar (inb q2 hj0 hj hi') hd ?_
  rw [hj]
  exact fun T' h' X' e' W => K T' h' X' e' W (A.set W vs' hvs)
theorem zastoreL (X : Stand p l e R s m args below meth c T locs cells slots) (hx : p.tables.exec = Jvm.exec) (hZ : Z.Warmed39 s.vm) (eT : T.heap = h) (A : AL Z h a kc .boolean vs) {j x : Int32} (i : Nat) (vs' : List Value) (hj0 : ¬ j < 0) (hj : j.toNatClampNeg = i) (hi : i.blt vs.length = true) (hvs : vs.set i (.int (nar .boolean x)) = vs') (hd : decode c.code pc = .ok (.bastore, 1))
    (K : ∀ T' h', Stand p l e R s m args below meth c T' (locs ++ [⟨a, i⟩]) cells slots → T'.heap = h' → Wr h h' a i (.int (nar .boolean x)) → AL Z h' a kc .boolean vs' → Go p.tables e below G (T'.setTop (mkF m (pc + 1) Ls rest))) : Go p.tables e below G (T.setTop (mkF m pc Ls (.int x :: .int j :: .ref a :: rest))) := by
  obtain ⟨cl, Ar, -, q2, -⟩ := A.arr
  have hi' : i < vs.length := by simpa [Nat.blt_eq] using hi
  refine zastore X hx hZ eT Ar (inb q2 hj0 hj hi') hd ?_
  rw [hj]
  exact fun T' h' X' e' W => K T' h' X' e' W (A.set W vs' hvs)
theorem caloadL (X : Stand p l e R s m args below meth c T locs cells slots) (hx : p.tables.exec = Jvm.exec) (hZ : Z.Warmed39 s.vm) (eT : T.heap = h) (A : AL Z h a kc .char vs) {j : Int32} (i : Nat) (v : Value) (hj0 : ¬ j < 0) (hj : j.toNatClampNeg = i) (hv : vs[i]? = some v) (hd : decode c.code pc = .ok (.caload, 1)) (K : Go p.tables e below G (T.setTop (mkF m (pc + 1) Ls (v :: rest)))) : Go p.tables e below G (T.setTop (mkF m pc Ls (.int j :: .ref a :: rest))) := by
  obtain ⟨cl, Ar, -, q2, q3⟩ := A.arr
  exact caload X hx hZ eT v Ar (inb q2 hj0 hj (List.getElem?_eq_some_iff.mp hv).1) (by rw [hj, q3]; exact hv) hd K
theorem baloadL (X : Stand p l e R s m args below meth c T locs cells slots) (hx : p.tables.exec = Jvm.exec) (hZ : Z.Warmed39 s.vm) (eT : T.heap = h) (A : AL Z h a kc .byte vs) {j : Int32} (i : Nat) (v : Value) (hj0 : ¬ j < 0) (hj : j.toNatClampNeg = i) (hv : vs[i]? = some v) (hd : decode c.code pc = .ok (.baload, 1)) (K : Go p.tables e below G (T.setTop (mkF m (pc + 1) Ls (v :: rest)))) : Go p.tables e below G (T.setTop (mkF m pc Ls (.int j :: .ref a :: rest))) := by
  obtain ⟨cl, Ar, -, q2, q3⟩ := A.arr
  exact baload X hx hZ eT v Ar (inb q2 hj0 hj (List.getElem?_eq_some_iff.mp hv).1) (by rw [hj, q3]; exact hv) hd K
theorem zaloadL (X : Stand p l e R s m args below meth c T locs cells slots) (hx : p.tables.exec = Jvm.exec) (hZ : Z.Warmed39 s.vm) (eT : T.heap = h) (A : AL Z h a kc .boolean vs) {j : Int32} (i : Nat) (v : Value) (hj0 : ¬ j < 0) (hj : j.toNatClampNeg = i) (hv : vs[i]? = some v) (hd : decode c.code pc = .ok (.baload, 1)) (K : Go p.tables e below G (T.setTop (mkF m (pc + 1) Ls (v :: rest)))) : Go p.tables e below G (T.setTop (mkF m pc Ls (.int j :: .ref a :: rest))) := by
  obtain ⟨cl, Ar, -, q2, q3⟩ := A.arr
  exact zaload X hx hZ eT v Ar (inb q2 hj0 hj (List.getElem?_eq_some_iff.mp hv).1) (by rw [hj, q3]; exact hv) hd K
theorem aaloadL (X : Stand p l e R s m args below meth c T locs cells slots) (hx : p.tables.exec = Jvm.exec) (hZ : Z.Warmed39 s.vm) (eT : T.heap = h) {ty : FieldType} (A : AL Z h a kc ty vs) (hty : ty.isReference = true) {j : Int32} (i : Nat) (v : Value) (hj0 : ¬ j < 0) (hj : j.toNatClampNeg = i) (hv : vs[i]? = some v) (hd : decode c.code pc = .ok (.aaload, 1)) (K : Go p.tables e below G (T.setTop (mkF m (pc + 1) Ls (v :: rest)))) : Go p.tables e below G (T.setTop (mkF m pc Ls (.int j :: .ref a :: rest))) := by
  obtain ⟨cl, Ar, -, q2, q3⟩ := A.arr
  exact aaload X hx hZ eT v Ar hty (inb q2 hj0 hj (List.getElem?_eq_some_iff.mp hv).1) (by rw [hj, q3]; exact hv) hd K
theorem lengthL (X : Stand p l e R s m args below meth c T locs cells slots) (hx : p.tables.exec = Jvm.exec) (hZ : Z.Warmed39 s.vm) (eT : T.heap = h) {ty : FieldType} (A : AL Z h a kc ty vs) (N : Int32) (hN : vs.length.toInt32 = N) (hd : decode c.code pc = .ok (.arraylength, 1)) (K : Go p.tables e below G (T.setTop (mkF m (pc + 1) Ls (.int N :: rest)))) : Go p.tables e below G (T.setTop (mkF m pc Ls (.ref a :: rest))) := by
  obtain ⟨cl, Ar, -, q2, -⟩ := A.arr
  exact arraylength X hx hZ eT N Ar (by rw [q2]; exact hN) hd K
/-- a place where roads meet with an int on the stack: first what lies behind it, then the roads -/
theorem joinI (X : Stand p l e R s m args below meth c T locs cells slots) (eT : T.heap = h) (P : Int32 → Prop) (pcJ : Nat) {st : List Value}
    (J : ∀ v T', Stand p l e R s m args below meth c T' locs cells slots → T'.heap = h → P v → Go p.tables e below G (T'.setTop (mkF m pcJ Ls (.int v :: st))))
    (K : (∀ v T', Stand p l e R s m args below meth c T' locs cells slots → T'.heap = h → P v → Go p.tables e below G (T'.setTop (mkF m pcJ Ls (.int v :: st)))) → Go p.tables e below G (T.setTop (mkF m pc Ls st))) : Go p.tables e below G (T.setTop (mkF m pc Ls st)) := K J
/-- .. with other locals and nothing new on the stack -/
theorem join0 (X : Stand p l e R s m args below meth c T locs cells slots) (eT : T.heap = h) (P : Array Slot → Prop) (pcJ : Nat) {st : List Value}
    (J : ∀ L2 T', Stand p l e R s m args below meth c T' locs cells slots → T'.heap = h → P L2 → Go p.tables e below G (T'.setTop (mkF m pcJ L2 st)))
    (K : (∀ L2 T', Stand p l e R s m args below meth c T' locs cells slots → T'.heap = h → P L2 → Go p.tables e below G (T'.setTop (mkF m pcJ L2 st))) → Go p.tables e below G (T.setTop (mkF m pc Ls st))) : Go p.tables e below G (T.setTop (mkF m pc Ls st)) := K J
end ALsteps
end Jvm.Ow
namespace Jvm.Ow
open Sem ClassFile Op Lib Jvm.Stand Jvm.Free Jvm.LawKit Jvm.RoadKit
/-- what a walk that may load literals bears besides its Stand over (s.setVm vm0): s is the method's start, h the heap at hand -/
def Wd (s Z : State) (EL : List (String × Nat)) (vm0 : Vm) (h : Heap) : Prop := (∃ k0, s.Since vm0 k0 ∧ k0 ≤ h.size) ∧ Z.Warmed39 vm0 ∧ CHr Z EL s.vm s.heap vm0 h
section Wides
variable {s Z : State} {EL : List (String × Nat)} {vm0 vm1 : Vm} {h h' : Heap}
theorem Wd.hZ (D : Wd s Z EL vm0 h) : Z.Warmed39 vm0 := D.2.1
theorem Wd.ch (D : Wd s Z EL vm0 h) : CHv Z EL vm0 h := D.2.2.1
theorem Wd.start (hZ : Z.Warmed39 s.vm) (H : CHv Z EL s.vm s.heap) : Wd s Z EL s.vm s.heap := ⟨⟨_, (State.WarmedH.refl s).since s.heap.size, Nat.le_refl _⟩, hZ, CHr.refl H⟩
theorem Wd.to (D : Wd s Z EL vm0 h) (C : CHr Z EL vm0 h vm0 h') : Wd s Z EL vm0 h' := by
  obtain ⟨⟨k0, h1, h2⟩, h3, h4⟩ := D
  exact ⟨⟨k0, h1, Nat.le_trans h2 C.2.1⟩, h3, h4.trans C⟩
theorem Wd.ext (D : Wd s Z EL vm0 h) (E : Ext h h') : Wd s Z EL vm0 h' := D.to (CHr.ext E D.ch)
theorem Wd.wr (D : Wd s Z EL vm0 h) {a : Addr} {sl : Nat} {v : Value} (W : Wr h h' a sl v) (S : Safe Z EL vm0 h a) : Wd s Z EL vm0 h' := D.to (CHr.wr W S D.ch)
theorem Wd.keep (D : Wd s Z EL vm0 h) {ws : List Addr} (K : Keep h h' ws) (S : ∀ x ∈ ws, Safe Z EL vm0 h x) : Wd s Z EL vm0 h' := D.to (CHr.keep K S D.ch)
theorem Wd.safeExt (D : Wd s Z EL vm0 h) (E : Ext h h') {x : Addr} (S : Safe Z EL vm0 h x) : Safe Z EL vm0 h' x := S.ext E D.ch
theorem Wd.safeNew (D : Wd s Z EL vm0 h) (E : Ext h h') : Safe Z EL vm0 h' h.size := (Safe.new (Nat.le_refl _)).ext E D.ch
theorem Wd.safeWr (D : Wd s Z EL vm0 h) {a : Addr} {sl : Nat} {v : Value} (W : Wr h h' a sl v) (S : Safe Z EL vm0 h a) {x : Addr} (Sx : Safe Z EL vm0 h x) : Safe Z EL vm0 h' x := Safe.wr W S D.ch Sx
theorem Wd.safeKeep (D : Wd s Z EL vm0 h) {ws : List Addr} (K : Keep h h' ws) (S : ∀ x ∈ ws, Safe Z EL vm0 h x) {x : Addr} (Sx : Safe Z EL vm0 h x) : Safe Z EL vm0 h' x := Sx.keep K S D.ch
/-- what a wide contract says of its end -/
abbrev EndW (Z : State) (EL : List (String × Nat)) (s : State) (Q : Option Value → Heap → List Loc → Prop) (k n : Nat) : Outcome → State → Prop := fun o t => ∃ v L, o = .returned v ∧ Q v t.heap L ∧ CHr Z EL s.vm s.heap t.vm t.heap ∧ ReturnedEndW s o t L k n
variable {p : Program} {l : Launch} {e : Env} {R : Room} {m : MethodId} {args : Array Value} {below : List Frame} {meth : Method} {c : Code} {T : State} {locs : List Loc} {cells slots : Nat} {pc pc' : Nat} {Ls : Array Slot} {rest : List Value} {Q : Option Value → Heap → List Loc → Prop} {k n : Nat} {a0 : Array Value}
theorem sbn_mono {s t : State} {o : Outcome} {L : List Loc} {k n k' n' : Nat} (h : ReturnedEndW s o t L k n) (hk : k ≤ k') (hn : n ≤ n') : ReturnedEndW s o t L k' n' := ⟨h.1, h.2.1, h.2.2.1, h.2.2.2.mono hk hn⟩
theorem fin_ofW (X : Stand p l e R (s.setVm vm0) m args below meth c T locs cells slots) (eT : T.heap = h) (D : Wd s Z EL vm0 h) (hEL : EW Z a0 EL) (hlk : meth.locks = false) {v : Option Value} (hv : meth.sig.returnType = none → v = none) {g : JFrame} (st : ∀ fs, (∀ (f : JFrame) (acts : List Action), f.method = m → f.locked = none → f.entered = [] → (doReturn e (T.setTop f) acts v).1 = T.setFrames fs) → Steps p.tables e below (T.setTop g) (T.setFrames fs)) (hQ : Q v T.heap locs) (hk : cells ≤ k) (hn : slots ≤ n) : Go p.tables e below (EndW Z EL s Q k n) (T.setTop g) := by
  subst eT
  obtain ⟨⟨k0, hS, hk0⟩, hZ, C⟩ := D
  have A : CHr Z EL s.vm s.heap T.vm T.heap := C.trans (CHv.at X hZ hEL C.1)
  obtain ⟨fs, hr, hrun, hended, hE⟩ := X.leaveW hS hk0 (v := v) hv hlk
  exact ⟨_, _, st fs hr, hrun, hended, _, _, rfl, hQ, A, sbn_mono hE hk hn⟩
theorem ireturnW (X : Stand p l e R (s.setVm vm0) m args below meth c T locs cells slots) (hx : p.tables.exec = Jvm.exec) (eT : T.heap = h) (D : Wd s Z EL vm0 h) (hEL : EW Z a0 EL) (hlk : meth.locks = false) {z : Int32} (hret : meth.sig.returnType = some .int) (hd : decode c.code pc = .ok (.ireturn, 1)) (hQ : Q (some (.int z)) T.heap locs) (hk : cells ≤ k) (hn : slots ≤ n) : Go p.tables e below (EndW Z EL s Q k n) (T.setTop (mkF m pc Ls (.int z :: rest))) :=
  fin_ofW X eT D hEL hlk (v := some (.int z)) (fun h => by rw [hret] at h; cases h) (fun fs hr => retOut X hx hret rfl (Or.inl ⟨rfl, Or.inl rfl, z, rfl⟩) hd hr) hQ hk hn
theorem nreturnW (X : Stand p l e R (s.setVm vm0) m args below meth c T locs cells slots) (hx : p.tables.exec = Jvm.exec) (eT : T.heap = h) (D : Wd s Z EL vm0 h) (hEL : EW Z a0 EL) (hlk : meth.locks = false) {z : Int32} {t : FieldType} (hret : meth.sig.returnType = some t) (ht : t = .boolean ∨ t = .byte ∨ t = .char ∨ t = .short) (hd : decode c.code pc = .ok (.ireturn, 1)) (hQ : Q (some (.int (nar t z))) T.heap locs) (hk : cells ≤ k) (hn : slots ≤ n) : Go p.tables e below (EndW Z EL s Q k n) (T.setTop (mkF m pc Ls (.int z :: rest))) :=
  fin_ofW X eT D hEL hlk (v := some (.int (nar t z))) (fun h => by rw [hret] at h; cases h) (fun fs hr => retN X hx hret ht hd hr) hQ hk hn
theorem areturnW (X : Stand p l e R (s.setVm vm0) m args below meth c T locs cells slots) (hx : p.tables.exec = Jvm.exec) (eT : T.heap = h) (D : Wd s Z EL vm0 h) (hEL : EW Z a0 EL) (hlk : meth.locks = false) {w : Value} {t : FieldType} (hret : meth.sig.returnType = some t) (ht : t.isReference = true) (hw : w.isRef = true) (hna : narrow t w = w) (hd : decode c.code pc = .ok (.areturn, 1)) (hQ : Q (some w) T.heap locs) (hk : cells ≤ k) (hn : slots ≤ n) : Go p.tables e below (EndW Z EL s Q k n) (T.setTop (mkF m pc Ls (w :: rest))) :=
  fin_ofW X eT D hEL hlk (v := some w) (fun h => by rw [hret] at h; cases h) (fun fs hr => retOut X hx hret hna (Or.inr (Or.inr (Or.inr (Or.inr ⟨rfl, ht, hw⟩)))) hd hr) hQ hk hn
theorem vreturnW (X : Stand p l e R (s.setVm vm0) m args below meth c T locs cells slots) (hx : p.tables.exec = Jvm.exec) (eT : T.heap = h) (D : Wd s Z EL vm0 h) (hEL : EW Z a0 EL) (hlk : meth.locks = false) (hret : meth.sig.returnType = none) (hd : decode c.code pc = .ok (.return_, 1)) (hQ : Q none T.heap locs) (hk : cells ≤ k) (hn : slots ≤ n) : Go p.tables e below (EndW Z EL s Q k n) (T.setTop (mkF m pc Ls [])) :=
  fin_ofW X eT D hEL hlk (v := none) (fun _ => rfl) (fun fs hr => X.returnOut hx hret hd hr) hQ hk hn
/-- ldc of a literal whose text is held -/
theorem ldcS {G : Outcome → State → Prop} (X : Stand p l e R (s.setVm vm0) m args below meth c T locs cells slots) (hx : p.tables.exec = Jvm.exec) (eT : T.heap = h) (D : Wd s Z EL vm0 h) (hEL : EW Z a0 EL) {own text : String} {index : Nat} (hown : vm0.findClass own = some m.cls) (w : (Cond.stringLink own index text).before a0 Z = true) (wS : ∀ a ∈ Bundle.stringAtoms, a.before a0 Z = true) (hmem : (own, index) ∈ EL)
    {vs : List Value} {z : Int32} (ht : (∀ c ∈ text.toList, c.toNat < 256) ∧ text.toList.map (fun c => Value.int (Jvm.Lit.byteI c.toNat.toUInt16)) = vs) (hz : ¬ z < 0) (hl : z.toNatClampNeg = vs.length) (hd : decode c.code pc = .ok (.ldc index, 2)) (n : Nat) (hn : 4 * text.toList.length ≤ n) (hbig : n ≤ 536870912) (hc : cells + 2 ≤ R.cells) (hl' : slots + (n + 4) ≤ R.slots)
    (K : ∀ (vm1 : Vm) (a : Addr) (T' : State) (h' : Heap) (b : Addr) (kc : ClassId), Stand p l e R (s.setVm vm1) m args below meth c T' locs (cells + 2) (slots + (n + 4)) → T'.heap = h' → Ext h h' → Wd s Z EL vm1 h' → vm1.findClass own = some m.cls → CHr Z EL vm0 h vm1 h' →
      Exa Z h' a "java/lang/String" → Fld Z h' a "java/lang/String" "coder" "B" (.int 0) → Fld Z h' a "java/lang/String" "value" "[B" (.ref b) → Arv Z h' b kc .byte z vs (.int 0) → (∀ x, Safe Z EL vm1 h' x → x ≠ a ∧ x ≠ b) → Go p.tables e below G (T'.setTop (mkF m (pc + 2) Ls (.ref a :: rest)))) : Go p.tables e below G (T.setTop (mkF m pc Ls rest)) := by
  obtain ⟨⟨k0, hS, hk0⟩, hZ, C⟩ := D
  obtain ⟨a, T', h', k1, b, kc, X', e', E, hS', hk1, hW, hf, A, F1, F2, V, -, -, C', -, hne, st⟩ := ldcCH X hx hZ hown w wS eT hS hk0 hEL hmem C.1 ht hz hl (g := mkF m pc Ls rest) rfl hd hn hbig hc hl'
  exact (K T'.vm a T' h' b kc X' e' E ⟨⟨k1, hS', hk1⟩, hW, C.trans C'⟩ hf C' A F1 F2 V hne).via st
/-- ldc of any literal, its text unread -/
theorem ldcO {G : Outcome → State → Prop} (X : Stand p l e R (s.setVm vm0) m args below meth c T locs cells slots) (hx : p.tables.exec = Jvm.exec) (eT : T.heap = h) (D : Wd s Z EL vm0 h) (hEL : EW Z a0 EL) {own text : String} {index : Nat} (hown : vm0.findClass own = some m.cls) (w : (Cond.stringLink own index text).before a0 Z = true) (wS : ∀ a ∈ Bundle.stringAtoms, a.before a0 Z = true)
    (hd : decode c.code pc = .ok (.ldc index, 2)) (n : Nat) (hn : 4 * text.toList.length ≤ n) (hbig : n ≤ 536870912) (hc : cells + 2 ≤ R.cells) (hl' : slots + (n + 4) ≤ R.slots)
    (K : ∀ (vm1 : Vm) (a : Addr) (T' : State) (h' : Heap), Stand p l e R (s.setVm vm1) m args below meth c T' locs (cells + 2) (slots + (n + 4)) → T'.heap = h' → Ext h h' → Wd s Z EL vm1 h' → vm1.findClass own = some m.cls → CHr Z EL vm0 h vm1 h' → Go p.tables e below G (T'.setTop (mkF m (pc + 2) Ls (.ref a :: rest)))) : Go p.tables e below G (T.setTop (mkF m pc Ls rest)) := by
  obtain ⟨⟨k0, hS, hk0⟩, hZ, C⟩ := D
  obtain ⟨a, T', h', k1, X', e', E, hS', hk1, hW, hf, C', -, st⟩ := ldcOH X hx hZ hown w wS eT hS hk0 hEL C.1 (g := mkF m pc Ls rest) rfl hd hn hbig hc hl'
  exact (K T'.vm a T' h' X' e' E ⟨⟨k1, hS', hk1⟩, hW, C.trans C'⟩ hf C').via st
end Wides
section PaysW
/-- a wide contract; the cells sf are none of a booked literal's -/
def PayW (l : Launch) (Z : State) (EL : List (String × Nat)) (sf : List Addr) (y : MethodName) (bytes : ByteArray) (maxL : Nat) (ret : Option FieldType) (rm : Room) (as' : Array Value) (h0 : Heap) (Q : Option Value → Heap → List Loc → Prop) : Prop :=
  ∀ ws : List Jvm.Cond, MetFree l y (head1 (Jvm.Cond.code y bytes maxL ret :: ws) rm) (fun a U => a = as' ∧ Z.Warmed39 U.vm ∧ U.heap = h0 ∧ CHv Z EL U.vm h0 ∧ ∀ x ∈ sf, Safe Z EL U.vm h0 x) (fun _ _ _ _ _ => True) (fun _ U o U' => ∃ v L, o = .returned v ∧ Q v U'.heap L ∧ CHr Z EL U.vm U.heap U'.vm U'.heap ∧ ReturnedEndW U o U' L rm.cells rm.slots)
variable {l : Launch} {Z : State} {EL : List (String × Nat)} {sf : List Addr} {y : MethodName} {bytes : ByteArray} {maxL : Nat} {ret : Option FieldType} {rm : Room} {as' : Array Value} {h0 : Heap} {Q : Option Value → Heap → List Loc → Prop}
theorem PayW.of {Ls : Array Slot} (hpn : plainFor y = true) (hef : ∀ m, entryFrame m as' maxL = mkF m 0 Ls [])
    (body : ∀ (p : Program) (e : Env) (s : State) (m : MethodId) (below : List Frame) (meth : Method) (c : Code) (T : State) (vm0 : Vm), p.tables.exec = Jvm.exec → c.code = bytes → c.maxLocals = maxL → vm0.findClass y.cls = some m.cls → s.methodNamed? y = some m → s.vm.method? m = some meth → meth.sig.returnType = ret → meth.locks = false → Stand p l e rm (s.setVm vm0) m as' below meth c T [] 0 0 → T.heap = h0 → Wd s Z EL vm0 h0 → (∀ x ∈ sf, Safe Z EL vm0 h0 x) →
      Go p.tables e below (EndW Z EL s Q rm.cells rm.slots) (T.setTop (mkF m 0 Ls []))) : PayW l Z EL sf y bytes maxL ret rm as' h0 Q := by
  intro ws
  refine MetFree.of_bodySF hpn hisR ?_
  intro p e s m args below meth c s₁ Bd hml0 hP hK
  obtain ⟨rfl, hZ, hh, H, hsf⟩ := hP
  rw [hef m]
  subst hh
  exact body p e s m below meth c s₁ s.vm Bd.exec Bd.bytes hml0 (findClass_of_methodNamed Bd.named) Bd.named Bd.method Bd.returns Bd.notSynchronized (Stand.of_body Bd) (by rw [Bd.state]; rfl) (Wd.start hZ H) hsf
variable {p : Program} {e : Env} {R : Room} {s : State} {vm0 : Vm} {m : MethodId} {args : Array Value} {below : List Frame} {meth : Method} {c : Code} {T : State} {locs : List Loc} {cells slots : Nat} {G : Outcome → State → Prop} {pc : Nat} {Ls : Array Slot} {a0 : Array Value}
/-- its payer -/
theorem backW {len W : Nat} (hP : PayW l Z EL sf y bytes maxL ret rm as' h0 Q) (hZ : Z.Warmed39 vm0) (wc : (Cond.code y bytes maxL ret).before a0 Z = true) (wz : (Cond.initialized y.cls).before a0 Z = true) (hf : rm.frames + 1 ≤ R.frames) (hl : W + (maxL + 11) + rm.locals ≤ R.locals) (hEL : EW Z a0 EL) (H : CHv Z EL vm0 h0) (hsf : ∀ x ∈ sf, x < h0.size ∧ Safe Z EL vm0 h0 x) :
    BackS l R p e below (s.setVm vm0) args y len W (fun A a => a = as' ∧ A.U.heap = h0 ∧ A.cells + rm.cells ≤ R.cells ∧ A.slots + rm.slots ≤ R.slots)
      (fun A _ v B => ∃ L, Q v B.U.heap L ∧ B.locs = A.locs ++ L ∧ B.cells = A.cells + rm.cells ∧ B.slots = A.slots + rm.slots ∧ CHr Z EL vm0 h0 B.U.vm B.U.heap) := by
  have at' : ∀ (m : MethodId) (meth : Method) (c : Code) (A : Pt), Stand p l e R (s.setVm vm0) m args below meth c A.U A.locs A.cells A.slots → Z.Warmed39 A.U.vm ∧ CHr Z EL vm0 h0 A.U.vm h0 := fun m meth c A Y => ⟨wtrans (s := s.setVm vm0) hZ Y.warmed, CHv.at Y hZ hEL H⟩
  refine BackS.of_freeW (bytes := bytes) (maxL := maxL) (ret := ret) (E := fun _ first o t L k n => k = rm.cells ∧ n = rm.slots ∧ (∃ v, o = .returned v ∧ Q v t.heap L) ∧ CHr Z EL first.vm first.heap t.vm t.heap) (hP []) hf hl ?_ ?_ (fun _ _ _ _ _ _ _ _ _ => trivial) ?_ ?_
  · intro m meth c A a Y hp
    have hU := (at' m meth c A Y).1
    refine ⟨?_, mv hU wc, mv hU wz, hp.2.2.1, hp.2.2.2⟩
    show (Cond.and _ .tt).before a A.U = true
    rw [Cond.before_and, mv hU wc]; rfl
  · intro m meth c A a g mk Y hp
    obtain ⟨hU, hC⟩ := at' m meth c A Y
    exact ⟨hp.1, hU, hp.2.1, hC.1, fun x hx => hC.safe (hsf x hx).1 (hsf x hx).2⟩
  · rintro _ _ _ _ ⟨v, L, h1, h2, h3, h4⟩
    exact ⟨L, _, _, h4, rfl, rfl, ⟨v, h1, h2⟩, h3⟩
  · rintro m meth c A a g mk v t L k n Y hp _ _ ⟨e1, e2, ⟨v', e3, e4⟩, e5⟩
    cases e3; subst e1 e2
    refine ⟨L, e4, rfl, rfl, rfl, (at' m meth c A Y).2.trans ?_⟩
    rw [← hp.2.1]; exact e5
/-- invokestatic by a wide contract -/
theorem callSW (X : Stand p l e R (s.setVm vm0) m args below meth c T locs cells slots) (hx : p.tables.exec = Jvm.exec) (hP : PayW l Z EL sf y bytes maxL ret rm as' h0 Q) (eT : T.heap = h0) (D : Wd s Z EL vm0 h0) (hEL : EW Z a0 EL) (hsf : ∀ x ∈ sf, x < h0.size ∧ Safe Z EL vm0 h0 x) {own : String} {index : Nat} (hown : vm0.findClass own = some m.cls)
    (wl : (Cond.methodLink own index y).before a0 Z = true) (wst : (Cond.static y).before a0 Z = true) (wz : (Cond.initialized y.cls).before a0 Z = true) (wc : (Cond.code y bytes maxL ret).before a0 Z = true)
    (hy : y.cls ≠ "java/lang/invoke/MethodHandle" ∧ y.cls ≠ "java/lang/invoke/VarHandle") {ps : List FieldType} {rt : Option FieldType} (hpd : parseMethodDescriptor y.desc = some ⟨ps, rt⟩) (hsz : Ls.size = c.maxLocals)
    {argsL rest st : List Value} (has : argsL.toArray = as') (hlen : argsL.length = ps.length) (hst : st = argsL.reverse ++ rest) (hd : decode c.code pc = .ok (.invokestatic index, 3))
    (hf : (rm.frames + 1).ble R.frames = true) (hlo : ((rest.map fun v => v.category).sum + (maxL + 11) + rm.locals).ble R.locals = true) (hce : cells + rm.cells ≤ R.cells) (hsl : slots + rm.slots ≤ R.slots)
    (K : ∀ (v : Option Value) (vm1 : Vm) (T' : State) (L : List Loc), Stand p l e R (s.setVm vm1) m args below meth c T' (locs ++ L) (cells + rm.cells) (slots + rm.slots) → Q v T'.heap L → Wd s Z EL vm1 T'.heap → vm1.findClass own = some m.cls → CHr Z EL vm0 h0 vm1 T'.heap → Go p.tables e below G (T'.setTop (mkF m (pc + 3) Ls (v.toList ++ rest)))) :
    Go p.tables e below G (T.setTop (mkF m pc Ls st)) := by
  have hy' := hy
  obtain ⟨⟨k0, hS, hk0⟩, hZ, C⟩ := D
  have hZ' : Z.Warmed39 (s.setVm vm0).vm := hZ
  have hown' : (s.setVm vm0).vm.findClass own = some m.cls := hown
  obtain ⟨_, _, ⟨T1, L1, k1, n1⟩, -, X1, S1, g1, ⟨Lc, hQ, l1, y1, z1, C1⟩, st1⟩ := callSS X hx (y := y) hown' (mvT hZ' wl) (mvT hZ' wst) (mvT hZ' wz) (mvT hZ' wc) hy' (backW (W := (rest.map fun v => v.category).sum) hP hZ wc wz (Nat.le_of_ble_eq_true hf) (Nat.le_of_ble_eq_true hlo) hEL C.1 hsf) (g := mkF m pc Ls st) rfl hsz (argsL := argsL) (rest := rest) (lenOf hpd hlen) hst (by show 2 * 0 + _ ≤ _; omega) hd (fun _ _ => ⟨has, eT, hce, hsl⟩)
  dsimp only [Pt.U, Pt.locs, Pt.cells, Pt.slots] at X1 l1 y1 z1 st1 hQ S1 g1 C1
  subst l1 y1 z1
  obtain ⟨X2, S2, Z2, O2⟩ := rebS hS (by rw [← eT] at hk0; exact hk0) X1 S1 g1 hZ' hown'
  exact (K _ T1.vm _ _ X2 hQ ⟨⟨_, S2, Nat.le_refl _⟩, Z2, C.trans C1⟩ O2 C1).thru st1
/-- invokespecial of a constructor by a wide contract -/
theorem callIW (X : Stand p l e R (s.setVm vm0) m args below meth c T locs cells slots) (hx : p.tables.exec = Jvm.exec) (hP : PayW l Z EL sf y bytes maxL none rm as' h0 Q) (eT : T.heap = h0) (D : Wd s Z EL vm0 h0) (hEL : EW Z a0 EL) (hsf : ∀ x ∈ sf, x < h0.size ∧ Safe Z EL vm0 h0 x) (hni : y.name = "<init>") {own : String} {index : Nat} (hown : vm0.findClass own = some m.cls)
    (wl : (Cond.methodLink own index y).before a0 Z = true) (win : (Cond.instanceMethod y).before a0 Z = true) (wz : (Cond.initialized y.cls).before a0 Z = true) (wc : (Cond.code y bytes maxL none).before a0 Z = true)
    (hy : y.cls ≠ "java/lang/invoke/MethodHandle" ∧ y.cls ≠ "java/lang/invoke/VarHandle") {ps : List FieldType} {rt : Option FieldType} (hpd : parseMethodDescriptor y.desc = some ⟨ps, rt⟩) (hsz : Ls.size = c.maxLocals)
    {a : Addr} {argsL rest st : List Value} (has : (.ref a :: argsL).toArray = as') (hlen : argsL.length = ps.length) (hst : st = argsL.reverse ++ .ref a :: rest) (hd : decode c.code pc = .ok (.invokespecial index, 3))
    (hf : (rm.frames + 1).ble R.frames = true) (hlo : ((rest.map fun v => v.category).sum + (maxL + 11) + rm.locals).ble R.locals = true) (hce : cells + rm.cells ≤ R.cells) (hsl : slots + rm.slots ≤ R.slots)
    (K : ∀ (v : Option Value) (vm1 : Vm) (T' : State) (L : List Loc), Stand p l e R (s.setVm vm1) m args below meth c T' (locs ++ L) (cells + rm.cells) (slots + rm.slots) → Q v T'.heap L → Wd s Z EL vm1 T'.heap → vm1.findClass own = some m.cls → CHr Z EL vm0 h0 vm1 T'.heap → Go p.tables e below G (T'.setTop (mkF m (pc + 3) Ls (v.toList ++ rest)))) :
    Go p.tables e below G (T.setTop (mkF m pc Ls st)) := by
  have hy' := hy
  obtain ⟨⟨k0, hS, hk0⟩, hZ, C⟩ := D
  have hZ' : Z.Warmed39 (s.setVm vm0).vm := hZ
  have hown' : (s.setVm vm0).vm.findClass own = some m.cls := hown
  obtain ⟨_, _, ⟨T1, L1, k1, n1⟩, -, X1, S1, g1, ⟨Lc, hQ, l1, y1, z1, C1⟩, st1⟩ := X.specialBackS hx (y := y) hni hown' (mvT hZ' wl) (mvT hZ' win) (mvT hZ' wc) hy' (backW (W := (rest.map fun v => v.category).sum) hP hZ wc wz (Nat.le_of_ble_eq_true hf) (Nat.le_of_ble_eq_true hlo) hEL C.1 hsf) (g := mkF m pc Ls st) rfl hsz (Steps.refl _) (a := a) (argsL := argsL) (rest := rest) (lenOf hpd hlen) hst (by show 2 * 0 + _ ≤ _; omega) hd (fun _ _ => ⟨has, eT, hce, hsl⟩)
  dsimp only [Pt.U, Pt.locs, Pt.cells, Pt.slots] at X1 l1 y1 z1 st1 hQ S1 g1 C1
  subst l1 y1 z1
  obtain ⟨X2, S2, Z2, O2⟩ := rebS hS (by rw [← eT] at hk0; exact hk0) X1 S1 g1 hZ' hown'
  exact (K _ T1.vm _ _ X2 hQ ⟨⟨_, S2, Nat.le_refl _⟩, Z2, C.trans C1⟩ O2 C1).thru st1
/-- invokevirtual by a wide contract -/
theorem callVW (X : Stand p l e R (s.setVm vm0) m args below meth c T locs cells slots) (hx : p.tables.exec = Jvm.exec) (hP : PayW l Z EL sf y bytes maxL ret rm as' h0 Q) (eT : T.heap = h0) (D : Wd s Z EL vm0 h0) (hEL : EW Z a0 EL) (hsf : ∀ x ∈ sf, x < h0.size ∧ Safe Z EL vm0 h0 x) {C : String} {own : String} {index : Nat} (hown : vm0.findClass own = some m.cls)
    (wl : (Cond.methodLink own index y).before a0 Z = true) (wd : (Cond.declares y).before a0 Z = true) (wse : (Cond.selects C y y).before a0 Z = true) (win : (Cond.instanceMethod y).before a0 Z = true) (wz : (Cond.initialized y.cls).before a0 Z = true) (wc : (Cond.code y bytes maxL ret).before a0 Z = true)
    (hy : y.cls ≠ "java/lang/invoke/MethodHandle" ∧ y.cls ≠ "java/lang/invoke/VarHandle") {ps : List FieldType} {rt : Option FieldType} (hpd : parseMethodDescriptor y.desc = some ⟨ps, rt⟩) (hsz : Ls.size = c.maxLocals)
    {a : Addr} (E : Exa Z h0 a C) {argsL rest st : List Value} (has : (.ref a :: argsL).toArray = as') (hlen : argsL.length = ps.length) (hst : st = argsL.reverse ++ .ref a :: rest) (hd : decode c.code pc = .ok (.invokevirtual index, 3))
    (hf : (rm.frames + 1).ble R.frames = true) (hlo : ((rest.map fun v => v.category).sum + (maxL + 11) + rm.locals).ble R.locals = true) (hce : cells + rm.cells ≤ R.cells) (hsl : slots + rm.slots ≤ R.slots)
    (K : ∀ (v : Option Value) (vm1 : Vm) (T' : State) (L : List Loc), Stand p l e R (s.setVm vm1) m args below meth c T' (locs ++ L) (cells + rm.cells) (slots + rm.slots) → Q v T'.heap L → Wd s Z EL vm1 T'.heap → vm1.findClass own = some m.cls → CHr Z EL vm0 h0 vm1 T'.heap → Go p.tables e below G (T'.setTop (mkF m (pc + 3) Ls (v.toList ++ rest)))) :
    Go p.tables e below G (T.setTop (mkF m pc Ls st)) := by
  have hy' := hy
  obtain ⟨⟨k0, hS, hk0⟩, hZ, C2⟩ := D
  have hZ' : Z.Warmed39 (s.setVm vm0).vm := hZ
  have hown' : (s.setVm vm0).vm.findClass own = some m.cls := hown
  obtain ⟨cq, kq, qa, qb, qc⟩ := isOf hZ' eT E
  obtain ⟨_, _, ⟨T1, L1, k1, n1⟩, -, X1, S1, g1, ⟨Lc, hQ, l1, y1, z1, C1⟩, st1⟩ := X.virtualBackS hx (y := y) (z := y) hown' (mvT hZ' wl) (mvT hZ' wd) (notFace_of_selects (args := #[]) (mvT hZ' wse)) (mvT hZ' wse) (mvT hZ' win) hy' (backW (W := (rest.map fun v => v.category).sum) hP hZ wc wz (Nat.le_of_ble_eq_true hf) (Nat.le_of_ble_eq_true hlo) hEL C2.1 hsf) qa qc (g := mkF m pc Ls st) rfl hsz (Steps.refl _) (argsL := argsL) (rest := rest) (lenOf hpd hlen) hst (by show 2 * 0 + _ ≤ _; omega) hd (fun _ _ => ⟨has, eT, hce, hsl⟩)
  dsimp only [Pt.U, Pt.locs, Pt.cells, Pt.slots] at X1 l1 y1 z1 st1 hQ S1 g1 C1
  subst l1 y1 z1
  obtain ⟨X2, S2, Z2, O2⟩ := rebS hS (by rw [← eT] at hk0; exact hk0) X1 S1 g1 hZ' hown'
  exact (K _ T1.vm _ _ X2 hQ ⟨⟨_, S2, Nat.le_refl _⟩, Z2, C2.trans C1⟩ O2 C1).thru st1
end PaysW
end Jvm.Ow
namespace Jvm.Ow
open Sem ClassFile Op Lib Jvm.Stand Jvm.Free Jvm.LawKit Jvm.RoadKit
/-- a compact String at x, its bytes bs at t -/
def Str (Z : State) (h : Heap) (x t : Addr) (kb : ClassId) (bs : List Int32) : Prop := Exa Z h x "java/lang/String" ∧ Fld Z h x "java/lang/String" "coder" "B" (.int 0) ∧ Fld Z h x "java/lang/String" "value" "[B" (.ref t) ∧ AL Z h t kb .byte (bs.map Value.int)
section Strs
variable {Z : State} {h h' : Heap} {x t : Addr} {kb : ClassId} {bs : List Int32} {ws : List Addr}
theorem Str.ext (S : Str Z h x t kb bs) (E : Ext h h') : Str Z h' x t kb bs := ⟨S.1.ext E, S.2.1.ext E, S.2.2.1.ext E, S.2.2.2.ext E⟩
theorem Str.keep (S : Str Z h x t kb bs) (K : Keep h h' ws) (q1 : x ∉ ws) (q2 : t ∉ ws) : Str Z h' x t kb bs := ⟨S.1.keep K, S.2.1.keep K q1, S.2.2.1.keep K q1, S.2.2.2.keep K q2⟩
theorem Str.lt (S : Str Z h x t kb bs) : x < h.size := S.1.lt
theorem Str.ltB (S : Str Z h x t kb bs) : t < h.size := S.2.2.2.lt
theorem shr0 (c : Int32) : c >>> ((0 : Int32) &&& 31) = c := by
  have h : ((0 : Int32) &&& 31) = 0 := by decide
  rw [h]
  apply Int32.toBitVec_inj.mp
  simp
theorem n_cl {n : Nat} (hn : n < 2147483648) : (Int32.ofNat n).toNatClampNeg = n := by
  rw [Int32.toNatClampNeg, Int32.toInt_ofNat_of_lt hn]; rfl
theorem n_nn {n : Nat} (hn : n < 2147483648) : ¬ Int32.ofNat n < 0 := by
  rw [Int32.lt_iff_toInt_lt, Int32.toInt_ofNat_of_lt hn, show (0 : Int32).toInt = 0 from rfl]; omega
theorem n_lt {i n : Nat} (hi : i < 2147483648) (hn : n < 2147483648) : Int32.ofNat i < Int32.ofNat n ↔ i < n := by
  rw [Int32.lt_iff_toInt_lt, Int32.toInt_ofNat_of_lt hi, Int32.toInt_ofNat_of_lt hn]; omega
theorem n_one (i : Nat) : Int32.ofNat i + (1 : Int32) = Int32.ofNat (i + 1) := (Int32.ofNat_add i 1).symm
theorem n_eq {i n : Nat} (hi : i < 2147483648) (hn : n < 2147483648) : Int32.ofNat i = Int32.ofNat n ↔ i = n := by
  refine ⟨fun h => ?_, fun h => by rw [h]⟩
  have := congrArg Int32.toNatClampNeg h
  rwa [n_cl hi, n_cl hn] at this
end Strs
end Jvm.Ow
namespace Jvm.Ow
open Sem ClassFile Op Lib Jvm.Stand Jvm.Free Jvm.LawKit Jvm.RoadKit
theorem staKeep {Z : State} {h h' : Heap} {C n d : String} {v : Value} {ws : List Addr} (S : Sta Z h C n d v) (K : Keep h h' ws) (q : ∀ x ∈ ws, ∃ c : Cell, h[x]? = some c ∧ c.vm.isStatics = false) : Sta Z h' C n d v := by
  obtain ⟨cf, i, k, f, st, cell, h1, h2, h3, h4, h5, h6, h7⟩ := S
  refine ⟨cf, i, k, f, st, cell, h1, h2, h3, h4, K.2.1 st cell h5 fun hm => ?_, h6, h7⟩
  obtain ⟨c, hc, hs⟩ := q st hm
  cases h5.symm.trans hc
  rw [hs] at h6; cases h6
theorem Exa.plain {Z : State} {h : Heap} {a : Addr} {C : String} (A : Exa Z h a C) : ∃ c : Cell, h[a]? = some c ∧ c.vm.isStatics = false := by
  obtain ⟨c, _, h1, -, -, h4, -⟩ := A; exact ⟨c, h1, h4⟩
theorem AL.plain {Z : State} {h : Heap} {a : Addr} {k : ClassId} {ty : FieldType} {vs : List Value} (A : AL Z h a k ty vs) : ∃ c : Cell, h[a]? = some c ∧ c.vm.isStatics = false := by
  obtain ⟨c, A, -⟩ := A; exact ⟨c, A.1, A.plain⟩
theorem AL.safe {Z : State} {EL : List (String × Nat)} {vm : Vm} {h : Heap} {a : Addr} {k : ClassId} {ty : FieldType} {vs : List Value} (A : AL Z h a k ty vs) (hal : Z.vm.Alike vm) (ht : ty ≠ .byte) : Safe Z EL vm h a := by
  obtain ⟨c, A, -⟩ := A; exact Safe.arr hal A ht
theorem nin1 {x y : Addr} (q : x ≠ y) : x ∉ [y] := fun z => q (List.mem_singleton.mp z)
end Jvm.Ow
namespace Jvm.Ow
open Sem ClassFile Op Lib Jvm.Stand Jvm.Free Jvm.LawKit Jvm.RoadKit
section Starts
variable {args : Array Value} {s : State} {t u : Term} {x : Addr} {C n d : String} {cl : Cell} {ty : FieldType}
theorem eqI_at {k : Int32} (h : (Cond.eq t (.int k)).value args s none s [] = some true) : t.eval args s none [] s = some (.int k) := by
  simp only [Cond.value, Term.eval] at h
  cases ht : t.eval args s none [] s with
  | none => simp [ht] at h
  | some v => cases v <;> simp [ht] at h ⊢ <;> exact h
theorem eqJ_at {k : Int64} (h : (Cond.eq t (.long k)).value args s none s [] = some true) : t.eval args s none [] s = some (.long k) := by
  simp only [Cond.value, Term.eval] at h
  cases ht : t.eval args s none [] s with
  | none => simp [ht] at h
  | some v => cases v <;> simp [ht] at h ⊢ <;> exact h
theorem eqR_at (h : (Cond.eq t u).value args s none s [] = some true) (hu : u.eval args s none [] s = some (.ref x)) : t.eval args s none [] s = some (.ref x) := by
  simp only [Cond.value, hu] at h
  cases ht : t.eval args s none [] s with
  | none => simp [ht] at h
  | some v => cases v <;> simp [ht] at h ⊢ <;> exact h
theorem fldI {k : Int32} (h : (Cond.eq (.field t C n d) (.int k)).value args s none s [] = some true) (ht : t.eval args s none [] s = some (.ref x)) : Fld s s.heap x C n d (.int k) := Fld.start (by rw [← fld_at ht]; exact eqI_at h)
theorem fldJ {k : Int64} (h : (Cond.eq (.field t C n d) (.long k)).value args s none s [] = some true) (ht : t.eval args s none [] s = some (.ref x)) : Fld s s.heap x C n d (.long k) := Fld.start (by rw [← fld_at ht]; exact eqJ_at h)
theorem fldR {y : Addr} (h : (Term.field t C n d).eval args s none [] s = some (.ref y)) (ht : t.eval args s none [] s = some (.ref x)) : Fld s s.heap x C n d (.ref y) := Fld.start (by rw [← fld_at ht]; exact h)
theorem lenAt {k : Int32} (h : (Cond.eq (.length t) (.int k)).value args s none s [] = some true) (ht : t.eval args s none [] s = some (.ref x)) (A : Arr s s.heap x cl ty) : cl.slots.size < 2147483648 ∧ cl.slots.size.toInt32 = k := by
  have q := eqI_at h
  have ha : s.arrayAt? x = some cl := A.fin (Vm.Alike.refl _)
  simp only [Term.eval, ht, ha, Option.bind_eq_bind, Option.bind_some] at q
  split at q
  · rename_i hl
    exact ⟨hl, by simpa using q⟩
  · cases q
theorem elemAt {k : Int32} {v : Value} (h : (Term.elem t (.int k)).eval args s none [] s = some v) (ht : t.eval args s none [] s = some (.ref x)) (A : Arr s s.heap x cl ty) : cl.slots[k.toNatClampNeg]? = some v := (elem_in h ht rfl A.1).2
end Starts
end Jvm.Ow
namespace Jvm.Ow
open Sem ClassFile Op Lib Jvm.Stand Jvm.Free Jvm.LawKit Jvm.RoadKit
section Calls
variable {l : Launch} {Z : State} {y : MethodName} {bytes : ByteArray} {maxL : Nat} {ret : Option FieldType} {rm : Room} {as' : Array Value} {h0 : Heap} {Q : Option Value → Heap → List Loc → Prop}
variable {p : Program} {e : Env} {R : Room} {s : State} {m : MethodId} {args : Array Value} {below : List Frame} {meth : Method} {c : Code} {T : State} {locs : List Loc} {cells slots : Nat} {G : Outcome → State → Prop} {pc : Nat} {Ls : Array Slot} {a0 : Array Value}
theorem callFB (X : Stand p l e R s m args below meth c T locs cells slots) (hx : p.tables.exec = Jvm.exec) (hZ : Z.Warmed39 s.vm) {a : Addr} {argsL rest st : List Value} {kc ks : Nat}
    (hK : Back l R p e below s args y 5 ((rest.map fun v => v.category).sum) (fun A a => a = as' ∧ A.U.heap = h0 ∧ A.cells + kc ≤ R.cells ∧ A.slots + ks ≤ R.slots) (fun A _ v B => ∃ L, Q v B.U.heap L ∧ B.locs = A.locs ++ L ∧ B.cells = A.cells + kc ∧ B.slots = A.slots + ks)) (eT : T.heap = h0) {C : String} {x : MethodName} {own : String} {index cnt : Nat} (hown : s.vm.findClass own = some m.cls)
    (wl : (Cond.methodLink own index x).before a0 Z = true) (wd : (Cond.declares x).before a0 Z = true) (wse : (Cond.selects C x y).before a0 Z = true) (win : (Cond.instanceMethod y).before a0 Z = true) (wf : (Cond.interfaceMethod x.cls x.cls x.name x.desc).before a0 Z = true) (wp : (Cond.publicMethod y).before a0 Z = true) (wu : (Cond.unhidden C x.name x.desc).before a0 Z = true) (wca : (Cond.castable C x.cls).before a0 Z = true)
    (hy : x.cls ≠ "java/lang/invoke/MethodHandle" ∧ x.cls ≠ "java/lang/invoke/VarHandle") {ps : List FieldType} {rt : Option FieldType} (hpd : parseMethodDescriptor x.desc = some ⟨ps, rt⟩) (hsz : Ls.size = c.maxLocals)
    (E : Exa Z h0 a C) (has : (.ref a :: argsL).toArray = as') (hlen : argsL.length = ps.length) (hst : st = argsL.reverse ++ .ref a :: rest) (hd : decode c.code pc = .ok (.invokeinterface index cnt, 5)) (hce : cells + kc ≤ R.cells) (hsl : slots + ks ≤ R.slots)
    (K : ∀ (v : Option Value) (T' : State) (L : List Loc), Stand p l e R s m args below meth c T' (locs ++ L) (cells + kc) (slots + ks) → Q v T'.heap L → Go p.tables e below G (T'.setTop (mkF m (pc + 5) Ls (v.toList ++ rest)))) :
    Go p.tables e below G (T.setTop (mkF m pc Ls st)) := by
  obtain ⟨cq, kq, qa, qb, qc⟩ := isOf hZ eT E
  obtain ⟨_, _, ⟨T1, L1, k1, n1⟩, -, X1, ⟨Lc, hQ, l1, y1, z1⟩, st1⟩ := X.interfaceBack hx (xi := x) (y := y) hown (mvT hZ wl) (mvT hZ wd) (mvT hZ wf (by simp [Cond.onTables, Cond.keepsFace, Cond.keeps, Cond.steady, Cond.faceAtom, hy.1, hy.2])) (mvT hZ wse) (mvT hZ win) (mvT hZ wp) (mvT hZ wu) (mvT hZ wca) hy hK qa qb qc (g := mkF m pc Ls st) rfl hsz (Steps.refl _) (argsL := argsL) (rest := rest) (lenOf hpd hlen) hst (by show 2 * 0 + _ ≤ _; omega) hd (fun _ _ => ⟨has, eT, hce, hsl⟩)
  dsimp only [Pt.U, Pt.locs, Pt.cells, Pt.slots] at X1 l1 y1 z1 st1 hQ
  subst l1 y1 z1
  exact (K _ _ _ X1 hQ).thru st1
/-- invokeinterface by a narrow contract -/
theorem callF (X : Stand p l e R s m args below meth c T locs cells slots) (hx : p.tables.exec = Jvm.exec) (hZ : Z.Warmed39 s.vm) (hP : Pay l Z y bytes maxL ret rm as' h0 Q) (eT : T.heap = h0) {C : String} {x : MethodName} {own : String} {index cnt : Nat} (hown : s.vm.findClass own = some m.cls)
    (wl : (Cond.methodLink own index x).before a0 Z = true) (wd : (Cond.declares x).before a0 Z = true) (wse : (Cond.selects C x y).before a0 Z = true) (win : (Cond.instanceMethod y).before a0 Z = true) (wf : (Cond.interfaceMethod x.cls x.cls x.name x.desc).before a0 Z = true) (wp : (Cond.publicMethod y).before a0 Z = true) (wu : (Cond.unhidden C x.name x.desc).before a0 Z = true) (wca : (Cond.castable C x.cls).before a0 Z = true) (wz : (Cond.initialized y.cls).before a0 Z = true) (wc : (Cond.code y bytes maxL ret).before a0 Z = true)
    (hy : x.cls ≠ "java/lang/invoke/MethodHandle" ∧ x.cls ≠ "java/lang/invoke/VarHandle") {ps : List FieldType} {rt : Option FieldType} (hpd : parseMethodDescriptor x.desc = some ⟨ps, rt⟩) (hsz : Ls.size = c.maxLocals)
    {a : Addr} (E : Exa Z h0 a C) {argsL rest st : List Value} (has : (.ref a :: argsL).toArray = as') (hlen : argsL.length = ps.length) (hst : st = argsL.reverse ++ .ref a :: rest) (hd : decode c.code pc = .ok (.invokeinterface index cnt, 5))
    (hf : (rm.frames + 1).ble R.frames = true) (hlo : ((rest.map fun v => v.category).sum + (maxL + 11) + rm.locals).ble R.locals = true) (hce : cells + rm.cells ≤ R.cells) (hsl : slots + rm.slots ≤ R.slots)
    (K : ∀ (v : Option Value) (T' : State) (L : List Loc), Stand p l e R s m args below meth c T' (locs ++ L) (cells + rm.cells) (slots + rm.slots) → Q v T'.heap L → Go p.tables e below G (T'.setTop (mkF m (pc + 5) Ls (v.toList ++ rest)))) :
    Go p.tables e below G (T.setTop (mkF m pc Ls st)) :=
  callFB X hx hZ (backOf (W := (rest.map fun v => v.category).sum) (hP []) hZ wc wz (Nat.le_of_ble_eq_true hf) (Nat.le_of_ble_eq_true hlo)) eT hown wl wd wse win wf wp wu wca hy hpd hsz E has hlen hst hd hce hsl K
/-- .. that moves nothing -/
theorem callFP (X : Stand p l e R s m args below meth c T locs cells slots) (hx : p.tables.exec = Jvm.exec) (hZ : Z.Warmed39 s.vm) {r : Option Value} (hP : Pay l Z y bytes maxL ret rm as' h0 (fun v h L => v = r ∧ h = h0 ∧ L = [])) (h0c : rm.cells = 0) (h0s : rm.slots = 0) (eT : T.heap = h0) {C : String} {x : MethodName} {own : String} {index cnt : Nat} (hown : s.vm.findClass own = some m.cls)
    (wl : (Cond.methodLink own index x).before a0 Z = true) (wd : (Cond.declares x).before a0 Z = true) (wse : (Cond.selects C x y).before a0 Z = true) (win : (Cond.instanceMethod y).before a0 Z = true) (wf : (Cond.interfaceMethod x.cls x.cls x.name x.desc).before a0 Z = true) (wp : (Cond.publicMethod y).before a0 Z = true) (wu : (Cond.unhidden C x.name x.desc).before a0 Z = true) (wca : (Cond.castable C x.cls).before a0 Z = true) (wz : (Cond.initialized y.cls).before a0 Z = true) (wc : (Cond.code y bytes maxL ret).before a0 Z = true)
    (hy : x.cls ≠ "java/lang/invoke/MethodHandle" ∧ x.cls ≠ "java/lang/invoke/VarHandle") {ps : List FieldType} {rt : Option FieldType} (hpd : parseMethodDescriptor x.desc = some ⟨ps, rt⟩) (hsz : Ls.size = c.maxLocals)
    {a : Addr} (E : Exa Z h0 a C) {argsL rest st : List Value} (has : (.ref a :: argsL).toArray = as') (hlen : argsL.length = ps.length) (hst : st = argsL.reverse ++ .ref a :: rest) (hd : decode c.code pc = .ok (.invokeinterface index cnt, 5))
    (hf : (rm.frames + 1).ble R.frames = true) (hlo : ((rest.map fun v => v.category).sum + (maxL + 11) + rm.locals).ble R.locals = true) (hce : cells ≤ R.cells) (hsl : slots ≤ R.slots)
    (K : ∀ (T' : State), Stand p l e R s m args below meth c T' locs cells slots → T'.heap = h0 → Go p.tables e below G (T'.setTop (mkF m (pc + 5) Ls (r.toList ++ rest)))) :
    Go p.tables e below G (T.setTop (mkF m pc Ls st)) := by
  refine callF X hx hZ hP eT hown wl wd wse win wf wp wu wca wz wc hy hpd hsz E has hlen hst hd hf hlo (by rw [h0c]; exact hce) (by rw [h0s]; exact hsl) ?_
  rintro v T' L X' ⟨rfl, hh, rfl⟩
  rw [h0c, h0s, List.append_nil] at X'
  exact K T' X' hh
end Calls
end Jvm.Ow
namespace Jvm.Ow
open Sem ClassFile Op Lib Jvm.Stand Jvm.Free Jvm.LawKit Jvm.RoadKit
theorem decl_of {Z : State} {a0 : Array Value} {y : MethodName} {bytes : ByteArray} {maxL : Nat} {ret : Option FieldType} (wc : (Cond.code y bytes maxL ret).before a0 Z = true) (wi : (Cond.instanceMethod y).before a0 Z = true) : (Cond.declares y).before a0 Z = true := by
  obtain ⟨mk, methM, hn, hm, hst, -⟩ := Cond.instanceMethod_spec wi
  obtain ⟨m2, cM, q1, -, -, -, -, -, -, hsig⟩ := Cond.code_spec hn wc
  have q2 : m2 = methM := Option.some.inj (q1.symm.trans hm)
  rw [q2] at hsig
  simp [Cond.before, Cond.holds, Cond.value, hn, hm, hst, hsig]
end Jvm.Ow
namespace Jvm.Ow
open Sem ClassFile Op Lib Jvm.Stand Jvm.Free Jvm.LawKit Jvm.RoadKit
section Refs
variable {p : Program} {l : Launch} {e : Env} {R : Room} {s : State} {m : MethodId} {args : Array Value} {below : List Frame} {meth : Method} {c : Code} {T : State} {locs : List Loc} {cells slots : Nat} {G : Outcome → State → Prop} {pc : Nat} {Ls : Array Slot} {rest : List Value} {Z : State} {a0 : Array Value} {h : Heap}
/-- ldc of a float -/
theorem ldcF (X : Stand p l e R s m args below meth c T locs cells slots) (hx : p.tables.exec = Jvm.exec) (hZ : Z.Warmed39 s.vm) {own : String} {index : Nat} (v : UInt32) (hown : s.vm.findClass own = some m.cls) (w : (Cond.constantFloat own index v).before a0 Z = true) (hd : decode c.code pc = .ok (.ldc index, 2))
    (K : Go p.tables e below G (T.setTop (mkF m (pc + 2) Ls (.float v :: rest)))) : Go p.tables e below G (T.setTop (mkF m pc Ls rest)) := K.via fun target r => X.ldcFloatC hx hown (mvT hZ w) (g := mkF m pc Ls rest) rfl hd target r
/-- anewarray -/
theorem anewarrayL (X : Stand p l e R s m args below meth c T locs cells slots) (hx : p.tables.exec = Jvm.exec) (hZ : Z.Warmed39 s.vm) {own C : String} {index : Nat} (hown : s.vm.findClass own = some m.cls) (w1 : (Cond.classLink own index C).before a0 Z = true) (w2 : (Cond.arrayOver (.object C)).before a0 Z = true) (eT : T.heap = h) (cap : Nat) {n : Int32} (vs : List Value) (hvs : List.replicate n.toNatClampNeg Value.null = vs)
    (hd : decode c.code pc = .ok (.anewarray index, 3)) (hn : ¬ n < 0) (hcap : n.toNatClampNeg ≤ cap) (hb : cap * 8 ≤ 536870912) (hc : cells + 1 ≤ R.cells) (hl : slots + cap ≤ R.slots)
    (K : ∀ T' h' cA (a : Addr), a = h.size → Stand p l e R s m args below meth c T' locs (cells + 1) (slots + cap) → T'.heap = h' → Ext h h' → AL Z h' a cA (.object C) vs → Ovr Z cA C →
      Go p.tables e below G (T'.setTop (mkF m (pc + 3) Ls (.ref a :: rest)))) : Go p.tables e below G (T.setTop (mkF m pc Ls (.int n :: rest))) := by
  obtain ⟨T', h', cA, X', e', E, A, O, st⟩ := newR X hx hZ hown w1 w2 eT (g := mkF m pc Ls (.int n :: rest)) rfl hd rfl hn hcap hb hc hl
  exact (K T' h' cA _ rfl X' e' E (AL.new A vs hvs) O).via st
/-- the array takes what a castable word lets it take -/
theorem sto_of {a y : Addr} {k : ClassId} {vs : List Value} {C D : String} (A : AL Z h a k (.object C) vs) (O : Ovr Z k C) (E : Exa Z h y D) (w : (Cond.castable D C).before a0 Z = true) : Sto Z h a (.ref y) := by
  obtain ⟨cl, A, r1, -⟩ := A
  obtain ⟨kA, comp, o1, o2, o3⟩ := O
  obtain ⟨cy, ky, e1, e2, e3, e4, -⟩ := E
  obtain ⟨c1, c2, g1, g2, g3⟩ := Cond.castable_spec w
  have q1 : c1 = cy.cls := Option.some.inj (g1.symm.trans e2)
  have q2 : c2 = comp := Option.some.inj (g2.symm.trans o3)
  obtain ⟨kc, hkc, -⟩ := Vm.findClass_spec o3
  rw [q1, q2] at g3
  exact Or.inr ⟨cl, cy, kA, ky, kc, comp, _, y, A.1, by rw [r1]; exact o1, o2, hkc, rfl, e1, e4, e3, g3⟩
theorem aastoreL (X : Stand p l e R s m args below meth c T locs cells slots) (hx : p.tables.exec = Jvm.exec) (hZ : Z.Warmed39 s.vm) (eT : T.heap = h) {a : Addr} {kc : ClassId} {ty : FieldType} {vs : List Value} {v : Value} (A : AL Z h a kc ty vs) (hty : ty.isReference = true) (F : Sto Z h a v) {j : Int32} (i : Nat) (vs' : List Value) (hj0 : ¬ j < 0) (hj : j.toNatClampNeg = i) (hi : i.blt vs.length = true) (hvs : vs.set i v = vs') (hd : decode c.code pc = .ok (.aastore, 1))
    (K : ∀ T' h', Stand p l e R s m args below meth c T' (locs ++ [⟨a, i⟩]) cells slots → T'.heap = h' → Wr h h' a i v → AL Z h' a kc ty vs' → Go p.tables e below G (T'.setTop (mkF m (pc + 1) Ls rest))) : Go p.tables e below G (T.setTop (mkF m pc Ls (v :: .int j :: .ref a :: rest))) := by
  obtain ⟨cl, Ar, -, q2, -⟩ := A.arr
  have hi' : i < vs.length := by simpa [Nat.blt_eq] using hi
  obtain ⟨T', h', X', e', W, st⟩ := stR X hx hZ eT Ar (inb q2 hj0 hj hi') hty F (g := mkF m pc Ls (v :: .int j :: .ref a :: rest)) rfl rfl hd
  rw [hj] at X' W
  exact (K T' h' X' e' W (A.set W vs' hvs)).via st
end Refs
end Jvm.Ow
/- laws to paste: Road.backV (cut by pick.py; bodies as the Statement names them) -/
namespace Jvm.Pilot.@@N@@
namespace StrChars
open Jvm Sem ClassFile Op Lib Jvm.Stand Jvm.Free.XT Jvm.Free.ALB Jvm.Free.JM Jvm.Free
open Jvm.Lib.Cold (StaticIs)
/-- a char array whose places are chars -/
def Ch (a : Addr) (A : Cell) (U : State) : Prop := Arr .char a A U ∧ Typed .char A
theorem Ch.mv {a : Addr} {A : Cell} {U U' : State} (h : Ch a A U) (hal : U.vm.Alike U'.vm) (hh : U'.heap = U.heap) : Ch a A U' := ⟨h.1.mv hal hh, h.2⟩
theorem Ch.keep {a : Addr} {A : Cell} {U U' : State} (h : Ch a A U) (hal : U.vm.Alike U'.vm) (hk : U'.heap[a]? = some A) : Ch a A U' := ⟨h.1.keep hal hk, h.2⟩
/-- what place i of a char[]'s cell holds -/
def cv (A : Cell) (i : Nat) : Int32 := match A.slots[i]? with | some (.int x) => x | _ => 0
theorem Ch.get {a : Addr} {A : Cell} {U : State} (h : Ch a A U) {i : Nat} (hi : i < A.slots.size) : A.slots[i]? = some (.int (cv A i)) := by
  have e := Array.getElem?_eq_getElem hi
  have f := h.2 i _ e
  unfold cv; rw [e]
  generalize A.slots[i] = v at f
  cases v <;> simp [fits] at f ⊢
/-- the byte that i2b leaves of a char -/
def lo8 (x : Int32) : Int32 := x.toInt8.toInt32
theorem fits_lo8 (y : Int32) : fits .byte (.int (lo8 y)) = true := by
  have h1 := y.toInt8.le_toInt
  have h2 := y.toInt8.toInt_lt
  simp only [lo8, fits, Bool.and_eq_true, decide_eq_true_eq, Int32.le_iff_toInt_le, Int8.toInt_toInt32, show (-128 : Int32).toInt = -128 from by decide, show (127 : Int32).toInt = 127 from by decide]
  omega
/-- A' is A but that each place j of lo .. hi - 1 holds f j -/
def Laid (A A' : Cell) (lo hi : Nat) (f : Nat → Value) : Prop := A'.cls = A.cls ∧ A'.vm = A.vm ∧ A'.slots.size = A.slots.size ∧ ∀ i, A'.slots[i]? = if lo ≤ i ∧ i < hi then some (f i) else A.slots[i]?
theorem Laid.zero (A : Cell) (lo : Nat) (f : Nat → Value) : Laid A A lo (lo + 0) f := ⟨rfl, rfl, rfl, fun i => by rw [if_neg (by omega)]⟩
theorem Laid.step {A Ak : Cell} {lo k : Nat} {f : Nat → Value} {v : Value} (h : Laid A Ak lo k f) (hlo : lo ≤ k) (hk : k < Ak.slots.size) (hv : v = f k) : Laid A (Ak.setSlot k v) lo (k + 1) f := by
  refine ⟨h.1, h.2.1, by simpa [Cell.setSlot] using h.2.2.1, fun i => ?_⟩
  by_cases e : k = i
  · subst e; rw [Cell.slots_setSlot_self v hk, if_pos (by omega), hv]
  · rw [Cell.slots_setSlot_ne v e, h.2.2.2 i]
    by_cases q : lo ≤ i ∧ i < k
    · rw [if_pos q, if_pos (by omega)]
    · rw [if_neg q, if_neg (by omega)]
def U16 : String := "java/lang/StringUTF16"
namespace Cmp5
def yN : MethodName := ⟨"java/lang/StringUTF16", "compress", "([CI[BII)I"⟩
abbrev yB : ByteArray := jdk_52_method_21_code
theorem d0 : decode yB 0 = .ok (.iconst 0, 1) := by decide +kernel
theorem d1 : decode yB 1 = .ok (.istore 5, 2) := by decide +kernel
theorem d3 : decode yB 3 = .ok (.iload 5, 2) := by decide +kernel
theorem d5 : decode yB 5 = .ok (.iload 4, 2) := by decide +kernel
theorem d7 : decode yB 7 = .ok (.if_icmp (.ge) 37, 3) := by decide +kernel
theorem d10 : decode yB 10 = .ok (.aload_n 0, 1) := by decide +kernel
theorem d11 : decode yB 11 = .ok (.iload_n 1, 1) := by decide +kernel
theorem d12 : decode yB 12 = .ok (.caload, 1) := by decide +kernel
theorem d13 : decode yB 13 = .ok (.istore 6, 2) := by decide +kernel
theorem d15 : decode yB 15 = .ok (.iload 6, 2) := by decide +kernel
theorem d17 : decode yB 17 = .ok (.sipush 255, 3) := by decide +kernel
theorem d20 : decode yB 20 = .ok (.if_icmp (.le) 6, 3) := by decide +kernel
theorem d26 : decode yB 26 = .ok (.aload_n 2, 1) := by decide +kernel
theorem d27 : decode yB 27 = .ok (.iload_n 3, 1) := by decide +kernel
theorem d28 : decode yB 28 = .ok (.iload 6, 2) := by decide +kernel
theorem d30 : decode yB 30 = .ok (.i2b, 1) := by decide +kernel
theorem d31 : decode yB 31 = .ok (.bastore, 1) := by decide +kernel
theorem d32 : decode yB 32 = .ok (.iinc 1 1, 3) := by decide +kernel
theorem d35 : decode yB 35 = .ok (.iinc 3 1, 3) := by decide +kernel
theorem d38 : decode yB 38 = .ok (.iinc 5 1, 3) := by decide +kernel
theorem d41 : decode yB 41 = .ok (.goto (-38), 3) := by decide +kernel
theorem d44 : decode yB 44 = .ok (.iload 4, 2) := by decide +kernel
theorem d46 : decode yB 46 = .ok (.ireturn, 1) := by decide +kernel
def site : List Cond := []
def tab : Cond := tabOf yN yB 7 (some .int) site
def P (b : Addr) (A : Cell) (d : Addr) (B : Cell) (o q len : Nat) (args : Array Value) (s : State) : Prop := args = #[.ref b, .int (Int32.ofNat o), .ref d, .int (Int32.ofNat q), .int (Int32.ofNat len)] ∧ Ch b A s ∧ Arr .byte d B s ∧ b ≠ d ∧ o + len ≤ A.slots.size ∧ q + len ≤ B.slots.size ∧ ∀ i, i < len → ¬ 255 < cv A (o + i)
def E (b : Addr) (A : Cell) (d : Addr) (B : Cell) (o q len : Nat) (r : Option Value) (s u : State) : Prop := r = some (.int (Int32.ofNat len)) ∧ ∃ B', Put d B' s u ∧ Laid B B' q (q + len) (fun j => Value.int (lo8 (cv A (o + (j - q)))))
/-- no char of the range above 255: len; the places written hold each char's low byte -/
theorem law (l : Launch) (b : Addr) (A : Cell) (d : Addr) (B : Cell) (o q len : Nat) : Law l yN 5 5 0 0 yB 7 (some .int) site (P b A d B o q len) (E b A d B o q len) (copyLocs d q len) 0 0 := by
  refine Law.of_walk (plainFor_of_name (by decide +kernel)) (by decide +kernel) (by decide +kernel) (by decide) (fun _ _ h => by rw [h.1]; rfl) (fun _ U U' hal hh h => ⟨h.1, h.2.1.mv hal hh, h.2.2.1.mv hal hh, h.2.2.2⟩) (fun r U U' V V' h1 hal h2 h => ⟨h.1, h.2.elim fun B' q => ⟨B', q.1.mv h1 h2, q.2⟩⟩) ?_
  intro p e s m args below meth c s₁ X0 hexec hbytes hml hret hlk hnm hown hh0 W hP
  obtain ⟨rfl, hA, hB, hne, l1, l2, hp⟩ := hP
  have c1 : Steps p.tables e below (s₁.setTop (entryFrame m #[.ref b, .int (Int32.ofNat o), .ref d, .int (Int32.ofNat q), .int (Int32.ofNat len)] 7)) (s₁.setTop (mkF m 0 #[.val (.ref b), .val (.int (Int32.ofNat o)), .val (.ref d), .val (.int (Int32.ofNat q)), .val (.int (Int32.ofNat len)), .unset, .unset] [])) := entry rfl
  have hA0 := hA.1.mv X0.warmed.alike hh0
  have hB0 := hB.mv X0.warmed.alike hh0
  have a31 := hA.1.2.2.2
  have c2 : Steps p.tables e below (s₁.setTop (entryFrame m #[.ref b, .int (Int32.ofNat o), .ref d, .int (Int32.ofNat q), .int (Int32.ofNat len)] 7)) (s₁.setTop (mkF m 3 #[.val (.ref b), .val (.int (Int32.ofNat o)), .val (.ref d), .val (.int (Int32.ofNat q)), .val (.int (Int32.ofNat len)), .val (.int 0), .unset] [])) := c1.trans (by
    refine iconstV X0.here hexec rfl 0 (hb hbytes d0) (by decide) ?_
    refine XS.istore X0.here hexec rfl (hb hbytes d1) rfl rfl ?_
    exact Steps.refl _)
  have loop : ∀ (r i : Nat), i + r = len → ∀ (z : Slot), (z = .unset ∨ ∃ w, z = .val w ∧ w.category = 1) → ∀ (Tl : State) (Bk : Cell), Stand p l e { frames := 0, locals := 0, cells := 0, slots := 0 } s m #[.ref b, .int (Int32.ofNat o), .ref d, .int (Int32.ofNat q), .int (Int32.ofNat len)] below meth c Tl ([] ++ copyLocs d q i) 0 0 → Put d Bk s₁ Tl → Laid B Bk q (q + i) (fun j => Value.int (lo8 (cv A (o + (j - q))))) →
      Steps p.tables e below (s₁.setTop (entryFrame m #[.ref b, .int (Int32.ofNat o), .ref d, .int (Int32.ofNat q), .int (Int32.ofNat len)] 7)) (Tl.setTop (mkF m 3 #[.val (.ref b), .val (.int (Int32.ofNat (o + i))), .val (.ref d), .val (.int (Int32.ofNat (q + i))), .val (.int (Int32.ofNat len)), .val (.int (Int32.ofNat i)), z] [])) → ∃ (T' : State) (B' : Cell) (z' : Slot), Stand p l e { frames := 0, locals := 0, cells := 0, slots := 0 } s m #[.ref b, .int (Int32.ofNat o), .ref d, .int (Int32.ofNat q), .int (Int32.ofNat len)] below meth c T' ([] ++ copyLocs d q len) 0 0 ∧ Put d B' s₁ T' ∧ Laid B B' q (q + len) (fun j => Value.int (lo8 (cv A (o + (j - q))))) ∧
      Steps p.tables e below (s₁.setTop (entryFrame m #[.ref b, .int (Int32.ofNat o), .ref d, .int (Int32.ofNat q), .int (Int32.ofNat len)] 7)) (T'.setTop (mkF m 3 #[.val (.ref b), .val (.int (Int32.ofNat (o + len))), .val (.ref d), .val (.int (Int32.ofNat (q + len))), .val (.int (Int32.ofNat len)), .val (.int (Int32.ofNat len)), z'] [])) := by
    intro r
    induction r with
    | zero =>
      intro i hi z hz Tl Bk Xl pl fl cl
      have hil : i = len := by omega
      rw [hil] at Xl fl cl
      exact ⟨Tl, Bk, z, Xl, pl, fl, cl⟩
    | succ r ih =>
      intro i hi z hz Tl Bk Xl pl fl cl
      have all := X0.warmed.alike.symm.trans Xl.warmed.alike
      have hAl := hA0.keep all (pl.other hne hA0.1)
      have hBk := hB0.like all pl.1 fl.1 fl.2.1 fl.2.2.1
      have hlt : q + i < Bk.slots.size := by rw [fl.2.2.1]; omega
      have c3 : Steps p.tables e below (s₁.setTop (entryFrame m #[.ref b, .int (Int32.ofNat o), .ref d, .int (Int32.ofNat q), .int (Int32.ofNat len)] 7)) (Tl.setTop (mkF m 12 #[.val (.ref b), .val (.int (Int32.ofNat (o + i))), .val (.ref d), .val (.int (Int32.ofNat (q + i))), .val (.int (Int32.ofNat len)), .val (.int (Int32.ofNat i)), z] [.int (Int32.ofNat (o + i)), .ref b])) := cl.trans (by
        refine XS.iload Xl.here hexec rfl (hb hbytes d3) rfl ?_
        refine XS.iload Xl.here hexec rfl (hb hbytes d5) rfl ?_
        refine XS.icmpNo Xl.here hexec rfl (hb hbytes d7) rfl (ii_ge_f (lt32 (by omega) (by omega))) ?_
        refine XS.aloadN Xl.here hexec rfl (hb hbytes d10) rfl rfl ?_
        refine XS.iloadN Xl.here hexec rfl (hb hbytes d11) rfl ?_
        exact Steps.refl _)
      have c4 : Steps p.tables e below (s₁.setTop (entryFrame m #[.ref b, .int (Int32.ofNat o), .ref d, .int (Int32.ofNat q), .int (Int32.ofNat len)] 7)) (Tl.setTop (mkF m 13 #[.val (.ref b), .val (.int (Int32.ofNat (o + i))), .val (.ref d), .val (.int (Int32.ofNat (q + i))), .val (.int (Int32.ofNat len)), .val (.int (Int32.ofNat i)), z] [.int (cv A (o + i))])) := c3.trans (by
        refine Xl.aget hexec hAl rfl (hA.get (i := o + i) (by omega)) rfl rfl (hb hbytes d12) ?_
        exact Steps.refl _)
      have c5 : Steps p.tables e below (s₁.setTop (entryFrame m #[.ref b, .int (Int32.ofNat o), .ref d, .int (Int32.ofNat q), .int (Int32.ofNat len)] 7)) (Tl.setTop (mkF m 15 #[.val (.ref b), .val (.int (Int32.ofNat (o + i))), .val (.ref d), .val (.int (Int32.ofNat (q + i))), .val (.int (Int32.ofNat len)), .val (.int (Int32.ofNat i)), .val (.int (cv A (o + i)))] [])) := c4.trans (by
        refine XS.istoreS Xl.here hexec rfl (hb hbytes d13) rfl rfl hz ?_
        exact Steps.refl _)
      have c6 : Steps p.tables e below (s₁.setTop (entryFrame m #[.ref b, .int (Int32.ofNat o), .ref d, .int (Int32.ofNat q), .int (Int32.ofNat len)] 7)) (Tl.setTop (mkF m 31 #[.val (.ref b), .val (.int (Int32.ofNat (o + i))), .val (.ref d), .val (.int (Int32.ofNat (q + i))), .val (.int (Int32.ofNat len)), .val (.int (Int32.ofNat i)), .val (.int (cv A (o + i)))] [.int (lo8 (cv A (o + i))), .int (Int32.ofNat (q + i)), .ref d])) := c5.trans (by
        refine XS.iload Xl.here hexec rfl (hb hbytes d15) rfl ?_
        refine sipushV Xl.here hexec rfl 255 (hb hbytes d17) (by decide) ?_
        refine XS.icmpYes Xl.here hexec rfl (pc0 := 20) rfl (hb hbytes d20) rfl (ii_le_t (hp i (by omega))) (by decide) rfl ?_
        refine XS.aloadN Xl.here hexec rfl (hb hbytes d26) rfl rfl ?_
        refine XS.iloadN Xl.here hexec rfl (hb hbytes d27) rfl ?_
        refine XS.iload Xl.here hexec rfl (hb hbytes d28) rfl ?_
        refine i2b Xl.here hexec rfl (hb hbytes d30) rfl ?_
        exact Steps.refl _)
      obtain ⟨T7, X7, p7, st7⟩ := Xl.aput hexec hBk rfl hlt rfl (fits_lo8 (cv A (o + i))) (g := (mkF m 31 #[.val (.ref b), .val (.int (Int32.ofNat (o + i))), .val (.ref d), .val (.int (Int32.ofNat (q + i))), .val (.int (Int32.ofNat len)), .val (.int (Int32.ofNat i)), .val (.int (cv A (o + i)))] [.int (lo8 (cv A (o + i))), .int (Int32.ofNat (q + i)), .ref d])) rfl (rest := []) rfl (hb hbytes d31)
      have c8 : Steps p.tables e below (s₁.setTop (entryFrame m #[.ref b, .int (Int32.ofNat o), .ref d, .int (Int32.ofNat q), .int (Int32.ofNat len)] 7)) (T7.setTop (mkF m 32 #[.val (.ref b), .val (.int (Int32.ofNat (o + i))), .val (.ref d), .val (.int (Int32.ofNat (q + i))), .val (.int (Int32.ofNat len)), .val (.int (Int32.ofNat i)), .val (.int (cv A (o + i)))] [])) := c6.trans (st7 _ (Steps.refl _))
      have c9 : Steps p.tables e below (s₁.setTop (entryFrame m #[.ref b, .int (Int32.ofNat o), .ref d, .int (Int32.ofNat q), .int (Int32.ofNat len)] 7)) (T7.setTop (mkF m 3 #[.val (.ref b), .val (.int (Int32.ofNat (o + i) + 1)), .val (.ref d), .val (.int (Int32.ofNat (q + i) + 1)), .val (.int (Int32.ofNat len)), .val (.int (Int32.ofNat i + 1)), .val (.int (cv A (o + i)))] [])) := c8.trans (by
        refine iincV X7.here hexec rfl 1 (hb hbytes d32) (by decide) rfl rfl ?_
        refine iincV X7.here hexec rfl 1 (hb hbytes d35) (by decide) rfl rfl ?_
        refine iincV X7.here hexec rfl 1 (hb hbytes d38) (by decide) rfl rfl ?_
        refine XS.goto X7.here hexec rfl (pc0 := 41) rfl (hb hbytes d41) (by decide) rfl ?_
        exact Steps.refl _)
      have c10 : Steps p.tables e below (s₁.setTop (entryFrame m #[.ref b, .int (Int32.ofNat o), .ref d, .int (Int32.ofNat q), .int (Int32.ofNat len)] 7)) (T7.setTop (mkF m 3 #[.val (.ref b), .val (.int (Int32.ofNat (o + (i + 1)))), .val (.ref d), .val (.int (Int32.ofNat (q + (i + 1)))), .val (.int (Int32.ofNat len)), .val (.int (Int32.ofNat (i + 1))), .val (.int (cv A (o + i)))] [])) := by
        have := c9
        rw [succ32, succ32, succ32] at this
        exact this
      exact ih (i + 1) (by omega) _ (Or.inr ⟨_, rfl, rfl⟩) T7 _ (by rw [copyLocs_step, ← List.append_assoc]; exact X7) (pl.trans p7) (fl.step (by omega) hlt (by simp)) c10
  obtain ⟨T9, B9, z9, X9, p9, f9, g9⟩ := loop len 0 (by omega) .unset (Or.inl rfl) s₁ B (by simpa [copyLocs] using X0) ⟨hB0.1, fun _ _ => rfl, rfl⟩ (Laid.zero _ _ _) c2
  have c11 : Steps p.tables e below (s₁.setTop (entryFrame m #[.ref b, .int (Int32.ofNat o), .ref d, .int (Int32.ofNat q), .int (Int32.ofNat len)] 7)) (T9.setTop (mkF m 46 #[.val (.ref b), .val (.int (Int32.ofNat (o + len))), .val (.ref d), .val (.int (Int32.ofNat (q + len))), .val (.int (Int32.ofNat len)), .val (.int (Int32.ofNat len)), z9] [.int (Int32.ofNat len)])) := g9.trans (by
    refine XS.iload X9.here hexec rfl (hb hbytes d3) rfl ?_
    refine XS.iload X9.here hexec rfl (hb hbytes d5) rfl ?_
    refine XS.icmpYes X9.here hexec rfl (pc0 := 7) rfl (hb hbytes d7) rfl (ii_ge_t (nlt32 (by omega) (Nat.le_refl _))) (by decide) rfl ?_
    refine XS.iload X9.here hexec rfl (hb hbytes d44) rfl ?_
    exact Steps.refl _)
  exact ⟨T9, some (.int (Int32.ofNat len)), _, _, _, X9, by simp, rfl, rfl, (fun h => by cases h), ⟨rfl, B9, p9.from hh0, f9⟩, fun fs hl => c11.trans (X9.ireturnOut hexec hret rfl (Or.inl rfl) (hb hbytes d46) hl)⟩
end Cmp5
namespace Cmp3
def yN : MethodName := ⟨"java/lang/StringUTF16", "compress", "([CII)[B"⟩
abbrev yB : ByteArray := jdk_52_method_16_code
theorem d0 : decode yB 0 = .ok (.iload_n 2, 1) := by decide +kernel
theorem d1 : decode yB 1 = .ok (.newarray .byte, 2) := by decide +kernel
theorem d3 : decode yB 3 = .ok (.astore_n 3, 1) := by decide +kernel
theorem d4 : decode yB 4 = .ok (.aload_n 0, 1) := by decide +kernel
theorem d5 : decode yB 5 = .ok (.iload_n 1, 1) := by decide +kernel
theorem d6 : decode yB 6 = .ok (.aload_n 3, 1) := by decide +kernel
theorem d7 : decode yB 7 = .ok (.iconst 0, 1) := by decide +kernel
theorem d8 : decode yB 8 = .ok (.iload_n 2, 1) := by decide +kernel
theorem d9 : decode yB 9 = .ok (.invokestatic 115, 3) := by decide +kernel
theorem d12 : decode yB 12 = .ok (.istore 4, 2) := by decide +kernel
theorem d14 : decode yB 14 = .ok (.iload 4, 2) := by decide +kernel
theorem d16 : decode yB 16 = .ok (.iload_n 2, 1) := by decide +kernel
theorem d17 : decode yB 17 = .ok (.if_icmp (.eq) 40, 3) := by decide +kernel
theorem d57 : decode yB 57 = .ok (.aload_n 3, 1) := by decide +kernel
theorem d58 : decode yB 58 = .ok (.areturn, 1) := by decide +kernel
def site : List Cond := [.arrayClass .byte, Cmp5.tab] ++ staticW U16 115 Cmp5.yN
def tab : Cond := tabOf yN yB 6 (some (.array .byte)) site
def P (b : Addr) (A : Cell) (o len : Nat) (args : Array Value) (s : State) : Prop := args = #[.ref b, .int (Int32.ofNat o), .int (Int32.ofNat len)] ∧ Ch b A s ∧ o + len ≤ A.slots.size ∧ len ≤ 536870912 ∧ ∀ i, i < len → ¬ 255 < cv A (o + i)
def E (b : Addr) (A : Cell) (o len : Nat) (r : Option Value) (s u : State) : Prop := NewArr .byte "[B" len (fun j => .int (lo8 (cv A (o + j)))) r s u ∧ u.heap.size = s.heap.size + 1
/-- no char of the range above 255: a new byte[] of their low bytes -/
theorem law (l : Launch) (b : Addr) (A : Cell) (o len : Nat) : Law l yN 3 3 1 18 yB 6 (some (.array .byte)) site (P b A o len) (E b A o len) [] 1 len := by
  refine Law.of_walk (plainFor_of_name (by decide +kernel)) (by decide +kernel) (by decide +kernel) (by decide) (fun _ _ h => by rw [h.1]; rfl) (fun _ U U' hal hh h => ⟨h.1, h.2.1.mv hal hh, h.2.2⟩) (fun r U U' V V' h1 hal h2 h => ⟨NewArr.mv r U U' V V' h1 hal h2 h.1, by rw [h1, h2]; exact h.2⟩) ?_
  intro p e s m args below meth c s₁ X0 hexec hbytes hml hret hlk hnm hown hh0 W hP
  obtain ⟨rfl, hA, l1, l2, hp⟩ := hP
  have a31 := hA.1.2.2.2
  have c1 : Steps p.tables e below (s₁.setTop (entryFrame m #[.ref b, .int (Int32.ofNat o), .int (Int32.ofNat len)] 6)) (s₁.setTop (mkF m 0 #[.val (.ref b), .val (.int (Int32.ofNat o)), .val (.int (Int32.ofNat len)), .unset, .unset, .unset] [])) := entry rfl
  have c2 : Steps p.tables e below (s₁.setTop (entryFrame m #[.ref b, .int (Int32.ofNat o), .int (Int32.ofNat len)] 6)) (s₁.setTop (mkF m 1 #[.val (.ref b), .val (.int (Int32.ofNat o)), .val (.int (Int32.ofNat len)), .unset, .unset, .unset] [.int (Int32.ofNat len)])) := c1.trans (by
    refine XS.iloadN X0.here hexec rfl (hb hbytes d0) rfl ?_
    exact Steps.refl _)
  obtain ⟨T3, B3, X3, ba3, bs3, bv3, bh3, bf3, st3⟩ := X0.anew hexec (atype := .byte) (wk W (.arrayClass .byte)) rfl (by show len * 1 ≤ _; omega) (by omega) (g := (mkF m 1 #[.val (.ref b), .val (.int (Int32.ofNat o)), .val (.int (Int32.ofNat len)), .unset, .unset, .unset] [.int (Int32.ofNat len)])) rfl (hb hbytes d1) (rest := []) rfl (Nat.le_refl _) (by show 0 + len ≤ len; omega)
  rw [hh0] at ba3 st3
  have kp3 : XT.Kept s T3 := (XT.Kept.of_eq hh0).push bh3
  have hA3 := hA.keep X3.warmed.alike (kp3 _ _ hA.1.1)
  have hne : b ≠ s.heap.size := hA.1.ne
  have c4 : Steps p.tables e below (s₁.setTop (entryFrame m #[.ref b, .int (Int32.ofNat o), .int (Int32.ofNat len)] 6)) (T3.setTop (mkF m 3 #[.val (.ref b), .val (.int (Int32.ofNat o)), .val (.int (Int32.ofNat len)), .unset, .unset, .unset] [.ref s.heap.size])) := c2.trans (st3 _ (Steps.refl _))
  have c5 : Steps p.tables e below (s₁.setTop (entryFrame m #[.ref b, .int (Int32.ofNat o), .int (Int32.ofNat len)] 6)) (T3.setTop (mkF m 9 #[.val (.ref b), .val (.int (Int32.ofNat o)), .val (.int (Int32.ofNat len)), .val (.ref s.heap.size), .unset, .unset] [.int (Int32.ofNat len), .int 0, .ref s.heap.size, .int (Int32.ofNat o), .ref b])) := c4.trans (by
    refine XS.astoreN X3.here hexec rfl (hb hbytes d3) rfl rfl rfl ?_
    refine XS.aloadN X3.here hexec rfl (hb hbytes d4) rfl rfl ?_
    refine XS.iloadN X3.here hexec rfl (hb hbytes d5) rfl ?_
    refine XS.aloadN X3.here hexec rfl (hb hbytes d6) rfl rfl ?_
    refine iconstV X3.here hexec rfl 0 (hb hbytes d7) (by decide) ?_
    refine XS.iloadN X3.here hexec rfl (hb hbytes d8) rfl ?_
    exact Steps.refl _)
  obtain ⟨v6, T6, X6, E6, g6⟩ := X3.callS hexec (Cmp5.law l b A s.heap.size B3 o 0 len) hown (wks W (staticW U16 115 Cmp5.yN)) (wk W Cmp5.tab) (W := 0) (Nat.le_of_ble_eq_true rfl) (Nat.le_of_ble_eq_true rfl) (Nat.le_refl _) (by show 0 + len + 0 ≤ len; omega) (g := (mkF m 9 #[.val (.ref b), .val (.int (Int32.ofNat o)), .val (.int (Int32.ofNat len)), .val (.ref s.heap.size), .unset, .unset] [.int (Int32.ofNat len), .int (Int32.ofNat 0), .ref s.heap.size, .int (Int32.ofNat o), .ref b])) rfl (by rw [hml]; rfl) c5 (argsL := [.ref b, .int (Int32.ofNat o), .ref s.heap.size, .int (Int32.ofNat 0), .int (Int32.ofNat len)]) (rest := []) rfl rfl (by show 2 * 0 + 0 ≤ _; decide) (hb hbytes d9) (⟨rfl, hA3, ba3, hne, l1, by rw [bs3]; simp, hp⟩)
  obtain ⟨rfl, B6, p6, f6⟩ := E6
  have c7 : Steps p.tables e below (s₁.setTop (entryFrame m #[.ref b, .int (Int32.ofNat o), .int (Int32.ofNat len)] 6)) (T6.setTop (mkF m 12 #[.val (.ref b), .val (.int (Int32.ofNat o)), .val (.int (Int32.ofNat len)), .val (.ref s.heap.size), .unset, .unset] [.int (Int32.ofNat len)])) := g6
  have c8 : Steps p.tables e below (s₁.setTop (entryFrame m #[.ref b, .int (Int32.ofNat o), .int (Int32.ofNat len)] 6)) (T6.setTop (mkF m 58 #[.val (.ref b), .val (.int (Int32.ofNat o)), .val (.int (Int32.ofNat len)), .val (.ref s.heap.size), .val (.int (Int32.ofNat len)), .unset] [.ref s.heap.size])) := c7.trans (by
    refine XS.istore X6.here hexec rfl (hb hbytes d12) rfl rfl ?_
    refine XS.iload X6.here hexec rfl (hb hbytes d14) rfl ?_
    refine XS.iloadN X6.here hexec rfl (hb hbytes d16) rfl ?_
    refine XS.icmpYes X6.here hexec rfl (pc0 := 17) rfl (hb hbytes d17) rfl (ii_eq_t rfl) (by decide) rfl ?_
    refine XS.aloadN X6.here hexec rfl (hb hbytes d57) rfl rfl ?_
    exact Steps.refl _)
  have X8 := X6.wide (L' := []) (cells' := 1) (slots' := len) (fun x hx hlt => by
    simp only [List.nil_append, copyLocs, List.mem_map, List.mem_range] at hx
    obtain ⟨i, -, rfl⟩ := hx
    exact absurd hlt (Nat.lt_irrefl _)) (Nat.le_refl _) (by omega)
  exact ⟨T6, some (.ref s.heap.size), _, _, _, X8, rfl, rfl, rfl, (fun h => by cases h), ⟨⟨rfl, B6, ba3.like (X3.warmed.alike.symm.trans X6.warmed.alike) p6.1 f6.1 f6.2.1 f6.2.2.1, f6.2.1.trans bv3, by rw [X6.warmed.alike.findClass, f6.1]; exact bf3, by rw [f6.2.2.1, bs3]; simp, fun j hj => by rw [f6.2.2.2 j, if_pos (by omega)]; rfl, kp3.put p6 (Nat.le_refl _)⟩, by rw [p6.2.2, bh3, hh0]; simp⟩, fun fs hl => c8.trans (X8.areturnOut hexec rfl hret rfl (hb hbytes d58) hl)⟩
end Cmp3
namespace CodL
def yN : MethodName := ⟨"java/lang/StringUTF16", "coderFromArrayLen", "([BI)B"⟩
abbrev yB : ByteArray := jdk_52_method_15_code
theorem d0 : decode yB 0 = .ok (.iload_n 1, 1) := by decide +kernel
theorem d1 : decode yB 1 = .ok (.aload_n 0, 1) := by decide +kernel
theorem d2 : decode yB 2 = .ok (.arraylength, 1) := by decide +kernel
theorem d3 : decode yB 3 = .ok (.isub, 1) := by decide +kernel
theorem d4 : decode yB 4 = .ok (.bipush 31, 2) := by decide +kernel
theorem d6 : decode yB 6 = .ok (.iushr, 1) := by decide +kernel
theorem d7 : decode yB 7 = .ok (.i2b, 1) := by decide +kernel
theorem d8 : decode yB 8 = .ok (.ireturn, 1) := by decide +kernel
def site : List Cond := []
def tab : Cond := tabOf yN yB 2 (some .byte) site
def P (d : Addr) (B : Cell) (args : Array Value) (s : State) : Prop := args = #[.ref d, .int (Int32.ofNat B.slots.size)] ∧ Arr .byte d B s
def E (r : Option Value) (s u : State) : Prop := XT.PureE (some (.int 0)) r s u
/-- an array as long as the number of chars: LATIN1 -/
theorem law (l : Launch) (d : Addr) (B : Cell) : Law l yN 2 2 0 0 yB 2 (some .byte) site (P d B) E [] 0 0 := by
  refine Law.of_walk (plainFor_of_name (by decide +kernel)) (by decide +kernel) (by decide +kernel) (by decide) (fun _ _ h => by rw [h.1]; rfl) (fun _ U U' hal hh h => ⟨h.1, h.2.mv hal hh⟩) (fun r U U' V V' h1 hal h2 h => XT.PureE.mv r U U' V V' h1 hal h2 h) ?_
  intro p e s m args below meth c s₁ X0 hexec hbytes hml hret hlk hnm hown hh0 W hP
  obtain ⟨rfl, hB⟩ := hP
  have hB0 := hB.mv X0.warmed.alike hh0
  have c1 : Steps p.tables e below (s₁.setTop (entryFrame m #[.ref d, .int (Int32.ofNat B.slots.size)] 2)) (s₁.setTop (mkF m 0 #[.val (.ref d), .val (.int (Int32.ofNat B.slots.size))] [])) := entry rfl
  have c2 : Steps p.tables e below (s₁.setTop (entryFrame m #[.ref d, .int (Int32.ofNat B.slots.size)] 2)) (s₁.setTop (mkF m 2 #[.val (.ref d), .val (.int (Int32.ofNat B.slots.size))] [.ref d, .int (Int32.ofNat B.slots.size)])) := c1.trans (by
    refine XS.iloadN X0.here hexec rfl (hb hbytes d0) rfl ?_
    refine XS.aloadN X0.here hexec rfl (hb hbytes d1) rfl rfl ?_
    exact Steps.refl _)
  have c3 : Steps p.tables e below (s₁.setTop (entryFrame m #[.ref d, .int (Int32.ofNat B.slots.size)] 2)) (s₁.setTop (mkF m 8 #[.val (.ref d), .val (.int (Int32.ofNat B.slots.size))] [.int (lo8 (ushr (Int32.ofNat B.slots.size - Int32.ofNat B.slots.size) 31))])) := c2.trans (by
    refine X0.alen hexec hB0 rfl rfl (hb hbytes d2) ?_
    refine XS.isub X0.here hexec rfl (hb hbytes d3) rfl ?_
    refine bipushV X0.here hexec rfl 31 (hb hbytes d4) (by decide) ?_
    refine iushr X0.here hexec rfl (hb hbytes d6) rfl ?_
    refine i2b X0.here hexec rfl (hb hbytes d7) rfl ?_
    exact Steps.refl _)
  have e0 : lo8 (ushr (Int32.ofNat B.slots.size - Int32.ofNat B.slots.size) 31) = 0 := by rw [Int32.sub_self]; decide
  rw [e0] at c3
  exact ⟨s₁, some (.int 0), _, _, _, X0, rfl, rfl, rfl, (fun h => by cases h), ⟨rfl, hh0⟩, fun fs hl => c3.trans (X0.ireturnOut hexec hret rfl (Or.inr (Or.inr (Or.inl rfl))) (hb hbytes d8) hl)⟩
end CodL
/-- the String at a is Latin-1 over a new byte[] (the heap's one new cell): the low bytes of the len chars of A from o on; every cell but a is kept -/
def Got (a : Addr) (D : Cell) (fV fC : Field) (A : Cell) (o len : Nat) (r : Option Value) (s u : State) : Prop := r = none ∧ ∃ D' V : Cell, Blank "java/lang/String" a D' u ∧ Same D D' [fV.slot, fC.slot] ∧ D'.slots[fV.slot]? = some (.ref s.heap.size) ∧ D'.slots[fC.slot]? = some (.int 0) ∧ Arr .byte s.heap.size V u ∧ V.vm = .none ∧ u.vm.findClass "[B" = some V.cls ∧ V.slots.size = len ∧ (∀ j, j < len → V.slots[j]? = some (.int (lo8 (cv A (o + j))))) ∧ (∀ (y : Addr) (c : Cell), y ≠ a → s.heap[y]? = some c → u.heap[y]? = some c) ∧ u.heap.size = s.heap.size + 1
theorem Got.mv {a : Addr} {D A : Cell} {fV fC : Field} {o len : Nat} : ∀ r (U U' V V' : State), U'.heap = U.heap → V.vm.Alike V'.vm → V'.heap = V.heap → Got a D fV fC A o len r U V → Got a D fV fC A o len r U' V' :=
  fun r U U' V V' h1 hal h2 ⟨e0, D', X, a1, a2, a3, a4, a5, a6, a7, a8, a9, a10, a11⟩ => ⟨e0, D', X, a1.mv hal h2, a2, by rw [h1]; exact a3, a4, by rw [h1]; exact a5.mv hal h2, a6, by rw [hal.findClass]; exact a7, a8, a9, by rw [h1, h2]; exact a10, by rw [h1, h2]; exact a11⟩
namespace New4
def yN : MethodName := ⟨"java/lang/String", "<init>", "([CIILjava/lang/Void;)V"⟩
abbrev yB : ByteArray := jdk_42_method_149_code
theorem d0 : decode yB 0 = .ok (.aload_n 0, 1) := by decide +kernel
theorem d1 : decode yB 1 = .ok (.invokespecial 1, 3) := by decide +kernel
theorem d4 : decode yB 4 = .ok (.iload_n 3, 1) := by decide +kernel
theorem d5 : decode yB 5 = .ok (.ifCond (.ne) 22, 3) := by decide +kernel
theorem d27 : decode yB 27 = .ok (.getstatic 38, 3) := by decide +kernel
theorem d30 : decode yB 30 = .ok (.ifCond (.eq) 28, 3) := by decide +kernel
theorem d33 : decode yB 33 = .ok (.aload_n 1, 1) := by decide +kernel
theorem d34 : decode yB 34 = .ok (.iload_n 2, 1) := by decide +kernel
theorem d35 : decode yB 35 = .ok (.iload_n 3, 1) := by decide +kernel
theorem d36 : decode yB 36 = .ok (.invokestatic 177, 3) := by decide +kernel
theorem d39 : decode yB 39 = .ok (.astore 5, 2) := by decide +kernel
theorem d41 : decode yB 41 = .ok (.aload_n 0, 1) := by decide +kernel
theorem d42 : decode yB 42 = .ok (.aload 5, 2) := by decide +kernel
theorem d44 : decode yB 44 = .ok (.iload_n 3, 1) := by decide +kernel
theorem d45 : decode yB 45 = .ok (.invokestatic 47, 3) := by decide +kernel
theorem d48 : decode yB 48 = .ok (.putfield 15, 3) := by decide +kernel
theorem d51 : decode yB 51 = .ok (.aload_n 0, 1) := by decide +kernel
theorem d52 : decode yB 52 = .ok (.aload 5, 2) := by decide +kernel
theorem d54 : decode yB 54 = .ok (.putfield 9, 3) := by decide +kernel
theorem d57 : decode yB 57 = .ok (.return_, 1) := by decide +kernel
def site : List Cond := [.fieldLink "java/lang/String" 38 "java/lang/String" "COMPACT_STRINGS" "Z", Cmp3.tab, CodL.tab, .laysFinal "java/lang/String" "java/lang/String" "value" "[B", .fieldLink "java/lang/String" 9 "java/lang/String" "value" "[B", .laysFinal "java/lang/String" "java/lang/String" "coder" "B", .fieldLink "java/lang/String" 15 "java/lang/String" "coder" "B"] ++ objW "java/lang/String" 1 ++ staticW "java/lang/String" 177 Cmp3.yN ++ staticW "java/lang/String" 47 CodL.yN
def tab : Cond := tabOf yN yB 6 none site
def P (a : Addr) (D : Cell) (fV fC : Field) (b : Addr) (A : Cell) (z : Int32) (o len : Nat) (args : Array Value) (s : State) : Prop := args = #[.ref a, .ref b, .int (Int32.ofNat o), .int (Int32.ofNat len), .null] ∧ Blank "java/lang/String" a D s ∧ Found "java/lang/String" "value" "[B" fV s ∧ Found "java/lang/String" "coder" "B" fC s ∧ Ch b A s ∧ StaticIs s "java/lang/String" "COMPACT_STRINGS" "Z" (.int z) ∧ ¬ z = 0 ∧ 0 < len ∧ o + len ≤ A.slots.size ∧ len ≤ 536870912 ∧ ∀ i, i < len → ¬ 255 < cv A (o + i)
def E (a : Addr) (D : Cell) (fV fC : Field) (A : Cell) (o len : Nat) (r : Option Value) (s u : State) : Prop := Got a D fV fC A o len r s u
/-- len > 0, no char of the range above 255: a Latin-1 String of their low bytes -/
theorem law (l : Launch) (a : Addr) (D : Cell) (fV fC : Field) (b : Addr) (A : Cell) (z : Int32) (o len : Nat) : Law l yN 5 4 2 35 yB 6 none site (P a D fV fC b A z o len) (E a D fV fC A o len) [⟨a, fC.slot⟩, ⟨a, fV.slot⟩] 1 len := by
  refine Law.of_walk (plainFor_of_name (by decide +kernel)) (by decide +kernel) (by decide +kernel) (by decide) (fun _ _ h => by rw [h.1]; rfl) (fun _ U U' hal hh h => ⟨h.1, h.2.1.mv hal hh, h.2.2.1.al hal, h.2.2.2.1.al hal, h.2.2.2.2.1.mv hal hh, h.2.2.2.2.2.1.there hal hh, h.2.2.2.2.2.2⟩) (fun r U U' V V' h1 hal h2 h => Got.mv r U U' V V' h1 hal h2 h) ?_
  intro p e s m args below meth c s₁ X0 hexec hbytes hml hret hlk hnm hown hh0 W hP
  obtain ⟨rfl, hB, f1, f2, hA, s1, hz, l0, l1, l2, hp⟩ := hP
  have a31 := hA.1.2.2.2
  have c1 : Steps p.tables e below (s₁.setTop (entryFrame m #[.ref a, .ref b, .int (Int32.ofNat o), .int (Int32.ofNat len), .null] 6)) (s₁.setTop (mkF m 0 #[.val (.ref a), .val (.ref b), .val (.int (Int32.ofNat o)), .val (.int (Int32.ofNat len)), .val .null, .unset] [])) := entry rfl
  have c2 : Steps p.tables e below (s₁.setTop (entryFrame m #[.ref a, .ref b, .int (Int32.ofNat o), .int (Int32.ofNat len), .null] 6)) (s₁.setTop (mkF m 1 #[.val (.ref a), .val (.ref b), .val (.int (Int32.ofNat o)), .val (.int (Int32.ofNat len)), .val .null, .unset] [.ref a])) := c1.trans (by
    refine XS.aloadN X0.here hexec rfl (hb hbytes d0) rfl rfl ?_
    exact Steps.refl _)
  obtain ⟨T3, X3, q3, st3⟩ := X0.oinit hexec hown (wks W (objW "java/lang/String" 1)) (g := (mkF m 1 #[.val (.ref a), .val (.ref b), .val (.int (Int32.ofNat o)), .val (.int (Int32.ofNat len)), .val .null, .unset] [.ref a])) rfl (by rw [hml]; rfl) (rest := []) rfl (hb hbytes d1) (W := 0) (by show 2 * 0 + 0 ≤ _; decide) (Nat.le_of_ble_eq_true rfl) (Nat.le_of_ble_eq_true rfl)
  have hh3 := q3.trans hh0
  have c4 : Steps p.tables e below (s₁.setTop (entryFrame m #[.ref a, .ref b, .int (Int32.ofNat o), .int (Int32.ofNat len), .null] 6)) (T3.setTop (mkF m 27 #[.val (.ref a), .val (.ref b), .val (.int (Int32.ofNat o)), .val (.int (Int32.ofNat len)), .val .null, .unset] [])) := (c2.trans (st3 _ (Steps.refl _))).trans (by
    refine XS.iloadN X3.here hexec rfl (hb hbytes d4) rfl ?_
    refine XS.ifYes X3.here hexec rfl (pc0 := 5) rfl (hb hbytes d5) rfl (i0_ne_t (nz32 (by omega) l0)) (by decide) rfl ?_
    exact Steps.refl _)
  obtain ⟨T5, X5, q5, st5⟩ := X3.sget hexec hown (wk W (.fieldLink "java/lang/String" 38 "java/lang/String" "COMPACT_STRINGS" "Z")) s1 (fun _ _ h => by rw [hh3]; exact h) (g := (mkF m 27 #[.val (.ref a), .val (.ref b), .val (.int (Int32.ofNat o)), .val (.int (Int32.ofNat len)), .val .null, .unset] [])) rfl (hb hbytes d27)
  have hh5 := q5.trans hh3
  have c6 : Steps p.tables e below (s₁.setTop (entryFrame m #[.ref a, .ref b, .int (Int32.ofNat o), .int (Int32.ofNat len), .null] 6)) (T5.setTop (mkF m 30 #[.val (.ref a), .val (.ref b), .val (.int (Int32.ofNat o)), .val (.int (Int32.ofNat len)), .val .null, .unset] [.int z])) := c4.trans (st5 _ (Steps.refl _))
  have c7 : Steps p.tables e below (s₁.setTop (entryFrame m #[.ref a, .ref b, .int (Int32.ofNat o), .int (Int32.ofNat len), .null] 6)) (T5.setTop (mkF m 36 #[.val (.ref a), .val (.ref b), .val (.int (Int32.ofNat o)), .val (.int (Int32.ofNat len)), .val .null, .unset] [.int (Int32.ofNat len), .int (Int32.ofNat o), .ref b])) := c6.trans (by
    refine XS.ifNo X5.here hexec rfl (hb hbytes d30) rfl (i0_eq_f hz) ?_
    refine XS.aloadN X5.here hexec rfl (hb hbytes d33) rfl rfl ?_
    refine XS.iloadN X5.here hexec rfl (hb hbytes d34) rfl ?_
    refine XS.iloadN X5.here hexec rfl (hb hbytes d35) rfl ?_
    exact Steps.refl _)
  obtain ⟨v8, T8, X8, E8, g8⟩ := X5.callS hexec (Cmp3.law l b A o len) hown (wks W (staticW "java/lang/String" 177 Cmp3.yN)) (wk W Cmp3.tab) (W := 0) (Nat.le_of_ble_eq_true rfl) (Nat.le_of_ble_eq_true rfl) (Nat.le_refl _) (by show 0 + len ≤ len; omega) (g := (mkF m 36 #[.val (.ref a), .val (.ref b), .val (.int (Int32.ofNat o)), .val (.int (Int32.ofNat len)), .val .null, .unset] [.int (Int32.ofNat len), .int (Int32.ofNat o), .ref b])) rfl (by rw [hml]; rfl) c7 (argsL := [.ref b, .int (Int32.ofNat o), .int (Int32.ofNat len)]) (rest := []) rfl rfl (by show 2 * 0 + 0 ≤ _; decide) (hb hbytes d36) (⟨rfl, hA.mv X5.warmed.alike hh5, l1, l2, hp⟩)
  obtain ⟨e8, z8⟩ := E8
  obtain ⟨rfl, N, n1, n2, n3, n4, n5, n6⟩ := NewArr.mv _ T5 s _ _ hh5.symm (Vm.Alike.refl _) rfl e8
  rw [hh5] at z8
  have hB1 := hB.keep X8.warmed.alike (n6 _ _ hB.1)
  have hne : s.heap.size ≠ a := (Nat.ne_of_lt (Array.getElem?_eq_some_iff.mp hB.1).1).symm
  have c9 : Steps p.tables e below (s₁.setTop (entryFrame m #[.ref a, .ref b, .int (Int32.ofNat o), .int (Int32.ofNat len), .null] 6)) (T8.setTop (mkF m 39 #[.val (.ref a), .val (.ref b), .val (.int (Int32.ofNat o)), .val (.int (Int32.ofNat len)), .val .null, .unset] [.ref s.heap.size])) := g8
  have c10 : Steps p.tables e below (s₁.setTop (entryFrame m #[.ref a, .ref b, .int (Int32.ofNat o), .int (Int32.ofNat len), .null] 6)) (T8.setTop (mkF m 45 #[.val (.ref a), .val (.ref b), .val (.int (Int32.ofNat o)), .val (.int (Int32.ofNat len)), .val .null, .val (.ref s.heap.size)] [.int (Int32.ofNat N.slots.size), .ref s.heap.size, .ref a])) := by
    have hc : Steps p.tables e below (s₁.setTop (entryFrame m #[.ref a, .ref b, .int (Int32.ofNat o), .int (Int32.ofNat len), .null] 6)) (T8.setTop (mkF m 45 #[.val (.ref a), .val (.ref b), .val (.int (Int32.ofNat o)), .val (.int (Int32.ofNat len)), .val .null, .val (.ref s.heap.size)] [.int (Int32.ofNat len), .ref s.heap.size, .ref a])) := c9.trans (by
      refine XS.astore X8.here hexec rfl (hb hbytes d39) rfl rfl rfl ?_
      refine XS.aloadN X8.here hexec rfl (hb hbytes d41) rfl rfl ?_
      refine XS.aload X8.here hexec rfl (hb hbytes d42) rfl rfl ?_
      refine XS.iloadN X8.here hexec rfl (hb hbytes d44) rfl ?_
      exact Steps.refl _)
    rw [n4]; exact hc
  obtain ⟨v11, T11, X11, E11, g11⟩ := X8.callS hexec (CodL.law l s.heap.size N) hown (wks W (staticW "java/lang/String" 47 CodL.yN)) (wk W CodL.tab) (W := 1) (Nat.le_of_ble_eq_true rfl) (Nat.le_of_ble_eq_true rfl) (Nat.le_refl _) (by show 0 + len + 0 ≤ len; omega) (g := (mkF m 45 #[.val (.ref a), .val (.ref b), .val (.int (Int32.ofNat o)), .val (.int (Int32.ofNat len)), .val .null, .val (.ref s.heap.size)] [.int (Int32.ofNat N.slots.size), .ref s.heap.size, .ref a])) rfl (by rw [hml]; rfl) c10 (argsL := [.ref s.heap.size, .int (Int32.ofNat N.slots.size)]) (rest := [.ref a]) rfl rfl (by show 2 * 0 + (1 + 0) ≤ _; decide) (hb hbytes d45) (⟨rfl, n1⟩)
  obtain ⟨rfl, q11⟩ := E11
  have hB11 := hB1.mv (X8.warmed.alike.symm.trans X11.warmed.alike) q11
  have c12 : Steps p.tables e below (s₁.setTop (entryFrame m #[.ref a, .ref b, .int (Int32.ofNat o), .int (Int32.ofNat len), .null] 6)) (T11.setTop (mkF m 48 #[.val (.ref a), .val (.ref b), .val (.int (Int32.ofNat o)), .val (.int (Int32.ofNat len)), .val .null, .val (.ref s.heap.size)] [.int 0, .ref a])) := g11
  obtain ⟨T13, X13, p13, bl13, sl13, st13⟩ := X11.finit hexec hown (wk W (.fieldLink "java/lang/String" 15 "java/lang/String" "coder" "B")) (Or.inr ⟨_, (wk W (.laysFinal "java/lang/String" "java/lang/String" "coder" "B"))⟩) (Or.inl ⟨rfl, hnm⟩) f2 (Or.inl rfl) hB11 (t := .byte) (by decide +kernel) rfl (g := (mkF m 48 #[.val (.ref a), .val (.ref b), .val (.int (Int32.ofNat o)), .val (.int (Int32.ofNat len)), .val .null, .val (.ref s.heap.size)] [.int 0, .ref a])) rfl (rest := []) rfl (hb hbytes d48)
  have c14 : Steps p.tables e below (s₁.setTop (entryFrame m #[.ref a, .ref b, .int (Int32.ofNat o), .int (Int32.ofNat len), .null] 6)) (T13.setTop (mkF m 54 #[.val (.ref a), .val (.ref b), .val (.int (Int32.ofNat o)), .val (.int (Int32.ofNat len)), .val .null, .val (.ref s.heap.size)] [.ref s.heap.size, .ref a])) := (c12.trans (st13 _ (Steps.refl _))).trans (by
    refine XS.aloadN X13.here hexec rfl (hb hbytes d51) rfl rfl ?_
    refine XS.aload X13.here hexec rfl (hb hbytes d52) rfl rfl ?_
    exact Steps.refl _)
  obtain ⟨T15, X15, p15, bl15, sl15, st15⟩ := X13.finit hexec hown (wk W (.fieldLink "java/lang/String" 9 "java/lang/String" "value" "[B")) (Or.inr ⟨_, (wk W (.laysFinal "java/lang/String" "java/lang/String" "value" "[B"))⟩) (Or.inl ⟨rfl, hnm⟩) f1 (Or.inl rfl) bl13 (t := (.array .byte)) (by decide +kernel) rfl (g := (mkF m 54 #[.val (.ref a), .val (.ref b), .val (.int (Int32.ofNat o)), .val (.int (Int32.ofNat len)), .val .null, .val (.ref s.heap.size)] [.ref s.heap.size, .ref a])) rfl (rest := []) rfl (hb hbytes d54)
  have c16 : Steps p.tables e below (s₁.setTop (entryFrame m #[.ref a, .ref b, .int (Int32.ofNat o), .int (Int32.ofNat len), .null] 6)) (T15.setTop (mkF m 57 #[.val (.ref a), .val (.ref b), .val (.int (Int32.ofNat o)), .val (.int (Int32.ofNat len)), .val .null, .val (.ref s.heap.size)] [])) := c14.trans (st15 _ (Steps.refl _))
  have ap := apart (Or.inr ⟨_, (wk W (.laysFinal "java/lang/String" "java/lang/String" "value" "[B"))⟩) (Or.inr ⟨_, (wk W (.laysFinal "java/lang/String" "java/lang/String" "coder" "B"))⟩) f1 f2 (t₁ := .array .byte) (t₂ := .byte) (by decide +kernel) (by decide +kernel) (by decide)
  have al := X8.warmed.alike.symm.trans X15.warmed.alike
  have n7 : T11.heap[s.heap.size]? = some N := by rw [q11]; exact n1.1
  exact ⟨T15, none, _, _, _, X15, by simp, rfl, by omega, (fun _ => rfl), ⟨rfl, _, N, bl15, ((Same.refl D _).set _ (by simp)).set _ (by simp), sl15, (Cell.slots_setSlot_ne _ ap).trans sl13, n1.keep al (p15.other hne (p13.other hne n7)), n2, by rw [al.findClass]; exact n3, n4, n5, fun y c h1 h2 => p15.other h1 (p13.other h1 (by rw [q11]; exact n6 y c h2)), by rw [p15.2.2, p13.2.2, q11]; exact z8⟩, fun fs hl => c16.trans (X15.returnOut hexec hret (hb hbytes d57) hl)⟩
end New4
namespace New1
def yN : MethodName := ⟨"java/lang/String", "<init>", "([C)V"⟩
abbrev yB : ByteArray := jdk_42_method_3_code
theorem d0 : decode yB 0 = .ok (.aload_n 0, 1) := by decide +kernel
theorem d1 : decode yB 1 = .ok (.aload_n 1, 1) := by decide +kernel
theorem d2 : decode yB 2 = .ok (.iconst 0, 1) := by decide +kernel
theorem d3 : decode yB 3 = .ok (.aload_n 1, 1) := by decide +kernel
theorem d4 : decode yB 4 = .ok (.arraylength, 1) := by decide +kernel
theorem d5 : decode yB 5 = .ok (.aconst_null, 1) := by decide +kernel
theorem d6 : decode yB 6 = .ok (.invokespecial 27, 3) := by decide +kernel
theorem d9 : decode yB 9 = .ok (.return_, 1) := by decide +kernel
def site : List Cond := [New4.tab] ++ initW "java/lang/String" 27 New4.yN
def tab : Cond := tabOf yN yB 2 none site
def P (a : Addr) (D : Cell) (fV fC : Field) (b : Addr) (A : Cell) (z : Int32) (args : Array Value) (s : State) : Prop := args = #[.ref a, .ref b] ∧ Blank "java/lang/String" a D s ∧ Found "java/lang/String" "value" "[B" fV s ∧ Found "java/lang/String" "coder" "B" fC s ∧ Ch b A s ∧ StaticIs s "java/lang/String" "COMPACT_STRINGS" "Z" (.int z) ∧ ¬ z = 0 ∧ 0 < A.slots.size ∧ A.slots.size ≤ 536870912 ∧ ∀ i, i < A.slots.size → ¬ 255 < cv A i
def E (a : Addr) (D : Cell) (fV fC : Field) (A : Cell) (r : Option Value) (s u : State) : Prop := Got a D fV fC A 0 A.slots.size r s u
/-- new String(chars), not empty, no char above 255: a Latin-1 String of their low bytes -/
theorem law (l : Launch) (a : Addr) (D : Cell) (fV fC : Field) (b : Addr) (A : Cell) (z : Int32) : Law l yN 2 1 3 52 yB 2 none site (P a D fV fC b A z) (E a D fV fC A) [⟨a, fC.slot⟩, ⟨a, fV.slot⟩] 1 A.slots.size := by
  refine Law.of_walk (plainFor_of_name (by decide +kernel)) (by decide +kernel) (by decide +kernel) (by decide) (fun _ _ h => by rw [h.1]; rfl) (fun _ U U' hal hh h => ⟨h.1, h.2.1.mv hal hh, h.2.2.1.al hal, h.2.2.2.1.al hal, h.2.2.2.2.1.mv hal hh, h.2.2.2.2.2.1.there hal hh, h.2.2.2.2.2.2⟩) (fun r U U' V V' h1 hal h2 h => Got.mv r U U' V V' h1 hal h2 h) ?_
  intro p e s m args below meth c s₁ X0 hexec hbytes hml hret hlk hnm hown hh0 W hP
  obtain ⟨rfl, hB, f1, f2, hA, s1, hz, l0, l2, hp⟩ := hP
  have c1 : Steps p.tables e below (s₁.setTop (entryFrame m #[.ref a, .ref b] 2)) (s₁.setTop (mkF m 0 #[.val (.ref a), .val (.ref b)] [])) := entry rfl
  have c2 : Steps p.tables e below (s₁.setTop (entryFrame m #[.ref a, .ref b] 2)) (s₁.setTop (mkF m 6 #[.val (.ref a), .val (.ref b)] [.null, .int (Int32.ofNat A.slots.size), .int 0, .ref b, .ref a])) := c1.trans (by
    refine XS.aloadN X0.here hexec rfl (hb hbytes d0) rfl rfl ?_
    refine XS.aloadN X0.here hexec rfl (hb hbytes d1) rfl rfl ?_
    refine iconstV X0.here hexec rfl 0 (hb hbytes d2) (by decide) ?_
    refine XS.aloadN X0.here hexec rfl (hb hbytes d3) rfl rfl ?_
    refine X0.alen hexec (hA.1.mv X0.warmed.alike hh0) rfl rfl (hb hbytes d4) ?_
    refine XS.aconstNull X0.here hexec rfl (hb hbytes d5) ?_
    exact Steps.refl _)
  obtain ⟨v3, T3, X3, E3, g3⟩ := X0.callN hexec (New4.law l a D fV fC b A z 0 A.slots.size) rfl hown (wks W (initW "java/lang/String" 27 New4.yN)) (W New4.tab (by simp only [site, List.mem_cons, List.mem_append, true_or, or_true])) (W := 0) (Nat.le_of_ble_eq_true rfl) (Nat.le_of_ble_eq_true rfl) (Nat.le_refl _) (by show 0 + A.slots.size ≤ A.slots.size; omega) (g := (mkF m 6 #[.val (.ref a), .val (.ref b)] [.null, .int (Int32.ofNat A.slots.size), .int (Int32.ofNat 0), .ref b, .ref a])) rfl (by rw [hml]; rfl) c2 (argsL := [.ref b, .int (Int32.ofNat 0), .int (Int32.ofNat A.slots.size), .null]) (rest := []) rfl rfl (by show 2 * 0 + 0 ≤ _; decide) (hb hbytes d6) (⟨rfl, hB.mv X0.warmed.alike hh0, f1.al X0.warmed.alike, f2.al X0.warmed.alike, hA.mv X0.warmed.alike hh0, s1.there X0.warmed.alike hh0, hz, l0, by omega, l2, fun i hi => by rw [Nat.zero_add]; exact hp i hi⟩)
  have e0 := Got.mv _ s₁ s _ _ hh0.symm (Vm.Alike.refl _) rfl E3
  obtain rfl := e0.1
  have c4 : Steps p.tables e below (s₁.setTop (entryFrame m #[.ref a, .ref b] 2)) (T3.setTop (mkF m 9 #[.val (.ref a), .val (.ref b)] [])) := g3
  exact ⟨T3, none, _, _, _, X3, by simp, rfl, by omega, (fun _ => rfl), e0, fun fs hl => c4.trans (X3.returnOut hexec hret (hb hbytes d9) hl)⟩
theorem pays {l : Launch} {R : Room} {p : Program} {e : Env} {below : List Frame} {s : State} {sargs : Array Value} {len W : Nat} (a : Addr) (D : Cell) (fV fC : Field) (b : Addr) (A : Cell) (z : Int32) (htab : tab.before sargs s = true) (hfr : 4 ≤ R.frames) (hlo : W + 65 ≤ R.locals) :
    Back l R p e below s sargs yN len W (fun A₁ a₁ => A₁.cells + 1 ≤ R.cells ∧ A₁.slots + A.slots.size ≤ R.slots ∧ P a D fV fC b A z a₁ A₁.U) (fun A₁ _ v₁ B₁ => E a D fV fC A v₁ A₁.U B₁.U ∧ B₁.locs = A₁.locs ++ [⟨a, fC.slot⟩, ⟨a, fV.slot⟩] ∧ B₁.cells = A₁.cells + 1 ∧ B₁.slots = A₁.slots + A.slots.size) :=
  (law l a D fV fC b A z).pays htab hfr (by omega)
end New1
end StrChars
namespace StrChars.Road
open Jvm Sem ClassFile Op Lib Jvm.Stand Jvm.Free Jvm.Free.XT
open Jvm.Lib.Cold (StaticIs)
abbrev ST : String := "java/lang/String"
/-- every table word that New1's law asks, flat -/
abbrev words : List Jvm.Cond := [.code New1.yN New1.yB 2 none, .initialized ST, .methodLink ST 27 New4.yN, .instanceMethod New4.yN,
  .code New4.yN New4.yB 6 none, .fieldLink ST 38 ST "COMPACT_STRINGS" "Z", .laysFinal ST ST "value" "[B", .fieldLink ST 9 ST "value" "[B", .laysFinal ST ST "coder" "B", .fieldLink ST 15 ST "coder" "B",
  .methodLink ST 1 Lib.objectInit, .instanceMethod Lib.objectInit, .code Lib.objectInit ⟨#[0xb1]⟩ 1 none, .methodLink ST 177 Cmp3.yN, .static Cmp3.yN, .methodLink ST 47 CodL.yN, .static CodL.yN,
  .code Cmp3.yN Cmp3.yB 6 (some (.array .byte)), .initialized U16, .arrayClass .byte, .methodLink U16 115 Cmp5.yN, .static Cmp5.yN, .code Cmp5.yN Cmp5.yB 7 (some .int), .code CodL.yN CodL.yB 2 (some .byte)]
theorem tab_of {a : Array Value} {s : State} (h : ∀ w ∈ words, w.before a s = true) : New1.tab.before a s = true := by
  have h5 : Cmp5.tab.before a s = true := unparts (wk h (.code Cmp5.yN Cmp5.yB 7 (some .int))) (wks h (.initialized Cmp5.yN.cls :: Cmp5.site))
  have hc : CodL.tab.before a s = true := unparts (wk h (.code CodL.yN CodL.yB 2 (some .byte))) (wks h (.initialized CodL.yN.cls :: CodL.site))
  have q5 : ∀ w ∈ Cmp5.tab :: words, w.before a s = true := fun w hw => (List.mem_cons.mp hw).elim (fun e => e ▸ h5) (h w)
  have h3 : Cmp3.tab.before a s = true := unparts (wk q5 (.code Cmp3.yN Cmp3.yB 6 (some (.array .byte)))) (wks q5 (.initialized Cmp3.yN.cls :: Cmp3.site))
  have q3 : ∀ w ∈ Cmp3.tab :: CodL.tab :: words, w.before a s = true := fun w hw => (List.mem_cons.mp hw).elim (fun e => e ▸ h3) fun hw => (List.mem_cons.mp hw).elim (fun e => e ▸ hc) (h w)
  have h4 : New4.tab.before a s = true := unparts (wk q3 (.code New4.yN New4.yB 6 none)) (wks q3 (.initialized New4.yN.cls :: New4.site))
  have q4 : ∀ w ∈ New4.tab :: words, w.before a s = true := fun w hw => (List.mem_cons.mp hw).elim (fun e => e ▸ h4) (h w)
  exact unparts (wk q4 (.code New1.yN New1.yB 2 none)) (wks q4 (.initialized New1.yN.cls :: New1.site))
/-- the words ride from the start Z to the walk's own state -/
theorem moved {Z s : State} {a0 args : Array Value} (hZ : Z.Warmed39 s.vm) (hw : ∀ d ∈ words, d.before a0 Z = true) : ∀ d ∈ words, d.before args s = true := fun d hd => by
  have q := hw d hd
  have t : ∀ d ∈ words, d = .arrayClass .byte ∨ (d.onTables && d.keepsFace) = true := by decide +kernel
  rcases t d hd with rfl | t
  · exact RoadKit.mvA hZ q
  · exact RoadKit.mv hZ q t
/-- WHAT COMES BACK, over the tables of the start Z: h the heap at the call, h' behind it -/
def Q (Z : State) (x : Addr) (A : Cell) (h : Heap) (v : Option Value) (h' : Heap) (L : List Loc) : Prop := v = none ∧ (∀ y ∈ L, y.base = x) ∧ RoadKit.Keep h h' [x] ∧ h'.size = h.size + 1 ∧ RoadKit.Exa Z h' x ST ∧ RoadKit.Fld Z h' x ST "value" "[B" (.ref h.size) ∧ RoadKit.Fld Z h' x ST "coder" "B" (.int 0) ∧
  (∃ V : Cell, RoadKit.Arr Z h' h.size V .byte ∧ V.vm = .none ∧ Z.vm.findClass "[B" = some V.cls ∧ V.slots.size = A.slots.size ∧ ∀ j, j < A.slots.size → V.slots[j]? = some (.int (lo8 (cv A j)))) ∧
  ∀ (O n d : String) (w : Value), RoadKit.Fld Z h x O n d w → RoadKit.slotOf Z O n d ≠ RoadKit.slotOf Z ST "value" "[B" → RoadKit.slotOf Z O n d ≠ RoadKit.slotOf Z ST "coder" "B" → RoadKit.Fld Z h' x O n d w
/-- **new String(chars) AT A CALL, IN THE ROAD'S FORM**: for specialBack behind newO: x the fresh String, b the char[] with the cell A -/
theorem back {p : Program} {l : Launch} {e : Env} {R : Room} {s : State} {args : Array Value} {below : List Frame} {len W : Nat} {Z : State} {a0 : Array Value} {h : Heap} (hZ : Z.Warmed39 s.vm) (hw : ∀ d ∈ words, d.before a0 Z = true) {kI : Nat} (wi : (Jvm.Cond.instantiable ST kI).before a0 Z = true)
    {x b : Addr} {A : Cell} {z : Int32} {v0 c0 : Value} (E : RoadKit.Exa Z h x ST) (V : RoadKit.Fld Z h x ST "value" "[B" v0) (C : RoadKit.Fld Z h x ST "coder" "B" c0) (K : RoadKit.Arr Z h b A .char) (hty : Typed .char A) (S : RoadKit.Sta Z h ST "COMPACT_STRINGS" "Z" (.int z)) (hz : ¬ z = 0)
    (l0 : 0 < A.slots.size) (l2 : A.slots.size ≤ 536870912) (hp : ∀ i, i < A.slots.size → ¬ 255 < cv A i) (hfr : 4 ≤ R.frames) (hlo : W + 65 ≤ R.locals) :
    Back l R p e below s args New1.yN len W (fun P a => a = #[.ref x, .ref b] ∧ P.U.heap = h ∧ P.cells + 1 ≤ R.cells ∧ P.slots + A.slots.size ≤ R.slots)
      (fun P _ v B => ∃ L, Q Z x A h v B.U.heap L ∧ B.locs = P.locs ++ L ∧ B.cells = P.cells + 1 ∧ B.slots = P.slots + A.slots.size) := by
  intro m meth c P g ig mk a X hg hsize hdg hW hn hp'
  obtain ⟨rfl, rfl, r1, r2⟩ := hp'
  have al : Z.vm.Alike P.U.vm := hZ.alike.trans X.warmed.alike
  obtain ⟨D, cfV, kV, iV, fV, hD, gV, stV, knV, obV, asV, slV⟩ := id V
  obtain ⟨D', cfC, kC, iC, fC, hD', gC, stC, -, -, asC, slC⟩ := id C
  cases hD.symm.trans hD'
  obtain ⟨D2, kD, e1, e2, e3, e4, e5⟩ := id E
  cases hD.symm.trans e1
  obtain ⟨c2, k2, i1, i2, i3, -⟩ := Cond.instantiable_spec wi
  cases e2.symm.trans i1
  cases e3.symm.trans i2
  obtain ⟨kU, u1, u2⟩ := al.2.2 _ _ e3
  have hB : Blank ST x D P.U := ⟨hD, ⟨knV, fun q hq => by rw [hq] at obV; cases obV⟩, by rw [al.findClass]; exact e2, kU, u1, by rw [u2]; exact i3, by rw [u2]; exact e5 i3⟩
  have F1 : Found ST "value" "[B" fV P.U := ⟨SBG.found_only al ⟨cfV, kV, iV, gV⟩, stV⟩
  have F2 : Found ST "coder" "B" fC P.U := ⟨SBG.found_only al ⟨cfC, kC, iC, gC⟩, stC⟩
  have hA : Ch b A P.U := ⟨⟨K.1, State.isArrayOf_alike al K.2.1, K.2.2, by omega⟩, hty⟩
  have hS : StaticIs P.U ST "COMPACT_STRINGS" "Z" (.int z) := by
    obtain ⟨cfS, iS, kS, fS, st, cS, t1, t2, t3, t4, t5, t6, t7⟩ := S
    exact StaticIs.there (s := { Z with heap := P.U.heap }) ⟨cfS, iS, kS, fS, st, cS, t1, t2, t3, t4, t5, (fun q => by rw [q] at t6; cases t6), t7⟩ al rfl
  obtain ⟨v, B, X', ⟨⟨hv, E', V', q1, q2, q3, q4, q5, q6, q7, q8, q9, q10, q11⟩, hl, hc, hs⟩, st⟩ := New1.pays x D fV fC b A z (tab_of (moved hZ hw)) hfr hlo m meth c P g ig mk _ X hg hsize hdg hW hn ⟨r1, r2, rfl, hB, F1, F2, hA, hS, hz, l0, l2, hp⟩
  have al' : Z.vm.Alike B.U.vm := hZ.alike.trans X'.warmed.alike
  have hsz : E'.slots.size = D.slots.size := by
    obtain ⟨-, -, -, kB, w1, w2, w3⟩ := q1
    obtain ⟨kB', y1, y2⟩ := al'.2.2 _ _ e3
    rw [q2.2.1] at w1
    cases w1.symm.trans y1
    rw [w3, e5 i3, y2]
  refine ⟨v, B, X', ⟨_, ⟨hv, ?_, ⟨by omega, fun y cy hy hn' => q10 y cy (by simpa using hn') hy, fun y cy hy => ?_⟩, q11, ⟨E', _, q1.1, by rw [q2.2.1]; exact e2, by rw [q2.2.1]; exact e3, by rw [q2.1]; exact obV, fun _ => by rw [hsz]; exact e5 i3⟩,
    ⟨E', cfV, kV, iV, fV, q1.1, gV, stV, by rw [q2.1]; exact knV, by rw [q2.1]; exact obV, by rw [q2.2.1]; exact asV, q3⟩, ⟨E', cfC, kC, iC, fC, q1.1, gC, stC, by rw [q2.1]; exact knV, by rw [q2.1]; exact obV, by rw [q2.2.1]; exact asC, q4⟩,
    ⟨V', ⟨q5.1, State.isArrayOf_alike al'.symm q5.2.1, q5.2.2.1⟩, q6, by rw [← al'.findClass]; exact q7, q8, fun j hj => by have := q9 j hj; rwa [Nat.zero_add] at this⟩, fun O n d w F n1 n2 => ?_⟩, hl, hc, hs⟩, st⟩
  · intro y hy
    simp only [List.mem_cons, List.not_mem_nil, or_false] at hy
    rcases hy with rfl | rfl <;> rfl
  · by_cases q : y = x
    · subst q
      cases hD.symm.trans hy
      exact ⟨E', q1.1, q2.2.1, q2.1, hsz⟩
    · exact ⟨cy, q10 y cy q hy, rfl, rfl, rfl⟩
  · obtain ⟨D3, cf, k, i, f, g1, g2, g3, g4, g5, g6, g7⟩ := F
    cases hD.symm.trans g1
    simp only [RoadKit.slotOf, g2, gV, gC, Option.map_some, Option.getD_some] at n1 n2
    exact ⟨E', cf, k, i, f, q1.1, g2, g3, by rw [q2.1]; exact g4, by rw [q2.1]; exact g5, by rw [q2.2.1]; exact g6, by rw [q2.2.2 f.slot (by simp [n1, n2])]; exact g7⟩
end StrChars.Road
namespace StrChars.Road
open Jvm Sem ClassFile Op Lib Jvm.Stand Jvm.Free Jvm.Free.XT
/-- WHAT COMES BACK, the byte[] as a list of values -/
def QA (Z : State) (x : Addr) (zn : Int32) (cs : List Int32) (h : Heap) (v : Option Value) (h' : Heap) (L : List Loc) : Prop := v = none ∧ (∀ y ∈ L, y.base = x) ∧ RoadKit.Keep h h' [x] ∧ h'.size = h.size + 1 ∧ RoadKit.Exa Z h' x ST ∧ RoadKit.Fld Z h' x ST "value" "[B" (.ref h.size) ∧ RoadKit.Fld Z h' x ST "coder" "B" (.int 0) ∧
  (∃ kb, Z.vm.findClass "[B" = some kb ∧ RoadKit.Arv Z h' h.size kb .byte zn (cs.map fun c => .int (lo8 c)) (.int 0)) ∧
  ∀ (O n d : String) (w : Value), RoadKit.Fld Z h x O n d w → RoadKit.slotOf Z O n d ≠ RoadKit.slotOf Z ST "value" "[B" → RoadKit.slotOf Z O n d ≠ RoadKit.slotOf Z ST "coder" "B" → RoadKit.Fld Z h' x O n d w
/-- **new String(chars) AT A CALL, THE ARRAYS AS LISTS**: the char[] at b holds cs, not empty, no char above 255 -/
theorem backArv {p : Program} {l : Launch} {e : Env} {R : Room} {s : State} {args : Array Value} {below : List Frame} {len W : Nat} {Z : State} {a0 : Array Value} {h : Heap} (hZ : Z.Warmed39 s.vm) (hw : ∀ d ∈ words, d.before a0 Z = true) {kI : Nat} (wi : (Jvm.Cond.instantiable ST kI).before a0 Z = true)
    {x b : Addr} {k : ClassId} {zn z : Int32} {cs : List Int32} {dv v0 c0 : Value} (E : RoadKit.Exa Z h x ST) (V : RoadKit.Fld Z h x ST "value" "[B" v0) (C : RoadKit.Fld Z h x ST "coder" "B" c0) (K : RoadKit.Arv Z h b k .char zn (cs.map Value.int) dv) (S : RoadKit.Sta Z h ST "COMPACT_STRINGS" "Z" (.int z)) (hz : ¬ z = 0)
    (hlen : zn.toNatClampNeg = cs.length) (h0 : 0 < cs.length) (hbig : cs.length ≤ 536870912) (hall : ∀ c ∈ cs, ¬ 255 < c) (hfr : 4 ≤ R.frames) (hlo : W + 65 ≤ R.locals) :
    Back l R p e below s args New1.yN len W (fun P a => a = #[.ref x, .ref b] ∧ P.U.heap = h ∧ P.cells + 1 ≤ R.cells ∧ P.slots + cs.length ≤ R.slots)
      (fun P _ v B => ∃ L, QA Z x zn cs h v B.U.heap L ∧ B.locs = P.locs ++ L ∧ B.cells = P.cells + 1 ∧ B.slots = P.slots + cs.length) := by
  obtain ⟨A, K1, K2, K3, K4, K5, K6⟩ := K
  have e : A.slots.size = cs.length := K3.trans hlen
  have hat : ∀ (i : Nat) (hi : i < cs.length), A.slots[i]? = some (.int cs[i]) := fun i hi => by rw [K5 i (by omega)]; simp [List.getD_eq_getElem?_getD, hi]
  have hcv : ∀ (i : Nat) (hi : i < cs.length), cv A i = cs[i] := fun i hi => by unfold cv; rw [hat i hi]
  have hty : Typed .char A := fun i v hv => by
    have hi : i < A.slots.size := (Array.getElem?_eq_some_iff.mp hv).1
    have q := K5 i hi
    rw [hv] at q
    rw [Option.some.inj q]
    exact K6 i hi
  refine Back.mono (back hZ hw wi E V C K1 hty S hz (by omega) (by omega) (fun i hi => by rw [hcv i (by omega)]; exact hall _ (List.getElem_mem _)) hfr hlo) (fun P a hp => ⟨hp.1, hp.2.1, hp.2.2.1, by rw [e]; exact hp.2.2.2⟩) (fun P a v B hp hq => ?_)
  obtain ⟨L, ⟨q1, q2, q3, q4, q5, q6, q7, ⟨V', v1, v2, v3, v4, v5⟩, q9⟩, hl, hc, hs⟩ := hq
  refine ⟨L, ⟨q1, q2, q3, q4, q5, q6, q7, ⟨V'.cls, v3, V', v1, rfl, by rw [v4, e, hlen], K4, fun i hi => ?_, fun i hi => ?_⟩, q9⟩, hl, hc, by rw [hs, e]⟩
  · have hi' : i < cs.length := by omega
    rw [v5 i (by omega), hcv i hi']; simp [List.getD_eq_getElem?_getD, hi']
  · have hi' : i < cs.length := by omega
    simp only [List.getD_eq_getElem?_getD, List.getElem?_map, List.getElem?_eq_getElem hi', Option.map_some, Option.getD_some]
    exact fits_lo8 _
end StrChars.Road
namespace StrChars.Road
open Jvm Sem ClassFile Op Lib Jvm.Stand Jvm.Free Jvm.Free.XT
/-- WHAT COMES BACK, in the writer's own shape -/
def QV (Z : State) (x : Addr) (N : Int32) (bs : List Int32) (h : Heap) (n0 : Nat) (v : Option Value) (h' : Heap) (L : List Loc) : Prop := v = none ∧ RoadKit.Fr n0 L ∧ RoadKit.Keep h h' [x] ∧ RoadKit.Exa Z h' x ST ∧ RoadKit.Fld Z h' x ST "coder" "B" (.int 0) ∧
  ∃ (t : Addr) (kb : ClassId), n0 ≤ t ∧ h.size ≤ t ∧ ¬ t = x ∧ RoadKit.Fld Z h' x ST "value" "[B" (.ref t) ∧ RoadKit.Arv Z h' t kb .byte N (bs.map Value.int) (.int 0)
/-- **new String(chars) AT A CALL, FOR THE WRITER**: a char[] of n known ints, each 0 to 255 -/
theorem backV {p : Program} {l : Launch} {e : Env} {R : Room} {s : State} {args : Array Value} {below : List Frame} {len W : Nat} {Z : State} {a0 : Array Value} {h : Heap} (hZ : Z.Warmed39 s.vm) (hw : ∀ d ∈ words, d.before a0 Z = true) {kI : Nat} (wi : (Jvm.Cond.instantiable ST kI).before a0 Z = true)
    {x b : Addr} {kC : ClassId} {cs bs : List Int32} {d v0 c0 : Value} {z N : Int32} {n n0 : Nat} (hx0 : n0 ≤ x) (hh0 : n0 ≤ h.size) (E : RoadKit.Exa Z h x ST) (V : RoadKit.Fld Z h x ST "value" "[B" v0) (C : RoadKit.Fld Z h x ST "coder" "B" c0) (K : RoadKit.Arv Z h b kC .char N (cs.map Value.int) d) (S : RoadKit.Sta Z h ST "COMPACT_STRINGS" "Z" (.int z)) (hz : ¬ z = 0)
    (hn : cs.length = n) (hN : N = Int32.ofNat n) (l0 : 0 < n) (l2 : n ≤ 4000) (hp : ∀ c ∈ cs, ¬ c < 0 ∧ ¬ (255 : Int32) < c) (hb : bs = cs.map (fun c => c.toInt8.toInt32)) (hfr : 4 ≤ R.frames) (hlo : W + 65 ≤ R.locals) :
    Back l R p e below s args (⟨"java/lang/String", "<init>", "([C)V"⟩ : MethodName) len W (fun P a => a = #[.ref x, .ref b] ∧ P.U.heap = h ∧ P.cells + 1 ≤ R.cells ∧ P.slots + n ≤ R.slots)
      (fun P _ v B => ∃ L, QV Z x N bs h n0 v B.U.heap L ∧ B.locs = P.locs ++ L ∧ B.cells = P.cells + 1 ∧ B.slots = P.slots + n) := by
  subst hn hN hb
  refine Back.mono (backArv hZ hw wi E V C K S hz (n32 (by omega)) l0 (by omega) (fun c hc => (hp c hc).2) hfr hlo) (fun P a hp => hp) (fun P a v B hp hq => ?_)
  obtain ⟨L, ⟨q1, q2, q3, q4, q5, q6, q7, ⟨kb, v1, v2⟩, q9⟩, hl, hc, hs⟩ := hq
  exact ⟨L, ⟨q1, fun y hy => by rw [q2 y hy]; exact hx0, q3, q5, q7, h.size, kb, hh0, Nat.le_refl _, Nat.ne_of_gt E.lt, q6, by rw [List.map_map]; exact v2⟩, hl, hc, hs⟩
end StrChars.Road
end Jvm.Pilot.@@N@@
namespace Jvm.Pilot.@@N@@
open Jvm.Ow (Go Wd)
open Jvm Jvm.ClassFile Sem Op Lib Jvm.Free Jvm.Stand Jvm.LawKit Jvm.RoadKit Bundle Jvm.Pilot.@@N@@.Jvm.D
theorem ww {a0 : Array Value} {Z : State} (hw : ∀ d ∈ tables_1, d.before a0 Z = true) (k : Nat) {d : Jvm.Cond} (h : tables_1[k]? = some d) : d.before a0 Z = true := hw d (List.mem_of_getElem? h)
theorem pd0 : parseMethodDescriptor "()V" = some ⟨[], none⟩ := by decide +kernel
theorem pd1 : parseMethodDescriptor "([CIILjava/lang/Void;)V" = some ⟨[(.array .char), .int, .int, (.object "java/lang/Void")], none⟩ := by decide +kernel
theorem pd2 : parseMethodDescriptor "([C)V" = some ⟨[(.array .char)], none⟩ := by decide +kernel
theorem pd3 : parseMethodDescriptor "()B" = some ⟨[], (some .byte)⟩ := by decide +kernel
theorem pd4 : parseMethodDescriptor "(II)I" = some ⟨[.int, .int], (some .int)⟩ := by decide +kernel
theorem pd5 : parseMethodDescriptor "(I)[Ljava/lang/Object;" = some ⟨[.int], (some (.array (.object "java/lang/Object")))⟩ := by decide +kernel
theorem pd6 : parseMethodDescriptor "()[Ljava/lang/Object;" = some ⟨[], (some (.array (.object "java/lang/Object")))⟩ := by decide +kernel
theorem pd7 : parseMethodDescriptor "(Ljava/lang/Object;[Ljava/lang/Object;I)V" = some ⟨[(.object "java/lang/Object"), (.array (.object "java/lang/Object")), .int], none⟩ := by decide +kernel
theorem pd8 : parseMethodDescriptor "(IILjava/util/function/BiFunction;)I" = some ⟨[.int, .int, (.object "java/util/function/BiFunction")], (some .int)⟩ := by decide +kernel
theorem pd9 : parseMethodDescriptor "(I)Ljava/lang/Object;" = some ⟨[.int], (some (.object "java/lang/Object"))⟩ := by decide +kernel
theorem pd10 : parseMethodDescriptor "(Ljava/lang/Object;)Ljava/util/HashMap$Node;" = some ⟨[(.object "java/lang/Object")], (some (.object "java/util/HashMap$Node"))⟩ := by decide +kernel
theorem pd11 : parseMethodDescriptor "(C)Z" = some ⟨[.char], (some .boolean)⟩ := by decide +kernel
theorem pd12 : parseMethodDescriptor "(C)[B" = some ⟨[.char], (some (.array .byte))⟩ := by decide +kernel
theorem pd13 : parseMethodDescriptor "([BB)V" = some ⟨[(.array .byte), .byte], none⟩ := by decide +kernel
theorem pd14 : parseMethodDescriptor "()I" = some ⟨[], (some .int)⟩ := by decide +kernel
theorem pd15 : parseMethodDescriptor "([BI[BII)I" = some ⟨[(.array .byte), .int, (.array .byte), .int, .int], (some .int)⟩ := by decide +kernel
theorem pd16 : parseMethodDescriptor "(Ljava/lang/String;I)Z" = some ⟨[(.object "java/lang/String"), .int], (some .boolean)⟩ := by decide +kernel
theorem pd17 : parseMethodDescriptor "(C)Ljava/lang/String;" = some ⟨[.char], (some (.object "java/lang/String"))⟩ := by decide +kernel
theorem pd18 : parseMethodDescriptor "(Ljava/lang/Object;Ljava/lang/Object;)Ljava/lang/Object;" = some ⟨[(.object "java/lang/Object"), (.object "java/lang/Object")], (some (.object "java/lang/Object"))⟩ := by decide +kernel
theorem pd19 : parseMethodDescriptor "()Ljava/util/List;" = some ⟨[], (some (.object "java/util/List"))⟩ := by decide +kernel
theorem pd20 : parseMethodDescriptor "(Ljava/util/Map;Ljava/util/List;)V" = some ⟨[(.object "java/util/Map"), (.object "java/util/List")], none⟩ := by decide +kernel
theorem pd21 : parseMethodDescriptor "(Ljava/lang/String;)Z" = some ⟨[(.object "java/lang/String")], (some .boolean)⟩ := by decide +kernel
theorem pd22 : parseMethodDescriptor "(Ljava/lang/Object;)Z" = some ⟨[(.object "java/lang/Object")], (some .boolean)⟩ := by decide +kernel
theorem pd23 : parseMethodDescriptor "(I)Ljava/lang/String;" = some ⟨[.int], (some (.object "java/lang/String"))⟩ := by decide +kernel
theorem pd24 : parseMethodDescriptor "(Ljava/util/List;Ljava/util/Set;)Lcom/example/rowgate/rowgate/Options;" = some ⟨[(.object "java/util/List"), (.object "java/util/Set")], (some (.object "com/example/rowgate/rowgate/Options"))⟩ := by decide +kernel
theorem pd25 : parseMethodDescriptor "(Ljava/lang/String;)Ljava/util/List;" = some ⟨[(.object "java/lang/String")], (some (.object "java/util/List"))⟩ := by decide +kernel
theorem pn0 : plainName "java/lang/String" = true := by first | (simp [plainName, overriddenIn]; done) | decide +kernel
theorem pn1 : plainName "java/util/AbstractCollection" = true := by first | (simp [plainName, overriddenIn]; done) | decide +kernel
theorem pn2 : plainName "java/util/AbstractList" = true := by first | (simp [plainName, overriddenIn]; done) | decide +kernel
theorem pn3 : plainName "java/util/ArrayList" = true := by first | (simp [plainName, overriddenIn]; done) | decide +kernel
theorem pn4 : plainName "jdk/internal/util/Preconditions" = true := by first | (simp [plainName, overriddenIn]; done) | decide +kernel
theorem pn5 : plainName "java/util/Objects" = true := by first | (simp [plainName, overriddenIn]; done) | decide +kernel
theorem pn6 : plainName "java/util/AbstractMap" = true := by first | (simp [plainName, overriddenIn]; done) | decide +kernel
theorem pn7 : plainName "java/util/HashMap" = true := by first | (simp [plainName, overriddenIn]; done) | decide +kernel
theorem pn8 : plainName "java/lang/StringLatin1" = true := by first | (simp [plainName, overriddenIn]; done) | decide +kernel
theorem pn9 : plainName "jdk/internal/util/ArraysSupport" = true := by first | (simp [plainName, overriddenIn]; done) | decide +kernel
theorem pn10 : plainName "com/example/rowgate/rowgate/OptionsParsePinLaw" = true := by first | (simp [plainName, overriddenIn]; done) | decide +kernel
theorem pn11 : plainName "com/example/rowgate/rowgate/Options" = true := by first | (simp [plainName, overriddenIn]; done) | decide +kernel
theorem pn12 : plainName "java/util/List" = true := by first | (simp [plainName, overriddenIn]; done) | decide +kernel
theorem pn13 : plainName "java/util/ImmutableCollections$ListN" = true := by first | (simp [plainName, overriddenIn]; done) | decide +kernel
abbrev EL : List (String × Nat) := consts_1
theorem d2_0 : decode jdk_42_method_149_code 0 = .ok (.aload_n 0, 1) := by decide +kernel
theorem d2_1 : decode jdk_42_method_149_code 1 = .ok (.invokespecial 1, 3) := by decide +kernel
theorem d2_4 : decode jdk_42_method_149_code 4 = .ok (.iload_n 3, 1) := by decide +kernel
theorem d2_5 : decode jdk_42_method_149_code 5 = .ok (.ifCond .ne 22, 3) := by decide +kernel
theorem d2_8 : decode jdk_42_method_149_code 8 = .ok (.aload_n 0, 1) := by decide +kernel
theorem d2_9 : decode jdk_42_method_149_code 9 = .ok (.ldc 7, 2) := by decide +kernel
theorem d2_11 : decode jdk_42_method_149_code 11 = .ok (.getfield 9, 3) := by decide +kernel
theorem d2_14 : decode jdk_42_method_149_code 14 = .ok (.putfield 9, 3) := by decide +kernel
theorem d2_17 : decode jdk_42_method_149_code 17 = .ok (.aload_n 0, 1) := by decide +kernel
theorem d2_18 : decode jdk_42_method_149_code 18 = .ok (.ldc 7, 2) := by decide +kernel
theorem d2_20 : decode jdk_42_method_149_code 20 = .ok (.getfield 15, 3) := by decide +kernel
theorem d2_23 : decode jdk_42_method_149_code 23 = .ok (.putfield 15, 3) := by decide +kernel
theorem d2_26 : decode jdk_42_method_149_code 26 = .ok (.return_, 1) := by decide +kernel
theorem d2_27 : decode jdk_42_method_149_code 27 = .ok (.getstatic 38, 3) := by decide +kernel
theorem d2_30 : decode jdk_42_method_149_code 30 = .ok (.ifCond .eq 28, 3) := by decide +kernel
theorem d2_33 : decode jdk_42_method_149_code 33 = .ok (.aload_n 1, 1) := by decide +kernel
theorem d2_34 : decode jdk_42_method_149_code 34 = .ok (.iload_n 2, 1) := by decide +kernel
theorem d2_35 : decode jdk_42_method_149_code 35 = .ok (.iload_n 3, 1) := by decide +kernel
theorem d2_36 : decode jdk_42_method_149_code 36 = .ok (.invokestatic 177, 3) := by decide +kernel
theorem d2_39 : decode jdk_42_method_149_code 39 = .ok (.astore 5, 2) := by decide +kernel
theorem d2_41 : decode jdk_42_method_149_code 41 = .ok (.aload_n 0, 1) := by decide +kernel
theorem d2_42 : decode jdk_42_method_149_code 42 = .ok (.aload 5, 2) := by decide +kernel
theorem d2_44 : decode jdk_42_method_149_code 44 = .ok (.iload_n 3, 1) := by decide +kernel
theorem d2_45 : decode jdk_42_method_149_code 45 = .ok (.invokestatic 47, 3) := by decide +kernel
theorem d2_48 : decode jdk_42_method_149_code 48 = .ok (.putfield 15, 3) := by decide +kernel
theorem d2_51 : decode jdk_42_method_149_code 51 = .ok (.aload_n 0, 1) := by decide +kernel
theorem d2_52 : decode jdk_42_method_149_code 52 = .ok (.aload 5, 2) := by decide +kernel
theorem d2_54 : decode jdk_42_method_149_code 54 = .ok (.putfield 9, 3) := by decide +kernel
theorem d2_57 : decode jdk_42_method_149_code 57 = .ok (.return_, 1) := by decide +kernel
theorem d2_58 : decode jdk_42_method_149_code 58 = .ok (.aload_n 0, 1) := by decide +kernel
theorem d2_59 : decode jdk_42_method_149_code 59 = .ok (.iconst 1, 1) := by decide +kernel
theorem d2_60 : decode jdk_42_method_149_code 60 = .ok (.putfield 15, 3) := by decide +kernel
theorem d2_63 : decode jdk_42_method_149_code 63 = .ok (.aload_n 0, 1) := by decide +kernel
theorem d2_64 : decode jdk_42_method_149_code 64 = .ok (.aload_n 1, 1) := by decide +kernel
theorem d2_65 : decode jdk_42_method_149_code 65 = .ok (.iload_n 2, 1) := by decide +kernel
theorem d2_66 : decode jdk_42_method_149_code 66 = .ok (.iload_n 3, 1) := by decide +kernel
theorem d2_67 : decode jdk_42_method_149_code 67 = .ok (.invokestatic 180, 3) := by decide +kernel
theorem d2_70 : decode jdk_42_method_149_code 70 = .ok (.putfield 9, 3) := by decide +kernel
theorem d2_73 : decode jdk_42_method_149_code 73 = .ok (.return_, 1) := by decide +kernel
set_option maxRecDepth 65536 in
set_option maxHeartbeats 4000000 in
theorem c_new4e (l : Launch) (Z : State) (a0 : Array Value) (hw : ∀ d ∈ tables_1, d.before a0 Z = true) (hEL : EW Z a0 EL) (h0 : Heap) (x b : Addr) (v0 c0 : Value) (E : Exa Z h0 x "java/lang/String") (V : Fld Z h0 x "java/lang/String" "value" "[B" v0) (C0 : Fld Z h0 x "java/lang/String" "coder" "B" c0) : Ow.PayW l Z EL [x] (⟨"java/lang/String", "<init>", "([CIILjava/lang/Void;)V"⟩ : MethodName) jdk_42_method_149_code 6 none ({ frames := 1, cells := 4, slots := 8, locals := 40 } : Room) #[(.ref x), (.ref b), (.int 0), (.int 0), (.null)] h0 (fun v h L => v = none ∧ Ow.Eff h0 h [x] L ∧ ∃ t kb, Ow.Str Z h x t kb []) := by
  refine Ow.PayW.of (Ls := #[.val (.ref x), .val (.ref b), .val (.int 0), .val (.int 0), .val (.null), .unset]) (plainFor_of_name pn0) (fun m => by first | rfl | (simp [entryFrame, mkF, argsToLocals, Value.category]; done)) ?_
  intro p e s m below meth c T vm0 hx hby hml hown hnm hme hret hlk X eT D hsf
  have wS : ∀ a ∈ Bundle.stringAtoms, a.before a0 Z = true := fun d hd => hw d ((by decide +kernel : ∀ d ∈ Bundle.stringAtoms, d ∈ tables_1) d hd)
  have hni := (name_of_methodNamed hnm hme).1
  have Sx : Safe Z EL vm0 h0 x := hsf x (by simp)
  have hlt := E.lt
  have hsl : RoadKit.slotOf Z "java/lang/String" "coder" "B" ≠ RoadKit.slotOf Z "java/lang/String" "value" "[B" := slot_ne (a0 := a0) (C := "java/lang/String") (Or.inr (ww hw 21 rfl)) (Or.inr (ww hw 20 rfl)) (by decide) (t := .byte) (t' := .array .byte) (by decide) (by decide)
  refine Ow.aloadN X hx (pc := 0) (hb hby d2_0) rfl rfl ?_
  refine Ow.objinit X hx D.hZ hown (ww hw 15 rfl) (ww hw 16 rfl) (ww hw 17 rfl) eT (by rw [hml]; rfl) (pc := 1) (hb hby d2_1) rfl rfl ?_
  intro T X eT
  refine Ow.iloadN X hx (pc := 4) (hb hby d2_4) rfl ?_
  refine Ow.if_ne X hx (pc := 5) (pc' := 27) (hb hby d2_5) (by decide) (by decide) (fun q => absurd rfl q) (fun h5 => ?_)
  refine Ow.aloadN X hx (pc := 8) (hb hby d2_8) rfl rfl ?_
  refine Ow.ldcS X hx eT D hEL hown (ww hw 18 rfl) wS (by decide) (vs := []) (z := 0) (by decide) (by decide) (by decide) (pc := 9) (hb hby d2_9) 0 (by decide) (by decide) (by decide) (by decide) ?_
  intro vm1 a1 T h1 b1 k1 X eT E1 D hown C1 A1 F1c F1v V1 ne1
  have Sx1 := C1.safe hlt Sx
  have ne := ne1 x Sx1
  refine Ow.getfield X hx D.hZ hown (ww hw 24 rfl) Via.refl eT F1v (pc := 11) (hb hby d2_11) ?_
  intro T X eT
  refine Ow.putfield X hx D.hZ hown (ww hw 24 rfl) Via.refl eT (V.ext E1) (E.ext E1) (Or.inr ⟨(ww hw 20 rfl), rfl, hni⟩) (ww hw 5 rfl) (ty := .array .byte) (by decide) rfl rfl (pc := 14) (hb hby d2_14) ?_
  intro T h2 X eT W2
  have Sx2 := D.safeWr W2 Sx1 Sx1
  have D := D.wr W2 Sx1
  refine Ow.aloadN X hx (pc := 17) (hb hby d2_17) rfl rfl ?_
  refine Ow.ldcS X hx eT D hEL hown (ww hw 18 rfl) wS (by decide) (vs := []) (z := 0) (by decide) (by decide) (by decide) (pc := 18) (hb hby d2_18) 0 (by decide) (by decide) (by decide) (by decide) ?_
  intro vm3 a3 T h3 b3 k3 X eT E3 D hown C3 A3 F3c F3v V3 ne3
  have Sx3 := C3.safe (by rw [W2.size]; exact Nat.lt_of_lt_of_le hlt E1.1) Sx2
  refine Ow.getfield X hx D.hZ hown (ww hw 25 rfl) Via.refl eT F3c (pc := 20) (hb hby d2_20) ?_
  intro T X eT
  refine Ow.putfield X hx D.hZ hown (ww hw 25 rfl) Via.refl eT (((C0.ext E1).other W2 (Or.inr hsl)).ext E3) (((E.ext E1).wr W2).ext E3) (Or.inr ⟨(ww hw 21 rfl), rfl, hni⟩) (ww hw 5 rfl) (ty := .byte) (by decide) rfl rfl (pc := 23) (hb hby d2_23) ?_
  intro T h4 X eT W4
  have D := D.wr W4 Sx3
  refine Ow.vreturnW X hx eT D hEL hlk hret (hb hby d2_26) ?_ (by decide) (by decide)
  rw [eT]
  refine ⟨rfl, (((((Ow.Eff.refl h0 [x]).ext E1).wr W2 (Or.inl (by simp))).ext E3).wr W4 (Or.inl (by simp))), b1, k1, ⟨(((E.ext E1).wr W2).ext E3).wr W4, (((C0.ext E1).other W2 (Or.inr hsl)).ext E3).same W4, (((V.ext E1).same W2).ext E3).other W4 (Or.inr (Ne.symm hsl)), ?_⟩⟩
  exact (((Ow.AL.of_arv V1 rfl).other W2 (Ne.symm ne.2)).ext E3).other W4 (Ne.symm ne.2)
theorem d1_0 : decode jdk_42_method_3_code 0 = .ok (.aload_n 0, 1) := by decide +kernel
theorem d1_1 : decode jdk_42_method_3_code 1 = .ok (.aload_n 1, 1) := by decide +kernel
theorem d1_2 : decode jdk_42_method_3_code 2 = .ok (.iconst 0, 1) := by decide +kernel
theorem d1_3 : decode jdk_42_method_3_code 3 = .ok (.aload_n 1, 1) := by decide +kernel
theorem d1_4 : decode jdk_42_method_3_code 4 = .ok (.arraylength, 1) := by decide +kernel
theorem d1_5 : decode jdk_42_method_3_code 5 = .ok (.aconst_null, 1) := by decide +kernel
theorem d1_6 : decode jdk_42_method_3_code 6 = .ok (.invokespecial 27, 3) := by decide +kernel
theorem d1_9 : decode jdk_42_method_3_code 9 = .ok (.return_, 1) := by decide +kernel
set_option maxRecDepth 65536 in
set_option maxHeartbeats 4000000 in
theorem c_new1e (l : Launch) (Z : State) (a0 : Array Value) (hw : ∀ d ∈ tables_1, d.before a0 Z = true) (hEL : EW Z a0 EL) (h0 : Heap) (x b : Addr) (v0 c0 : Value) (E : Exa Z h0 x "java/lang/String") (V : Fld Z h0 x "java/lang/String" "value" "[B" v0) (C0 : Fld Z h0 x "java/lang/String" "coder" "B" c0) (kc : ClassId) (A : Ow.AL Z h0 b kc .char []) : Ow.PayW l Z EL [x] (⟨"java/lang/String", "<init>", "([C)V"⟩ : MethodName) jdk_42_method_3_code 2 none ({ frames := 2, cells := 4, slots := 8, locals := 60 } : Room) #[(.ref x), (.ref b)] h0 (fun v h L => v = none ∧ Ow.Eff h0 h [x] L ∧ ∃ t kb, Ow.Str Z h x t kb []) := by
  refine Ow.PayW.of (Ls := #[.val (.ref x), .val (.ref b)]) (plainFor_of_name pn0) (fun m => by first | rfl | (simp [entryFrame, mkF, argsToLocals, Value.category]; done)) ?_
  intro p e s m below meth c T vm0 hx hby hml hown hnm hme hret hlk X eT D hsf
  refine Ow.aloadN X hx (pc := 0) (hb hby d1_0) rfl rfl ?_
  refine Ow.aloadN X hx (pc := 1) (hb hby d1_1) rfl rfl ?_
  refine Ow.iconst X hx (pc := 2) (0) (hb hby d1_2) (by decide) ?_
  refine Ow.aloadN X hx (pc := 3) (hb hby d1_3) rfl rfl ?_
  refine Ow.lengthL X hx D.hZ eT A 0 rfl (pc := 4) (hb hby d1_4) ?_
  refine Ow.aconst_null X hx (pc := 5) (hb hby d1_5) ?_
  refine Ow.callIW X hx (c_new4e l Z a0 hw hEL h0 x b v0 c0 E V C0) eT D hEL (fun y hy => by cases List.mem_singleton.mp hy; exact ⟨E.lt, hsf _ (by simp)⟩) rfl hown (ww hw 11 rfl) (ww hw 12 rfl) (ww hw 6 rfl) (ww hw 14 rfl) (by decide) pd1 (by rw [hml]; rfl) (argsL := [_, _, _, _]) rfl rfl rfl (pc := 6) (hb hby d1_6) rfl rfl (by decide) (by decide) ?_
  rintro _ vm1 T L X ⟨rfl, F, t, kb, St⟩ D hown C1
  dsimp only [Option.toList_some, Option.toList_none, List.cons_append, List.nil_append]
  exact Ow.vreturnW X hx rfl D hEL hlk hret (hb hby d1_9) ⟨rfl, F, t, kb, St⟩ (by decide) (by decide)
theorem own_ch8 : ∀ n : Fin 256, fits .char (.int (Int32.ofNat n.val)) = true ∧ ¬ (255 : Int32) < Int32.ofNat n.val ∧ nar .char (Int32.ofNat n.val) = Int32.ofNat n.val ∧ (Int32.ofNat n.val).toUInt32.toUInt16.toUInt32.toInt32 = Int32.ofNat n.val := by decide +kernel
/-- new String(cs), cs not empty, each a Latin-1 char: as a step -/
theorem strLat {p : Program} {l : Launch} {e : Env} {R : Room} {s : State} {m : MethodId} {args : Array Value} {below : List Frame} {meth : Method} {c : Code} {T : State} {locs : List Loc} {cells slots : Nat} {G : Outcome → State → Prop} {pc : Nat} {Ls : Array Slot} {rest : List Value} {Z : State} {a0 : Array Value} {h : Heap}
    (X : Stand p l e R s m args below meth c T locs cells slots) (hx : p.tables.exec = Jvm.exec) (hZ : Z.Warmed39 s.vm) (hw : ∀ d ∈ tables_1, d.before a0 Z = true) (eT : T.heap = h) {own : String} {index : Nat} (hown : s.vm.findClass own = some m.cls) (wl : (Cond.methodLink own index (⟨"java/lang/String", "<init>", "([C)V"⟩ : MethodName)).before a0 Z = true)
    {x b : Addr} {kc : ClassId} {cs : List Int32} {v0 c0 : Value} {z : Int32} (E : Exa Z h x "java/lang/String") (V : Fld Z h x "java/lang/String" "value" "[B" v0) (C0 : Fld Z h x "java/lang/String" "coder" "B" c0) (A : Ow.AL Z h b kc .char (cs.map Value.int)) (S : Sta Z h "java/lang/String" "COMPACT_STRINGS" "Z" (.int z)) (hz : ¬ z = 0) (n : Nat) (hn : cs.length = n) (h0 : 0 < n) (hbig : n ≤ 4000) (hall : ∀ c ∈ cs, ∃ k : Fin 256, c = Int32.ofNat k.val) (hsz : Ls.size = c.maxLocals)
    (hd : decode c.code pc = .ok (.invokespecial index, 3)) (hf : (4 : Nat).ble R.frames = true) (hlo : ((rest.map fun v => v.category).sum + 65).ble R.locals = true) (hce : cells + 1 ≤ R.cells) (hsl : slots + n ≤ R.slots)
    (K : ∀ (T' : State) (L : List Loc) (kb : ClassId), Stand p l e R s m args below meth c T' (locs ++ L) (cells + 1) (slots + n) → Ow.Eff h T'.heap [x] L → Ow.Str Z T'.heap x h.size kb (cs.map fun c => c.toInt8.toInt32) → Go p.tables e below G (T'.setTop (mkF m (pc + 3) Ls rest))) :
    Go p.tables e below G (T.setTop (mkF m pc Ls (.ref b :: .ref x :: rest))) := by
  subst hn
  have hws : ∀ d ∈ StrChars.Road.words, d.before a0 Z = true := fun d hd => hw d ((by decide +kernel : ∀ d ∈ StrChars.Road.words, d ∈ tables_1) d hd)
  have hb31 : cs.length < 2147483648 := by omega
  refine Ow.callIB X hx hZ (StrChars.Road.backArv (kI := 4) hZ hws (ww hw 5 rfl) E V C0 (A.arv (z := Int32.ofNat cs.length) (dv := .int 0) (Ow.n_nn hb31) (by rw [Ow.n_cl hb31, List.length_map]) (fun v hv => ?_)) S hz (Ow.n_cl hb31) h0 (by omega) (fun c hc => ?_) (Nat.le_of_ble_eq_true hf) (Nat.le_of_ble_eq_true hlo)) eT rfl hown wl (ww hw 9 rfl) (ww hw 10 rfl) (by decide) pd2 hsz (a := x) (argsL := [.ref b]) rfl rfl rfl hd hce hsl ?_
  · obtain ⟨c, hc, rfl⟩ := List.mem_map.mp hv
    obtain ⟨k, rfl⟩ := hall c hc
    exact (own_ch8 k).1
  · obtain ⟨k, rfl⟩ := hall c hc
    exact (own_ch8 k).2.1
  · rintro _ T' L X' ⟨rfl, q2, q3, q4, q5, q6, q7, ⟨kb, -, q8⟩, -⟩
    refine K T' L kb X' ⟨q3, fun y hy => Or.inl (by rw [q2 y hy]; simp)⟩ ⟨q5, q7, q6, ?_⟩
    have q9 := Ow.AL.of_arv q8 (by rw [Ow.n_cl hb31, List.length_map])
    rw [List.map_map]; exact q9
theorem own_mask8 (x : Int32) : ∃ n : Fin 256, (x &&& (255 : Int32)) = Int32.ofNat n.val := by
  refine ⟨⟨(x &&& 255).toBitVec.toNat, ?_⟩, ?_⟩
  · simp only [Int32.toBitVec_and, BitVec.toNat_and]
    exact Nat.lt_of_le_of_lt Nat.and_le_right (by decide)
  · apply Int32.toBitVec_inj.mp
    show _ = BitVec.ofNat 32 _
    rw [BitVec.ofNat_toNat]; simp
theorem d26_0 : decode jdk_42_method_152_code 0 = .ok (.getstatic 38, 3) := by decide +kernel
theorem d26_3 : decode jdk_42_method_152_code 3 = .ok (.ifCond .eq 10, 3) := by decide +kernel
theorem d26_6 : decode jdk_42_method_152_code 6 = .ok (.aload_n 0, 1) := by decide +kernel
theorem d26_7 : decode jdk_42_method_152_code 7 = .ok (.getfield 15, 3) := by decide +kernel
theorem d26_10 : decode jdk_42_method_152_code 10 = .ok (.goto 4, 3) := by decide +kernel
theorem d26_13 : decode jdk_42_method_152_code 13 = .ok (.iconst 1, 1) := by decide +kernel
theorem d26_14 : decode jdk_42_method_152_code 14 = .ok (.ireturn, 1) := by decide +kernel
set_option maxRecDepth 65536 in
set_option maxHeartbeats 4000000 in
theorem c_coder (l : Launch) (Z : State) (a0 : Array Value) (hw : ∀ d ∈ tables_1, d.before a0 Z = true) (h0 : Heap) (z : Int32) (x : Addr) (S : Sta Z h0 "java/lang/String" "COMPACT_STRINGS" "Z" (.int z)) (hz : ¬ z = 0) (C0 : Fld Z h0 x "java/lang/String" "coder" "B" (.int 0)) : Ow.Pay l Z (⟨"java/lang/String", "coder", "()B"⟩ : MethodName) jdk_42_method_152_code 1 (some .byte) ({ frames := 0, cells := 0, slots := 0, locals := 0 } : Room) #[(.ref x)] h0 (fun v h L => v = some (.int 0) ∧ h = h0 ∧ L = []) := by
  refine Ow.Pay.of (Ls := #[.val (.ref x)]) (plainFor_of_name pn0) (fun m => by first | rfl | (simp [entryFrame, mkF, argsToLocals, Value.category]; done)) ?_
  intro p e s m below meth c T hx hby hml hown hnm hme hZ hret hlk X eT
  refine Ow.getstatic X hx hZ hown (ww hw 26 rfl) Via.refl eT S (pc := 0) (hb hby d26_0) ?_   -- "java/lang/String" "COMPACT_STRINGS" "Z"
  intro T X eT
  refine Ow.if_eq X hx (pc := 3) (pc' := 13) (hb hby d26_3) (by decide) (by decide) (fun q => absurd q hz) (fun h3 => ?_)
  refine Ow.aloadN X hx (pc := 6) (hb hby d26_6) rfl rfl ?_
  refine Ow.getfield X hx hZ hown (ww hw 25 rfl) Via.refl eT C0 (pc := 7) (hb hby d26_7) ?_   -- "java/lang/String" "coder" "B"
  intro T X eT
  refine Ow.goto X hx (pc := 10) (pc' := 14) (hb hby d26_10) (by decide) (by decide) ?_
  exact Ow.nreturn X hx hlk hret (Or.inr (Or.inl rfl)) (hb hby d26_14) ⟨rfl, eT, rfl⟩ (by decide) (by decide)
theorem d25_0 : decode jdk_42_method_54_code 0 = .ok (.aload_n 0, 1) := by decide +kernel
theorem d25_1 : decode jdk_42_method_54_code 1 = .ok (.getfield 9, 3) := by decide +kernel
theorem d25_4 : decode jdk_42_method_54_code 4 = .ok (.arraylength, 1) := by decide +kernel
theorem d25_5 : decode jdk_42_method_54_code 5 = .ok (.aload_n 0, 1) := by decide +kernel
theorem d25_6 : decode jdk_42_method_54_code 6 = .ok (.invokevirtual 335, 3) := by decide +kernel
theorem d25_9 : decode jdk_42_method_54_code 9 = .ok (.ishr, 1) := by decide +kernel
theorem d25_10 : decode jdk_42_method_54_code 10 = .ok (.ireturn, 1) := by decide +kernel
set_option maxRecDepth 65536 in
set_option maxHeartbeats 4000000 in
theorem c_length (l : Launch) (Z : State) (a0 : Array Value) (hw : ∀ d ∈ tables_1, d.before a0 Z = true) (h0 : Heap) (z : Int32) (x t : Addr) (kb : ClassId) (bs : List Int32) (S : Sta Z h0 "java/lang/String" "COMPACT_STRINGS" "Z" (.int z)) (hz : ¬ z = 0) (St : Ow.Str Z h0 x t kb bs) : Ow.Pay l Z (⟨"java/lang/String", "length", "()I"⟩ : MethodName) jdk_42_method_54_code 1 (some .int) ({ frames := 1, cells := 0, slots := 0, locals := 13 } : Room) #[(.ref x)] h0 (fun v h L => v = some (.int (Int32.ofNat bs.length)) ∧ h = h0 ∧ L = []) := by
  refine Ow.Pay.of (Ls := #[.val (.ref x)]) (plainFor_of_name pn0) (fun m => by first | rfl | (simp [entryFrame, mkF, argsToLocals, Value.category]; done)) ?_
  intro p e s m below meth c T hx hby hml hown hnm hme hZ hret hlk X eT
  refine Ow.aloadN X hx (pc := 0) (hb hby d25_0) rfl rfl ?_
  refine Ow.getfield X hx hZ hown (ww hw 24 rfl) Via.refl eT St.2.2.1 (pc := 1) (hb hby d25_1) ?_   -- "java/lang/String" "value" "[B"
  intro T X eT
  refine Ow.lengthL X hx hZ eT St.2.2.2 (Int32.ofNat bs.length) (by rw [List.length_map]) (pc := 4) (hb hby d25_4) ?_
  refine Ow.aloadN X hx (pc := 5) (hb hby d25_5) rfl rfl ?_
  refine Ow.callVP X hx hZ (c_coder l Z a0 hw h0 z x S hz St.2.1) rfl rfl eT hown (ww hw 161 rfl) (ww hw 162 rfl) (ww hw 164 rfl) (ww hw 163 rfl) (ww hw 6 rfl) (ww hw 165 rfl) (by decide) pd3 (by rw [hml]; rfl) St.1 (argsL := []) rfl rfl rfl (pc := 6) (hb hby d25_6) rfl rfl (by decide) (by decide) ?_   -- java/lang/String.coder:()B
  intro T X eT
  dsimp only [Option.toList_some, Option.toList_none, List.cons_append, List.nil_append]
  refine Ow.ishr X hx (pc := 9) (hb hby d25_9) ?_
  exact Ow.ireturn X hx hlk hret (hb hby d25_10) ⟨by rw [Ow.shr0], eT, rfl⟩ (by decide) (by decide)
theorem d14_0 : decode jdk_29_method_65_code 0 = .ok (.iload_n 0, 1) := by decide +kernel
theorem d14_1 : decode jdk_29_method_65_code 1 = .ok (.iload_n 1, 1) := by decide +kernel
theorem d14_2 : decode jdk_29_method_65_code 2 = .ok (.if_icmp .lt 7, 3) := by decide +kernel
theorem d14_5 : decode jdk_29_method_65_code 5 = .ok (.iload_n 0, 1) := by decide +kernel
theorem d14_6 : decode jdk_29_method_65_code 6 = .ok (.goto 4, 3) := by decide +kernel
theorem d14_9 : decode jdk_29_method_65_code 9 = .ok (.iload_n 1, 1) := by decide +kernel
theorem d14_10 : decode jdk_29_method_65_code 10 = .ok (.ireturn, 1) := by decide +kernel
set_option maxRecDepth 65536 in
set_option maxHeartbeats 4000000 in
theorem c_max (l : Launch) (Z : State) (a0 : Array Value) (hw : ∀ d ∈ tables_1, d.before a0 Z = true) (h0 : Heap) (a b : Int32) : Ow.Pay l Z (⟨"java/lang/Math", "max", "(II)I"⟩ : MethodName) jdk_29_method_65_code 2 (some .int) ({ frames := 0, cells := 0, slots := 0, locals := 0 } : Room) #[(.int a), (.int b)] h0 (fun v h L => v = some (.int (if a < b then b else a)) ∧ h = h0 ∧ L = []) := by
  refine Ow.Pay.of (Ls := #[.val (.int a), .val (.int b)]) (Jvm.Free.JP.mathPlain rfl (by decide)) (fun m => by first | rfl | (simp [entryFrame, mkF, argsToLocals, Value.category]; done)) ?_
  intro p e s m below meth c T hx hby hml hown hnm hme hZ hret hlk X eT
  refine Ow.iloadN X hx (pc := 0) (hb hby d14_0) rfl ?_
  refine Ow.iloadN X hx (pc := 1) (hb hby d14_1) rfl ?_
  refine Ow.icmp_lt X hx (pc := 2) (pc' := 9) (hb hby d14_2) (by decide) (by decide) (fun h2 => ?_) (fun h2 => ?_)
  · refine Ow.iloadN X hx (pc := 9) (hb hby d14_9) rfl ?_
    exact Ow.ireturn X hx hlk hret (hb hby d14_10) ⟨by simp [h2], eT, rfl⟩ (by decide) (by decide)
  · refine Ow.iloadN X hx (pc := 5) (hb hby d14_5) rfl ?_
    refine Ow.goto X hx (pc := 6) (pc' := 10) (hb hby d14_6) (by decide) (by decide) ?_
    exact Ow.ireturn X hx hlk hret (hb hby d14_10) ⟨by simp [h2], eT, rfl⟩ (by decide) (by decide)
theorem d39_0 : decode jdk_42_method_151_code 0 = .ok (.aload_n 0, 1) := by decide +kernel
theorem d39_1 : decode jdk_42_method_151_code 1 = .ok (.invokespecial 1, 3) := by decide +kernel
theorem d39_4 : decode jdk_42_method_151_code 4 = .ok (.aload_n 0, 1) := by decide +kernel
theorem d39_5 : decode jdk_42_method_151_code 5 = .ok (.aload_n 1, 1) := by decide +kernel
theorem d39_6 : decode jdk_42_method_151_code 6 = .ok (.putfield 9, 3) := by decide +kernel
theorem d39_9 : decode jdk_42_method_151_code 9 = .ok (.aload_n 0, 1) := by decide +kernel
theorem d39_10 : decode jdk_42_method_151_code 10 = .ok (.iload_n 2, 1) := by decide +kernel
theorem d39_11 : decode jdk_42_method_151_code 11 = .ok (.putfield 15, 3) := by decide +kernel
theorem d39_14 : decode jdk_42_method_151_code 14 = .ok (.return_, 1) := by decide +kernel
set_option maxRecDepth 65536 in
set_option maxHeartbeats 4000000 in
theorem c_strBB (l : Launch) (Z : State) (a0 : Array Value) (hw : ∀ d ∈ tables_1, d.before a0 Z = true) (h0 : Heap) (a t : Addr) (v0 c0 : Value) (A : Exa Z h0 a "java/lang/String") (V0 : Fld Z h0 a "java/lang/String" "value" "[B" v0) (C0 : Fld Z h0 a "java/lang/String" "coder" "B" c0) : Ow.Pay l Z (⟨"java/lang/String", "<init>", "([BB)V"⟩ : MethodName) jdk_42_method_151_code 3 none ({ frames := 1, cells := 0, slots := 0, locals := 12 } : Room) #[(.ref a), (.ref t), (.int 0)] h0 (fun v h L => v = none ∧ Ow.Eff h0 h [a] L ∧ Exa Z h a "java/lang/String" ∧ Fld Z h a "java/lang/String" "coder" "B" (.int 0) ∧ Fld Z h a "java/lang/String" "value" "[B" (.ref t)) := by
  refine Ow.Pay.of (Ls := #[.val (.ref a), .val (.ref t), .val (.int 0)]) (plainFor_of_name pn0) (fun m => by first | rfl | (simp [entryFrame, mkF, argsToLocals, Value.category]; done)) ?_
  intro p e s m below meth c T hx hby hml hown hnm hme hZ hret hlk X eT
  have F := Ow.Eff.refl h0 [a]
  have hni := (name_of_methodNamed hnm hme).1
  have hsl : RoadKit.slotOf Z "java/lang/String" "coder" "B" ≠ RoadKit.slotOf Z "java/lang/String" "value" "[B" := slot_ne (a0 := a0) (C := "java/lang/String") (Or.inr (ww hw 21 rfl)) (Or.inr (ww hw 20 rfl)) (by decide) (t := .byte) (t' := .array .byte) (by decide) (by decide)
  refine Ow.aloadN X hx (pc := 0) (hb hby d39_0) rfl rfl ?_
  refine Ow.objinit X hx hZ hown (ww hw 15 rfl) (ww hw 16 rfl) (ww hw 17 rfl) eT (by rw [hml]; rfl) (pc := 1) (hb hby d39_1) rfl rfl ?_
  intro T X eT
  refine Ow.aloadN X hx (pc := 4) (hb hby d39_4) rfl rfl ?_
  refine Ow.aloadN X hx (pc := 5) (hb hby d39_5) rfl rfl ?_
  refine Ow.putfield X hx hZ hown (ww hw 24 rfl) Via.refl eT V0 A (Or.inr ⟨(ww hw 20 rfl), rfl, hni⟩) (ww hw 5 rfl) (ty := .array .byte) (by decide) rfl rfl (pc := 6) (hb hby d39_6) ?_
  intro T h_6 X eT W_6
  have V0 := V0.same W_6
  have C0 := C0.other W_6 (Or.inr hsl)
  have A := A.wr W_6
  have F := F.wr W_6 (Or.inl (by simp))
  refine Ow.aloadN X hx (pc := 9) (hb hby d39_9) rfl rfl ?_
  refine Ow.iloadN X hx (pc := 10) (hb hby d39_10) rfl ?_
  refine Ow.putfield X hx hZ hown (ww hw 25 rfl) Via.refl eT C0 A (Or.inr ⟨(ww hw 21 rfl), rfl, hni⟩) (ww hw 5 rfl) (ty := .byte) (by decide) rfl rfl (pc := 11) (hb hby d39_11) ?_
  intro T h_11 X eT W_11
  have V0 := V0.other W_11 (Or.inr (Ne.symm hsl))
  have C0 := C0.same W_11
  have A := A.wr W_11
  have F := F.wr W_11 (Or.inl (by simp))
  exact Ow.vreturn X hx hlk hret (hb hby d39_14) ⟨rfl, by rw [eT]; exact F, by rw [eT]; exact A, by rw [eT]; exact C0, by rw [eT]; exact V0⟩ (by decide) (by decide)
/-- an ArrayList at al that holds nothing yet: its array is the class's own empty one -/
def own_E (Z : State) (h : Heap) (al de : Addr) (kd : ClassId) : Prop := Exa Z h al "java/util/ArrayList" ∧ Fld Z h al "java/util/ArrayList" "elementData" "[Ljava/lang/Object;" (.ref de) ∧ Fld Z h al "java/util/ArrayList" "size" "I" (.int 0) ∧ (∃ mc, Fld Z h al "java/util/AbstractList" "modCount" "I" (.int mc)) ∧ Ow.AL Z h de kd (.object "java/lang/Object") []
/-- an ArrayList at al of n elements, its array at ed -/
def own_L (Z : State) (h : Heap) (al ed : Addr) (ke : ClassId) (n : Nat) (us : List Value) : Prop := Exa Z h al "java/util/ArrayList" ∧ Fld Z h al "java/util/ArrayList" "elementData" "[Ljava/lang/Object;" (.ref ed) ∧ Fld Z h al "java/util/ArrayList" "size" "I" (.int (Int32.ofNat n)) ∧ (∃ mc, Fld Z h al "java/util/AbstractList" "modCount" "I" (.int mc)) ∧ Ow.AL Z h ed ke (.object "java/lang/Object") us ∧ Ovr Z ke "java/lang/Object"
section own_Ls
variable {Z : State} {h h' : Heap} {al ed : Addr} {ke : ClassId} {n : Nat} {us : List Value} {ws : List Addr}
theorem own_E.ext (S : own_E Z h al ed ke) (E : Ext h h') : own_E Z h' al ed ke := ⟨S.1.ext E, S.2.1.ext E, S.2.2.1.ext E, S.2.2.2.1.imp fun _ q => q.ext E, S.2.2.2.2.ext E⟩
theorem own_E.keep (S : own_E Z h al ed ke) (K : Keep h h' ws) (q1 : al ∉ ws) (q2 : ed ∉ ws) : own_E Z h' al ed ke := ⟨S.1.keep K, S.2.1.keep K q1, S.2.2.1.keep K q1, S.2.2.2.1.imp fun _ q => q.keep K q1, S.2.2.2.2.keep K q2⟩
theorem own_E.lt (S : own_E Z h al ed ke) : al < h.size := S.1.lt
theorem own_E.ltB (S : own_E Z h al ed ke) : ed < h.size := S.2.2.2.2.lt
theorem own_L.ext (S : own_L Z h al ed ke n us) (E : Ext h h') : own_L Z h' al ed ke n us := ⟨S.1.ext E, S.2.1.ext E, S.2.2.1.ext E, S.2.2.2.1.imp fun _ q => q.ext E, S.2.2.2.2.1.ext E, S.2.2.2.2.2⟩
theorem own_L.keep (S : own_L Z h al ed ke n us) (K : Keep h h' ws) (q1 : al ∉ ws) (q2 : ed ∉ ws) : own_L Z h' al ed ke n us := ⟨S.1.keep K, S.2.1.keep K q1, S.2.2.1.keep K q1, S.2.2.2.1.imp fun _ q => q.keep K q1, S.2.2.2.2.1.keep K q2, S.2.2.2.2.2⟩
theorem own_L.lt (S : own_L Z h al ed ke n us) : al < h.size := S.1.lt
theorem own_L.ltB (S : own_L Z h al ed ke n us) : ed < h.size := S.2.2.2.2.1.lt
end own_Ls
def own_np (bs : List Int32) : Prop := 2 ≤ bs.length → ¬ (bs.getD 0 0 = 45 ∧ bs.getD 1 0 = 45)
theorem own_c45 : ∀ k : Fin 256, (Int32.ofNat k.val).toInt8.toInt32 = 45 → Int32.ofNat k.val = 45 := by decide +kernel
theorem own_lt2 : ∀ n : Fin 2, Int32.ofNat n.val - 2 < 0 := by decide +kernel
theorem own_ge2 : ∀ n : Fin 4, 2 ≤ n.val → ¬ Int32.ofNat n.val - 2 < 0 := by decide +kernel
theorem own_mask2 (x : Int32) : ∃ n : Fin 4, (x &&& (3 : Int32)) = Int32.ofNat n.val := by
  refine ⟨⟨(x &&& 3).toBitVec.toNat, ?_⟩, ?_⟩
  · simp only [Int32.toBitVec_and, BitVec.toNat_and]
    exact Nat.lt_of_le_of_lt Nat.and_le_right (by decide)
  · apply Int32.toBitVec_inj.mp
    show _ = BitVec.ofNat 32 _
    rw [BitVec.ofNat_toNat]; simp
theorem own_four (x : Int32) : x &&& 3 = 0 ∨ x &&& 3 = 1 ∨ x &&& 3 = 2 ∨ x &&& 3 = 3 := by
  obtain ⟨n, hn⟩ := own_mask2 x
  rw [hn]
  have : ∀ n : Fin 4, Int32.ofNat n.val = 0 ∨ Int32.ofNat n.val = 1 ∨ Int32.ofNat n.val = 2 ∨ Int32.ofNat n.val = 3 := by decide
  exact this n
theorem d9_0 : decode jdk_22_method_1_code 0 = .ok (.aload_n 0, 1) := by decide +kernel
theorem d9_1 : decode jdk_22_method_1_code 1 = .ok (.invokespecial 1, 3) := by decide +kernel
theorem d9_4 : decode jdk_22_method_1_code 4 = .ok (.return_, 1) := by decide +kernel
set_option maxRecDepth 65536 in
set_option maxHeartbeats 4000000 in
theorem c_acinit (l : Launch) (Z : State) (a0 : Array Value) (hw : ∀ d ∈ tables_1, d.before a0 Z = true) (h0 : Heap) (al : Addr) : Ow.Pay l Z (⟨"java/util/AbstractCollection", "<init>", "()V"⟩ : MethodName) jdk_22_method_1_code 1 none ({ frames := 1, cells := 0, slots := 0, locals := 12 } : Room) #[(.ref al)] h0 (fun v h L => v = none ∧ h = h0 ∧ L = []) := by
  refine Ow.Pay.of (Ls := #[.val (.ref al)]) (plainFor_of_name pn1) (fun m => by first | rfl | (simp [entryFrame, mkF, argsToLocals, Value.category]; done)) ?_
  intro p e s m below meth c T hx hby hml hown hnm hme hZ hret hlk X eT
  refine Ow.aloadN X hx (pc := 0) (hb hby d9_0) rfl rfl ?_
  refine Ow.objinit X hx hZ hown (ww hw 55 rfl) (ww hw 16 rfl) (ww hw 17 rfl) eT (by rw [hml]; rfl) (pc := 1) (hb hby d9_1) rfl rfl ?_
  intro T X eT
  exact Ow.vreturn X hx hlk hret (hb hby d9_4) ⟨rfl, eT, rfl⟩ (by decide) (by decide)
theorem d8_0 : decode jdk_39_method_1_code 0 = .ok (.aload_n 0, 1) := by decide +kernel
theorem d8_1 : decode jdk_39_method_1_code 1 = .ok (.invokespecial 1, 3) := by decide +kernel
theorem d8_4 : decode jdk_39_method_1_code 4 = .ok (.aload_n 0, 1) := by decide +kernel
theorem d8_5 : decode jdk_39_method_1_code 5 = .ok (.iconst 0, 1) := by decide +kernel
theorem d8_6 : decode jdk_39_method_1_code 6 = .ok (.putfield 7, 3) := by decide +kernel
theorem d8_9 : decode jdk_39_method_1_code 9 = .ok (.return_, 1) := by decide +kernel
set_option maxRecDepth 65536 in
set_option maxHeartbeats 4000000 in
theorem c_alinit (l : Launch) (Z : State) (a0 : Array Value) (hw : ∀ d ∈ tables_1, d.before a0 Z = true) (h0 : Heap) (al : Addr) (E : Exa Z h0 al "java/util/ArrayList") (Fe : Fld Z h0 al "java/util/ArrayList" "elementData" "[Ljava/lang/Object;" (.null)) (Fs : Fld Z h0 al "java/util/ArrayList" "size" "I" (.int 0)) (Fm : Fld Z h0 al "java/util/AbstractList" "modCount" "I" (.int 0)) : Ow.Pay l Z (⟨"java/util/AbstractList", "<init>", "()V"⟩ : MethodName) jdk_39_method_1_code 1 none ({ frames := 2, cells := 0, slots := 0, locals := 24 } : Room) #[(.ref al)] h0 (fun v h L => v = none ∧ Ow.Eff h0 h [al] L ∧ Exa Z h al "java/util/ArrayList" ∧ Fld Z h al "java/util/ArrayList" "elementData" "[Ljava/lang/Object;" (.null) ∧ Fld Z h al "java/util/ArrayList" "size" "I" (.int 0) ∧ Fld Z h al "java/util/AbstractList" "modCount" "I" (.int 0)) := by
  refine Ow.Pay.of (Ls := #[.val (.ref al)]) (plainFor_of_name pn2) (fun m => by first | rfl | (simp [entryFrame, mkF, argsToLocals, Value.category]; done)) ?_
  intro p e s m below meth c T hx hby hml hown hnm hme hZ hret hlk X eT
  have F := Ow.Eff.refl h0 [al]
  have sn_elementData_size : RoadKit.slotOf Z "java/util/ArrayList" "elementData" "[Ljava/lang/Object;" ≠ RoadKit.slotOf Z "java/util/ArrayList" "size" "I" := slot_ne (a0 := a0) (C := "java/util/ArrayList") (Or.inl (ww hw 60 rfl)) (Or.inl (ww hw 69 rfl)) (by decide) (t := (.array (.object "java/lang/Object"))) (t' := .int) (by decide) (by decide)
  have sn_elementData_modCount : RoadKit.slotOf Z "java/util/ArrayList" "elementData" "[Ljava/lang/Object;" ≠ RoadKit.slotOf Z "java/util/AbstractList" "modCount" "I" := slot_ne (a0 := a0) (C := "java/util/ArrayList") (Or.inl (ww hw 60 rfl)) (Or.inl (ww hw 57 rfl)) (by decide) (t := (.array (.object "java/lang/Object"))) (t' := .int) (by decide) (by decide)
  have sn_size_modCount : RoadKit.slotOf Z "java/util/ArrayList" "size" "I" ≠ RoadKit.slotOf Z "java/util/AbstractList" "modCount" "I" := slot_ne (a0 := a0) (C := "java/util/ArrayList") (Or.inl (ww hw 69 rfl)) (Or.inl (ww hw 57 rfl)) (by decide) (t := .int) (t' := .int) (by decide) (by decide)
  refine Ow.aloadN X hx (pc := 0) (hb hby d8_0) rfl rfl ?_
  refine Ow.callI X hx hZ (c_acinit l Z a0 hw _ al) eT rfl hown (ww hw 49 rfl) (ww hw 50 rfl) (ww hw 53 rfl) (ww hw 54 rfl) (by decide) pd0 (by rw [hml]; rfl) (argsL := []) rfl rfl rfl (pc := 1) (hb hby d8_1) rfl rfl (by decide) (by decide) ?_   -- java/util/AbstractCollection.<init>:()V
  rintro _ T L X ⟨rfl, eT, rfl⟩
  rw [List.append_nil] at X
  dsimp only [Option.toList_some, Option.toList_none, List.cons_append, List.nil_append]
  refine Ow.aloadN X hx (pc := 4) (hb hby d8_4) rfl rfl ?_
  refine Ow.iconst X hx (pc := 5) (0) (hb hby d8_5) (by decide) ?_
  refine Ow.putfield X hx hZ hown (ww hw 56 rfl) Via.refl eT Fm E (Or.inl (ww hw 57 rfl)) (ww hw 38 rfl) (ty := .int) (by decide) rfl rfl (pc := 6) (hb hby d8_6) ?_
  intro T h_6 X eT W
  have Fm := Fm.same W
  have Fe := Fe.other W (Or.inr sn_elementData_modCount)
  have Fs := Fs.other W (Or.inr sn_size_modCount)
  have E := E.wr W
  have F := F.wr W (Or.inl (by simp))
  exact Ow.vreturn X hx hlk hret (hb hby d8_9) ⟨rfl, by rw [eT]; exact F, by rw [eT]; exact E, by rw [eT]; exact Fe, by rw [eT]; exact Fs, by rw [eT]; exact Fm⟩ (by decide) (by decide)
theorem d7_0 : decode jdk_38_method_2_code 0 = .ok (.aload_n 0, 1) := by decide +kernel
theorem d7_1 : decode jdk_38_method_2_code 1 = .ok (.invokespecial 1, 3) := by decide +kernel
theorem d7_4 : decode jdk_38_method_2_code 4 = .ok (.aload_n 0, 1) := by decide +kernel
theorem d7_5 : decode jdk_38_method_2_code 5 = .ok (.getstatic 39, 3) := by decide +kernel
theorem d7_8 : decode jdk_38_method_2_code 8 = .ok (.putfield 9, 3) := by decide +kernel
theorem d7_11 : decode jdk_38_method_2_code 11 = .ok (.return_, 1) := by decide +kernel
set_option maxRecDepth 65536 in
set_option maxHeartbeats 4000000 in
theorem c_arinit (l : Launch) (Z : State) (a0 : Array Value) (hw : ∀ d ∈ tables_1, d.before a0 Z = true) (h0 : Heap) (al : Addr) (E : Exa Z h0 al "java/util/ArrayList") (Fe : Fld Z h0 al "java/util/ArrayList" "elementData" "[Ljava/lang/Object;" (.null)) (Fs : Fld Z h0 al "java/util/ArrayList" "size" "I" (.int 0)) (Fm : Fld Z h0 al "java/util/AbstractList" "modCount" "I" (.int 0)) (de : Addr) (kd : ClassId) (SD : Sta Z h0 "java/util/ArrayList" "DEFAULTCAPACITY_EMPTY_ELEMENTDATA" "[Ljava/lang/Object;" (.ref de)) (Bd : Ow.AL Z h0 de kd (.object "java/lang/Object") []) (ne : de ≠ al) : Ow.Pay l Z (⟨"java/util/ArrayList", "<init>", "()V"⟩ : MethodName) jdk_38_method_2_code 1 none ({ frames := 3, cells := 0, slots := 0, locals := 36 } : Room) #[(.ref al)] h0 (fun v h L => v = none ∧ Ow.Eff h0 h [al] L ∧ own_E Z h al de kd) := by
  refine Ow.Pay.of (Ls := #[.val (.ref al)]) (plainFor_of_name pn3) (fun m => by first | rfl | (simp [entryFrame, mkF, argsToLocals, Value.category]; done)) ?_
  intro p e s m below meth c T hx hby hml hown hnm hme hZ hret hlk X eT
  have F := Ow.Eff.refl h0 [al]
  have sn_elementData_size : RoadKit.slotOf Z "java/util/ArrayList" "elementData" "[Ljava/lang/Object;" ≠ RoadKit.slotOf Z "java/util/ArrayList" "size" "I" := slot_ne (a0 := a0) (C := "java/util/ArrayList") (Or.inl (ww hw 60 rfl)) (Or.inl (ww hw 69 rfl)) (by decide) (t := (.array (.object "java/lang/Object"))) (t' := .int) (by decide) (by decide)
  have sn_elementData_modCount : RoadKit.slotOf Z "java/util/ArrayList" "elementData" "[Ljava/lang/Object;" ≠ RoadKit.slotOf Z "java/util/AbstractList" "modCount" "I" := slot_ne (a0 := a0) (C := "java/util/ArrayList") (Or.inl (ww hw 60 rfl)) (Or.inl (ww hw 57 rfl)) (by decide) (t := (.array (.object "java/lang/Object"))) (t' := .int) (by decide) (by decide)
  have sn_size_modCount : RoadKit.slotOf Z "java/util/ArrayList" "size" "I" ≠ RoadKit.slotOf Z "java/util/AbstractList" "modCount" "I" := slot_ne (a0 := a0) (C := "java/util/ArrayList") (Or.inl (ww hw 69 rfl)) (Or.inl (ww hw 57 rfl)) (by decide) (t := .int) (t' := .int) (by decide) (by decide)
  have P_al := Ow.Exa.plain E
  refine Ow.aloadN X hx (pc := 0) (hb hby d7_0) rfl rfl ?_
  refine Ow.callI X hx hZ (c_alinit l Z a0 hw _ al E Fe Fs Fm) eT rfl hown (ww hw 43 rfl) (ww hw 44 rfl) (ww hw 47 rfl) (ww hw 48 rfl) (by decide) pd0 (by rw [hml]; rfl) (argsL := []) rfl rfl rfl (pc := 1) (hb hby d7_1) rfl rfl (by decide) (by decide) ?_
  rintro _ T L X ⟨rfl, F2, E, Fe, Fs, Fm⟩
  dsimp only [Option.toList_some, Option.toList_none, List.cons_append, List.nil_append]
  have F := F.call F2 (fun y hy => by cases List.mem_singleton.mp hy; exact Or.inl (by simp))
  have SD := Ow.staKeep SD F2.1 (fun y hy => by cases List.mem_singleton.mp hy; exact P_al)
  have Bd := Bd.keep F2.1 (Ow.nin1 ne)
  obtain ⟨h_1, e_1⟩ : ∃ q, q = T.heap := ⟨_, rfl⟩
  rw [← e_1] at F SD Bd E Fe Fs Fm
  have eT : T.heap = h_1 := e_1.symm
  refine Ow.aloadN X hx (pc := 4) (hb hby d7_4) rfl rfl ?_
  refine Ow.getstatic X hx hZ hown (ww hw 58 rfl) Via.refl eT SD (pc := 5) (hb hby d7_5) ?_   -- "java/util/ArrayList" "DEFAULTCAPACITY_EMPTY_ELEMENTDATA" "[Ljava/lang/Object;"
  intro T X eT
  refine Ow.putfield X hx hZ hown (ww hw 59 rfl) Via.refl eT Fe E (Or.inl (ww hw 60 rfl)) (ww hw 38 rfl) (ty := .array (.object "java/lang/Object")) (by decide) rfl rfl (pc := 8) (hb hby d7_8) ?_
  intro T h_8 X eT W
  have F := F.wr W (Or.inl (by simp))
  have R : own_E Z h_8 al de kd := ⟨E.wr W, Fe.same W, Fs.other W (Or.inr (Ne.symm sn_elementData_size)), ⟨0, Fm.other W (Or.inr (Ne.symm sn_elementData_modCount))⟩, Bd.other W ne⟩
  exact Ow.vreturn X hx hlk hret (hb hby d7_11) ⟨rfl, by rw [eT]; exact F, by rw [eT]; exact R⟩ (by decide) (by decide)
theorem d13_0 : decode jdk_38_method_6_code 0 = .ok (.aload_n 0, 1) := by decide +kernel
theorem d13_1 : decode jdk_38_method_6_code 1 = .ok (.getfield 9, 3) := by decide +kernel
theorem d13_4 : decode jdk_38_method_6_code 4 = .ok (.arraylength, 1) := by decide +kernel
theorem d13_5 : decode jdk_38_method_6_code 5 = .ok (.istore_n 2, 1) := by decide +kernel
theorem d13_6 : decode jdk_38_method_6_code 6 = .ok (.iload_n 2, 1) := by decide +kernel
theorem d13_7 : decode jdk_38_method_6_code 7 = .ok (.ifCond .gt 13, 3) := by decide +kernel
theorem d13_10 : decode jdk_38_method_6_code 10 = .ok (.aload_n 0, 1) := by decide +kernel
theorem d13_11 : decode jdk_38_method_6_code 11 = .ok (.getfield 9, 3) := by decide +kernel
theorem d13_14 : decode jdk_38_method_6_code 14 = .ok (.getstatic 39, 3) := by decide +kernel
theorem d13_17 : decode jdk_38_method_6_code 17 = .ok (.if_acmp .eq 28, 3) := by decide +kernel
theorem d13_20 : decode jdk_38_method_6_code 20 = .ok (.iload_n 2, 1) := by decide +kernel
theorem d13_21 : decode jdk_38_method_6_code 21 = .ok (.iload_n 1, 1) := by decide +kernel
theorem d13_22 : decode jdk_38_method_6_code 22 = .ok (.iload_n 2, 1) := by decide +kernel
theorem d13_23 : decode jdk_38_method_6_code 23 = .ok (.isub, 1) := by decide +kernel
theorem d13_24 : decode jdk_38_method_6_code 24 = .ok (.iload_n 2, 1) := by decide +kernel
theorem d13_25 : decode jdk_38_method_6_code 25 = .ok (.iconst 1, 1) := by decide +kernel
theorem d13_26 : decode jdk_38_method_6_code 26 = .ok (.ishr, 1) := by decide +kernel
theorem d13_27 : decode jdk_38_method_6_code 27 = .ok (.invokestatic 73, 3) := by decide +kernel
theorem d13_30 : decode jdk_38_method_6_code 30 = .ok (.istore_n 3, 1) := by decide +kernel
theorem d13_31 : decode jdk_38_method_6_code 31 = .ok (.aload_n 0, 1) := by decide +kernel
theorem d13_32 : decode jdk_38_method_6_code 32 = .ok (.aload_n 0, 1) := by decide +kernel
theorem d13_33 : decode jdk_38_method_6_code 33 = .ok (.getfield 9, 3) := by decide +kernel
theorem d13_36 : decode jdk_38_method_6_code 36 = .ok (.iload_n 3, 1) := by decide +kernel
theorem d13_37 : decode jdk_38_method_6_code 37 = .ok (.invokestatic 66, 3) := by decide +kernel
theorem d13_40 : decode jdk_38_method_6_code 40 = .ok (.dup_x1, 1) := by decide +kernel
theorem d13_41 : decode jdk_38_method_6_code 41 = .ok (.putfield 9, 3) := by decide +kernel
theorem d13_44 : decode jdk_38_method_6_code 44 = .ok (.areturn, 1) := by decide +kernel
theorem d13_45 : decode jdk_38_method_6_code 45 = .ok (.aload_n 0, 1) := by decide +kernel
theorem d13_46 : decode jdk_38_method_6_code 46 = .ok (.bipush 10, 2) := by decide +kernel
theorem d13_48 : decode jdk_38_method_6_code 48 = .ok (.iload_n 1, 1) := by decide +kernel
theorem d13_49 : decode jdk_38_method_6_code 49 = .ok (.invokestatic 79, 3) := by decide +kernel
theorem d13_52 : decode jdk_38_method_6_code 52 = .ok (.anewarray 7, 3) := by decide +kernel
theorem d13_55 : decode jdk_38_method_6_code 55 = .ok (.dup_x1, 1) := by decide +kernel
theorem d13_56 : decode jdk_38_method_6_code 56 = .ok (.putfield 9, 3) := by decide +kernel
theorem d13_59 : decode jdk_38_method_6_code 59 = .ok (.areturn, 1) := by decide +kernel
set_option maxRecDepth 65536 in
set_option maxHeartbeats 4000000 in
theorem c_growI (l : Launch) (Z : State) (a0 : Array Value) (hw : ∀ d ∈ tables_1, d.before a0 Z = true) (h0 : Heap) (al de : Addr) (kd : ClassId) (Se : own_E Z h0 al de kd) (SD : Sta Z h0 "java/util/ArrayList" "DEFAULTCAPACITY_EMPTY_ELEMENTDATA" "[Ljava/lang/Object;" (.ref de)) : Ow.Pay l Z (⟨"java/util/ArrayList", "grow", "(I)[Ljava/lang/Object;"⟩ : MethodName) jdk_38_method_6_code 4 (some (.array (.object "java/lang/Object"))) ({ frames := 1, cells := 1, slots := 10, locals := 14 } : Room) #[(.ref al), (.int 1)] h0 (fun v h L => ∃ ed ke, v = some (.ref ed) ∧ Ow.Eff h0 h [al] L ∧ h0.size ≤ ed ∧ own_L Z h al ed ke 0 [.null, .null, .null, .null, .null, .null, .null, .null, .null, .null]) := by
  refine Ow.Pay.of (Ls := #[.val (.ref al), .val (.int 1), .unset, .unset]) (plainFor_of_name pn3) (fun m => by first | rfl | (simp [entryFrame, mkF, argsToLocals, Value.category]; done)) ?_
  intro p e s m below meth c T hx hby hml hown hnm hme hZ hret hlk X eT
  have F := Ow.Eff.refl h0 [al]
  have sn_elementData_size : RoadKit.slotOf Z "java/util/ArrayList" "elementData" "[Ljava/lang/Object;" ≠ RoadKit.slotOf Z "java/util/ArrayList" "size" "I" := slot_ne (a0 := a0) (C := "java/util/ArrayList") (Or.inl (ww hw 60 rfl)) (Or.inl (ww hw 69 rfl)) (by decide) (t := (.array (.object "java/lang/Object"))) (t' := .int) (by decide) (by decide)
  have sn_elementData_modCount : RoadKit.slotOf Z "java/util/ArrayList" "elementData" "[Ljava/lang/Object;" ≠ RoadKit.slotOf Z "java/util/AbstractList" "modCount" "I" := slot_ne (a0 := a0) (C := "java/util/ArrayList") (Or.inl (ww hw 60 rfl)) (Or.inl (ww hw 57 rfl)) (by decide) (t := (.array (.object "java/lang/Object"))) (t' := .int) (by decide) (by decide)
  have sn_size_modCount : RoadKit.slotOf Z "java/util/ArrayList" "size" "I" ≠ RoadKit.slotOf Z "java/util/AbstractList" "modCount" "I" := slot_ne (a0 := a0) (C := "java/util/ArrayList") (Or.inl (ww hw 69 rfl)) (Or.inl (ww hw 57 rfl)) (by decide) (t := .int) (t' := .int) (by decide) (by decide)
  refine Ow.aloadN X hx (pc := 0) (hb hby d13_0) rfl rfl ?_
  refine Ow.getfield X hx hZ hown (ww hw 59 rfl) Via.refl eT Se.2.1 (pc := 1) (hb hby d13_1) ?_   -- "java/util/ArrayList" "elementData" "[Ljava/lang/Object;"
  intro T X eT
  refine Ow.lengthL X hx hZ eT Se.2.2.2.2 0 rfl (pc := 4) (hb hby d13_4) ?_
  refine Ow.istoreN X hx (pc := 5) #[_, _, _, _] (hb hby d13_5) rfl ?_
  refine Ow.iloadN X hx (pc := 6) (hb hby d13_6) rfl ?_
  refine Ow.if_gt X hx (pc := 7) (pc' := 20) (hb hby d13_7) (by decide) (by decide) (fun q => absurd q (by decide)) (fun h7 => ?_)
  refine Ow.aloadN X hx (pc := 10) (hb hby d13_10) rfl rfl ?_
  refine Ow.getfield X hx hZ hown (ww hw 59 rfl) Via.refl eT Se.2.1 (pc := 11) (hb hby d13_11) ?_   -- "java/util/ArrayList" "elementData" "[Ljava/lang/Object;"
  intro T X eT
  refine Ow.getstatic X hx hZ hown (ww hw 58 rfl) Via.refl eT SD (pc := 14) (hb hby d13_14) ?_   -- "java/util/ArrayList" "DEFAULTCAPACITY_EMPTY_ELEMENTDATA" "[Ljava/lang/Object;"
  intro T X eT
  refine Ow.acmp_eq X hx (pc := 17) (pc' := 45) (hb hby d13_17) rfl rfl (by decide) (by decide) (fun h17 => ?_) (fun q => absurd rfl q)
  refine Ow.aloadN X hx (pc := 45) (hb hby d13_45) rfl rfl ?_
  refine Ow.bipush X hx (pc := 46) (10) (hb hby d13_46) (by decide) ?_
  refine Ow.iloadN X hx (pc := 48) (hb hby d13_48) rfl ?_
  refine Ow.callSP X hx hZ (c_max l Z a0 hw _ _ _) rfl rfl eT hown (ww hw 85 rfl) (ww hw 86 rfl) (ww hw 87 rfl) (ww hw 88 rfl) (by decide) pd4 (by rw [hml]; rfl) (argsL := [_, _]) rfl rfl rfl (pc := 49) (hb hby d13_49) rfl rfl (by decide) (by decide) ?_   -- java/lang/Math.max:(II)I
  intro T X eT
  dsimp only [Option.toList_some, Option.toList_none, List.cons_append, List.nil_append]
  rw [if_neg (by decide)]
  refine Ow.anewarrayL X hx hZ hown (ww hw 89 rfl) (ww hw 90 rfl) eT 10 [.null, .null, .null, .null, .null, .null, .null, .null, .null, .null] rfl (pc := 52) (hb hby d13_52) (by decide) (by decide) (by decide) (by decide) (by decide) ?_
  intro T h_e ke ed ha_e X eT E_e B_e O_e
  have l_e : h0.size ≤ ed := by rw [ha_e]; exact F.size
  have ne_e : al ≠ ed := by rw [ha_e]; exact Nat.ne_of_lt Se.lt
  have Se := Se.ext E_e
  have F := F.ext E_e
  refine Ow.dup_x1 X hx (pc := 55) (hb hby d13_55) rfl rfl ?_
  refine Ow.putfield X hx hZ hown (ww hw 59 rfl) Via.refl eT Se.2.1 Se.1 (Or.inl (ww hw 60 rfl)) (ww hw 38 rfl) (ty := .array (.object "java/lang/Object")) (by decide) rfl rfl (pc := 56) (hb hby d13_56) ?_
  intro T h_56 X eT W
  have F := F.wr W (Or.inl (by simp))
  have R : own_L Z h_56 al ed ke 0 [.null, .null, .null, .null, .null, .null, .null, .null, .null, .null] := ⟨Se.1.wr W, Se.2.1.same W, Se.2.2.1.other W (Or.inr (Ne.symm sn_elementData_size)), Se.2.2.2.1.imp fun _ q => q.other W (Or.inr (Ne.symm sn_elementData_modCount)), B_e.other W (Ne.symm ne_e), O_e⟩
  exact Ow.areturn X hx hlk hret rfl rfl rfl (hb hby d13_59) ⟨ed, ke, rfl, by rw [eT]; exact F, l_e, by rw [eT]; exact R⟩ (by decide) (by decide)
theorem d12_0 : decode jdk_38_method_7_code 0 = .ok (.aload_n 0, 1) := by decide +kernel
theorem d12_1 : decode jdk_38_method_7_code 1 = .ok (.aload_n 0, 1) := by decide +kernel
theorem d12_2 : decode jdk_38_method_7_code 2 = .ok (.getfield 48, 3) := by decide +kernel
theorem d12_5 : decode jdk_38_method_7_code 5 = .ok (.iconst 1, 1) := by decide +kernel
theorem d12_6 : decode jdk_38_method_7_code 6 = .ok (.iadd, 1) := by decide +kernel
theorem d12_7 : decode jdk_38_method_7_code 7 = .ok (.invokevirtual 69, 3) := by decide +kernel
theorem d12_10 : decode jdk_38_method_7_code 10 = .ok (.areturn, 1) := by decide +kernel
set_option maxRecDepth 65536 in
set_option maxHeartbeats 4000000 in
theorem c_grow0 (l : Launch) (Z : State) (a0 : Array Value) (hw : ∀ d ∈ tables_1, d.before a0 Z = true) (h0 : Heap) (al de : Addr) (kd : ClassId) (Se : own_E Z h0 al de kd) (SD : Sta Z h0 "java/util/ArrayList" "DEFAULTCAPACITY_EMPTY_ELEMENTDATA" "[Ljava/lang/Object;" (.ref de)) : Ow.Pay l Z (⟨"java/util/ArrayList", "grow", "()[Ljava/lang/Object;"⟩ : MethodName) jdk_38_method_7_code 1 (some (.array (.object "java/lang/Object"))) ({ frames := 2, cells := 1, slots := 10, locals := 29 } : Room) #[(.ref al)] h0 (fun v h L => ∃ ed ke, v = some (.ref ed) ∧ Ow.Eff h0 h [al] L ∧ h0.size ≤ ed ∧ own_L Z h al ed ke 0 [.null, .null, .null, .null, .null, .null, .null, .null, .null, .null]) := by
  refine Ow.Pay.of (Ls := #[.val (.ref al)]) (plainFor_of_name pn3) (fun m => by first | rfl | (simp [entryFrame, mkF, argsToLocals, Value.category]; done)) ?_
  intro p e s m below meth c T hx hby hml hown hnm hme hZ hret hlk X eT
  have F := Ow.Eff.refl h0 [al]
  refine Ow.aloadN X hx (pc := 0) (hb hby d12_0) rfl rfl ?_
  refine Ow.aloadN X hx (pc := 1) (hb hby d12_1) rfl rfl ?_
  refine Ow.getfield X hx hZ hown (ww hw 68 rfl) Via.refl eT Se.2.2.1 (pc := 2) (hb hby d12_2) ?_   -- "java/util/ArrayList" "size" "I"
  intro T X eT
  refine Ow.iconst X hx (pc := 5) (1) (hb hby d12_5) (by decide) ?_
  refine Ow.iadd X hx (pc := 6) (hb hby d12_6) ?_
  rw [show (0 + 1 : Int32) = 1 from by decide]
  refine Ow.callV X hx hZ (c_growI l Z a0 hw _ al de kd Se SD) eT hown (ww hw 80 rfl) (Ow.decl_of (ww hw 84 rfl) (ww hw 81 rfl)) (ww hw 83 rfl) (ww hw 81 rfl) (ww hw 39 rfl) (ww hw 84 rfl) (by decide) pd5 (by rw [hml]; rfl) Se.1 (argsL := [_]) rfl rfl rfl (pc := 7) (hb hby d12_7) rfl rfl (by decide) (by decide) ?_
  rintro _ T L X ⟨ed, ke, rfl, F3, l_e, R⟩
  dsimp only [Option.toList_some, Option.toList_none, List.cons_append, List.nil_append]
  have F := F.call F3 (fun y hy => by cases List.mem_singleton.mp hy; exact Or.inl (by simp))
  exact Ow.areturn X hx hlk hret rfl rfl rfl (hb hby d12_10) ⟨ed, ke, rfl, F, l_e, R⟩ (by decide) (by decide)
theorem d11_0 : decode jdk_38_method_24_code 0 = .ok (.iload_n 3, 1) := by decide +kernel
theorem d11_1 : decode jdk_38_method_24_code 1 = .ok (.aload_n 2, 1) := by decide +kernel
theorem d11_2 : decode jdk_38_method_24_code 2 = .ok (.arraylength, 1) := by decide +kernel
theorem d11_3 : decode jdk_38_method_24_code 3 = .ok (.if_icmp .ne 8, 3) := by decide +kernel
theorem d11_6 : decode jdk_38_method_24_code 6 = .ok (.aload_n 0, 1) := by decide +kernel
theorem d11_7 : decode jdk_38_method_24_code 7 = .ok (.invokevirtual 129, 3) := by decide +kernel
theorem d11_10 : decode jdk_38_method_24_code 10 = .ok (.astore_n 2, 1) := by decide +kernel
theorem d11_11 : decode jdk_38_method_24_code 11 = .ok (.aload_n 2, 1) := by decide +kernel
theorem d11_12 : decode jdk_38_method_24_code 12 = .ok (.iload_n 3, 1) := by decide +kernel
theorem d11_13 : decode jdk_38_method_24_code 13 = .ok (.aload_n 1, 1) := by decide +kernel
theorem d11_14 : decode jdk_38_method_24_code 14 = .ok (.aastore, 1) := by decide +kernel
theorem d11_15 : decode jdk_38_method_24_code 15 = .ok (.aload_n 0, 1) := by decide +kernel
theorem d11_16 : decode jdk_38_method_24_code 16 = .ok (.iload_n 3, 1) := by decide +kernel
theorem d11_17 : decode jdk_38_method_24_code 17 = .ok (.iconst 1, 1) := by decide +kernel
theorem d11_18 : decode jdk_38_method_24_code 18 = .ok (.iadd, 1) := by decide +kernel
theorem d11_19 : decode jdk_38_method_24_code 19 = .ok (.putfield 48, 3) := by decide +kernel
theorem d11_22 : decode jdk_38_method_24_code 22 = .ok (.return_, 1) := by decide +kernel
set_option maxRecDepth 65536 in
set_option maxHeartbeats 4000000 in
theorem c_addPE (l : Launch) (Z : State) (a0 : Array Value) (hw : ∀ d ∈ tables_1, d.before a0 Z = true) (h0 : Heap) (al de : Addr) (kd : ClassId) (Se : own_E Z h0 al de kd) (SD : Sta Z h0 "java/util/ArrayList" "DEFAULTCAPACITY_EMPTY_ELEMENTDATA" "[Ljava/lang/Object;" (.ref de)) (x : Addr) (Ex : Exa Z h0 x "java/lang/String") : Ow.Pay l Z (⟨"java/util/ArrayList", "add", "(Ljava/lang/Object;[Ljava/lang/Object;I)V"⟩ : MethodName) jdk_38_method_24_code 4 none ({ frames := 3, cells := 1, slots := 10, locals := 41 } : Room) #[(.ref al), (.ref x), (.ref de), (.int 0)] h0 (fun v h L => v = none ∧ Ow.Eff h0 h [al] L ∧ ∃ ed ke, h0.size ≤ ed ∧ own_L Z h al ed ke 1 [.ref x, .null, .null, .null, .null, .null, .null, .null, .null, .null]) := by
  refine Ow.Pay.of (Ls := #[.val (.ref al), .val (.ref x), .val (.ref de), .val (.int 0)]) (plainFor_of_name pn3) (fun m => by first | rfl | (simp [entryFrame, mkF, argsToLocals, Value.category]; done)) ?_
  intro p e s m below meth c T hx hby hml hown hnm hme hZ hret hlk X eT
  have F := Ow.Eff.refl h0 [al]
  have sn_elementData_size : RoadKit.slotOf Z "java/util/ArrayList" "elementData" "[Ljava/lang/Object;" ≠ RoadKit.slotOf Z "java/util/ArrayList" "size" "I" := slot_ne (a0 := a0) (C := "java/util/ArrayList") (Or.inl (ww hw 60 rfl)) (Or.inl (ww hw 69 rfl)) (by decide) (t := (.array (.object "java/lang/Object"))) (t' := .int) (by decide) (by decide)
  have sn_elementData_modCount : RoadKit.slotOf Z "java/util/ArrayList" "elementData" "[Ljava/lang/Object;" ≠ RoadKit.slotOf Z "java/util/AbstractList" "modCount" "I" := slot_ne (a0 := a0) (C := "java/util/ArrayList") (Or.inl (ww hw 60 rfl)) (Or.inl (ww hw 57 rfl)) (by decide) (t := (.array (.object "java/lang/Object"))) (t' := .int) (by decide) (by decide)
  have sn_size_modCount : RoadKit.slotOf Z "java/util/ArrayList" "size" "I" ≠ RoadKit.slotOf Z "java/util/AbstractList" "modCount" "I" := slot_ne (a0 := a0) (C := "java/util/ArrayList") (Or.inl (ww hw 69 rfl)) (Or.inl (ww hw 57 rfl)) (by decide) (t := .int) (t' := .int) (by decide) (by decide)
  have hal := Se.lt
  refine Ow.iloadN X hx (pc := 0) (hb hby d11_0) rfl ?_
  refine Ow.aloadN X hx (pc := 1) (hb hby d11_1) rfl rfl ?_
  refine Ow.lengthL X hx hZ eT Se.2.2.2.2 0 rfl (pc := 2) (hb hby d11_2) ?_
  refine Ow.icmp_ne X hx (pc := 3) (pc' := 11) (hb hby d11_3) (by decide) (by decide) (fun q => absurd rfl q) (fun h3 => ?_)
  refine Ow.aloadN X hx (pc := 6) (hb hby d11_6) rfl rfl ?_
  refine Ow.callV X hx hZ (c_grow0 l Z a0 hw _ al de kd Se SD) eT hown (ww hw 75 rfl) (Ow.decl_of (ww hw 79 rfl) (ww hw 76 rfl)) (ww hw 78 rfl) (ww hw 76 rfl) (ww hw 39 rfl) (ww hw 79 rfl) (by decide) pd6 (by rw [hml]; rfl) Se.1 (argsL := []) rfl rfl rfl (pc := 7) (hb hby d11_7) rfl rfl (by decide) (by decide) ?_
  rintro _ T L X ⟨ed, ke, rfl, F2, l_e, R0⟩
  dsimp only [Option.toList_some, Option.toList_none, List.cons_append, List.nil_append]
  have F := F.call F2 (fun y hy => by cases List.mem_singleton.mp hy; exact Or.inl (by simp))
  have Ex := Ex.keep F2.1
  have ne_ae : al ≠ ed := Nat.ne_of_lt (Nat.lt_of_lt_of_le hal l_e)
  obtain ⟨h_7, e_7⟩ : ∃ q, q = T.heap := ⟨_, rfl⟩
  rw [← e_7] at F Ex R0
  have eT : T.heap = h_7 := e_7.symm
  refine Ow.astoreN X hx (pc := 10) #[_, _, _, _] (hb hby d11_10) rfl rfl ?_
  refine Ow.aloadN X hx (pc := 11) (hb hby d11_11) rfl rfl ?_
  refine Ow.iloadN X hx (pc := 12) (hb hby d11_12) rfl ?_
  refine Ow.aloadN X hx (pc := 13) (hb hby d11_13) rfl rfl ?_
  refine Ow.aastoreL X hx hZ eT R0.2.2.2.2.1 rfl (Ow.sto_of R0.2.2.2.2.1 R0.2.2.2.2.2 Ex (ww hw 91 rfl)) 0 [_, _, _, _, _, _, _, _, _, _] (by decide) (by decide) rfl rfl (pc := 14) (hb hby d11_14) ?_
  intro T h_14 X eT W1 B1
  have E1 := R0.1.wr W1
  have Fe1 := R0.2.1.other W1 (Or.inl ne_ae)
  have Fs1 := R0.2.2.1.other W1 (Or.inl ne_ae)
  obtain ⟨mc, Fm1⟩ := R0.2.2.2.1
  have Fm1 := Fm1.other W1 (Or.inl ne_ae)
  have F := F.wr W1 (Or.inr l_e)
  refine Ow.aloadN X hx (pc := 15) (hb hby d11_15) rfl rfl ?_
  refine Ow.iloadN X hx (pc := 16) (hb hby d11_16) rfl ?_
  refine Ow.iconst X hx (pc := 17) (1) (hb hby d11_17) (by decide) ?_
  refine Ow.iadd X hx (pc := 18) (hb hby d11_18) ?_
  rw [show (0 + 1 : Int32) = 1 from by decide]
  refine Ow.putfield X hx hZ hown (ww hw 68 rfl) Via.refl eT Fs1 E1 (Or.inl (ww hw 69 rfl)) (ww hw 38 rfl) (ty := .int) (by decide) rfl rfl (pc := 19) (hb hby d11_19) ?_
  intro T h_19 X eT W2
  have F := F.wr W2 (Or.inl (by simp))
  have R : own_L Z h_19 al ed ke 1 [.ref x, .null, .null, .null, .null, .null, .null, .null, .null, .null] := ⟨E1.wr W2, Fe1.other W2 (Or.inr sn_elementData_size), Fs1.same W2, ⟨mc, Fm1.other W2 (Or.inr (Ne.symm sn_size_modCount))⟩, B1.other W2 (Ne.symm ne_ae), R0.2.2.2.2.2⟩
  exact Ow.vreturn X hx hlk hret (hb hby d11_22) ⟨rfl, by rw [eT]; exact F, ed, ke, l_e, by rw [eT]; exact R⟩ (by decide) (by decide)
set_option maxRecDepth 65536 in
set_option maxHeartbeats 4000000 in
theorem c_addPL1 (l : Launch) (Z : State) (a0 : Array Value) (hw : ∀ d ∈ tables_1, d.before a0 Z = true) (h0 : Heap) (al ed : Addr) (ke : ClassId) (y0 : Addr) (Sl : own_L Z h0 al ed ke 1 [.ref y0, .null, .null, .null, .null, .null, .null, .null, .null, .null]) (ne_ae : al ≠ ed) (x : Addr) (Ex : Exa Z h0 x "java/lang/String") : Ow.Pay l Z (⟨"java/util/ArrayList", "add", "(Ljava/lang/Object;[Ljava/lang/Object;I)V"⟩ : MethodName) jdk_38_method_24_code 4 none ({ frames := 0, cells := 0, slots := 0, locals := 0 } : Room) #[(.ref al), (.ref x), (.ref ed), (.int 1)] h0 (fun v h L => v = none ∧ Ow.Eff h0 h [al, ed] L ∧ own_L Z h al ed ke 2 [.ref y0, .ref x, .null, .null, .null, .null, .null, .null, .null, .null]) := by
  refine Ow.Pay.of (Ls := #[.val (.ref al), .val (.ref x), .val (.ref ed), .val (.int 1)]) (plainFor_of_name pn3) (fun m => by first | rfl | (simp [entryFrame, mkF, argsToLocals, Value.category]; done)) ?_
  intro p e s m below meth c T hx hby hml hown hnm hme hZ hret hlk X eT
  have F := Ow.Eff.refl h0 [al, ed]
  have sn_elementData_size : RoadKit.slotOf Z "java/util/ArrayList" "elementData" "[Ljava/lang/Object;" ≠ RoadKit.slotOf Z "java/util/ArrayList" "size" "I" := slot_ne (a0 := a0) (C := "java/util/ArrayList") (Or.inl (ww hw 60 rfl)) (Or.inl (ww hw 69 rfl)) (by decide) (t := (.array (.object "java/lang/Object"))) (t' := .int) (by decide) (by decide)
  have sn_elementData_modCount : RoadKit.slotOf Z "java/util/ArrayList" "elementData" "[Ljava/lang/Object;" ≠ RoadKit.slotOf Z "java/util/AbstractList" "modCount" "I" := slot_ne (a0 := a0) (C := "java/util/ArrayList") (Or.inl (ww hw 60 rfl)) (Or.inl (ww hw 57 rfl)) (by decide) (t := (.array (.object "java/lang/Object"))) (t' := .int) (by decide) (by decide)
  have sn_size_modCount : RoadKit.slotOf Z "java/util/ArrayList" "size" "I" ≠ RoadKit.slotOf Z "java/util/AbstractList" "modCount" "I" := slot_ne (a0 := a0) (C := "java/util/ArrayList") (Or.inl (ww hw 69 rfl)) (Or.inl (ww hw 57 rfl)) (by decide) (t := .int) (t' := .int) (by decide) (by decide)
  refine Ow.iloadN X hx (pc := 0) (hb hby d11_0) rfl ?_
  refine Ow.aloadN X hx (pc := 1) (hb hby d11_1) rfl rfl ?_
  refine Ow.lengthL X hx hZ eT Sl.2.2.2.2.1 10 rfl (pc := 2) (hb hby d11_2) ?_
  refine Ow.icmp_ne X hx (pc := 3) (pc' := 11) (hb hby d11_3) (by decide) (by decide) (fun h3 => ?_) (fun q => absurd q (by decide))
  refine Ow.aloadN X hx (pc := 11) (hb hby d11_11) rfl rfl ?_
  refine Ow.iloadN X hx (pc := 12) (hb hby d11_12) rfl ?_
  refine Ow.aloadN X hx (pc := 13) (hb hby d11_13) rfl rfl ?_
  refine Ow.aastoreL X hx hZ eT Sl.2.2.2.2.1 rfl (Ow.sto_of Sl.2.2.2.2.1 Sl.2.2.2.2.2 Ex (ww hw 91 rfl)) 1 [_, _, _, _, _, _, _, _, _, _] (by decide) (by decide) rfl rfl (pc := 14) (hb hby d11_14) ?_
  intro T h_14 X eT W1 B1
  have E1 := Sl.1.wr W1
  have Fe1 := Sl.2.1.other W1 (Or.inl ne_ae)
  have Fs1 := Sl.2.2.1.other W1 (Or.inl ne_ae)
  obtain ⟨mc, Fm1⟩ := Sl.2.2.2.1
  have Fm1 := Fm1.other W1 (Or.inl ne_ae)
  have F := F.wr W1 (Or.inl (by simp))
  refine Ow.aloadN X hx (pc := 15) (hb hby d11_15) rfl rfl ?_
  refine Ow.iloadN X hx (pc := 16) (hb hby d11_16) rfl ?_
  refine Ow.iconst X hx (pc := 17) (1) (hb hby d11_17) (by decide) ?_
  refine Ow.iadd X hx (pc := 18) (hb hby d11_18) ?_
  rw [show (1 + 1 : Int32) = 2 from by decide]
  refine Ow.putfield X hx hZ hown (ww hw 68 rfl) Via.refl eT Fs1 E1 (Or.inl (ww hw 69 rfl)) (ww hw 38 rfl) (ty := .int) (by decide) rfl rfl (pc := 19) (hb hby d11_19) ?_
  intro T h_19 X eT W2
  have F := F.wr W2 (Or.inl (by simp))
  have R : own_L Z h_19 al ed ke 2 [.ref y0, .ref x, .null, .null, .null, .null, .null, .null, .null, .null] := ⟨E1.wr W2, Fe1.other W2 (Or.inr sn_elementData_size), Fs1.same W2, ⟨mc, Fm1.other W2 (Or.inr (Ne.symm sn_size_modCount))⟩, B1.other W2 (Ne.symm ne_ae), Sl.2.2.2.2.2⟩
  exact Ow.vreturn X hx hlk hret (hb hby d11_22) ⟨rfl, by rw [eT]; exact F, by rw [eT]; exact R⟩ (by decide) (by decide)
set_option maxRecDepth 65536 in
set_option maxHeartbeats 4000000 in
theorem c_addPL2 (l : Launch) (Z : State) (a0 : Array Value) (hw : ∀ d ∈ tables_1, d.before a0 Z = true) (h0 : Heap) (al ed : Addr) (ke : ClassId) (y0 y1 : Addr) (Sl : own_L Z h0 al ed ke 2 [.ref y0, .ref y1, .null, .null, .null, .null, .null, .null, .null, .null]) (ne_ae : al ≠ ed) (x : Addr) (Ex : Exa Z h0 x "java/lang/String") : Ow.Pay l Z (⟨"java/util/ArrayList", "add", "(Ljava/lang/Object;[Ljava/lang/Object;I)V"⟩ : MethodName) jdk_38_method_24_code 4 none ({ frames := 0, cells := 0, slots := 0, locals := 0 } : Room) #[(.ref al), (.ref x), (.ref ed), (.int 2)] h0 (fun v h L => v = none ∧ Ow.Eff h0 h [al, ed] L ∧ own_L Z h al ed ke 3 [.ref y0, .ref y1, .ref x, .null, .null, .null, .null, .null, .null, .null]) := by
  refine Ow.Pay.of (Ls := #[.val (.ref al), .val (.ref x), .val (.ref ed), .val (.int 2)]) (plainFor_of_name pn3) (fun m => by first | rfl | (simp [entryFrame, mkF, argsToLocals, Value.category]; done)) ?_
  intro p e s m below meth c T hx hby hml hown hnm hme hZ hret hlk X eT
  have F := Ow.Eff.refl h0 [al, ed]
  have sn_elementData_size : RoadKit.slotOf Z "java/util/ArrayList" "elementData" "[Ljava/lang/Object;" ≠ RoadKit.slotOf Z "java/util/ArrayList" "size" "I" := slot_ne (a0 := a0) (C := "java/util/ArrayList") (Or.inl (ww hw 60 rfl)) (Or.inl (ww hw 69 rfl)) (by decide) (t := (.array (.object "java/lang/Object"))) (t' := .int) (by decide) (by decide)
  have sn_elementData_modCount : RoadKit.slotOf Z "java/util/ArrayList" "elementData" "[Ljava/lang/Object;" ≠ RoadKit.slotOf Z "java/util/AbstractList" "modCount" "I" := slot_ne (a0 := a0) (C := "java/util/ArrayList") (Or.inl (ww hw 60 rfl)) (Or.inl (ww hw 57 rfl)) (by decide) (t := (.array (.object "java/lang/Object"))) (t' := .int) (by decide) (by decide)
  have sn_size_modCount : RoadKit.slotOf Z "java/util/ArrayList" "size" "I" ≠ RoadKit.slotOf Z "java/util/AbstractList" "modCount" "I" := slot_ne (a0 := a0) (C := "java/util/ArrayList") (Or.inl (ww hw 69 rfl)) (Or.inl (ww hw 57 rfl)) (by decide) (t := .int) (t' := .int) (by decide) (by decide)
  refine Ow.iloadN X hx (pc := 0) (hb hby d11_0) rfl ?_
  refine Ow.aloadN X hx (pc := 1) (hb hby d11_1) rfl rfl ?_
  refine Ow.lengthL X hx hZ eT Sl.2.2.2.2.1 10 rfl (pc := 2) (hb hby d11_2) ?_
  refine Ow.icmp_ne X hx (pc := 3) (pc' := 11) (hb hby d11_3) (by decide) (by decide) (fun h3 => ?_) (fun q => absurd q (by decide))
  refine Ow.aloadN X hx (pc := 11) (hb hby d11_11) rfl rfl ?_
  refine Ow.iloadN X hx (pc := 12) (hb hby d11_12) rfl ?_
  refine Ow.aloadN X hx (pc := 13) (hb hby d11_13) rfl rfl ?_
  refine Ow.aastoreL X hx hZ eT Sl.2.2.2.2.1 rfl (Ow.sto_of Sl.2.2.2.2.1 Sl.2.2.2.2.2 Ex (ww hw 91 rfl)) 2 [_, _, _, _, _, _, _, _, _, _] (by decide) (by decide) rfl rfl (pc := 14) (hb hby d11_14) ?_
  intro T h_14 X eT W1 B1
  have E1 := Sl.1.wr W1
  have Fe1 := Sl.2.1.other W1 (Or.inl ne_ae)
  have Fs1 := Sl.2.2.1.other W1 (Or.inl ne_ae)
  obtain ⟨mc, Fm1⟩ := Sl.2.2.2.1
  have Fm1 := Fm1.other W1 (Or.inl ne_ae)
  have F := F.wr W1 (Or.inl (by simp))
  refine Ow.aloadN X hx (pc := 15) (hb hby d11_15) rfl rfl ?_
  refine Ow.iloadN X hx (pc := 16) (hb hby d11_16) rfl ?_
  refine Ow.iconst X hx (pc := 17) (1) (hb hby d11_17) (by decide) ?_
  refine Ow.iadd X hx (pc := 18) (hb hby d11_18) ?_
  rw [show (2 + 1 : Int32) = 3 from by decide]
  refine Ow.putfield X hx hZ hown (ww hw 68 rfl) Via.refl eT Fs1 E1 (Or.inl (ww hw 69 rfl)) (ww hw 38 rfl) (ty := .int) (by decide) rfl rfl (pc := 19) (hb hby d11_19) ?_
  intro T h_19 X eT W2
  have F := F.wr W2 (Or.inl (by simp))
  have R : own_L Z h_19 al ed ke 3 [.ref y0, .ref y1, .ref x, .null, .null, .null, .null, .null, .null, .null] := ⟨E1.wr W2, Fe1.other W2 (Or.inr sn_elementData_size), Fs1.same W2, ⟨mc, Fm1.other W2 (Or.inr (Ne.symm sn_size_modCount))⟩, B1.other W2 (Ne.symm ne_ae), Sl.2.2.2.2.2⟩
  exact Ow.vreturn X hx hlk hret (hb hby d11_22) ⟨rfl, by rw [eT]; exact F, by rw [eT]; exact R⟩ (by decide) (by decide)
theorem d10_0 : decode jdk_38_method_25_code 0 = .ok (.aload_n 0, 1) := by decide +kernel
theorem d10_1 : decode jdk_38_method_25_code 1 = .ok (.dup, 1) := by decide +kernel
theorem d10_2 : decode jdk_38_method_25_code 2 = .ok (.getfield 63, 3) := by decide +kernel
theorem d10_5 : decode jdk_38_method_25_code 5 = .ok (.iconst 1, 1) := by decide +kernel
theorem d10_6 : decode jdk_38_method_25_code 6 = .ok (.iadd, 1) := by decide +kernel
theorem d10_7 : decode jdk_38_method_25_code 7 = .ok (.putfield 63, 3) := by decide +kernel
theorem d10_10 : decode jdk_38_method_25_code 10 = .ok (.aload_n 0, 1) := by decide +kernel
theorem d10_11 : decode jdk_38_method_25_code 11 = .ok (.aload_n 1, 1) := by decide +kernel
theorem d10_12 : decode jdk_38_method_25_code 12 = .ok (.aload_n 0, 1) := by decide +kernel
theorem d10_13 : decode jdk_38_method_25_code 13 = .ok (.getfield 9, 3) := by decide +kernel
theorem d10_16 : decode jdk_38_method_25_code 16 = .ok (.aload_n 0, 1) := by decide +kernel
theorem d10_17 : decode jdk_38_method_25_code 17 = .ok (.getfield 48, 3) := by decide +kernel
theorem d10_20 : decode jdk_38_method_25_code 20 = .ok (.invokevirtual 131, 3) := by decide +kernel
theorem d10_23 : decode jdk_38_method_25_code 23 = .ok (.iconst 1, 1) := by decide +kernel
theorem d10_24 : decode jdk_38_method_25_code 24 = .ok (.ireturn, 1) := by decide +kernel
set_option maxRecDepth 65536 in
set_option maxHeartbeats 4000000 in
theorem c_addE (l : Launch) (Z : State) (a0 : Array Value) (hw : ∀ d ∈ tables_1, d.before a0 Z = true) (h0 : Heap) (al de : Addr) (kd : ClassId) (Se : own_E Z h0 al de kd) (SD : Sta Z h0 "java/util/ArrayList" "DEFAULTCAPACITY_EMPTY_ELEMENTDATA" "[Ljava/lang/Object;" (.ref de)) (ne : de ≠ al) (x : Addr) (Ex : Exa Z h0 x "java/lang/String") : Ow.Pay l Z (⟨"java/util/ArrayList", "add", "(Ljava/lang/Object;)Z"⟩ : MethodName) jdk_38_method_25_code 2 (some .boolean) ({ frames := 4, cells := 1, slots := 10, locals := 57 } : Room) #[(.ref al), (.ref x)] h0 (fun v h L => v = some (.int 1) ∧ Ow.Eff h0 h [al] L ∧ ∃ ed ke, h0.size ≤ ed ∧ own_L Z h al ed ke 1 [.ref x, .null, .null, .null, .null, .null, .null, .null, .null, .null]) := by
  refine Ow.Pay.of (Ls := #[.val (.ref al), .val (.ref x)]) (plainFor_of_name pn3) (fun m => by first | rfl | (simp [entryFrame, mkF, argsToLocals, Value.category]; done)) ?_
  intro p e s m below meth c T hx hby hml hown hnm hme hZ hret hlk X eT
  have F := Ow.Eff.refl h0 [al]
  have sn_elementData_size : RoadKit.slotOf Z "java/util/ArrayList" "elementData" "[Ljava/lang/Object;" ≠ RoadKit.slotOf Z "java/util/ArrayList" "size" "I" := slot_ne (a0 := a0) (C := "java/util/ArrayList") (Or.inl (ww hw 60 rfl)) (Or.inl (ww hw 69 rfl)) (by decide) (t := (.array (.object "java/lang/Object"))) (t' := .int) (by decide) (by decide)
  have sn_elementData_modCount : RoadKit.slotOf Z "java/util/ArrayList" "elementData" "[Ljava/lang/Object;" ≠ RoadKit.slotOf Z "java/util/AbstractList" "modCount" "I" := slot_ne (a0 := a0) (C := "java/util/ArrayList") (Or.inl (ww hw 60 rfl)) (Or.inl (ww hw 57 rfl)) (by decide) (t := (.array (.object "java/lang/Object"))) (t' := .int) (by decide) (by decide)
  have sn_size_modCount : RoadKit.slotOf Z "java/util/ArrayList" "size" "I" ≠ RoadKit.slotOf Z "java/util/AbstractList" "modCount" "I" := slot_ne (a0 := a0) (C := "java/util/ArrayList") (Or.inl (ww hw 69 rfl)) (Or.inl (ww hw 57 rfl)) (by decide) (t := .int) (t' := .int) (by decide) (by decide)
  obtain ⟨mc, Fm⟩ := Se.2.2.2.1
  have hal := Se.lt
  refine Ow.aloadN X hx (pc := 0) (hb hby d10_0) rfl rfl ?_
  refine Ow.dup X hx (pc := 1) (hb hby d10_1) rfl ?_
  refine Ow.getfield X hx hZ hown (ww hw 66 rfl) (Via.of (ww hw 67 rfl)) eT Fm (pc := 2) (hb hby d10_2) ?_
  intro T X eT
  refine Ow.iconst X hx (pc := 5) (1) (hb hby d10_5) (by decide) ?_
  refine Ow.iadd X hx (pc := 6) (hb hby d10_6) ?_
  refine Ow.putfield X hx hZ hown (ww hw 66 rfl) (Via.of (ww hw 67 rfl)) eT Fm Se.1 (Or.inl (ww hw 57 rfl)) (ww hw 38 rfl) (ty := .int) (by decide) rfl rfl (pc := 7) (hb hby d10_7) ?_
  intro T h_7 X eT W
  have F := F.wr W (Or.inl (by simp))
  have Ex := Ex.wr W
  have SD := SD.wr W
  have Se : own_E Z h_7 al de kd := ⟨Se.1.wr W, Se.2.1.other W (Or.inr sn_elementData_modCount), Se.2.2.1.other W (Or.inr sn_size_modCount), ⟨_, Fm.same W⟩, Se.2.2.2.2.other W ne⟩
  refine Ow.aloadN X hx (pc := 10) (hb hby d10_10) rfl rfl ?_
  refine Ow.aloadN X hx (pc := 11) (hb hby d10_11) rfl rfl ?_
  refine Ow.aloadN X hx (pc := 12) (hb hby d10_12) rfl rfl ?_
  refine Ow.getfield X hx hZ hown (ww hw 59 rfl) Via.refl eT Se.2.1 (pc := 13) (hb hby d10_13) ?_   -- "java/util/ArrayList" "elementData" "[Ljava/lang/Object;"
  intro T X eT
  refine Ow.aloadN X hx (pc := 16) (hb hby d10_16) rfl rfl ?_
  refine Ow.getfield X hx hZ hown (ww hw 68 rfl) Via.refl eT Se.2.2.1 (pc := 17) (hb hby d10_17) ?_   -- "java/util/ArrayList" "size" "I"
  intro T X eT
  refine Ow.callV X hx hZ (c_addPE l Z a0 hw _ al de kd Se SD x Ex) eT hown (ww hw 70 rfl) (Ow.decl_of (ww hw 74 rfl) (ww hw 71 rfl)) (ww hw 73 rfl) (ww hw 71 rfl) (ww hw 39 rfl) (ww hw 74 rfl) (by decide) pd7 (by rw [hml]; rfl) Se.1 (argsL := [_, _, _]) rfl rfl rfl (pc := 20) (hb hby d10_20) rfl rfl (by decide) (by decide) ?_
  rintro _ T L X ⟨rfl, F2, ed, ke, l_e, R⟩
  dsimp only [Option.toList_some, Option.toList_none, List.cons_append, List.nil_append]
  have l_e := Nat.le_trans F.size l_e
  have F := F.call F2 (fun y hy => by cases List.mem_singleton.mp hy; exact Or.inl (by simp))
  refine Ow.iconst X hx (pc := 23) (1) (hb hby d10_23) (by decide) ?_
  exact Ow.nreturn X hx hlk hret (Or.inl rfl) (hb hby d10_24) ⟨rfl, F, ed, ke, l_e, R⟩ (by decide) (by decide)
set_option maxRecDepth 65536 in
set_option maxHeartbeats 4000000 in
theorem c_addL1 (l : Launch) (Z : State) (a0 : Array Value) (hw : ∀ d ∈ tables_1, d.before a0 Z = true) (h0 : Heap) (al ed : Addr) (ke : ClassId) (y0 : Addr) (Sl : own_L Z h0 al ed ke 1 [.ref y0, .null, .null, .null, .null, .null, .null, .null, .null, .null]) (ne_ae : al ≠ ed) (x : Addr) (Ex : Exa Z h0 x "java/lang/String") : Ow.Pay l Z (⟨"java/util/ArrayList", "add", "(Ljava/lang/Object;)Z"⟩ : MethodName) jdk_38_method_25_code 2 (some .boolean) ({ frames := 1, cells := 0, slots := 0, locals := 15 } : Room) #[(.ref al), (.ref x)] h0 (fun v h L => v = some (.int 1) ∧ Ow.Eff h0 h [al, ed] L ∧ own_L Z h al ed ke 2 [.ref y0, .ref x, .null, .null, .null, .null, .null, .null, .null, .null]) := by
  refine Ow.Pay.of (Ls := #[.val (.ref al), .val (.ref x)]) (plainFor_of_name pn3) (fun m => by first | rfl | (simp [entryFrame, mkF, argsToLocals, Value.category]; done)) ?_
  intro p e s m below meth c T hx hby hml hown hnm hme hZ hret hlk X eT
  have F := Ow.Eff.refl h0 [al, ed]
  have sn_elementData_size : RoadKit.slotOf Z "java/util/ArrayList" "elementData" "[Ljava/lang/Object;" ≠ RoadKit.slotOf Z "java/util/ArrayList" "size" "I" := slot_ne (a0 := a0) (C := "java/util/ArrayList") (Or.inl (ww hw 60 rfl)) (Or.inl (ww hw 69 rfl)) (by decide) (t := (.array (.object "java/lang/Object"))) (t' := .int) (by decide) (by decide)
  have sn_elementData_modCount : RoadKit.slotOf Z "java/util/ArrayList" "elementData" "[Ljava/lang/Object;" ≠ RoadKit.slotOf Z "java/util/AbstractList" "modCount" "I" := slot_ne (a0 := a0) (C := "java/util/ArrayList") (Or.inl (ww hw 60 rfl)) (Or.inl (ww hw 57 rfl)) (by decide) (t := (.array (.object "java/lang/Object"))) (t' := .int) (by decide) (by decide)
  have sn_size_modCount : RoadKit.slotOf Z "java/util/ArrayList" "size" "I" ≠ RoadKit.slotOf Z "java/util/AbstractList" "modCount" "I" := slot_ne (a0 := a0) (C := "java/util/ArrayList") (Or.inl (ww hw 69 rfl)) (Or.inl (ww hw 57 rfl)) (by decide) (t := .int) (t' := .int) (by decide) (by decide)
  obtain ⟨mc, Fm⟩ := Sl.2.2.2.1
  have hal := Sl.lt
  refine Ow.aloadN X hx (pc := 0) (hb hby d10_0) rfl rfl ?_
  refine Ow.dup X hx (pc := 1) (hb hby d10_1) rfl ?_
  refine Ow.getfield X hx hZ hown (ww hw 66 rfl) (Via.of (ww hw 67 rfl)) eT Fm (pc := 2) (hb hby d10_2) ?_
  intro T X eT
  refine Ow.iconst X hx (pc := 5) (1) (hb hby d10_5) (by decide) ?_
  refine Ow.iadd X hx (pc := 6) (hb hby d10_6) ?_
  refine Ow.putfield X hx hZ hown (ww hw 66 rfl) (Via.of (ww hw 67 rfl)) eT Fm Sl.1 (Or.inl (ww hw 57 rfl)) (ww hw 38 rfl) (ty := .int) (by decide) rfl rfl (pc := 7) (hb hby d10_7) ?_
  intro T h_7 X eT W
  have F := F.wr W (Or.inl (by simp))
  have Ex := Ex.wr W
  have Sl : own_L Z h_7 al ed ke 1 [.ref y0, .null, .null, .null, .null, .null, .null, .null, .null, .null] := ⟨Sl.1.wr W, Sl.2.1.other W (Or.inr sn_elementData_modCount), Sl.2.2.1.other W (Or.inr sn_size_modCount), ⟨_, Fm.same W⟩, Sl.2.2.2.2.1.other W (Ne.symm ne_ae), Sl.2.2.2.2.2⟩
  refine Ow.aloadN X hx (pc := 10) (hb hby d10_10) rfl rfl ?_
  refine Ow.aloadN X hx (pc := 11) (hb hby d10_11) rfl rfl ?_
  refine Ow.aloadN X hx (pc := 12) (hb hby d10_12) rfl rfl ?_
  refine Ow.getfield X hx hZ hown (ww hw 59 rfl) Via.refl eT Sl.2.1 (pc := 13) (hb hby d10_13) ?_   -- "java/util/ArrayList" "elementData" "[Ljava/lang/Object;"
  intro T X eT
  refine Ow.aloadN X hx (pc := 16) (hb hby d10_16) rfl rfl ?_
  refine Ow.getfield X hx hZ hown (ww hw 68 rfl) Via.refl eT Sl.2.2.1 (pc := 17) (hb hby d10_17) ?_   -- "java/util/ArrayList" "size" "I"
  intro T X eT
  refine Ow.callV X hx hZ (c_addPL1 l Z a0 hw _ al ed ke y0 Sl ne_ae x Ex) eT hown (ww hw 70 rfl) (Ow.decl_of (ww hw 74 rfl) (ww hw 71 rfl)) (ww hw 73 rfl) (ww hw 71 rfl) (ww hw 39 rfl) (ww hw 74 rfl) (by decide) pd7 (by rw [hml]; rfl) Sl.1 (argsL := [_, _, _]) rfl rfl rfl (pc := 20) (hb hby d10_20) rfl rfl (by decide) (by decide) ?_
  rintro _ T L X ⟨rfl, F2, R⟩
  dsimp only [Option.toList_some, Option.toList_none, List.cons_append, List.nil_append]
  have F := F.call F2 (fun y hy => Or.inl hy)
  refine Ow.iconst X hx (pc := 23) (1) (hb hby d10_23) (by decide) ?_
  exact Ow.nreturn X hx hlk hret (Or.inl rfl) (hb hby d10_24) ⟨rfl, F, R⟩ (by decide) (by decide)
set_option maxRecDepth 65536 in
set_option maxHeartbeats 4000000 in
theorem c_addL2 (l : Launch) (Z : State) (a0 : Array Value) (hw : ∀ d ∈ tables_1, d.before a0 Z = true) (h0 : Heap) (al ed : Addr) (ke : ClassId) (y0 y1 : Addr) (Sl : own_L Z h0 al ed ke 2 [.ref y0, .ref y1, .null, .null, .null, .null, .null, .null, .null, .null]) (ne_ae : al ≠ ed) (x : Addr) (Ex : Exa Z h0 x "java/lang/String") : Ow.Pay l Z (⟨"java/util/ArrayList", "add", "(Ljava/lang/Object;)Z"⟩ : MethodName) jdk_38_method_25_code 2 (some .boolean) ({ frames := 1, cells := 0, slots := 0, locals := 15 } : Room) #[(.ref al), (.ref x)] h0 (fun v h L => v = some (.int 1) ∧ Ow.Eff h0 h [al, ed] L ∧ own_L Z h al ed ke 3 [.ref y0, .ref y1, .ref x, .null, .null, .null, .null, .null, .null, .null]) := by
  refine Ow.Pay.of (Ls := #[.val (.ref al), .val (.ref x)]) (plainFor_of_name pn3) (fun m => by first | rfl | (simp [entryFrame, mkF, argsToLocals, Value.category]; done)) ?_
  intro p e s m below meth c T hx hby hml hown hnm hme hZ hret hlk X eT
  have F := Ow.Eff.refl h0 [al, ed]
  have sn_elementData_size : RoadKit.slotOf Z "java/util/ArrayList" "elementData" "[Ljava/lang/Object;" ≠ RoadKit.slotOf Z "java/util/ArrayList" "size" "I" := slot_ne (a0 := a0) (C := "java/util/ArrayList") (Or.inl (ww hw 60 rfl)) (Or.inl (ww hw 69 rfl)) (by decide) (t := (.array (.object "java/lang/Object"))) (t' := .int) (by decide) (by decide)
  have sn_elementData_modCount : RoadKit.slotOf Z "java/util/ArrayList" "elementData" "[Ljava/lang/Object;" ≠ RoadKit.slotOf Z "java/util/AbstractList" "modCount" "I" := slot_ne (a0 := a0) (C := "java/util/ArrayList") (Or.inl (ww hw 60 rfl)) (Or.inl (ww hw 57 rfl)) (by decide) (t := (.array (.object "java/lang/Object"))) (t' := .int) (by decide) (by decide)
  have sn_size_modCount : RoadKit.slotOf Z "java/util/ArrayList" "size" "I" ≠ RoadKit.slotOf Z "java/util/AbstractList" "modCount" "I" := slot_ne (a0 := a0) (C := "java/util/ArrayList") (Or.inl (ww hw 69 rfl)) (Or.inl (ww hw 57 rfl)) (by decide) (t := .int) (t' := .int) (by decide) (by decide)
  obtain ⟨mc, Fm⟩ := Sl.2.2.2.1
  have hal := Sl.lt
  refine Ow.aloadN X hx (pc := 0) (hb hby d10_0) rfl rfl ?_
  refine Ow.dup X hx (pc := 1) (hb hby d10_1) rfl ?_
  refine Ow.getfield X hx hZ hown (ww hw 66 rfl) (Via.of (ww hw 67 rfl)) eT Fm (pc := 2) (hb hby d10_2) ?_
  intro T X eT
  refine Ow.iconst X hx (pc := 5) (1) (hb hby d10_5) (by decide) ?_
  refine Ow.iadd X hx (pc := 6) (hb hby d10_6) ?_
  refine Ow.putfield X hx hZ hown (ww hw 66 rfl) (Via.of (ww hw 67 rfl)) eT Fm Sl.1 (Or.inl (ww hw 57 rfl)) (ww hw 38 rfl) (ty := .int) (by decide) rfl rfl (pc := 7) (hb hby d10_7) ?_
  intro T h_7 X eT W
  have F := F.wr W (Or.inl (by simp))
  have Ex := Ex.wr W
  have Sl : own_L Z h_7 al ed ke 2 [.ref y0, .ref y1, .null, .null, .null, .null, .null, .null, .null, .null] := ⟨Sl.1.wr W, Sl.2.1.other W (Or.inr sn_elementData_modCount), Sl.2.2.1.other W (Or.inr sn_size_modCount), ⟨_, Fm.same W⟩, Sl.2.2.2.2.1.other W (Ne.symm ne_ae), Sl.2.2.2.2.2⟩
  refine Ow.aloadN X hx (pc := 10) (hb hby d10_10) rfl rfl ?_
  refine Ow.aloadN X hx (pc := 11) (hb hby d10_11) rfl rfl ?_
  refine Ow.aloadN X hx (pc := 12) (hb hby d10_12) rfl rfl ?_
  refine Ow.getfield X hx hZ hown (ww hw 59 rfl) Via.refl eT Sl.2.1 (pc := 13) (hb hby d10_13) ?_   -- "java/util/ArrayList" "elementData" "[Ljava/lang/Object;"
  intro T X eT
  refine Ow.aloadN X hx (pc := 16) (hb hby d10_16) rfl rfl ?_
  refine Ow.getfield X hx hZ hown (ww hw 68 rfl) Via.refl eT Sl.2.2.1 (pc := 17) (hb hby d10_17) ?_   -- "java/util/ArrayList" "size" "I"
  intro T X eT
  refine Ow.callV X hx hZ (c_addPL2 l Z a0 hw _ al ed ke y0 y1 Sl ne_ae x Ex) eT hown (ww hw 70 rfl) (Ow.decl_of (ww hw 74 rfl) (ww hw 71 rfl)) (ww hw 73 rfl) (ww hw 71 rfl) (ww hw 39 rfl) (ww hw 74 rfl) (by decide) pd7 (by rw [hml]; rfl) Sl.1 (argsL := [_, _, _]) rfl rfl rfl (pc := 20) (hb hby d10_20) rfl rfl (by decide) (by decide) ?_
  rintro _ T L X ⟨rfl, F2, R⟩
  dsimp only [Option.toList_some, Option.toList_none, List.cons_append, List.nil_append]
  have F := F.call F2 (fun y hy => Or.inl hy)
  refine Ow.iconst X hx (pc := 23) (1) (hb hby d10_23) (by decide) ?_
  exact Ow.nreturn X hx hlk hret (Or.inl rfl) (hb hby d10_24) ⟨rfl, F, R⟩ (by decide) (by decide)
theorem d18_0 : decode jdk_38_method_8_code 0 = .ok (.aload_n 0, 1) := by decide +kernel
theorem d18_1 : decode jdk_38_method_8_code 1 = .ok (.getfield 48, 3) := by decide +kernel
theorem d18_4 : decode jdk_38_method_8_code 4 = .ok (.ireturn, 1) := by decide +kernel
set_option maxRecDepth 65536 in
set_option maxHeartbeats 4000000 in
theorem c_size (l : Launch) (Z : State) (a0 : Array Value) (hw : ∀ d ∈ tables_1, d.before a0 Z = true) (h0 : Heap) (al : Addr) (n : Int32) (F1 : Fld Z h0 al "java/util/ArrayList" "size" "I" (.int n)) : Ow.Pay l Z (⟨"java/util/ArrayList", "size", "()I"⟩ : MethodName) jdk_38_method_8_code 1 (some .int) ({ frames := 0, cells := 0, slots := 0, locals := 0 } : Room) #[(.ref al)] h0 (fun v h L => v = some (.int n) ∧ h = h0 ∧ L = []) := by
  refine Ow.Pay.of (Ls := #[.val (.ref al)]) (plainFor_of_name pn3) (fun m => by first | rfl | (simp [entryFrame, mkF, argsToLocals, Value.category]; done)) ?_
  intro p e s m below meth c T hx hby hml hown hnm hme hZ hret hlk X eT
  refine Ow.aloadN X hx (pc := 0) (hb hby d18_0) rfl rfl ?_
  refine Ow.getfield X hx hZ hown (ww hw 68 rfl) Via.refl eT F1 (pc := 1) (hb hby d18_1) ?_   -- "java/util/ArrayList" "size" "I"
  intro T X eT
  exact Ow.ireturn X hx hlk hret (hb hby d18_4) ⟨rfl, eT, rfl⟩ (by decide) (by decide)
theorem d21_0 : decode jdk_41_method_11_code 0 = .ok (.iload_n 0, 1) := by decide +kernel
theorem d21_1 : decode jdk_41_method_11_code 1 = .ok (.ifCond .lt 8, 3) := by decide +kernel
theorem d21_4 : decode jdk_41_method_11_code 4 = .ok (.iload_n 0, 1) := by decide +kernel
theorem d21_5 : decode jdk_41_method_11_code 5 = .ok (.iload_n 1, 1) := by decide +kernel
theorem d21_6 : decode jdk_41_method_11_code 6 = .ok (.if_icmp .lt 10, 3) := by decide +kernel
theorem d21_9 : decode jdk_41_method_11_code 9 = .ok (.aload_n 2, 1) := by decide +kernel
theorem d21_10 : decode jdk_41_method_11_code 10 = .ok (.iload_n 0, 1) := by decide +kernel
theorem d21_11 : decode jdk_41_method_11_code 11 = .ok (.iload_n 1, 1) := by decide +kernel
theorem d21_12 : decode jdk_41_method_11_code 12 = .ok (.invokestatic 95, 3) := by decide +kernel
theorem d21_15 : decode jdk_41_method_11_code 15 = .ok (.athrow, 1) := by decide +kernel
theorem d21_16 : decode jdk_41_method_11_code 16 = .ok (.iload_n 0, 1) := by decide +kernel
theorem d21_17 : decode jdk_41_method_11_code 17 = .ok (.ireturn, 1) := by decide +kernel
set_option maxRecDepth 65536 in
set_option maxHeartbeats 4000000 in
theorem c_pci (l : Launch) (Z : State) (a0 : Array Value) (hw : ∀ d ∈ tables_1, d.before a0 Z = true) (h0 : Heap) (i n : Nat) (hin : i < n) (hn : n < 2147483648) : Ow.Pay l Z (⟨"jdk/internal/util/Preconditions", "checkIndex", "(IILjava/util/function/BiFunction;)I"⟩ : MethodName) jdk_41_method_11_code 3 (some .int) ({ frames := 0, cells := 0, slots := 0, locals := 0 } : Room) #[(.int (Int32.ofNat i)), (.int (Int32.ofNat n)), (.null)] h0 (fun v h L => v = some (.int (Int32.ofNat i)) ∧ h = h0 ∧ L = []) := by
  refine Ow.Pay.of (Ls := #[.val (.int (Int32.ofNat i)), .val (.int (Int32.ofNat n)), .val (.null)]) (plainFor_of_name pn4) (fun m => by first | rfl | (simp [entryFrame, mkF, argsToLocals, Value.category]; done)) ?_
  intro p e s m below meth c T hx hby hml hown hnm hme hZ hret hlk X eT
  refine Ow.iloadN X hx (pc := 0) (hb hby d21_0) rfl ?_
  refine Ow.if_lt X hx (pc := 1) (pc' := 9) (hb hby d21_1) (by decide) (by decide) (fun q => absurd q (Ow.n_nn (by omega))) (fun h1 => ?_)
  refine Ow.iloadN X hx (pc := 4) (hb hby d21_4) rfl ?_
  refine Ow.iloadN X hx (pc := 5) (hb hby d21_5) rfl ?_
  refine Ow.icmp_lt X hx (pc := 6) (pc' := 16) (hb hby d21_6) (by decide) (by decide) (fun h6 => ?_) (fun q => absurd ((Ow.n_lt (by omega) (by omega)).mpr hin) q)
  refine Ow.iloadN X hx (pc := 16) (hb hby d21_16) rfl ?_
  exact Ow.ireturn X hx hlk hret (hb hby d21_17) ⟨rfl, eT, rfl⟩ (by decide) (by decide)
theorem d20_0 : decode jdk_31_method_17_code 0 = .ok (.iload_n 0, 1) := by decide +kernel
theorem d20_1 : decode jdk_31_method_17_code 1 = .ok (.iload_n 1, 1) := by decide +kernel
theorem d20_2 : decode jdk_31_method_17_code 2 = .ok (.aconst_null, 1) := by decide +kernel
theorem d20_3 : decode jdk_31_method_17_code 3 = .ok (.invokestatic 105, 3) := by decide +kernel
theorem d20_6 : decode jdk_31_method_17_code 6 = .ok (.ireturn, 1) := by decide +kernel
set_option maxRecDepth 65536 in
set_option maxHeartbeats 4000000 in
theorem c_oci (l : Launch) (Z : State) (a0 : Array Value) (hw : ∀ d ∈ tables_1, d.before a0 Z = true) (h0 : Heap) (i n : Nat) (hin : i < n) (hn : n < 2147483648) : Ow.Pay l Z (⟨"java/util/Objects", "checkIndex", "(II)I"⟩ : MethodName) jdk_31_method_17_code 2 (some .int) ({ frames := 1, cells := 0, slots := 0, locals := 14 } : Room) #[(.int (Int32.ofNat i)), (.int (Int32.ofNat n))] h0 (fun v h L => v = some (.int (Int32.ofNat i)) ∧ h = h0 ∧ L = []) := by
  refine Ow.Pay.of (Ls := #[.val (.int (Int32.ofNat i)), .val (.int (Int32.ofNat n))]) (plainFor_of_name pn5) (fun m => by first | rfl | (simp [entryFrame, mkF, argsToLocals, Value.category]; done)) ?_
  intro p e s m below meth c T hx hby hml hown hnm hme hZ hret hlk X eT
  refine Ow.iloadN X hx (pc := 0) (hb hby d20_0) rfl ?_
  refine Ow.iloadN X hx (pc := 1) (hb hby d20_1) rfl ?_
  refine Ow.aconst_null X hx (pc := 2) (hb hby d20_2) ?_
  refine Ow.callSP X hx hZ (c_pci l Z a0 hw h0 i n hin hn) rfl rfl eT hown (ww hw 135 rfl) (ww hw 136 rfl) (ww hw 137 rfl) (ww hw 138 rfl) (by decide) pd8 (by rw [hml]; rfl) (argsL := [_, _, _]) rfl rfl rfl (pc := 3) (hb hby d20_3) rfl rfl (by decide) (by decide) ?_   -- jdk/internal/util/Preconditions.checkIndex:(IILjava/util/function/BiFunction;)I
  intro T X eT
  dsimp only [Option.toList_some, Option.toList_none, List.cons_append, List.nil_append]
  exact Ow.ireturn X hx hlk hret (hb hby d20_6) ⟨rfl, eT, rfl⟩ (by decide) (by decide)
theorem d22_0 : decode jdk_38_method_18_code 0 = .ok (.aload_n 0, 1) := by decide +kernel
theorem d22_1 : decode jdk_38_method_18_code 1 = .ok (.getfield 9, 3) := by decide +kernel
theorem d22_4 : decode jdk_38_method_18_code 4 = .ok (.iload_n 1, 1) := by decide +kernel
theorem d22_5 : decode jdk_38_method_18_code 5 = .ok (.aaload, 1) := by decide +kernel
theorem d22_6 : decode jdk_38_method_18_code 6 = .ok (.areturn, 1) := by decide +kernel
set_option maxRecDepth 65536 in
set_option maxHeartbeats 4000000 in
theorem c_ed (l : Launch) (Z : State) (a0 : Array Value) (hw : ∀ d ∈ tables_1, d.before a0 Z = true) (h0 : Heap) (al ed : Addr) (ke : ClassId) (n : Nat) (us : List Value) (Sl : own_L Z h0 al ed ke n us) (i : Nat) (y : Addr) (hu : us[i]? = some (.ref y)) (hi : i < 1000) : Ow.Pay l Z (⟨"java/util/ArrayList", "elementData", "(I)Ljava/lang/Object;"⟩ : MethodName) jdk_38_method_18_code 2 (some (.object "java/lang/Object")) ({ frames := 0, cells := 0, slots := 0, locals := 0 } : Room) #[(.ref al), (.int (Int32.ofNat i))] h0 (fun v h L => v = some (.ref y) ∧ h = h0 ∧ L = []) := by
  refine Ow.Pay.of (Ls := #[.val (.ref al), .val (.int (Int32.ofNat i))]) (plainFor_of_name pn3) (fun m => by first | rfl | (simp [entryFrame, mkF, argsToLocals, Value.category]; done)) ?_
  intro p e s m below meth c T hx hby hml hown hnm hme hZ hret hlk X eT
  refine Ow.aloadN X hx (pc := 0) (hb hby d22_0) rfl rfl ?_
  refine Ow.getfield X hx hZ hown (ww hw 59 rfl) Via.refl eT Sl.2.1 (pc := 1) (hb hby d22_1) ?_   -- "java/util/ArrayList" "elementData" "[Ljava/lang/Object;"
  intro T X eT
  refine Ow.iloadN X hx (pc := 4) (hb hby d22_4) rfl ?_
  refine Ow.aaloadL X hx hZ eT Sl.2.2.2.2.1 rfl i (.ref y) (Ow.n_nn (by omega)) (Ow.n_cl (by omega)) hu (pc := 5) (hb hby d22_5) ?_
  exact Ow.areturn X hx hlk hret rfl rfl rfl (hb hby d22_6) ⟨rfl, eT, rfl⟩ (by decide) (by decide)
theorem d19_0 : decode jdk_38_method_20_code 0 = .ok (.iload_n 1, 1) := by decide +kernel
theorem d19_1 : decode jdk_38_method_20_code 1 = .ok (.aload_n 0, 1) := by decide +kernel
theorem d19_2 : decode jdk_38_method_20_code 2 = .ok (.getfield 48, 3) := by decide +kernel
theorem d19_5 : decode jdk_38_method_20_code 5 = .ok (.invokestatic 118, 3) := by decide +kernel
theorem d19_8 : decode jdk_38_method_20_code 8 = .ok (.pop, 1) := by decide +kernel
theorem d19_9 : decode jdk_38_method_20_code 9 = .ok (.aload_n 0, 1) := by decide +kernel
theorem d19_10 : decode jdk_38_method_20_code 10 = .ok (.iload_n 1, 1) := by decide +kernel
theorem d19_11 : decode jdk_38_method_20_code 11 = .ok (.invokevirtual 123, 3) := by decide +kernel
theorem d19_14 : decode jdk_38_method_20_code 14 = .ok (.areturn, 1) := by decide +kernel
set_option maxRecDepth 65536 in
set_option maxHeartbeats 4000000 in
theorem c_get (l : Launch) (Z : State) (a0 : Array Value) (hw : ∀ d ∈ tables_1, d.before a0 Z = true) (h0 : Heap) (al ed : Addr) (ke : ClassId) (n : Nat) (us : List Value) (Sl : own_L Z h0 al ed ke n us) (i : Nat) (y : Addr) (hu : us[i]? = some (.ref y)) (hin : i < n) (hn : n < 1000) : Ow.Pay l Z (⟨"java/util/ArrayList", "get", "(I)Ljava/lang/Object;"⟩ : MethodName) jdk_38_method_20_code 2 (some (.object "java/lang/Object")) ({ frames := 2, cells := 0, slots := 0, locals := 27 } : Room) #[(.ref al), (.int (Int32.ofNat i))] h0 (fun v h L => v = some (.ref y) ∧ h = h0 ∧ L = []) := by
  refine Ow.Pay.of (Ls := #[.val (.ref al), .val (.int (Int32.ofNat i))]) (plainFor_of_name pn3) (fun m => by first | rfl | (simp [entryFrame, mkF, argsToLocals, Value.category]; done)) ?_
  intro p e s m below meth c T hx hby hml hown hnm hme hZ hret hlk X eT
  refine Ow.iloadN X hx (pc := 0) (hb hby d19_0) rfl ?_
  refine Ow.aloadN X hx (pc := 1) (hb hby d19_1) rfl rfl ?_
  refine Ow.getfield X hx hZ hown (ww hw 68 rfl) Via.refl eT Sl.2.2.1 (pc := 2) (hb hby d19_2) ?_   -- "java/util/ArrayList" "size" "I"
  intro T X eT
  refine Ow.callSP X hx hZ (c_oci l Z a0 hw h0 i n hin (by omega)) rfl rfl eT hown (ww hw 131 rfl) (ww hw 132 rfl) (ww hw 133 rfl) (ww hw 134 rfl) (by decide) pd4 (by rw [hml]; rfl) (argsL := [_, _]) rfl rfl rfl (pc := 5) (hb hby d19_5) rfl rfl (by decide) (by decide) ?_   -- java/util/Objects.checkIndex:(II)I
  intro T X eT
  dsimp only [Option.toList_some, Option.toList_none, List.cons_append, List.nil_append]
  refine Ow.pop X hx (pc := 8) (hb hby d19_8) rfl ?_
  refine Ow.aloadN X hx (pc := 9) (hb hby d19_9) rfl rfl ?_
  refine Ow.iloadN X hx (pc := 10) (hb hby d19_10) rfl ?_
  refine Ow.callVP X hx hZ (c_ed l Z a0 hw h0 al ed ke n us Sl i y hu (by omega)) rfl rfl eT hown (ww hw 139 rfl) (ww hw 140 rfl) (ww hw 142 rfl) (ww hw 141 rfl) (ww hw 39 rfl) (ww hw 143 rfl) (by decide) pd9 (by rw [hml]; rfl) Sl.1 (argsL := [_]) rfl rfl rfl (pc := 11) (hb hby d19_11) rfl rfl (by decide) (by decide) ?_   -- java/util/ArrayList.elementData:(I)Ljava/lang/Object;
  intro T X eT
  dsimp only [Option.toList_some, Option.toList_none, List.cons_append, List.nil_append]
  exact Ow.areturn X hx hlk hret rfl rfl rfl (hb hby d19_14) ⟨rfl, eT, rfl⟩ (by decide) (by decide)
theorem d17_0 : decode jdk_71_method_1_code 0 = .ok (.aload_n 0, 1) := by decide +kernel
theorem d17_1 : decode jdk_71_method_1_code 1 = .ok (.invokespecial 1, 3) := by decide +kernel
theorem d17_4 : decode jdk_71_method_1_code 4 = .ok (.return_, 1) := by decide +kernel
set_option maxRecDepth 65536 in
set_option maxHeartbeats 4000000 in
theorem c_aminit (l : Launch) (Z : State) (a0 : Array Value) (hw : ∀ d ∈ tables_1, d.before a0 Z = true) (h0 : Heap) (hm : Addr) : Ow.Pay l Z (⟨"java/util/AbstractMap", "<init>", "()V"⟩ : MethodName) jdk_71_method_1_code 1 none ({ frames := 1, cells := 0, slots := 0, locals := 12 } : Room) #[(.ref hm)] h0 (fun v h L => v = none ∧ h = h0 ∧ L = []) := by
  refine Ow.Pay.of (Ls := #[.val (.ref hm)]) (plainFor_of_name pn6) (fun m => by first | rfl | (simp [entryFrame, mkF, argsToLocals, Value.category]; done)) ?_
  intro p e s m below meth c T hx hby hml hown hnm hme hZ hret hlk X eT
  refine Ow.aloadN X hx (pc := 0) (hb hby d17_0) rfl rfl ?_
  refine Ow.objinit X hx hZ hown (ww hw 108 rfl) (ww hw 16 rfl) (ww hw 17 rfl) eT (by rw [hml]; rfl) (pc := 1) (hb hby d17_1) rfl rfl ?_
  intro T X eT
  exact Ow.vreturn X hx hlk hret (hb hby d17_4) ⟨rfl, eT, rfl⟩ (by decide) (by decide)
theorem d16_0 : decode jdk_69_method_7_code 0 = .ok (.aload_n 0, 1) := by decide +kernel
theorem d16_1 : decode jdk_69_method_7_code 1 = .ok (.invokespecial 43, 3) := by decide +kernel
theorem d16_4 : decode jdk_69_method_7_code 4 = .ok (.aload_n 0, 1) := by decide +kernel
theorem d16_5 : decode jdk_69_method_7_code 5 = .ok (.ldc 92, 2) := by decide +kernel
theorem d16_7 : decode jdk_69_method_7_code 7 = .ok (.putfield 81, 3) := by decide +kernel
theorem d16_10 : decode jdk_69_method_7_code 10 = .ok (.return_, 1) := by decide +kernel
set_option maxRecDepth 65536 in
set_option maxHeartbeats 4000000 in
theorem c_hminit (l : Launch) (Z : State) (a0 : Array Value) (hw : ∀ d ∈ tables_1, d.before a0 Z = true) (h0 : Heap) (hm : Addr) (E : Exa Z h0 hm "java/util/HashMap") (Ft : Fld Z h0 hm "java/util/HashMap" "table" "[Ljava/util/HashMap$Node;" .null) (Fl : Fld Z h0 hm "java/util/HashMap" "loadFactor" "F" (.float 0)) : Ow.Pay l Z (⟨"java/util/HashMap", "<init>", "()V"⟩ : MethodName) jdk_69_method_7_code 1 none ({ frames := 2, cells := 0, slots := 0, locals := 24 } : Room) #[(.ref hm)] h0 (fun v h L => v = none ∧ Ow.Eff h0 h [hm] L ∧ Exa Z h hm "java/util/HashMap" ∧ Fld Z h hm "java/util/HashMap" "table" "[Ljava/util/HashMap$Node;" .null) := by
  refine Ow.Pay.of (Ls := #[.val (.ref hm)]) (plainFor_of_name pn7) (fun m => by first | rfl | (simp [entryFrame, mkF, argsToLocals, Value.category]; done)) ?_
  intro p e s m below meth c T hx hby hml hown hnm hme hZ hret hlk X eT
  have F := Ow.Eff.refl h0 [hm]
  have hni := (name_of_methodNamed hnm hme).1
  have hsl : RoadKit.slotOf Z "java/util/HashMap" "table" "[Ljava/util/HashMap$Node;" ≠ RoadKit.slotOf Z "java/util/HashMap" "loadFactor" "F" := slot_ne (a0 := a0) (C := "java/util/HashMap") (Or.inl (ww hw 220 rfl)) (Or.inr (ww hw 111 rfl)) (by decide) (t := .array (.object "java/util/HashMap$Node")) (t' := .float) (by decide) (by decide)
  refine Ow.aloadN X hx (pc := 0) (hb hby d16_0) rfl rfl ?_
  refine Ow.callI X hx hZ (c_aminit l Z a0 hw _ hm) eT rfl hown (ww hw 102 rfl) (ww hw 103 rfl) (ww hw 106 rfl) (ww hw 107 rfl) (by decide) pd0 (by rw [hml]; rfl) (argsL := []) rfl rfl rfl (pc := 1) (hb hby d16_1) rfl rfl (by decide) (by decide) ?_   -- java/util/AbstractMap.<init>:()V
  rintro _ T L X ⟨rfl, eT, rfl⟩
  rw [List.append_nil] at X
  dsimp only [Option.toList_some, Option.toList_none, List.cons_append, List.nil_append]
  refine Ow.aloadN X hx (pc := 4) (hb hby d16_4) rfl rfl ?_
  refine Ow.ldcF X hx hZ 1061158912 hown (ww hw 109 rfl) (pc := 5) (hb hby d16_5) ?_
  refine Ow.putfield X hx hZ hown (ww hw 110 rfl) Via.refl eT Fl E (Or.inr ⟨(ww hw 111 rfl), rfl, hni⟩) (ww hw 97 rfl) (ty := .float) (by decide) rfl rfl (pc := 7) (hb hby d16_7) ?_
  intro T h_7 X eT W
  have F := F.wr W (Or.inl (by simp))
  exact Ow.vreturn X hx hlk hret (hb hby d16_10) ⟨rfl, by rw [eT]; exact F, by rw [eT]; exact E.wr W, by rw [eT]; exact Ft.other W (Or.inr hsl)⟩ (by decide) (by decide)
theorem d33_0 : decode jdk_69_method_13_code 0 = .ok (.aload_n 0, 1) := by decide +kernel
theorem d33_1 : decode jdk_69_method_13_code 1 = .ok (.getfield 105, 3) := by decide +kernel
theorem d33_4 : decode jdk_69_method_13_code 4 = .ok (.dup, 1) := by decide +kernel
theorem d33_5 : decode jdk_69_method_13_code 5 = .ok (.astore_n 2, 1) := by decide +kernel
theorem d33_6 : decode jdk_69_method_13_code 6 = .ok (.ifnull 142, 3) := by decide +kernel
theorem d33_9 : decode jdk_69_method_13_code 9 = .ok (.aload_n 2, 1) := by decide +kernel
theorem d33_10 : decode jdk_69_method_13_code 10 = .ok (.arraylength, 1) := by decide +kernel
theorem d33_11 : decode jdk_69_method_13_code 11 = .ok (.dup, 1) := by decide +kernel
theorem d33_12 : decode jdk_69_method_13_code 12 = .ok (.istore 5, 2) := by decide +kernel
theorem d33_14 : decode jdk_69_method_13_code 14 = .ok (.ifCond .le 134, 3) := by decide +kernel
theorem d33_17 : decode jdk_69_method_13_code 17 = .ok (.aload_n 2, 1) := by decide +kernel
theorem d33_18 : decode jdk_69_method_13_code 18 = .ok (.iload 5, 2) := by decide +kernel
theorem d33_20 : decode jdk_69_method_13_code 20 = .ok (.iconst 1, 1) := by decide +kernel
theorem d33_21 : decode jdk_69_method_13_code 21 = .ok (.isub, 1) := by decide +kernel
theorem d33_22 : decode jdk_69_method_13_code 22 = .ok (.aload_n 1, 1) := by decide +kernel
theorem d33_23 : decode jdk_69_method_13_code 23 = .ok (.invokestatic 149, 3) := by decide +kernel
theorem d33_26 : decode jdk_69_method_13_code 26 = .ok (.dup, 1) := by decide +kernel
theorem d33_27 : decode jdk_69_method_13_code 27 = .ok (.istore 6, 2) := by decide +kernel
theorem d33_29 : decode jdk_69_method_13_code 29 = .ok (.iand, 1) := by decide +kernel
theorem d33_30 : decode jdk_69_method_13_code 30 = .ok (.aaload, 1) := by decide +kernel
theorem d33_31 : decode jdk_69_method_13_code 31 = .ok (.dup, 1) := by decide +kernel
theorem d33_32 : decode jdk_69_method_13_code 32 = .ok (.astore_n 3, 1) := by decide +kernel
theorem d33_33 : decode jdk_69_method_13_code 33 = .ok (.ifnull 115, 3) := by decide +kernel
theorem d33_36 : decode jdk_69_method_13_code 36 = .ok (.aload_n 3, 1) := by decide +kernel
theorem d33_37 : decode jdk_69_method_13_code 37 = .ok (.getfield 168, 3) := by decide +kernel
theorem d33_40 : decode jdk_69_method_13_code 40 = .ok (.iload 6, 2) := by decide +kernel
theorem d33_42 : decode jdk_69_method_13_code 42 = .ok (.if_icmp .ne 29, 3) := by decide +kernel
theorem d33_45 : decode jdk_69_method_13_code 45 = .ok (.aload_n 3, 1) := by decide +kernel
theorem d33_46 : decode jdk_69_method_13_code 46 = .ok (.getfield 170, 3) := by decide +kernel
theorem d33_49 : decode jdk_69_method_13_code 49 = .ok (.dup, 1) := by decide +kernel
theorem d33_50 : decode jdk_69_method_13_code 50 = .ok (.astore 7, 2) := by decide +kernel
theorem d33_52 : decode jdk_69_method_13_code 52 = .ok (.aload_n 1, 1) := by decide +kernel
theorem d33_53 : decode jdk_69_method_13_code 53 = .ok (.if_acmp .eq 16, 3) := by decide +kernel
theorem d33_56 : decode jdk_69_method_13_code 56 = .ok (.aload_n 1, 1) := by decide +kernel
theorem d33_57 : decode jdk_69_method_13_code 57 = .ok (.ifnull 14, 3) := by decide +kernel
theorem d33_60 : decode jdk_69_method_13_code 60 = .ok (.aload_n 1, 1) := by decide +kernel
theorem d33_61 : decode jdk_69_method_13_code 61 = .ok (.aload 7, 2) := by decide +kernel
theorem d33_63 : decode jdk_69_method_13_code 63 = .ok (.invokevirtual 173, 3) := by decide +kernel
theorem d33_66 : decode jdk_69_method_13_code 66 = .ok (.ifCond .eq 5, 3) := by decide +kernel
theorem d33_69 : decode jdk_69_method_13_code 69 = .ok (.aload_n 3, 1) := by decide +kernel
theorem d33_70 : decode jdk_69_method_13_code 70 = .ok (.areturn, 1) := by decide +kernel
theorem d33_71 : decode jdk_69_method_13_code 71 = .ok (.aload_n 3, 1) := by decide +kernel
theorem d33_72 : decode jdk_69_method_13_code 72 = .ok (.getfield 177, 3) := by decide +kernel
theorem d33_75 : decode jdk_69_method_13_code 75 = .ok (.dup, 1) := by decide +kernel
theorem d33_76 : decode jdk_69_method_13_code 76 = .ok (.astore 4, 2) := by decide +kernel
theorem d33_78 : decode jdk_69_method_13_code 78 = .ok (.ifnull 70, 3) := by decide +kernel
theorem d33_81 : decode jdk_69_method_13_code 81 = .ok (.aload_n 3, 1) := by decide +kernel
theorem d33_82 : decode jdk_69_method_13_code 82 = .ok (.instanceof 180, 3) := by decide +kernel
theorem d33_85 : decode jdk_69_method_13_code 85 = .ok (.ifCond .eq 14, 3) := by decide +kernel
theorem d33_88 : decode jdk_69_method_13_code 88 = .ok (.aload_n 3, 1) := by decide +kernel
theorem d33_89 : decode jdk_69_method_13_code 89 = .ok (.checkcast 180, 3) := by decide +kernel
theorem d33_92 : decode jdk_69_method_13_code 92 = .ok (.iload 6, 2) := by decide +kernel
theorem d33_94 : decode jdk_69_method_13_code 94 = .ok (.aload_n 1, 1) := by decide +kernel
theorem d33_95 : decode jdk_69_method_13_code 95 = .ok (.invokevirtual 182, 3) := by decide +kernel
theorem d33_98 : decode jdk_69_method_13_code 98 = .ok (.areturn, 1) := by decide +kernel
theorem d33_99 : decode jdk_69_method_13_code 99 = .ok (.aload 4, 2) := by decide +kernel
theorem d33_101 : decode jdk_69_method_13_code 101 = .ok (.getfield 168, 3) := by decide +kernel
theorem d33_104 : decode jdk_69_method_13_code 104 = .ok (.iload 6, 2) := by decide +kernel
theorem d33_106 : decode jdk_69_method_13_code 106 = .ok (.if_icmp .ne 31, 3) := by decide +kernel
theorem d33_109 : decode jdk_69_method_13_code 109 = .ok (.aload 4, 2) := by decide +kernel
theorem d33_111 : decode jdk_69_method_13_code 111 = .ok (.getfield 170, 3) := by decide +kernel
theorem d33_114 : decode jdk_69_method_13_code 114 = .ok (.dup, 1) := by decide +kernel
theorem d33_115 : decode jdk_69_method_13_code 115 = .ok (.astore 7, 2) := by decide +kernel
theorem d33_117 : decode jdk_69_method_13_code 117 = .ok (.aload_n 1, 1) := by decide +kernel
theorem d33_118 : decode jdk_69_method_13_code 118 = .ok (.if_acmp .eq 16, 3) := by decide +kernel
theorem d33_121 : decode jdk_69_method_13_code 121 = .ok (.aload_n 1, 1) := by decide +kernel
theorem d33_122 : decode jdk_69_method_13_code 122 = .ok (.ifnull 15, 3) := by decide +kernel
theorem d33_125 : decode jdk_69_method_13_code 125 = .ok (.aload_n 1, 1) := by decide +kernel
theorem d33_126 : decode jdk_69_method_13_code 126 = .ok (.aload 7, 2) := by decide +kernel
theorem d33_128 : decode jdk_69_method_13_code 128 = .ok (.invokevirtual 173, 3) := by decide +kernel
theorem d33_131 : decode jdk_69_method_13_code 131 = .ok (.ifCond .eq 6, 3) := by decide +kernel
theorem d33_134 : decode jdk_69_method_13_code 134 = .ok (.aload 4, 2) := by decide +kernel
theorem d33_136 : decode jdk_69_method_13_code 136 = .ok (.areturn, 1) := by decide +kernel
theorem d33_137 : decode jdk_69_method_13_code 137 = .ok (.aload 4, 2) := by decide +kernel
theorem d33_139 : decode jdk_69_method_13_code 139 = .ok (.getfield 177, 3) := by decide +kernel
theorem d33_142 : decode jdk_69_method_13_code 142 = .ok (.dup, 1) := by decide +kernel
theorem d33_143 : decode jdk_69_method_13_code 143 = .ok (.astore 4, 2) := by decide +kernel
theorem d33_145 : decode jdk_69_method_13_code 145 = .ok (.ifnonnull (-46), 3) := by decide +kernel
theorem d33_148 : decode jdk_69_method_13_code 148 = .ok (.aconst_null, 1) := by decide +kernel
theorem d33_149 : decode jdk_69_method_13_code 149 = .ok (.areturn, 1) := by decide +kernel
set_option maxRecDepth 65536 in
set_option maxHeartbeats 4000000 in
theorem c_getNode (l : Launch) (Z : State) (a0 : Array Value) (hw : ∀ d ∈ tables_1, d.before a0 Z = true) (h0 : Heap) (hm k : Addr) (Ft : Fld Z h0 hm "java/util/HashMap" "table" "[Ljava/util/HashMap$Node;" .null) : Ow.Pay l Z (⟨"java/util/HashMap", "getNode", "(Ljava/lang/Object;)Ljava/util/HashMap$Node;"⟩ : MethodName) jdk_69_method_13_code 8 (some (.object "java/util/HashMap$Node")) ({ frames := 0, cells := 0, slots := 0, locals := 0 } : Room) #[(.ref hm), (.ref k)] h0 (fun v h L => v = some (.null) ∧ h = h0 ∧ L = []) := by
  refine Ow.Pay.of (Ls := #[.val (.ref hm), .val (.ref k), .unset, .unset, .unset, .unset, .unset, .unset]) (plainFor_of_name pn7) (fun m => by first | rfl | (simp [entryFrame, mkF, argsToLocals, Value.category]; done)) ?_
  intro p e s m below meth c T hx hby hml hown hnm hme hZ hret hlk X eT
  refine Ow.aloadN X hx (pc := 0) (hb hby d33_0) rfl rfl ?_
  refine Ow.getfield X hx hZ hown (ww hw 219 rfl) Via.refl eT Ft (pc := 1) (hb hby d33_1) ?_   -- "java/util/HashMap" "table" "[Ljava/util/HashMap$Node;"
  intro T X eT
  refine Ow.dup X hx (pc := 4) (hb hby d33_4) rfl ?_
  refine Ow.astoreN X hx (pc := 5) #[_, _, _, _, _, _, _, _] (hb hby d33_5) rfl rfl ?_
  refine Ow.ifnull_n X hx (pc := 6) (pc' := 148) (hb hby d33_6) (by decide) (by decide) ?_
  refine Ow.aconst_null X hx (pc := 148) (hb hby d33_148) ?_
  exact Ow.areturn X hx hlk hret rfl rfl rfl (hb hby d33_149) ⟨rfl, eT, rfl⟩ (by decide) (by decide)
theorem d32_0 : decode jdk_69_method_30_code 0 = .ok (.aload_n 0, 1) := by decide +kernel
theorem d32_1 : decode jdk_69_method_30_code 1 = .ok (.aload_n 1, 1) := by decide +kernel
theorem d32_2 : decode jdk_69_method_30_code 2 = .ok (.invokevirtual 158, 3) := by decide +kernel
theorem d32_5 : decode jdk_69_method_30_code 5 = .ok (.dup, 1) := by decide +kernel
theorem d32_6 : decode jdk_69_method_30_code 6 = .ok (.astore_n 3, 1) := by decide +kernel
theorem d32_7 : decode jdk_69_method_30_code 7 = .ok (.ifnonnull 7, 3) := by decide +kernel
theorem d32_10 : decode jdk_69_method_30_code 10 = .ok (.aload_n 2, 1) := by decide +kernel
theorem d32_11 : decode jdk_69_method_30_code 11 = .ok (.goto 7, 3) := by decide +kernel
theorem d32_14 : decode jdk_69_method_30_code 14 = .ok (.aload_n 3, 1) := by decide +kernel
theorem d32_15 : decode jdk_69_method_30_code 15 = .ok (.getfield 162, 3) := by decide +kernel
theorem d32_18 : decode jdk_69_method_30_code 18 = .ok (.areturn, 1) := by decide +kernel
set_option maxRecDepth 65536 in
set_option maxHeartbeats 4000000 in
theorem c_god (l : Launch) (Z : State) (a0 : Array Value) (hw : ∀ d ∈ tables_1, d.before a0 Z = true) (h0 : Heap) (hm k dv : Addr) (E : Exa Z h0 hm "java/util/HashMap") (Ft : Fld Z h0 hm "java/util/HashMap" "table" "[Ljava/util/HashMap$Node;" .null) : Ow.Pay l Z (⟨"java/util/HashMap", "getOrDefault", "(Ljava/lang/Object;Ljava/lang/Object;)Ljava/lang/Object;"⟩ : MethodName) jdk_69_method_30_code 4 (some (.object "java/lang/Object")) ({ frames := 1, cells := 0, slots := 0, locals := 20 } : Room) #[(.ref hm), (.ref k), (.ref dv)] h0 (fun v h L => v = some (.ref dv) ∧ h = h0 ∧ L = []) := by
  refine Ow.Pay.of (Ls := #[.val (.ref hm), .val (.ref k), .val (.ref dv), .unset]) (plainFor_of_name pn7) (fun m => by first | rfl | (simp [entryFrame, mkF, argsToLocals, Value.category]; done)) ?_
  intro p e s m below meth c T hx hby hml hown hnm hme hZ hret hlk X eT
  refine Ow.aloadN X hx (pc := 0) (hb hby d32_0) rfl rfl ?_
  refine Ow.aloadN X hx (pc := 1) (hb hby d32_1) rfl rfl ?_
  refine Ow.callVP X hx hZ (c_getNode l Z a0 hw _ hm k Ft) rfl rfl eT hown (ww hw 214 rfl) (ww hw 215 rfl) (ww hw 217 rfl) (ww hw 216 rfl) (ww hw 98 rfl) (ww hw 218 rfl) (by decide) pd10 (by rw [hml]; rfl) E (argsL := [_]) rfl rfl rfl (pc := 2) (hb hby d32_2) rfl rfl (by decide) (by decide) ?_   -- java/util/HashMap.getNode:(Ljava/lang/Object;)Ljava/util/HashMap$Node;
  intro T X eT
  dsimp only [Option.toList_some, Option.toList_none, List.cons_append, List.nil_append]
  refine Ow.dup X hx (pc := 5) (hb hby d32_5) rfl ?_
  refine Ow.astoreN X hx (pc := 6) #[_, _, _, _] (hb hby d32_6) rfl rfl ?_
  refine Ow.ifnonnull_n X hx (pc := 7) (hb hby d32_7) ?_
  refine Ow.aloadN X hx (pc := 10) (hb hby d32_10) rfl rfl ?_
  refine Ow.goto X hx (pc := 11) (pc' := 18) (hb hby d32_11) (by decide) (by decide) ?_
  exact Ow.areturn X hx hlk hret rfl rfl rfl (hb hby d32_18) ⟨rfl, eT, rfl⟩ (by decide) (by decide)
theorem d37_0 : decode jdk_43_method_3_code 0 = .ok (.iload_n 0, 1) := by decide +kernel
theorem d37_1 : decode jdk_43_method_3_code 1 = .ok (.sipush 255, 3) := by decide +kernel
theorem d37_4 : decode jdk_43_method_3_code 4 = .ok (.if_icmp .gt 7, 3) := by decide +kernel
theorem d37_7 : decode jdk_43_method_3_code 7 = .ok (.iconst 1, 1) := by decide +kernel
theorem d37_8 : decode jdk_43_method_3_code 8 = .ok (.goto 4, 3) := by decide +kernel
theorem d37_11 : decode jdk_43_method_3_code 11 = .ok (.iconst 0, 1) := by decide +kernel
theorem d37_12 : decode jdk_43_method_3_code 12 = .ok (.ireturn, 1) := by decide +kernel
set_option maxRecDepth 65536 in
set_option maxHeartbeats 4000000 in
theorem c_canC (l : Launch) (Z : State) (a0 : Array Value) (hw : ∀ d ∈ tables_1, d.before a0 Z = true) (h0 : Heap) (k : Fin 256) : Ow.Pay l Z (⟨"java/lang/StringLatin1", "canEncode", "(C)Z"⟩ : MethodName) jdk_43_method_3_code 1 (some .boolean) ({ frames := 0, cells := 0, slots := 0, locals := 0 } : Room) #[(.int (Int32.ofNat k.val))] h0 (fun v h L => v = some (.int 1) ∧ h = h0 ∧ L = []) := by
  refine Ow.Pay.of (Ls := #[.val (.int (Int32.ofNat k.val))]) (plainFor_of_name pn8) (fun m => by first | rfl | (simp [entryFrame, mkF, argsToLocals, Value.category]; done)) ?_
  intro p e s m below meth c T hx hby hml hown hnm hme hZ hret hlk X eT
  refine Ow.iloadN X hx (pc := 0) (hb hby d37_0) rfl ?_
  refine Ow.sipush X hx (pc := 1) (255) (hb hby d37_1) (by decide) ?_
  refine Ow.icmp_gt X hx (pc := 4) (pc' := 11) (hb hby d37_4) (by decide) (by decide) (fun q => absurd q (own_ch8 k).2.1) (fun h4 => ?_)
  refine Ow.iconst X hx (pc := 7) (1) (hb hby d37_7) (by decide) ?_
  refine Ow.goto X hx (pc := 8) (pc' := 12) (hb hby d37_8) (by decide) (by decide) ?_
  exact Ow.nreturn X hx hlk hret (Or.inl rfl) (hb hby d37_12) ⟨rfl, eT, rfl⟩ (by decide) (by decide)
theorem d38_0 : decode jdk_43_method_46_code 0 = .ok (.iconst 1, 1) := by decide +kernel
theorem d38_1 : decode jdk_43_method_46_code 1 = .ok (.newarray .byte, 2) := by decide +kernel
theorem d38_3 : decode jdk_43_method_46_code 3 = .ok (.dup, 1) := by decide +kernel
theorem d38_4 : decode jdk_43_method_46_code 4 = .ok (.iconst 0, 1) := by decide +kernel
theorem d38_5 : decode jdk_43_method_46_code 5 = .ok (.iload_n 0, 1) := by decide +kernel
theorem d38_6 : decode jdk_43_method_46_code 6 = .ok (.i2b, 1) := by decide +kernel
theorem d38_7 : decode jdk_43_method_46_code 7 = .ok (.bastore, 1) := by decide +kernel
theorem d38_8 : decode jdk_43_method_46_code 8 = .ok (.areturn, 1) := by decide +kernel
theorem own_nb (x : Int32) : nar .byte x.toInt8.toInt32 = x.toInt8.toInt32 := by
  show x.toInt8.toInt32.toInt8.toInt32 = _
  simp
set_option maxRecDepth 65536 in
set_option maxHeartbeats 4000000 in
theorem c_tbC (l : Launch) (Z : State) (a0 : Array Value) (hw : ∀ d ∈ tables_1, d.before a0 Z = true) (h0 : Heap) (k : Fin 256) : Ow.Pay l Z (⟨"java/lang/StringLatin1", "toBytes", "(C)[B"⟩ : MethodName) jdk_43_method_46_code 1 (some (.array .byte)) ({ frames := 0, cells := 1, slots := 1, locals := 0 } : Room) #[(.int (Int32.ofNat k.val))] h0 (fun v h L => ∃ d kd, v = some (.ref d) ∧ Ow.Eff h0 h [] L ∧ h0.size ≤ d ∧ Ow.AL Z h d kd .byte [.int (Int32.ofNat k.val).toInt8.toInt32]) := by
  refine Ow.Pay.of (Ls := #[.val (.int (Int32.ofNat k.val))]) (plainFor_of_name pn8) (fun m => by first | rfl | (simp [entryFrame, mkF, argsToLocals, Value.category]; done)) ?_
  intro p e s m below meth c T hx hby hml hown hnm hme hZ hret hlk X eT
  have F := Ow.Eff.refl h0 []
  refine Ow.iconst X hx (pc := 0) (1) (hb hby d38_0) (by decide) ?_
  refine Ow.newarrayL X hx hZ (ww hw 19 rfl) eT 1 (vs := [_]) rfl (pc := 1) (hb hby d38_1) (by decide) (by decide) (by decide) (by decide) (by decide) ?_
  intro T h_d k_d d ha_d X eT E_d B_d
  have l_d : h0.size ≤ d := by rw [ha_d]; exact F.size
  have F := F.ext E_d
  refine Ow.dup X hx (pc := 3) (hb hby d38_3) rfl ?_
  refine Ow.iconst X hx (pc := 4) (0) (hb hby d38_4) (by decide) ?_
  refine Ow.iloadN X hx (pc := 5) (hb hby d38_5) rfl ?_
  refine Ow.i2b X hx (pc := 6) (hb hby d38_6) ?_
  refine Ow.bastoreL X hx hZ eT B_d 0 [_] (by decide) (by decide) rfl rfl (pc := 7) (hb hby d38_7) ?_
  intro T h_7 X eT W_7 B_d
  rw [own_nb] at B_d W_7
  have F := F.wr W_7 (Or.inr l_d)
  exact Ow.areturn X hx hlk hret rfl rfl rfl (hb hby d38_8) ⟨d, _, rfl, by rw [eT]; exact F, l_d, by rw [eT]; exact B_d⟩ (by decide) (by decide)
theorem d36_0 : decode jdk_42_method_139_code 0 = .ok (.getstatic 38, 3) := by decide +kernel
theorem d36_3 : decode jdk_42_method_139_code 3 = .ok (.ifCond .eq 23, 3) := by decide +kernel
theorem d36_6 : decode jdk_42_method_139_code 6 = .ok (.iload_n 0, 1) := by decide +kernel
theorem d36_7 : decode jdk_42_method_139_code 7 = .ok (.invokestatic 1015, 3) := by decide +kernel
theorem d36_10 : decode jdk_42_method_139_code 10 = .ok (.ifCond .eq 16, 3) := by decide +kernel
theorem d36_13 : decode jdk_42_method_139_code 13 = .ok (.new 10, 3) := by decide +kernel
theorem d36_16 : decode jdk_42_method_139_code 16 = .ok (.dup, 1) := by decide +kernel
theorem d36_17 : decode jdk_42_method_139_code 17 = .ok (.iload_n 0, 1) := by decide +kernel
theorem d36_18 : decode jdk_42_method_139_code 18 = .ok (.invokestatic 1018, 3) := by decide +kernel
theorem d36_21 : decode jdk_42_method_139_code 21 = .ok (.iconst 0, 1) := by decide +kernel
theorem d36_22 : decode jdk_42_method_139_code 22 = .ok (.invokespecial 209, 3) := by decide +kernel
theorem d36_25 : decode jdk_42_method_139_code 25 = .ok (.areturn, 1) := by decide +kernel
theorem d36_26 : decode jdk_42_method_139_code 26 = .ok (.new 10, 3) := by decide +kernel
theorem d36_29 : decode jdk_42_method_139_code 29 = .ok (.dup, 1) := by decide +kernel
theorem d36_30 : decode jdk_42_method_139_code 30 = .ok (.iload_n 0, 1) := by decide +kernel
theorem d36_31 : decode jdk_42_method_139_code 31 = .ok (.invokestatic 1021, 3) := by decide +kernel
theorem d36_34 : decode jdk_42_method_139_code 34 = .ok (.iconst 1, 1) := by decide +kernel
theorem d36_35 : decode jdk_42_method_139_code 35 = .ok (.invokespecial 209, 3) := by decide +kernel
theorem d36_38 : decode jdk_42_method_139_code 38 = .ok (.areturn, 1) := by decide +kernel
set_option maxRecDepth 65536 in
set_option maxHeartbeats 4000000 in
theorem c_vof (l : Launch) (Z : State) (a0 : Array Value) (hw : ∀ d ∈ tables_1, d.before a0 Z = true) (h0 : Heap) (z : Int32) (S : Sta Z h0 "java/lang/String" "COMPACT_STRINGS" "Z" (.int z)) (hz : ¬ z = 0) (k : Fin 256) : Ow.Pay l Z (⟨"java/lang/String", "valueOf", "(C)Ljava/lang/String;"⟩ : MethodName) jdk_42_method_139_code 1 (some (.object "java/lang/String")) ({ frames := 2, cells := 2, slots := 5, locals := 28 } : Room) #[(.int (Int32.ofNat k.val))] h0 (fun v h L => ∃ x d kd, v = some (.ref x) ∧ Ow.Eff h0 h [] L ∧ Ow.Str Z h x d kd (List.map (fun c => c.toInt8.toInt32) [Int32.ofNat k.val])) := by
  refine Ow.Pay.of (Ls := #[.val (.int (Int32.ofNat k.val))]) (plainFor_of_name pn0) (fun m => by first | rfl | (simp [entryFrame, mkF, argsToLocals, Value.category]; done)) ?_
  intro p e s m below meth c T hx hby hml hown hnm hme hZ hret hlk X eT
  have F := Ow.Eff.refl h0 []
  refine Ow.getstatic X hx hZ hown (ww hw 26 rfl) Via.refl eT S (pc := 0) (hb hby d36_0) ?_   -- "java/lang/String" "COMPACT_STRINGS" "Z"
  intro T X eT
  refine Ow.if_eq X hx (pc := 3) (pc' := 26) (hb hby d36_3) (by decide) (by decide) (fun q => absurd q hz) (fun h3 => ?_)
  refine Ow.iloadN X hx (pc := 6) (hb hby d36_6) rfl ?_
  refine Ow.callSP X hx hZ (c_canC l Z a0 hw _ k) rfl rfl eT hown (ww hw 238 rfl) (ww hw 239 rfl) (ww hw 240 rfl) (ww hw 241 rfl) (by decide) pd11 (by rw [hml]; rfl) (argsL := [_]) rfl rfl rfl (pc := 7) (hb hby d36_7) rfl rfl (by decide) (by decide) ?_   -- java/lang/StringLatin1.canEncode:(C)Z
  intro T X eT
  dsimp only [Option.toList_some, Option.toList_none, List.cons_append, List.nil_append]
  refine Ow.if_eq X hx (pc := 10) (pc' := 26) (hb hby d36_10) (by decide) (by decide) (fun q => absurd q (by decide)) (fun h10 => ?_)
  refine Ow.new_ X hx hZ hown (ww hw 242 rfl) (ww hw 5 rfl) (ww hw 6 rfl) eT (pc := 13) (hb hby d36_13) (by decide) (by decide) ?_
  intro T h_x x ha_x X eT E_x A_x D_x U_x
  have l_x : h0.size ≤ x := by rw [ha_x]; exact F.size
  have S := S.ext E_x
  have F := F.ext E_x
  have V0 := D_x (Or.inr (ww hw 20 rfl)) (ty := .array .byte) (by decide)
  have C0 := D_x (Or.inr (ww hw 21 rfl)) (ty := .byte) (by decide)
  refine Ow.dup X hx (pc := 16) (hb hby d36_16) rfl ?_
  refine Ow.iloadN X hx (pc := 17) (hb hby d36_17) rfl ?_
  refine Ow.callS X hx hZ (c_tbC l Z a0 hw _ k) eT hown (ww hw 243 rfl) (ww hw 244 rfl) (ww hw 240 rfl) (ww hw 245 rfl) (by decide) pd12 (by rw [hml]; rfl) (argsL := [_]) rfl rfl rfl (pc := 18) (hb hby d36_18) rfl rfl (by decide) (by decide) ?_
  rintro _ T L X ⟨d, kd, rfl, F2, l_d, B_d⟩
  dsimp only [Option.toList_some, Option.toList_none, List.cons_append, List.nil_append]
  have ne_x_d : x ≠ d := Nat.ne_of_lt (Nat.lt_of_lt_of_le A_x.lt l_d)
  have F := F.call F2 (fun _ q => nomatch q)
  have A_x := A_x.ext (Ow.Keep.ext0 F2.1)
  have V0 := V0.ext (Ow.Keep.ext0 F2.1)
  have C0 := C0.ext (Ow.Keep.ext0 F2.1)
  obtain ⟨h_18, e_18⟩ : ∃ q, q = T.heap := ⟨_, rfl⟩
  rw [← e_18] at F A_x V0 C0 B_d
  have eT : T.heap = h_18 := e_18.symm
  refine Ow.iconst X hx (pc := 21) (0) (hb hby d36_21) (by decide) ?_
  refine Ow.callI X hx hZ (c_strBB l Z a0 hw _ _ _ _ _ A_x V0 C0) eT rfl hown (ww hw 246 rfl) (ww hw 247 rfl) (ww hw 6 rfl) (ww hw 248 rfl) (by decide) pd13 (by rw [hml]; rfl) (argsL := [_, _]) rfl rfl rfl (pc := 22) (hb hby d36_22) rfl rfl (by decide) (by decide) ?_
  rintro _ T L X ⟨rfl, F3, A_x, C1, V1⟩
  dsimp only [Option.toList_some, Option.toList_none, List.cons_append, List.nil_append]
  have F := F.call F3 (fun y hy => by cases List.mem_singleton.mp hy; exact Or.inr l_x)
  have B_d := B_d.keep F3.1 (Ow.nin1 (Ne.symm ne_x_d))
  exact Ow.areturn X hx hlk hret rfl rfl rfl (hb hby d36_25) ⟨x, d, kd, rfl, F, A_x, C1, V1, B_d⟩ (by decide) (by decide)
theorem d35_0 : decode jdk_48_method_14_code 0 = .ok (.iconst 0, 1) := by decide +kernel
theorem d35_1 : decode jdk_48_method_14_code 1 = .ok (.istore 5, 2) := by decide +kernel
theorem d35_3 : decode jdk_48_method_14_code 3 = .ok (.iload 4, 2) := by decide +kernel
theorem d35_5 : decode jdk_48_method_14_code 5 = .ok (.bipush 7, 2) := by decide +kernel
theorem d35_7 : decode jdk_48_method_14_code 7 = .ok (.if_icmp .le 63, 3) := by decide +kernel
theorem d35_10 : decode jdk_48_method_14_code 10 = .ok (.aload_n 0, 1) := by decide +kernel
theorem d35_11 : decode jdk_48_method_14_code 11 = .ok (.iload_n 1, 1) := by decide +kernel
theorem d35_12 : decode jdk_48_method_14_code 12 = .ok (.baload, 1) := by decide +kernel
theorem d35_13 : decode jdk_48_method_14_code 13 = .ok (.aload_n 2, 1) := by decide +kernel
theorem d35_14 : decode jdk_48_method_14_code 14 = .ok (.iload_n 3, 1) := by decide +kernel
theorem d35_15 : decode jdk_48_method_14_code 15 = .ok (.baload, 1) := by decide +kernel
theorem d35_16 : decode jdk_48_method_14_code 16 = .ok (.if_icmp .eq 5, 3) := by decide +kernel
theorem d35_19 : decode jdk_48_method_14_code 19 = .ok (.iconst 0, 1) := by decide +kernel
theorem d35_20 : decode jdk_48_method_14_code 20 = .ok (.ireturn, 1) := by decide +kernel
theorem d35_21 : decode jdk_48_method_14_code 21 = .ok (.getstatic 126, 3) := by decide +kernel
theorem d35_24 : decode jdk_48_method_14_code 24 = .ok (.iload_n 1, 1) := by decide +kernel
theorem d35_25 : decode jdk_48_method_14_code 25 = .ok (.iadd, 1) := by decide +kernel
theorem d35_26 : decode jdk_48_method_14_code 26 = .ok (.istore 6, 2) := by decide +kernel
theorem d35_28 : decode jdk_48_method_14_code 28 = .ok (.getstatic 126, 3) := by decide +kernel
theorem d35_31 : decode jdk_48_method_14_code 31 = .ok (.iload_n 3, 1) := by decide +kernel
theorem d35_32 : decode jdk_48_method_14_code 32 = .ok (.iadd, 1) := by decide +kernel
theorem d35_33 : decode jdk_48_method_14_code 33 = .ok (.istore 7, 2) := by decide +kernel
theorem d35_35 : decode jdk_48_method_14_code 35 = .ok (.aload_n 0, 1) := by decide +kernel
theorem d35_36 : decode jdk_48_method_14_code 36 = .ok (.iload 6, 2) := by decide +kernel
theorem d35_38 : decode jdk_48_method_14_code 38 = .ok (.i2l, 1) := by decide +kernel
theorem d35_39 : decode jdk_48_method_14_code 39 = .ok (.aload_n 2, 1) := by decide +kernel
theorem d35_40 : decode jdk_48_method_14_code 40 = .ok (.iload 7, 2) := by decide +kernel
theorem d35_42 : decode jdk_48_method_14_code 42 = .ok (.i2l, 1) := by decide +kernel
theorem d35_43 : decode jdk_48_method_14_code 43 = .ok (.iload 4, 2) := by decide +kernel
theorem d35_45 : decode jdk_48_method_14_code 45 = .ok (.getstatic 129, 3) := by decide +kernel
theorem d35_48 : decode jdk_48_method_14_code 48 = .ok (.invokestatic 122, 3) := by decide +kernel
theorem d35_51 : decode jdk_48_method_14_code 51 = .ok (.istore 5, 2) := by decide +kernel
theorem d35_53 : decode jdk_48_method_14_code 53 = .ok (.iload 5, 2) := by decide +kernel
theorem d35_55 : decode jdk_48_method_14_code 55 = .ok (.ifCond .lt 6, 3) := by decide +kernel
theorem d35_58 : decode jdk_48_method_14_code 58 = .ok (.iload 5, 2) := by decide +kernel
theorem d35_60 : decode jdk_48_method_14_code 60 = .ok (.ireturn, 1) := by decide +kernel
theorem d35_61 : decode jdk_48_method_14_code 61 = .ok (.iload 4, 2) := by decide +kernel
theorem d35_63 : decode jdk_48_method_14_code 63 = .ok (.iload 5, 2) := by decide +kernel
theorem d35_65 : decode jdk_48_method_14_code 65 = .ok (.iconst (-1), 1) := by decide +kernel
theorem d35_66 : decode jdk_48_method_14_code 66 = .ok (.ixor, 1) := by decide +kernel
theorem d35_67 : decode jdk_48_method_14_code 67 = .ok (.isub, 1) := by decide +kernel
theorem d35_68 : decode jdk_48_method_14_code 68 = .ok (.istore 5, 2) := by decide +kernel
theorem d35_70 : decode jdk_48_method_14_code 70 = .ok (.iload 5, 2) := by decide +kernel
theorem d35_72 : decode jdk_48_method_14_code 72 = .ok (.iload 4, 2) := by decide +kernel
theorem d35_74 : decode jdk_48_method_14_code 74 = .ok (.if_icmp .ge 27, 3) := by decide +kernel
theorem d35_77 : decode jdk_48_method_14_code 77 = .ok (.aload_n 0, 1) := by decide +kernel
theorem d35_78 : decode jdk_48_method_14_code 78 = .ok (.iload_n 1, 1) := by decide +kernel
theorem d35_79 : decode jdk_48_method_14_code 79 = .ok (.iload 5, 2) := by decide +kernel
theorem d35_81 : decode jdk_48_method_14_code 81 = .ok (.iadd, 1) := by decide +kernel
theorem d35_82 : decode jdk_48_method_14_code 82 = .ok (.baload, 1) := by decide +kernel
theorem d35_83 : decode jdk_48_method_14_code 83 = .ok (.aload_n 2, 1) := by decide +kernel
theorem d35_84 : decode jdk_48_method_14_code 84 = .ok (.iload_n 3, 1) := by decide +kernel
theorem d35_85 : decode jdk_48_method_14_code 85 = .ok (.iload 5, 2) := by decide +kernel
theorem d35_87 : decode jdk_48_method_14_code 87 = .ok (.iadd, 1) := by decide +kernel
theorem d35_88 : decode jdk_48_method_14_code 88 = .ok (.baload, 1) := by decide +kernel
theorem d35_89 : decode jdk_48_method_14_code 89 = .ok (.if_icmp .eq 6, 3) := by decide +kernel
theorem d35_92 : decode jdk_48_method_14_code 92 = .ok (.iload 5, 2) := by decide +kernel
theorem d35_94 : decode jdk_48_method_14_code 94 = .ok (.ireturn, 1) := by decide +kernel
theorem d35_95 : decode jdk_48_method_14_code 95 = .ok (.iinc 5 1, 3) := by decide +kernel
theorem d35_98 : decode jdk_48_method_14_code 98 = .ok (.goto (-28), 3) := by decide +kernel
theorem d35_101 : decode jdk_48_method_14_code 101 = .ok (.iconst (-1), 1) := by decide +kernel
theorem d35_102 : decode jdk_48_method_14_code 102 = .ok (.ireturn, 1) := by decide +kernel
set_option maxRecDepth 65536 in
set_option maxHeartbeats 4000000 in
theorem c_mm (l : Launch) (Z : State) (a0 : Array Value) (hw : ∀ d ∈ tables_1, d.before a0 Z = true) (h0 : Heap) (t t2 : Addr) (kb kc : ClassId) (bs : List Int32) (A : Ow.AL Z h0 t kb .byte (bs.map Value.int)) (B : Ow.AL Z h0 t2 kc .byte [.int 45, .int 45]) (h2 : 2 ≤ bs.length) (hnp : own_np bs) : Ow.Pay l Z (⟨"jdk/internal/util/ArraysSupport", "mismatch", "([BI[BII)I"⟩ : MethodName) jdk_48_method_14_code 8 (some .int) ({ frames := 0, cells := 0, slots := 0, locals := 0 } : Room) #[(.ref t), (.int 0), (.ref t2), (.int 0), (.int 2)] h0 (fun v h L => v = some (.int (if bs.getD 0 0 = 45 then 1 else 0)) ∧ h = h0 ∧ L = []) := by
  refine Ow.Pay.of (Ls := #[.val (.ref t), .val (.int 0), .val (.ref t2), .val (.int 0), .val (.int 2), .unset, .unset, .unset]) (plainFor_of_name pn9) (fun m => by first | rfl | (simp [entryFrame, mkF, argsToLocals, Value.category]; done)) ?_
  intro p e s m below meth c T hx hby hml hown hnm hme hZ hret hlk X eT
  have hg0 : (bs.map Value.int)[0]? = some (.int (bs.getD 0 0)) := by
    have : 0 < bs.length := by omega
    simp [this]
  have hg1 : (bs.map Value.int)[1]? = some (.int (bs.getD 1 0)) := by
    have : 1 < bs.length := by omega
    simp [this]
  refine Ow.iconst X hx (pc := 0) (0) (hb hby d35_0) (by decide) ?_
  refine Ow.istore X hx (pc := 1) #[_, _, _, _, _, _, _, _] (hb hby d35_1) rfl ?_
  refine Ow.iload X hx (pc := 3) (hb hby d35_3) rfl ?_
  refine Ow.bipush X hx (pc := 5) (7) (hb hby d35_5) (by decide) ?_
  refine Ow.icmp_le X hx (pc := 7) (pc' := 70) (hb hby d35_7) (by decide) (by decide) (fun h7 => ?_) (fun q => absurd q (by decide))
  refine Ow.iload X hx (pc := 70) (hb hby d35_70) rfl ?_
  refine Ow.iload X hx (pc := 72) (hb hby d35_72) rfl ?_
  refine Ow.icmp_ge X hx (pc := 74) (pc' := 101) (hb hby d35_74) (by decide) (by decide) (fun q => absurd (by decide) q) (fun h74 => ?_)
  refine Ow.aloadN X hx (pc := 77) (hb hby d35_77) rfl rfl ?_
  refine Ow.iloadN X hx (pc := 78) (hb hby d35_78) rfl ?_
  refine Ow.iload X hx (pc := 79) (hb hby d35_79) rfl ?_
  refine Ow.iadd X hx (pc := 81) (hb hby d35_81) ?_
  rw [show (0 + 0 : Int32) = 0 from by decide]
  refine Ow.baloadL X hx hZ eT A 0 (.int (bs.getD 0 0)) (by decide) (by decide) hg0 (pc := 82) (hb hby d35_82) ?_
  refine Ow.aloadN X hx (pc := 83) (hb hby d35_83) rfl rfl ?_
  refine Ow.iloadN X hx (pc := 84) (hb hby d35_84) rfl ?_
  refine Ow.iload X hx (pc := 85) (hb hby d35_85) rfl ?_
  refine Ow.iadd X hx (pc := 87) (hb hby d35_87) ?_
  rw [show (0 + 0 : Int32) = 0 from by decide]
  refine Ow.baloadL X hx hZ eT B 0 (.int 45) (by decide) (by decide) rfl (pc := 88) (hb hby d35_88) ?_
  refine Ow.icmp_eq X hx (pc := 89) (pc' := 95) (hb hby d35_89) (by decide) (by decide) (fun h89 => ?_) (fun h89 => ?_)
  · have g89 := h89
    refine Ow.iinc X hx (pc := 95) (1) #[_, _, _, _, _, _, _, _] (hb hby d35_95) (by decide) rfl rfl ?_
    rw [show (0 + 1 : Int32) = 1 from by decide]
    refine Ow.goto X hx (pc := 98) (pc' := 70) (hb hby d35_98) (by decide) (by decide) ?_
    refine Ow.iload X hx (pc := 70) (hb hby d35_70) rfl ?_
    refine Ow.iload X hx (pc := 72) (hb hby d35_72) rfl ?_
    refine Ow.icmp_ge X hx (pc := 74) (pc' := 101) (hb hby d35_74) (by decide) (by decide) (fun q => absurd (by decide) q) (fun h74 => ?_)
    refine Ow.aloadN X hx (pc := 77) (hb hby d35_77) rfl rfl ?_
    refine Ow.iloadN X hx (pc := 78) (hb hby d35_78) rfl ?_
    refine Ow.iload X hx (pc := 79) (hb hby d35_79) rfl ?_
    refine Ow.iadd X hx (pc := 81) (hb hby d35_81) ?_
    rw [show (0 + 1 : Int32) = 1 from by decide]
    refine Ow.baloadL X hx hZ eT A 1 (.int (bs.getD 1 0)) (by decide) (by decide) hg1 (pc := 82) (hb hby d35_82) ?_
    refine Ow.aloadN X hx (pc := 83) (hb hby d35_83) rfl rfl ?_
    refine Ow.iloadN X hx (pc := 84) (hb hby d35_84) rfl ?_
    refine Ow.iload X hx (pc := 85) (hb hby d35_85) rfl ?_
    refine Ow.iadd X hx (pc := 87) (hb hby d35_87) ?_
    rw [show (0 + 1 : Int32) = 1 from by decide]
    refine Ow.baloadL X hx hZ eT B 1 (.int 45) (by decide) (by decide) rfl (pc := 88) (hb hby d35_88) ?_
    refine Ow.icmp_eq X hx (pc := 89) (pc' := 95) (hb hby d35_89) (by decide) (by decide) (fun q => absurd ⟨h89, q⟩ (hnp h2)) (fun h89 => ?_)
    refine Ow.iload X hx (pc := 92) (hb hby d35_92) rfl ?_
    exact Ow.ireturn X hx hlk hret (hb hby d35_94) ⟨(by rw [if_pos g89]), eT, rfl⟩ (by decide) (by decide)
  · refine Ow.iload X hx (pc := 92) (hb hby d35_92) rfl ?_
    exact Ow.ireturn X hx hlk hret (hb hby d35_94) ⟨(by rw [if_neg h89]), eT, rfl⟩ (by decide) (by decide)
theorem d24_0 : decode jdk_42_method_75_code 0 = .ok (.iload_n 2, 1) := by decide +kernel
theorem d24_1 : decode jdk_42_method_75_code 1 = .ok (.ifCond .lt 16, 3) := by decide +kernel
theorem d24_4 : decode jdk_42_method_75_code 4 = .ok (.iload_n 2, 1) := by decide +kernel
theorem d24_5 : decode jdk_42_method_75_code 5 = .ok (.aload_n 0, 1) := by decide +kernel
theorem d24_6 : decode jdk_42_method_75_code 6 = .ok (.invokevirtual 505, 3) := by decide +kernel
theorem d24_9 : decode jdk_42_method_75_code 9 = .ok (.aload_n 1, 1) := by decide +kernel
theorem d24_10 : decode jdk_42_method_75_code 10 = .ok (.invokevirtual 505, 3) := by decide +kernel
theorem d24_13 : decode jdk_42_method_75_code 13 = .ok (.isub, 1) := by decide +kernel
theorem d24_14 : decode jdk_42_method_75_code 14 = .ok (.if_icmp .le 5, 3) := by decide +kernel
theorem d24_17 : decode jdk_42_method_75_code 17 = .ok (.iconst 0, 1) := by decide +kernel
theorem d24_18 : decode jdk_42_method_75_code 18 = .ok (.ireturn, 1) := by decide +kernel
theorem d24_19 : decode jdk_42_method_75_code 19 = .ok (.aload_n 0, 1) := by decide +kernel
theorem d24_20 : decode jdk_42_method_75_code 20 = .ok (.getfield 9, 3) := by decide +kernel
theorem d24_23 : decode jdk_42_method_75_code 23 = .ok (.astore_n 3, 1) := by decide +kernel
theorem d24_24 : decode jdk_42_method_75_code 24 = .ok (.aload_n 1, 1) := by decide +kernel
theorem d24_25 : decode jdk_42_method_75_code 25 = .ok (.getfield 9, 3) := by decide +kernel
theorem d24_28 : decode jdk_42_method_75_code 28 = .ok (.astore 4, 2) := by decide +kernel
theorem d24_30 : decode jdk_42_method_75_code 30 = .ok (.iconst 0, 1) := by decide +kernel
theorem d24_31 : decode jdk_42_method_75_code 31 = .ok (.istore 5, 2) := by decide +kernel
theorem d24_33 : decode jdk_42_method_75_code 33 = .ok (.aload 4, 2) := by decide +kernel
theorem d24_35 : decode jdk_42_method_75_code 35 = .ok (.arraylength, 1) := by decide +kernel
theorem d24_36 : decode jdk_42_method_75_code 36 = .ok (.istore 6, 2) := by decide +kernel
theorem d24_38 : decode jdk_42_method_75_code 38 = .ok (.aload_n 0, 1) := by decide +kernel
theorem d24_39 : decode jdk_42_method_75_code 39 = .ok (.invokevirtual 335, 3) := by decide +kernel
theorem d24_42 : decode jdk_42_method_75_code 42 = .ok (.istore 7, 2) := by decide +kernel
theorem d24_44 : decode jdk_42_method_75_code 44 = .ok (.iload 7, 2) := by decide +kernel
theorem d24_46 : decode jdk_42_method_75_code 46 = .ok (.aload_n 1, 1) := by decide +kernel
theorem d24_47 : decode jdk_42_method_75_code 47 = .ok (.invokevirtual 335, 3) := by decide +kernel
theorem d24_50 : decode jdk_42_method_75_code 50 = .ok (.if_icmp .ne 32, 3) := by decide +kernel
theorem d24_53 : decode jdk_42_method_75_code 53 = .ok (.iload 7, 2) := by decide +kernel
theorem d24_55 : decode jdk_42_method_75_code 55 = .ok (.iconst 1, 1) := by decide +kernel
theorem d24_56 : decode jdk_42_method_75_code 56 = .ok (.if_icmp .ne 7, 3) := by decide +kernel
theorem d24_59 : decode jdk_42_method_75_code 59 = .ok (.iload_n 2, 1) := by decide +kernel
theorem d24_60 : decode jdk_42_method_75_code 60 = .ok (.iconst 1, 1) := by decide +kernel
theorem d24_61 : decode jdk_42_method_75_code 61 = .ok (.ishl, 1) := by decide +kernel
theorem d24_62 : decode jdk_42_method_75_code 62 = .ok (.istore_n 2, 1) := by decide +kernel
theorem d24_63 : decode jdk_42_method_75_code 63 = .ok (.aload_n 3, 1) := by decide +kernel
theorem d24_64 : decode jdk_42_method_75_code 64 = .ok (.iload_n 2, 1) := by decide +kernel
theorem d24_65 : decode jdk_42_method_75_code 65 = .ok (.aload 4, 2) := by decide +kernel
theorem d24_67 : decode jdk_42_method_75_code 67 = .ok (.iconst 0, 1) := by decide +kernel
theorem d24_68 : decode jdk_42_method_75_code 68 = .ok (.iload 6, 2) := by decide +kernel
theorem d24_70 : decode jdk_42_method_75_code 70 = .ok (.invokestatic 607, 3) := by decide +kernel
theorem d24_73 : decode jdk_42_method_75_code 73 = .ok (.ifCond .ge 7, 3) := by decide +kernel
theorem d24_76 : decode jdk_42_method_75_code 76 = .ok (.iconst 1, 1) := by decide +kernel
theorem d24_77 : decode jdk_42_method_75_code 77 = .ok (.goto 4, 3) := by decide +kernel
theorem d24_80 : decode jdk_42_method_75_code 80 = .ok (.iconst 0, 1) := by decide +kernel
theorem d24_81 : decode jdk_42_method_75_code 81 = .ok (.ireturn, 1) := by decide +kernel
theorem d24_82 : decode jdk_42_method_75_code 82 = .ok (.iload 7, 2) := by decide +kernel
theorem d24_84 : decode jdk_42_method_75_code 84 = .ok (.ifCond .ne 5, 3) := by decide +kernel
theorem d24_87 : decode jdk_42_method_75_code 87 = .ok (.iconst 0, 1) := by decide +kernel
theorem d24_88 : decode jdk_42_method_75_code 88 = .ok (.ireturn, 1) := by decide +kernel
theorem d24_89 : decode jdk_42_method_75_code 89 = .ok (.iload 5, 2) := by decide +kernel
theorem d24_91 : decode jdk_42_method_75_code 91 = .ok (.iload 6, 2) := by decide +kernel
theorem d24_93 : decode jdk_42_method_75_code 93 = .ok (.if_icmp .ge 28, 3) := by decide +kernel
theorem d24_96 : decode jdk_42_method_75_code 96 = .ok (.aload_n 3, 1) := by decide +kernel
theorem d24_97 : decode jdk_42_method_75_code 97 = .ok (.iload_n 2, 1) := by decide +kernel
theorem d24_98 : decode jdk_42_method_75_code 98 = .ok (.iinc 2 1, 3) := by decide +kernel
theorem d24_101 : decode jdk_42_method_75_code 101 = .ok (.invokestatic 360, 3) := by decide +kernel
theorem d24_104 : decode jdk_42_method_75_code 104 = .ok (.aload 4, 2) := by decide +kernel
theorem d24_106 : decode jdk_42_method_75_code 106 = .ok (.iload 5, 2) := by decide +kernel
theorem d24_108 : decode jdk_42_method_75_code 108 = .ok (.iinc 5 1, 3) := by decide +kernel
theorem d24_111 : decode jdk_42_method_75_code 111 = .ok (.baload, 1) := by decide +kernel
theorem d24_112 : decode jdk_42_method_75_code 112 = .ok (.sipush 255, 3) := by decide +kernel
theorem d24_115 : decode jdk_42_method_75_code 115 = .ok (.iand, 1) := by decide +kernel
theorem d24_116 : decode jdk_42_method_75_code 116 = .ok (.if_icmp .eq (-27), 3) := by decide +kernel
theorem d24_119 : decode jdk_42_method_75_code 119 = .ok (.iconst 0, 1) := by decide +kernel
theorem d24_120 : decode jdk_42_method_75_code 120 = .ok (.ireturn, 1) := by decide +kernel
theorem d24_121 : decode jdk_42_method_75_code 121 = .ok (.iconst 1, 1) := by decide +kernel
theorem d24_122 : decode jdk_42_method_75_code 122 = .ok (.ireturn, 1) := by decide +kernel
set_option maxRecDepth 65536 in
set_option maxHeartbeats 4000000 in
theorem c_sw2 (l : Launch) (Z : State) (a0 : Array Value) (hw : ∀ d ∈ tables_1, d.before a0 Z = true) (h0 : Heap) (z : Int32) (S : Sta Z h0 "java/lang/String" "COMPACT_STRINGS" "Z" (.int z)) (hz : ¬ z = 0) (x t q t2 : Addr) (kb kc : ClassId) (bs : List Int32) (St : Ow.Str Z h0 x t kb bs) (Sq : Ow.Str Z h0 q t2 kc [45, 45]) (hl3 : bs.length ≤ 3) (hnp : own_np bs) : Ow.Pay l Z (⟨"java/lang/String", "startsWith", "(Ljava/lang/String;I)Z"⟩ : MethodName) jdk_42_method_75_code 8 (some .boolean) ({ frames := 2, cells := 0, slots := 0, locals := 28 } : Room) #[(.ref x), (.ref q), (.int 0)] h0 (fun v h L => v = some (.int 0) ∧ h = h0 ∧ L = []) := by
  refine Ow.Pay.of (Ls := #[.val (.ref x), .val (.ref q), .val (.int 0), .unset, .unset, .unset, .unset, .unset]) (plainFor_of_name pn0) (fun m => by first | rfl | (simp [entryFrame, mkF, argsToLocals, Value.category]; done)) ?_
  intro p e s m below meth c T hx hby hml hown hnm hme hZ hret hlk X eT
  by_cases h2 : 2 ≤ bs.length
  · refine Ow.iloadN X hx (pc := 0) (hb hby d24_0) rfl ?_
    refine Ow.if_lt X hx (pc := 1) (pc' := 17) (hb hby d24_1) (by decide) (by decide) (fun q => absurd q (by decide)) (fun h1 => ?_)
    refine Ow.iloadN X hx (pc := 4) (hb hby d24_4) rfl ?_
    refine Ow.aloadN X hx (pc := 5) (hb hby d24_5) rfl rfl ?_
    refine Ow.callVP X hx hZ (c_length l Z a0 hw h0 z x t kb bs S hz St) rfl rfl eT hown (ww hw 156 rfl) (ww hw 157 rfl) (ww hw 159 rfl) (ww hw 158 rfl) (ww hw 6 rfl) (ww hw 160 rfl) (by decide) pd14 (by rw [hml]; rfl) St.1 (argsL := []) rfl rfl rfl (pc := 6) (hb hby d24_6) rfl rfl (by decide) (by decide) ?_   -- java/lang/String.length:()I
    intro T X eT
    dsimp only [Option.toList_some, Option.toList_none, List.cons_append, List.nil_append]
    refine Ow.aloadN X hx (pc := 9) (hb hby d24_9) rfl rfl ?_
    refine Ow.callVP X hx hZ (c_length l Z a0 hw h0 z q t2 kc [45, 45] S hz Sq) rfl rfl eT hown (ww hw 156 rfl) (ww hw 157 rfl) (ww hw 159 rfl) (ww hw 158 rfl) (ww hw 6 rfl) (ww hw 160 rfl) (by decide) pd14 (by rw [hml]; rfl) Sq.1 (argsL := []) rfl rfl rfl (pc := 10) (hb hby d24_10) rfl rfl (by decide) (by decide) ?_   -- java/lang/String.length:()I
    intro T X eT
    dsimp only [Option.toList_some, Option.toList_none, List.cons_append, List.nil_append]
    rw [show Int32.ofNat ([45, 45] : List Int32).length = 2 from rfl]
    refine Ow.isub X hx (pc := 13) (hb hby d24_13) ?_
    refine Ow.icmp_le X hx (pc := 14) (pc' := 19) (hb hby d24_14) (by decide) (by decide) (fun h14 => ?_) (fun q => absurd q (own_ge2 ⟨bs.length, by omega⟩ h2))
    refine Ow.aloadN X hx (pc := 19) (hb hby d24_19) rfl rfl ?_
    refine Ow.getfield X hx hZ hown (ww hw 24 rfl) Via.refl eT St.2.2.1 (pc := 20) (hb hby d24_20) ?_   -- "java/lang/String" "value" "[B"
    intro T X eT
    refine Ow.astoreN X hx (pc := 23) #[_, _, _, _, _, _, _, _] (hb hby d24_23) rfl rfl ?_
    refine Ow.aloadN X hx (pc := 24) (hb hby d24_24) rfl rfl ?_
    refine Ow.getfield X hx hZ hown (ww hw 24 rfl) Via.refl eT Sq.2.2.1 (pc := 25) (hb hby d24_25) ?_   -- "java/lang/String" "value" "[B"
    intro T X eT
    refine Ow.astore X hx (pc := 28) #[_, _, _, _, _, _, _, _] (hb hby d24_28) rfl rfl ?_
    refine Ow.iconst X hx (pc := 30) (0) (hb hby d24_30) (by decide) ?_
    refine Ow.istore X hx (pc := 31) #[_, _, _, _, _, _, _, _] (hb hby d24_31) rfl ?_
    refine Ow.aload X hx (pc := 33) (hb hby d24_33) rfl rfl ?_
    refine Ow.lengthL X hx hZ eT Sq.2.2.2 2 rfl (pc := 35) (hb hby d24_35) ?_
    refine Ow.istore X hx (pc := 36) #[_, _, _, _, _, _, _, _] (hb hby d24_36) rfl ?_
    refine Ow.aloadN X hx (pc := 38) (hb hby d24_38) rfl rfl ?_
    refine Ow.callVP X hx hZ (c_coder l Z a0 hw h0 z x S hz St.2.1) rfl rfl eT hown (ww hw 161 rfl) (ww hw 162 rfl) (ww hw 164 rfl) (ww hw 163 rfl) (ww hw 6 rfl) (ww hw 165 rfl) (by decide) pd3 (by rw [hml]; rfl) St.1 (argsL := []) rfl rfl rfl (pc := 39) (hb hby d24_39) rfl rfl (by decide) (by decide) ?_   -- java/lang/String.coder:()B
    intro T X eT
    dsimp only [Option.toList_some, Option.toList_none, List.cons_append, List.nil_append]
    refine Ow.istore X hx (pc := 42) #[_, _, _, _, _, _, _, _] (hb hby d24_42) rfl ?_
    refine Ow.iload X hx (pc := 44) (hb hby d24_44) rfl ?_
    refine Ow.aloadN X hx (pc := 46) (hb hby d24_46) rfl rfl ?_
    refine Ow.callVP X hx hZ (c_coder l Z a0 hw h0 z q S hz Sq.2.1) rfl rfl eT hown (ww hw 161 rfl) (ww hw 162 rfl) (ww hw 164 rfl) (ww hw 163 rfl) (ww hw 6 rfl) (ww hw 165 rfl) (by decide) pd3 (by rw [hml]; rfl) Sq.1 (argsL := []) rfl rfl rfl (pc := 47) (hb hby d24_47) rfl rfl (by decide) (by decide) ?_   -- java/lang/String.coder:()B
    intro T X eT
    dsimp only [Option.toList_some, Option.toList_none, List.cons_append, List.nil_append]
    refine Ow.icmp_ne X hx (pc := 50) (pc' := 82) (hb hby d24_50) (by decide) (by decide) (fun q => absurd rfl q) (fun h50 => ?_)
    refine Ow.iload X hx (pc := 53) (hb hby d24_53) rfl ?_
    refine Ow.iconst X hx (pc := 55) (1) (hb hby d24_55) (by decide) ?_
    refine Ow.icmp_ne X hx (pc := 56) (pc' := 63) (hb hby d24_56) (by decide) (by decide) (fun h56 => ?_) (fun q => absurd q (by decide))
    refine Ow.aloadN X hx (pc := 63) (hb hby d24_63) rfl rfl ?_
    refine Ow.iloadN X hx (pc := 64) (hb hby d24_64) rfl ?_
    refine Ow.aload X hx (pc := 65) (hb hby d24_65) rfl rfl ?_
    refine Ow.iconst X hx (pc := 67) (0) (hb hby d24_67) (by decide) ?_
    refine Ow.iload X hx (pc := 68) (hb hby d24_68) rfl ?_
    refine Ow.callSP X hx hZ (c_mm l Z a0 hw h0 t t2 kb kc bs St.2.2.2 Sq.2.2.2 h2 hnp) rfl rfl eT hown (ww hw 231 rfl) (ww hw 232 rfl) (ww hw 233 rfl) (ww hw 234 rfl) (by decide) pd15 (by rw [hml]; rfl) (argsL := [_, _, _, _, _]) rfl rfl rfl (pc := 70) (hb hby d24_70) rfl rfl (by decide) (by decide) ?_   -- jdk/internal/util/ArraysSupport.mismatch:([BI[BII)I
    intro T X eT
    dsimp only [Option.toList_some, Option.toList_none, List.cons_append, List.nil_append]
    refine Ow.if_ge X hx (pc := 73) (pc' := 80) (hb hby d24_73) (by decide) (by decide) (fun h73 => ?_) (fun q => absurd q (by split <;> decide))
    refine Ow.iconst X hx (pc := 80) (0) (hb hby d24_80) (by decide) ?_
    exact Ow.nreturn X hx hlk hret (Or.inl rfl) (hb hby d24_81) ⟨rfl, eT, rfl⟩ (by decide) (by decide)
  · refine Ow.iloadN X hx (pc := 0) (hb hby d24_0) rfl ?_
    refine Ow.if_lt X hx (pc := 1) (pc' := 17) (hb hby d24_1) (by decide) (by decide) (fun q => absurd q (by decide)) (fun h1 => ?_)
    refine Ow.iloadN X hx (pc := 4) (hb hby d24_4) rfl ?_
    refine Ow.aloadN X hx (pc := 5) (hb hby d24_5) rfl rfl ?_
    refine Ow.callVP X hx hZ (c_length l Z a0 hw h0 z x t kb bs S hz St) rfl rfl eT hown (ww hw 156 rfl) (ww hw 157 rfl) (ww hw 159 rfl) (ww hw 158 rfl) (ww hw 6 rfl) (ww hw 160 rfl) (by decide) pd14 (by rw [hml]; rfl) St.1 (argsL := []) rfl rfl rfl (pc := 6) (hb hby d24_6) rfl rfl (by decide) (by decide) ?_   -- java/lang/String.length:()I
    intro T X eT
    dsimp only [Option.toList_some, Option.toList_none, List.cons_append, List.nil_append]
    refine Ow.aloadN X hx (pc := 9) (hb hby d24_9) rfl rfl ?_
    refine Ow.callVP X hx hZ (c_length l Z a0 hw h0 z q t2 kc [45, 45] S hz Sq) rfl rfl eT hown (ww hw 156 rfl) (ww hw 157 rfl) (ww hw 159 rfl) (ww hw 158 rfl) (ww hw 6 rfl) (ww hw 160 rfl) (by decide) pd14 (by rw [hml]; rfl) Sq.1 (argsL := []) rfl rfl rfl (pc := 10) (hb hby d24_10) rfl rfl (by decide) (by decide) ?_   -- java/lang/String.length:()I
    intro T X eT
    dsimp only [Option.toList_some, Option.toList_none, List.cons_append, List.nil_append]
    rw [show Int32.ofNat ([45, 45] : List Int32).length = 2 from rfl]
    refine Ow.isub X hx (pc := 13) (hb hby d24_13) ?_
    refine Ow.icmp_le X hx (pc := 14) (pc' := 19) (hb hby d24_14) (by decide) (by decide) (fun q => absurd (own_lt2 ⟨bs.length, by omega⟩) q) (fun h14 => ?_)
    refine Ow.iconst X hx (pc := 17) (0) (hb hby d24_17) (by decide) ?_
    exact Ow.nreturn X hx hlk hret (Or.inl rfl) (hb hby d24_18) ⟨rfl, eT, rfl⟩ (by decide) (by decide)
theorem d23_0 : decode jdk_42_method_76_code 0 = .ok (.aload_n 0, 1) := by decide +kernel
theorem d23_1 : decode jdk_42_method_76_code 1 = .ok (.aload_n 1, 1) := by decide +kernel
theorem d23_2 : decode jdk_42_method_76_code 2 = .ok (.iconst 0, 1) := by decide +kernel
theorem d23_3 : decode jdk_42_method_76_code 3 = .ok (.invokevirtual 624, 3) := by decide +kernel
theorem d23_6 : decode jdk_42_method_76_code 6 = .ok (.ireturn, 1) := by decide +kernel
set_option maxRecDepth 65536 in
set_option maxHeartbeats 4000000 in
theorem c_sw (l : Launch) (Z : State) (a0 : Array Value) (hw : ∀ d ∈ tables_1, d.before a0 Z = true) (h0 : Heap) (z : Int32) (S : Sta Z h0 "java/lang/String" "COMPACT_STRINGS" "Z" (.int z)) (hz : ¬ z = 0) (x t q t2 : Addr) (kb kc : ClassId) (bs : List Int32) (St : Ow.Str Z h0 x t kb bs) (Sq : Ow.Str Z h0 q t2 kc [45, 45]) (hl3 : bs.length ≤ 3) (hnp : own_np bs) : Ow.Pay l Z (⟨"java/lang/String", "startsWith", "(Ljava/lang/String;)Z"⟩ : MethodName) jdk_42_method_76_code 2 (some .boolean) ({ frames := 3, cells := 0, slots := 0, locals := 47 } : Room) #[(.ref x), (.ref q)] h0 (fun v h L => v = some (.int 0) ∧ h = h0 ∧ L = []) := by
  refine Ow.Pay.of (Ls := #[.val (.ref x), .val (.ref q)]) (plainFor_of_name pn0) (fun m => by first | rfl | (simp [entryFrame, mkF, argsToLocals, Value.category]; done)) ?_
  intro p e s m below meth c T hx hby hml hown hnm hme hZ hret hlk X eT
  refine Ow.aloadN X hx (pc := 0) (hb hby d23_0) rfl rfl ?_
  refine Ow.aloadN X hx (pc := 1) (hb hby d23_1) rfl rfl ?_
  refine Ow.iconst X hx (pc := 2) (0) (hb hby d23_2) (by decide) ?_
  refine Ow.callVP X hx hZ (c_sw2 l Z a0 hw h0 z S hz x t q t2 kb kc bs St Sq hl3 hnp) rfl rfl eT hown (ww hw 151 rfl) (ww hw 152 rfl) (ww hw 154 rfl) (ww hw 153 rfl) (ww hw 6 rfl) (ww hw 155 rfl) (by decide) pd16 (by rw [hml]; rfl) St.1 (argsL := [_, _]) rfl rfl rfl (pc := 3) (hb hby d23_3) rfl rfl (by decide) (by decide) ?_   -- java/lang/String.startsWith:(Ljava/lang/String;I)Z
  intro T X eT
  dsimp only [Option.toList_some, Option.toList_none, List.cons_append, List.nil_append]
  exact Ow.nreturn X hx hlk hret (Or.inl rfl) (hb hby d23_6) ⟨rfl, eT, rfl⟩ (by decide) (by decide)
theorem d0_0 : decode method_2_code 0 = .ok (.iload_n 0, 1) := by decide +kernel
theorem d0_1 : decode method_2_code 1 = .ok (.iconst 3, 1) := by decide +kernel
theorem d0_2 : decode method_2_code 2 = .ok (.iand, 1) := by decide +kernel
theorem d0_3 : decode method_2_code 3 = .ok (.istore_n 1, 1) := by decide +kernel
theorem d0_4 : decode method_2_code 4 = .ok (.iload_n 0, 1) := by decide +kernel
theorem d0_5 : decode method_2_code 5 = .ok (.iconst 2, 1) := by decide +kernel
theorem d0_6 : decode method_2_code 6 = .ok (.iushr, 1) := by decide +kernel
theorem d0_7 : decode method_2_code 7 = .ok (.sipush 255, 3) := by decide +kernel
theorem d0_10 : decode method_2_code 10 = .ok (.iand, 1) := by decide +kernel
theorem d0_11 : decode method_2_code 11 = .ok (.i2c, 1) := by decide +kernel
theorem d0_12 : decode method_2_code 12 = .ok (.istore_n 2, 1) := by decide +kernel
theorem d0_13 : decode method_2_code 13 = .ok (.iload_n 0, 1) := by decide +kernel
theorem d0_14 : decode method_2_code 14 = .ok (.bipush 10, 2) := by decide +kernel
theorem d0_16 : decode method_2_code 16 = .ok (.iushr, 1) := by decide +kernel
theorem d0_17 : decode method_2_code 17 = .ok (.sipush 255, 3) := by decide +kernel
theorem d0_20 : decode method_2_code 20 = .ok (.iand, 1) := by decide +kernel
theorem d0_21 : decode method_2_code 21 = .ok (.i2c, 1) := by decide +kernel
theorem d0_22 : decode method_2_code 22 = .ok (.istore_n 3, 1) := by decide +kernel
theorem d0_23 : decode method_2_code 23 = .ok (.iload_n 0, 1) := by decide +kernel
theorem d0_24 : decode method_2_code 24 = .ok (.bipush 18, 2) := by decide +kernel
theorem d0_26 : decode method_2_code 26 = .ok (.iushr, 1) := by decide +kernel
theorem d0_27 : decode method_2_code 27 = .ok (.sipush 255, 3) := by decide +kernel
theorem d0_30 : decode method_2_code 30 = .ok (.iand, 1) := by decide +kernel
theorem d0_31 : decode method_2_code 31 = .ok (.i2c, 1) := by decide +kernel
theorem d0_32 : decode method_2_code 32 = .ok (.istore 4, 2) := by decide +kernel
theorem d0_34 : decode method_2_code 34 = .ok (.iload_n 2, 1) := by decide +kernel
theorem d0_35 : decode method_2_code 35 = .ok (.bipush 45, 2) := by decide +kernel
theorem d0_37 : decode method_2_code 37 = .ok (.if_icmp .ne 12, 3) := by decide +kernel
theorem d0_40 : decode method_2_code 40 = .ok (.iload_n 3, 1) := by decide +kernel
theorem d0_41 : decode method_2_code 41 = .ok (.bipush 45, 2) := by decide +kernel
theorem d0_43 : decode method_2_code 43 = .ok (.if_icmp .ne 6, 3) := by decide +kernel
theorem d0_46 : decode method_2_code 46 = .ok (.bipush 43, 2) := by decide +kernel
theorem d0_48 : decode method_2_code 48 = .ok (.istore_n 3, 1) := by decide +kernel
theorem d0_49 : decode method_2_code 49 = .ok (.iload_n 1, 1) := by decide +kernel
theorem d0_50 : decode method_2_code 50 = .ok (.ifCond .ne 14, 3) := by decide +kernel
theorem d0_53 : decode method_2_code 53 = .ok (.new 7, 3) := by decide +kernel
theorem d0_56 : decode method_2_code 56 = .ok (.dup, 1) := by decide +kernel
theorem d0_57 : decode method_2_code 57 = .ok (.iconst 0, 1) := by decide +kernel
theorem d0_58 : decode method_2_code 58 = .ok (.newarray .char, 2) := by decide +kernel
theorem d0_60 : decode method_2_code 60 = .ok (.invokespecial 9, 3) := by decide +kernel
theorem d0_63 : decode method_2_code 63 = .ok (.areturn, 1) := by decide +kernel
theorem d0_64 : decode method_2_code 64 = .ok (.iload_n 1, 1) := by decide +kernel
theorem d0_65 : decode method_2_code 65 = .ok (.iconst 1, 1) := by decide +kernel
theorem d0_66 : decode method_2_code 66 = .ok (.if_icmp .ne 8, 3) := by decide +kernel
theorem d0_69 : decode method_2_code 69 = .ok (.iload_n 2, 1) := by decide +kernel
theorem d0_70 : decode method_2_code 70 = .ok (.invokestatic 12, 3) := by decide +kernel
theorem d0_73 : decode method_2_code 73 = .ok (.areturn, 1) := by decide +kernel
theorem d0_74 : decode method_2_code 74 = .ok (.iload_n 1, 1) := by decide +kernel
theorem d0_75 : decode method_2_code 75 = .ok (.iconst 2, 1) := by decide +kernel
theorem d0_76 : decode method_2_code 76 = .ok (.if_icmp .ne 22, 3) := by decide +kernel
theorem d0_79 : decode method_2_code 79 = .ok (.new 7, 3) := by decide +kernel
theorem d0_82 : decode method_2_code 82 = .ok (.dup, 1) := by decide +kernel
theorem d0_83 : decode method_2_code 83 = .ok (.iconst 2, 1) := by decide +kernel
theorem d0_84 : decode method_2_code 84 = .ok (.newarray .char, 2) := by decide +kernel
theorem d0_86 : decode method_2_code 86 = .ok (.dup, 1) := by decide +kernel
theorem d0_87 : decode method_2_code 87 = .ok (.iconst 0, 1) := by decide +kernel
theorem d0_88 : decode method_2_code 88 = .ok (.iload_n 2, 1) := by decide +kernel
theorem d0_89 : decode method_2_code 89 = .ok (.castore, 1) := by decide +kernel
theorem d0_90 : decode method_2_code 90 = .ok (.dup, 1) := by decide +kernel
theorem d0_91 : decode method_2_code 91 = .ok (.iconst 1, 1) := by decide +kernel
theorem d0_92 : decode method_2_code 92 = .ok (.iload_n 3, 1) := by decide +kernel
theorem d0_93 : decode method_2_code 93 = .ok (.castore, 1) := by decide +kernel
theorem d0_94 : decode method_2_code 94 = .ok (.invokespecial 9, 3) := by decide +kernel
theorem d0_97 : decode method_2_code 97 = .ok (.areturn, 1) := by decide +kernel
theorem d0_98 : decode method_2_code 98 = .ok (.new 7, 3) := by decide +kernel
theorem d0_101 : decode method_2_code 101 = .ok (.dup, 1) := by decide +kernel
theorem d0_102 : decode method_2_code 102 = .ok (.iconst 3, 1) := by decide +kernel
theorem d0_103 : decode method_2_code 103 = .ok (.newarray .char, 2) := by decide +kernel
theorem d0_105 : decode method_2_code 105 = .ok (.dup, 1) := by decide +kernel
theorem d0_106 : decode method_2_code 106 = .ok (.iconst 0, 1) := by decide +kernel
theorem d0_107 : decode method_2_code 107 = .ok (.iload_n 2, 1) := by decide +kernel
theorem d0_108 : decode method_2_code 108 = .ok (.castore, 1) := by decide +kernel
theorem d0_109 : decode method_2_code 109 = .ok (.dup, 1) := by decide +kernel
theorem d0_110 : decode method_2_code 110 = .ok (.iconst 1, 1) := by decide +kernel
theorem d0_111 : decode method_2_code 111 = .ok (.iload_n 3, 1) := by decide +kernel
theorem d0_112 : decode method_2_code 112 = .ok (.castore, 1) := by decide +kernel
theorem d0_113 : decode method_2_code 113 = .ok (.dup, 1) := by decide +kernel
theorem d0_114 : decode method_2_code 114 = .ok (.iconst 2, 1) := by decide +kernel
theorem d0_115 : decode method_2_code 115 = .ok (.iload 4, 2) := by decide +kernel
theorem d0_117 : decode method_2_code 117 = .ok (.castore, 1) := by decide +kernel
theorem d0_118 : decode method_2_code 118 = .ok (.invokespecial 9, 3) := by decide +kernel
theorem d0_121 : decode method_2_code 121 = .ok (.areturn, 1) := by decide +kernel
set_option maxRecDepth 65536 in
set_option maxHeartbeats 40000000 in
theorem c_word0 (l : Launch) (Z : State) (a0 : Array Value) (hw : ∀ d ∈ tables_1, d.before a0 Z = true) (hEL : EW Z a0 EL) (h0 : Heap) (z : Int32) (S : Sta Z h0 "java/lang/String" "COMPACT_STRINGS" "Z" (.int z)) (hz : ¬ z = 0) (p0 : Int32) (hk : p0 &&& 3 = 0) : Ow.PayW l Z EL [] (⟨"com/example/rowgate/rowgate/OptionsParsePinLaw", "word", "(I)Ljava/lang/String;"⟩ : MethodName) method_2_code 5 (some (.object "java/lang/String")) ({ frames := 4, cells := 6, slots := 20, locals := 80 } : Room) #[(.int p0)] h0 (fun v h L => ∃ x t kb bs, v = some (.ref x) ∧ Ow.Eff h0 h [] L ∧ Ow.Str Z h x t kb bs ∧ bs.length ≤ 3 ∧ own_np bs) := by
  refine Ow.PayW.of (Ls := #[.val (.int p0), .unset, .unset, .unset, .unset]) (plainFor_of_name pn10) (fun m => by first | rfl | (simp [entryFrame, mkF, argsToLocals, Value.category]; done)) ?_
  intro p e s m below meth c T vm0 hx hby hml hown hnm hme hret hlk X eT D hsf
  obtain ⟨ka, hka⟩ := own_mask8 (XT.ushr p0 2)
  obtain ⟨kb, hkb⟩ := own_mask8 (XT.ushr p0 10)
  obtain ⟨kc, hkc⟩ := own_mask8 (XT.ushr p0 18)
  have J : ∀ (d1 : Int32) (T : State), Stand p l e ({ frames := 4, cells := 6, slots := 20, locals := 80 } : Room) (s.setVm vm0) m #[(.int p0)] below meth c T [] 0 0 → T.heap = h0 → ((∃ k : Fin 256, d1 = Int32.ofNat k.val) ∧ ¬ (Int32.ofNat ka.val = 45 ∧ d1 = 45)) → Go p.tables e below (Ow.EndW Z EL s (fun v h L => ∃ x t kb bs, v = some (.ref x) ∧ Ow.Eff h0 h [] L ∧ Ow.Str Z h x t kb bs ∧ bs.length ≤ 3 ∧ own_np bs) 6 20) (T.setTop (mkF m 49 #[.val (.int p0), .val (.int 0), .val (.int (Int32.ofNat ka.val)), .val (.int d1), .val (.int (Int32.ofNat kc.val))] [])) := by
    rintro _ T X eT ⟨⟨kd, rfl⟩, hnn⟩
    have F := Ow.Eff.refl h0 []
    refine Ow.iloadN X hx (pc := 49) (hb hby d0_49) rfl ?_
    refine Ow.if_ne X hx (pc := 50) (pc' := 64) (hb hby d0_50) (by decide) (by decide) (fun q => absurd rfl q) (fun h50 => ?_)
    refine Ow.new_ X hx D.hZ hown (ww hw 4 rfl) (ww hw 5 rfl) (ww hw 6 rfl) eT (pc := 53) (hb hby d0_53) (by decide) (by decide) ?_
    intro T h_x x ha_x X eT E_x A_x D_x U_x
    have l_x : h0.size ≤ x := by rw [ha_x]; exact F.size
    have S_x := D.safeNew E_x
    rw [← ha_x] at S_x
    have S := S.ext E_x
    have F := F.ext E_x
    have D := D.ext E_x
    have V_x := D_x (Or.inr (ww hw 20 rfl)) (ty := .array .byte) (by decide)
    have C_x := D_x (Or.inr (ww hw 21 rfl)) (ty := .byte) (by decide)
    refine Ow.dup X hx (pc := 56) (hb hby d0_56) rfl ?_
    refine Ow.iconst X hx (pc := 57) (0) (hb hby d0_57) (by decide) ?_
    refine Ow.newarrayL X hx D.hZ (ww hw 7 rfl) eT 0 (vs := []) rfl (pc := 58) (hb hby d0_58) (by decide) (by decide) (by decide) (by decide) (by decide) ?_
    intro T h_cA k_cA cA ha_cA X eT E_cA B_cA
    have l_cA : h0.size ≤ cA := by rw [ha_cA]; exact F.size
    have ne_x_cA : x ≠ cA := by rw [ha_cA]; exact Nat.ne_of_lt A_x.lt
    have S_cA := D.safeNew E_cA
    rw [← ha_cA] at S_cA
    have S := S.ext E_cA
    have A_x := A_x.ext E_cA
    have V_x := V_x.ext E_cA
    have C_x := C_x.ext E_cA
    have S_x := D.safeExt E_cA S_x
    have F := F.ext E_cA
    have D := D.ext E_cA
    refine Ow.callIW X hx (c_new1e l Z a0 hw hEL _ _ _ _ _ A_x V_x C_x _ B_cA) eT D hEL (fun y hy => by cases List.mem_singleton.mp hy; exact ⟨A_x.lt, S_x⟩) rfl hown (ww hw 8 rfl) (ww hw 9 rfl) (ww hw 6 rfl) (ww hw 10 rfl) (by decide) pd2 (by rw [hml]; rfl) (argsL := [_]) rfl rfl rfl (pc := 60) (hb hby d0_60) rfl rfl (by decide) (by decide) ?_
    rintro _ vm1 T L X ⟨rfl, F2, t_x, k_x, St_x⟩ D hown C1
    dsimp only [Option.toList_some, Option.toList_none, List.cons_append, List.nil_append]
    have F := F.call F2 (fun y hy => by cases List.mem_singleton.mp hy; exact Or.inr l_x)
    have eT : T.heap = T.heap := rfl
    exact Ow.areturnW X hx eT D hEL hlk hret rfl rfl rfl (hb hby d0_63) ⟨x, t_x, k_x, [], rfl, F, St_x, (by decide), fun h => absurd h (by decide)⟩ (by decide) (by decide)
  refine Ow.iloadN X hx (pc := 0) (hb hby d0_0) rfl ?_
  refine Ow.iconst X hx (pc := 1) (3) (hb hby d0_1) (by decide) ?_
  refine Ow.iand X hx (pc := 2) (hb hby d0_2) ?_
  rw [hk]
  refine Ow.istoreN X hx (pc := 3) #[_, _, _, _, _] (hb hby d0_3) rfl ?_
  refine Ow.iloadN X hx (pc := 4) (hb hby d0_4) rfl ?_
  refine Ow.iconst X hx (pc := 5) (2) (hb hby d0_5) (by decide) ?_
  refine Ow.iushr X hx (pc := 6) (hb hby d0_6) ?_
  refine Ow.sipush X hx (pc := 7) (255) (hb hby d0_7) (by decide) ?_
  refine Ow.iand X hx (pc := 10) (hb hby d0_10) ?_
  refine Ow.i2c X hx (pc := 11) (hb hby d0_11) ?_
  rw [hka, (own_ch8 ka).2.2.2]
  refine Ow.istoreN X hx (pc := 12) #[_, _, _, _, _] (hb hby d0_12) rfl ?_
  refine Ow.iloadN X hx (pc := 13) (hb hby d0_13) rfl ?_
  refine Ow.bipush X hx (pc := 14) (10) (hb hby d0_14) (by decide) ?_
  refine Ow.iushr X hx (pc := 16) (hb hby d0_16) ?_
  refine Ow.sipush X hx (pc := 17) (255) (hb hby d0_17) (by decide) ?_
  refine Ow.iand X hx (pc := 20) (hb hby d0_20) ?_
  refine Ow.i2c X hx (pc := 21) (hb hby d0_21) ?_
  rw [hkb, (own_ch8 kb).2.2.2]
  refine Ow.istoreN X hx (pc := 22) #[_, _, _, _, _] (hb hby d0_22) rfl ?_
  refine Ow.iloadN X hx (pc := 23) (hb hby d0_23) rfl ?_
  refine Ow.bipush X hx (pc := 24) (18) (hb hby d0_24) (by decide) ?_
  refine Ow.iushr X hx (pc := 26) (hb hby d0_26) ?_
  refine Ow.sipush X hx (pc := 27) (255) (hb hby d0_27) (by decide) ?_
  refine Ow.iand X hx (pc := 30) (hb hby d0_30) ?_
  refine Ow.i2c X hx (pc := 31) (hb hby d0_31) ?_
  rw [hkc, (own_ch8 kc).2.2.2]
  refine Ow.istore X hx (pc := 32) #[_, _, _, _, _] (hb hby d0_32) rfl ?_
  refine Ow.iloadN X hx (pc := 34) (hb hby d0_34) rfl ?_
  refine Ow.bipush X hx (pc := 35) (45) (hb hby d0_35) (by decide) ?_
  refine Ow.icmp_ne X hx (pc := 37) (pc' := 49) (hb hby d0_37) (by decide) (by decide) (fun h37 => ?_) (fun h37 => ?_)
  · exact J _ T X eT ⟨⟨kb, rfl⟩, fun q => h37 q.1⟩
  · refine Ow.iloadN X hx (pc := 40) (hb hby d0_40) rfl ?_
    refine Ow.bipush X hx (pc := 41) (45) (hb hby d0_41) (by decide) ?_
    refine Ow.icmp_ne X hx (pc := 43) (pc' := 49) (hb hby d0_43) (by decide) (by decide) (fun h43 => ?_) (fun h43 => ?_)
    · exact J _ T X eT ⟨⟨kb, rfl⟩, fun q => h43 q.2⟩
    · refine Ow.bipush X hx (pc := 46) (43) (hb hby d0_46) (by decide) ?_
      refine Ow.istoreN X hx (pc := 48) #[_, _, _, _, _] (hb hby d0_48) rfl ?_
      exact J _ T X eT ⟨⟨43, rfl⟩, fun q => absurd q.2 (by decide)⟩
set_option maxRecDepth 65536 in
set_option maxHeartbeats 40000000 in
theorem c_word1 (l : Launch) (Z : State) (a0 : Array Value) (hw : ∀ d ∈ tables_1, d.before a0 Z = true) (hEL : EW Z a0 EL) (h0 : Heap) (z : Int32) (S : Sta Z h0 "java/lang/String" "COMPACT_STRINGS" "Z" (.int z)) (hz : ¬ z = 0) (p0 : Int32) (hk : p0 &&& 3 = 1) : Ow.PayW l Z EL [] (⟨"com/example/rowgate/rowgate/OptionsParsePinLaw", "word", "(I)Ljava/lang/String;"⟩ : MethodName) method_2_code 5 (some (.object "java/lang/String")) ({ frames := 4, cells := 6, slots := 20, locals := 80 } : Room) #[(.int p0)] h0 (fun v h L => ∃ x t kb bs, v = some (.ref x) ∧ Ow.Eff h0 h [] L ∧ Ow.Str Z h x t kb bs ∧ bs.length ≤ 3 ∧ own_np bs) := by
  refine Ow.PayW.of (Ls := #[.val (.int p0), .unset, .unset, .unset, .unset]) (plainFor_of_name pn10) (fun m => by first | rfl | (simp [entryFrame, mkF, argsToLocals, Value.category]; done)) ?_
  intro p e s m below meth c T vm0 hx hby hml hown hnm hme hret hlk X eT D hsf
  obtain ⟨ka, hka⟩ := own_mask8 (XT.ushr p0 2)
  obtain ⟨kb, hkb⟩ := own_mask8 (XT.ushr p0 10)
  obtain ⟨kc, hkc⟩ := own_mask8 (XT.ushr p0 18)
  have J : ∀ (d1 : Int32) (T : State), Stand p l e ({ frames := 4, cells := 6, slots := 20, locals := 80 } : Room) (s.setVm vm0) m #[(.int p0)] below meth c T [] 0 0 → T.heap = h0 → ((∃ k : Fin 256, d1 = Int32.ofNat k.val) ∧ ¬ (Int32.ofNat ka.val = 45 ∧ d1 = 45)) → Go p.tables e below (Ow.EndW Z EL s (fun v h L => ∃ x t kb bs, v = some (.ref x) ∧ Ow.Eff h0 h [] L ∧ Ow.Str Z h x t kb bs ∧ bs.length ≤ 3 ∧ own_np bs) 6 20) (T.setTop (mkF m 49 #[.val (.int p0), .val (.int 1), .val (.int (Int32.ofNat ka.val)), .val (.int d1), .val (.int (Int32.ofNat kc.val))] [])) := by
    rintro _ T X eT ⟨⟨kd, rfl⟩, hnn⟩
    have F := Ow.Eff.refl h0 []
    refine Ow.iloadN X hx (pc := 49) (hb hby d0_49) rfl ?_
    refine Ow.if_ne X hx (pc := 50) (pc' := 64) (hb hby d0_50) (by decide) (by decide) (fun h50 => ?_) (fun q => absurd q (by decide))
    refine Ow.iloadN X hx (pc := 64) (hb hby d0_64) rfl ?_
    refine Ow.iconst X hx (pc := 65) (1) (hb hby d0_65) (by decide) ?_
    refine Ow.icmp_ne X hx (pc := 66) (pc' := 74) (hb hby d0_66) (by decide) (by decide) (fun q => absurd rfl q) (fun h66 => ?_)
    refine Ow.iloadN X hx (pc := 69) (hb hby d0_69) rfl ?_
    refine Ow.callS X hx D.hZ (c_vof l Z a0 hw _ z S hz ka) eT hown (ww hw 235 rfl) (ww hw 236 rfl) (ww hw 6 rfl) (ww hw 237 rfl) (by decide) pd17 (by rw [hml]; rfl) (argsL := [_]) rfl rfl rfl (pc := 70) (hb hby d0_70) rfl rfl (by decide) (by decide) ?_
    rintro _ T L X ⟨x, d, kq, rfl, F2, Sx⟩
    dsimp only [Option.toList_some, Option.toList_none, List.cons_append, List.nil_append]
    have D := D.ext (Ow.Keep.ext0 F2.1)
    have F := F.call F2 (fun _ q => nomatch q)
    have eT : T.heap = T.heap := rfl
    exact Ow.areturnW X hx eT D hEL hlk hret rfl rfl rfl (hb hby d0_73) ⟨x, d, kq, _, rfl, F, Sx, (by simp), fun h => absurd h (by simp)⟩ (by decide) (by decide)
  refine Ow.iloadN X hx (pc := 0) (hb hby d0_0) rfl ?_
  refine Ow.iconst X hx (pc := 1) (3) (hb hby d0_1) (by decide) ?_
  refine Ow.iand X hx (pc := 2) (hb hby d0_2) ?_
  rw [hk]
  refine Ow.istoreN X hx (pc := 3) #[_, _, _, _, _] (hb hby d0_3) rfl ?_
  refine Ow.iloadN X hx (pc := 4) (hb hby d0_4) rfl ?_
  refine Ow.iconst X hx (pc := 5) (2) (hb hby d0_5) (by decide) ?_
  refine Ow.iushr X hx (pc := 6) (hb hby d0_6) ?_
  refine Ow.sipush X hx (pc := 7) (255) (hb hby d0_7) (by decide) ?_
  refine Ow.iand X hx (pc := 10) (hb hby d0_10) ?_
  refine Ow.i2c X hx (pc := 11) (hb hby d0_11) ?_
  rw [hka, (own_ch8 ka).2.2.2]
  refine Ow.istoreN X hx (pc := 12) #[_, _, _, _, _] (hb hby d0_12) rfl ?_
  refine Ow.iloadN X hx (pc := 13) (hb hby d0_13) rfl ?_
  refine Ow.bipush X hx (pc := 14) (10) (hb hby d0_14) (by decide) ?_
  refine Ow.iushr X hx (pc := 16) (hb hby d0_16) ?_
  refine Ow.sipush X hx (pc := 17) (255) (hb hby d0_17) (by decide) ?_
  refine Ow.iand X hx (pc := 20) (hb hby d0_20) ?_
  refine Ow.i2c X hx (pc := 21) (hb hby d0_21) ?_
  rw [hkb, (own_ch8 kb).2.2.2]
  refine Ow.istoreN X hx (pc := 22) #[_, _, _, _, _] (hb hby d0_22) rfl ?_
  refine Ow.iloadN X hx (pc := 23) (hb hby d0_23) rfl ?_
  refine Ow.bipush X hx (pc := 24) (18) (hb hby d0_24) (by decide) ?_
  refine Ow.iushr X hx (pc := 26) (hb hby d0_26) ?_
  refine Ow.sipush X hx (pc := 27) (255) (hb hby d0_27) (by decide) ?_
  refine Ow.iand X hx (pc := 30) (hb hby d0_30) ?_
  refine Ow.i2c X hx (pc := 31) (hb hby d0_31) ?_
  rw [hkc, (own_ch8 kc).2.2.2]
  refine Ow.istore X hx (pc := 32) #[_, _, _, _, _] (hb hby d0_32) rfl ?_
  refine Ow.iloadN X hx (pc := 34) (hb hby d0_34) rfl ?_
  refine Ow.bipush X hx (pc := 35) (45) (hb hby d0_35) (by decide) ?_
  refine Ow.icmp_ne X hx (pc := 37) (pc' := 49) (hb hby d0_37) (by decide) (by decide) (fun h37 => ?_) (fun h37 => ?_)
  · exact J _ T X eT ⟨⟨kb, rfl⟩, fun q => h37 q.1⟩
  · refine Ow.iloadN X hx (pc := 40) (hb hby d0_40) rfl ?_
    refine Ow.bipush X hx (pc := 41) (45) (hb hby d0_41) (by decide) ?_
    refine Ow.icmp_ne X hx (pc := 43) (pc' := 49) (hb hby d0_43) (by decide) (by decide) (fun h43 => ?_) (fun h43 => ?_)
    · exact J _ T X eT ⟨⟨kb, rfl⟩, fun q => h43 q.2⟩
    · refine Ow.bipush X hx (pc := 46) (43) (hb hby d0_46) (by decide) ?_
      refine Ow.istoreN X hx (pc := 48) #[_, _, _, _, _] (hb hby d0_48) rfl ?_
      exact J _ T X eT ⟨⟨43, rfl⟩, fun q => absurd q.2 (by decide)⟩
set_option maxRecDepth 65536 in
set_option maxHeartbeats 40000000 in
theorem c_word2 (l : Launch) (Z : State) (a0 : Array Value) (hw : ∀ d ∈ tables_1, d.before a0 Z = true) (hEL : EW Z a0 EL) (h0 : Heap) (z : Int32) (S : Sta Z h0 "java/lang/String" "COMPACT_STRINGS" "Z" (.int z)) (hz : ¬ z = 0) (p0 : Int32) (hk : p0 &&& 3 = 2) : Ow.PayW l Z EL [] (⟨"com/example/rowgate/rowgate/OptionsParsePinLaw", "word", "(I)Ljava/lang/String;"⟩ : MethodName) method_2_code 5 (some (.object "java/lang/String")) ({ frames := 4, cells := 6, slots := 20, locals := 80 } : Room) #[(.int p0)] h0 (fun v h L => ∃ x t kb bs, v = some (.ref x) ∧ Ow.Eff h0 h [] L ∧ Ow.Str Z h x t kb bs ∧ bs.length ≤ 3 ∧ own_np bs) := by
  refine Ow.PayW.of (Ls := #[.val (.int p0), .unset, .unset, .unset, .unset]) (plainFor_of_name pn10) (fun m => by first | rfl | (simp [entryFrame, mkF, argsToLocals, Value.category]; done)) ?_
  intro p e s m below meth c T vm0 hx hby hml hown hnm hme hret hlk X eT D hsf
  obtain ⟨ka, hka⟩ := own_mask8 (XT.ushr p0 2)
  obtain ⟨kb, hkb⟩ := own_mask8 (XT.ushr p0 10)
  obtain ⟨kc, hkc⟩ := own_mask8 (XT.ushr p0 18)
  have J : ∀ (d1 : Int32) (T : State), Stand p l e ({ frames := 4, cells := 6, slots := 20, locals := 80 } : Room) (s.setVm vm0) m #[(.int p0)] below meth c T [] 0 0 → T.heap = h0 → ((∃ k : Fin 256, d1 = Int32.ofNat k.val) ∧ ¬ (Int32.ofNat ka.val = 45 ∧ d1 = 45)) → Go p.tables e below (Ow.EndW Z EL s (fun v h L => ∃ x t kb bs, v = some (.ref x) ∧ Ow.Eff h0 h [] L ∧ Ow.Str Z h x t kb bs ∧ bs.length ≤ 3 ∧ own_np bs) 6 20) (T.setTop (mkF m 49 #[.val (.int p0), .val (.int 2), .val (.int (Int32.ofNat ka.val)), .val (.int d1), .val (.int (Int32.ofNat kc.val))] [])) := by
    rintro _ T X eT ⟨⟨kd, rfl⟩, hnn⟩
    have F := Ow.Eff.refl h0 []
    refine Ow.iloadN X hx (pc := 49) (hb hby d0_49) rfl ?_
    refine Ow.if_ne X hx (pc := 50) (pc' := 64) (hb hby d0_50) (by decide) (by decide) (fun h50 => ?_) (fun q => absurd q (by decide))
    refine Ow.iloadN X hx (pc := 64) (hb hby d0_64) rfl ?_
    refine Ow.iconst X hx (pc := 65) (1) (hb hby d0_65) (by decide) ?_
    refine Ow.icmp_ne X hx (pc := 66) (pc' := 74) (hb hby d0_66) (by decide) (by decide) (fun h66 => ?_) (fun q => absurd q (by decide))
    refine Ow.iloadN X hx (pc := 74) (hb hby d0_74) rfl ?_
    refine Ow.iconst X hx (pc := 75) (2) (hb hby d0_75) (by decide) ?_
    refine Ow.icmp_ne X hx (pc := 76) (pc' := 98) (hb hby d0_76) (by decide) (by decide) (fun q => absurd rfl q) (fun h76 => ?_)
    refine Ow.new_ X hx D.hZ hown (ww hw 4 rfl) (ww hw 5 rfl) (ww hw 6 rfl) eT (pc := 79) (hb hby d0_79) (by decide) (by decide) ?_
    intro T h_x x ha_x X eT E_x A_x D_x U_x
    have l_x : h0.size ≤ x := by rw [ha_x]; exact F.size
    have S_x := D.safeNew E_x
    rw [← ha_x] at S_x
    have S := S.ext E_x
    have F := F.ext E_x
    have D := D.ext E_x
    have V_x := D_x (Or.inr (ww hw 20 rfl)) (ty := .array .byte) (by decide)
    have C_x := D_x (Or.inr (ww hw 21 rfl)) (ty := .byte) (by decide)
    refine Ow.dup X hx (pc := 82) (hb hby d0_82) rfl ?_
    refine Ow.iconst X hx (pc := 83) (2) (hb hby d0_83) (by decide) ?_
    refine Ow.newarrayL X hx D.hZ (ww hw 7 rfl) eT 2 (vs := [_, _]) rfl (pc := 84) (hb hby d0_84) (by decide) (by decide) (by decide) (by decide) (by decide) ?_
    intro T h_cA k_cA cA ha_cA X eT E_cA B_cA
    have l_cA : h0.size ≤ cA := by rw [ha_cA]; exact F.size
    have ne_x_cA : x ≠ cA := by rw [ha_cA]; exact Nat.ne_of_lt A_x.lt
    have S_cA := D.safeNew E_cA
    rw [← ha_cA] at S_cA
    have S := S.ext E_cA
    have A_x := A_x.ext E_cA
    have V_x := V_x.ext E_cA
    have C_x := C_x.ext E_cA
    have S_x := D.safeExt E_cA S_x
    have F := F.ext E_cA
    have D := D.ext E_cA
    refine Ow.dup X hx (pc := 86) (hb hby d0_86) rfl ?_
    refine Ow.iconst X hx (pc := 87) (0) (hb hby d0_87) (by decide) ?_
    refine Ow.iloadN X hx (pc := 88) (hb hby d0_88) rfl ?_
    refine Ow.castoreL X hx D.hZ eT B_cA 0 [_, _] (by decide) (by decide) rfl rfl (pc := 89) (hb hby d0_89) ?_
    intro T h_89 X eT W_89 B_cA
    rw [(own_ch8 ka).2.2.1] at B_cA W_89
    have S := S.wr W_89
    have A_x := A_x.wr W_89
    have V_x := V_x.other W_89 (Or.inl ne_x_cA)
    have C_x := C_x.other W_89 (Or.inl ne_x_cA)
    have S_tmp := S_cA
    have S_x := D.safeWr W_89 S_tmp S_x
    have S_cA := D.safeWr W_89 S_tmp S_cA
    have D := D.wr W_89 S_tmp
    have F := F.wr W_89 (Or.inr l_cA)
    refine Ow.dup X hx (pc := 90) (hb hby d0_90) rfl ?_
    refine Ow.iconst X hx (pc := 91) (1) (hb hby d0_91) (by decide) ?_
    refine Ow.iloadN X hx (pc := 92) (hb hby d0_92) rfl ?_
    refine Ow.castoreL X hx D.hZ eT B_cA 1 [_, _] (by decide) (by decide) rfl rfl (pc := 93) (hb hby d0_93) ?_
    intro T h_93 X eT W_93 B_cA
    rw [(own_ch8 kd).2.2.1] at B_cA W_93
    have S := S.wr W_93
    have A_x := A_x.wr W_93
    have V_x := V_x.other W_93 (Or.inl ne_x_cA)
    have C_x := C_x.other W_93 (Or.inl ne_x_cA)
    have S_tmp := S_cA
    have S_x := D.safeWr W_93 S_tmp S_x
    have S_cA := D.safeWr W_93 S_tmp S_cA
    have D := D.wr W_93 S_tmp
    have F := F.wr W_93 (Or.inr l_cA)
    have H8 : ∀ c ∈ ([Int32.ofNat ka.val, Int32.ofNat kd.val] : List Int32), ∃ k : Fin 256, c = Int32.ofNat k.val := by
      intro c hc
      simp only [List.mem_cons, List.not_mem_nil, or_false] at hc
      rcases hc with rfl | rfl
      · exact ⟨ka, rfl⟩
      · exact ⟨kd, rfl⟩
    have P_x := Ow.Exa.plain A_x
    refine strLat X hx D.hZ hw eT hown (ww hw 8 rfl) (cs := [Int32.ofNat ka.val, Int32.ofNat kd.val]) A_x V_x C_x B_cA S hz 2 rfl (by decide) (by decide) H8 (by rw [hml]; rfl) (pc := 94) (hb hby d0_94) rfl rfl (by decide) (by decide) ?_
    intro T L k_x X F2 St_x
    have F := F.call F2 (fun y hy => by cases List.mem_singleton.mp hy; exact Or.inr l_x)
    have D := D.keep F2.1 (fun y hy => by cases List.mem_singleton.mp hy; exact S_x)
    have eT : T.heap = T.heap := rfl
    exact Ow.areturnW X hx eT D hEL hlk hret rfl rfl rfl (hb hby d0_97) ⟨x, _, k_x, _, rfl, F, St_x, (by simp), fun _ r => hnn ⟨own_c45 ka r.1, own_c45 kd r.2⟩⟩ (by decide) (by decide)
  refine Ow.iloadN X hx (pc := 0) (hb hby d0_0) rfl ?_
  refine Ow.iconst X hx (pc := 1) (3) (hb hby d0_1) (by decide) ?_
  refine Ow.iand X hx (pc := 2) (hb hby d0_2) ?_
  rw [hk]
  refine Ow.istoreN X hx (pc := 3) #[_, _, _, _, _] (hb hby d0_3) rfl ?_
  refine Ow.iloadN X hx (pc := 4) (hb hby d0_4) rfl ?_
  refine Ow.iconst X hx (pc := 5) (2) (hb hby d0_5) (by decide) ?_
  refine Ow.iushr X hx (pc := 6) (hb hby d0_6) ?_
  refine Ow.sipush X hx (pc := 7) (255) (hb hby d0_7) (by decide) ?_
  refine Ow.iand X hx (pc := 10) (hb hby d0_10) ?_
  refine Ow.i2c X hx (pc := 11) (hb hby d0_11) ?_
  rw [hka, (own_ch8 ka).2.2.2]
  refine Ow.istoreN X hx (pc := 12) #[_, _, _, _, _] (hb hby d0_12) rfl ?_
  refine Ow.iloadN X hx (pc := 13) (hb hby d0_13) rfl ?_
  refine Ow.bipush X hx (pc := 14) (10) (hb hby d0_14) (by decide) ?_
  refine Ow.iushr X hx (pc := 16) (hb hby d0_16) ?_
  refine Ow.sipush X hx (pc := 17) (255) (hb hby d0_17) (by decide) ?_
  refine Ow.iand X hx (pc := 20) (hb hby d0_20) ?_
  refine Ow.i2c X hx (pc := 21) (hb hby d0_21) ?_
  rw [hkb, (own_ch8 kb).2.2.2]
  refine Ow.istoreN X hx (pc := 22) #[_, _, _, _, _] (hb hby d0_22) rfl ?_
  refine Ow.iloadN X hx (pc := 23) (hb hby d0_23) rfl ?_
  refine Ow.bipush X hx (pc := 24) (18) (hb hby d0_24) (by decide) ?_
  refine Ow.iushr X hx (pc := 26) (hb hby d0_26) ?_
  refine Ow.sipush X hx (pc := 27) (255) (hb hby d0_27) (by decide) ?_
  refine Ow.iand X hx (pc := 30) (hb hby d0_30) ?_
  refine Ow.i2c X hx (pc := 31) (hb hby d0_31) ?_
  rw [hkc, (own_ch8 kc).2.2.2]
  refine Ow.istore X hx (pc := 32) #[_, _, _, _, _] (hb hby d0_32) rfl ?_
  refine Ow.iloadN X hx (pc := 34) (hb hby d0_34) rfl ?_
  refine Ow.bipush X hx (pc := 35) (45) (hb hby d0_35) (by decide) ?_
  refine Ow.icmp_ne X hx (pc := 37) (pc' := 49) (hb hby d0_37) (by decide) (by decide) (fun h37 => ?_) (fun h37 => ?_)
  · exact J _ T X eT ⟨⟨kb, rfl⟩, fun q => h37 q.1⟩
  · refine Ow.iloadN X hx (pc := 40) (hb hby d0_40) rfl ?_
    refine Ow.bipush X hx (pc := 41) (45) (hb hby d0_41) (by decide) ?_
    refine Ow.icmp_ne X hx (pc := 43) (pc' := 49) (hb hby d0_43) (by decide) (by decide) (fun h43 => ?_) (fun h43 => ?_)
    · exact J _ T X eT ⟨⟨kb, rfl⟩, fun q => h43 q.2⟩
    · refine Ow.bipush X hx (pc := 46) (43) (hb hby d0_46) (by decide) ?_
      refine Ow.istoreN X hx (pc := 48) #[_, _, _, _, _] (hb hby d0_48) rfl ?_
      exact J _ T X eT ⟨⟨43, rfl⟩, fun q => absurd q.2 (by decide)⟩
set_option maxRecDepth 65536 in
set_option maxHeartbeats 40000000 in
theorem c_word3 (l : Launch) (Z : State) (a0 : Array Value) (hw : ∀ d ∈ tables_1, d.before a0 Z = true) (hEL : EW Z a0 EL) (h0 : Heap) (z : Int32) (S : Sta Z h0 "java/lang/String" "COMPACT_STRINGS" "Z" (.int z)) (hz : ¬ z = 0) (p0 : Int32) (hk : p0 &&& 3 = 3) : Ow.PayW l Z EL [] (⟨"com/example/rowgate/rowgate/OptionsParsePinLaw", "word", "(I)Ljava/lang/String;"⟩ : MethodName) method_2_code 5 (some (.object "java/lang/String")) ({ frames := 4, cells := 6, slots := 20, locals := 80 } : Room) #[(.int p0)] h0 (fun v h L => ∃ x t kb bs, v = some (.ref x) ∧ Ow.Eff h0 h [] L ∧ Ow.Str Z h x t kb bs ∧ bs.length ≤ 3 ∧ own_np bs) := by
  refine Ow.PayW.of (Ls := #[.val (.int p0), .unset, .unset, .unset, .unset]) (plainFor_of_name pn10) (fun m => by first | rfl | (simp [entryFrame, mkF, argsToLocals, Value.category]; done)) ?_
  intro p e s m below meth c T vm0 hx hby hml hown hnm hme hret hlk X eT D hsf
  obtain ⟨ka, hka⟩ := own_mask8 (XT.ushr p0 2)
  obtain ⟨kb, hkb⟩ := own_mask8 (XT.ushr p0 10)
  obtain ⟨kc, hkc⟩ := own_mask8 (XT.ushr p0 18)
  have J : ∀ (d1 : Int32) (T : State), Stand p l e ({ frames := 4, cells := 6, slots := 20, locals := 80 } : Room) (s.setVm vm0) m #[(.int p0)] below meth c T [] 0 0 → T.heap = h0 → ((∃ k : Fin 256, d1 = Int32.ofNat k.val) ∧ ¬ (Int32.ofNat ka.val = 45 ∧ d1 = 45)) → Go p.tables e below (Ow.EndW Z EL s (fun v h L => ∃ x t kb bs, v = some (.ref x) ∧ Ow.Eff h0 h [] L ∧ Ow.Str Z h x t kb bs ∧ bs.length ≤ 3 ∧ own_np bs) 6 20) (T.setTop (mkF m 49 #[.val (.int p0), .val (.int 3), .val (.int (Int32.ofNat ka.val)), .val (.int d1), .val (.int (Int32.ofNat kc.val))] [])) := by
    rintro _ T X eT ⟨⟨kd, rfl⟩, hnn⟩
    have F := Ow.Eff.refl h0 []
    refine Ow.iloadN X hx (pc := 49) (hb hby d0_49) rfl ?_
    refine Ow.if_ne X hx (pc := 50) (pc' := 64) (hb hby d0_50) (by decide) (by decide) (fun h50 => ?_) (fun q => absurd q (by decide))
    refine Ow.iloadN X hx (pc := 64) (hb hby d0_64) rfl ?_
    refine Ow.iconst X hx (pc := 65) (1) (hb hby d0_65) (by decide) ?_
    refine Ow.icmp_ne X hx (pc := 66) (pc' := 74) (hb hby d0_66) (by decide) (by decide) (fun h66 => ?_) (fun q => absurd q (by decide))
    refine Ow.iloadN X hx (pc := 74) (hb hby d0_74) rfl ?_
    refine Ow.iconst X hx (pc := 75) (2) (hb hby d0_75) (by decide) ?_
    refine Ow.icmp_ne X hx (pc := 76) (pc' := 98) (hb hby d0_76) (by decide) (by decide) (fun h76 => ?_) (fun q => absurd q (by decide))
    refine Ow.new_ X hx D.hZ hown (ww hw 4 rfl) (ww hw 5 rfl) (ww hw 6 rfl) eT (pc := 98) (hb hby d0_98) (by decide) (by decide) ?_
    intro T h_x x ha_x X eT E_x A_x D_x U_x
    have l_x : h0.size ≤ x := by rw [ha_x]; exact F.size
    have S_x := D.safeNew E_x
    rw [← ha_x] at S_x
    have S := S.ext E_x
    have F := F.ext E_x
    have D := D.ext E_x
    have V_x := D_x (Or.inr (ww hw 20 rfl)) (ty := .array .byte) (by decide)
    have C_x := D_x (Or.inr (ww hw 21 rfl)) (ty := .byte) (by decide)
    refine Ow.dup X hx (pc := 101) (hb hby d0_101) rfl ?_
    refine Ow.iconst X hx (pc := 102) (3) (hb hby d0_102) (by decide) ?_
    refine Ow.newarrayL X hx D.hZ (ww hw 7 rfl) eT 3 (vs := [_, _, _]) rfl (pc := 103) (hb hby d0_103) (by decide) (by decide) (by decide) (by decide) (by decide) ?_
    intro T h_cA k_cA cA ha_cA X eT E_cA B_cA
    have l_cA : h0.size ≤ cA := by rw [ha_cA]; exact F.size
    have ne_x_cA : x ≠ cA := by rw [ha_cA]; exact Nat.ne_of_lt A_x.lt
    have S_cA := D.safeNew E_cA
    rw [← ha_cA] at S_cA
    have S := S.ext E_cA
    have A_x := A_x.ext E_cA
    have V_x := V_x.ext E_cA
    have C_x := C_x.ext E_cA
    have S_x := D.safeExt E_cA S_x
    have F := F.ext E_cA
    have D := D.ext E_cA
    refine Ow.dup X hx (pc := 105) (hb hby d0_105) rfl ?_
    refine Ow.iconst X hx (pc := 106) (0) (hb hby d0_106) (by decide) ?_
    refine Ow.iloadN X hx (pc := 107) (hb hby d0_107) rfl ?_
    refine Ow.castoreL X hx D.hZ eT B_cA 0 [_, _, _] (by decide) (by decide) rfl rfl (pc := 108) (hb hby d0_108) ?_
    intro T h_108 X eT W_108 B_cA
    rw [(own_ch8 ka).2.2.1] at B_cA W_108
    have S := S.wr W_108
    have A_x := A_x.wr W_108
    have V_x := V_x.other W_108 (Or.inl ne_x_cA)
    have C_x := C_x.other W_108 (Or.inl ne_x_cA)
    have S_tmp := S_cA
    have S_x := D.safeWr W_108 S_tmp S_x
    have S_cA := D.safeWr W_108 S_tmp S_cA
    have D := D.wr W_108 S_tmp
    have F := F.wr W_108 (Or.inr l_cA)
    refine Ow.dup X hx (pc := 109) (hb hby d0_109) rfl ?_
    refine Ow.iconst X hx (pc := 110) (1) (hb hby d0_110) (by decide) ?_
    refine Ow.iloadN X hx (pc := 111) (hb hby d0_111) rfl ?_
    refine Ow.castoreL X hx D.hZ eT B_cA 1 [_, _, _] (by decide) (by decide) rfl rfl (pc := 112) (hb hby d0_112) ?_
    intro T h_112 X eT W_112 B_cA
    rw [(own_ch8 kd).2.2.1] at B_cA W_112
    have S := S.wr W_112
    have A_x := A_x.wr W_112
    have V_x := V_x.other W_112 (Or.inl ne_x_cA)
    have C_x := C_x.other W_112 (Or.inl ne_x_cA)
    have S_tmp := S_cA
    have S_x := D.safeWr W_112 S_tmp S_x
    have S_cA := D.safeWr W_112 S_tmp S_cA
    have D := D.wr W_112 S_tmp
    have F := F.wr W_112 (Or.inr l_cA)
    refine Ow.dup X hx (pc := 113) (hb hby d0_113) rfl ?_
    refine Ow.iconst X hx (pc := 114) (2) (hb hby d0_114) (by decide) ?_
    refine Ow.iload X hx (pc := 115) (hb hby d0_115) rfl ?_
    refine Ow.castoreL X hx D.hZ eT B_cA 2 [_, _, _] (by decide) (by decide) rfl rfl (pc := 117) (hb hby d0_117) ?_
    intro T h_117 X eT W_117 B_cA
    rw [(own_ch8 kc).2.2.1] at B_cA W_117
    have S := S.wr W_117
    have A_x := A_x.wr W_117
    have V_x := V_x.other W_117 (Or.inl ne_x_cA)
    have C_x := C_x.other W_117 (Or.inl ne_x_cA)
    have S_tmp := S_cA
    have S_x := D.safeWr W_117 S_tmp S_x
    have S_cA := D.safeWr W_117 S_tmp S_cA
    have D := D.wr W_117 S_tmp
    have F := F.wr W_117 (Or.inr l_cA)
    have H8 : ∀ c ∈ ([Int32.ofNat ka.val, Int32.ofNat kd.val, Int32.ofNat kc.val] : List Int32), ∃ k : Fin 256, c = Int32.ofNat k.val := by
      intro c hc
      simp only [List.mem_cons, List.not_mem_nil, or_false] at hc
      rcases hc with rfl | rfl | rfl
      · exact ⟨ka, rfl⟩
      · exact ⟨kd, rfl⟩
      · exact ⟨kc, rfl⟩
    have P_x := Ow.Exa.plain A_x
    refine strLat X hx D.hZ hw eT hown (ww hw 8 rfl) (cs := [Int32.ofNat ka.val, Int32.ofNat kd.val, Int32.ofNat kc.val]) A_x V_x C_x B_cA S hz 3 rfl (by decide) (by decide) H8 (by rw [hml]; rfl) (pc := 118) (hb hby d0_118) rfl rfl (by decide) (by decide) ?_
    intro T L k_x X F2 St_x
    have F := F.call F2 (fun y hy => by cases List.mem_singleton.mp hy; exact Or.inr l_x)
    have D := D.keep F2.1 (fun y hy => by cases List.mem_singleton.mp hy; exact S_x)
    have eT : T.heap = T.heap := rfl
    exact Ow.areturnW X hx eT D hEL hlk hret rfl rfl rfl (hb hby d0_121) ⟨x, _, k_x, _, rfl, F, St_x, (by simp), fun _ r => hnn ⟨own_c45 ka r.1, own_c45 kd r.2⟩⟩ (by decide) (by decide)
  refine Ow.iloadN X hx (pc := 0) (hb hby d0_0) rfl ?_
  refine Ow.iconst X hx (pc := 1) (3) (hb hby d0_1) (by decide) ?_
  refine Ow.iand X hx (pc := 2) (hb hby d0_2) ?_
  rw [hk]
  refine Ow.istoreN X hx (pc := 3) #[_, _, _, _, _] (hb hby d0_3) rfl ?_
  refine Ow.iloadN X hx (pc := 4) (hb hby d0_4) rfl ?_
  refine Ow.iconst X hx (pc := 5) (2) (hb hby d0_5) (by decide) ?_
  refine Ow.iushr X hx (pc := 6) (hb hby d0_6) ?_
  refine Ow.sipush X hx (pc := 7) (255) (hb hby d0_7) (by decide) ?_
  refine Ow.iand X hx (pc := 10) (hb hby d0_10) ?_
  refine Ow.i2c X hx (pc := 11) (hb hby d0_11) ?_
  rw [hka, (own_ch8 ka).2.2.2]
  refine Ow.istoreN X hx (pc := 12) #[_, _, _, _, _] (hb hby d0_12) rfl ?_
  refine Ow.iloadN X hx (pc := 13) (hb hby d0_13) rfl ?_
  refine Ow.bipush X hx (pc := 14) (10) (hb hby d0_14) (by decide) ?_
  refine Ow.iushr X hx (pc := 16) (hb hby d0_16) ?_
  refine Ow.sipush X hx (pc := 17) (255) (hb hby d0_17) (by decide) ?_
  refine Ow.iand X hx (pc := 20) (hb hby d0_20) ?_
  refine Ow.i2c X hx (pc := 21) (hb hby d0_21) ?_
  rw [hkb, (own_ch8 kb).2.2.2]
  refine Ow.istoreN X hx (pc := 22) #[_, _, _, _, _] (hb hby d0_22) rfl ?_
  refine Ow.iloadN X hx (pc := 23) (hb hby d0_23) rfl ?_
  refine Ow.bipush X hx (pc := 24) (18) (hb hby d0_24) (by decide) ?_
  refine Ow.iushr X hx (pc := 26) (hb hby d0_26) ?_
  refine Ow.sipush X hx (pc := 27) (255) (hb hby d0_27) (by decide) ?_
  refine Ow.iand X hx (pc := 30) (hb hby d0_30) ?_
  refine Ow.i2c X hx (pc := 31) (hb hby d0_31) ?_
  rw [hkc, (own_ch8 kc).2.2.2]
  refine Ow.istore X hx (pc := 32) #[_, _, _, _, _] (hb hby d0_32) rfl ?_
  refine Ow.iloadN X hx (pc := 34) (hb hby d0_34) rfl ?_
  refine Ow.bipush X hx (pc := 35) (45) (hb hby d0_35) (by decide) ?_
  refine Ow.icmp_ne X hx (pc := 37) (pc' := 49) (hb hby d0_37) (by decide) (by decide) (fun h37 => ?_) (fun h37 => ?_)
  · exact J _ T X eT ⟨⟨kb, rfl⟩, fun q => h37 q.1⟩
  · refine Ow.iloadN X hx (pc := 40) (hb hby d0_40) rfl ?_
    refine Ow.bipush X hx (pc := 41) (45) (hb hby d0_41) (by decide) ?_
    refine Ow.icmp_ne X hx (pc := 43) (pc' := 49) (hb hby d0_43) (by decide) (by decide) (fun h43 => ?_) (fun h43 => ?_)
    · exact J _ T X eT ⟨⟨kb, rfl⟩, fun q => h43 q.2⟩
    · refine Ow.bipush X hx (pc := 46) (43) (hb hby d0_46) (by decide) ?_
      refine Ow.istoreN X hx (pc := 48) #[_, _, _, _, _] (hb hby d0_48) rfl ?_
      exact J _ T X eT ⟨⟨43, rfl⟩, fun q => absurd q.2 (by decide)⟩
theorem c_word (l : Launch) (Z : State) (a0 : Array Value) (hw : ∀ d ∈ tables_1, d.before a0 Z = true) (hEL : EW Z a0 EL) (h0 : Heap) (z : Int32) (S : Sta Z h0 "java/lang/String" "COMPACT_STRINGS" "Z" (.int z)) (hz : ¬ z = 0) (p0 : Int32) : Ow.PayW l Z EL [] (⟨"com/example/rowgate/rowgate/OptionsParsePinLaw", "word", "(I)Ljava/lang/String;"⟩ : MethodName) method_2_code 5 (some (.object "java/lang/String")) ({ frames := 4, cells := 6, slots := 20, locals := 80 } : Room) #[(.int p0)] h0 (fun v h L => ∃ x t kb bs, v = some (.ref x) ∧ Ow.Eff h0 h [] L ∧ Ow.Str Z h x t kb bs ∧ bs.length ≤ 3 ∧ own_np bs) := by
  rcases own_four p0 with h | h | h | h
  · exact c_word0 l Z a0 hw hEL h0 z S hz p0 h
  · exact c_word1 l Z a0 hw hEL h0 z S hz p0 h
  · exact c_word2 l Z a0 hw hEL h0 z S hz p0 h
  · exact c_word3 l Z a0 hw hEL h0 z S hz p0 h
theorem d27_0 : decode prog_10_method_1_code 0 = .ok (.aload_n 0, 1) := by decide +kernel
theorem d27_1 : decode prog_10_method_1_code 1 = .ok (.invokespecial 1, 3) := by decide +kernel
theorem d27_4 : decode prog_10_method_1_code 4 = .ok (.aload_n 0, 1) := by decide +kernel
theorem d27_5 : decode prog_10_method_1_code 5 = .ok (.aload_n 1, 1) := by decide +kernel
theorem d27_6 : decode prog_10_method_1_code 6 = .ok (.putfield 7, 3) := by decide +kernel
theorem d27_9 : decode prog_10_method_1_code 9 = .ok (.aload_n 0, 1) := by decide +kernel
theorem d27_10 : decode prog_10_method_1_code 10 = .ok (.aload_n 2, 1) := by decide +kernel
theorem d27_11 : decode prog_10_method_1_code 11 = .ok (.putfield 13, 3) := by decide +kernel
theorem d27_14 : decode prog_10_method_1_code 14 = .ok (.return_, 1) := by decide +kernel
set_option maxRecDepth 65536 in
set_option maxHeartbeats 4000000 in
theorem c_oinit (l : Launch) (Z : State) (a0 : Array Value) (hw : ∀ d ∈ tables_1, d.before a0 Z = true) (h0 : Heap) (o hm al : Addr) (E : Exa Z h0 o "com/example/rowgate/rowgate/Options") (Fv : Fld Z h0 o "com/example/rowgate/rowgate/Options" "values" "Ljava/util/Map;" .null) (Fa : Fld Z h0 o "com/example/rowgate/rowgate/Options" "arguments" "Ljava/util/List;" .null) : Ow.Pay l Z (⟨"com/example/rowgate/rowgate/Options", "<init>", "(Ljava/util/Map;Ljava/util/List;)V"⟩ : MethodName) prog_10_method_1_code 3 none ({ frames := 1, cells := 0, slots := 0, locals := 12 } : Room) #[(.ref o), (.ref hm), (.ref al)] h0 (fun v h L => v = none ∧ Ow.Eff h0 h [o] L ∧ Exa Z h o "com/example/rowgate/rowgate/Options" ∧ Fld Z h o "com/example/rowgate/rowgate/Options" "values" "Ljava/util/Map;" (.ref hm) ∧ Fld Z h o "com/example/rowgate/rowgate/Options" "arguments" "Ljava/util/List;" (.ref al)) := by
  refine Ow.Pay.of (Ls := #[.val (.ref o), .val (.ref hm), .val (.ref al)]) (plainFor_of_name pn11) (fun m => by first | rfl | (simp [entryFrame, mkF, argsToLocals, Value.category]; done)) ?_
  intro p e s m below meth c T hx hby hml hown hnm hme hZ hret hlk X eT
  have F := Ow.Eff.refl h0 [o]
  have hni := (name_of_methodNamed hnm hme).1
  have hsl : RoadKit.slotOf Z "com/example/rowgate/rowgate/Options" "values" "Ljava/util/Map;" ≠ RoadKit.slotOf Z "com/example/rowgate/rowgate/Options" "arguments" "Ljava/util/List;" := slot_ne (a0 := a0) (C := "com/example/rowgate/rowgate/Options") (Or.inr (ww hw 179 rfl)) (Or.inr (ww hw 181 rfl)) (by decide) (t := .object "java/util/Map") (t' := .object "java/util/List") (by decide) (by decide)
  refine Ow.aloadN X hx (pc := 0) (hb hby d27_0) rfl rfl ?_
  refine Ow.objinit X hx hZ hown (ww hw 177 rfl) (ww hw 16 rfl) (ww hw 17 rfl) eT (by rw [hml]; rfl) (pc := 1) (hb hby d27_1) rfl rfl ?_
  intro T X eT
  refine Ow.aloadN X hx (pc := 4) (hb hby d27_4) rfl rfl ?_
  refine Ow.aloadN X hx (pc := 5) (hb hby d27_5) rfl rfl ?_
  refine Ow.putfield X hx hZ hown (ww hw 178 rfl) Via.refl eT Fv E (Or.inr ⟨(ww hw 179 rfl), rfl, hni⟩) (ww hw 173 rfl) (ty := .object "java/util/Map") (by decide) rfl rfl (pc := 6) (hb hby d27_6) ?_
  intro T h_6 X eT W
  have F := F.wr W (Or.inl (by simp))
  have Fv := Fv.same W
  have Fa := Fa.other W (Or.inr (Ne.symm hsl))
  have E := E.wr W
  refine Ow.aloadN X hx (pc := 9) (hb hby d27_9) rfl rfl ?_
  refine Ow.aloadN X hx (pc := 10) (hb hby d27_10) rfl rfl ?_
  refine Ow.putfield X hx hZ hown (ww hw 180 rfl) Via.refl eT Fa E (Or.inr ⟨(ww hw 181 rfl), rfl, hni⟩) (ww hw 173 rfl) (ty := .object "java/util/List") (by decide) rfl rfl (pc := 11) (hb hby d27_11) ?_
  intro T h_11 X eT W
  have F := F.wr W (Or.inl (by simp))
  have Fa := Fa.same W
  have Fv := Fv.other W (Or.inr hsl)
  have E := E.wr W
  exact Ow.vreturn X hx hlk hret (hb hby d27_14) ⟨rfl, by rw [eT]; exact F, by rw [eT]; exact E, by rw [eT]; exact Fv, by rw [eT]; exact Fa⟩ (by decide) (by decide)
theorem d28_0 : decode prog_10_method_6_code 0 = .ok (.aload_n 0, 1) := by decide +kernel
theorem d28_1 : decode prog_10_method_6_code 1 = .ok (.getfield 13, 3) := by decide +kernel
theorem d28_4 : decode prog_10_method_6_code 4 = .ok (.areturn, 1) := by decide +kernel
set_option maxRecDepth 65536 in
set_option maxHeartbeats 4000000 in
theorem c_oargs (l : Launch) (Z : State) (a0 : Array Value) (hw : ∀ d ∈ tables_1, d.before a0 Z = true) (h0 : Heap) (o al : Addr) (F1 : Fld Z h0 o "com/example/rowgate/rowgate/Options" "arguments" "Ljava/util/List;" (.ref al)) : Ow.Pay l Z (⟨"com/example/rowgate/rowgate/Options", "arguments", "()Ljava/util/List;"⟩ : MethodName) prog_10_method_6_code 1 (some (.object "java/util/List")) ({ frames := 0, cells := 0, slots := 0, locals := 0 } : Room) #[(.ref o)] h0 (fun v h L => v = some (.ref al) ∧ h = h0 ∧ L = []) := by
  refine Ow.Pay.of (Ls := #[.val (.ref o)]) (plainFor_of_name pn11) (fun m => by first | rfl | (simp [entryFrame, mkF, argsToLocals, Value.category]; done)) ?_
  intro p e s m below meth c T hx hby hml hown hnm hme hZ hret hlk X eT
  refine Ow.aloadN X hx (pc := 0) (hb hby d28_0) rfl rfl ?_
  refine Ow.getfield X hx hZ hown (ww hw 180 rfl) Via.refl eT F1 (pc := 1) (hb hby d28_1) ?_   -- "com/example/rowgate/rowgate/Options" "arguments" "Ljava/util/List;"
  intro T X eT
  exact Ow.areturn X hx hlk hret rfl rfl rfl (hb hby d28_4) ⟨rfl, eT, rfl⟩ (by decide) (by decide)
theorem d31_0 : decode jdk_40_method_36_code 0 = .ok (.getstatic 90, 3) := by decide +kernel
theorem d31_3 : decode jdk_40_method_36_code 3 = .ok (.areturn, 1) := by decide +kernel
set_option maxRecDepth 65536 in
set_option maxHeartbeats 4000000 in
theorem c_listof (l : Launch) (Z : State) (a0 : Array Value) (hw : ∀ d ∈ tables_1, d.before a0 Z = true) (h0 : Heap) (el : Addr) (SE : Sta Z h0 "java/util/ImmutableCollections" "EMPTY_LIST" "Ljava/util/ImmutableCollections$ListN;" (.ref el)) : Ow.Pay l Z (⟨"java/util/List", "of", "()Ljava/util/List;"⟩ : MethodName) jdk_40_method_36_code 0 (some (.object "java/util/List")) ({ frames := 0, cells := 0, slots := 0, locals := 0 } : Room) #[] h0 (fun v h L => v = some (.ref el) ∧ h = h0 ∧ L = []) := by
  refine Ow.Pay.of (Ls := #[]) (plainFor_of_name pn12) (fun m => by first | rfl | (simp [entryFrame, mkF, argsToLocals, Value.category]; done)) ?_
  intro p e s m below meth c T hx hby hml hown hnm hme hZ hret hlk X eT
  refine Ow.getstatic X hx hZ hown (ww hw 203 rfl) Via.refl eT SE (pc := 0) (hb hby d31_0) ?_   -- "java/util/ImmutableCollections" "EMPTY_LIST" "Ljava/util/ImmutableCollections$ListN;"
  intro T X eT
  exact Ow.areturn X hx hlk hret rfl rfl rfl (hb hby d31_3) ⟨rfl, eT, rfl⟩ (by decide) (by decide)
theorem d30_0 : decode prog_10_method_5_code 0 = .ok (.aload_n 0, 1) := by decide +kernel
theorem d30_1 : decode prog_10_method_5_code 1 = .ok (.getfield 7, 3) := by decide +kernel
theorem d30_4 : decode prog_10_method_5_code 4 = .ok (.aload_n 1, 1) := by decide +kernel
theorem d30_5 : decode prog_10_method_5_code 5 = .ok (.invokestatic 86, 3) := by decide +kernel
theorem d30_8 : decode prog_10_method_5_code 8 = .ok (.invokeinterface 90 3, 5) := by decide +kernel
theorem d30_13 : decode prog_10_method_5_code 13 = .ok (.checkcast 24, 3) := by decide +kernel
theorem d30_16 : decode prog_10_method_5_code 16 = .ok (.areturn, 1) := by decide +kernel
set_option maxRecDepth 65536 in
set_option maxHeartbeats 4000000 in
theorem c_all (l : Launch) (Z : State) (a0 : Array Value) (hw : ∀ d ∈ tables_1, d.before a0 Z = true) (h0 : Heap) (o hm k el : Addr) (Fv : Fld Z h0 o "com/example/rowgate/rowgate/Options" "values" "Ljava/util/Map;" (.ref hm)) (E : Exa Z h0 hm "java/util/HashMap") (Ft : Fld Z h0 hm "java/util/HashMap" "table" "[Ljava/util/HashMap$Node;" .null) (SE : Sta Z h0 "java/util/ImmutableCollections" "EMPTY_LIST" "Ljava/util/ImmutableCollections$ListN;" (.ref el)) (Ee : Exa Z h0 el "java/util/ImmutableCollections$ListN") : Ow.Pay l Z (⟨"com/example/rowgate/rowgate/Options", "all", "(Ljava/lang/String;)Ljava/util/List;"⟩ : MethodName) prog_10_method_5_code 2 (some (.object "java/util/List")) ({ frames := 2, cells := 0, slots := 0, locals := 35 } : Room) #[(.ref o), (.ref k)] h0 (fun v h L => v = some (.ref el) ∧ h = h0 ∧ L = []) := by
  refine Ow.Pay.of (Ls := #[.val (.ref o), .val (.ref k)]) (plainFor_of_name pn11) (fun m => by first | rfl | (simp [entryFrame, mkF, argsToLocals, Value.category]; done)) ?_
  intro p e s m below meth c T hx hby hml hown hnm hme hZ hret hlk X eT
  refine Ow.aloadN X hx (pc := 0) (hb hby d30_0) rfl rfl ?_
  refine Ow.getfield X hx hZ hown (ww hw 178 rfl) Via.refl eT Fv (pc := 1) (hb hby d30_1) ?_   -- "com/example/rowgate/rowgate/Options" "values" "Ljava/util/Map;"
  intro T X eT
  refine Ow.aloadN X hx (pc := 4) (hb hby d30_4) rfl rfl ?_
  refine Ow.callSP X hx hZ (c_listof l Z a0 hw h0 el SE) rfl rfl eT hown (ww hw 199 rfl) (ww hw 200 rfl) (ww hw 201 rfl) (ww hw 202 rfl) (by decide) pd19 (by rw [hml]; rfl) (argsL := []) rfl rfl rfl (pc := 5) (hb hby d30_5) rfl rfl (by decide) (by decide) ?_   -- java/util/List.of:()Ljava/util/List;
  intro T X eT
  dsimp only [Option.toList_some, Option.toList_none, List.cons_append, List.nil_append]
  refine Ow.callFP X hx hZ (c_god l Z a0 hw h0 hm k el E Ft) rfl rfl eT hown (ww hw 205 rfl) (ww hw 206 rfl) (ww hw 208 rfl) (ww hw 209 rfl) (ww hw 207 rfl) (ww hw 210 rfl) (ww hw 211 rfl) (ww hw 212 rfl) (ww hw 98 rfl) (ww hw 213 rfl) (by decide) pd18 (by rw [hml]; rfl) E (argsL := [_, _]) rfl rfl rfl (pc := 8) (hb hby d30_8) rfl rfl (by decide) (by decide) ?_
  intro T X eT
  dsimp only [Option.toList_some, Option.toList_none, List.cons_append, List.nil_append]
  refine Ow.checkcast X hx hZ hown (ww hw 221 rfl) eT (Ins.of_exa Ee (ww hw 222 rfl)) (pc := 13) (hb hby d30_13) ?_
  intro T X eT
  exact Ow.areturn X hx hlk hret rfl rfl rfl (hb hby d30_16) ⟨rfl, eT, rfl⟩ (by decide) (by decide)
theorem d34_0 : decode jdk_45_method_3_code 0 = .ok (.aload_n 0, 1) := by decide +kernel
theorem d34_1 : decode jdk_45_method_3_code 1 = .ok (.getfield 7, 3) := by decide +kernel
theorem d34_4 : decode jdk_45_method_3_code 4 = .ok (.arraylength, 1) := by decide +kernel
theorem d34_5 : decode jdk_45_method_3_code 5 = .ok (.ireturn, 1) := by decide +kernel
set_option maxRecDepth 65536 in
set_option maxHeartbeats 4000000 in
theorem c_lnsize (l : Launch) (Z : State) (a0 : Array Value) (hw : ∀ d ∈ tables_1, d.before a0 Z = true) (h0 : Heap) (el ea : Addr) (ka : ClassId) (F1 : Fld Z h0 el "java/util/ImmutableCollections$ListN" "elements" "[Ljava/lang/Object;" (.ref ea)) (A : Ow.AL Z h0 ea ka (.object "java/lang/Object") []) : Ow.Pay l Z (⟨"java/util/ImmutableCollections$ListN", "size", "()I"⟩ : MethodName) jdk_45_method_3_code 1 (some .int) ({ frames := 0, cells := 0, slots := 0, locals := 0 } : Room) #[(.ref el)] h0 (fun v h L => v = some (.int 0) ∧ h = h0 ∧ L = []) := by
  refine Ow.Pay.of (Ls := #[.val (.ref el)]) (plainFor_of_name pn13) (fun m => by first | rfl | (simp [entryFrame, mkF, argsToLocals, Value.category]; done)) ?_
  intro p e s m below meth c T hx hby hml hown hnm hme hZ hret hlk X eT
  refine Ow.aloadN X hx (pc := 0) (hb hby d34_0) rfl rfl ?_
  refine Ow.getfield X hx hZ hown (ww hw 229 rfl) Via.refl eT F1 (pc := 1) (hb hby d34_1) ?_   -- "java/util/ImmutableCollections$ListN" "elements" "[Ljava/lang/Object;"
  intro T X eT
  refine Ow.lengthL X hx hZ eT A 0 rfl (pc := 4) (hb hby d34_4) ?_
  exact Ow.ireturn X hx hlk hret (hb hby d34_5) ⟨rfl, eT, rfl⟩ (by decide) (by decide)
theorem d29_0 : decode jdk_42_method_66_code 0 = .ok (.aload_n 0, 1) := by decide +kernel
theorem d29_1 : decode jdk_42_method_66_code 1 = .ok (.aload_n 1, 1) := by decide +kernel
theorem d29_2 : decode jdk_42_method_66_code 2 = .ok (.if_acmp .ne 5, 3) := by decide +kernel
theorem d29_5 : decode jdk_42_method_66_code 5 = .ok (.iconst 1, 1) := by decide +kernel
theorem d29_6 : decode jdk_42_method_66_code 6 = .ok (.ireturn, 1) := by decide +kernel
theorem d29_7 : decode jdk_42_method_66_code 7 = .ok (.aload_n 1, 1) := by decide +kernel
theorem d29_8 : decode jdk_42_method_66_code 8 = .ok (.instanceof 10, 3) := by decide +kernel
theorem d29_11 : decode jdk_42_method_66_code 11 = .ok (.ifCond .eq 43, 3) := by decide +kernel
theorem d29_14 : decode jdk_42_method_66_code 14 = .ok (.aload_n 1, 1) := by decide +kernel
theorem d29_15 : decode jdk_42_method_66_code 15 = .ok (.checkcast 10, 3) := by decide +kernel
theorem d29_18 : decode jdk_42_method_66_code 18 = .ok (.astore_n 2, 1) := by decide +kernel
theorem d29_19 : decode jdk_42_method_66_code 19 = .ok (.getstatic 38, 3) := by decide +kernel
theorem d29_22 : decode jdk_42_method_66_code 22 = .ok (.ifCond .eq 14, 3) := by decide +kernel
theorem d29_25 : decode jdk_42_method_66_code 25 = .ok (.aload_n 0, 1) := by decide +kernel
theorem d29_26 : decode jdk_42_method_66_code 26 = .ok (.getfield 15, 3) := by decide +kernel
theorem d29_29 : decode jdk_42_method_66_code 29 = .ok (.aload_n 2, 1) := by decide +kernel
theorem d29_30 : decode jdk_42_method_66_code 30 = .ok (.getfield 15, 3) := by decide +kernel
theorem d29_33 : decode jdk_42_method_66_code 33 = .ok (.if_icmp .ne 21, 3) := by decide +kernel
theorem d29_36 : decode jdk_42_method_66_code 36 = .ok (.aload_n 0, 1) := by decide +kernel
theorem d29_37 : decode jdk_42_method_66_code 37 = .ok (.getfield 9, 3) := by decide +kernel
theorem d29_40 : decode jdk_42_method_66_code 40 = .ok (.aload_n 2, 1) := by decide +kernel
theorem d29_41 : decode jdk_42_method_66_code 41 = .ok (.getfield 9, 3) := by decide +kernel
theorem d29_44 : decode jdk_42_method_66_code 44 = .ok (.invokestatic 541, 3) := by decide +kernel
theorem d29_47 : decode jdk_42_method_66_code 47 = .ok (.ifCond .eq 7, 3) := by decide +kernel
theorem d29_50 : decode jdk_42_method_66_code 50 = .ok (.iconst 1, 1) := by decide +kernel
theorem d29_51 : decode jdk_42_method_66_code 51 = .ok (.goto 4, 3) := by decide +kernel
theorem d29_54 : decode jdk_42_method_66_code 54 = .ok (.iconst 0, 1) := by decide +kernel
theorem d29_55 : decode jdk_42_method_66_code 55 = .ok (.ireturn, 1) := by decide +kernel
set_option maxRecDepth 65536 in
set_option maxHeartbeats 4000000 in
theorem c_eqid (l : Launch) (Z : State) (a0 : Array Value) (hw : ∀ d ∈ tables_1, d.before a0 Z = true) (h0 : Heap) (x : Addr) : Ow.Pay l Z (⟨"java/lang/String", "equals", "(Ljava/lang/Object;)Z"⟩ : MethodName) jdk_42_method_66_code 3 (some .boolean) ({ frames := 0, cells := 0, slots := 0, locals := 0 } : Room) #[(.ref x), (.ref x)] h0 (fun v h L => v = some (.int 1) ∧ h = h0 ∧ L = []) := by
  refine Ow.Pay.of (Ls := #[.val (.ref x), .val (.ref x), .unset]) (plainFor_of_name pn0) (fun m => by first | rfl | (simp [entryFrame, mkF, argsToLocals, Value.category]; done)) ?_
  intro p e s m below meth c T hx hby hml hown hnm hme hZ hret hlk X eT
  refine Ow.aloadN X hx (pc := 0) (hb hby d29_0) rfl rfl ?_
  refine Ow.aloadN X hx (pc := 1) (hb hby d29_1) rfl rfl ?_
  refine Ow.acmp_ne X hx (pc := 2) (pc' := 7) (hb hby d29_2) rfl rfl (by decide) (by decide) (fun q => absurd rfl q) (fun h2 => ?_)
  refine Ow.iconst X hx (pc := 5) (1) (hb hby d29_5) (by decide) ?_
  exact Ow.nreturn X hx hlk hret (Or.inl rfl) (hb hby d29_6) ⟨rfl, eT, rfl⟩ (by decide) (by decide)
theorem d15_0 : decode prog_10_method_2_code 0 = .ok (.new 17, 3) := by decide +kernel
theorem d15_3 : decode prog_10_method_2_code 3 = .ok (.dup, 1) := by decide +kernel
theorem d15_4 : decode prog_10_method_2_code 4 = .ok (.invokespecial 19, 3) := by decide +kernel
theorem d15_7 : decode prog_10_method_2_code 7 = .ok (.astore_n 2, 1) := by decide +kernel
theorem d15_8 : decode prog_10_method_2_code 8 = .ok (.new 20, 3) := by decide +kernel
theorem d15_11 : decode prog_10_method_2_code 11 = .ok (.dup, 1) := by decide +kernel
theorem d15_12 : decode prog_10_method_2_code 12 = .ok (.invokespecial 22, 3) := by decide +kernel
theorem d15_15 : decode prog_10_method_2_code 15 = .ok (.astore_n 3, 1) := by decide +kernel
theorem d15_16 : decode prog_10_method_2_code 16 = .ok (.iconst 0, 1) := by decide +kernel
theorem d15_17 : decode prog_10_method_2_code 17 = .ok (.istore 4, 2) := by decide +kernel
theorem d15_19 : decode prog_10_method_2_code 19 = .ok (.iload 4, 2) := by decide +kernel
theorem d15_21 : decode prog_10_method_2_code 21 = .ok (.aload_n 0, 1) := by decide +kernel
theorem d15_22 : decode prog_10_method_2_code 22 = .ok (.invokeinterface 23 1, 5) := by decide +kernel
theorem d15_27 : decode prog_10_method_2_code 27 = .ok (.if_icmp .ge 134, 3) := by decide +kernel
theorem d15_30 : decode prog_10_method_2_code 30 = .ok (.aload_n 0, 1) := by decide +kernel
theorem d15_31 : decode prog_10_method_2_code 31 = .ok (.iload 4, 2) := by decide +kernel
theorem d15_33 : decode prog_10_method_2_code 33 = .ok (.invokeinterface 29 2, 5) := by decide +kernel
theorem d15_38 : decode prog_10_method_2_code 38 = .ok (.checkcast 33, 3) := by decide +kernel
theorem d15_41 : decode prog_10_method_2_code 41 = .ok (.astore 5, 2) := by decide +kernel
theorem d15_43 : decode prog_10_method_2_code 43 = .ok (.aload 5, 2) := by decide +kernel
theorem d15_45 : decode prog_10_method_2_code 45 = .ok (.ldc 35, 2) := by decide +kernel
theorem d15_47 : decode prog_10_method_2_code 47 = .ok (.invokevirtual 37, 3) := by decide +kernel
theorem d15_50 : decode prog_10_method_2_code 50 = .ok (.ifCond .ne 15, 3) := by decide +kernel
theorem d15_53 : decode prog_10_method_2_code 53 = .ok (.aload_n 3, 1) := by decide +kernel
theorem d15_54 : decode prog_10_method_2_code 54 = .ok (.aload 5, 2) := by decide +kernel
theorem d15_56 : decode prog_10_method_2_code 56 = .ok (.invokeinterface 41 2, 5) := by decide +kernel
theorem d15_61 : decode prog_10_method_2_code 61 = .ok (.pop, 1) := by decide +kernel
theorem d15_62 : decode prog_10_method_2_code 62 = .ok (.goto 93, 3) := by decide +kernel
theorem d15_65 : decode prog_10_method_2_code 65 = .ok (.aload_n 1, 1) := by decide +kernel
theorem d15_66 : decode prog_10_method_2_code 66 = .ok (.aload 5, 2) := by decide +kernel
theorem d15_68 : decode prog_10_method_2_code 68 = .ok (.invokeinterface 45 2, 5) := by decide +kernel
theorem d15_73 : decode prog_10_method_2_code 73 = .ok (.ifCond .ne 18, 3) := by decide +kernel
theorem d15_76 : decode prog_10_method_2_code 76 = .ok (.new 50, 3) := by decide +kernel
theorem d15_79 : decode prog_10_method_2_code 79 = .ok (.dup, 1) := by decide +kernel
theorem d15_80 : decode prog_10_method_2_code 80 = .ok (.aload 5, 2) := by decide +kernel
theorem d15_82 : decode prog_10_method_2_code 82 = .ok (.invokedynamic 52, 5) := by decide +kernel
theorem d15_87 : decode prog_10_method_2_code 87 = .ok (.invokespecial 56, 3) := by decide +kernel
theorem d15_90 : decode prog_10_method_2_code 90 = .ok (.athrow, 1) := by decide +kernel
theorem d15_91 : decode prog_10_method_2_code 91 = .ok (.iload 4, 2) := by decide +kernel
theorem d15_93 : decode prog_10_method_2_code 93 = .ok (.iconst 1, 1) := by decide +kernel
theorem d15_94 : decode prog_10_method_2_code 94 = .ok (.iadd, 1) := by decide +kernel
theorem d15_95 : decode prog_10_method_2_code 95 = .ok (.aload_n 0, 1) := by decide +kernel
theorem d15_96 : decode prog_10_method_2_code 96 = .ok (.invokeinterface 23 1, 5) := by decide +kernel
theorem d15_101 : decode prog_10_method_2_code 101 = .ok (.if_icmp .ne 18, 3) := by decide +kernel
theorem d15_104 : decode prog_10_method_2_code 104 = .ok (.new 50, 3) := by decide +kernel
theorem d15_107 : decode prog_10_method_2_code 107 = .ok (.dup, 1) := by decide +kernel
theorem d15_108 : decode prog_10_method_2_code 108 = .ok (.aload 5, 2) := by decide +kernel
theorem d15_110 : decode prog_10_method_2_code 110 = .ok (.invokedynamic 59, 5) := by decide +kernel
theorem d15_115 : decode prog_10_method_2_code 115 = .ok (.invokespecial 56, 3) := by decide +kernel
theorem d15_118 : decode prog_10_method_2_code 118 = .ok (.athrow, 1) := by decide +kernel
theorem d15_119 : decode prog_10_method_2_code 119 = .ok (.iinc 4 1, 3) := by decide +kernel
theorem d15_122 : decode prog_10_method_2_code 122 = .ok (.aload_n 2, 1) := by decide +kernel
theorem d15_123 : decode prog_10_method_2_code 123 = .ok (.aload 5, 2) := by decide +kernel
theorem d15_125 : decode prog_10_method_2_code 125 = .ok (.invokedynamic 60, 5) := by decide +kernel
theorem d15_130 : decode prog_10_method_2_code 130 = .ok (.invokeinterface 64 3, 5) := by decide +kernel
theorem d15_135 : decode prog_10_method_2_code 135 = .ok (.checkcast 24, 3) := by decide +kernel
theorem d15_138 : decode prog_10_method_2_code 138 = .ok (.aload_n 0, 1) := by decide +kernel
theorem d15_139 : decode prog_10_method_2_code 139 = .ok (.iload 4, 2) := by decide +kernel
theorem d15_141 : decode prog_10_method_2_code 141 = .ok (.invokeinterface 29 2, 5) := by decide +kernel
theorem d15_146 : decode prog_10_method_2_code 146 = .ok (.checkcast 33, 3) := by decide +kernel
theorem d15_149 : decode prog_10_method_2_code 149 = .ok (.invokeinterface 41 2, 5) := by decide +kernel
theorem d15_154 : decode prog_10_method_2_code 154 = .ok (.pop, 1) := by decide +kernel
theorem d15_155 : decode prog_10_method_2_code 155 = .ok (.iinc 4 1, 3) := by decide +kernel
theorem d15_158 : decode prog_10_method_2_code 158 = .ok (.goto (-139), 3) := by decide +kernel
theorem d15_161 : decode prog_10_method_2_code 161 = .ok (.new 8, 3) := by decide +kernel
theorem d15_164 : decode prog_10_method_2_code 164 = .ok (.dup, 1) := by decide +kernel
theorem d15_165 : decode prog_10_method_2_code 165 = .ok (.aload_n 2, 1) := by decide +kernel
theorem d15_166 : decode prog_10_method_2_code 166 = .ok (.aload_n 3, 1) := by decide +kernel
theorem d15_167 : decode prog_10_method_2_code 167 = .ok (.invokespecial 70, 3) := by decide +kernel
theorem d15_170 : decode prog_10_method_2_code 170 = .ok (.areturn, 1) := by decide +kernel
set_option maxRecDepth 65536 in
set_option maxHeartbeats 40000000 in
theorem c_parse0 (l : Launch) (Z : State) (a0 : Array Value) (hw : ∀ d ∈ tables_1, d.before a0 Z = true) (hEL : EW Z a0 EL) (h0 : Heap) (z : Int32) (S : Sta Z h0 "java/lang/String" "COMPACT_STRINGS" "Z" (.int z)) (hz : ¬ z = 0) (al de : Addr) (kd : ClassId) (SD : Sta Z h0 "java/util/ArrayList" "DEFAULTCAPACITY_EMPTY_ELEMENTDATA" "[Ljava/lang/Object;" (.ref de)) (Bd : Ow.AL Z h0 de kd (.object "java/lang/Object") []) (A1 : own_E Z h0 al de kd) : Ow.PayW l Z EL [] (⟨"com/example/rowgate/rowgate/Options", "parse", "(Ljava/util/List;Ljava/util/Set;)Lcom/example/rowgate/rowgate/Options;"⟩ : MethodName) prog_10_method_2_code 6 (some (.object "com/example/rowgate/rowgate/Options")) ({ frames := 5, cells := 12, slots := 100, locals := 120 } : Room) #[(.ref al), (.null)] h0 (fun v h L => ∃ o hm al2, v = some (.ref o) ∧ Ow.Eff h0 h [] L ∧ Exa Z h o "com/example/rowgate/rowgate/Options" ∧ Fld Z h o "com/example/rowgate/rowgate/Options" "values" "Ljava/util/Map;" (.ref hm) ∧ Fld Z h o "com/example/rowgate/rowgate/Options" "arguments" "Ljava/util/List;" (.ref al2) ∧ Exa Z h hm "java/util/HashMap" ∧ Fld Z h hm "java/util/HashMap" "table" "[Ljava/util/HashMap$Node;" .null ∧ (own_E Z h al2 de kd)) := by
  refine Ow.PayW.of (Ls := #[.val (.ref al), .val (.null), .unset, .unset, .unset, .unset]) (plainFor_of_name pn11) (fun m => by first | rfl | (simp [entryFrame, mkF, argsToLocals, Value.category]; done)) ?_
  intro p e s m below meth c T vm0 hx hby hml hown hnm hme hret hlk X eT D hsf
  have F := Ow.Eff.refl h0 []
  have wS : ∀ a ∈ Bundle.stringAtoms, a.before a0 Z = true := fun d hd => hw d ((by decide +kernel : ∀ d ∈ Bundle.stringAtoms, d ∈ tables_1) d hd)
  refine Ow.new_ X hx D.hZ hown (ww hw 96 rfl) (ww hw 97 rfl) (ww hw 98 rfl) eT (pc := 0) (hb hby d15_0) (by decide) (by decide) ?_
  intro T h_hm hm ha_hm X eT E_hm A_hm D_hm U_hm
  have l_hm : h0.size ≤ hm := by rw [ha_hm]; exact F.size
  have ne_de_hm : de ≠ hm := by rw [ha_hm]; exact Nat.ne_of_lt Bd.lt
  have ne_al_hm : al ≠ hm := by rw [ha_hm]; exact Nat.ne_of_lt A1.lt
  have S_hm := D.safeNew E_hm
  rw [← ha_hm] at S_hm
  have S := S.ext E_hm
  have SD := SD.ext E_hm
  have Bd := Bd.ext E_hm
  have A1 := A1.ext E_hm
  have F := F.ext E_hm
  have D := D.ext E_hm
  have Ft := D_hm (Or.inl (ww hw 220 rfl)) (ty := .array (.object "java/util/HashMap$Node")) (by decide)
  have Fl := D_hm (Or.inr (ww hw 111 rfl)) (ty := .float) (by decide)
  have P1 := Ow.Exa.plain A_hm
  refine Ow.dup X hx (pc := 3) (hb hby d15_3) rfl ?_
  refine Ow.callI X hx D.hZ (c_hminit l Z a0 hw _ hm A_hm Ft Fl) eT rfl hown (ww hw 99 rfl) (ww hw 100 rfl) (ww hw 98 rfl) (ww hw 101 rfl) (by decide) pd0 (by rw [hml]; rfl) (argsL := []) rfl rfl rfl (pc := 4) (hb hby d15_4) rfl rfl (by decide) (by decide) ?_
  rintro _ T L X ⟨rfl, F2, A_hm, Ft⟩
  dsimp only [Option.toList_some, Option.toList_none, List.cons_append, List.nil_append]
  have F := F.call F2 (fun y hy => by cases List.mem_singleton.mp hy; exact Or.inr l_hm)
  have D := D.keep F2.1 (fun y hy => by cases List.mem_singleton.mp hy; exact S_hm)
  have S := Ow.staKeep S F2.1 (fun y hy => by cases List.mem_singleton.mp hy; exact P1)
  have SD := Ow.staKeep SD F2.1 (fun y hy => by cases List.mem_singleton.mp hy; exact P1)
  have Bd := Bd.keep F2.1 (Ow.nin1 ne_de_hm)
  have A1 := A1.keep F2.1 (Ow.nin1 ne_al_hm) (Ow.nin1 ne_de_hm)
  obtain ⟨h_4, e_4⟩ : ∃ q, q = T.heap := ⟨_, rfl⟩
  rw [← e_4] at F D S SD Bd A1 A_hm Ft
  have eT : T.heap = h_4 := e_4.symm
  refine Ow.astoreN X hx (pc := 7) #[_, _, _, _, _, _] (hb hby d15_7) rfl rfl ?_
  refine Ow.new_ X hx D.hZ hown (ww hw 112 rfl) (ww hw 38 rfl) (ww hw 39 rfl) eT (pc := 8) (hb hby d15_8) (by decide) (by decide) ?_
  intro T h_al2 al2 ha_al2 X eT E_al2 A_al2 D_al2 U_al2
  have l_al2 : h0.size ≤ al2 := by rw [ha_al2]; exact F.size
  have ne_de_al2 : de ≠ al2 := by rw [ha_al2]; exact Nat.ne_of_lt Bd.lt
  have ne_al_al2 : al ≠ al2 := by rw [ha_al2]; exact Nat.ne_of_lt A1.lt
  have ne_hm_al2 : hm ≠ al2 := by rw [ha_al2]; exact Nat.ne_of_lt A_hm.lt
  have S_al2 := D.safeNew E_al2
  rw [← ha_al2] at S_al2
  have S := S.ext E_al2
  have SD := SD.ext E_al2
  have Bd := Bd.ext E_al2
  have A1 := A1.ext E_al2
  have A_hm := A_hm.ext E_al2
  have Ft := Ft.ext E_al2
  have F := F.ext E_al2
  have D := D.ext E_al2
  have Z_elementData := D_al2 (Or.inl (ww hw 60 rfl)) (ty := (.array (.object "java/lang/Object"))) (by decide)
  have Z_size := D_al2 (Or.inl (ww hw 69 rfl)) (ty := .int) (by decide)
  have Z_modCount := D_al2 (Or.inl (ww hw 57 rfl)) (ty := .int) (by decide)
  have P1 := Ow.Exa.plain A_al2
  refine Ow.dup X hx (pc := 11) (hb hby d15_11) rfl ?_
  refine Ow.callI X hx D.hZ (c_arinit l Z a0 hw _ al2 A_al2 Z_elementData Z_size Z_modCount de kd SD Bd ne_de_al2) eT rfl hown (ww hw 113 rfl) (ww hw 41 rfl) (ww hw 39 rfl) (ww hw 42 rfl) (by decide) pd0 (by rw [hml]; rfl) (argsL := []) rfl rfl rfl (pc := 12) (hb hby d15_12) rfl rfl (by decide) (by decide) ?_
  rintro _ T L X ⟨rfl, F2, A2⟩
  dsimp only [Option.toList_some, Option.toList_none, List.cons_append, List.nil_append]
  have F := F.call F2 (fun y hy => by cases List.mem_singleton.mp hy; exact Or.inr l_al2)
  have D := D.keep F2.1 (fun y hy => by cases List.mem_singleton.mp hy; exact S_al2)
  have S := Ow.staKeep S F2.1 (fun y hy => by cases List.mem_singleton.mp hy; exact P1)
  have SD := Ow.staKeep SD F2.1 (fun y hy => by cases List.mem_singleton.mp hy; exact P1)
  have Bd := Bd.keep F2.1 (Ow.nin1 ne_de_al2)
  have A1 := A1.keep F2.1 (Ow.nin1 ne_al_al2) (Ow.nin1 ne_de_al2)
  have A_hm := A_hm.keep F2.1
  have Ft := Ft.keep F2.1 (Ow.nin1 ne_hm_al2)
  obtain ⟨h_12, e_12⟩ : ∃ q, q = T.heap := ⟨_, rfl⟩
  rw [← e_12] at F D S SD Bd A1 A_hm Ft A2
  have eT : T.heap = h_12 := e_12.symm
  refine Ow.astoreN X hx (pc := 15) #[_, _, _, _, _, _] (hb hby d15_15) rfl rfl ?_
  refine Ow.iconst X hx (pc := 16) (0) (hb hby d15_16) (by decide) ?_
  refine Ow.istore X hx (pc := 17) #[_, _, _, _, _, _] (hb hby d15_17) rfl ?_
  refine Ow.iload X hx (pc := 19) (hb hby d15_19) rfl ?_
  refine Ow.aloadN X hx (pc := 21) (hb hby d15_21) rfl rfl ?_
  refine Ow.callFP X hx D.hZ (c_size l Z a0 hw _ al _ A1.2.2.1) rfl rfl eT hown (ww hw 114 rfl) (ww hw 115 rfl) (ww hw 117 rfl) (ww hw 118 rfl) (ww hw 116 rfl) (ww hw 119 rfl) (ww hw 120 rfl) (ww hw 121 rfl) (ww hw 39 rfl) (ww hw 122 rfl) (by decide) pd14 (by rw [hml]; rfl) A1.1 (argsL := []) rfl rfl rfl (pc := 22) (hb hby d15_22) rfl rfl (by decide) (by decide) ?_
  intro T X eT
  dsimp only [Option.toList_some, Option.toList_none, List.cons_append, List.nil_append]
  refine Ow.icmp_ge X hx (pc := 27) (pc' := 161) (hb hby d15_27) (by decide) (by decide) (fun h27 => ?_) (fun q => absurd q (by decide))
  refine Ow.new_ X hx D.hZ hown (ww hw 172 rfl) (ww hw 173 rfl) (ww hw 94 rfl) eT (pc := 161) (hb hby d15_161) (by decide) (by decide) ?_
  intro T h_o o ha_o X eT E_o A_o D_o U_o
  have l_o : h0.size ≤ o := by rw [ha_o]; exact F.size
  have ne_de_o : de ≠ o := by rw [ha_o]; exact Nat.ne_of_lt Bd.lt
  have ne_al_o : al ≠ o := by rw [ha_o]; exact Nat.ne_of_lt A1.lt
  have ne_hm_o : hm ≠ o := by rw [ha_o]; exact Nat.ne_of_lt A_hm.lt
  have ne_al2_o : al2 ≠ o := by rw [ha_o]; exact Nat.ne_of_lt A2.lt
  have S_o := D.safeNew E_o
  rw [← ha_o] at S_o
  have S := S.ext E_o
  have SD := SD.ext E_o
  have Bd := Bd.ext E_o
  have A1 := A1.ext E_o
  have A_hm := A_hm.ext E_o
  have Ft := Ft.ext E_o
  have A2 := A2.ext E_o
  have F := F.ext E_o
  have D := D.ext E_o
  have Z1 := D_o (Or.inr (ww hw 179 rfl)) (ty := .object "java/util/Map") (by decide)
  have Z2 := D_o (Or.inr (ww hw 181 rfl)) (ty := .object "java/util/List") (by decide)
  have P1 := Ow.Exa.plain A_o
  refine Ow.dup X hx (pc := 164) (hb hby d15_164) rfl ?_
  refine Ow.aloadN X hx (pc := 165) (hb hby d15_165) rfl rfl ?_
  refine Ow.aloadN X hx (pc := 166) (hb hby d15_166) rfl rfl ?_
  refine Ow.callI X hx D.hZ (c_oinit l Z a0 hw _ o hm al2 A_o Z1 Z2) eT rfl hown (ww hw 174 rfl) (ww hw 175 rfl) (ww hw 94 rfl) (ww hw 176 rfl) (by decide) pd20 (by rw [hml]; rfl) (argsL := [_, _]) rfl rfl rfl (pc := 167) (hb hby d15_167) rfl rfl (by decide) (by decide) ?_
  rintro _ T L X ⟨rfl, F2, A_o, Fv, Fa⟩
  dsimp only [Option.toList_some, Option.toList_none, List.cons_append, List.nil_append]
  have F := F.call F2 (fun y hy => by cases List.mem_singleton.mp hy; exact Or.inr l_o)
  have D := D.keep F2.1 (fun y hy => by cases List.mem_singleton.mp hy; exact S_o)
  have S := Ow.staKeep S F2.1 (fun y hy => by cases List.mem_singleton.mp hy; exact P1)
  have SD := Ow.staKeep SD F2.1 (fun y hy => by cases List.mem_singleton.mp hy; exact P1)
  have Bd := Bd.keep F2.1 (Ow.nin1 ne_de_o)
  have A1 := A1.keep F2.1 (Ow.nin1 ne_al_o) (Ow.nin1 ne_de_o)
  have A_hm := A_hm.keep F2.1
  have Ft := Ft.keep F2.1 (Ow.nin1 ne_hm_o)
  have A2 := A2.keep F2.1 (Ow.nin1 ne_al2_o) (Ow.nin1 ne_de_o)
  obtain ⟨h_167, e_167⟩ : ∃ q, q = T.heap := ⟨_, rfl⟩
  rw [← e_167] at F D S SD Bd A1 A_hm Ft A2 A_o Fv Fa
  have eT : T.heap = h_167 := e_167.symm
  exact Ow.areturnW X hx eT D hEL hlk hret rfl rfl rfl (hb hby d15_170) ⟨o, hm, al2, rfl, by rw [eT]; exact F, by rw [eT]; exact A_o, by rw [eT]; exact Fv, by rw [eT]; exact Fa, by rw [eT]; exact A_hm, by rw [eT]; exact Ft, by rw [eT]; exact A2⟩ (by decide) (by decide)
set_option maxRecDepth 65536 in
set_option maxHeartbeats 40000000 in
theorem c_parse1 (l : Launch) (Z : State) (a0 : Array Value) (hw : ∀ d ∈ tables_1, d.before a0 Z = true) (hEL : EW Z a0 EL) (h0 : Heap) (z : Int32) (S : Sta Z h0 "java/lang/String" "COMPACT_STRINGS" "Z" (.int z)) (hz : ¬ z = 0) (al de : Addr) (kd : ClassId) (SD : Sta Z h0 "java/util/ArrayList" "DEFAULTCAPACITY_EMPTY_ELEMENTDATA" "[Ljava/lang/Object;" (.ref de)) (Bd : Ow.AL Z h0 de kd (.object "java/lang/Object") []) (ea : Addr) (ka : ClassId) (y0 t0 : Addr) (k0 : ClassId) (bs0 : List Int32) (St0 : Ow.Str Z h0 y0 t0 k0 bs0) (hl0 : bs0.length ≤ 3) (hp0 : own_np bs0) (A1 : own_L Z h0 al ea ka 1 [.ref y0, .null, .null, .null, .null, .null, .null, .null, .null, .null]) : Ow.PayW l Z EL [] (⟨"com/example/rowgate/rowgate/Options", "parse", "(Ljava/util/List;Ljava/util/Set;)Lcom/example/rowgate/rowgate/Options;"⟩ : MethodName) prog_10_method_2_code 6 (some (.object "com/example/rowgate/rowgate/Options")) ({ frames := 5, cells := 12, slots := 100, locals := 120 } : Room) #[(.ref al), (.null)] h0 (fun v h L => ∃ o hm al2, v = some (.ref o) ∧ Ow.Eff h0 h [] L ∧ Exa Z h o "com/example/rowgate/rowgate/Options" ∧ Fld Z h o "com/example/rowgate/rowgate/Options" "values" "Ljava/util/Map;" (.ref hm) ∧ Fld Z h o "com/example/rowgate/rowgate/Options" "arguments" "Ljava/util/List;" (.ref al2) ∧ Exa Z h hm "java/util/HashMap" ∧ Fld Z h hm "java/util/HashMap" "table" "[Ljava/util/HashMap$Node;" .null ∧ (∃ ed ke, own_L Z h al2 ed ke 1 [.ref y0, .null, .null, .null, .null, .null, .null, .null, .null, .null])) := by
  refine Ow.PayW.of (Ls := #[.val (.ref al), .val (.null), .unset, .unset, .unset, .unset]) (plainFor_of_name pn11) (fun m => by first | rfl | (simp [entryFrame, mkF, argsToLocals, Value.category]; done)) ?_
  intro p e s m below meth c T vm0 hx hby hml hown hnm hme hret hlk X eT D hsf
  have F := Ow.Eff.refl h0 []
  have wS : ∀ a ∈ Bundle.stringAtoms, a.before a0 Z = true := fun d hd => hw d ((by decide +kernel : ∀ d ∈ Bundle.stringAtoms, d ∈ tables_1) d hd)
  refine Ow.new_ X hx D.hZ hown (ww hw 96 rfl) (ww hw 97 rfl) (ww hw 98 rfl) eT (pc := 0) (hb hby d15_0) (by decide) (by decide) ?_
  intro T h_hm hm ha_hm X eT E_hm A_hm D_hm U_hm
  have l_hm : h0.size ≤ hm := by rw [ha_hm]; exact F.size
  have ne_de_hm : de ≠ hm := by rw [ha_hm]; exact Nat.ne_of_lt Bd.lt
  have ne_y0_hm : y0 ≠ hm := by rw [ha_hm]; exact Nat.ne_of_lt St0.lt
  have ne_t0_hm : t0 ≠ hm := by rw [ha_hm]; exact Nat.ne_of_lt St0.ltB
  have ne_al_hm : al ≠ hm := by rw [ha_hm]; exact Nat.ne_of_lt A1.lt
  have ne_ea_hm : ea ≠ hm := by rw [ha_hm]; exact Nat.ne_of_lt A1.ltB
  have S_hm := D.safeNew E_hm
  rw [← ha_hm] at S_hm
  have S := S.ext E_hm
  have SD := SD.ext E_hm
  have Bd := Bd.ext E_hm
  have St0 := St0.ext E_hm
  have A1 := A1.ext E_hm
  have F := F.ext E_hm
  have D := D.ext E_hm
  have Ft := D_hm (Or.inl (ww hw 220 rfl)) (ty := .array (.object "java/util/HashMap$Node")) (by decide)
  have Fl := D_hm (Or.inr (ww hw 111 rfl)) (ty := .float) (by decide)
  have P1 := Ow.Exa.plain A_hm
  refine Ow.dup X hx (pc := 3) (hb hby d15_3) rfl ?_
  refine Ow.callI X hx D.hZ (c_hminit l Z a0 hw _ hm A_hm Ft Fl) eT rfl hown (ww hw 99 rfl) (ww hw 100 rfl) (ww hw 98 rfl) (ww hw 101 rfl) (by decide) pd0 (by rw [hml]; rfl) (argsL := []) rfl rfl rfl (pc := 4) (hb hby d15_4) rfl rfl (by decide) (by decide) ?_
  rintro _ T L X ⟨rfl, F2, A_hm, Ft⟩
  dsimp only [Option.toList_some, Option.toList_none, List.cons_append, List.nil_append]
  have F := F.call F2 (fun y hy => by cases List.mem_singleton.mp hy; exact Or.inr l_hm)
  have D := D.keep F2.1 (fun y hy => by cases List.mem_singleton.mp hy; exact S_hm)
  have S := Ow.staKeep S F2.1 (fun y hy => by cases List.mem_singleton.mp hy; exact P1)
  have SD := Ow.staKeep SD F2.1 (fun y hy => by cases List.mem_singleton.mp hy; exact P1)
  have Bd := Bd.keep F2.1 (Ow.nin1 ne_de_hm)
  have St0 := St0.keep F2.1 (Ow.nin1 ne_y0_hm) (Ow.nin1 ne_t0_hm)
  have A1 := A1.keep F2.1 (Ow.nin1 ne_al_hm) (Ow.nin1 ne_ea_hm)
  obtain ⟨h_4, e_4⟩ : ∃ q, q = T.heap := ⟨_, rfl⟩
  rw [← e_4] at F D S SD Bd St0 A1 A_hm Ft
  have eT : T.heap = h_4 := e_4.symm
  refine Ow.astoreN X hx (pc := 7) #[_, _, _, _, _, _] (hb hby d15_7) rfl rfl ?_
  refine Ow.new_ X hx D.hZ hown (ww hw 112 rfl) (ww hw 38 rfl) (ww hw 39 rfl) eT (pc := 8) (hb hby d15_8) (by decide) (by decide) ?_
  intro T h_al2 al2 ha_al2 X eT E_al2 A_al2 D_al2 U_al2
  have l_al2 : h0.size ≤ al2 := by rw [ha_al2]; exact F.size
  have ne_de_al2 : de ≠ al2 := by rw [ha_al2]; exact Nat.ne_of_lt Bd.lt
  have ne_y0_al2 : y0 ≠ al2 := by rw [ha_al2]; exact Nat.ne_of_lt St0.lt
  have ne_t0_al2 : t0 ≠ al2 := by rw [ha_al2]; exact Nat.ne_of_lt St0.ltB
  have ne_al_al2 : al ≠ al2 := by rw [ha_al2]; exact Nat.ne_of_lt A1.lt
  have ne_ea_al2 : ea ≠ al2 := by rw [ha_al2]; exact Nat.ne_of_lt A1.ltB
  have ne_hm_al2 : hm ≠ al2 := by rw [ha_al2]; exact Nat.ne_of_lt A_hm.lt
  have S_al2 := D.safeNew E_al2
  rw [← ha_al2] at S_al2
  have S := S.ext E_al2
  have SD := SD.ext E_al2
  have Bd := Bd.ext E_al2
  have St0 := St0.ext E_al2
  have A1 := A1.ext E_al2
  have A_hm := A_hm.ext E_al2
  have Ft := Ft.ext E_al2
  have F := F.ext E_al2
  have D := D.ext E_al2
  have Z_elementData := D_al2 (Or.inl (ww hw 60 rfl)) (ty := (.array (.object "java/lang/Object"))) (by decide)
  have Z_size := D_al2 (Or.inl (ww hw 69 rfl)) (ty := .int) (by decide)
  have Z_modCount := D_al2 (Or.inl (ww hw 57 rfl)) (ty := .int) (by decide)
  have P1 := Ow.Exa.plain A_al2
  refine Ow.dup X hx (pc := 11) (hb hby d15_11) rfl ?_
  refine Ow.callI X hx D.hZ (c_arinit l Z a0 hw _ al2 A_al2 Z_elementData Z_size Z_modCount de kd SD Bd ne_de_al2) eT rfl hown (ww hw 113 rfl) (ww hw 41 rfl) (ww hw 39 rfl) (ww hw 42 rfl) (by decide) pd0 (by rw [hml]; rfl) (argsL := []) rfl rfl rfl (pc := 12) (hb hby d15_12) rfl rfl (by decide) (by decide) ?_
  rintro _ T L X ⟨rfl, F2, A2⟩
  dsimp only [Option.toList_some, Option.toList_none, List.cons_append, List.nil_append]
  have F := F.call F2 (fun y hy => by cases List.mem_singleton.mp hy; exact Or.inr l_al2)
  have D := D.keep F2.1 (fun y hy => by cases List.mem_singleton.mp hy; exact S_al2)
  have S := Ow.staKeep S F2.1 (fun y hy => by cases List.mem_singleton.mp hy; exact P1)
  have SD := Ow.staKeep SD F2.1 (fun y hy => by cases List.mem_singleton.mp hy; exact P1)
  have Bd := Bd.keep F2.1 (Ow.nin1 ne_de_al2)
  have St0 := St0.keep F2.1 (Ow.nin1 ne_y0_al2) (Ow.nin1 ne_t0_al2)
  have A1 := A1.keep F2.1 (Ow.nin1 ne_al_al2) (Ow.nin1 ne_ea_al2)
  have A_hm := A_hm.keep F2.1
  have Ft := Ft.keep F2.1 (Ow.nin1 ne_hm_al2)
  obtain ⟨h_12, e_12⟩ : ∃ q, q = T.heap := ⟨_, rfl⟩
  rw [← e_12] at F D S SD Bd St0 A1 A_hm Ft A2
  have eT : T.heap = h_12 := e_12.symm
  refine Ow.astoreN X hx (pc := 15) #[_, _, _, _, _, _] (hb hby d15_15) rfl rfl ?_
  refine Ow.iconst X hx (pc := 16) (0) (hb hby d15_16) (by decide) ?_
  refine Ow.istore X hx (pc := 17) #[_, _, _, _, _, _] (hb hby d15_17) rfl ?_
  refine Ow.iload X hx (pc := 19) (hb hby d15_19) rfl ?_
  refine Ow.aloadN X hx (pc := 21) (hb hby d15_21) rfl rfl ?_
  refine Ow.callFP X hx D.hZ (c_size l Z a0 hw _ al _ A1.2.2.1) rfl rfl eT hown (ww hw 114 rfl) (ww hw 115 rfl) (ww hw 117 rfl) (ww hw 118 rfl) (ww hw 116 rfl) (ww hw 119 rfl) (ww hw 120 rfl) (ww hw 121 rfl) (ww hw 39 rfl) (ww hw 122 rfl) (by decide) pd14 (by rw [hml]; rfl) A1.1 (argsL := []) rfl rfl rfl (pc := 22) (hb hby d15_22) rfl rfl (by decide) (by decide) ?_
  intro T X eT
  dsimp only [Option.toList_some, Option.toList_none, List.cons_append, List.nil_append]
  refine Ow.icmp_ge X hx (pc := 27) (pc' := 161) (hb hby d15_27) (by decide) (by decide) (fun q => absurd (by decide) q) (fun h27 => ?_)
  refine Ow.aloadN X hx (pc := 30) (hb hby d15_30) rfl rfl ?_
  refine Ow.iload X hx (pc := 31) (hb hby d15_31) rfl ?_
  refine Ow.callFP X hx D.hZ (c_get l Z a0 hw _ al ea ka 1 _ A1 0 y0 rfl (by decide) (by decide)) rfl rfl eT hown (ww hw 123 rfl) (ww hw 124 rfl) (ww hw 126 rfl) (ww hw 127 rfl) (ww hw 125 rfl) (ww hw 128 rfl) (ww hw 129 rfl) (ww hw 121 rfl) (ww hw 39 rfl) (ww hw 130 rfl) (by decide) pd9 (by rw [hml]; rfl) A1.1 (argsL := [_]) rfl rfl rfl (pc := 33) (hb hby d15_33) rfl rfl (by decide) (by decide) ?_
  intro T X eT
  dsimp only [Option.toList_some, Option.toList_none, List.cons_append, List.nil_append]
  refine Ow.checkcast X hx D.hZ hown (ww hw 144 rfl) eT (Ins.self St0.1) (pc := 38) (hb hby d15_38) ?_
  intro T X eT
  refine Ow.astore X hx (pc := 41) #[_, _, _, _, _, _] (hb hby d15_41) rfl rfl ?_
  refine Ow.aload X hx (pc := 43) (hb hby d15_43) rfl rfl ?_
  refine Ow.ldcS X hx eT D hEL hown (ww hw 145 rfl) wS (by decide) (vs := [.int 45, .int 45]) (z := 2) (by decide) (by decide) (by decide) (pc := 45) (hb hby d15_45) 8 (by decide) (by decide) (by decide) (by decide) ?_
  intro vm_l0 a_l0 T h_l0 b_l0 k_l0 X eT E_l0 D hown C_l0 A_l0 Fc_l0 Fv_l0 V_l0 ne_l0
  have S := S.ext E_l0
  have SD := SD.ext E_l0
  have Bd := Bd.ext E_l0
  have St0 := St0.ext E_l0
  have A1 := A1.ext E_l0
  have A_hm := A_hm.ext E_l0
  have Ft := Ft.ext E_l0
  have A2 := A2.ext E_l0
  have F := F.ext E_l0
  have Sq : Ow.Str Z h_l0 a_l0 b_l0 k_l0 [45, 45] := ⟨A_l0, Fc_l0, Fv_l0, Ow.AL.of_arv V_l0 rfl⟩
  refine Ow.callVP X hx D.hZ (c_sw l Z a0 hw _ z S hz y0 t0 a_l0 b_l0 _ _ bs0 St0 Sq hl0 hp0) rfl rfl eT hown (ww hw 146 rfl) (ww hw 147 rfl) (ww hw 149 rfl) (ww hw 148 rfl) (ww hw 6 rfl) (ww hw 150 rfl) (by decide) pd21 (by rw [hml]; rfl) St0.1 (argsL := [_]) rfl rfl rfl (pc := 47) (hb hby d15_47) rfl rfl (by decide) (by decide) ?_   -- java/lang/String.startsWith:(Ljava/lang/String;)Z
  intro T X eT
  dsimp only [Option.toList_some, Option.toList_none, List.cons_append, List.nil_append]
  refine Ow.if_ne X hx (pc := 50) (pc' := 65) (hb hby d15_50) (by decide) (by decide) (fun q => absurd rfl q) (fun h50 => ?_)
  refine Ow.aloadN X hx (pc := 53) (hb hby d15_53) rfl rfl ?_
  refine Ow.aload X hx (pc := 54) (hb hby d15_54) rfl rfl ?_
  have h_al2 := A2.lt
  have P1 := Ow.Exa.plain A2.1
  have Q1 : Safe Z EL _ _ al2 := Safe.exa D.hZ.alike A2.1 (by decide) (by decide)
  refine Ow.callF X hx D.hZ (c_addE l Z a0 hw _ al2 de kd A2 SD ne_de_al2 y0 St0.1) eT hown (ww hw 166 rfl) (ww hw 167 rfl) (ww hw 169 rfl) (ww hw 63 rfl) (ww hw 168 rfl) (ww hw 170 rfl) (ww hw 171 rfl) (ww hw 121 rfl) (ww hw 39 rfl) (ww hw 65 rfl) (by decide) pd22 (by rw [hml]; rfl) A2.1 (argsL := [_]) rfl rfl rfl (pc := 56) (hb hby d15_56) rfl rfl (by decide) (by decide) ?_
  rintro _ T L X ⟨rfl, F2, ed2, ke2, l_ed2, A2⟩
  dsimp only [Option.toList_some, Option.toList_none, List.cons_append, List.nil_append]
  have ne_de_ed2 : de ≠ ed2 := Nat.ne_of_lt (Nat.lt_of_lt_of_le Bd.lt l_ed2)
  have ne_y0_ed2 : y0 ≠ ed2 := Nat.ne_of_lt (Nat.lt_of_lt_of_le St0.lt l_ed2)
  have ne_t0_ed2 : t0 ≠ ed2 := Nat.ne_of_lt (Nat.lt_of_lt_of_le St0.ltB l_ed2)
  have ne_al_ed2 : al ≠ ed2 := Nat.ne_of_lt (Nat.lt_of_lt_of_le A1.lt l_ed2)
  have ne_ea_ed2 : ea ≠ ed2 := Nat.ne_of_lt (Nat.lt_of_lt_of_le A1.ltB l_ed2)
  have ne_hm_ed2 : hm ≠ ed2 := Nat.ne_of_lt (Nat.lt_of_lt_of_le A_hm.lt l_ed2)
  have ne_al2_ed2 : al2 ≠ ed2 := Nat.ne_of_lt (Nat.lt_of_lt_of_le h_al2 l_ed2)
  have l_ed2 := Nat.le_trans F.size l_ed2
  have F := F.call F2 (fun y hy => by cases List.mem_singleton.mp hy; exact Or.inr l_al2)
  have D := D.keep F2.1 (fun y hy => by cases List.mem_singleton.mp hy; exact Q1)
  have S := Ow.staKeep S F2.1 (fun y hy => by cases List.mem_singleton.mp hy; exact P1)
  have SD := Ow.staKeep SD F2.1 (fun y hy => by cases List.mem_singleton.mp hy; exact P1)
  have Bd := Bd.keep F2.1 (Ow.nin1 ne_de_al2)
  have St0 := St0.keep F2.1 (Ow.nin1 ne_y0_al2) (Ow.nin1 ne_t0_al2)
  have A1 := A1.keep F2.1 (Ow.nin1 ne_al_al2) (Ow.nin1 ne_ea_al2)
  have A_hm := A_hm.keep F2.1
  have Ft := Ft.keep F2.1 (Ow.nin1 ne_hm_al2)
  obtain ⟨h_56_0, e_56_0⟩ : ∃ q, q = T.heap := ⟨_, rfl⟩
  rw [← e_56_0] at F D S SD Bd St0 A1 A_hm Ft A2
  have eT : T.heap = h_56_0 := e_56_0.symm
  refine Ow.pop X hx (pc := 61) (hb hby d15_61) rfl ?_
  refine Ow.goto X hx (pc := 62) (pc' := 155) (hb hby d15_62) (by decide) (by decide) ?_
  refine Ow.iinc X hx (pc := 155) (1) #[_, _, _, _, _, _] (hb hby d15_155) (by decide) rfl rfl ?_
  rw [show (0 + 1 : Int32) = 1 from by decide]
  refine Ow.goto X hx (pc := 158) (pc' := 19) (hb hby d15_158) (by decide) (by decide) ?_
  refine Ow.iload X hx (pc := 19) (hb hby d15_19) rfl ?_
  refine Ow.aloadN X hx (pc := 21) (hb hby d15_21) rfl rfl ?_
  refine Ow.callFP X hx D.hZ (c_size l Z a0 hw _ al _ A1.2.2.1) rfl rfl eT hown (ww hw 114 rfl) (ww hw 115 rfl) (ww hw 117 rfl) (ww hw 118 rfl) (ww hw 116 rfl) (ww hw 119 rfl) (ww hw 120 rfl) (ww hw 121 rfl) (ww hw 39 rfl) (ww hw 122 rfl) (by decide) pd14 (by rw [hml]; rfl) A1.1 (argsL := []) rfl rfl rfl (pc := 22) (hb hby d15_22) rfl rfl (by decide) (by decide) ?_
  intro T X eT
  dsimp only [Option.toList_some, Option.toList_none, List.cons_append, List.nil_append]
  refine Ow.icmp_ge X hx (pc := 27) (pc' := 161) (hb hby d15_27) (by decide) (by decide) (fun h27 => ?_) (fun q => absurd q (by decide))
  refine Ow.new_ X hx D.hZ hown (ww hw 172 rfl) (ww hw 173 rfl) (ww hw 94 rfl) eT (pc := 161) (hb hby d15_161) (by decide) (by decide) ?_
  intro T h_o o ha_o X eT E_o A_o D_o U_o
  have l_o : h0.size ≤ o := by rw [ha_o]; exact F.size
  have ne_de_o : de ≠ o := by rw [ha_o]; exact Nat.ne_of_lt Bd.lt
  have ne_y0_o : y0 ≠ o := by rw [ha_o]; exact Nat.ne_of_lt St0.lt
  have ne_t0_o : t0 ≠ o := by rw [ha_o]; exact Nat.ne_of_lt St0.ltB
  have ne_al_o : al ≠ o := by rw [ha_o]; exact Nat.ne_of_lt A1.lt
  have ne_ea_o : ea ≠ o := by rw [ha_o]; exact Nat.ne_of_lt A1.ltB
  have ne_hm_o : hm ≠ o := by rw [ha_o]; exact Nat.ne_of_lt A_hm.lt
  have ne_al2_o : al2 ≠ o := by rw [ha_o]; exact Nat.ne_of_lt A2.lt
  have ne_ed2_o : ed2 ≠ o := by rw [ha_o]; exact Nat.ne_of_lt A2.ltB
  have S_o := D.safeNew E_o
  rw [← ha_o] at S_o
  have S := S.ext E_o
  have SD := SD.ext E_o
  have Bd := Bd.ext E_o
  have St0 := St0.ext E_o
  have A1 := A1.ext E_o
  have A_hm := A_hm.ext E_o
  have Ft := Ft.ext E_o
  have A2 := A2.ext E_o
  have F := F.ext E_o
  have D := D.ext E_o
  have Z1 := D_o (Or.inr (ww hw 179 rfl)) (ty := .object "java/util/Map") (by decide)
  have Z2 := D_o (Or.inr (ww hw 181 rfl)) (ty := .object "java/util/List") (by decide)
  have P1 := Ow.Exa.plain A_o
  refine Ow.dup X hx (pc := 164) (hb hby d15_164) rfl ?_
  refine Ow.aloadN X hx (pc := 165) (hb hby d15_165) rfl rfl ?_
  refine Ow.aloadN X hx (pc := 166) (hb hby d15_166) rfl rfl ?_
  refine Ow.callI X hx D.hZ (c_oinit l Z a0 hw _ o hm al2 A_o Z1 Z2) eT rfl hown (ww hw 174 rfl) (ww hw 175 rfl) (ww hw 94 rfl) (ww hw 176 rfl) (by decide) pd20 (by rw [hml]; rfl) (argsL := [_, _]) rfl rfl rfl (pc := 167) (hb hby d15_167) rfl rfl (by decide) (by decide) ?_
  rintro _ T L X ⟨rfl, F2, A_o, Fv, Fa⟩
  dsimp only [Option.toList_some, Option.toList_none, List.cons_append, List.nil_append]
  have F := F.call F2 (fun y hy => by cases List.mem_singleton.mp hy; exact Or.inr l_o)
  have D := D.keep F2.1 (fun y hy => by cases List.mem_singleton.mp hy; exact S_o)
  have S := Ow.staKeep S F2.1 (fun y hy => by cases List.mem_singleton.mp hy; exact P1)
  have SD := Ow.staKeep SD F2.1 (fun y hy => by cases List.mem_singleton.mp hy; exact P1)
  have Bd := Bd.keep F2.1 (Ow.nin1 ne_de_o)
  have St0 := St0.keep F2.1 (Ow.nin1 ne_y0_o) (Ow.nin1 ne_t0_o)
  have A1 := A1.keep F2.1 (Ow.nin1 ne_al_o) (Ow.nin1 ne_ea_o)
  have A_hm := A_hm.keep F2.1
  have Ft := Ft.keep F2.1 (Ow.nin1 ne_hm_o)
  have A2 := A2.keep F2.1 (Ow.nin1 ne_al2_o) (Ow.nin1 ne_ed2_o)
  obtain ⟨h_167, e_167⟩ : ∃ q, q = T.heap := ⟨_, rfl⟩
  rw [← e_167] at F D S SD Bd St0 A1 A_hm Ft A2 A_o Fv Fa
  have eT : T.heap = h_167 := e_167.symm
  exact Ow.areturnW X hx eT D hEL hlk hret rfl rfl rfl (hb hby d15_170) ⟨o, hm, al2, rfl, by rw [eT]; exact F, by rw [eT]; exact A_o, by rw [eT]; exact Fv, by rw [eT]; exact Fa, by rw [eT]; exact A_hm, by rw [eT]; exact Ft, by rw [eT]; exact ⟨ed2, ke2, A2⟩⟩ (by decide) (by decide)
set_option maxRecDepth 65536 in
set_option maxHeartbeats 40000000 in
theorem c_parse2 (l : Launch) (Z : State) (a0 : Array Value) (hw : ∀ d ∈ tables_1, d.before a0 Z = true) (hEL : EW Z a0 EL) (h0 : Heap) (z : Int32) (S : Sta Z h0 "java/lang/String" "COMPACT_STRINGS" "Z" (.int z)) (hz : ¬ z = 0) (al de : Addr) (kd : ClassId) (SD : Sta Z h0 "java/util/ArrayList" "DEFAULTCAPACITY_EMPTY_ELEMENTDATA" "[Ljava/lang/Object;" (.ref de)) (Bd : Ow.AL Z h0 de kd (.object "java/lang/Object") []) (ea : Addr) (ka : ClassId) (y0 t0 : Addr) (k0 : ClassId) (bs0 : List Int32) (St0 : Ow.Str Z h0 y0 t0 k0 bs0) (hl0 : bs0.length ≤ 3) (hp0 : own_np bs0) (y1 t1 : Addr) (k1 : ClassId) (bs1 : List Int32) (St1 : Ow.Str Z h0 y1 t1 k1 bs1) (hl1 : bs1.length ≤ 3) (hp1 : own_np bs1) (A1 : own_L Z h0 al ea ka 2 [.ref y0, .ref y1, .null, .null, .null, .null, .null, .null, .null, .null]) : Ow.PayW l Z EL [] (⟨"com/example/rowgate/rowgate/Options", "parse", "(Ljava/util/List;Ljava/util/Set;)Lcom/example/rowgate/rowgate/Options;"⟩ : MethodName) prog_10_method_2_code 6 (some (.object "com/example/rowgate/rowgate/Options")) ({ frames := 5, cells := 12, slots := 100, locals := 120 } : Room) #[(.ref al), (.null)] h0 (fun v h L => ∃ o hm al2, v = some (.ref o) ∧ Ow.Eff h0 h [] L ∧ Exa Z h o "com/example/rowgate/rowgate/Options" ∧ Fld Z h o "com/example/rowgate/rowgate/Options" "values" "Ljava/util/Map;" (.ref hm) ∧ Fld Z h o "com/example/rowgate/rowgate/Options" "arguments" "Ljava/util/List;" (.ref al2) ∧ Exa Z h hm "java/util/HashMap" ∧ Fld Z h hm "java/util/HashMap" "table" "[Ljava/util/HashMap$Node;" .null ∧ (∃ ed ke, own_L Z h al2 ed ke 2 [.ref y0, .ref y1, .null, .null, .null, .null, .null, .null, .null, .null])) := by
  refine Ow.PayW.of (Ls := #[.val (.ref al), .val (.null), .unset, .unset, .unset, .unset]) (plainFor_of_name pn11) (fun m => by first | rfl | (simp [entryFrame, mkF, argsToLocals, Value.category]; done)) ?_
  intro p e s m below meth c T vm0 hx hby hml hown hnm hme hret hlk X eT D hsf
  have F := Ow.Eff.refl h0 []
  have wS : ∀ a ∈ Bundle.stringAtoms, a.before a0 Z = true := fun d hd => hw d ((by decide +kernel : ∀ d ∈ Bundle.stringAtoms, d ∈ tables_1) d hd)
  refine Ow.new_ X hx D.hZ hown (ww hw 96 rfl) (ww hw 97 rfl) (ww hw 98 rfl) eT (pc := 0) (hb hby d15_0) (by decide) (by decide) ?_
  intro T h_hm hm ha_hm X eT E_hm A_hm D_hm U_hm
  have l_hm : h0.size ≤ hm := by rw [ha_hm]; exact F.size
  have ne_de_hm : de ≠ hm := by rw [ha_hm]; exact Nat.ne_of_lt Bd.lt
  have ne_y0_hm : y0 ≠ hm := by rw [ha_hm]; exact Nat.ne_of_lt St0.lt
  have ne_t0_hm : t0 ≠ hm := by rw [ha_hm]; exact Nat.ne_of_lt St0.ltB
  have ne_y1_hm : y1 ≠ hm := by rw [ha_hm]; exact Nat.ne_of_lt St1.lt
  have ne_t1_hm : t1 ≠ hm := by rw [ha_hm]; exact Nat.ne_of_lt St1.ltB
  have ne_al_hm : al ≠ hm := by rw [ha_hm]; exact Nat.ne_of_lt A1.lt
  have ne_ea_hm : ea ≠ hm := by rw [ha_hm]; exact Nat.ne_of_lt A1.ltB
  have S_hm := D.safeNew E_hm
  rw [← ha_hm] at S_hm
  have S := S.ext E_hm
  have SD := SD.ext E_hm
  have Bd := Bd.ext E_hm
  have St0 := St0.ext E_hm
  have St1 := St1.ext E_hm
  have A1 := A1.ext E_hm
  have F := F.ext E_hm
  have D := D.ext E_hm
  have Ft := D_hm (Or.inl (ww hw 220 rfl)) (ty := .array (.object "java/util/HashMap$Node")) (by decide)
  have Fl := D_hm (Or.inr (ww hw 111 rfl)) (ty := .float) (by decide)
  have P1 := Ow.Exa.plain A_hm
  refine Ow.dup X hx (pc := 3) (hb hby d15_3) rfl ?_
  refine Ow.callI X hx D.hZ (c_hminit l Z a0 hw _ hm A_hm Ft Fl) eT rfl hown (ww hw 99 rfl) (ww hw 100 rfl) (ww hw 98 rfl) (ww hw 101 rfl) (by decide) pd0 (by rw [hml]; rfl) (argsL := []) rfl rfl rfl (pc := 4) (hb hby d15_4) rfl rfl (by decide) (by decide) ?_
  rintro _ T L X ⟨rfl, F2, A_hm, Ft⟩
  dsimp only [Option.toList_some, Option.toList_none, List.cons_append, List.nil_append]
  have F := F.call F2 (fun y hy => by cases List.mem_singleton.mp hy; exact Or.inr l_hm)
  have D := D.keep F2.1 (fun y hy => by cases List.mem_singleton.mp hy; exact S_hm)
  have S := Ow.staKeep S F2.1 (fun y hy => by cases List.mem_singleton.mp hy; exact P1)
  have SD := Ow.staKeep SD F2.1 (fun y hy => by cases List.mem_singleton.mp hy; exact P1)
  have Bd := Bd.keep F2.1 (Ow.nin1 ne_de_hm)
  have St0 := St0.keep F2.1 (Ow.nin1 ne_y0_hm) (Ow.nin1 ne_t0_hm)
  have St1 := St1.keep F2.1 (Ow.nin1 ne_y1_hm) (Ow.nin1 ne_t1_hm)
  have A1 := A1.keep F2.1 (Ow.nin1 ne_al_hm) (Ow.nin1 ne_ea_hm)
  obtain ⟨h_4, e_4⟩ : ∃ q, q = T.heap := ⟨_, rfl⟩
  rw [← e_4] at F D S SD Bd St0 St1 A1 A_hm Ft
  have eT : T.heap = h_4 := e_4.symm
  refine Ow.astoreN X hx (pc := 7) #[_, _, _, _, _, _] (hb hby d15_7) rfl rfl ?_
  refine Ow.new_ X hx D.hZ hown (ww hw 112 rfl) (ww hw 38 rfl) (ww hw 39 rfl) eT (pc := 8) (hb hby d15_8) (by decide) (by decide) ?_
  intro T h_al2 al2 ha_al2 X eT E_al2 A_al2 D_al2 U_al2
  have l_al2 : h0.size ≤ al2 := by rw [ha_al2]; exact F.size
  have ne_de_al2 : de ≠ al2 := by rw [ha_al2]; exact Nat.ne_of_lt Bd.lt
  have ne_y0_al2 : y0 ≠ al2 := by rw [ha_al2]; exact Nat.ne_of_lt St0.lt
  have ne_t0_al2 : t0 ≠ al2 := by rw [ha_al2]; exact Nat.ne_of_lt St0.ltB
  have ne_y1_al2 : y1 ≠ al2 := by rw [ha_al2]; exact Nat.ne_of_lt St1.lt
  have ne_t1_al2 : t1 ≠ al2 := by rw [ha_al2]; exact Nat.ne_of_lt St1.ltB
  have ne_al_al2 : al ≠ al2 := by rw [ha_al2]; exact Nat.ne_of_lt A1.lt
  have ne_ea_al2 : ea ≠ al2 := by rw [ha_al2]; exact Nat.ne_of_lt A1.ltB
  have ne_hm_al2 : hm ≠ al2 := by rw [ha_al2]; exact Nat.ne_of_lt A_hm.lt
  have S_al2 := D.safeNew E_al2
  rw [← ha_al2] at S_al2
  have S := S.ext E_al2
  have SD := SD.ext E_al2
  have Bd := Bd.ext E_al2
  have St0 := St0.ext E_al2
  have St1 := St1.ext E_al2
  have A1 := A1.ext E_al2
  have A_hm := A_hm.ext E_al2
  have Ft := Ft.ext E_al2
  have F := F.ext E_al2
  have D := D.ext E_al2
  have Z_elementData := D_al2 (Or.inl (ww hw 60 rfl)) (ty := (.array (.object "java/lang/Object"))) (by decide)
  have Z_size := D_al2 (Or.inl (ww hw 69 rfl)) (ty := .int) (by decide)
  have Z_modCount := D_al2 (Or.inl (ww hw 57 rfl)) (ty := .int) (by decide)
  have P1 := Ow.Exa.plain A_al2
  refine Ow.dup X hx (pc := 11) (hb hby d15_11) rfl ?_
  refine Ow.callI X hx D.hZ (c_arinit l Z a0 hw _ al2 A_al2 Z_elementData Z_size Z_modCount de kd SD Bd ne_de_al2) eT rfl hown (ww hw 113 rfl) (ww hw 41 rfl) (ww hw 39 rfl) (ww hw 42 rfl) (by decide) pd0 (by rw [hml]; rfl) (argsL := []) rfl rfl rfl (pc := 12) (hb hby d15_12) rfl rfl (by decide) (by decide) ?_
  rintro _ T L X ⟨rfl, F2, A2⟩
  dsimp only [Option.toList_some, Option.toList_none, List.cons_append, List.nil_append]
  have F := F.call F2 (fun y hy => by cases List.mem_singleton.mp hy; exact Or.inr l_al2)
  have D := D.keep F2.1 (fun y hy => by cases List.mem_singleton.mp hy; exact S_al2)
  have S := Ow.staKeep S F2.1 (fun y hy => by cases List.mem_singleton.mp hy; exact P1)
  have SD := Ow.staKeep SD F2.1 (fun y hy => by cases List.mem_singleton.mp hy; exact P1)
  have Bd := Bd.keep F2.1 (Ow.nin1 ne_de_al2)
  have St0 := St0.keep F2.1 (Ow.nin1 ne_y0_al2) (Ow.nin1 ne_t0_al2)
  have St1 := St1.keep F2.1 (Ow.nin1 ne_y1_al2) (Ow.nin1 ne_t1_al2)
  have A1 := A1.keep F2.1 (Ow.nin1 ne_al_al2) (Ow.nin1 ne_ea_al2)
  have A_hm := A_hm.keep F2.1
  have Ft := Ft.keep F2.1 (Ow.nin1 ne_hm_al2)
  obtain ⟨h_12, e_12⟩ : ∃ q, q = T.heap := ⟨_, rfl⟩
  rw [← e_12] at F D S SD Bd St0 St1 A1 A_hm Ft A2
  have eT : T.heap = h_12 := e_12.symm
  refine Ow.astoreN X hx (pc := 15) #[_, _, _, _, _, _] (hb hby d15_15) rfl rfl ?_
  refine Ow.iconst X hx (pc := 16) (0) (hb hby d15_16) (by decide) ?_
  refine Ow.istore X hx (pc := 17) #[_, _, _, _, _, _] (hb hby d15_17) rfl ?_
  refine Ow.iload X hx (pc := 19) (hb hby d15_19) rfl ?_
  refine Ow.aloadN X hx (pc := 21) (hb hby d15_21) rfl rfl ?_
  refine Ow.callFP X hx D.hZ (c_size l Z a0 hw _ al _ A1.2.2.1) rfl rfl eT hown (ww hw 114 rfl) (ww hw 115 rfl) (ww hw 117 rfl) (ww hw 118 rfl) (ww hw 116 rfl) (ww hw 119 rfl) (ww hw 120 rfl) (ww hw 121 rfl) (ww hw 39 rfl) (ww hw 122 rfl) (by decide) pd14 (by rw [hml]; rfl) A1.1 (argsL := []) rfl rfl rfl (pc := 22) (hb hby d15_22) rfl rfl (by decide) (by decide) ?_
  intro T X eT
  dsimp only [Option.toList_some, Option.toList_none, List.cons_append, List.nil_append]
  refine Ow.icmp_ge X hx (pc := 27) (pc' := 161) (hb hby d15_27) (by decide) (by decide) (fun q => absurd (by decide) q) (fun h27 => ?_)
  refine Ow.aloadN X hx (pc := 30) (hb hby d15_30) rfl rfl ?_
  refine Ow.iload X hx (pc := 31) (hb hby d15_31) rfl ?_
  refine Ow.callFP X hx D.hZ (c_get l Z a0 hw _ al ea ka 2 _ A1 0 y0 rfl (by decide) (by decide)) rfl rfl eT hown (ww hw 123 rfl) (ww hw 124 rfl) (ww hw 126 rfl) (ww hw 127 rfl) (ww hw 125 rfl) (ww hw 128 rfl) (ww hw 129 rfl) (ww hw 121 rfl) (ww hw 39 rfl) (ww hw 130 rfl) (by decide) pd9 (by rw [hml]; rfl) A1.1 (argsL := [_]) rfl rfl rfl (pc := 33) (hb hby d15_33) rfl rfl (by decide) (by decide) ?_
  intro T X eT
  dsimp only [Option.toList_some, Option.toList_none, List.cons_append, List.nil_append]
  refine Ow.checkcast X hx D.hZ hown (ww hw 144 rfl) eT (Ins.self St0.1) (pc := 38) (hb hby d15_38) ?_
  intro T X eT
  refine Ow.astore X hx (pc := 41) #[_, _, _, _, _, _] (hb hby d15_41) rfl rfl ?_
  refine Ow.aload X hx (pc := 43) (hb hby d15_43) rfl rfl ?_
  refine Ow.ldcS X hx eT D hEL hown (ww hw 145 rfl) wS (by decide) (vs := [.int 45, .int 45]) (z := 2) (by decide) (by decide) (by decide) (pc := 45) (hb hby d15_45) 8 (by decide) (by decide) (by decide) (by decide) ?_
  intro vm_l0 a_l0 T h_l0 b_l0 k_l0 X eT E_l0 D hown C_l0 A_l0 Fc_l0 Fv_l0 V_l0 ne_l0
  have S := S.ext E_l0
  have SD := SD.ext E_l0
  have Bd := Bd.ext E_l0
  have St0 := St0.ext E_l0
  have St1 := St1.ext E_l0
  have A1 := A1.ext E_l0
  have A_hm := A_hm.ext E_l0
  have Ft := Ft.ext E_l0
  have A2 := A2.ext E_l0
  have F := F.ext E_l0
  have Sq : Ow.Str Z h_l0 a_l0 b_l0 k_l0 [45, 45] := ⟨A_l0, Fc_l0, Fv_l0, Ow.AL.of_arv V_l0 rfl⟩
  refine Ow.callVP X hx D.hZ (c_sw l Z a0 hw _ z S hz y0 t0 a_l0 b_l0 _ _ bs0 St0 Sq hl0 hp0) rfl rfl eT hown (ww hw 146 rfl) (ww hw 147 rfl) (ww hw 149 rfl) (ww hw 148 rfl) (ww hw 6 rfl) (ww hw 150 rfl) (by decide) pd21 (by rw [hml]; rfl) St0.1 (argsL := [_]) rfl rfl rfl (pc := 47) (hb hby d15_47) rfl rfl (by decide) (by decide) ?_   -- java/lang/String.startsWith:(Ljava/lang/String;)Z
  intro T X eT
  dsimp only [Option.toList_some, Option.toList_none, List.cons_append, List.nil_append]
  refine Ow.if_ne X hx (pc := 50) (pc' := 65) (hb hby d15_50) (by decide) (by decide) (fun q => absurd rfl q) (fun h50 => ?_)
  refine Ow.aloadN X hx (pc := 53) (hb hby d15_53) rfl rfl ?_
  refine Ow.aload X hx (pc := 54) (hb hby d15_54) rfl rfl ?_
  have h_al2 := A2.lt
  have P1 := Ow.Exa.plain A2.1
  have Q1 : Safe Z EL _ _ al2 := Safe.exa D.hZ.alike A2.1 (by decide) (by decide)
  refine Ow.callF X hx D.hZ (c_addE l Z a0 hw _ al2 de kd A2 SD ne_de_al2 y0 St0.1) eT hown (ww hw 166 rfl) (ww hw 167 rfl) (ww hw 169 rfl) (ww hw 63 rfl) (ww hw 168 rfl) (ww hw 170 rfl) (ww hw 171 rfl) (ww hw 121 rfl) (ww hw 39 rfl) (ww hw 65 rfl) (by decide) pd22 (by rw [hml]; rfl) A2.1 (argsL := [_]) rfl rfl rfl (pc := 56) (hb hby d15_56) rfl rfl (by decide) (by decide) ?_
  rintro _ T L X ⟨rfl, F2, ed2, ke2, l_ed2, A2⟩
  dsimp only [Option.toList_some, Option.toList_none, List.cons_append, List.nil_append]
  have ne_de_ed2 : de ≠ ed2 := Nat.ne_of_lt (Nat.lt_of_lt_of_le Bd.lt l_ed2)
  have ne_y0_ed2 : y0 ≠ ed2 := Nat.ne_of_lt (Nat.lt_of_lt_of_le St0.lt l_ed2)
  have ne_t0_ed2 : t0 ≠ ed2 := Nat.ne_of_lt (Nat.lt_of_lt_of_le St0.ltB l_ed2)
  have ne_y1_ed2 : y1 ≠ ed2 := Nat.ne_of_lt (Nat.lt_of_lt_of_le St1.lt l_ed2)
  have ne_t1_ed2 : t1 ≠ ed2 := Nat.ne_of_lt (Nat.lt_of_lt_of_le St1.ltB l_ed2)
  have ne_al_ed2 : al ≠ ed2 := Nat.ne_of_lt (Nat.lt_of_lt_of_le A1.lt l_ed2)
  have ne_ea_ed2 : ea ≠ ed2 := Nat.ne_of_lt (Nat.lt_of_lt_of_le A1.ltB l_ed2)
  have ne_hm_ed2 : hm ≠ ed2 := Nat.ne_of_lt (Nat.lt_of_lt_of_le A_hm.lt l_ed2)
  have ne_al2_ed2 : al2 ≠ ed2 := Nat.ne_of_lt (Nat.lt_of_lt_of_le h_al2 l_ed2)
  have l_ed2 := Nat.le_trans F.size l_ed2
  have F := F.call F2 (fun y hy => by cases List.mem_singleton.mp hy; exact Or.inr l_al2)
  have D := D.keep F2.1 (fun y hy => by cases List.mem_singleton.mp hy; exact Q1)
  have S := Ow.staKeep S F2.1 (fun y hy => by cases List.mem_singleton.mp hy; exact P1)
  have SD := Ow.staKeep SD F2.1 (fun y hy => by cases List.mem_singleton.mp hy; exact P1)
  have Bd := Bd.keep F2.1 (Ow.nin1 ne_de_al2)
  have St0 := St0.keep F2.1 (Ow.nin1 ne_y0_al2) (Ow.nin1 ne_t0_al2)
  have St1 := St1.keep F2.1 (Ow.nin1 ne_y1_al2) (Ow.nin1 ne_t1_al2)
  have A1 := A1.keep F2.1 (Ow.nin1 ne_al_al2) (Ow.nin1 ne_ea_al2)
  have A_hm := A_hm.keep F2.1
  have Ft := Ft.keep F2.1 (Ow.nin1 ne_hm_al2)
  obtain ⟨h_56_0, e_56_0⟩ : ∃ q, q = T.heap := ⟨_, rfl⟩
  rw [← e_56_0] at F D S SD Bd St0 St1 A1 A_hm Ft A2
  have eT : T.heap = h_56_0 := e_56_0.symm
  refine Ow.pop X hx (pc := 61) (hb hby d15_61) rfl ?_
  refine Ow.goto X hx (pc := 62) (pc' := 155) (hb hby d15_62) (by decide) (by decide) ?_
  refine Ow.iinc X hx (pc := 155) (1) #[_, _, _, _, _, _] (hb hby d15_155) (by decide) rfl rfl ?_
  rw [show (0 + 1 : Int32) = 1 from by decide]
  refine Ow.goto X hx (pc := 158) (pc' := 19) (hb hby d15_158) (by decide) (by decide) ?_
  refine Ow.iload X hx (pc := 19) (hb hby d15_19) rfl ?_
  refine Ow.aloadN X hx (pc := 21) (hb hby d15_21) rfl rfl ?_
  refine Ow.callFP X hx D.hZ (c_size l Z a0 hw _ al _ A1.2.2.1) rfl rfl eT hown (ww hw 114 rfl) (ww hw 115 rfl) (ww hw 117 rfl) (ww hw 118 rfl) (ww hw 116 rfl) (ww hw 119 rfl) (ww hw 120 rfl) (ww hw 121 rfl) (ww hw 39 rfl) (ww hw 122 rfl) (by decide) pd14 (by rw [hml]; rfl) A1.1 (argsL := []) rfl rfl rfl (pc := 22) (hb hby d15_22) rfl rfl (by decide) (by decide) ?_
  intro T X eT
  dsimp only [Option.toList_some, Option.toList_none, List.cons_append, List.nil_append]
  refine Ow.icmp_ge X hx (pc := 27) (pc' := 161) (hb hby d15_27) (by decide) (by decide) (fun q => absurd (by decide) q) (fun h27 => ?_)
  refine Ow.aloadN X hx (pc := 30) (hb hby d15_30) rfl rfl ?_
  refine Ow.iload X hx (pc := 31) (hb hby d15_31) rfl ?_
  refine Ow.callFP X hx D.hZ (c_get l Z a0 hw _ al ea ka 2 _ A1 1 y1 rfl (by decide) (by decide)) rfl rfl eT hown (ww hw 123 rfl) (ww hw 124 rfl) (ww hw 126 rfl) (ww hw 127 rfl) (ww hw 125 rfl) (ww hw 128 rfl) (ww hw 129 rfl) (ww hw 121 rfl) (ww hw 39 rfl) (ww hw 130 rfl) (by decide) pd9 (by rw [hml]; rfl) A1.1 (argsL := [_]) rfl rfl rfl (pc := 33) (hb hby d15_33) rfl rfl (by decide) (by decide) ?_
  intro T X eT
  dsimp only [Option.toList_some, Option.toList_none, List.cons_append, List.nil_append]
  refine Ow.checkcast X hx D.hZ hown (ww hw 144 rfl) eT (Ins.self St1.1) (pc := 38) (hb hby d15_38) ?_
  intro T X eT
  refine Ow.astore X hx (pc := 41) #[_, _, _, _, _, _] (hb hby d15_41) rfl rfl ?_
  refine Ow.aload X hx (pc := 43) (hb hby d15_43) rfl rfl ?_
  refine Ow.ldcS X hx eT D hEL hown (ww hw 145 rfl) wS (by decide) (vs := [.int 45, .int 45]) (z := 2) (by decide) (by decide) (by decide) (pc := 45) (hb hby d15_45) 8 (by decide) (by decide) (by decide) (by decide) ?_
  intro vm_l1 a_l1 T h_l1 b_l1 k_l1 X eT E_l1 D hown C_l1 A_l1 Fc_l1 Fv_l1 V_l1 ne_l1
  have S := S.ext E_l1
  have SD := SD.ext E_l1
  have Bd := Bd.ext E_l1
  have St0 := St0.ext E_l1
  have St1 := St1.ext E_l1
  have A1 := A1.ext E_l1
  have A_hm := A_hm.ext E_l1
  have Ft := Ft.ext E_l1
  have A2 := A2.ext E_l1
  have F := F.ext E_l1
  have Sq : Ow.Str Z h_l1 a_l1 b_l1 k_l1 [45, 45] := ⟨A_l1, Fc_l1, Fv_l1, Ow.AL.of_arv V_l1 rfl⟩
  refine Ow.callVP X hx D.hZ (c_sw l Z a0 hw _ z S hz y1 t1 a_l1 b_l1 _ _ bs1 St1 Sq hl1 hp1) rfl rfl eT hown (ww hw 146 rfl) (ww hw 147 rfl) (ww hw 149 rfl) (ww hw 148 rfl) (ww hw 6 rfl) (ww hw 150 rfl) (by decide) pd21 (by rw [hml]; rfl) St1.1 (argsL := [_]) rfl rfl rfl (pc := 47) (hb hby d15_47) rfl rfl (by decide) (by decide) ?_   -- java/lang/String.startsWith:(Ljava/lang/String;)Z
  intro T X eT
  dsimp only [Option.toList_some, Option.toList_none, List.cons_append, List.nil_append]
  refine Ow.if_ne X hx (pc := 50) (pc' := 65) (hb hby d15_50) (by decide) (by decide) (fun q => absurd rfl q) (fun h50 => ?_)
  refine Ow.aloadN X hx (pc := 53) (hb hby d15_53) rfl rfl ?_
  refine Ow.aload X hx (pc := 54) (hb hby d15_54) rfl rfl ?_
  have h_al2 := A2.lt
  have P1 := Ow.Exa.plain A2.1
  have Q1 : Safe Z EL _ _ al2 := Safe.exa D.hZ.alike A2.1 (by decide) (by decide)
  have P2 := Ow.AL.plain A2.2.2.2.2.1
  have Q2 : Safe Z EL _ _ ed2 := A2.2.2.2.2.1.safe D.hZ.alike (by decide)
  refine Ow.callF X hx D.hZ (c_addL1 l Z a0 hw _ al2 ed2 ke2 y0 A2 ne_al2_ed2 y1 St1.1) eT hown (ww hw 166 rfl) (ww hw 167 rfl) (ww hw 169 rfl) (ww hw 63 rfl) (ww hw 168 rfl) (ww hw 170 rfl) (ww hw 171 rfl) (ww hw 121 rfl) (ww hw 39 rfl) (ww hw 65 rfl) (by decide) pd22 (by rw [hml]; rfl) A2.1 (argsL := [_]) rfl rfl rfl (pc := 56) (hb hby d15_56) rfl rfl (by decide) (by decide) ?_
  rintro _ T L X ⟨rfl, F2, A2⟩
  dsimp only [Option.toList_some, Option.toList_none, List.cons_append, List.nil_append]
  have F := F.call F2 (fun y hy => by
    simp only [List.mem_cons, List.not_mem_nil, or_false] at hy
    rcases hy with rfl | rfl
    · exact Or.inr l_al2
    · exact Or.inr l_ed2)
  have D := D.keep F2.1 (fun y hy => by
    simp only [List.mem_cons, List.not_mem_nil, or_false] at hy
    rcases hy with rfl | rfl
    · exact Q1
    · exact Q2)
  have hpl : ∀ y ∈ [al2, ed2], ∃ c : Cell, h_l1[y]? = some c ∧ c.vm.isStatics = false := fun y hy => by
    simp only [List.mem_cons, List.not_mem_nil, or_false] at hy
    rcases hy with rfl | rfl
    · exact P1
    · exact P2
  have S := Ow.staKeep S F2.1 (fun y hy => hpl y hy)
  have SD := Ow.staKeep SD F2.1 (fun y hy => hpl y hy)
  have Bd := Bd.keep F2.1 (ninS ne_de_al2 (Ow.nin1 ne_de_ed2))
  have St0 := St0.keep F2.1 (ninS ne_y0_al2 (Ow.nin1 ne_y0_ed2)) (ninS ne_t0_al2 (Ow.nin1 ne_t0_ed2))
  have St1 := St1.keep F2.1 (ninS ne_y1_al2 (Ow.nin1 ne_y1_ed2)) (ninS ne_t1_al2 (Ow.nin1 ne_t1_ed2))
  have A1 := A1.keep F2.1 (ninS ne_al_al2 (Ow.nin1 ne_al_ed2)) (ninS ne_ea_al2 (Ow.nin1 ne_ea_ed2))
  have A_hm := A_hm.keep F2.1
  have Ft := Ft.keep F2.1 (ninS ne_hm_al2 (Ow.nin1 ne_hm_ed2))
  obtain ⟨h_56_1, e_56_1⟩ : ∃ q, q = T.heap := ⟨_, rfl⟩
  rw [← e_56_1] at F D S SD Bd St0 St1 A1 A_hm Ft A2
  have eT : T.heap = h_56_1 := e_56_1.symm
  refine Ow.pop X hx (pc := 61) (hb hby d15_61) rfl ?_
  refine Ow.goto X hx (pc := 62) (pc' := 155) (hb hby d15_62) (by decide) (by decide) ?_
  refine Ow.iinc X hx (pc := 155) (1) #[_, _, _, _, _, _] (hb hby d15_155) (by decide) rfl rfl ?_
  rw [show (1 + 1 : Int32) = 2 from by decide]
  refine Ow.goto X hx (pc := 158) (pc' := 19) (hb hby d15_158) (by decide) (by decide) ?_
  refine Ow.iload X hx (pc := 19) (hb hby d15_19) rfl ?_
  refine Ow.aloadN X hx (pc := 21) (hb hby d15_21) rfl rfl ?_
  refine Ow.callFP X hx D.hZ (c_size l Z a0 hw _ al _ A1.2.2.1) rfl rfl eT hown (ww hw 114 rfl) (ww hw 115 rfl) (ww hw 117 rfl) (ww hw 118 rfl) (ww hw 116 rfl) (ww hw 119 rfl) (ww hw 120 rfl) (ww hw 121 rfl) (ww hw 39 rfl) (ww hw 122 rfl) (by decide) pd14 (by rw [hml]; rfl) A1.1 (argsL := []) rfl rfl rfl (pc := 22) (hb hby d15_22) rfl rfl (by decide) (by decide) ?_
  intro T X eT
  dsimp only [Option.toList_some, Option.toList_none, List.cons_append, List.nil_append]
  refine Ow.icmp_ge X hx (pc := 27) (pc' := 161) (hb hby d15_27) (by decide) (by decide) (fun h27 => ?_) (fun q => absurd q (by decide))
  refine Ow.new_ X hx D.hZ hown (ww hw 172 rfl) (ww hw 173 rfl) (ww hw 94 rfl) eT (pc := 161) (hb hby d15_161) (by decide) (by decide) ?_
  intro T h_o o ha_o X eT E_o A_o D_o U_o
  have l_o : h0.size ≤ o := by rw [ha_o]; exact F.size
  have ne_de_o : de ≠ o := by rw [ha_o]; exact Nat.ne_of_lt Bd.lt
  have ne_y0_o : y0 ≠ o := by rw [ha_o]; exact Nat.ne_of_lt St0.lt
  have ne_t0_o : t0 ≠ o := by rw [ha_o]; exact Nat.ne_of_lt St0.ltB
  have ne_y1_o : y1 ≠ o := by rw [ha_o]; exact Nat.ne_of_lt St1.lt
  have ne_t1_o : t1 ≠ o := by rw [ha_o]; exact Nat.ne_of_lt St1.ltB
  have ne_al_o : al ≠ o := by rw [ha_o]; exact Nat.ne_of_lt A1.lt
  have ne_ea_o : ea ≠ o := by rw [ha_o]; exact Nat.ne_of_lt A1.ltB
  have ne_hm_o : hm ≠ o := by rw [ha_o]; exact Nat.ne_of_lt A_hm.lt
  have ne_al2_o : al2 ≠ o := by rw [ha_o]; exact Nat.ne_of_lt A2.lt
  have ne_ed2_o : ed2 ≠ o := by rw [ha_o]; exact Nat.ne_of_lt A2.ltB
  have S_o := D.safeNew E_o
  rw [← ha_o] at S_o
  have S := S.ext E_o
  have SD := SD.ext E_o
  have Bd := Bd.ext E_o
  have St0 := St0.ext E_o
  have St1 := St1.ext E_o
  have A1 := A1.ext E_o
  have A_hm := A_hm.ext E_o
  have Ft := Ft.ext E_o
  have A2 := A2.ext E_o
  have F := F.ext E_o
  have D := D.ext E_o
  have Z1 := D_o (Or.inr (ww hw 179 rfl)) (ty := .object "java/util/Map") (by decide)
  have Z2 := D_o (Or.inr (ww hw 181 rfl)) (ty := .object "java/util/List") (by decide)
  have P1 := Ow.Exa.plain A_o
  refine Ow.dup X hx (pc := 164) (hb hby d15_164) rfl ?_
  refine Ow.aloadN X hx (pc := 165) (hb hby d15_165) rfl rfl ?_
  refine Ow.aloadN X hx (pc := 166) (hb hby d15_166) rfl rfl ?_
  refine Ow.callI X hx D.hZ (c_oinit l Z a0 hw _ o hm al2 A_o Z1 Z2) eT rfl hown (ww hw 174 rfl) (ww hw 175 rfl) (ww hw 94 rfl) (ww hw 176 rfl) (by decide) pd20 (by rw [hml]; rfl) (argsL := [_, _]) rfl rfl rfl (pc := 167) (hb hby d15_167) rfl rfl (by decide) (by decide) ?_
  rintro _ T L X ⟨rfl, F2, A_o, Fv, Fa⟩
  dsimp only [Option.toList_some, Option.toList_none, List.cons_append, List.nil_append]
  have F := F.call F2 (fun y hy => by cases List.mem_singleton.mp hy; exact Or.inr l_o)
  have D := D.keep F2.1 (fun y hy => by cases List.mem_singleton.mp hy; exact S_o)
  have S := Ow.staKeep S F2.1 (fun y hy => by cases List.mem_singleton.mp hy; exact P1)
  have SD := Ow.staKeep SD F2.1 (fun y hy => by cases List.mem_singleton.mp hy; exact P1)
  have Bd := Bd.keep F2.1 (Ow.nin1 ne_de_o)
  have St0 := St0.keep F2.1 (Ow.nin1 ne_y0_o) (Ow.nin1 ne_t0_o)
  have St1 := St1.keep F2.1 (Ow.nin1 ne_y1_o) (Ow.nin1 ne_t1_o)
  have A1 := A1.keep F2.1 (Ow.nin1 ne_al_o) (Ow.nin1 ne_ea_o)
  have A_hm := A_hm.keep F2.1
  have Ft := Ft.keep F2.1 (Ow.nin1 ne_hm_o)
  have A2 := A2.keep F2.1 (Ow.nin1 ne_al2_o) (Ow.nin1 ne_ed2_o)
  obtain ⟨h_167, e_167⟩ : ∃ q, q = T.heap := ⟨_, rfl⟩
  rw [← e_167] at F D S SD Bd St0 St1 A1 A_hm Ft A2 A_o Fv Fa
  have eT : T.heap = h_167 := e_167.symm
  exact Ow.areturnW X hx eT D hEL hlk hret rfl rfl rfl (hb hby d15_170) ⟨o, hm, al2, rfl, by rw [eT]; exact F, by rw [eT]; exact A_o, by rw [eT]; exact Fv, by rw [eT]; exact Fa, by rw [eT]; exact A_hm, by rw [eT]; exact Ft, by rw [eT]; exact ⟨ed2, ke2, A2⟩⟩ (by decide) (by decide)
set_option maxRecDepth 65536 in
set_option maxHeartbeats 40000000 in
theorem c_parse3 (l : Launch) (Z : State) (a0 : Array Value) (hw : ∀ d ∈ tables_1, d.before a0 Z = true) (hEL : EW Z a0 EL) (h0 : Heap) (z : Int32) (S : Sta Z h0 "java/lang/String" "COMPACT_STRINGS" "Z" (.int z)) (hz : ¬ z = 0) (al de : Addr) (kd : ClassId) (SD : Sta Z h0 "java/util/ArrayList" "DEFAULTCAPACITY_EMPTY_ELEMENTDATA" "[Ljava/lang/Object;" (.ref de)) (Bd : Ow.AL Z h0 de kd (.object "java/lang/Object") []) (ea : Addr) (ka : ClassId) (y0 t0 : Addr) (k0 : ClassId) (bs0 : List Int32) (St0 : Ow.Str Z h0 y0 t0 k0 bs0) (hl0 : bs0.length ≤ 3) (hp0 : own_np bs0) (y1 t1 : Addr) (k1 : ClassId) (bs1 : List Int32) (St1 : Ow.Str Z h0 y1 t1 k1 bs1) (hl1 : bs1.length ≤ 3) (hp1 : own_np bs1) (y2 t2 : Addr) (k2 : ClassId) (bs2 : List Int32) (St2 : Ow.Str Z h0 y2 t2 k2 bs2) (hl2 : bs2.length ≤ 3) (hp2 : own_np bs2) (A1 : own_L Z h0 al ea ka 3 [.ref y0, .ref y1, .ref y2, .null, .null, .null, .null, .null, .null, .null]) : Ow.PayW l Z EL [] (⟨"com/example/rowgate/rowgate/Options", "parse", "(Ljava/util/List;Ljava/util/Set;)Lcom/example/rowgate/rowgate/Options;"⟩ : MethodName) prog_10_method_2_code 6 (some (.object "com/example/rowgate/rowgate/Options")) ({ frames := 5, cells := 12, slots := 100, locals := 120 } : Room) #[(.ref al), (.null)] h0 (fun v h L => ∃ o hm al2, v = some (.ref o) ∧ Ow.Eff h0 h [] L ∧ Exa Z h o "com/example/rowgate/rowgate/Options" ∧ Fld Z h o "com/example/rowgate/rowgate/Options" "values" "Ljava/util/Map;" (.ref hm) ∧ Fld Z h o "com/example/rowgate/rowgate/Options" "arguments" "Ljava/util/List;" (.ref al2) ∧ Exa Z h hm "java/util/HashMap" ∧ Fld Z h hm "java/util/HashMap" "table" "[Ljava/util/HashMap$Node;" .null ∧ (∃ ed ke, own_L Z h al2 ed ke 3 [.ref y0, .ref y1, .ref y2, .null, .null, .null, .null, .null, .null, .null])) := by
  refine Ow.PayW.of (Ls := #[.val (.ref al), .val (.null), .unset, .unset, .unset, .unset]) (plainFor_of_name pn11) (fun m => by first | rfl | (simp [entryFrame, mkF, argsToLocals, Value.category]; done)) ?_
  intro p e s m below meth c T vm0 hx hby hml hown hnm hme hret hlk X eT D hsf
  have F := Ow.Eff.refl h0 []
  have wS : ∀ a ∈ Bundle.stringAtoms, a.before a0 Z = true := fun d hd => hw d ((by decide +kernel : ∀ d ∈ Bundle.stringAtoms, d ∈ tables_1) d hd)
  refine Ow.new_ X hx D.hZ hown (ww hw 96 rfl) (ww hw 97 rfl) (ww hw 98 rfl) eT (pc := 0) (hb hby d15_0) (by decide) (by decide) ?_
  intro T h_hm hm ha_hm X eT E_hm A_hm D_hm U_hm
  have l_hm : h0.size ≤ hm := by rw [ha_hm]; exact F.size
  have ne_de_hm : de ≠ hm := by rw [ha_hm]; exact Nat.ne_of_lt Bd.lt
  have ne_y0_hm : y0 ≠ hm := by rw [ha_hm]; exact Nat.ne_of_lt St0.lt
  have ne_t0_hm : t0 ≠ hm := by rw [ha_hm]; exact Nat.ne_of_lt St0.ltB
  have ne_y1_hm : y1 ≠ hm := by rw [ha_hm]; exact Nat.ne_of_lt St1.lt
  have ne_t1_hm : t1 ≠ hm := by rw [ha_hm]; exact Nat.ne_of_lt St1.ltB
  have ne_y2_hm : y2 ≠ hm := by rw [ha_hm]; exact Nat.ne_of_lt St2.lt
  have ne_t2_hm : t2 ≠ hm := by rw [ha_hm]; exact Nat.ne_of_lt St2.ltB
  have ne_al_hm : al ≠ hm := by rw [ha_hm]; exact Nat.ne_of_lt A1.lt
  have ne_ea_hm : ea ≠ hm := by rw [ha_hm]; exact Nat.ne_of_lt A1.ltB
  have S_hm := D.safeNew E_hm
  rw [← ha_hm] at S_hm
  have S := S.ext E_hm
  have SD := SD.ext E_hm
  have Bd := Bd.ext E_hm
  have St0 := St0.ext E_hm
  have St1 := St1.ext E_hm
  have St2 := St2.ext E_hm
  have A1 := A1.ext E_hm
  have F := F.ext E_hm
  have D := D.ext E_hm
  have Ft := D_hm (Or.inl (ww hw 220 rfl)) (ty := .array (.object "java/util/HashMap$Node")) (by decide)
  have Fl := D_hm (Or.inr (ww hw 111 rfl)) (ty := .float) (by decide)
  have P1 := Ow.Exa.plain A_hm
  refine Ow.dup X hx (pc := 3) (hb hby d15_3) rfl ?_
  refine Ow.callI X hx D.hZ (c_hminit l Z a0 hw _ hm A_hm Ft Fl) eT rfl hown (ww hw 99 rfl) (ww hw 100 rfl) (ww hw 98 rfl) (ww hw 101 rfl) (by decide) pd0 (by rw [hml]; rfl) (argsL := []) rfl rfl rfl (pc := 4) (hb hby d15_4) rfl rfl (by decide) (by decide) ?_
  rintro _ T L X ⟨rfl, F2, A_hm, Ft⟩
  dsimp only [Option.toList_some, Option.toList_none, List.cons_append, List.nil_append]
  have F := F.call F2 (fun y hy => by cases List.mem_singleton.mp hy; exact Or.inr l_hm)
  have D := D.keep F2.1 (fun y hy => by cases List.mem_singleton.mp hy; exact S_hm)
  have S := Ow.staKeep S F2.1 (fun y hy => by cases List.mem_singleton.mp hy; exact P1)
  have SD := Ow.staKeep SD F2.1 (fun y hy => by cases List.mem_singleton.mp hy; exact P1)
  have Bd := Bd.keep F2.1 (Ow.nin1 ne_de_hm)
  have St0 := St0.keep F2.1 (Ow.nin1 ne_y0_hm) (Ow.nin1 ne_t0_hm)
  have St1 := St1.keep F2.1 (Ow.nin1 ne_y1_hm) (Ow.nin1 ne_t1_hm)
  have St2 := St2.keep F2.1 (Ow.nin1 ne_y2_hm) (Ow.nin1 ne_t2_hm)
  have A1 := A1.keep F2.1 (Ow.nin1 ne_al_hm) (Ow.nin1 ne_ea_hm)
  obtain ⟨h_4, e_4⟩ : ∃ q, q = T.heap := ⟨_, rfl⟩
  rw [← e_4] at F D S SD Bd St0 St1 St2 A1 A_hm Ft
  have eT : T.heap = h_4 := e_4.symm
  refine Ow.astoreN X hx (pc := 7) #[_, _, _, _, _, _] (hb hby d15_7) rfl rfl ?_
  refine Ow.new_ X hx D.hZ hown (ww hw 112 rfl) (ww hw 38 rfl) (ww hw 39 rfl) eT (pc := 8) (hb hby d15_8) (by decide) (by decide) ?_
  intro T h_al2 al2 ha_al2 X eT E_al2 A_al2 D_al2 U_al2
  have l_al2 : h0.size ≤ al2 := by rw [ha_al2]; exact F.size
  have ne_de_al2 : de ≠ al2 := by rw [ha_al2]; exact Nat.ne_of_lt Bd.lt
  have ne_y0_al2 : y0 ≠ al2 := by rw [ha_al2]; exact Nat.ne_of_lt St0.lt
  have ne_t0_al2 : t0 ≠ al2 := by rw [ha_al2]; exact Nat.ne_of_lt St0.ltB
  have ne_y1_al2 : y1 ≠ al2 := by rw [ha_al2]; exact Nat.ne_of_lt St1.lt
  have ne_t1_al2 : t1 ≠ al2 := by rw [ha_al2]; exact Nat.ne_of_lt St1.ltB
  have ne_y2_al2 : y2 ≠ al2 := by rw [ha_al2]; exact Nat.ne_of_lt St2.lt
  have ne_t2_al2 : t2 ≠ al2 := by rw [ha_al2]; exact Nat.ne_of_lt St2.ltB
  have ne_al_al2 : al ≠ al2 := by rw [ha_al2]; exact Nat.ne_of_lt A1.lt
  have ne_ea_al2 : ea ≠ al2 := by rw [ha_al2]; exact Nat.ne_of_lt A1.ltB
  have ne_hm_al2 : hm ≠ al2 := by rw [ha_al2]; exact Nat.ne_of_lt A_hm.lt
  have S_al2 := D.safeNew E_al2
  rw [← ha_al2] at S_al2
  have S := S.ext E_al2
  have SD := SD.ext E_al2
  have Bd := Bd.ext E_al2
  have St0 := St0.ext E_al2
  have St1 := St1.ext E_al2
  have St2 := St2.ext E_al2
  have A1 := A1.ext E_al2
  have A_hm := A_hm.ext E_al2
  have Ft := Ft.ext E_al2
  have F := F.ext E_al2
  have D := D.ext E_al2
  have Z_elementData := D_al2 (Or.inl (ww hw 60 rfl)) (ty := (.array (.object "java/lang/Object"))) (by decide)
  have Z_size := D_al2 (Or.inl (ww hw 69 rfl)) (ty := .int) (by decide)
  have Z_modCount := D_al2 (Or.inl (ww hw 57 rfl)) (ty := .int) (by decide)
  have P1 := Ow.Exa.plain A_al2
  refine Ow.dup X hx (pc := 11) (hb hby d15_11) rfl ?_
  refine Ow.callI X hx D.hZ (c_arinit l Z a0 hw _ al2 A_al2 Z_elementData Z_size Z_modCount de kd SD Bd ne_de_al2) eT rfl hown (ww hw 113 rfl) (ww hw 41 rfl) (ww hw 39 rfl) (ww hw 42 rfl) (by decide) pd0 (by rw [hml]; rfl) (argsL := []) rfl rfl rfl (pc := 12) (hb hby d15_12) rfl rfl (by decide) (by decide) ?_
  rintro _ T L X ⟨rfl, F2, A2⟩
  dsimp only [Option.toList_some, Option.toList_none, List.cons_append, List.nil_append]
  have F := F.call F2 (fun y hy => by cases List.mem_singleton.mp hy; exact Or.inr l_al2)
  have D := D.keep F2.1 (fun y hy => by cases List.mem_singleton.mp hy; exact S_al2)
  have S := Ow.staKeep S F2.1 (fun y hy => by cases List.mem_singleton.mp hy; exact P1)
  have SD := Ow.staKeep SD F2.1 (fun y hy => by cases List.mem_singleton.mp hy; exact P1)
  have Bd := Bd.keep F2.1 (Ow.nin1 ne_de_al2)
  have St0 := St0.keep F2.1 (Ow.nin1 ne_y0_al2) (Ow.nin1 ne_t0_al2)
  have St1 := St1.keep F2.1 (Ow.nin1 ne_y1_al2) (Ow.nin1 ne_t1_al2)
  have St2 := St2.keep F2.1 (Ow.nin1 ne_y2_al2) (Ow.nin1 ne_t2_al2)
  have A1 := A1.keep F2.1 (Ow.nin1 ne_al_al2) (Ow.nin1 ne_ea_al2)
  have A_hm := A_hm.keep F2.1
  have Ft := Ft.keep F2.1 (Ow.nin1 ne_hm_al2)
  obtain ⟨h_12, e_12⟩ : ∃ q, q = T.heap := ⟨_, rfl⟩
  rw [← e_12] at F D S SD Bd St0 St1 St2 A1 A_hm Ft A2
  have eT : T.heap = h_12 := e_12.symm
  refine Ow.astoreN X hx (pc := 15) #[_, _, _, _, _, _] (hb hby d15_15) rfl rfl ?_
  refine Ow.iconst X hx (pc := 16) (0) (hb hby d15_16) (by decide) ?_
  refine Ow.istore X hx (pc := 17) #[_, _, _, _, _, _] (hb hby d15_17) rfl ?_
  refine Ow.iload X hx (pc := 19) (hb hby d15_19) rfl ?_
  refine Ow.aloadN X hx (pc := 21) (hb hby d15_21) rfl rfl ?_
  refine Ow.callFP X hx D.hZ (c_size l Z a0 hw _ al _ A1.2.2.1) rfl rfl eT hown (ww hw 114 rfl) (ww hw 115 rfl) (ww hw 117 rfl) (ww hw 118 rfl) (ww hw 116 rfl) (ww hw 119 rfl) (ww hw 120 rfl) (ww hw 121 rfl) (ww hw 39 rfl) (ww hw 122 rfl) (by decide) pd14 (by rw [hml]; rfl) A1.1 (argsL := []) rfl rfl rfl (pc := 22) (hb hby d15_22) rfl rfl (by decide) (by decide) ?_
  intro T X eT
  dsimp only [Option.toList_some, Option.toList_none, List.cons_append, List.nil_append]
  refine Ow.icmp_ge X hx (pc := 27) (pc' := 161) (hb hby d15_27) (by decide) (by decide) (fun q => absurd (by decide) q) (fun h27 => ?_)
  refine Ow.aloadN X hx (pc := 30) (hb hby d15_30) rfl rfl ?_
  refine Ow.iload X hx (pc := 31) (hb hby d15_31) rfl ?_
  refine Ow.callFP X hx D.hZ (c_get l Z a0 hw _ al ea ka 3 _ A1 0 y0 rfl (by decide) (by decide)) rfl rfl eT hown (ww hw 123 rfl) (ww hw 124 rfl) (ww hw 126 rfl) (ww hw 127 rfl) (ww hw 125 rfl) (ww hw 128 rfl) (ww hw 129 rfl) (ww hw 121 rfl) (ww hw 39 rfl) (ww hw 130 rfl) (by decide) pd9 (by rw [hml]; rfl) A1.1 (argsL := [_]) rfl rfl rfl (pc := 33) (hb hby d15_33) rfl rfl (by decide) (by decide) ?_
  intro T X eT
  dsimp only [Option.toList_some, Option.toList_none, List.cons_append, List.nil_append]
  refine Ow.checkcast X hx D.hZ hown (ww hw 144 rfl) eT (Ins.self St0.1) (pc := 38) (hb hby d15_38) ?_
  intro T X eT
  refine Ow.astore X hx (pc := 41) #[_, _, _, _, _, _] (hb hby d15_41) rfl rfl ?_
  refine Ow.aload X hx (pc := 43) (hb hby d15_43) rfl rfl ?_
  refine Ow.ldcS X hx eT D hEL hown (ww hw 145 rfl) wS (by decide) (vs := [.int 45, .int 45]) (z := 2) (by decide) (by decide) (by decide) (pc := 45) (hb hby d15_45) 8 (by decide) (by decide) (by decide) (by decide) ?_
  intro vm_l0 a_l0 T h_l0 b_l0 k_l0 X eT E_l0 D hown C_l0 A_l0 Fc_l0 Fv_l0 V_l0 ne_l0
  have S := S.ext E_l0
  have SD := SD.ext E_l0
  have Bd := Bd.ext E_l0
  have St0 := St0.ext E_l0
  have St1 := St1.ext E_l0
  have St2 := St2.ext E_l0
  have A1 := A1.ext E_l0
  have A_hm := A_hm.ext E_l0
  have Ft := Ft.ext E_l0
  have A2 := A2.ext E_l0
  have F := F.ext E_l0
  have Sq : Ow.Str Z h_l0 a_l0 b_l0 k_l0 [45, 45] := ⟨A_l0, Fc_l0, Fv_l0, Ow.AL.of_arv V_l0 rfl⟩
  refine Ow.callVP X hx D.hZ (c_sw l Z a0 hw _ z S hz y0 t0 a_l0 b_l0 _ _ bs0 St0 Sq hl0 hp0) rfl rfl eT hown (ww hw 146 rfl) (ww hw 147 rfl) (ww hw 149 rfl) (ww hw 148 rfl) (ww hw 6 rfl) (ww hw 150 rfl) (by decide) pd21 (by rw [hml]; rfl) St0.1 (argsL := [_]) rfl rfl rfl (pc := 47) (hb hby d15_47) rfl rfl (by decide) (by decide) ?_   -- java/lang/String.startsWith:(Ljava/lang/String;)Z
  intro T X eT
  dsimp only [Option.toList_some, Option.toList_none, List.cons_append, List.nil_append]
  refine Ow.if_ne X hx (pc := 50) (pc' := 65) (hb hby d15_50) (by decide) (by decide) (fun q => absurd rfl q) (fun h50 => ?_)
  refine Ow.aloadN X hx (pc := 53) (hb hby d15_53) rfl rfl ?_
  refine Ow.aload X hx (pc := 54) (hb hby d15_54) rfl rfl ?_
  have h_al2 := A2.lt
  have P1 := Ow.Exa.plain A2.1
  have Q1 : Safe Z EL _ _ al2 := Safe.exa D.hZ.alike A2.1 (by decide) (by decide)
  refine Ow.callF X hx D.hZ (c_addE l Z a0 hw _ al2 de kd A2 SD ne_de_al2 y0 St0.1) eT hown (ww hw 166 rfl) (ww hw 167 rfl) (ww hw 169 rfl) (ww hw 63 rfl) (ww hw 168 rfl) (ww hw 170 rfl) (ww hw 171 rfl) (ww hw 121 rfl) (ww hw 39 rfl) (ww hw 65 rfl) (by decide) pd22 (by rw [hml]; rfl) A2.1 (argsL := [_]) rfl rfl rfl (pc := 56) (hb hby d15_56) rfl rfl (by decide) (by decide) ?_
  rintro _ T L X ⟨rfl, F2, ed2, ke2, l_ed2, A2⟩
  dsimp only [Option.toList_some, Option.toList_none, List.cons_append, List.nil_append]
  have ne_de_ed2 : de ≠ ed2 := Nat.ne_of_lt (Nat.lt_of_lt_of_le Bd.lt l_ed2)
  have ne_y0_ed2 : y0 ≠ ed2 := Nat.ne_of_lt (Nat.lt_of_lt_of_le St0.lt l_ed2)
  have ne_t0_ed2 : t0 ≠ ed2 := Nat.ne_of_lt (Nat.lt_of_lt_of_le St0.ltB l_ed2)
  have ne_y1_ed2 : y1 ≠ ed2 := Nat.ne_of_lt (Nat.lt_of_lt_of_le St1.lt l_ed2)
  have ne_t1_ed2 : t1 ≠ ed2 := Nat.ne_of_lt (Nat.lt_of_lt_of_le St1.ltB l_ed2)
  have ne_y2_ed2 : y2 ≠ ed2 := Nat.ne_of_lt (Nat.lt_of_lt_of_le St2.lt l_ed2)
  have ne_t2_ed2 : t2 ≠ ed2 := Nat.ne_of_lt (Nat.lt_of_lt_of_le St2.ltB l_ed2)
  have ne_al_ed2 : al ≠ ed2 := Nat.ne_of_lt (Nat.lt_of_lt_of_le A1.lt l_ed2)
  have ne_ea_ed2 : ea ≠ ed2 := Nat.ne_of_lt (Nat.lt_of_lt_of_le A1.ltB l_ed2)
  have ne_hm_ed2 : hm ≠ ed2 := Nat.ne_of_lt (Nat.lt_of_lt_of_le A_hm.lt l_ed2)
  have ne_al2_ed2 : al2 ≠ ed2 := Nat.ne_of_lt (Nat.lt_of_lt_of_le h_al2 l_ed2)
  have l_ed2 := Nat.le_trans F.size l_ed2
  have F := F.call F2 (fun y hy => by cases List.mem_singleton.mp hy; exact Or.inr l_al2)
  have D := D.keep F2.1 (fun y hy => by cases List.mem_singleton.mp hy; exact Q1)
  have S := Ow.staKeep S F2.1 (fun y hy => by cases List.mem_singleton.mp hy; exact P1)
  have SD := Ow.staKeep SD F2.1 (fun y hy => by cases List.mem_singleton.mp hy; exact P1)
  have Bd := Bd.keep F2.1 (Ow.nin1 ne_de_al2)
  have St0 := St0.keep F2.1 (Ow.nin1 ne_y0_al2) (Ow.nin1 ne_t0_al2)
  have St1 := St1.keep F2.1 (Ow.nin1 ne_y1_al2) (Ow.nin1 ne_t1_al2)
  have St2 := St2.keep F2.1 (Ow.nin1 ne_y2_al2) (Ow.nin1 ne_t2_al2)
  have A1 := A1.keep F2.1 (Ow.nin1 ne_al_al2) (Ow.nin1 ne_ea_al2)
  have A_hm := A_hm.keep F2.1
  have Ft := Ft.keep F2.1 (Ow.nin1 ne_hm_al2)
  obtain ⟨h_56_0, e_56_0⟩ : ∃ q, q = T.heap := ⟨_, rfl⟩
  rw [← e_56_0] at F D S SD Bd St0 St1 St2 A1 A_hm Ft A2
  have eT : T.heap = h_56_0 := e_56_0.symm
  refine Ow.pop X hx (pc := 61) (hb hby d15_61) rfl ?_
  refine Ow.goto X hx (pc := 62) (pc' := 155) (hb hby d15_62) (by decide) (by decide) ?_
  refine Ow.iinc X hx (pc := 155) (1) #[_, _, _, _, _, _] (hb hby d15_155) (by decide) rfl rfl ?_
  rw [show (0 + 1 : Int32) = 1 from by decide]
  refine Ow.goto X hx (pc := 158) (pc' := 19) (hb hby d15_158) (by decide) (by decide) ?_
  refine Ow.iload X hx (pc := 19) (hb hby d15_19) rfl ?_
  refine Ow.aloadN X hx (pc := 21) (hb hby d15_21) rfl rfl ?_
  refine Ow.callFP X hx D.hZ (c_size l Z a0 hw _ al _ A1.2.2.1) rfl rfl eT hown (ww hw 114 rfl) (ww hw 115 rfl) (ww hw 117 rfl) (ww hw 118 rfl) (ww hw 116 rfl) (ww hw 119 rfl) (ww hw 120 rfl) (ww hw 121 rfl) (ww hw 39 rfl) (ww hw 122 rfl) (by decide) pd14 (by rw [hml]; rfl) A1.1 (argsL := []) rfl rfl rfl (pc := 22) (hb hby d15_22) rfl rfl (by decide) (by decide) ?_
  intro T X eT
  dsimp only [Option.toList_some, Option.toList_none, List.cons_append, List.nil_append]
  refine Ow.icmp_ge X hx (pc := 27) (pc' := 161) (hb hby d15_27) (by decide) (by decide) (fun q => absurd (by decide) q) (fun h27 => ?_)
  refine Ow.aloadN X hx (pc := 30) (hb hby d15_30) rfl rfl ?_
  refine Ow.iload X hx (pc := 31) (hb hby d15_31) rfl ?_
  refine Ow.callFP X hx D.hZ (c_get l Z a0 hw _ al ea ka 3 _ A1 1 y1 rfl (by decide) (by decide)) rfl rfl eT hown (ww hw 123 rfl) (ww hw 124 rfl) (ww hw 126 rfl) (ww hw 127 rfl) (ww hw 125 rfl) (ww hw 128 rfl) (ww hw 129 rfl) (ww hw 121 rfl) (ww hw 39 rfl) (ww hw 130 rfl) (by decide) pd9 (by rw [hml]; rfl) A1.1 (argsL := [_]) rfl rfl rfl (pc := 33) (hb hby d15_33) rfl rfl (by decide) (by decide) ?_
  intro T X eT
  dsimp only [Option.toList_some, Option.toList_none, List.cons_append, List.nil_append]
  refine Ow.checkcast X hx D.hZ hown (ww hw 144 rfl) eT (Ins.self St1.1) (pc := 38) (hb hby d15_38) ?_
  intro T X eT
  refine Ow.astore X hx (pc := 41) #[_, _, _, _, _, _] (hb hby d15_41) rfl rfl ?_
  refine Ow.aload X hx (pc := 43) (hb hby d15_43) rfl rfl ?_
  refine Ow.ldcS X hx eT D hEL hown (ww hw 145 rfl) wS (by decide) (vs := [.int 45, .int 45]) (z := 2) (by decide) (by decide) (by decide) (pc := 45) (hb hby d15_45) 8 (by decide) (by decide) (by decide) (by decide) ?_
  intro vm_l1 a_l1 T h_l1 b_l1 k_l1 X eT E_l1 D hown C_l1 A_l1 Fc_l1 Fv_l1 V_l1 ne_l1
  have S := S.ext E_l1
  have SD := SD.ext E_l1
  have Bd := Bd.ext E_l1
  have St0 := St0.ext E_l1
  have St1 := St1.ext E_l1
  have St2 := St2.ext E_l1
  have A1 := A1.ext E_l1
  have A_hm := A_hm.ext E_l1
  have Ft := Ft.ext E_l1
  have A2 := A2.ext E_l1
  have F := F.ext E_l1
  have Sq : Ow.Str Z h_l1 a_l1 b_l1 k_l1 [45, 45] := ⟨A_l1, Fc_l1, Fv_l1, Ow.AL.of_arv V_l1 rfl⟩
  refine Ow.callVP X hx D.hZ (c_sw l Z a0 hw _ z S hz y1 t1 a_l1 b_l1 _ _ bs1 St1 Sq hl1 hp1) rfl rfl eT hown (ww hw 146 rfl) (ww hw 147 rfl) (ww hw 149 rfl) (ww hw 148 rfl) (ww hw 6 rfl) (ww hw 150 rfl) (by decide) pd21 (by rw [hml]; rfl) St1.1 (argsL := [_]) rfl rfl rfl (pc := 47) (hb hby d15_47) rfl rfl (by decide) (by decide) ?_   -- java/lang/String.startsWith:(Ljava/lang/String;)Z
  intro T X eT
  dsimp only [Option.toList_some, Option.toList_none, List.cons_append, List.nil_append]
  refine Ow.if_ne X hx (pc := 50) (pc' := 65) (hb hby d15_50) (by decide) (by decide) (fun q => absurd rfl q) (fun h50 => ?_)
  refine Ow.aloadN X hx (pc := 53) (hb hby d15_53) rfl rfl ?_
  refine Ow.aload X hx (pc := 54) (hb hby d15_54) rfl rfl ?_
  have h_al2 := A2.lt
  have P1 := Ow.Exa.plain A2.1
  have Q1 : Safe Z EL _ _ al2 := Safe.exa D.hZ.alike A2.1 (by decide) (by decide)
  have P2 := Ow.AL.plain A2.2.2.2.2.1
  have Q2 : Safe Z EL _ _ ed2 := A2.2.2.2.2.1.safe D.hZ.alike (by decide)
  refine Ow.callF X hx D.hZ (c_addL1 l Z a0 hw _ al2 ed2 ke2 y0 A2 ne_al2_ed2 y1 St1.1) eT hown (ww hw 166 rfl) (ww hw 167 rfl) (ww hw 169 rfl) (ww hw 63 rfl) (ww hw 168 rfl) (ww hw 170 rfl) (ww hw 171 rfl) (ww hw 121 rfl) (ww hw 39 rfl) (ww hw 65 rfl) (by decide) pd22 (by rw [hml]; rfl) A2.1 (argsL := [_]) rfl rfl rfl (pc := 56) (hb hby d15_56) rfl rfl (by decide) (by decide) ?_
  rintro _ T L X ⟨rfl, F2, A2⟩
  dsimp only [Option.toList_some, Option.toList_none, List.cons_append, List.nil_append]
  have F := F.call F2 (fun y hy => by
    simp only [List.mem_cons, List.not_mem_nil, or_false] at hy
    rcases hy with rfl | rfl
    · exact Or.inr l_al2
    · exact Or.inr l_ed2)
  have D := D.keep F2.1 (fun y hy => by
    simp only [List.mem_cons, List.not_mem_nil, or_false] at hy
    rcases hy with rfl | rfl
    · exact Q1
    · exact Q2)
  have hpl : ∀ y ∈ [al2, ed2], ∃ c : Cell, h_l1[y]? = some c ∧ c.vm.isStatics = false := fun y hy => by
    simp only [List.mem_cons, List.not_mem_nil, or_false] at hy
    rcases hy with rfl | rfl
    · exact P1
    · exact P2
  have S := Ow.staKeep S F2.1 (fun y hy => hpl y hy)
  have SD := Ow.staKeep SD F2.1 (fun y hy => hpl y hy)
  have Bd := Bd.keep F2.1 (ninS ne_de_al2 (Ow.nin1 ne_de_ed2))
  have St0 := St0.keep F2.1 (ninS ne_y0_al2 (Ow.nin1 ne_y0_ed2)) (ninS ne_t0_al2 (Ow.nin1 ne_t0_ed2))
  have St1 := St1.keep F2.1 (ninS ne_y1_al2 (Ow.nin1 ne_y1_ed2)) (ninS ne_t1_al2 (Ow.nin1 ne_t1_ed2))
  have St2 := St2.keep F2.1 (ninS ne_y2_al2 (Ow.nin1 ne_y2_ed2)) (ninS ne_t2_al2 (Ow.nin1 ne_t2_ed2))
  have A1 := A1.keep F2.1 (ninS ne_al_al2 (Ow.nin1 ne_al_ed2)) (ninS ne_ea_al2 (Ow.nin1 ne_ea_ed2))
  have A_hm := A_hm.keep F2.1
  have Ft := Ft.keep F2.1 (ninS ne_hm_al2 (Ow.nin1 ne_hm_ed2))
  obtain ⟨h_56_1, e_56_1⟩ : ∃ q, q = T.heap := ⟨_, rfl⟩
  rw [← e_56_1] at F D S SD Bd St0 St1 St2 A1 A_hm Ft A2
  have eT : T.heap = h_56_1 := e_56_1.symm
  refine Ow.pop X hx (pc := 61) (hb hby d15_61) rfl ?_
  refine Ow.goto X hx (pc := 62) (pc' := 155) (hb hby d15_62) (by decide) (by decide) ?_
  refine Ow.iinc X hx (pc := 155) (1) #[_, _, _, _, _, _] (hb hby d15_155) (by decide) rfl rfl ?_
  rw [show (1 + 1 : Int32) = 2 from by decide]
  refine Ow.goto X hx (pc := 158) (pc' := 19) (hb hby d15_158) (by decide) (by decide) ?_
  refine Ow.iload X hx (pc := 19) (hb hby d15_19) rfl ?_
  refine Ow.aloadN X hx (pc := 21) (hb hby d15_21) rfl rfl ?_
  refine Ow.callFP X hx D.hZ (c_size l Z a0 hw _ al _ A1.2.2.1) rfl rfl eT hown (ww hw 114 rfl) (ww hw 115 rfl) (ww hw 117 rfl) (ww hw 118 rfl) (ww hw 116 rfl) (ww hw 119 rfl) (ww hw 120 rfl) (ww hw 121 rfl) (ww hw 39 rfl) (ww hw 122 rfl) (by decide) pd14 (by rw [hml]; rfl) A1.1 (argsL := []) rfl rfl rfl (pc := 22) (hb hby d15_22) rfl rfl (by decide) (by decide) ?_
  intro T X eT
  dsimp only [Option.toList_some, Option.toList_none, List.cons_append, List.nil_append]
  refine Ow.icmp_ge X hx (pc := 27) (pc' := 161) (hb hby d15_27) (by decide) (by decide) (fun q => absurd (by decide) q) (fun h27 => ?_)
  refine Ow.aloadN X hx (pc := 30) (hb hby d15_30) rfl rfl ?_
  refine Ow.iload X hx (pc := 31) (hb hby d15_31) rfl ?_
  refine Ow.callFP X hx D.hZ (c_get l Z a0 hw _ al ea ka 3 _ A1 2 y2 rfl (by decide) (by decide)) rfl rfl eT hown (ww hw 123 rfl) (ww hw 124 rfl) (ww hw 126 rfl) (ww hw 127 rfl) (ww hw 125 rfl) (ww hw 128 rfl) (ww hw 129 rfl) (ww hw 121 rfl) (ww hw 39 rfl) (ww hw 130 rfl) (by decide) pd9 (by rw [hml]; rfl) A1.1 (argsL := [_]) rfl rfl rfl (pc := 33) (hb hby d15_33) rfl rfl (by decide) (by decide) ?_
  intro T X eT
  dsimp only [Option.toList_some, Option.toList_none, List.cons_append, List.nil_append]
  refine Ow.checkcast X hx D.hZ hown (ww hw 144 rfl) eT (Ins.self St2.1) (pc := 38) (hb hby d15_38) ?_
  intro T X eT
  refine Ow.astore X hx (pc := 41) #[_, _, _, _, _, _] (hb hby d15_41) rfl rfl ?_
  refine Ow.aload X hx (pc := 43) (hb hby d15_43) rfl rfl ?_
  refine Ow.ldcS X hx eT D hEL hown (ww hw 145 rfl) wS (by decide) (vs := [.int 45, .int 45]) (z := 2) (by decide) (by decide) (by decide) (pc := 45) (hb hby d15_45) 8 (by decide) (by decide) (by decide) (by decide) ?_
  intro vm_l2 a_l2 T h_l2 b_l2 k_l2 X eT E_l2 D hown C_l2 A_l2 Fc_l2 Fv_l2 V_l2 ne_l2
  have S := S.ext E_l2
  have SD := SD.ext E_l2
  have Bd := Bd.ext E_l2
  have St0 := St0.ext E_l2
  have St1 := St1.ext E_l2
  have St2 := St2.ext E_l2
  have A1 := A1.ext E_l2
  have A_hm := A_hm.ext E_l2
  have Ft := Ft.ext E_l2
  have A2 := A2.ext E_l2
  have F := F.ext E_l2
  have Sq : Ow.Str Z h_l2 a_l2 b_l2 k_l2 [45, 45] := ⟨A_l2, Fc_l2, Fv_l2, Ow.AL.of_arv V_l2 rfl⟩
  refine Ow.callVP X hx D.hZ (c_sw l Z a0 hw _ z S hz y2 t2 a_l2 b_l2 _ _ bs2 St2 Sq hl2 hp2) rfl rfl eT hown (ww hw 146 rfl) (ww hw 147 rfl) (ww hw 149 rfl) (ww hw 148 rfl) (ww hw 6 rfl) (ww hw 150 rfl) (by decide) pd21 (by rw [hml]; rfl) St2.1 (argsL := [_]) rfl rfl rfl (pc := 47) (hb hby d15_47) rfl rfl (by decide) (by decide) ?_   -- java/lang/String.startsWith:(Ljava/lang/String;)Z
  intro T X eT
  dsimp only [Option.toList_some, Option.toList_none, List.cons_append, List.nil_append]
  refine Ow.if_ne X hx (pc := 50) (pc' := 65) (hb hby d15_50) (by decide) (by decide) (fun q => absurd rfl q) (fun h50 => ?_)
  refine Ow.aloadN X hx (pc := 53) (hb hby d15_53) rfl rfl ?_
  refine Ow.aload X hx (pc := 54) (hb hby d15_54) rfl rfl ?_
  have h_al2 := A2.lt
  have P1 := Ow.Exa.plain A2.1
  have Q1 : Safe Z EL _ _ al2 := Safe.exa D.hZ.alike A2.1 (by decide) (by decide)
  have P2 := Ow.AL.plain A2.2.2.2.2.1
  have Q2 : Safe Z EL _ _ ed2 := A2.2.2.2.2.1.safe D.hZ.alike (by decide)
  refine Ow.callF X hx D.hZ (c_addL2 l Z a0 hw _ al2 ed2 ke2 y0 y1 A2 ne_al2_ed2 y2 St2.1) eT hown (ww hw 166 rfl) (ww hw 167 rfl) (ww hw 169 rfl) (ww hw 63 rfl) (ww hw 168 rfl) (ww hw 170 rfl) (ww hw 171 rfl) (ww hw 121 rfl) (ww hw 39 rfl) (ww hw 65 rfl) (by decide) pd22 (by rw [hml]; rfl) A2.1 (argsL := [_]) rfl rfl rfl (pc := 56) (hb hby d15_56) rfl rfl (by decide) (by decide) ?_
  rintro _ T L X ⟨rfl, F2, A2⟩
  dsimp only [Option.toList_some, Option.toList_none, List.cons_append, List.nil_append]
  have F := F.call F2 (fun y hy => by
    simp only [List.mem_cons, List.not_mem_nil, or_false] at hy
    rcases hy with rfl | rfl
    · exact Or.inr l_al2
    · exact Or.inr l_ed2)
  have D := D.keep F2.1 (fun y hy => by
    simp only [List.mem_cons, List.not_mem_nil, or_false] at hy
    rcases hy with rfl | rfl
    · exact Q1
    · exact Q2)
  have hpl : ∀ y ∈ [al2, ed2], ∃ c : Cell, h_l2[y]? = some c ∧ c.vm.isStatics = false := fun y hy => by
    simp only [List.mem_cons, List.not_mem_nil, or_false] at hy
    rcases hy with rfl | rfl
    · exact P1
    · exact P2
  have S := Ow.staKeep S F2.1 (fun y hy => hpl y hy)
  have SD := Ow.staKeep SD F2.1 (fun y hy => hpl y hy)
  have Bd := Bd.keep F2.1 (ninS ne_de_al2 (Ow.nin1 ne_de_ed2))
  have St0 := St0.keep F2.1 (ninS ne_y0_al2 (Ow.nin1 ne_y0_ed2)) (ninS ne_t0_al2 (Ow.nin1 ne_t0_ed2))
  have St1 := St1.keep F2.1 (ninS ne_y1_al2 (Ow.nin1 ne_y1_ed2)) (ninS ne_t1_al2 (Ow.nin1 ne_t1_ed2))
  have St2 := St2.keep F2.1 (ninS ne_y2_al2 (Ow.nin1 ne_y2_ed2)) (ninS ne_t2_al2 (Ow.nin1 ne_t2_ed2))
  have A1 := A1.keep F2.1 (ninS ne_al_al2 (Ow.nin1 ne_al_ed2)) (ninS ne_ea_al2 (Ow.nin1 ne_ea_ed2))
  have A_hm := A_hm.keep F2.1
  have Ft := Ft.keep F2.1 (ninS ne_hm_al2 (Ow.nin1 ne_hm_ed2))
  obtain ⟨h_56_2, e_56_2⟩ : ∃ q, q = T.heap := ⟨_, rfl⟩
  rw [← e_56_2] at F D S SD Bd St0 St1 St2 A1 A_hm Ft A2
  have eT : T.heap = h_56_2 := e_56_2.symm
  refine Ow.pop X hx (pc := 61) (hb hby d15_61) rfl ?_
  refine Ow.goto X hx (pc := 62) (pc' := 155) (hb hby d15_62) (by decide) (by decide) ?_
  refine Ow.iinc X hx (pc := 155) (1) #[_, _, _, _, _, _] (hb hby d15_155) (by decide) rfl rfl ?_
  rw [show (2 + 1 : Int32) = 3 from by decide]
  refine Ow.goto X hx (pc := 158) (pc' := 19) (hb hby d15_158) (by decide) (by decide) ?_
  refine Ow.iload X hx (pc := 19) (hb hby d15_19) rfl ?_
  refine Ow.aloadN X hx (pc := 21) (hb hby d15_21) rfl rfl ?_
  refine Ow.callFP X hx D.hZ (c_size l Z a0 hw _ al _ A1.2.2.1) rfl rfl eT hown (ww hw 114 rfl) (ww hw 115 rfl) (ww hw 117 rfl) (ww hw 118 rfl) (ww hw 116 rfl) (ww hw 119 rfl) (ww hw 120 rfl) (ww hw 121 rfl) (ww hw 39 rfl) (ww hw 122 rfl) (by decide) pd14 (by rw [hml]; rfl) A1.1 (argsL := []) rfl rfl rfl (pc := 22) (hb hby d15_22) rfl rfl (by decide) (by decide) ?_
  intro T X eT
  dsimp only [Option.toList_some, Option.toList_none, List.cons_append, List.nil_append]
  refine Ow.icmp_ge X hx (pc := 27) (pc' := 161) (hb hby d15_27) (by decide) (by decide) (fun h27 => ?_) (fun q => absurd q (by decide))
  refine Ow.new_ X hx D.hZ hown (ww hw 172 rfl) (ww hw 173 rfl) (ww hw 94 rfl) eT (pc := 161) (hb hby d15_161) (by decide) (by decide) ?_
  intro T h_o o ha_o X eT E_o A_o D_o U_o
  have l_o : h0.size ≤ o := by rw [ha_o]; exact F.size
  have ne_de_o : de ≠ o := by rw [ha_o]; exact Nat.ne_of_lt Bd.lt
  have ne_y0_o : y0 ≠ o := by rw [ha_o]; exact Nat.ne_of_lt St0.lt
  have ne_t0_o : t0 ≠ o := by rw [ha_o]; exact Nat.ne_of_lt St0.ltB
  have ne_y1_o : y1 ≠ o := by rw [ha_o]; exact Nat.ne_of_lt St1.lt
  have ne_t1_o : t1 ≠ o := by rw [ha_o]; exact Nat.ne_of_lt St1.ltB
  have ne_y2_o : y2 ≠ o := by rw [ha_o]; exact Nat.ne_of_lt St2.lt
  have ne_t2_o : t2 ≠ o := by rw [ha_o]; exact Nat.ne_of_lt St2.ltB
  have ne_al_o : al ≠ o := by rw [ha_o]; exact Nat.ne_of_lt A1.lt
  have ne_ea_o : ea ≠ o := by rw [ha_o]; exact Nat.ne_of_lt A1.ltB
  have ne_hm_o : hm ≠ o := by rw [ha_o]; exact Nat.ne_of_lt A_hm.lt
  have ne_al2_o : al2 ≠ o := by rw [ha_o]; exact Nat.ne_of_lt A2.lt
  have ne_ed2_o : ed2 ≠ o := by rw [ha_o]; exact Nat.ne_of_lt A2.ltB
  have S_o := D.safeNew E_o
  rw [← ha_o] at S_o
  have S := S.ext E_o
  have SD := SD.ext E_o
  have Bd := Bd.ext E_o
  have St0 := St0.ext E_o
  have St1 := St1.ext E_o
  have St2 := St2.ext E_o
  have A1 := A1.ext E_o
  have A_hm := A_hm.ext E_o
  have Ft := Ft.ext E_o
  have A2 := A2.ext E_o
  have F := F.ext E_o
  have D := D.ext E_o
  have Z1 := D_o (Or.inr (ww hw 179 rfl)) (ty := .object "java/util/Map") (by decide)
  have Z2 := D_o (Or.inr (ww hw 181 rfl)) (ty := .object "java/util/List") (by decide)
  have P1 := Ow.Exa.plain A_o
  refine Ow.dup X hx (pc := 164) (hb hby d15_164) rfl ?_
  refine Ow.aloadN X hx (pc := 165) (hb hby d15_165) rfl rfl ?_
  refine Ow.aloadN X hx (pc := 166) (hb hby d15_166) rfl rfl ?_
  refine Ow.callI X hx D.hZ (c_oinit l Z a0 hw _ o hm al2 A_o Z1 Z2) eT rfl hown (ww hw 174 rfl) (ww hw 175 rfl) (ww hw 94 rfl) (ww hw 176 rfl) (by decide) pd20 (by rw [hml]; rfl) (argsL := [_, _]) rfl rfl rfl (pc := 167) (hb hby d15_167) rfl rfl (by decide) (by decide) ?_
  rintro _ T L X ⟨rfl, F2, A_o, Fv, Fa⟩
  dsimp only [Option.toList_some, Option.toList_none, List.cons_append, List.nil_append]
  have F := F.call F2 (fun y hy => by cases List.mem_singleton.mp hy; exact Or.inr l_o)
  have D := D.keep F2.1 (fun y hy => by cases List.mem_singleton.mp hy; exact S_o)
  have S := Ow.staKeep S F2.1 (fun y hy => by cases List.mem_singleton.mp hy; exact P1)
  have SD := Ow.staKeep SD F2.1 (fun y hy => by cases List.mem_singleton.mp hy; exact P1)
  have Bd := Bd.keep F2.1 (Ow.nin1 ne_de_o)
  have St0 := St0.keep F2.1 (Ow.nin1 ne_y0_o) (Ow.nin1 ne_t0_o)
  have St1 := St1.keep F2.1 (Ow.nin1 ne_y1_o) (Ow.nin1 ne_t1_o)
  have St2 := St2.keep F2.1 (Ow.nin1 ne_y2_o) (Ow.nin1 ne_t2_o)
  have A1 := A1.keep F2.1 (Ow.nin1 ne_al_o) (Ow.nin1 ne_ea_o)
  have A_hm := A_hm.keep F2.1
  have Ft := Ft.keep F2.1 (Ow.nin1 ne_hm_o)
  have A2 := A2.keep F2.1 (Ow.nin1 ne_al2_o) (Ow.nin1 ne_ed2_o)
  obtain ⟨h_167, e_167⟩ : ∃ q, q = T.heap := ⟨_, rfl⟩
  rw [← e_167] at F D S SD Bd St0 St1 St2 A1 A_hm Ft A2 A_o Fv Fa
  have eT : T.heap = h_167 := e_167.symm
  exact Ow.areturnW X hx eT D hEL hlk hret rfl rfl rfl (hb hby d15_170) ⟨o, hm, al2, rfl, by rw [eT]; exact F, by rw [eT]; exact A_o, by rw [eT]; exact Fv, by rw [eT]; exact Fa, by rw [eT]; exact A_hm, by rw [eT]; exact Ft, by rw [eT]; exact ⟨ed2, ke2, A2⟩⟩ (by decide) (by decide)
set_option maxRecDepth 65536 in
set_option maxHeartbeats 40000000 in
theorem law_0 (l : Launch) (Z : State) (a0 : Array Value) (hw : ∀ d ∈ tables_1, d.before a0 Z = true) (hEL : EW Z a0 EL) (h0 : Heap) (z p0 p1 p2 p3 p4 : Int32) (S : Sta Z h0 "java/lang/String" "COMPACT_STRINGS" "Z" (.int z)) (hz : ¬ z = 0) (de el ea0 : Addr) (kd ka0 : ClassId) (SD : Sta Z h0 "java/util/ArrayList" "DEFAULTCAPACITY_EMPTY_ELEMENTDATA" "[Ljava/lang/Object;" (.ref de)) (Bd : Ow.AL Z h0 de kd (.object "java/lang/Object") []) (SE : Sta Z h0 "java/util/ImmutableCollections" "EMPTY_LIST" "Ljava/util/ImmutableCollections$ListN;" (.ref el)) (Ee : Exa Z h0 el "java/util/ImmutableCollections$ListN") (Fl0 : Fld Z h0 el "java/util/ImmutableCollections$ListN" "elements" "[Ljava/lang/Object;" (.ref ea0)) (Be : Ow.AL Z h0 ea0 ka0 (.object "java/lang/Object") []) (hn : p3 &&& 3 = 0) : Ow.PayW l Z EL [] x code maxLocals ret room_1 #[(.int p0), (.int p1), (.int p2), (.int p3), (.int p4)] h0 (fun v h L => v = some (.int 1) ∧ Ow.Eff h0 h [] L) := by
  refine Ow.PayW.of (Ls := #[.val (.int p0), .val (.int p1), .val (.int p2), .val (.int p3), .val (.int p4), .unset, .unset, .unset, .unset, .unset, .unset, .unset, .unset, .unset]) (plainFor_of_name pn10) (fun m => by first | rfl | (simp [entryFrame, mkF, argsToLocals, Value.category, maxLocals]; done)) ?_
  intro p e s m below meth c T vm0 hx hby hml hown hnm hme hret hlk X eT D hsf
  have F := Ow.Eff.refl h0 []
  obtain ⟨ke, hke⟩ := own_mask8 p4
  refine Ow.iloadN X hx (pc := 0) (hb hby at_0) rfl ?_
  refine Ow.iconst X hx (pc := 1) (3) (hb hby at_1) (by decide) ?_
  refine Ow.iand X hx (pc := 2) (hb hby at_2) ?_
  rw [hn]
  refine Ow.istore X hx (pc := 3) #[_, _, _, _, _, _, _, _, _, _, _, _, _, _] (hb hby at_3) rfl ?_
  refine Ow.iloadN X hx (pc := 5) (hb hby at_5) rfl ?_
  refine Ow.callSW X hx (c_word l Z a0 hw hEL _ z S hz p0) eT D hEL (fun _ q => nomatch q) hown (ww hw 0 rfl) (ww hw 1 rfl) (ww hw 2 rfl) (ww hw 3 rfl) (by decide) pd23 (by rw [hml]; rfl) (argsL := [_]) rfl rfl rfl (pc := 6) (hb hby at_6) rfl rfl (by decide) (by decide) ?_
  rintro _ vm0 T L X ⟨y0, t0, k0, bs0, rfl, F2, St0, hl0, hp0⟩ D hown C1
  dsimp only [Option.toList_some, Option.toList_none, List.cons_append, List.nil_append]
  have F := F.call F2 (fun _ q => nomatch q)
  have S := S.ext (Ow.Keep.ext0 F2.1)
  have SD := SD.ext (Ow.Keep.ext0 F2.1)
  have SE := SE.ext (Ow.Keep.ext0 F2.1)
  have Bd := Bd.ext (Ow.Keep.ext0 F2.1)
  have Ee := Ee.ext (Ow.Keep.ext0 F2.1)
  have Fl0 := Fl0.ext (Ow.Keep.ext0 F2.1)
  have Be := Be.ext (Ow.Keep.ext0 F2.1)
  obtain ⟨h_w0, e_w0⟩ : ∃ q, q = T.heap := ⟨_, rfl⟩
  rw [← e_w0] at F D S SD SE Bd Ee Fl0 Be St0
  have eT : T.heap = h_w0 := e_w0.symm
  refine Ow.astore X hx (pc := 9) #[_, _, _, _, _, _, _, _, _, _, _, _, _, _] (hb hby at_9) rfl rfl ?_
  refine Ow.iloadN X hx (pc := 11) (hb hby at_11) rfl ?_
  refine Ow.callSW X hx (c_word l Z a0 hw hEL _ z S hz p1) eT D hEL (fun _ q => nomatch q) hown (ww hw 0 rfl) (ww hw 1 rfl) (ww hw 2 rfl) (ww hw 3 rfl) (by decide) pd23 (by rw [hml]; rfl) (argsL := [_]) rfl rfl rfl (pc := 12) (hb hby at_12) rfl rfl (by decide) (by decide) ?_
  rintro _ vm1 T L X ⟨y1, t1, k1, bs1, rfl, F2, St1, hl1, hp1⟩ D hown C1
  dsimp only [Option.toList_some, Option.toList_none, List.cons_append, List.nil_append]
  have F := F.call F2 (fun _ q => nomatch q)
  have S := S.ext (Ow.Keep.ext0 F2.1)
  have SD := SD.ext (Ow.Keep.ext0 F2.1)
  have SE := SE.ext (Ow.Keep.ext0 F2.1)
  have Bd := Bd.ext (Ow.Keep.ext0 F2.1)
  have Ee := Ee.ext (Ow.Keep.ext0 F2.1)
  have Fl0 := Fl0.ext (Ow.Keep.ext0 F2.1)
  have Be := Be.ext (Ow.Keep.ext0 F2.1)
  have St0 := St0.ext (Ow.Keep.ext0 F2.1)
  obtain ⟨h_w1, e_w1⟩ : ∃ q, q = T.heap := ⟨_, rfl⟩
  rw [← e_w1] at F D S SD SE Bd Ee Fl0 Be St0 St1
  have eT : T.heap = h_w1 := e_w1.symm
  refine Ow.astore X hx (pc := 15) #[_, _, _, _, _, _, _, _, _, _, _, _, _, _] (hb hby at_15) rfl rfl ?_
  refine Ow.iloadN X hx (pc := 17) (hb hby at_17) rfl ?_
  refine Ow.callSW X hx (c_word l Z a0 hw hEL _ z S hz p2) eT D hEL (fun _ q => nomatch q) hown (ww hw 0 rfl) (ww hw 1 rfl) (ww hw 2 rfl) (ww hw 3 rfl) (by decide) pd23 (by rw [hml]; rfl) (argsL := [_]) rfl rfl rfl (pc := 18) (hb hby at_18) rfl rfl (by decide) (by decide) ?_
  rintro _ vm2 T L X ⟨y2, t2, k2, bs2, rfl, F2, St2, hl2, hp2⟩ D hown C1
  dsimp only [Option.toList_some, Option.toList_none, List.cons_append, List.nil_append]
  have F := F.call F2 (fun _ q => nomatch q)
  have S := S.ext (Ow.Keep.ext0 F2.1)
  have SD := SD.ext (Ow.Keep.ext0 F2.1)
  have SE := SE.ext (Ow.Keep.ext0 F2.1)
  have Bd := Bd.ext (Ow.Keep.ext0 F2.1)
  have Ee := Ee.ext (Ow.Keep.ext0 F2.1)
  have Fl0 := Fl0.ext (Ow.Keep.ext0 F2.1)
  have Be := Be.ext (Ow.Keep.ext0 F2.1)
  have St0 := St0.ext (Ow.Keep.ext0 F2.1)
  have St1 := St1.ext (Ow.Keep.ext0 F2.1)
  obtain ⟨h_w2, e_w2⟩ : ∃ q, q = T.heap := ⟨_, rfl⟩
  rw [← e_w2] at F D S SD SE Bd Ee Fl0 Be St0 St1 St2
  have eT : T.heap = h_w2 := e_w2.symm
  refine Ow.astore X hx (pc := 21) #[_, _, _, _, _, _, _, _, _, _, _, _, _, _] (hb hby at_21) rfl rfl ?_
  refine Ow.new_ X hx D.hZ hown (ww hw 4 rfl) (ww hw 5 rfl) (ww hw 6 rfl) eT (pc := 23) (hb hby at_23) (by decide) (by decide) ?_
  intro T h_x x ha_x X eT E_x A_x D_x U_x
  have l_x : h0.size ≤ x := by rw [ha_x]; exact F.size
  have ne_de_x : de ≠ x := by rw [ha_x]; exact Nat.ne_of_lt Bd.lt
  have ne_el_x : el ≠ x := by rw [ha_x]; exact Nat.ne_of_lt Ee.lt
  have ne_ea0_x : ea0 ≠ x := by rw [ha_x]; exact Nat.ne_of_lt Be.lt
  have ne_y0_x : y0 ≠ x := by rw [ha_x]; exact Nat.ne_of_lt St0.lt
  have ne_t0_x : t0 ≠ x := by rw [ha_x]; exact Nat.ne_of_lt St0.ltB
  have ne_y1_x : y1 ≠ x := by rw [ha_x]; exact Nat.ne_of_lt St1.lt
  have ne_t1_x : t1 ≠ x := by rw [ha_x]; exact Nat.ne_of_lt St1.ltB
  have ne_y2_x : y2 ≠ x := by rw [ha_x]; exact Nat.ne_of_lt St2.lt
  have ne_t2_x : t2 ≠ x := by rw [ha_x]; exact Nat.ne_of_lt St2.ltB
  have S_x := D.safeNew E_x
  rw [← ha_x] at S_x
  have S := S.ext E_x
  have SD := SD.ext E_x
  have SE := SE.ext E_x
  have Bd := Bd.ext E_x
  have Ee := Ee.ext E_x
  have Fl0 := Fl0.ext E_x
  have Be := Be.ext E_x
  have St0 := St0.ext E_x
  have St1 := St1.ext E_x
  have St2 := St2.ext E_x
  have F := F.ext E_x
  have D := D.ext E_x
  have V_x := D_x (Or.inr (ww hw 20 rfl)) (ty := .array .byte) (by decide)
  have C_x := D_x (Or.inr (ww hw 21 rfl)) (ty := .byte) (by decide)
  refine Ow.dup X hx (pc := 26) (hb hby at_26) rfl ?_
  refine Ow.iconst X hx (pc := 27) (3) (hb hby at_27) (by decide) ?_
  refine Ow.newarrayL X hx D.hZ (ww hw 7 rfl) eT 3 (vs := [_, _, _]) rfl (pc := 28) (hb hby at_28) (by decide) (by decide) (by decide) (by decide) (by decide) ?_
  intro T h_cA k_cA cA ha_cA X eT E_cA B_cA
  have l_cA : h0.size ≤ cA := by rw [ha_cA]; exact F.size
  have ne_de_cA : de ≠ cA := by rw [ha_cA]; exact Nat.ne_of_lt Bd.lt
  have ne_el_cA : el ≠ cA := by rw [ha_cA]; exact Nat.ne_of_lt Ee.lt
  have ne_ea0_cA : ea0 ≠ cA := by rw [ha_cA]; exact Nat.ne_of_lt Be.lt
  have ne_y0_cA : y0 ≠ cA := by rw [ha_cA]; exact Nat.ne_of_lt St0.lt
  have ne_t0_cA : t0 ≠ cA := by rw [ha_cA]; exact Nat.ne_of_lt St0.ltB
  have ne_y1_cA : y1 ≠ cA := by rw [ha_cA]; exact Nat.ne_of_lt St1.lt
  have ne_t1_cA : t1 ≠ cA := by rw [ha_cA]; exact Nat.ne_of_lt St1.ltB
  have ne_y2_cA : y2 ≠ cA := by rw [ha_cA]; exact Nat.ne_of_lt St2.lt
  have ne_t2_cA : t2 ≠ cA := by rw [ha_cA]; exact Nat.ne_of_lt St2.ltB
  have ne_x_cA : x ≠ cA := by rw [ha_cA]; exact Nat.ne_of_lt A_x.lt
  have S_cA := D.safeNew E_cA
  rw [← ha_cA] at S_cA
  have S := S.ext E_cA
  have SD := SD.ext E_cA
  have SE := SE.ext E_cA
  have Bd := Bd.ext E_cA
  have Ee := Ee.ext E_cA
  have Fl0 := Fl0.ext E_cA
  have Be := Be.ext E_cA
  have St0 := St0.ext E_cA
  have St1 := St1.ext E_cA
  have St2 := St2.ext E_cA
  have A_x := A_x.ext E_cA
  have V_x := V_x.ext E_cA
  have C_x := C_x.ext E_cA
  have S_x := D.safeExt E_cA S_x
  have F := F.ext E_cA
  have D := D.ext E_cA
  refine Ow.dup X hx (pc := 30) (hb hby at_30) rfl ?_
  refine Ow.iconst X hx (pc := 31) (0) (hb hby at_31) (by decide) ?_
  refine Ow.bipush X hx (pc := 32) (45) (hb hby at_32) (by decide) ?_
  refine Ow.castoreL X hx D.hZ eT B_cA 0 [_, _, _] (by decide) (by decide) rfl rfl (pc := 34) (hb hby at_34) ?_
  intro T h_34 X eT W_34 B_cA
  rw [show nar .char (45 : Int32) = 45 from by decide] at B_cA W_34
  have S := S.wr W_34
  have SD := SD.wr W_34
  have SE := SE.wr W_34
  have Bd := Bd.other W_34 ne_de_cA
  have Ee := Ee.wr W_34
  have Fl0 := Fl0.other W_34 (Or.inl ne_el_cA)
  have Be := Be.other W_34 ne_ea0_cA
  have St0 := St0.keep (Keep.of_wr W_34) (Ow.nin1 ne_y0_cA) (Ow.nin1 ne_t0_cA)
  have St1 := St1.keep (Keep.of_wr W_34) (Ow.nin1 ne_y1_cA) (Ow.nin1 ne_t1_cA)
  have St2 := St2.keep (Keep.of_wr W_34) (Ow.nin1 ne_y2_cA) (Ow.nin1 ne_t2_cA)
  have A_x := A_x.wr W_34
  have V_x := V_x.other W_34 (Or.inl ne_x_cA)
  have C_x := C_x.other W_34 (Or.inl ne_x_cA)
  have S_tmp := S_cA
  have S_x := D.safeWr W_34 S_tmp S_x
  have S_cA := D.safeWr W_34 S_tmp S_cA
  have D := D.wr W_34 S_tmp
  have F := F.wr W_34 (Or.inr l_cA)
  refine Ow.dup X hx (pc := 35) (hb hby at_35) rfl ?_
  refine Ow.iconst X hx (pc := 36) (1) (hb hby at_36) (by decide) ?_
  refine Ow.bipush X hx (pc := 37) (45) (hb hby at_37) (by decide) ?_
  refine Ow.castoreL X hx D.hZ eT B_cA 1 [_, _, _] (by decide) (by decide) rfl rfl (pc := 39) (hb hby at_39) ?_
  intro T h_39 X eT W_39 B_cA
  rw [show nar .char (45 : Int32) = 45 from by decide] at B_cA W_39
  have S := S.wr W_39
  have SD := SD.wr W_39
  have SE := SE.wr W_39
  have Bd := Bd.other W_39 ne_de_cA
  have Ee := Ee.wr W_39
  have Fl0 := Fl0.other W_39 (Or.inl ne_el_cA)
  have Be := Be.other W_39 ne_ea0_cA
  have St0 := St0.keep (Keep.of_wr W_39) (Ow.nin1 ne_y0_cA) (Ow.nin1 ne_t0_cA)
  have St1 := St1.keep (Keep.of_wr W_39) (Ow.nin1 ne_y1_cA) (Ow.nin1 ne_t1_cA)
  have St2 := St2.keep (Keep.of_wr W_39) (Ow.nin1 ne_y2_cA) (Ow.nin1 ne_t2_cA)
  have A_x := A_x.wr W_39
  have V_x := V_x.other W_39 (Or.inl ne_x_cA)
  have C_x := C_x.other W_39 (Or.inl ne_x_cA)
  have S_tmp := S_cA
  have S_x := D.safeWr W_39 S_tmp S_x
  have S_cA := D.safeWr W_39 S_tmp S_cA
  have D := D.wr W_39 S_tmp
  have F := F.wr W_39 (Or.inr l_cA)
  refine Ow.dup X hx (pc := 40) (hb hby at_40) rfl ?_
  refine Ow.iconst X hx (pc := 41) (2) (hb hby at_41) (by decide) ?_
  refine Ow.iload X hx (pc := 42) (hb hby at_42) rfl ?_
  refine Ow.sipush X hx (pc := 44) (255) (hb hby at_44) (by decide) ?_
  refine Ow.iand X hx (pc := 47) (hb hby at_47) ?_
  refine Ow.i2c X hx (pc := 48) (hb hby at_48) ?_
  rw [hke, (own_ch8 ke).2.2.2]
  refine Ow.castoreL X hx D.hZ eT B_cA 2 [_, _, _] (by decide) (by decide) rfl rfl (pc := 49) (hb hby at_49) ?_
  intro T h_49 X eT W_49 B_cA
  rw [(own_ch8 ke).2.2.1] at B_cA W_49
  have S := S.wr W_49
  have SD := SD.wr W_49
  have SE := SE.wr W_49
  have Bd := Bd.other W_49 ne_de_cA
  have Ee := Ee.wr W_49
  have Fl0 := Fl0.other W_49 (Or.inl ne_el_cA)
  have Be := Be.other W_49 ne_ea0_cA
  have St0 := St0.keep (Keep.of_wr W_49) (Ow.nin1 ne_y0_cA) (Ow.nin1 ne_t0_cA)
  have St1 := St1.keep (Keep.of_wr W_49) (Ow.nin1 ne_y1_cA) (Ow.nin1 ne_t1_cA)
  have St2 := St2.keep (Keep.of_wr W_49) (Ow.nin1 ne_y2_cA) (Ow.nin1 ne_t2_cA)
  have A_x := A_x.wr W_49
  have V_x := V_x.other W_49 (Or.inl ne_x_cA)
  have C_x := C_x.other W_49 (Or.inl ne_x_cA)
  have S_tmp := S_cA
  have S_x := D.safeWr W_49 S_tmp S_x
  have S_cA := D.safeWr W_49 S_tmp S_cA
  have D := D.wr W_49 S_tmp
  have F := F.wr W_49 (Or.inr l_cA)
  have H8 : ∀ c ∈ ([45, 45, Int32.ofNat ke.val] : List Int32), ∃ k : Fin 256, c = Int32.ofNat k.val := by
    intro c hc
    simp only [List.mem_cons, List.not_mem_nil, or_false] at hc
    rcases hc with rfl | rfl | rfl
    · exact ⟨45, rfl⟩
    · exact ⟨45, rfl⟩
    · exact ⟨ke, rfl⟩
  have P_x := Ow.Exa.plain A_x
  refine strLat X hx D.hZ hw eT hown (ww hw 8 rfl) (cs := [45, 45, Int32.ofNat ke.val]) A_x V_x C_x B_cA S hz 3 rfl (by decide) (by decide) H8 (by rw [hml]; rfl) (pc := 50) (hb hby at_50) rfl rfl (by decide) (by decide) ?_
  intro T L k_x X F2 St_x
  have F := F.call F2 (fun y hy => by cases List.mem_singleton.mp hy; exact Or.inr l_x)
  have D := D.keep F2.1 (fun y hy => by cases List.mem_singleton.mp hy; exact S_x)
  have S := Ow.staKeep S F2.1 (fun y hy => by cases List.mem_singleton.mp hy; exact P_x)
  have SD := Ow.staKeep SD F2.1 (fun y hy => by cases List.mem_singleton.mp hy; exact P_x)
  have SE := Ow.staKeep SE F2.1 (fun y hy => by cases List.mem_singleton.mp hy; exact P_x)
  have Bd := Bd.keep F2.1 (Ow.nin1 ne_de_x)
  have Ee := Ee.keep F2.1
  have Fl0 := Fl0.keep F2.1 (Ow.nin1 ne_el_x)
  have Be := Be.keep F2.1 (Ow.nin1 ne_ea0_x)
  have St0 := St0.keep F2.1 (Ow.nin1 ne_y0_x) (Ow.nin1 ne_t0_x)
  have St1 := St1.keep F2.1 (Ow.nin1 ne_y1_x) (Ow.nin1 ne_t1_x)
  have St2 := St2.keep F2.1 (Ow.nin1 ne_y2_x) (Ow.nin1 ne_t2_x)
  obtain ⟨h_50, e_50⟩ : ∃ q, q = T.heap := ⟨_, rfl⟩
  rw [← e_50] at F D S SD SE Bd Ee Fl0 Be St0 St1 St2
  have eT : T.heap = h_50 := e_50.symm
  refine Ow.astore X hx (pc := 53) #[_, _, _, _, _, _, _, _, _, _, _, _, _, _] (hb hby at_53) rfl rfl ?_
  refine Ow.new_ X hx D.hZ hown (ww hw 37 rfl) (ww hw 38 rfl) (ww hw 39 rfl) eT (pc := 55) (hb hby at_55) (by decide) (by decide) ?_
  intro T h_al2 al2 ha_al2 X eT E_al2 A_al2 D_al2 U_al2
  have l_al2 : h0.size ≤ al2 := by rw [ha_al2]; exact F.size
  have ne_de_al2 : de ≠ al2 := by rw [ha_al2]; exact Nat.ne_of_lt Bd.lt
  have ne_el_al2 : el ≠ al2 := by rw [ha_al2]; exact Nat.ne_of_lt Ee.lt
  have ne_ea0_al2 : ea0 ≠ al2 := by rw [ha_al2]; exact Nat.ne_of_lt Be.lt
  have ne_y0_al2 : y0 ≠ al2 := by rw [ha_al2]; exact Nat.ne_of_lt St0.lt
  have ne_t0_al2 : t0 ≠ al2 := by rw [ha_al2]; exact Nat.ne_of_lt St0.ltB
  have ne_y1_al2 : y1 ≠ al2 := by rw [ha_al2]; exact Nat.ne_of_lt St1.lt
  have ne_t1_al2 : t1 ≠ al2 := by rw [ha_al2]; exact Nat.ne_of_lt St1.ltB
  have ne_y2_al2 : y2 ≠ al2 := by rw [ha_al2]; exact Nat.ne_of_lt St2.lt
  have ne_t2_al2 : t2 ≠ al2 := by rw [ha_al2]; exact Nat.ne_of_lt St2.ltB
  have S_al2 := D.safeNew E_al2
  rw [← ha_al2] at S_al2
  have S := S.ext E_al2
  have SD := SD.ext E_al2
  have SE := SE.ext E_al2
  have Bd := Bd.ext E_al2
  have Ee := Ee.ext E_al2
  have Fl0 := Fl0.ext E_al2
  have Be := Be.ext E_al2
  have St0 := St0.ext E_al2
  have St1 := St1.ext E_al2
  have St2 := St2.ext E_al2
  have F := F.ext E_al2
  have D := D.ext E_al2
  have Z_elementData := D_al2 (Or.inl (ww hw 60 rfl)) (ty := (.array (.object "java/lang/Object"))) (by decide)
  have Z_size := D_al2 (Or.inl (ww hw 69 rfl)) (ty := .int) (by decide)
  have Z_modCount := D_al2 (Or.inl (ww hw 57 rfl)) (ty := .int) (by decide)
  have P1 := Ow.Exa.plain A_al2
  refine Ow.dup X hx (pc := 58) (hb hby at_58) rfl ?_
  refine Ow.callI X hx D.hZ (c_arinit l Z a0 hw _ al2 A_al2 Z_elementData Z_size Z_modCount de kd SD Bd ne_de_al2) eT rfl hown (ww hw 40 rfl) (ww hw 41 rfl) (ww hw 39 rfl) (ww hw 42 rfl) (by decide) pd0 (by rw [hml]; rfl) (argsL := []) rfl rfl rfl (pc := 59) (hb hby at_59) rfl rfl (by decide) (by decide) ?_
  rintro _ T L X ⟨rfl, F2, A2⟩
  dsimp only [Option.toList_some, Option.toList_none, List.cons_append, List.nil_append]
  have F := F.call F2 (fun y hy => by cases List.mem_singleton.mp hy; exact Or.inr l_al2)
  have D := D.keep F2.1 (fun y hy => by cases List.mem_singleton.mp hy; exact S_al2)
  have S := Ow.staKeep S F2.1 (fun y hy => by cases List.mem_singleton.mp hy; exact P1)
  have SD := Ow.staKeep SD F2.1 (fun y hy => by cases List.mem_singleton.mp hy; exact P1)
  have SE := Ow.staKeep SE F2.1 (fun y hy => by cases List.mem_singleton.mp hy; exact P1)
  have Bd := Bd.keep F2.1 (Ow.nin1 ne_de_al2)
  have Ee := Ee.keep F2.1
  have Fl0 := Fl0.keep F2.1 (Ow.nin1 ne_el_al2)
  have Be := Be.keep F2.1 (Ow.nin1 ne_ea0_al2)
  have St0 := St0.keep F2.1 (Ow.nin1 ne_y0_al2) (Ow.nin1 ne_t0_al2)
  have St1 := St1.keep F2.1 (Ow.nin1 ne_y1_al2) (Ow.nin1 ne_t1_al2)
  have St2 := St2.keep F2.1 (Ow.nin1 ne_y2_al2) (Ow.nin1 ne_t2_al2)
  obtain ⟨h_59, e_59⟩ : ∃ q, q = T.heap := ⟨_, rfl⟩
  rw [← e_59] at F D S SD SE Bd Ee Fl0 Be St0 St1 St2 A2
  have eT : T.heap = h_59 := e_59.symm
  refine Ow.astore X hx (pc := 62) #[_, _, _, _, _, _, _, _, _, _, _, _, _, _] (hb hby at_62) rfl rfl ?_
  refine Ow.iload X hx (pc := 64) (hb hby at_64) rfl ?_
  refine Ow.if_le X hx (pc := 66) (pc' := 77) (hb hby at_66) (by decide) (by decide) (fun h66 => ?_) (fun q => absurd q (by decide))
  refine Ow.iload X hx (pc := 77) (hb hby at_77) rfl ?_
  refine Ow.iconst X hx (pc := 79) (1) (hb hby at_79) (by decide) ?_
  refine Ow.icmp_le X hx (pc := 80) (pc' := 91) (hb hby at_80) (by decide) (by decide) (fun h80 => ?_) (fun q => absurd q (by decide))
  refine Ow.iload X hx (pc := 91) (hb hby at_91) rfl ?_
  refine Ow.iconst X hx (pc := 93) (2) (hb hby at_93) (by decide) ?_
  refine Ow.icmp_le X hx (pc := 94) (pc' := 105) (hb hby at_94) (by decide) (by decide) (fun h94 => ?_) (fun q => absurd q (by decide))
  refine Ow.aload X hx (pc := 105) (hb hby at_105) rfl rfl ?_
  refine Ow.aconst_null X hx (pc := 107) (hb hby at_107) ?_
  refine Ow.callSW X hx (c_parse0 l Z a0 hw hEL _ z S hz al2 de kd SD Bd A2) eT D hEL (fun _ q => nomatch q) hown (ww hw 92 rfl) (ww hw 93 rfl) (ww hw 94 rfl) (ww hw 95 rfl) (by decide) pd24 (by rw [hml]; rfl) (argsL := [_, _]) rfl rfl rfl (pc := 108) (hb hby at_108) rfl rfl (by decide) (by decide) ?_
  rintro _ vm9 T L X ⟨o, hm, al3, rfl, F2, A_o, Fv, Fa, A_hm, Ft, A3⟩ D hown C1
  dsimp only [Option.toList_some, Option.toList_none, List.cons_append, List.nil_append]
  have F := F.call F2 (fun _ q => nomatch q)
  have S := S.ext (Ow.Keep.ext0 F2.1)
  have SD := SD.ext (Ow.Keep.ext0 F2.1)
  have SE := SE.ext (Ow.Keep.ext0 F2.1)
  have Bd := Bd.ext (Ow.Keep.ext0 F2.1)
  have Ee := Ee.ext (Ow.Keep.ext0 F2.1)
  have Fl0 := Fl0.ext (Ow.Keep.ext0 F2.1)
  have Be := Be.ext (Ow.Keep.ext0 F2.1)
  have St0 := St0.ext (Ow.Keep.ext0 F2.1)
  have St1 := St1.ext (Ow.Keep.ext0 F2.1)
  have St2 := St2.ext (Ow.Keep.ext0 F2.1)
  have A2 := A2.ext (Ow.Keep.ext0 F2.1)
  obtain ⟨h_108, e_108⟩ : ∃ q, q = T.heap := ⟨_, rfl⟩
  rw [← e_108] at F D S SD SE Bd Ee Fl0 Be St0 St1 St2 A2 A_o Fv Fa A_hm Ft A3
  have eT : T.heap = h_108 := e_108.symm
  refine Ow.astore X hx (pc := 111) #[_, _, _, _, _, _, _, _, _, _, _, _, _, _] (hb hby at_111) rfl rfl ?_
  refine Ow.aload X hx (pc := 113) (hb hby at_113) rfl rfl ?_
  refine Ow.callVP X hx D.hZ (c_oargs l Z a0 hw _ o al3 Fa) rfl rfl eT hown (ww hw 182 rfl) (ww hw 183 rfl) (ww hw 185 rfl) (ww hw 184 rfl) (ww hw 94 rfl) (ww hw 186 rfl) (by decide) pd19 (by rw [hml]; rfl) A_o (argsL := []) rfl rfl rfl (pc := 115) (hb hby at_115) rfl rfl (by decide) (by decide) ?_   -- com/example/rowgate/rowgate/Options.arguments:()Ljava/util/List;
  intro T X eT
  dsimp only [Option.toList_some, Option.toList_none, List.cons_append, List.nil_append]
  refine Ow.astore X hx (pc := 118) #[_, _, _, _, _, _, _, _, _, _, _, _, _, _] (hb hby at_118) rfl rfl ?_
  refine Ow.aload X hx (pc := 120) (hb hby at_120) rfl rfl ?_
  refine Ow.callFP X hx D.hZ (c_size l Z a0 hw _ al3 _ A3.2.2.1) rfl rfl eT hown (ww hw 187 rfl) (ww hw 115 rfl) (ww hw 117 rfl) (ww hw 118 rfl) (ww hw 116 rfl) (ww hw 119 rfl) (ww hw 120 rfl) (ww hw 121 rfl) (ww hw 39 rfl) (ww hw 122 rfl) (by decide) pd14 (by rw [hml]; rfl) A3.1 (argsL := []) rfl rfl rfl (pc := 122) (hb hby at_122) rfl rfl (by decide) (by decide) ?_
  intro T X eT
  dsimp only [Option.toList_some, Option.toList_none, List.cons_append, List.nil_append]
  refine Ow.iload X hx (pc := 127) (hb hby at_127) rfl ?_
  refine Ow.icmp_ne X hx (pc := 129) (pc' := 136) (hb hby at_129) (by decide) (by decide) (fun q => absurd rfl q) (fun h129 => ?_)
  refine Ow.iconst X hx (pc := 132) (1) (hb hby at_132) (by decide) ?_
  refine Ow.goto X hx (pc := 133) (pc' := 137) (hb hby at_133) (by decide) (by decide) ?_
  refine Ow.istore X hx (pc := 137) #[_, _, _, _, _, _, _, _, _, _, _, _, _, _] (hb hby at_137) rfl ?_
  refine Ow.iload X hx (pc := 139) (hb hby at_139) rfl ?_
  refine Ow.if_eq X hx (pc := 141) (pc' := 167) (hb hby at_141) (by decide) (by decide) (fun q => absurd q (by decide)) (fun h141 => ?_)
  refine Ow.iload X hx (pc := 144) (hb hby at_144) rfl ?_
  refine Ow.if_le X hx (pc := 146) (pc' := 167) (hb hby at_146) (by decide) (by decide) (fun h146 => ?_) (fun q => absurd q (by decide))
  refine Ow.iload X hx (pc := 167) (hb hby at_167) rfl ?_
  refine Ow.if_eq X hx (pc := 169) (pc' := 196) (hb hby at_169) (by decide) (by decide) (fun q => absurd q (by decide)) (fun h169 => ?_)
  refine Ow.iload X hx (pc := 172) (hb hby at_172) rfl ?_
  refine Ow.iconst X hx (pc := 174) (1) (hb hby at_174) (by decide) ?_
  refine Ow.icmp_le X hx (pc := 175) (pc' := 196) (hb hby at_175) (by decide) (by decide) (fun h175 => ?_) (fun q => absurd q (by decide))
  refine Ow.iload X hx (pc := 196) (hb hby at_196) rfl ?_
  refine Ow.if_eq X hx (pc := 198) (pc' := 225) (hb hby at_198) (by decide) (by decide) (fun q => absurd q (by decide)) (fun h198 => ?_)
  refine Ow.iload X hx (pc := 201) (hb hby at_201) rfl ?_
  refine Ow.iconst X hx (pc := 203) (2) (hb hby at_203) (by decide) ?_
  refine Ow.icmp_le X hx (pc := 204) (pc' := 225) (hb hby at_204) (by decide) (by decide) (fun h204 => ?_) (fun q => absurd q (by decide))
  refine Ow.iload X hx (pc := 225) (hb hby at_225) rfl ?_
  refine Ow.if_eq X hx (pc := 227) (pc' := 249) (hb hby at_227) (by decide) (by decide) (fun q => absurd q (by decide)) (fun h227 => ?_)
  refine Ow.aload X hx (pc := 230) (hb hby at_230) rfl rfl ?_
  refine Ow.aload X hx (pc := 232) (hb hby at_232) rfl rfl ?_
  refine Ow.callVP X hx D.hZ (c_all l Z a0 hw _ o hm x el Fv A_hm Ft SE Ee) rfl rfl eT hown (ww hw 194 rfl) (ww hw 195 rfl) (ww hw 197 rfl) (ww hw 196 rfl) (ww hw 94 rfl) (ww hw 198 rfl) (by decide) pd25 (by rw [hml]; rfl) A_o (argsL := [_]) rfl rfl rfl (pc := 234) (hb hby at_234) rfl rfl (by decide) (by decide) ?_   -- com/example/rowgate/rowgate/Options.all:(Ljava/lang/String;)Ljava/util/List;
  intro T X eT
  dsimp only [Option.toList_some, Option.toList_none, List.cons_append, List.nil_append]
  refine Ow.callFP X hx D.hZ (c_lnsize l Z a0 hw _ el ea0 ka0 Fl0 Be) rfl rfl eT hown (ww hw 187 rfl) (ww hw 115 rfl) (ww hw 223 rfl) (ww hw 224 rfl) (ww hw 116 rfl) (ww hw 225 rfl) (ww hw 226 rfl) (ww hw 222 rfl) (ww hw 227 rfl) (ww hw 228 rfl) (by decide) pd14 (by rw [hml]; rfl) Ee (argsL := []) rfl rfl rfl (pc := 237) (hb hby at_237) rfl rfl (by decide) (by decide) ?_
  intro T X eT
  dsimp only [Option.toList_some, Option.toList_none, List.cons_append, List.nil_append]
  refine Ow.if_ne X hx (pc := 242) (pc' := 249) (hb hby at_242) (by decide) (by decide) (fun q => absurd rfl q) (fun h242 => ?_)
  refine Ow.iconst X hx (pc := 245) (1) (hb hby at_245) (by decide) ?_
  refine Ow.goto X hx (pc := 246) (pc' := 250) (hb hby at_246) (by decide) (by decide) ?_
  exact Ow.nreturnW X hx eT D hEL hlk hret (Or.inl rfl) (hb hby at_250) ⟨rfl, by rw [eT]; exact F⟩ (by decide) (by decide)
set_option maxRecDepth 65536 in
set_option maxHeartbeats 40000000 in
theorem law_1 (l : Launch) (Z : State) (a0 : Array Value) (hw : ∀ d ∈ tables_1, d.before a0 Z = true) (hEL : EW Z a0 EL) (h0 : Heap) (z p0 p1 p2 p3 p4 : Int32) (S : Sta Z h0 "java/lang/String" "COMPACT_STRINGS" "Z" (.int z)) (hz : ¬ z = 0) (de el ea0 : Addr) (kd ka0 : ClassId) (SD : Sta Z h0 "java/util/ArrayList" "DEFAULTCAPACITY_EMPTY_ELEMENTDATA" "[Ljava/lang/Object;" (.ref de)) (Bd : Ow.AL Z h0 de kd (.object "java/lang/Object") []) (SE : Sta Z h0 "java/util/ImmutableCollections" "EMPTY_LIST" "Ljava/util/ImmutableCollections$ListN;" (.ref el)) (Ee : Exa Z h0 el "java/util/ImmutableCollections$ListN") (Fl0 : Fld Z h0 el "java/util/ImmutableCollections$ListN" "elements" "[Ljava/lang/Object;" (.ref ea0)) (Be : Ow.AL Z h0 ea0 ka0 (.object "java/lang/Object") []) (hn : p3 &&& 3 = 1) : Ow.PayW l Z EL [] x code maxLocals ret room_1 #[(.int p0), (.int p1), (.int p2), (.int p3), (.int p4)] h0 (fun v h L => v = some (.int 1) ∧ Ow.Eff h0 h [] L) := by
  refine Ow.PayW.of (Ls := #[.val (.int p0), .val (.int p1), .val (.int p2), .val (.int p3), .val (.int p4), .unset, .unset, .unset, .unset, .unset, .unset, .unset, .unset, .unset]) (plainFor_of_name pn10) (fun m => by first | rfl | (simp [entryFrame, mkF, argsToLocals, Value.category, maxLocals]; done)) ?_
  intro p e s m below meth c T vm0 hx hby hml hown hnm hme hret hlk X eT D hsf
  have F := Ow.Eff.refl h0 []
  obtain ⟨ke, hke⟩ := own_mask8 p4
  refine Ow.iloadN X hx (pc := 0) (hb hby at_0) rfl ?_
  refine Ow.iconst X hx (pc := 1) (3) (hb hby at_1) (by decide) ?_
  refine Ow.iand X hx (pc := 2) (hb hby at_2) ?_
  rw [hn]
  refine Ow.istore X hx (pc := 3) #[_, _, _, _, _, _, _, _, _, _, _, _, _, _] (hb hby at_3) rfl ?_
  refine Ow.iloadN X hx (pc := 5) (hb hby at_5) rfl ?_
  refine Ow.callSW X hx (c_word l Z a0 hw hEL _ z S hz p0) eT D hEL (fun _ q => nomatch q) hown (ww hw 0 rfl) (ww hw 1 rfl) (ww hw 2 rfl) (ww hw 3 rfl) (by decide) pd23 (by rw [hml]; rfl) (argsL := [_]) rfl rfl rfl (pc := 6) (hb hby at_6) rfl rfl (by decide) (by decide) ?_
  rintro _ vm0 T L X ⟨y0, t0, k0, bs0, rfl, F2, St0, hl0, hp0⟩ D hown C1
  dsimp only [Option.toList_some, Option.toList_none, List.cons_append, List.nil_append]
  have F := F.call F2 (fun _ q => nomatch q)
  have S := S.ext (Ow.Keep.ext0 F2.1)
  have SD := SD.ext (Ow.Keep.ext0 F2.1)
  have SE := SE.ext (Ow.Keep.ext0 F2.1)
  have Bd := Bd.ext (Ow.Keep.ext0 F2.1)
  have Ee := Ee.ext (Ow.Keep.ext0 F2.1)
  have Fl0 := Fl0.ext (Ow.Keep.ext0 F2.1)
  have Be := Be.ext (Ow.Keep.ext0 F2.1)
  obtain ⟨h_w0, e_w0⟩ : ∃ q, q = T.heap := ⟨_, rfl⟩
  rw [← e_w0] at F D S SD SE Bd Ee Fl0 Be St0
  have eT : T.heap = h_w0 := e_w0.symm
  refine Ow.astore X hx (pc := 9) #[_, _, _, _, _, _, _, _, _, _, _, _, _, _] (hb hby at_9) rfl rfl ?_
  refine Ow.iloadN X hx (pc := 11) (hb hby at_11) rfl ?_
  refine Ow.callSW X hx (c_word l Z a0 hw hEL _ z S hz p1) eT D hEL (fun _ q => nomatch q) hown (ww hw 0 rfl) (ww hw 1 rfl) (ww hw 2 rfl) (ww hw 3 rfl) (by decide) pd23 (by rw [hml]; rfl) (argsL := [_]) rfl rfl rfl (pc := 12) (hb hby at_12) rfl rfl (by decide) (by decide) ?_
  rintro _ vm1 T L X ⟨y1, t1, k1, bs1, rfl, F2, St1, hl1, hp1⟩ D hown C1
  dsimp only [Option.toList_some, Option.toList_none, List.cons_append, List.nil_append]
  have F := F.call F2 (fun _ q => nomatch q)
  have S := S.ext (Ow.Keep.ext0 F2.1)
  have SD := SD.ext (Ow.Keep.ext0 F2.1)
  have SE := SE.ext (Ow.Keep.ext0 F2.1)
  have Bd := Bd.ext (Ow.Keep.ext0 F2.1)
  have Ee := Ee.ext (Ow.Keep.ext0 F2.1)
  have Fl0 := Fl0.ext (Ow.Keep.ext0 F2.1)
  have Be := Be.ext (Ow.Keep.ext0 F2.1)
  have St0 := St0.ext (Ow.Keep.ext0 F2.1)
  obtain ⟨h_w1, e_w1⟩ : ∃ q, q = T.heap := ⟨_, rfl⟩
  rw [← e_w1] at F D S SD SE Bd Ee Fl0 Be St0 St1
  have eT : T.heap = h_w1 := e_w1.symm
  refine Ow.astore X hx (pc := 15) #[_, _, _, _, _, _, _, _, _, _, _, _, _, _] (hb hby at_15) rfl rfl ?_
  refine Ow.iloadN X hx (pc := 17) (hb hby at_17) rfl ?_
  refine Ow.callSW X hx (c_word l Z a0 hw hEL _ z S hz p2) eT D hEL (fun _ q => nomatch q) hown (ww hw 0 rfl) (ww hw 1 rfl) (ww hw 2 rfl) (ww hw 3 rfl) (by decide) pd23 (by rw [hml]; rfl) (argsL := [_]) rfl rfl rfl (pc := 18) (hb hby at_18) rfl rfl (by decide) (by decide) ?_
  rintro _ vm2 T L X ⟨y2, t2, k2, bs2, rfl, F2, St2, hl2, hp2⟩ D hown C1
  dsimp only [Option.toList_some, Option.toList_none, List.cons_append, List.nil_append]
  have F := F.call F2 (fun _ q => nomatch q)
  have S := S.ext (Ow.Keep.ext0 F2.1)
  have SD := SD.ext (Ow.Keep.ext0 F2.1)
  have SE := SE.ext (Ow.Keep.ext0 F2.1)
  have Bd := Bd.ext (Ow.Keep.ext0 F2.1)
  have Ee := Ee.ext (Ow.Keep.ext0 F2.1)
  have Fl0 := Fl0.ext (Ow.Keep.ext0 F2.1)
  have Be := Be.ext (Ow.Keep.ext0 F2.1)
  have St0 := St0.ext (Ow.Keep.ext0 F2.1)
  have St1 := St1.ext (Ow.Keep.ext0 F2.1)
  obtain ⟨h_w2, e_w2⟩ : ∃ q, q = T.heap := ⟨_, rfl⟩
  rw [← e_w2] at F D S SD SE Bd Ee Fl0 Be St0 St1 St2
  have eT : T.heap = h_w2 := e_w2.symm
  refine Ow.astore X hx (pc := 21) #[_, _, _, _, _, _, _, _, _, _, _, _, _, _] (hb hby at_21) rfl rfl ?_
  refine Ow.new_ X hx D.hZ hown (ww hw 4 rfl) (ww hw 5 rfl) (ww hw 6 rfl) eT (pc := 23) (hb hby at_23) (by decide) (by decide) ?_
  intro T h_x x ha_x X eT E_x A_x D_x U_x
  have l_x : h0.size ≤ x := by rw [ha_x]; exact F.size
  have ne_de_x : de ≠ x := by rw [ha_x]; exact Nat.ne_of_lt Bd.lt
  have ne_el_x : el ≠ x := by rw [ha_x]; exact Nat.ne_of_lt Ee.lt
  have ne_ea0_x : ea0 ≠ x := by rw [ha_x]; exact Nat.ne_of_lt Be.lt
  have ne_y0_x : y0 ≠ x := by rw [ha_x]; exact Nat.ne_of_lt St0.lt
  have ne_t0_x : t0 ≠ x := by rw [ha_x]; exact Nat.ne_of_lt St0.ltB
  have ne_y1_x : y1 ≠ x := by rw [ha_x]; exact Nat.ne_of_lt St1.lt
  have ne_t1_x : t1 ≠ x := by rw [ha_x]; exact Nat.ne_of_lt St1.ltB
  have ne_y2_x : y2 ≠ x := by rw [ha_x]; exact Nat.ne_of_lt St2.lt
  have ne_t2_x : t2 ≠ x := by rw [ha_x]; exact Nat.ne_of_lt St2.ltB
  have S_x := D.safeNew E_x
  rw [← ha_x] at S_x
  have S := S.ext E_x
  have SD := SD.ext E_x
  have SE := SE.ext E_x
  have Bd := Bd.ext E_x
  have Ee := Ee.ext E_x
  have Fl0 := Fl0.ext E_x
  have Be := Be.ext E_x
  have St0 := St0.ext E_x
  have St1 := St1.ext E_x
  have St2 := St2.ext E_x
  have F := F.ext E_x
  have D := D.ext E_x
  have V_x := D_x (Or.inr (ww hw 20 rfl)) (ty := .array .byte) (by decide)
  have C_x := D_x (Or.inr (ww hw 21 rfl)) (ty := .byte) (by decide)
  refine Ow.dup X hx (pc := 26) (hb hby at_26) rfl ?_
  refine Ow.iconst X hx (pc := 27) (3) (hb hby at_27) (by decide) ?_
  refine Ow.newarrayL X hx D.hZ (ww hw 7 rfl) eT 3 (vs := [_, _, _]) rfl (pc := 28) (hb hby at_28) (by decide) (by decide) (by decide) (by decide) (by decide) ?_
  intro T h_cA k_cA cA ha_cA X eT E_cA B_cA
  have l_cA : h0.size ≤ cA := by rw [ha_cA]; exact F.size
  have ne_de_cA : de ≠ cA := by rw [ha_cA]; exact Nat.ne_of_lt Bd.lt
  have ne_el_cA : el ≠ cA := by rw [ha_cA]; exact Nat.ne_of_lt Ee.lt
  have ne_ea0_cA : ea0 ≠ cA := by rw [ha_cA]; exact Nat.ne_of_lt Be.lt
  have ne_y0_cA : y0 ≠ cA := by rw [ha_cA]; exact Nat.ne_of_lt St0.lt
  have ne_t0_cA : t0 ≠ cA := by rw [ha_cA]; exact Nat.ne_of_lt St0.ltB
  have ne_y1_cA : y1 ≠ cA := by rw [ha_cA]; exact Nat.ne_of_lt St1.lt
  have ne_t1_cA : t1 ≠ cA := by rw [ha_cA]; exact Nat.ne_of_lt St1.ltB
  have ne_y2_cA : y2 ≠ cA := by rw [ha_cA]; exact Nat.ne_of_lt St2.lt
  have ne_t2_cA : t2 ≠ cA := by rw [ha_cA]; exact Nat.ne_of_lt St2.ltB
  have ne_x_cA : x ≠ cA := by rw [ha_cA]; exact Nat.ne_of_lt A_x.lt
  have S_cA := D.safeNew E_cA
  rw [← ha_cA] at S_cA
  have S := S.ext E_cA
  have SD := SD.ext E_cA
  have SE := SE.ext E_cA
  have Bd := Bd.ext E_cA
  have Ee := Ee.ext E_cA
  have Fl0 := Fl0.ext E_cA
  have Be := Be.ext E_cA
  have St0 := St0.ext E_cA
  have St1 := St1.ext E_cA
  have St2 := St2.ext E_cA
  have A_x := A_x.ext E_cA
  have V_x := V_x.ext E_cA
  have C_x := C_x.ext E_cA
  have S_x := D.safeExt E_cA S_x
  have F := F.ext E_cA
  have D := D.ext E_cA
  refine Ow.dup X hx (pc := 30) (hb hby at_30) rfl ?_
  refine Ow.iconst X hx (pc := 31) (0) (hb hby at_31) (by decide) ?_
  refine Ow.bipush X hx (pc := 32) (45) (hb hby at_32) (by decide) ?_
  refine Ow.castoreL X hx D.hZ eT B_cA 0 [_, _, _] (by decide) (by decide) rfl rfl (pc := 34) (hb hby at_34) ?_
  intro T h_34 X eT W_34 B_cA
  rw [show nar .char (45 : Int32) = 45 from by decide] at B_cA W_34
  have S := S.wr W_34
  have SD := SD.wr W_34
  have SE := SE.wr W_34
  have Bd := Bd.other W_34 ne_de_cA
  have Ee := Ee.wr W_34
  have Fl0 := Fl0.other W_34 (Or.inl ne_el_cA)
  have Be := Be.other W_34 ne_ea0_cA
  have St0 := St0.keep (Keep.of_wr W_34) (Ow.nin1 ne_y0_cA) (Ow.nin1 ne_t0_cA)
  have St1 := St1.keep (Keep.of_wr W_34) (Ow.nin1 ne_y1_cA) (Ow.nin1 ne_t1_cA)
  have St2 := St2.keep (Keep.of_wr W_34) (Ow.nin1 ne_y2_cA) (Ow.nin1 ne_t2_cA)
  have A_x := A_x.wr W_34
  have V_x := V_x.other W_34 (Or.inl ne_x_cA)
  have C_x := C_x.other W_34 (Or.inl ne_x_cA)
  have S_tmp := S_cA
  have S_x := D.safeWr W_34 S_tmp S_x
  have S_cA := D.safeWr W_34 S_tmp S_cA
  have D := D.wr W_34 S_tmp
  have F := F.wr W_34 (Or.inr l_cA)
  refine Ow.dup X hx (pc := 35) (hb hby at_35) rfl ?_
  refine Ow.iconst X hx (pc := 36) (1) (hb hby at_36) (by decide) ?_
  refine Ow.bipush X hx (pc := 37) (45) (hb hby at_37) (by decide) ?_
  refine Ow.castoreL X hx D.hZ eT B_cA 1 [_, _, _] (by decide) (by decide) rfl rfl (pc := 39) (hb hby at_39) ?_
  intro T h_39 X eT W_39 B_cA
  rw [show nar .char (45 : Int32) = 45 from by decide] at B_cA W_39
  have S := S.wr W_39
  have SD := SD.wr W_39
  have SE := SE.wr W_39
  have Bd := Bd.other W_39 ne_de_cA
  have Ee := Ee.wr W_39
  have Fl0 := Fl0.other W_39 (Or.inl ne_el_cA)
  have Be := Be.other W_39 ne_ea0_cA
  have St0 := St0.keep (Keep.of_wr W_39) (Ow.nin1 ne_y0_cA) (Ow.nin1 ne_t0_cA)
  have St1 := St1.keep (Keep.of_wr W_39) (Ow.nin1 ne_y1_cA) (Ow.nin1 ne_t1_cA)
  have St2 := St2.keep (Keep.of_wr W_39) (Ow.nin1 ne_y2_cA) (Ow.nin1 ne_t2_cA)
  have A_x := A_x.wr W_39
  have V_x := V_x.other W_39 (Or.inl ne_x_cA)
  have C_x := C_x.other W_39 (Or.inl ne_x_cA)
  have S_tmp := S_cA
  have S_x := D.safeWr W_39 S_tmp S_x
  have S_cA := D.safeWr W_39 S_tmp S_cA
  have D := D.wr W_39 S_tmp
  have F := F.wr W_39 (Or.inr l_cA)
  refine Ow.dup X hx (pc := 40) (hb hby at_40) rfl ?_
  refine Ow.iconst X hx (pc := 41) (2) (hb hby at_41) (by decide) ?_
  refine Ow.iload X hx (pc := 42) (hb hby at_42) rfl ?_
  refine Ow.sipush X hx (pc := 44) (255) (hb hby at_44) (by decide) ?_
  refine Ow.iand X hx (pc := 47) (hb hby at_47) ?_
  refine Ow.i2c X hx (pc := 48) (hb hby at_48) ?_
  rw [hke, (own_ch8 ke).2.2.2]
  refine Ow.castoreL X hx D.hZ eT B_cA 2 [_, _, _] (by decide) (by decide) rfl rfl (pc := 49) (hb hby at_49) ?_
  intro T h_49 X eT W_49 B_cA
  rw [(own_ch8 ke).2.2.1] at B_cA W_49
  have S := S.wr W_49
  have SD := SD.wr W_49
  have SE := SE.wr W_49
  have Bd := Bd.other W_49 ne_de_cA
  have Ee := Ee.wr W_49
  have Fl0 := Fl0.other W_49 (Or.inl ne_el_cA)
  have Be := Be.other W_49 ne_ea0_cA
  have St0 := St0.keep (Keep.of_wr W_49) (Ow.nin1 ne_y0_cA) (Ow.nin1 ne_t0_cA)
  have St1 := St1.keep (Keep.of_wr W_49) (Ow.nin1 ne_y1_cA) (Ow.nin1 ne_t1_cA)
  have St2 := St2.keep (Keep.of_wr W_49) (Ow.nin1 ne_y2_cA) (Ow.nin1 ne_t2_cA)
  have A_x := A_x.wr W_49
  have V_x := V_x.other W_49 (Or.inl ne_x_cA)
  have C_x := C_x.other W_49 (Or.inl ne_x_cA)
  have S_tmp := S_cA
  have S_x := D.safeWr W_49 S_tmp S_x
  have S_cA := D.safeWr W_49 S_tmp S_cA
  have D := D.wr W_49 S_tmp
  have F := F.wr W_49 (Or.inr l_cA)
  have H8 : ∀ c ∈ ([45, 45, Int32.ofNat ke.val] : List Int32), ∃ k : Fin 256, c = Int32.ofNat k.val := by
    intro c hc
    simp only [List.mem_cons, List.not_mem_nil, or_false] at hc
    rcases hc with rfl | rfl | rfl
    · exact ⟨45, rfl⟩
    · exact ⟨45, rfl⟩
    · exact ⟨ke, rfl⟩
  have P_x := Ow.Exa.plain A_x
  refine strLat X hx D.hZ hw eT hown (ww hw 8 rfl) (cs := [45, 45, Int32.ofNat ke.val]) A_x V_x C_x B_cA S hz 3 rfl (by decide) (by decide) H8 (by rw [hml]; rfl) (pc := 50) (hb hby at_50) rfl rfl (by decide) (by decide) ?_
  intro T L k_x X F2 St_x
  have F := F.call F2 (fun y hy => by cases List.mem_singleton.mp hy; exact Or.inr l_x)
  have D := D.keep F2.1 (fun y hy => by cases List.mem_singleton.mp hy; exact S_x)
  have S := Ow.staKeep S F2.1 (fun y hy => by cases List.mem_singleton.mp hy; exact P_x)
  have SD := Ow.staKeep SD F2.1 (fun y hy => by cases List.mem_singleton.mp hy; exact P_x)
  have SE := Ow.staKeep SE F2.1 (fun y hy => by cases List.mem_singleton.mp hy; exact P_x)
  have Bd := Bd.keep F2.1 (Ow.nin1 ne_de_x)
  have Ee := Ee.keep F2.1
  have Fl0 := Fl0.keep F2.1 (Ow.nin1 ne_el_x)
  have Be := Be.keep F2.1 (Ow.nin1 ne_ea0_x)
  have St0 := St0.keep F2.1 (Ow.nin1 ne_y0_x) (Ow.nin1 ne_t0_x)
  have St1 := St1.keep F2.1 (Ow.nin1 ne_y1_x) (Ow.nin1 ne_t1_x)
  have St2 := St2.keep F2.1 (Ow.nin1 ne_y2_x) (Ow.nin1 ne_t2_x)
  obtain ⟨h_50, e_50⟩ : ∃ q, q = T.heap := ⟨_, rfl⟩
  rw [← e_50] at F D S SD SE Bd Ee Fl0 Be St0 St1 St2
  have eT : T.heap = h_50 := e_50.symm
  refine Ow.astore X hx (pc := 53) #[_, _, _, _, _, _, _, _, _, _, _, _, _, _] (hb hby at_53) rfl rfl ?_
  refine Ow.new_ X hx D.hZ hown (ww hw 37 rfl) (ww hw 38 rfl) (ww hw 39 rfl) eT (pc := 55) (hb hby at_55) (by decide) (by decide) ?_
  intro T h_al2 al2 ha_al2 X eT E_al2 A_al2 D_al2 U_al2
  have l_al2 : h0.size ≤ al2 := by rw [ha_al2]; exact F.size
  have ne_de_al2 : de ≠ al2 := by rw [ha_al2]; exact Nat.ne_of_lt Bd.lt
  have ne_el_al2 : el ≠ al2 := by rw [ha_al2]; exact Nat.ne_of_lt Ee.lt
  have ne_ea0_al2 : ea0 ≠ al2 := by rw [ha_al2]; exact Nat.ne_of_lt Be.lt
  have ne_y0_al2 : y0 ≠ al2 := by rw [ha_al2]; exact Nat.ne_of_lt St0.lt
  have ne_t0_al2 : t0 ≠ al2 := by rw [ha_al2]; exact Nat.ne_of_lt St0.ltB
  have ne_y1_al2 : y1 ≠ al2 := by rw [ha_al2]; exact Nat.ne_of_lt St1.lt
  have ne_t1_al2 : t1 ≠ al2 := by rw [ha_al2]; exact Nat.ne_of_lt St1.ltB
  have ne_y2_al2 : y2 ≠ al2 := by rw [ha_al2]; exact Nat.ne_of_lt St2.lt
  have ne_t2_al2 : t2 ≠ al2 := by rw [ha_al2]; exact Nat.ne_of_lt St2.ltB
  have S_al2 := D.safeNew E_al2
  rw [← ha_al2] at S_al2
  have S := S.ext E_al2
  have SD := SD.ext E_al2
  have SE := SE.ext E_al2
  have Bd := Bd.ext E_al2
  have Ee := Ee.ext E_al2
  have Fl0 := Fl0.ext E_al2
  have Be := Be.ext E_al2
  have St0 := St0.ext E_al2
  have St1 := St1.ext E_al2
  have St2 := St2.ext E_al2
  have F := F.ext E_al2
  have D := D.ext E_al2
  have Z_elementData := D_al2 (Or.inl (ww hw 60 rfl)) (ty := (.array (.object "java/lang/Object"))) (by decide)
  have Z_size := D_al2 (Or.inl (ww hw 69 rfl)) (ty := .int) (by decide)
  have Z_modCount := D_al2 (Or.inl (ww hw 57 rfl)) (ty := .int) (by decide)
  have P1 := Ow.Exa.plain A_al2
  refine Ow.dup X hx (pc := 58) (hb hby at_58) rfl ?_
  refine Ow.callI X hx D.hZ (c_arinit l Z a0 hw _ al2 A_al2 Z_elementData Z_size Z_modCount de kd SD Bd ne_de_al2) eT rfl hown (ww hw 40 rfl) (ww hw 41 rfl) (ww hw 39 rfl) (ww hw 42 rfl) (by decide) pd0 (by rw [hml]; rfl) (argsL := []) rfl rfl rfl (pc := 59) (hb hby at_59) rfl rfl (by decide) (by decide) ?_
  rintro _ T L X ⟨rfl, F2, A2⟩
  dsimp only [Option.toList_some, Option.toList_none, List.cons_append, List.nil_append]
  have F := F.call F2 (fun y hy => by cases List.mem_singleton.mp hy; exact Or.inr l_al2)
  have D := D.keep F2.1 (fun y hy => by cases List.mem_singleton.mp hy; exact S_al2)
  have S := Ow.staKeep S F2.1 (fun y hy => by cases List.mem_singleton.mp hy; exact P1)
  have SD := Ow.staKeep SD F2.1 (fun y hy => by cases List.mem_singleton.mp hy; exact P1)
  have SE := Ow.staKeep SE F2.1 (fun y hy => by cases List.mem_singleton.mp hy; exact P1)
  have Bd := Bd.keep F2.1 (Ow.nin1 ne_de_al2)
  have Ee := Ee.keep F2.1
  have Fl0 := Fl0.keep F2.1 (Ow.nin1 ne_el_al2)
  have Be := Be.keep F2.1 (Ow.nin1 ne_ea0_al2)
  have St0 := St0.keep F2.1 (Ow.nin1 ne_y0_al2) (Ow.nin1 ne_t0_al2)
  have St1 := St1.keep F2.1 (Ow.nin1 ne_y1_al2) (Ow.nin1 ne_t1_al2)
  have St2 := St2.keep F2.1 (Ow.nin1 ne_y2_al2) (Ow.nin1 ne_t2_al2)
  obtain ⟨h_59, e_59⟩ : ∃ q, q = T.heap := ⟨_, rfl⟩
  rw [← e_59] at F D S SD SE Bd Ee Fl0 Be St0 St1 St2 A2
  have eT : T.heap = h_59 := e_59.symm
  refine Ow.astore X hx (pc := 62) #[_, _, _, _, _, _, _, _, _, _, _, _, _, _] (hb hby at_62) rfl rfl ?_
  refine Ow.iload X hx (pc := 64) (hb hby at_64) rfl ?_
  refine Ow.if_le X hx (pc := 66) (pc' := 77) (hb hby at_66) (by decide) (by decide) (fun q => absurd (by decide) q) (fun h66 => ?_)
  refine Ow.aload X hx (pc := 69) (hb hby at_69) rfl rfl ?_
  refine Ow.aload X hx (pc := 71) (hb hby at_71) rfl rfl ?_
  have h_al2 := A2.lt
  have P1 := Ow.Exa.plain A2.1
  have Q1 : Safe Z EL _ _ al2 := Safe.exa D.hZ.alike A2.1 (by decide) (by decide)
  refine Ow.callV X hx D.hZ (c_addE l Z a0 hw _ al2 de kd A2 SD ne_de_al2 y0 St0.1) eT hown (ww hw 61 rfl) (ww hw 62 rfl) (ww hw 64 rfl) (ww hw 63 rfl) (ww hw 39 rfl) (ww hw 65 rfl) (by decide) pd22 (by rw [hml]; rfl) A2.1 (argsL := [_]) rfl rfl rfl (pc := 73) (hb hby at_73) rfl rfl (by decide) (by decide) ?_
  rintro _ T L X ⟨rfl, F2, ed2, ke2, l_ed2, A2⟩
  dsimp only [Option.toList_some, Option.toList_none, List.cons_append, List.nil_append]
  have ne_de_ed2 : de ≠ ed2 := Nat.ne_of_lt (Nat.lt_of_lt_of_le Bd.lt l_ed2)
  have ne_el_ed2 : el ≠ ed2 := Nat.ne_of_lt (Nat.lt_of_lt_of_le Ee.lt l_ed2)
  have ne_ea0_ed2 : ea0 ≠ ed2 := Nat.ne_of_lt (Nat.lt_of_lt_of_le Be.lt l_ed2)
  have ne_y0_ed2 : y0 ≠ ed2 := Nat.ne_of_lt (Nat.lt_of_lt_of_le St0.lt l_ed2)
  have ne_t0_ed2 : t0 ≠ ed2 := Nat.ne_of_lt (Nat.lt_of_lt_of_le St0.ltB l_ed2)
  have ne_y1_ed2 : y1 ≠ ed2 := Nat.ne_of_lt (Nat.lt_of_lt_of_le St1.lt l_ed2)
  have ne_t1_ed2 : t1 ≠ ed2 := Nat.ne_of_lt (Nat.lt_of_lt_of_le St1.ltB l_ed2)
  have ne_y2_ed2 : y2 ≠ ed2 := Nat.ne_of_lt (Nat.lt_of_lt_of_le St2.lt l_ed2)
  have ne_t2_ed2 : t2 ≠ ed2 := Nat.ne_of_lt (Nat.lt_of_lt_of_le St2.ltB l_ed2)
  have ne_al2_ed2 : al2 ≠ ed2 := Nat.ne_of_lt (Nat.lt_of_lt_of_le h_al2 l_ed2)
  have l_ed2 := Nat.le_trans F.size l_ed2
  have F := F.call F2 (fun y hy => by cases List.mem_singleton.mp hy; exact Or.inr l_al2)
  have D := D.keep F2.1 (fun y hy => by cases List.mem_singleton.mp hy; exact Q1)
  have S := Ow.staKeep S F2.1 (fun y hy => by cases List.mem_singleton.mp hy; exact P1)
  have SD := Ow.staKeep SD F2.1 (fun y hy => by cases List.mem_singleton.mp hy; exact P1)
  have SE := Ow.staKeep SE F2.1 (fun y hy => by cases List.mem_singleton.mp hy; exact P1)
  have Bd := Bd.keep F2.1 (Ow.nin1 ne_de_al2)
  have Ee := Ee.keep F2.1
  have Fl0 := Fl0.keep F2.1 (Ow.nin1 ne_el_al2)
  have Be := Be.keep F2.1 (Ow.nin1 ne_ea0_al2)
  have St0 := St0.keep F2.1 (Ow.nin1 ne_y0_al2) (Ow.nin1 ne_t0_al2)
  have St1 := St1.keep F2.1 (Ow.nin1 ne_y1_al2) (Ow.nin1 ne_t1_al2)
  have St2 := St2.keep F2.1 (Ow.nin1 ne_y2_al2) (Ow.nin1 ne_t2_al2)
  obtain ⟨h_73, e_73⟩ : ∃ q, q = T.heap := ⟨_, rfl⟩
  rw [← e_73] at F D S SD SE Bd Ee Fl0 Be St0 St1 St2 A2
  have eT : T.heap = h_73 := e_73.symm
  refine Ow.pop X hx (pc := 76) (hb hby at_76) rfl ?_
  refine Ow.iload X hx (pc := 77) (hb hby at_77) rfl ?_
  refine Ow.iconst X hx (pc := 79) (1) (hb hby at_79) (by decide) ?_
  refine Ow.icmp_le X hx (pc := 80) (pc' := 91) (hb hby at_80) (by decide) (by decide) (fun h80 => ?_) (fun q => absurd q (by decide))
  refine Ow.iload X hx (pc := 91) (hb hby at_91) rfl ?_
  refine Ow.iconst X hx (pc := 93) (2) (hb hby at_93) (by decide) ?_
  refine Ow.icmp_le X hx (pc := 94) (pc' := 105) (hb hby at_94) (by decide) (by decide) (fun h94 => ?_) (fun q => absurd q (by decide))
  refine Ow.aload X hx (pc := 105) (hb hby at_105) rfl rfl ?_
  refine Ow.aconst_null X hx (pc := 107) (hb hby at_107) ?_
  refine Ow.callSW X hx (c_parse1 l Z a0 hw hEL _ z S hz al2 de kd SD Bd ed2 ke2 y0 t0 _ _ St0 hl0 hp0 A2) eT D hEL (fun _ q => nomatch q) hown (ww hw 92 rfl) (ww hw 93 rfl) (ww hw 94 rfl) (ww hw 95 rfl) (by decide) pd24 (by rw [hml]; rfl) (argsL := [_, _]) rfl rfl rfl (pc := 108) (hb hby at_108) rfl rfl (by decide) (by decide) ?_
  rintro _ vm9 T L X ⟨o, hm, al3, rfl, F2, A_o, Fv, Fa, A_hm, Ft, ed3, ke3, A3⟩ D hown C1
  dsimp only [Option.toList_some, Option.toList_none, List.cons_append, List.nil_append]
  have F := F.call F2 (fun _ q => nomatch q)
  have S := S.ext (Ow.Keep.ext0 F2.1)
  have SD := SD.ext (Ow.Keep.ext0 F2.1)
  have SE := SE.ext (Ow.Keep.ext0 F2.1)
  have Bd := Bd.ext (Ow.Keep.ext0 F2.1)
  have Ee := Ee.ext (Ow.Keep.ext0 F2.1)
  have Fl0 := Fl0.ext (Ow.Keep.ext0 F2.1)
  have Be := Be.ext (Ow.Keep.ext0 F2.1)
  have St0 := St0.ext (Ow.Keep.ext0 F2.1)
  have St1 := St1.ext (Ow.Keep.ext0 F2.1)
  have St2 := St2.ext (Ow.Keep.ext0 F2.1)
  have A2 := A2.ext (Ow.Keep.ext0 F2.1)
  obtain ⟨h_108, e_108⟩ : ∃ q, q = T.heap := ⟨_, rfl⟩
  rw [← e_108] at F D S SD SE Bd Ee Fl0 Be St0 St1 St2 A2 A_o Fv Fa A_hm Ft A3
  have eT : T.heap = h_108 := e_108.symm
  refine Ow.astore X hx (pc := 111) #[_, _, _, _, _, _, _, _, _, _, _, _, _, _] (hb hby at_111) rfl rfl ?_
  refine Ow.aload X hx (pc := 113) (hb hby at_113) rfl rfl ?_
  refine Ow.callVP X hx D.hZ (c_oargs l Z a0 hw _ o al3 Fa) rfl rfl eT hown (ww hw 182 rfl) (ww hw 183 rfl) (ww hw 185 rfl) (ww hw 184 rfl) (ww hw 94 rfl) (ww hw 186 rfl) (by decide) pd19 (by rw [hml]; rfl) A_o (argsL := []) rfl rfl rfl (pc := 115) (hb hby at_115) rfl rfl (by decide) (by decide) ?_   -- com/example/rowgate/rowgate/Options.arguments:()Ljava/util/List;
  intro T X eT
  dsimp only [Option.toList_some, Option.toList_none, List.cons_append, List.nil_append]
  refine Ow.astore X hx (pc := 118) #[_, _, _, _, _, _, _, _, _, _, _, _, _, _] (hb hby at_118) rfl rfl ?_
  refine Ow.aload X hx (pc := 120) (hb hby at_120) rfl rfl ?_
  refine Ow.callFP X hx D.hZ (c_size l Z a0 hw _ al3 _ A3.2.2.1) rfl rfl eT hown (ww hw 187 rfl) (ww hw 115 rfl) (ww hw 117 rfl) (ww hw 118 rfl) (ww hw 116 rfl) (ww hw 119 rfl) (ww hw 120 rfl) (ww hw 121 rfl) (ww hw 39 rfl) (ww hw 122 rfl) (by decide) pd14 (by rw [hml]; rfl) A3.1 (argsL := []) rfl rfl rfl (pc := 122) (hb hby at_122) rfl rfl (by decide) (by decide) ?_
  intro T X eT
  dsimp only [Option.toList_some, Option.toList_none, List.cons_append, List.nil_append]
  refine Ow.iload X hx (pc := 127) (hb hby at_127) rfl ?_
  refine Ow.icmp_ne X hx (pc := 129) (pc' := 136) (hb hby at_129) (by decide) (by decide) (fun q => absurd rfl q) (fun h129 => ?_)
  refine Ow.iconst X hx (pc := 132) (1) (hb hby at_132) (by decide) ?_
  refine Ow.goto X hx (pc := 133) (pc' := 137) (hb hby at_133) (by decide) (by decide) ?_
  refine Ow.istore X hx (pc := 137) #[_, _, _, _, _, _, _, _, _, _, _, _, _, _] (hb hby at_137) rfl ?_
  refine Ow.iload X hx (pc := 139) (hb hby at_139) rfl ?_
  refine Ow.if_eq X hx (pc := 141) (pc' := 167) (hb hby at_141) (by decide) (by decide) (fun q => absurd q (by decide)) (fun h141 => ?_)
  refine Ow.iload X hx (pc := 144) (hb hby at_144) rfl ?_
  refine Ow.if_le X hx (pc := 146) (pc' := 167) (hb hby at_146) (by decide) (by decide) (fun q => absurd (by decide) q) (fun h146 => ?_)
  refine Ow.aload X hx (pc := 149) (hb hby at_149) rfl rfl ?_
  refine Ow.iconst X hx (pc := 151) (0) (hb hby at_151) (by decide) ?_
  refine Ow.callFP X hx D.hZ (c_get l Z a0 hw _ al3 ed3 ke3 1 _ A3 0 y0 rfl (by decide) (by decide)) rfl rfl eT hown (ww hw 188 rfl) (ww hw 124 rfl) (ww hw 126 rfl) (ww hw 127 rfl) (ww hw 125 rfl) (ww hw 128 rfl) (ww hw 129 rfl) (ww hw 121 rfl) (ww hw 39 rfl) (ww hw 130 rfl) (by decide) pd9 (by rw [hml]; rfl) A3.1 (argsL := [_]) rfl rfl rfl (pc := 152) (hb hby at_152) rfl rfl (by decide) (by decide) ?_
  intro T X eT
  dsimp only [Option.toList_some, Option.toList_none, List.cons_append, List.nil_append]
  refine Ow.checkcast X hx D.hZ hown (ww hw 4 rfl) eT (Ins.self St0.1) (pc := 157) (hb hby at_157) ?_
  intro T X eT
  refine Ow.aload X hx (pc := 160) (hb hby at_160) rfl rfl ?_
  refine Ow.callVP X hx D.hZ (c_eqid l Z a0 hw _ y0) rfl rfl eT hown (ww hw 189 rfl) (ww hw 190 rfl) (ww hw 192 rfl) (ww hw 191 rfl) (ww hw 6 rfl) (ww hw 193 rfl) (by decide) pd22 (by rw [hml]; rfl) St0.1 (argsL := [_]) rfl rfl rfl (pc := 162) (hb hby at_162) rfl rfl (by decide) (by decide) ?_   -- java/lang/String.equals:(Ljava/lang/Object;)Z
  intro T X eT
  dsimp only [Option.toList_some, Option.toList_none, List.cons_append, List.nil_append]
  refine Ow.istore X hx (pc := 165) #[_, _, _, _, _, _, _, _, _, _, _, _, _, _] (hb hby at_165) rfl ?_
  refine Ow.iload X hx (pc := 167) (hb hby at_167) rfl ?_
  refine Ow.if_eq X hx (pc := 169) (pc' := 196) (hb hby at_169) (by decide) (by decide) (fun q => absurd q (by decide)) (fun h169 => ?_)
  refine Ow.iload X hx (pc := 172) (hb hby at_172) rfl ?_
  refine Ow.iconst X hx (pc := 174) (1) (hb hby at_174) (by decide) ?_
  refine Ow.icmp_le X hx (pc := 175) (pc' := 196) (hb hby at_175) (by decide) (by decide) (fun h175 => ?_) (fun q => absurd q (by decide))
  refine Ow.iload X hx (pc := 196) (hb hby at_196) rfl ?_
  refine Ow.if_eq X hx (pc := 198) (pc' := 225) (hb hby at_198) (by decide) (by decide) (fun q => absurd q (by decide)) (fun h198 => ?_)
  refine Ow.iload X hx (pc := 201) (hb hby at_201) rfl ?_
  refine Ow.iconst X hx (pc := 203) (2) (hb hby at_203) (by decide) ?_
  refine Ow.icmp_le X hx (pc := 204) (pc' := 225) (hb hby at_204) (by decide) (by decide) (fun h204 => ?_) (fun q => absurd q (by decide))
  refine Ow.iload X hx (pc := 225) (hb hby at_225) rfl ?_
  refine Ow.if_eq X hx (pc := 227) (pc' := 249) (hb hby at_227) (by decide) (by decide) (fun q => absurd q (by decide)) (fun h227 => ?_)
  refine Ow.aload X hx (pc := 230) (hb hby at_230) rfl rfl ?_
  refine Ow.aload X hx (pc := 232) (hb hby at_232) rfl rfl ?_
  refine Ow.callVP X hx D.hZ (c_all l Z a0 hw _ o hm x el Fv A_hm Ft SE Ee) rfl rfl eT hown (ww hw 194 rfl) (ww hw 195 rfl) (ww hw 197 rfl) (ww hw 196 rfl) (ww hw 94 rfl) (ww hw 198 rfl) (by decide) pd25 (by rw [hml]; rfl) A_o (argsL := [_]) rfl rfl rfl (pc := 234) (hb hby at_234) rfl rfl (by decide) (by decide) ?_   -- com/example/rowgate/rowgate/Options.all:(Ljava/lang/String;)Ljava/util/List;
  intro T X eT
  dsimp only [Option.toList_some, Option.toList_none, List.cons_append, List.nil_append]
  refine Ow.callFP X hx D.hZ (c_lnsize l Z a0 hw _ el ea0 ka0 Fl0 Be) rfl rfl eT hown (ww hw 187 rfl) (ww hw 115 rfl) (ww hw 223 rfl) (ww hw 224 rfl) (ww hw 116 rfl) (ww hw 225 rfl) (ww hw 226 rfl) (ww hw 222 rfl) (ww hw 227 rfl) (ww hw 228 rfl) (by decide) pd14 (by rw [hml]; rfl) Ee (argsL := []) rfl rfl rfl (pc := 237) (hb hby at_237) rfl rfl (by decide) (by decide) ?_
  intro T X eT
  dsimp only [Option.toList_some, Option.toList_none, List.cons_append, List.nil_append]
  refine Ow.if_ne X hx (pc := 242) (pc' := 249) (hb hby at_242) (by decide) (by decide) (fun q => absurd rfl q) (fun h242 => ?_)
  refine Ow.iconst X hx (pc := 245) (1) (hb hby at_245) (by decide) ?_
  refine Ow.goto X hx (pc := 246) (pc' := 250) (hb hby at_246) (by decide) (by decide) ?_
  exact Ow.nreturnW X hx eT D hEL hlk hret (Or.inl rfl) (hb hby at_250) ⟨rfl, by rw [eT]; exact F⟩ (by decide) (by decide)
set_option maxRecDepth 65536 in
set_option maxHeartbeats 40000000 in
theorem law_2 (l : Launch) (Z : State) (a0 : Array Value) (hw : ∀ d ∈ tables_1, d.before a0 Z = true) (hEL : EW Z a0 EL) (h0 : Heap) (z p0 p1 p2 p3 p4 : Int32) (S : Sta Z h0 "java/lang/String" "COMPACT_STRINGS" "Z" (.int z)) (hz : ¬ z = 0) (de el ea0 : Addr) (kd ka0 : ClassId) (SD : Sta Z h0 "java/util/ArrayList" "DEFAULTCAPACITY_EMPTY_ELEMENTDATA" "[Ljava/lang/Object;" (.ref de)) (Bd : Ow.AL Z h0 de kd (.object "java/lang/Object") []) (SE : Sta Z h0 "java/util/ImmutableCollections" "EMPTY_LIST" "Ljava/util/ImmutableCollections$ListN;" (.ref el)) (Ee : Exa Z h0 el "java/util/ImmutableCollections$ListN") (Fl0 : Fld Z h0 el "java/util/ImmutableCollections$ListN" "elements" "[Ljava/lang/Object;" (.ref ea0)) (Be : Ow.AL Z h0 ea0 ka0 (.object "java/lang/Object") []) (hn : p3 &&& 3 = 2) : Ow.PayW l Z EL [] x code maxLocals ret room_1 #[(.int p0), (.int p1), (.int p2), (.int p3), (.int p4)] h0 (fun v h L => v = some (.int 1) ∧ Ow.Eff h0 h [] L) := by
  refine Ow.PayW.of (Ls := #[.val (.int p0), .val (.int p1), .val (.int p2), .val (.int p3), .val (.int p4), .unset, .unset, .unset, .unset, .unset, .unset, .unset, .unset, .unset]) (plainFor_of_name pn10) (fun m => by first | rfl | (simp [entryFrame, mkF, argsToLocals, Value.category, maxLocals]; done)) ?_
  intro p e s m below meth c T vm0 hx hby hml hown hnm hme hret hlk X eT D hsf
  have F := Ow.Eff.refl h0 []
  obtain ⟨ke, hke⟩ := own_mask8 p4
  refine Ow.iloadN X hx (pc := 0) (hb hby at_0) rfl ?_
  refine Ow.iconst X hx (pc := 1) (3) (hb hby at_1) (by decide) ?_
  refine Ow.iand X hx (pc := 2) (hb hby at_2) ?_
  rw [hn]
  refine Ow.istore X hx (pc := 3) #[_, _, _, _, _, _, _, _, _, _, _, _, _, _] (hb hby at_3) rfl ?_
  refine Ow.iloadN X hx (pc := 5) (hb hby at_5) rfl ?_
  refine Ow.callSW X hx (c_word l Z a0 hw hEL _ z S hz p0) eT D hEL (fun _ q => nomatch q) hown (ww hw 0 rfl) (ww hw 1 rfl) (ww hw 2 rfl) (ww hw 3 rfl) (by decide) pd23 (by rw [hml]; rfl) (argsL := [_]) rfl rfl rfl (pc := 6) (hb hby at_6) rfl rfl (by decide) (by decide) ?_
  rintro _ vm0 T L X ⟨y0, t0, k0, bs0, rfl, F2, St0, hl0, hp0⟩ D hown C1
  dsimp only [Option.toList_some, Option.toList_none, List.cons_append, List.nil_append]
  have F := F.call F2 (fun _ q => nomatch q)
  have S := S.ext (Ow.Keep.ext0 F2.1)
  have SD := SD.ext (Ow.Keep.ext0 F2.1)
  have SE := SE.ext (Ow.Keep.ext0 F2.1)
  have Bd := Bd.ext (Ow.Keep.ext0 F2.1)
  have Ee := Ee.ext (Ow.Keep.ext0 F2.1)
  have Fl0 := Fl0.ext (Ow.Keep.ext0 F2.1)
  have Be := Be.ext (Ow.Keep.ext0 F2.1)
  obtain ⟨h_w0, e_w0⟩ : ∃ q, q = T.heap := ⟨_, rfl⟩
  rw [← e_w0] at F D S SD SE Bd Ee Fl0 Be St0
  have eT : T.heap = h_w0 := e_w0.symm
  refine Ow.astore X hx (pc := 9) #[_, _, _, _, _, _, _, _, _, _, _, _, _, _] (hb hby at_9) rfl rfl ?_
  refine Ow.iloadN X hx (pc := 11) (hb hby at_11) rfl ?_
  refine Ow.callSW X hx (c_word l Z a0 hw hEL _ z S hz p1) eT D hEL (fun _ q => nomatch q) hown (ww hw 0 rfl) (ww hw 1 rfl) (ww hw 2 rfl) (ww hw 3 rfl) (by decide) pd23 (by rw [hml]; rfl) (argsL := [_]) rfl rfl rfl (pc := 12) (hb hby at_12) rfl rfl (by decide) (by decide) ?_
  rintro _ vm1 T L X ⟨y1, t1, k1, bs1, rfl, F2, St1, hl1, hp1⟩ D hown C1
  dsimp only [Option.toList_some, Option.toList_none, List.cons_append, List.nil_append]
  have F := F.call F2 (fun _ q => nomatch q)
  have S := S.ext (Ow.Keep.ext0 F2.1)
  have SD := SD.ext (Ow.Keep.ext0 F2.1)
  have SE := SE.ext (Ow.Keep.ext0 F2.1)
  have Bd := Bd.ext (Ow.Keep.ext0 F2.1)
  have Ee := Ee.ext (Ow.Keep.ext0 F2.1)
  have Fl0 := Fl0.ext (Ow.Keep.ext0 F2.1)
  have Be := Be.ext (Ow.Keep.ext0 F2.1)
  have St0 := St0.ext (Ow.Keep.ext0 F2.1)
  obtain ⟨h_w1, e_w1⟩ : ∃ q, q = T.heap := ⟨_, rfl⟩
  rw [← e_w1] at F D S SD SE Bd Ee Fl0 Be St0 St1
  have eT : T.heap = h_w1 := e_w1.symm
  refine Ow.astore X hx (pc := 15) #[_, _, _, _, _, _, _, _, _, _, _, _, _, _] (hb hby at_15) rfl rfl ?_
  refine Ow.iloadN X hx (pc := 17) (hb hby at_17) rfl ?_
  refine Ow.callSW X hx (c_word l Z a0 hw hEL _ z S hz p2) eT D hEL (fun _ q => nomatch q) hown (ww hw 0 rfl) (ww hw 1 rfl) (ww hw 2 rfl) (ww hw 3 rfl) (by decide) pd23 (by rw [hml]; rfl) (argsL := [_]) rfl rfl rfl (pc := 18) (hb hby at_18) rfl rfl (by decide) (by decide) ?_
  rintro _ vm2 T L X ⟨y2, t2, k2, bs2, rfl, F2, St2, hl2, hp2⟩ D hown C1
  dsimp only [Option.toList_some, Option.toList_none, List.cons_append, List.nil_append]
  have F := F.call F2 (fun _ q => nomatch q)
  have S := S.ext (Ow.Keep.ext0 F2.1)
  have SD := SD.ext (Ow.Keep.ext0 F2.1)
  have SE := SE.ext (Ow.Keep.ext0 F2.1)
  have Bd := Bd.ext (Ow.Keep.ext0 F2.1)
  have Ee := Ee.ext (Ow.Keep.ext0 F2.1)
  have Fl0 := Fl0.ext (Ow.Keep.ext0 F2.1)
  have Be := Be.ext (Ow.Keep.ext0 F2.1)
  have St0 := St0.ext (Ow.Keep.ext0 F2.1)
  have St1 := St1.ext (Ow.Keep.ext0 F2.1)
  obtain ⟨h_w2, e_w2⟩ : ∃ q, q = T.heap := ⟨_, rfl⟩
  rw [← e_w2] at F D S SD SE Bd Ee Fl0 Be St0 St1 St2
  have eT : T.heap = h_w2 := e_w2.symm
  refine Ow.astore X hx (pc := 21) #[_, _, _, _, _, _, _, _, _, _, _, _, _, _] (hb hby at_21) rfl rfl ?_
  refine Ow.new_ X hx D.hZ hown (ww hw 4 rfl) (ww hw 5 rfl) (ww hw 6 rfl) eT (pc := 23) (hb hby at_23) (by decide) (by decide) ?_
  intro T h_x x ha_x X eT E_x A_x D_x U_x
  have l_x : h0.size ≤ x := by rw [ha_x]; exact F.size
  have ne_de_x : de ≠ x := by rw [ha_x]; exact Nat.ne_of_lt Bd.lt
  have ne_el_x : el ≠ x := by rw [ha_x]; exact Nat.ne_of_lt Ee.lt
  have ne_ea0_x : ea0 ≠ x := by rw [ha_x]; exact Nat.ne_of_lt Be.lt
  have ne_y0_x : y0 ≠ x := by rw [ha_x]; exact Nat.ne_of_lt St0.lt
  have ne_t0_x : t0 ≠ x := by rw [ha_x]; exact Nat.ne_of_lt St0.ltB
  have ne_y1_x : y1 ≠ x := by rw [ha_x]; exact Nat.ne_of_lt St1.lt
  have ne_t1_x : t1 ≠ x := by rw [ha_x]; exact Nat.ne_of_lt St1.ltB
  have ne_y2_x : y2 ≠ x := by rw [ha_x]; exact Nat.ne_of_lt St2.lt
  have ne_t2_x : t2 ≠ x := by rw [ha_x]; exact Nat.ne_of_lt St2.ltB
  have S_x := D.safeNew E_x
  rw [← ha_x] at S_x
  have S := S.ext E_x
  have SD := SD.ext E_x
  have SE := SE.ext E_x
  have Bd := Bd.ext E_x
  have Ee := Ee.ext E_x
  have Fl0 := Fl0.ext E_x
  have Be := Be.ext E_x
  have St0 := St0.ext E_x
  have St1 := St1.ext E_x
  have St2 := St2.ext E_x
  have F := F.ext E_x
  have D := D.ext E_x
  have V_x := D_x (Or.inr (ww hw 20 rfl)) (ty := .array .byte) (by decide)
  have C_x := D_x (Or.inr (ww hw 21 rfl)) (ty := .byte) (by decide)
  refine Ow.dup X hx (pc := 26) (hb hby at_26) rfl ?_
  refine Ow.iconst X hx (pc := 27) (3) (hb hby at_27) (by decide) ?_
  refine Ow.newarrayL X hx D.hZ (ww hw 7 rfl) eT 3 (vs := [_, _, _]) rfl (pc := 28) (hb hby at_28) (by decide) (by decide) (by decide) (by decide) (by decide) ?_
  intro T h_cA k_cA cA ha_cA X eT E_cA B_cA
  have l_cA : h0.size ≤ cA := by rw [ha_cA]; exact F.size
  have ne_de_cA : de ≠ cA := by rw [ha_cA]; exact Nat.ne_of_lt Bd.lt
  have ne_el_cA : el ≠ cA := by rw [ha_cA]; exact Nat.ne_of_lt Ee.lt
  have ne_ea0_cA : ea0 ≠ cA := by rw [ha_cA]; exact Nat.ne_of_lt Be.lt
  have ne_y0_cA : y0 ≠ cA := by rw [ha_cA]; exact Nat.ne_of_lt St0.lt
  have ne_t0_cA : t0 ≠ cA := by rw [ha_cA]; exact Nat.ne_of_lt St0.ltB
  have ne_y1_cA : y1 ≠ cA := by rw [ha_cA]; exact Nat.ne_of_lt St1.lt
  have ne_t1_cA : t1 ≠ cA := by rw [ha_cA]; exact Nat.ne_of_lt St1.ltB
  have ne_y2_cA : y2 ≠ cA := by rw [ha_cA]; exact Nat.ne_of_lt St2.lt
  have ne_t2_cA : t2 ≠ cA := by rw [ha_cA]; exact Nat.ne_of_lt St2.ltB
  have ne_x_cA : x ≠ cA := by rw [ha_cA]; exact Nat.ne_of_lt A_x.lt
  have S_cA := D.safeNew E_cA
  rw [← ha_cA] at S_cA
  have S := S.ext E_cA
  have SD := SD.ext E_cA
  have SE := SE.ext E_cA
  have Bd := Bd.ext E_cA
  have Ee := Ee.ext E_cA
  have Fl0 := Fl0.ext E_cA
  have Be := Be.ext E_cA
  have St0 := St0.ext E_cA
  have St1 := St1.ext E_cA
  have St2 := St2.ext E_cA
  have A_x := A_x.ext E_cA
  have V_x := V_x.ext E_cA
  have C_x := C_x.ext E_cA
  have S_x := D.safeExt E_cA S_x
  have F := F.ext E_cA
  have D := D.ext E_cA
  refine Ow.dup X hx (pc := 30) (hb hby at_30) rfl ?_
  refine Ow.iconst X hx (pc := 31) (0) (hb hby at_31) (by decide) ?_
  refine Ow.bipush X hx (pc := 32) (45) (hb hby at_32) (by decide) ?_
  refine Ow.castoreL X hx D.hZ eT B_cA 0 [_, _, _] (by decide) (by decide) rfl rfl (pc := 34) (hb hby at_34) ?_
  intro T h_34 X eT W_34 B_cA
  rw [show nar .char (45 : Int32) = 45 from by decide] at B_cA W_34
  have S := S.wr W_34
  have SD := SD.wr W_34
  have SE := SE.wr W_34
  have Bd := Bd.other W_34 ne_de_cA
  have Ee := Ee.wr W_34
  have Fl0 := Fl0.other W_34 (Or.inl ne_el_cA)
  have Be := Be.other W_34 ne_ea0_cA
  have St0 := St0.keep (Keep.of_wr W_34) (Ow.nin1 ne_y0_cA) (Ow.nin1 ne_t0_cA)
  have St1 := St1.keep (Keep.of_wr W_34) (Ow.nin1 ne_y1_cA) (Ow.nin1 ne_t1_cA)
  have St2 := St2.keep (Keep.of_wr W_34) (Ow.nin1 ne_y2_cA) (Ow.nin1 ne_t2_cA)
  have A_x := A_x.wr W_34
  have V_x := V_x.other W_34 (Or.inl ne_x_cA)
  have C_x := C_x.other W_34 (Or.inl ne_x_cA)
  have S_tmp := S_cA
  have S_x := D.safeWr W_34 S_tmp S_x
  have S_cA := D.safeWr W_34 S_tmp S_cA
  have D := D.wr W_34 S_tmp
  have F := F.wr W_34 (Or.inr l_cA)
  refine Ow.dup X hx (pc := 35) (hb hby at_35) rfl ?_
  refine Ow.iconst X hx (pc := 36) (1) (hb hby at_36) (by decide) ?_
  refine Ow.bipush X hx (pc := 37) (45) (hb hby at_37) (by decide) ?_
  refine Ow.castoreL X hx D.hZ eT B_cA 1 [_, _, _] (by decide) (by decide) rfl rfl (pc := 39) (hb hby at_39) ?_
  intro T h_39 X eT W_39 B_cA
  rw [show nar .char (45 : Int32) = 45 from by decide] at B_cA W_39
  have S := S.wr W_39
  have SD := SD.wr W_39
  have SE := SE.wr W_39
  have Bd := Bd.other W_39 ne_de_cA
  have Ee := Ee.wr W_39
  have Fl0 := Fl0.other W_39 (Or.inl ne_el_cA)
  have Be := Be.other W_39 ne_ea0_cA
  have St0 := St0.keep (Keep.of_wr W_39) (Ow.nin1 ne_y0_cA) (Ow.nin1 ne_t0_cA)
  have St1 := St1.keep (Keep.of_wr W_39) (Ow.nin1 ne_y1_cA) (Ow.nin1 ne_t1_cA)
  have St2 := St2.keep (Keep.of_wr W_39) (Ow.nin1 ne_y2_cA) (Ow.nin1 ne_t2_cA)
  have A_x := A_x.wr W_39
  have V_x := V_x.other W_39 (Or.inl ne_x_cA)
  have C_x := C_x.other W_39 (Or.inl ne_x_cA)
  have S_tmp := S_cA
  have S_x := D.safeWr W_39 S_tmp S_x
  have S_cA := D.safeWr W_39 S_tmp S_cA
  have D := D.wr W_39 S_tmp
  have F := F.wr W_39 (Or.inr l_cA)
  refine Ow.dup X hx (pc := 40) (hb hby at_40) rfl ?_
  refine Ow.iconst X hx (pc := 41) (2) (hb hby at_41) (by decide) ?_
  refine Ow.iload X hx (pc := 42) (hb hby at_42) rfl ?_
  refine Ow.sipush X hx (pc := 44) (255) (hb hby at_44) (by decide) ?_
  refine Ow.iand X hx (pc := 47) (hb hby at_47) ?_
  refine Ow.i2c X hx (pc := 48) (hb hby at_48) ?_
  rw [hke, (own_ch8 ke).2.2.2]
  refine Ow.castoreL X hx D.hZ eT B_cA 2 [_, _, _] (by decide) (by decide) rfl rfl (pc := 49) (hb hby at_49) ?_
  intro T h_49 X eT W_49 B_cA
  rw [(own_ch8 ke).2.2.1] at B_cA W_49
  have S := S.wr W_49
  have SD := SD.wr W_49
  have SE := SE.wr W_49
  have Bd := Bd.other W_49 ne_de_cA
  have Ee := Ee.wr W_49
  have Fl0 := Fl0.other W_49 (Or.inl ne_el_cA)
  have Be := Be.other W_49 ne_ea0_cA
  have St0 := St0.keep (Keep.of_wr W_49) (Ow.nin1 ne_y0_cA) (Ow.nin1 ne_t0_cA)
  have St1 := St1.keep (Keep.of_wr W_49) (Ow.nin1 ne_y1_cA) (Ow.nin1 ne_t1_cA)
  have St2 := St2.keep (Keep.of_wr W_49) (Ow.nin1 ne_y2_cA) (Ow.nin1 ne_t2_cA)
  have A_x := A_x.wr W_49
  have V_x := V_x.other W_49 (Or.inl ne_x_cA)
  have C_x := C_x.other W_49 (Or.inl ne_x_cA)
  have S_tmp := S_cA
  have S_x := D.safeWr W_49 S_tmp S_x
  have S_cA := D.safeWr W_49 S_tmp S_cA
  have D := D.wr W_49 S_tmp
  have F := F.wr W_49 (Or.inr l_cA)
  have H8 : ∀ c ∈ ([45, 45, Int32.ofNat ke.val] : List Int32), ∃ k : Fin 256, c = Int32.ofNat k.val := by
    intro c hc
    simp only [List.mem_cons, List.not_mem_nil, or_false] at hc
    rcases hc with rfl | rfl | rfl
    · exact ⟨45, rfl⟩
    · exact ⟨45, rfl⟩
    · exact ⟨ke, rfl⟩
  have P_x := Ow.Exa.plain A_x
  refine strLat X hx D.hZ hw eT hown (ww hw 8 rfl) (cs := [45, 45, Int32.ofNat ke.val]) A_x V_x C_x B_cA S hz 3 rfl (by decide) (by decide) H8 (by rw [hml]; rfl) (pc := 50) (hb hby at_50) rfl rfl (by decide) (by decide) ?_
  intro T L k_x X F2 St_x
  have F := F.call F2 (fun y hy => by cases List.mem_singleton.mp hy; exact Or.inr l_x)
  have D := D.keep F2.1 (fun y hy => by cases List.mem_singleton.mp hy; exact S_x)
  have S := Ow.staKeep S F2.1 (fun y hy => by cases List.mem_singleton.mp hy; exact P_x)
  have SD := Ow.staKeep SD F2.1 (fun y hy => by cases List.mem_singleton.mp hy; exact P_x)
  have SE := Ow.staKeep SE F2.1 (fun y hy => by cases List.mem_singleton.mp hy; exact P_x)
  have Bd := Bd.keep F2.1 (Ow.nin1 ne_de_x)
  have Ee := Ee.keep F2.1
  have Fl0 := Fl0.keep F2.1 (Ow.nin1 ne_el_x)
  have Be := Be.keep F2.1 (Ow.nin1 ne_ea0_x)
  have St0 := St0.keep F2.1 (Ow.nin1 ne_y0_x) (Ow.nin1 ne_t0_x)
  have St1 := St1.keep F2.1 (Ow.nin1 ne_y1_x) (Ow.nin1 ne_t1_x)
  have St2 := St2.keep F2.1 (Ow.nin1 ne_y2_x) (Ow.nin1 ne_t2_x)
  obtain ⟨h_50, e_50⟩ : ∃ q, q = T.heap := ⟨_, rfl⟩
  rw [← e_50] at F D S SD SE Bd Ee Fl0 Be St0 St1 St2
  have eT : T.heap = h_50 := e_50.symm
  refine Ow.astore X hx (pc := 53) #[_, _, _, _, _, _, _, _, _, _, _, _, _, _] (hb hby at_53) rfl rfl ?_
  refine Ow.new_ X hx D.hZ hown (ww hw 37 rfl) (ww hw 38 rfl) (ww hw 39 rfl) eT (pc := 55) (hb hby at_55) (by decide) (by decide) ?_
  intro T h_al2 al2 ha_al2 X eT E_al2 A_al2 D_al2 U_al2
  have l_al2 : h0.size ≤ al2 := by rw [ha_al2]; exact F.size
  have ne_de_al2 : de ≠ al2 := by rw [ha_al2]; exact Nat.ne_of_lt Bd.lt
  have ne_el_al2 : el ≠ al2 := by rw [ha_al2]; exact Nat.ne_of_lt Ee.lt
  have ne_ea0_al2 : ea0 ≠ al2 := by rw [ha_al2]; exact Nat.ne_of_lt Be.lt
  have ne_y0_al2 : y0 ≠ al2 := by rw [ha_al2]; exact Nat.ne_of_lt St0.lt
  have ne_t0_al2 : t0 ≠ al2 := by rw [ha_al2]; exact Nat.ne_of_lt St0.ltB
  have ne_y1_al2 : y1 ≠ al2 := by rw [ha_al2]; exact Nat.ne_of_lt St1.lt
  have ne_t1_al2 : t1 ≠ al2 := by rw [ha_al2]; exact Nat.ne_of_lt St1.ltB
  have ne_y2_al2 : y2 ≠ al2 := by rw [ha_al2]; exact Nat.ne_of_lt St2.lt
  have ne_t2_al2 : t2 ≠ al2 := by rw [ha_al2]; exact Nat.ne_of_lt St2.ltB
  have S_al2 := D.safeNew E_al2
  rw [← ha_al2] at S_al2
  have S := S.ext E_al2
  have SD := SD.ext E_al2
  have SE := SE.ext E_al2
  have Bd := Bd.ext E_al2
  have Ee := Ee.ext E_al2
  have Fl0 := Fl0.ext E_al2
  have Be := Be.ext E_al2
  have St0 := St0.ext E_al2
  have St1 := St1.ext E_al2
  have St2 := St2.ext E_al2
  have F := F.ext E_al2
  have D := D.ext E_al2
  have Z_elementData := D_al2 (Or.inl (ww hw 60 rfl)) (ty := (.array (.object "java/lang/Object"))) (by decide)
  have Z_size := D_al2 (Or.inl (ww hw 69 rfl)) (ty := .int) (by decide)
  have Z_modCount := D_al2 (Or.inl (ww hw 57 rfl)) (ty := .int) (by decide)
  have P1 := Ow.Exa.plain A_al2
  refine Ow.dup X hx (pc := 58) (hb hby at_58) rfl ?_
  refine Ow.callI X hx D.hZ (c_arinit l Z a0 hw _ al2 A_al2 Z_elementData Z_size Z_modCount de kd SD Bd ne_de_al2) eT rfl hown (ww hw 40 rfl) (ww hw 41 rfl) (ww hw 39 rfl) (ww hw 42 rfl) (by decide) pd0 (by rw [hml]; rfl) (argsL := []) rfl rfl rfl (pc := 59) (hb hby at_59) rfl rfl (by decide) (by decide) ?_
  rintro _ T L X ⟨rfl, F2, A2⟩
  dsimp only [Option.toList_some, Option.toList_none, List.cons_append, List.nil_append]
  have F := F.call F2 (fun y hy => by cases List.mem_singleton.mp hy; exact Or.inr l_al2)
  have D := D.keep F2.1 (fun y hy => by cases List.mem_singleton.mp hy; exact S_al2)
  have S := Ow.staKeep S F2.1 (fun y hy => by cases List.mem_singleton.mp hy; exact P1)
  have SD := Ow.staKeep SD F2.1 (fun y hy => by cases List.mem_singleton.mp hy; exact P1)
  have SE := Ow.staKeep SE F2.1 (fun y hy => by cases List.mem_singleton.mp hy; exact P1)
  have Bd := Bd.keep F2.1 (Ow.nin1 ne_de_al2)
  have Ee := Ee.keep F2.1
  have Fl0 := Fl0.keep F2.1 (Ow.nin1 ne_el_al2)
  have Be := Be.keep F2.1 (Ow.nin1 ne_ea0_al2)
  have St0 := St0.keep F2.1 (Ow.nin1 ne_y0_al2) (Ow.nin1 ne_t0_al2)
  have St1 := St1.keep F2.1 (Ow.nin1 ne_y1_al2) (Ow.nin1 ne_t1_al2)
  have St2 := St2.keep F2.1 (Ow.nin1 ne_y2_al2) (Ow.nin1 ne_t2_al2)
  obtain ⟨h_59, e_59⟩ : ∃ q, q = T.heap := ⟨_, rfl⟩
  rw [← e_59] at F D S SD SE Bd Ee Fl0 Be St0 St1 St2 A2
  have eT : T.heap = h_59 := e_59.symm
  refine Ow.astore X hx (pc := 62) #[_, _, _, _, _, _, _, _, _, _, _, _, _, _] (hb hby at_62) rfl rfl ?_
  refine Ow.iload X hx (pc := 64) (hb hby at_64) rfl ?_
  refine Ow.if_le X hx (pc := 66) (pc' := 77) (hb hby at_66) (by decide) (by decide) (fun q => absurd (by decide) q) (fun h66 => ?_)
  refine Ow.aload X hx (pc := 69) (hb hby at_69) rfl rfl ?_
  refine Ow.aload X hx (pc := 71) (hb hby at_71) rfl rfl ?_
  have h_al2 := A2.lt
  have P1 := Ow.Exa.plain A2.1
  have Q1 : Safe Z EL _ _ al2 := Safe.exa D.hZ.alike A2.1 (by decide) (by decide)
  refine Ow.callV X hx D.hZ (c_addE l Z a0 hw _ al2 de kd A2 SD ne_de_al2 y0 St0.1) eT hown (ww hw 61 rfl) (ww hw 62 rfl) (ww hw 64 rfl) (ww hw 63 rfl) (ww hw 39 rfl) (ww hw 65 rfl) (by decide) pd22 (by rw [hml]; rfl) A2.1 (argsL := [_]) rfl rfl rfl (pc := 73) (hb hby at_73) rfl rfl (by decide) (by decide) ?_
  rintro _ T L X ⟨rfl, F2, ed2, ke2, l_ed2, A2⟩
  dsimp only [Option.toList_some, Option.toList_none, List.cons_append, List.nil_append]
  have ne_de_ed2 : de ≠ ed2 := Nat.ne_of_lt (Nat.lt_of_lt_of_le Bd.lt l_ed2)
  have ne_el_ed2 : el ≠ ed2 := Nat.ne_of_lt (Nat.lt_of_lt_of_le Ee.lt l_ed2)
  have ne_ea0_ed2 : ea0 ≠ ed2 := Nat.ne_of_lt (Nat.lt_of_lt_of_le Be.lt l_ed2)
  have ne_y0_ed2 : y0 ≠ ed2 := Nat.ne_of_lt (Nat.lt_of_lt_of_le St0.lt l_ed2)
  have ne_t0_ed2 : t0 ≠ ed2 := Nat.ne_of_lt (Nat.lt_of_lt_of_le St0.ltB l_ed2)
  have ne_y1_ed2 : y1 ≠ ed2 := Nat.ne_of_lt (Nat.lt_of_lt_of_le St1.lt l_ed2)
  have ne_t1_ed2 : t1 ≠ ed2 := Nat.ne_of_lt (Nat.lt_of_lt_of_le St1.ltB l_ed2)
  have ne_y2_ed2 : y2 ≠ ed2 := Nat.ne_of_lt (Nat.lt_of_lt_of_le St2.lt l_ed2)
  have ne_t2_ed2 : t2 ≠ ed2 := Nat.ne_of_lt (Nat.lt_of_lt_of_le St2.ltB l_ed2)
  have ne_al2_ed2 : al2 ≠ ed2 := Nat.ne_of_lt (Nat.lt_of_lt_of_le h_al2 l_ed2)
  have l_ed2 := Nat.le_trans F.size l_ed2
  have F := F.call F2 (fun y hy => by cases List.mem_singleton.mp hy; exact Or.inr l_al2)
  have D := D.keep F2.1 (fun y hy => by cases List.mem_singleton.mp hy; exact Q1)
  have S := Ow.staKeep S F2.1 (fun y hy => by cases List.mem_singleton.mp hy; exact P1)
  have SD := Ow.staKeep SD F2.1 (fun y hy => by cases List.mem_singleton.mp hy; exact P1)
  have SE := Ow.staKeep SE F2.1 (fun y hy => by cases List.mem_singleton.mp hy; exact P1)
  have Bd := Bd.keep F2.1 (Ow.nin1 ne_de_al2)
  have Ee := Ee.keep F2.1
  have Fl0 := Fl0.keep F2.1 (Ow.nin1 ne_el_al2)
  have Be := Be.keep F2.1 (Ow.nin1 ne_ea0_al2)
  have St0 := St0.keep F2.1 (Ow.nin1 ne_y0_al2) (Ow.nin1 ne_t0_al2)
  have St1 := St1.keep F2.1 (Ow.nin1 ne_y1_al2) (Ow.nin1 ne_t1_al2)
  have St2 := St2.keep F2.1 (Ow.nin1 ne_y2_al2) (Ow.nin1 ne_t2_al2)
  obtain ⟨h_73, e_73⟩ : ∃ q, q = T.heap := ⟨_, rfl⟩
  rw [← e_73] at F D S SD SE Bd Ee Fl0 Be St0 St1 St2 A2
  have eT : T.heap = h_73 := e_73.symm
  refine Ow.pop X hx (pc := 76) (hb hby at_76) rfl ?_
  refine Ow.iload X hx (pc := 77) (hb hby at_77) rfl ?_
  refine Ow.iconst X hx (pc := 79) (1) (hb hby at_79) (by decide) ?_
  refine Ow.icmp_le X hx (pc := 80) (pc' := 91) (hb hby at_80) (by decide) (by decide) (fun q => absurd (by decide) q) (fun h80 => ?_)
  refine Ow.aload X hx (pc := 83) (hb hby at_83) rfl rfl ?_
  refine Ow.aload X hx (pc := 85) (hb hby at_85) rfl rfl ?_
  have h_al2 := A2.lt
  have P1 := Ow.Exa.plain A2.1
  have Q1 : Safe Z EL _ _ al2 := Safe.exa D.hZ.alike A2.1 (by decide) (by decide)
  have P2 := Ow.AL.plain A2.2.2.2.2.1
  have Q2 : Safe Z EL _ _ ed2 := A2.2.2.2.2.1.safe D.hZ.alike (by decide)
  refine Ow.callV X hx D.hZ (c_addL1 l Z a0 hw _ al2 ed2 ke2 y0 A2 ne_al2_ed2 y1 St1.1) eT hown (ww hw 61 rfl) (ww hw 62 rfl) (ww hw 64 rfl) (ww hw 63 rfl) (ww hw 39 rfl) (ww hw 65 rfl) (by decide) pd22 (by rw [hml]; rfl) A2.1 (argsL := [_]) rfl rfl rfl (pc := 87) (hb hby at_87) rfl rfl (by decide) (by decide) ?_
  rintro _ T L X ⟨rfl, F2, A2⟩
  dsimp only [Option.toList_some, Option.toList_none, List.cons_append, List.nil_append]
  have F := F.call F2 (fun y hy => by
    simp only [List.mem_cons, List.not_mem_nil, or_false] at hy
    rcases hy with rfl | rfl
    · exact Or.inr l_al2
    · exact Or.inr l_ed2)
  have D := D.keep F2.1 (fun y hy => by
    simp only [List.mem_cons, List.not_mem_nil, or_false] at hy
    rcases hy with rfl | rfl
    · exact Q1
    · exact Q2)
  have hpl : ∀ y ∈ [al2, ed2], ∃ c : Cell, h_73[y]? = some c ∧ c.vm.isStatics = false := fun y hy => by
    simp only [List.mem_cons, List.not_mem_nil, or_false] at hy
    rcases hy with rfl | rfl
    · exact P1
    · exact P2
  have S := Ow.staKeep S F2.1 (fun y hy => hpl y hy)
  have SD := Ow.staKeep SD F2.1 (fun y hy => hpl y hy)
  have SE := Ow.staKeep SE F2.1 (fun y hy => hpl y hy)
  have Bd := Bd.keep F2.1 (ninS ne_de_al2 (Ow.nin1 ne_de_ed2))
  have Ee := Ee.keep F2.1
  have Fl0 := Fl0.keep F2.1 (ninS ne_el_al2 (Ow.nin1 ne_el_ed2))
  have Be := Be.keep F2.1 (ninS ne_ea0_al2 (Ow.nin1 ne_ea0_ed2))
  have St0 := St0.keep F2.1 (ninS ne_y0_al2 (Ow.nin1 ne_y0_ed2)) (ninS ne_t0_al2 (Ow.nin1 ne_t0_ed2))
  have St1 := St1.keep F2.1 (ninS ne_y1_al2 (Ow.nin1 ne_y1_ed2)) (ninS ne_t1_al2 (Ow.nin1 ne_t1_ed2))
  have St2 := St2.keep F2.1 (ninS ne_y2_al2 (Ow.nin1 ne_y2_ed2)) (ninS ne_t2_al2 (Ow.nin1 ne_t2_ed2))
  obtain ⟨h_87, e_87⟩ : ∃ q, q = T.heap := ⟨_, rfl⟩
  rw [← e_87] at F D S SD SE Bd Ee Fl0 Be St0 St1 St2 A2
  have eT : T.heap = h_87 := e_87.symm
  refine Ow.pop X hx (pc := 90) (hb hby at_90) rfl ?_
  refine Ow.iload X hx (pc := 91) (hb hby at_91) rfl ?_
  refine Ow.iconst X hx (pc := 93) (2) (hb hby at_93) (by decide) ?_
  refine Ow.icmp_le X hx (pc := 94) (pc' := 105) (hb hby at_94) (by decide) (by decide) (fun h94 => ?_) (fun q => absurd q (by decide))
  refine Ow.aload X hx (pc := 105) (hb hby at_105) rfl rfl ?_
  refine Ow.aconst_null X hx (pc := 107) (hb hby at_107) ?_
  refine Ow.callSW X hx (c_parse2 l Z a0 hw hEL _ z S hz al2 de kd SD Bd ed2 ke2 y0 t0 _ _ St0 hl0 hp0 y1 t1 _ _ St1 hl1 hp1 A2) eT D hEL (fun _ q => nomatch q) hown (ww hw 92 rfl) (ww hw 93 rfl) (ww hw 94 rfl) (ww hw 95 rfl) (by decide) pd24 (by rw [hml]; rfl) (argsL := [_, _]) rfl rfl rfl (pc := 108) (hb hby at_108) rfl rfl (by decide) (by decide) ?_
  rintro _ vm9 T L X ⟨o, hm, al3, rfl, F2, A_o, Fv, Fa, A_hm, Ft, ed3, ke3, A3⟩ D hown C1
  dsimp only [Option.toList_some, Option.toList_none, List.cons_append, List.nil_append]
  have F := F.call F2 (fun _ q => nomatch q)
  have S := S.ext (Ow.Keep.ext0 F2.1)
  have SD := SD.ext (Ow.Keep.ext0 F2.1)
  have SE := SE.ext (Ow.Keep.ext0 F2.1)
  have Bd := Bd.ext (Ow.Keep.ext0 F2.1)
  have Ee := Ee.ext (Ow.Keep.ext0 F2.1)
  have Fl0 := Fl0.ext (Ow.Keep.ext0 F2.1)
  have Be := Be.ext (Ow.Keep.ext0 F2.1)
  have St0 := St0.ext (Ow.Keep.ext0 F2.1)
  have St1 := St1.ext (Ow.Keep.ext0 F2.1)
  have St2 := St2.ext (Ow.Keep.ext0 F2.1)
  have A2 := A2.ext (Ow.Keep.ext0 F2.1)
  obtain ⟨h_108, e_108⟩ : ∃ q, q = T.heap := ⟨_, rfl⟩
  rw [← e_108] at F D S SD SE Bd Ee Fl0 Be St0 St1 St2 A2 A_o Fv Fa A_hm Ft A3
  have eT : T.heap = h_108 := e_108.symm
  refine Ow.astore X hx (pc := 111) #[_, _, _, _, _, _, _, _, _, _, _, _, _, _] (hb hby at_111) rfl rfl ?_
  refine Ow.aload X hx (pc := 113) (hb hby at_113) rfl rfl ?_
  refine Ow.callVP X hx D.hZ (c_oargs l Z a0 hw _ o al3 Fa) rfl rfl eT hown (ww hw 182 rfl) (ww hw 183 rfl) (ww hw 185 rfl) (ww hw 184 rfl) (ww hw 94 rfl) (ww hw 186 rfl) (by decide) pd19 (by rw [hml]; rfl) A_o (argsL := []) rfl rfl rfl (pc := 115) (hb hby at_115) rfl rfl (by decide) (by decide) ?_   -- com/example/rowgate/rowgate/Options.arguments:()Ljava/util/List;
  intro T X eT
  dsimp only [Option.toList_some, Option.toList_none, List.cons_append, List.nil_append]
  refine Ow.astore X hx (pc := 118) #[_, _, _, _, _, _, _, _, _, _, _, _, _, _] (hb hby at_118) rfl rfl ?_
  refine Ow.aload X hx (pc := 120) (hb hby at_120) rfl rfl ?_
  refine Ow.callFP X hx D.hZ (c_size l Z a0 hw _ al3 _ A3.2.2.1) rfl rfl eT hown (ww hw 187 rfl) (ww hw 115 rfl) (ww hw 117 rfl) (ww hw 118 rfl) (ww hw 116 rfl) (ww hw 119 rfl) (ww hw 120 rfl) (ww hw 121 rfl) (ww hw 39 rfl) (ww hw 122 rfl) (by decide) pd14 (by rw [hml]; rfl) A3.1 (argsL := []) rfl rfl rfl (pc := 122) (hb hby at_122) rfl rfl (by decide) (by decide) ?_
  intro T X eT
  dsimp only [Option.toList_some, Option.toList_none, List.cons_append, List.nil_append]
  refine Ow.iload X hx (pc := 127) (hb hby at_127) rfl ?_
  refine Ow.icmp_ne X hx (pc := 129) (pc' := 136) (hb hby at_129) (by decide) (by decide) (fun q => absurd rfl q) (fun h129 => ?_)
  refine Ow.iconst X hx (pc := 132) (1) (hb hby at_132) (by decide) ?_
  refine Ow.goto X hx (pc := 133) (pc' := 137) (hb hby at_133) (by decide) (by decide) ?_
  refine Ow.istore X hx (pc := 137) #[_, _, _, _, _, _, _, _, _, _, _, _, _, _] (hb hby at_137) rfl ?_
  refine Ow.iload X hx (pc := 139) (hb hby at_139) rfl ?_
  refine Ow.if_eq X hx (pc := 141) (pc' := 167) (hb hby at_141) (by decide) (by decide) (fun q => absurd q (by decide)) (fun h141 => ?_)
  refine Ow.iload X hx (pc := 144) (hb hby at_144) rfl ?_
  refine Ow.if_le X hx (pc := 146) (pc' := 167) (hb hby at_146) (by decide) (by decide) (fun q => absurd (by decide) q) (fun h146 => ?_)
  refine Ow.aload X hx (pc := 149) (hb hby at_149) rfl rfl ?_
  refine Ow.iconst X hx (pc := 151) (0) (hb hby at_151) (by decide) ?_
  refine Ow.callFP X hx D.hZ (c_get l Z a0 hw _ al3 ed3 ke3 2 _ A3 0 y0 rfl (by decide) (by decide)) rfl rfl eT hown (ww hw 188 rfl) (ww hw 124 rfl) (ww hw 126 rfl) (ww hw 127 rfl) (ww hw 125 rfl) (ww hw 128 rfl) (ww hw 129 rfl) (ww hw 121 rfl) (ww hw 39 rfl) (ww hw 130 rfl) (by decide) pd9 (by rw [hml]; rfl) A3.1 (argsL := [_]) rfl rfl rfl (pc := 152) (hb hby at_152) rfl rfl (by decide) (by decide) ?_
  intro T X eT
  dsimp only [Option.toList_some, Option.toList_none, List.cons_append, List.nil_append]
  refine Ow.checkcast X hx D.hZ hown (ww hw 4 rfl) eT (Ins.self St0.1) (pc := 157) (hb hby at_157) ?_
  intro T X eT
  refine Ow.aload X hx (pc := 160) (hb hby at_160) rfl rfl ?_
  refine Ow.callVP X hx D.hZ (c_eqid l Z a0 hw _ y0) rfl rfl eT hown (ww hw 189 rfl) (ww hw 190 rfl) (ww hw 192 rfl) (ww hw 191 rfl) (ww hw 6 rfl) (ww hw 193 rfl) (by decide) pd22 (by rw [hml]; rfl) St0.1 (argsL := [_]) rfl rfl rfl (pc := 162) (hb hby at_162) rfl rfl (by decide) (by decide) ?_   -- java/lang/String.equals:(Ljava/lang/Object;)Z
  intro T X eT
  dsimp only [Option.toList_some, Option.toList_none, List.cons_append, List.nil_append]
  refine Ow.istore X hx (pc := 165) #[_, _, _, _, _, _, _, _, _, _, _, _, _, _] (hb hby at_165) rfl ?_
  refine Ow.iload X hx (pc := 167) (hb hby at_167) rfl ?_
  refine Ow.if_eq X hx (pc := 169) (pc' := 196) (hb hby at_169) (by decide) (by decide) (fun q => absurd q (by decide)) (fun h169 => ?_)
  refine Ow.iload X hx (pc := 172) (hb hby at_172) rfl ?_
  refine Ow.iconst X hx (pc := 174) (1) (hb hby at_174) (by decide) ?_
  refine Ow.icmp_le X hx (pc := 175) (pc' := 196) (hb hby at_175) (by decide) (by decide) (fun q => absurd (by decide) q) (fun h175 => ?_)
  refine Ow.aload X hx (pc := 178) (hb hby at_178) rfl rfl ?_
  refine Ow.iconst X hx (pc := 180) (1) (hb hby at_180) (by decide) ?_
  refine Ow.callFP X hx D.hZ (c_get l Z a0 hw _ al3 ed3 ke3 2 _ A3 1 y1 rfl (by decide) (by decide)) rfl rfl eT hown (ww hw 188 rfl) (ww hw 124 rfl) (ww hw 126 rfl) (ww hw 127 rfl) (ww hw 125 rfl) (ww hw 128 rfl) (ww hw 129 rfl) (ww hw 121 rfl) (ww hw 39 rfl) (ww hw 130 rfl) (by decide) pd9 (by rw [hml]; rfl) A3.1 (argsL := [_]) rfl rfl rfl (pc := 181) (hb hby at_181) rfl rfl (by decide) (by decide) ?_
  intro T X eT
  dsimp only [Option.toList_some, Option.toList_none, List.cons_append, List.nil_append]
  refine Ow.checkcast X hx D.hZ hown (ww hw 4 rfl) eT (Ins.self St1.1) (pc := 186) (hb hby at_186) ?_
  intro T X eT
  refine Ow.aload X hx (pc := 189) (hb hby at_189) rfl rfl ?_
  refine Ow.callVP X hx D.hZ (c_eqid l Z a0 hw _ y1) rfl rfl eT hown (ww hw 189 rfl) (ww hw 190 rfl) (ww hw 192 rfl) (ww hw 191 rfl) (ww hw 6 rfl) (ww hw 193 rfl) (by decide) pd22 (by rw [hml]; rfl) St1.1 (argsL := [_]) rfl rfl rfl (pc := 191) (hb hby at_191) rfl rfl (by decide) (by decide) ?_   -- java/lang/String.equals:(Ljava/lang/Object;)Z
  intro T X eT
  dsimp only [Option.toList_some, Option.toList_none, List.cons_append, List.nil_append]
  refine Ow.istore X hx (pc := 194) #[_, _, _, _, _, _, _, _, _, _, _, _, _, _] (hb hby at_194) rfl ?_
  refine Ow.iload X hx (pc := 196) (hb hby at_196) rfl ?_
  refine Ow.if_eq X hx (pc := 198) (pc' := 225) (hb hby at_198) (by decide) (by decide) (fun q => absurd q (by decide)) (fun h198 => ?_)
  refine Ow.iload X hx (pc := 201) (hb hby at_201) rfl ?_
  refine Ow.iconst X hx (pc := 203) (2) (hb hby at_203) (by decide) ?_
  refine Ow.icmp_le X hx (pc := 204) (pc' := 225) (hb hby at_204) (by decide) (by decide) (fun h204 => ?_) (fun q => absurd q (by decide))
  refine Ow.iload X hx (pc := 225) (hb hby at_225) rfl ?_
  refine Ow.if_eq X hx (pc := 227) (pc' := 249) (hb hby at_227) (by decide) (by decide) (fun q => absurd q (by decide)) (fun h227 => ?_)
  refine Ow.aload X hx (pc := 230) (hb hby at_230) rfl rfl ?_
  refine Ow.aload X hx (pc := 232) (hb hby at_232) rfl rfl ?_
  refine Ow.callVP X hx D.hZ (c_all l Z a0 hw _ o hm x el Fv A_hm Ft SE Ee) rfl rfl eT hown (ww hw 194 rfl) (ww hw 195 rfl) (ww hw 197 rfl) (ww hw 196 rfl) (ww hw 94 rfl) (ww hw 198 rfl) (by decide) pd25 (by rw [hml]; rfl) A_o (argsL := [_]) rfl rfl rfl (pc := 234) (hb hby at_234) rfl rfl (by decide) (by decide) ?_   -- com/example/rowgate/rowgate/Options.all:(Ljava/lang/String;)Ljava/util/List;
  intro T X eT
  dsimp only [Option.toList_some, Option.toList_none, List.cons_append, List.nil_append]
  refine Ow.callFP X hx D.hZ (c_lnsize l Z a0 hw _ el ea0 ka0 Fl0 Be) rfl rfl eT hown (ww hw 187 rfl) (ww hw 115 rfl) (ww hw 223 rfl) (ww hw 224 rfl) (ww hw 116 rfl) (ww hw 225 rfl) (ww hw 226 rfl) (ww hw 222 rfl) (ww hw 227 rfl) (ww hw 228 rfl) (by decide) pd14 (by rw [hml]; rfl) Ee (argsL := []) rfl rfl rfl (pc := 237) (hb hby at_237) rfl rfl (by decide) (by decide) ?_
  intro T X eT
  dsimp only [Option.toList_some, Option.toList_none, List.cons_append, List.nil_append]
  refine Ow.if_ne X hx (pc := 242) (pc' := 249) (hb hby at_242) (by decide) (by decide) (fun q => absurd rfl q) (fun h242 => ?_)
  refine Ow.iconst X hx (pc := 245) (1) (hb hby at_245) (by decide) ?_
  refine Ow.goto X hx (pc := 246) (pc' := 250) (hb hby at_246) (by decide) (by decide) ?_
  exact Ow.nreturnW X hx eT D hEL hlk hret (Or.inl rfl) (hb hby at_250) ⟨rfl, by rw [eT]; exact F⟩ (by decide) (by decide)
set_option maxRecDepth 65536 in
set_option maxHeartbeats 40000000 in
theorem law_3 (l : Launch) (Z : State) (a0 : Array Value) (hw : ∀ d ∈ tables_1, d.before a0 Z = true) (hEL : EW Z a0 EL) (h0 : Heap) (z p0 p1 p2 p3 p4 : Int32) (S : Sta Z h0 "java/lang/String" "COMPACT_STRINGS" "Z" (.int z)) (hz : ¬ z = 0) (de el ea0 : Addr) (kd ka0 : ClassId) (SD : Sta Z h0 "java/util/ArrayList" "DEFAULTCAPACITY_EMPTY_ELEMENTDATA" "[Ljava/lang/Object;" (.ref de)) (Bd : Ow.AL Z h0 de kd (.object "java/lang/Object") []) (SE : Sta Z h0 "java/util/ImmutableCollections" "EMPTY_LIST" "Ljava/util/ImmutableCollections$ListN;" (.ref el)) (Ee : Exa Z h0 el "java/util/ImmutableCollections$ListN") (Fl0 : Fld Z h0 el "java/util/ImmutableCollections$ListN" "elements" "[Ljava/lang/Object;" (.ref ea0)) (Be : Ow.AL Z h0 ea0 ka0 (.object "java/lang/Object") []) (hn : p3 &&& 3 = 3) : Ow.PayW l Z EL [] x code maxLocals ret room_1 #[(.int p0), (.int p1), (.int p2), (.int p3), (.int p4)] h0 (fun v h L => v = some (.int 1) ∧ Ow.Eff h0 h [] L) := by
  refine Ow.PayW.of (Ls := #[.val (.int p0), .val (.int p1), .val (.int p2), .val (.int p3), .val (.int p4), .unset, .unset, .unset, .unset, .unset, .unset, .unset, .unset, .unset]) (plainFor_of_name pn10) (fun m => by first | rfl | (simp [entryFrame, mkF, argsToLocals, Value.category, maxLocals]; done)) ?_
  intro p e s m below meth c T vm0 hx hby hml hown hnm hme hret hlk X eT D hsf
  have F := Ow.Eff.refl h0 []
  obtain ⟨ke, hke⟩ := own_mask8 p4
  refine Ow.iloadN X hx (pc := 0) (hb hby at_0) rfl ?_
  refine Ow.iconst X hx (pc := 1) (3) (hb hby at_1) (by decide) ?_
  refine Ow.iand X hx (pc := 2) (hb hby at_2) ?_
  rw [hn]
  refine Ow.istore X hx (pc := 3) #[_, _, _, _, _, _, _, _, _, _, _, _, _, _] (hb hby at_3) rfl ?_
  refine Ow.iloadN X hx (pc := 5) (hb hby at_5) rfl ?_
  refine Ow.callSW X hx (c_word l Z a0 hw hEL _ z S hz p0) eT D hEL (fun _ q => nomatch q) hown (ww hw 0 rfl) (ww hw 1 rfl) (ww hw 2 rfl) (ww hw 3 rfl) (by decide) pd23 (by rw [hml]; rfl) (argsL := [_]) rfl rfl rfl (pc := 6) (hb hby at_6) rfl rfl (by decide) (by decide) ?_
  rintro _ vm0 T L X ⟨y0, t0, k0, bs0, rfl, F2, St0, hl0, hp0⟩ D hown C1
  dsimp only [Option.toList_some, Option.toList_none, List.cons_append, List.nil_append]
  have F := F.call F2 (fun _ q => nomatch q)
  have S := S.ext (Ow.Keep.ext0 F2.1)
  have SD := SD.ext (Ow.Keep.ext0 F2.1)
  have SE := SE.ext (Ow.Keep.ext0 F2.1)
  have Bd := Bd.ext (Ow.Keep.ext0 F2.1)
  have Ee := Ee.ext (Ow.Keep.ext0 F2.1)
  have Fl0 := Fl0.ext (Ow.Keep.ext0 F2.1)
  have Be := Be.ext (Ow.Keep.ext0 F2.1)
  obtain ⟨h_w0, e_w0⟩ : ∃ q, q = T.heap := ⟨_, rfl⟩
  rw [← e_w0] at F D S SD SE Bd Ee Fl0 Be St0
  have eT : T.heap = h_w0 := e_w0.symm
  refine Ow.astore X hx (pc := 9) #[_, _, _, _, _, _, _, _, _, _, _, _, _, _] (hb hby at_9) rfl rfl ?_
  refine Ow.iloadN X hx (pc := 11) (hb hby at_11) rfl ?_
  refine Ow.callSW X hx (c_word l Z a0 hw hEL _ z S hz p1) eT D hEL (fun _ q => nomatch q) hown (ww hw 0 rfl) (ww hw 1 rfl) (ww hw 2 rfl) (ww hw 3 rfl) (by decide) pd23 (by rw [hml]; rfl) (argsL := [_]) rfl rfl rfl (pc := 12) (hb hby at_12) rfl rfl (by decide) (by decide) ?_
  rintro _ vm1 T L X ⟨y1, t1, k1, bs1, rfl, F2, St1, hl1, hp1⟩ D hown C1
  dsimp only [Option.toList_some, Option.toList_none, List.cons_append, List.nil_append]
  have F := F.call F2 (fun _ q => nomatch q)
  have S := S.ext (Ow.Keep.ext0 F2.1)
  have SD := SD.ext (Ow.Keep.ext0 F2.1)
  have SE := SE.ext (Ow.Keep.ext0 F2.1)
  have Bd := Bd.ext (Ow.Keep.ext0 F2.1)
  have Ee := Ee.ext (Ow.Keep.ext0 F2.1)
  have Fl0 := Fl0.ext (Ow.Keep.ext0 F2.1)
  have Be := Be.ext (Ow.Keep.ext0 F2.1)
  have St0 := St0.ext (Ow.Keep.ext0 F2.1)
  obtain ⟨h_w1, e_w1⟩ : ∃ q, q = T.heap := ⟨_, rfl⟩
  rw [← e_w1] at F D S SD SE Bd Ee Fl0 Be St0 St1
  have eT : T.heap = h_w1 := e_w1.symm
  refine Ow.astore X hx (pc := 15) #[_, _, _, _, _, _, _, _, _, _, _, _, _, _] (hb hby at_15) rfl rfl ?_
  refine Ow.iloadN X hx (pc := 17) (hb hby at_17) rfl ?_
  refine Ow.callSW X hx (c_word l Z a0 hw hEL _ z S hz p2) eT D hEL (fun _ q => nomatch q) hown (ww hw 0 rfl) (ww hw 1 rfl) (ww hw 2 rfl) (ww hw 3 rfl) (by decide) pd23 (by rw [hml]; rfl) (argsL := [_]) rfl rfl rfl (pc := 18) (hb hby at_18) rfl rfl (by decide) (by decide) ?_
  rintro _ vm2 T L X ⟨y2, t2, k2, bs2, rfl, F2, St2, hl2, hp2⟩ D hown C1
  dsimp only [Option.toList_some, Option.toList_none, List.cons_append, List.nil_append]
  have F := F.call F2 (fun _ q => nomatch q)
  have S := S.ext (Ow.Keep.ext0 F2.1)
  have SD := SD.ext (Ow.Keep.ext0 F2.1)
  have SE := SE.ext (Ow.Keep.ext0 F2.1)
  have Bd := Bd.ext (Ow.Keep.ext0 F2.1)
  have Ee := Ee.ext (Ow.Keep.ext0 F2.1)
  have Fl0 := Fl0.ext (Ow.Keep.ext0 F2.1)
  have Be := Be.ext (Ow.Keep.ext0 F2.1)
  have St0 := St0.ext (Ow.Keep.ext0 F2.1)
  have St1 := St1.ext (Ow.Keep.ext0 F2.1)
  obtain ⟨h_w2, e_w2⟩ : ∃ q, q = T.heap := ⟨_, rfl⟩
  rw [← e_w2] at F D S SD SE Bd Ee Fl0 Be St0 St1 St2
  have eT : T.heap = h_w2 := e_w2.symm
  refine Ow.astore X hx (pc := 21) #[_, _, _, _, _, _, _, _, _, _, _, _, _, _] (hb hby at_21) rfl rfl ?_
  refine Ow.new_ X hx D.hZ hown (ww hw 4 rfl) (ww hw 5 rfl) (ww hw 6 rfl) eT (pc := 23) (hb hby at_23) (by decide) (by decide) ?_
  intro T h_x x ha_x X eT E_x A_x D_x U_x
  have l_x : h0.size ≤ x := by rw [ha_x]; exact F.size
  have ne_de_x : de ≠ x := by rw [ha_x]; exact Nat.ne_of_lt Bd.lt
  have ne_el_x : el ≠ x := by rw [ha_x]; exact Nat.ne_of_lt Ee.lt
  have ne_ea0_x : ea0 ≠ x := by rw [ha_x]; exact Nat.ne_of_lt Be.lt
  have ne_y0_x : y0 ≠ x := by rw [ha_x]; exact Nat.ne_of_lt St0.lt
  have ne_t0_x : t0 ≠ x := by rw [ha_x]; exact Nat.ne_of_lt St0.ltB
  have ne_y1_x : y1 ≠ x := by rw [ha_x]; exact Nat.ne_of_lt St1.lt
  have ne_t1_x : t1 ≠ x := by rw [ha_x]; exact Nat.ne_of_lt St1.ltB
  have ne_y2_x : y2 ≠ x := by rw [ha_x]; exact Nat.ne_of_lt St2.lt
  have ne_t2_x : t2 ≠ x := by rw [ha_x]; exact Nat.ne_of_lt St2.ltB
  have S_x := D.safeNew E_x
  rw [← ha_x] at S_x
  have S := S.ext E_x
  have SD := SD.ext E_x
  have SE := SE.ext E_x
  have Bd := Bd.ext E_x
  have Ee := Ee.ext E_x
  have Fl0 := Fl0.ext E_x
  have Be := Be.ext E_x
  have St0 := St0.ext E_x
  have St1 := St1.ext E_x
  have St2 := St2.ext E_x
  have F := F.ext E_x
  have D := D.ext E_x
  have V_x := D_x (Or.inr (ww hw 20 rfl)) (ty := .array .byte) (by decide)
  have C_x := D_x (Or.inr (ww hw 21 rfl)) (ty := .byte) (by decide)
  refine Ow.dup X hx (pc := 26) (hb hby at_26) rfl ?_
  refine Ow.iconst X hx (pc := 27) (3) (hb hby at_27) (by decide) ?_
  refine Ow.newarrayL X hx D.hZ (ww hw 7 rfl) eT 3 (vs := [_, _, _]) rfl (pc := 28) (hb hby at_28) (by decide) (by decide) (by decide) (by decide) (by decide) ?_
  intro T h_cA k_cA cA ha_cA X eT E_cA B_cA
  have l_cA : h0.size ≤ cA := by rw [ha_cA]; exact F.size
  have ne_de_cA : de ≠ cA := by rw [ha_cA]; exact Nat.ne_of_lt Bd.lt
  have ne_el_cA : el ≠ cA := by rw [ha_cA]; exact Nat.ne_of_lt Ee.lt
  have ne_ea0_cA : ea0 ≠ cA := by rw [ha_cA]; exact Nat.ne_of_lt Be.lt
  have ne_y0_cA : y0 ≠ cA := by rw [ha_cA]; exact Nat.ne_of_lt St0.lt
  have ne_t0_cA : t0 ≠ cA := by rw [ha_cA]; exact Nat.ne_of_lt St0.ltB
  have ne_y1_cA : y1 ≠ cA := by rw [ha_cA]; exact Nat.ne_of_lt St1.lt
  have ne_t1_cA : t1 ≠ cA := by rw [ha_cA]; exact Nat.ne_of_lt St1.ltB
  have ne_y2_cA : y2 ≠ cA := by rw [ha_cA]; exact Nat.ne_of_lt St2.lt
  have ne_t2_cA : t2 ≠ cA := by rw [ha_cA]; exact Nat.ne_of_lt St2.ltB
  have ne_x_cA : x ≠ cA := by rw [ha_cA]; exact Nat.ne_of_lt A_x.lt
  have S_cA := D.safeNew E_cA
  rw [← ha_cA] at S_cA
  have S := S.ext E_cA
  have SD := SD.ext E_cA
  have SE := SE.ext E_cA
  have Bd := Bd.ext E_cA
  have Ee := Ee.ext E_cA
  have Fl0 := Fl0.ext E_cA
  have Be := Be.ext E_cA
  have St0 := St0.ext E_cA
  have St1 := St1.ext E_cA
  have St2 := St2.ext E_cA
  have A_x := A_x.ext E_cA
  have V_x := V_x.ext E_cA
  have C_x := C_x.ext E_cA
  have S_x := D.safeExt E_cA S_x
  have F := F.ext E_cA
  have D := D.ext E_cA
  refine Ow.dup X hx (pc := 30) (hb hby at_30) rfl ?_
  refine Ow.iconst X hx (pc := 31) (0) (hb hby at_31) (by decide) ?_
  refine Ow.bipush X hx (pc := 32) (45) (hb hby at_32) (by decide) ?_
  refine Ow.castoreL X hx D.hZ eT B_cA 0 [_, _, _] (by decide) (by decide) rfl rfl (pc := 34) (hb hby at_34) ?_
  intro T h_34 X eT W_34 B_cA
  rw [show nar .char (45 : Int32) = 45 from by decide] at B_cA W_34
  have S := S.wr W_34
  have SD := SD.wr W_34
  have SE := SE.wr W_34
  have Bd := Bd.other W_34 ne_de_cA
  have Ee := Ee.wr W_34
  have Fl0 := Fl0.other W_34 (Or.inl ne_el_cA)
  have Be := Be.other W_34 ne_ea0_cA
  have St0 := St0.keep (Keep.of_wr W_34) (Ow.nin1 ne_y0_cA) (Ow.nin1 ne_t0_cA)
  have St1 := St1.keep (Keep.of_wr W_34) (Ow.nin1 ne_y1_cA) (Ow.nin1 ne_t1_cA)
  have St2 := St2.keep (Keep.of_wr W_34) (Ow.nin1 ne_y2_cA) (Ow.nin1 ne_t2_cA)
  have A_x := A_x.wr W_34
  have V_x := V_x.other W_34 (Or.inl ne_x_cA)
  have C_x := C_x.other W_34 (Or.inl ne_x_cA)
  have S_tmp := S_cA
  have S_x := D.safeWr W_34 S_tmp S_x
  have S_cA := D.safeWr W_34 S_tmp S_cA
  have D := D.wr W_34 S_tmp
  have F := F.wr W_34 (Or.inr l_cA)
  refine Ow.dup X hx (pc := 35) (hb hby at_35) rfl ?_
  refine Ow.iconst X hx (pc := 36) (1) (hb hby at_36) (by decide) ?_
  refine Ow.bipush X hx (pc := 37) (45) (hb hby at_37) (by decide) ?_
  refine Ow.castoreL X hx D.hZ eT B_cA 1 [_, _, _] (by decide) (by decide) rfl rfl (pc := 39) (hb hby at_39) ?_
  intro T h_39 X eT W_39 B_cA
  rw [show nar .char (45 : Int32) = 45 from by decide] at B_cA W_39
  have S := S.wr W_39
  have SD := SD.wr W_39
  have SE := SE.wr W_39
  have Bd := Bd.other W_39 ne_de_cA
  have Ee := Ee.wr W_39
  have Fl0 := Fl0.other W_39 (Or.inl ne_el_cA)
  have Be := Be.other W_39 ne_ea0_cA
  have St0 := St0.keep (Keep.of_wr W_39) (Ow.nin1 ne_y0_cA) (Ow.nin1 ne_t0_cA)
  have St1 := St1.keep (Keep.of_wr W_39) (Ow.nin1 ne_y1_cA) (Ow.nin1 ne_t1_cA)
  have St2 := St2.keep (Keep.of_wr W_39) (Ow.nin1 ne_y2_cA) (Ow.nin1 ne_t2_cA)
  have A_x := A_x.wr W_39
  have V_x := V_x.other W_39 (Or.inl ne_x_cA)
  have C_x := C_x.other W_39 (Or.inl ne_x_cA)
  have S_tmp := S_cA
  have S_x := D.safeWr W_39 S_tmp S_x
  have S_cA := D.safeWr W_39 S_tmp S_cA
  have D := D.wr W_39 S_tmp
  have F := F.wr W_39 (Or.inr l_cA)
  refine Ow.dup X hx (pc := 40) (hb hby at_40) rfl ?_
  refine Ow.iconst X hx (pc := 41) (2) (hb hby at_41) (by decide) ?_
  refine Ow.iload X hx (pc := 42) (hb hby at_42) rfl ?_
  refine Ow.sipush X hx (pc := 44) (255) (hb hby at_44) (by decide) ?_
  refine Ow.iand X hx (pc := 47) (hb hby at_47) ?_
  refine Ow.i2c X hx (pc := 48) (hb hby at_48) ?_
  rw [hke, (own_ch8 ke).2.2.2]
  refine Ow.castoreL X hx D.hZ eT B_cA 2 [_, _, _] (by decide) (by decide) rfl rfl (pc := 49) (hb hby at_49) ?_
  intro T h_49 X eT W_49 B_cA
  rw [(own_ch8 ke).2.2.1] at B_cA W_49
  have S := S.wr W_49
  have SD := SD.wr W_49
  have SE := SE.wr W_49
  have Bd := Bd.other W_49 ne_de_cA
  have Ee := Ee.wr W_49
  have Fl0 := Fl0.other W_49 (Or.inl ne_el_cA)
  have Be := Be.other W_49 ne_ea0_cA
  have St0 := St0.keep (Keep.of_wr W_49) (Ow.nin1 ne_y0_cA) (Ow.nin1 ne_t0_cA)
  have St1 := St1.keep (Keep.of_wr W_49) (Ow.nin1 ne_y1_cA) (Ow.nin1 ne_t1_cA)
  have St2 := St2.keep (Keep.of_wr W_49) (Ow.nin1 ne_y2_cA) (Ow.nin1 ne_t2_cA)
  have A_x := A_x.wr W_49
  have V_x := V_x.other W_49 (Or.inl ne_x_cA)
  have C_x := C_x.other W_49 (Or.inl ne_x_cA)
  have S_tmp := S_cA
  have S_x := D.safeWr W_49 S_tmp S_x
  have S_cA := D.safeWr W_49 S_tmp S_cA
  have D := D.wr W_49 S_tmp
  have F := F.wr W_49 (Or.inr l_cA)
  have H8 : ∀ c ∈ ([45, 45, Int32.ofNat ke.val] : List Int32), ∃ k : Fin 256, c = Int32.ofNat k.val := by
    intro c hc
    simp only [List.mem_cons, List.not_mem_nil, or_false] at hc
    rcases hc with rfl | rfl | rfl
    · exact ⟨45, rfl⟩
    · exact ⟨45, rfl⟩
    · exact ⟨ke, rfl⟩
  have P_x := Ow.Exa.plain A_x
  refine strLat X hx D.hZ hw eT hown (ww hw 8 rfl) (cs := [45, 45, Int32.ofNat ke.val]) A_x V_x C_x B_cA S hz 3 rfl (by decide) (by decide) H8 (by rw [hml]; rfl) (pc := 50) (hb hby at_50) rfl rfl (by decide) (by decide) ?_
  intro T L k_x X F2 St_x
  have F := F.call F2 (fun y hy => by cases List.mem_singleton.mp hy; exact Or.inr l_x)
  have D := D.keep F2.1 (fun y hy => by cases List.mem_singleton.mp hy; exact S_x)
  have S := Ow.staKeep S F2.1 (fun y hy => by cases List.mem_singleton.mp hy; exact P_x)
  have SD := Ow.staKeep SD F2.1 (fun y hy => by cases List.mem_singleton.mp hy; exact P_x)
  have SE := Ow.staKeep SE F2.1 (fun y hy => by cases List.mem_singleton.mp hy; exact P_x)
  have Bd := Bd.keep F2.1 (Ow.nin1 ne_de_x)
  have Ee := Ee.keep F2.1
  have Fl0 := Fl0.keep F2.1 (Ow.nin1 ne_el_x)
  have Be := Be.keep F2.1 (Ow.nin1 ne_ea0_x)
  have St0 := St0.keep F2.1 (Ow.nin1 ne_y0_x) (Ow.nin1 ne_t0_x)
  have St1 := St1.keep F2.1 (Ow.nin1 ne_y1_x) (Ow.nin1 ne_t1_x)
  have St2 := St2.keep F2.1 (Ow.nin1 ne_y2_x) (Ow.nin1 ne_t2_x)
  obtain ⟨h_50, e_50⟩ : ∃ q, q = T.heap := ⟨_, rfl⟩
  rw [← e_50] at F D S SD SE Bd Ee Fl0 Be St0 St1 St2
  have eT : T.heap = h_50 := e_50.symm
  refine Ow.astore X hx (pc := 53) #[_, _, _, _, _, _, _, _, _, _, _, _, _, _] (hb hby at_53) rfl rfl ?_
  refine Ow.new_ X hx D.hZ hown (ww hw 37 rfl) (ww hw 38 rfl) (ww hw 39 rfl) eT (pc := 55) (hb hby at_55) (by decide) (by decide) ?_
  intro T h_al2 al2 ha_al2 X eT E_al2 A_al2 D_al2 U_al2
  have l_al2 : h0.size ≤ al2 := by rw [ha_al2]; exact F.size
  have ne_de_al2 : de ≠ al2 := by rw [ha_al2]; exact Nat.ne_of_lt Bd.lt
  have ne_el_al2 : el ≠ al2 := by rw [ha_al2]; exact Nat.ne_of_lt Ee.lt
  have ne_ea0_al2 : ea0 ≠ al2 := by rw [ha_al2]; exact Nat.ne_of_lt Be.lt
  have ne_y0_al2 : y0 ≠ al2 := by rw [ha_al2]; exact Nat.ne_of_lt St0.lt
  have ne_t0_al2 : t0 ≠ al2 := by rw [ha_al2]; exact Nat.ne_of_lt St0.ltB
  have ne_y1_al2 : y1 ≠ al2 := by rw [ha_al2]; exact Nat.ne_of_lt St1.lt
  have ne_t1_al2 : t1 ≠ al2 := by rw [ha_al2]; exact Nat.ne_of_lt St1.ltB
  have ne_y2_al2 : y2 ≠ al2 := by rw [ha_al2]; exact Nat.ne_of_lt St2.lt
  have ne_t2_al2 : t2 ≠ al2 := by rw [ha_al2]; exact Nat.ne_of_lt St2.ltB
  have S_al2 := D.safeNew E_al2
  rw [← ha_al2] at S_al2
  have S := S.ext E_al2
  have SD := SD.ext E_al2
  have SE := SE.ext E_al2
  have Bd := Bd.ext E_al2
  have Ee := Ee.ext E_al2
  have Fl0 := Fl0.ext E_al2
  have Be := Be.ext E_al2
  have St0 := St0.ext E_al2
  have St1 := St1.ext E_al2
  have St2 := St2.ext E_al2
  have F := F.ext E_al2
  have D := D.ext E_al2
  have Z_elementData := D_al2 (Or.inl (ww hw 60 rfl)) (ty := (.array (.object "java/lang/Object"))) (by decide)
  have Z_size := D_al2 (Or.inl (ww hw 69 rfl)) (ty := .int) (by decide)
  have Z_modCount := D_al2 (Or.inl (ww hw 57 rfl)) (ty := .int) (by decide)
  have P1 := Ow.Exa.plain A_al2
  refine Ow.dup X hx (pc := 58) (hb hby at_58) rfl ?_
  refine Ow.callI X hx D.hZ (c_arinit l Z a0 hw _ al2 A_al2 Z_elementData Z_size Z_modCount de kd SD Bd ne_de_al2) eT rfl hown (ww hw 40 rfl) (ww hw 41 rfl) (ww hw 39 rfl) (ww hw 42 rfl) (by decide) pd0 (by rw [hml]; rfl) (argsL := []) rfl rfl rfl (pc := 59) (hb hby at_59) rfl rfl (by decide) (by decide) ?_
  rintro _ T L X ⟨rfl, F2, A2⟩
  dsimp only [Option.toList_some, Option.toList_none, List.cons_append, List.nil_append]
  have F := F.call F2 (fun y hy => by cases List.mem_singleton.mp hy; exact Or.inr l_al2)
  have D := D.keep F2.1 (fun y hy => by cases List.mem_singleton.mp hy; exact S_al2)
  have S := Ow.staKeep S F2.1 (fun y hy => by cases List.mem_singleton.mp hy; exact P1)
  have SD := Ow.staKeep SD F2.1 (fun y hy => by cases List.mem_singleton.mp hy; exact P1)
  have SE := Ow.staKeep SE F2.1 (fun y hy => by cases List.mem_singleton.mp hy; exact P1)
  have Bd := Bd.keep F2.1 (Ow.nin1 ne_de_al2)
  have Ee := Ee.keep F2.1
  have Fl0 := Fl0.keep F2.1 (Ow.nin1 ne_el_al2)
  have Be := Be.keep F2.1 (Ow.nin1 ne_ea0_al2)
  have St0 := St0.keep F2.1 (Ow.nin1 ne_y0_al2) (Ow.nin1 ne_t0_al2)
  have St1 := St1.keep F2.1 (Ow.nin1 ne_y1_al2) (Ow.nin1 ne_t1_al2)
  have St2 := St2.keep F2.1 (Ow.nin1 ne_y2_al2) (Ow.nin1 ne_t2_al2)
  obtain ⟨h_59, e_59⟩ : ∃ q, q = T.heap := ⟨_, rfl⟩
  rw [← e_59] at F D S SD SE Bd Ee Fl0 Be St0 St1 St2 A2
  have eT : T.heap = h_59 := e_59.symm
  refine Ow.astore X hx (pc := 62) #[_, _, _, _, _, _, _, _, _, _, _, _, _, _] (hb hby at_62) rfl rfl ?_
  refine Ow.iload X hx (pc := 64) (hb hby at_64) rfl ?_
  refine Ow.if_le X hx (pc := 66) (pc' := 77) (hb hby at_66) (by decide) (by decide) (fun q => absurd (by decide) q) (fun h66 => ?_)
  refine Ow.aload X hx (pc := 69) (hb hby at_69) rfl rfl ?_
  refine Ow.aload X hx (pc := 71) (hb hby at_71) rfl rfl ?_
  have h_al2 := A2.lt
  have P1 := Ow.Exa.plain A2.1
  have Q1 : Safe Z EL _ _ al2 := Safe.exa D.hZ.alike A2.1 (by decide) (by decide)
  refine Ow.callV X hx D.hZ (c_addE l Z a0 hw _ al2 de kd A2 SD ne_de_al2 y0 St0.1) eT hown (ww hw 61 rfl) (ww hw 62 rfl) (ww hw 64 rfl) (ww hw 63 rfl) (ww hw 39 rfl) (ww hw 65 rfl) (by decide) pd22 (by rw [hml]; rfl) A2.1 (argsL := [_]) rfl rfl rfl (pc := 73) (hb hby at_73) rfl rfl (by decide) (by decide) ?_
  rintro _ T L X ⟨rfl, F2, ed2, ke2, l_ed2, A2⟩
  dsimp only [Option.toList_some, Option.toList_none, List.cons_append, List.nil_append]
  have ne_de_ed2 : de ≠ ed2 := Nat.ne_of_lt (Nat.lt_of_lt_of_le Bd.lt l_ed2)
  have ne_el_ed2 : el ≠ ed2 := Nat.ne_of_lt (Nat.lt_of_lt_of_le Ee.lt l_ed2)
  have ne_ea0_ed2 : ea0 ≠ ed2 := Nat.ne_of_lt (Nat.lt_of_lt_of_le Be.lt l_ed2)
  have ne_y0_ed2 : y0 ≠ ed2 := Nat.ne_of_lt (Nat.lt_of_lt_of_le St0.lt l_ed2)
  have ne_t0_ed2 : t0 ≠ ed2 := Nat.ne_of_lt (Nat.lt_of_lt_of_le St0.ltB l_ed2)
  have ne_y1_ed2 : y1 ≠ ed2 := Nat.ne_of_lt (Nat.lt_of_lt_of_le St1.lt l_ed2)
  have ne_t1_ed2 : t1 ≠ ed2 := Nat.ne_of_lt (Nat.lt_of_lt_of_le St1.ltB l_ed2)
  have ne_y2_ed2 : y2 ≠ ed2 := Nat.ne_of_lt (Nat.lt_of_lt_of_le St2.lt l_ed2)
  have ne_t2_ed2 : t2 ≠ ed2 := Nat.ne_of_lt (Nat.lt_of_lt_of_le St2.ltB l_ed2)
  have ne_al2_ed2 : al2 ≠ ed2 := Nat.ne_of_lt (Nat.lt_of_lt_of_le h_al2 l_ed2)
  have l_ed2 := Nat.le_trans F.size l_ed2
  have F := F.call F2 (fun y hy => by cases List.mem_singleton.mp hy; exact Or.inr l_al2)
  have D := D.keep F2.1 (fun y hy => by cases List.mem_singleton.mp hy; exact Q1)
  have S := Ow.staKeep S F2.1 (fun y hy => by cases List.mem_singleton.mp hy; exact P1)
  have SD := Ow.staKeep SD F2.1 (fun y hy => by cases List.mem_singleton.mp hy; exact P1)
  have SE := Ow.staKeep SE F2.1 (fun y hy => by cases List.mem_singleton.mp hy; exact P1)
  have Bd := Bd.keep F2.1 (Ow.nin1 ne_de_al2)
  have Ee := Ee.keep F2.1
  have Fl0 := Fl0.keep F2.1 (Ow.nin1 ne_el_al2)
  have Be := Be.keep F2.1 (Ow.nin1 ne_ea0_al2)
  have St0 := St0.keep F2.1 (Ow.nin1 ne_y0_al2) (Ow.nin1 ne_t0_al2)
  have St1 := St1.keep F2.1 (Ow.nin1 ne_y1_al2) (Ow.nin1 ne_t1_al2)
  have St2 := St2.keep F2.1 (Ow.nin1 ne_y2_al2) (Ow.nin1 ne_t2_al2)
  obtain ⟨h_73, e_73⟩ : ∃ q, q = T.heap := ⟨_, rfl⟩
  rw [← e_73] at F D S SD SE Bd Ee Fl0 Be St0 St1 St2 A2
  have eT : T.heap = h_73 := e_73.symm
  refine Ow.pop X hx (pc := 76) (hb hby at_76) rfl ?_
  refine Ow.iload X hx (pc := 77) (hb hby at_77) rfl ?_
  refine Ow.iconst X hx (pc := 79) (1) (hb hby at_79) (by decide) ?_
  refine Ow.icmp_le X hx (pc := 80) (pc' := 91) (hb hby at_80) (by decide) (by decide) (fun q => absurd (by decide) q) (fun h80 => ?_)
  refine Ow.aload X hx (pc := 83) (hb hby at_83) rfl rfl ?_
  refine Ow.aload X hx (pc := 85) (hb hby at_85) rfl rfl ?_
  have h_al2 := A2.lt
  have P1 := Ow.Exa.plain A2.1
  have Q1 : Safe Z EL _ _ al2 := Safe.exa D.hZ.alike A2.1 (by decide) (by decide)
  have P2 := Ow.AL.plain A2.2.2.2.2.1
  have Q2 : Safe Z EL _ _ ed2 := A2.2.2.2.2.1.safe D.hZ.alike (by decide)
  refine Ow.callV X hx D.hZ (c_addL1 l Z a0 hw _ al2 ed2 ke2 y0 A2 ne_al2_ed2 y1 St1.1) eT hown (ww hw 61 rfl) (ww hw 62 rfl) (ww hw 64 rfl) (ww hw 63 rfl) (ww hw 39 rfl) (ww hw 65 rfl) (by decide) pd22 (by rw [hml]; rfl) A2.1 (argsL := [_]) rfl rfl rfl (pc := 87) (hb hby at_87) rfl rfl (by decide) (by decide) ?_
  rintro _ T L X ⟨rfl, F2, A2⟩
  dsimp only [Option.toList_some, Option.toList_none, List.cons_append, List.nil_append]
  have F := F.call F2 (fun y hy => by
    simp only [List.mem_cons, List.not_mem_nil, or_false] at hy
    rcases hy with rfl | rfl
    · exact Or.inr l_al2
    · exact Or.inr l_ed2)
  have D := D.keep F2.1 (fun y hy => by
    simp only [List.mem_cons, List.not_mem_nil, or_false] at hy
    rcases hy with rfl | rfl
    · exact Q1
    · exact Q2)
  have hpl : ∀ y ∈ [al2, ed2], ∃ c : Cell, h_73[y]? = some c ∧ c.vm.isStatics = false := fun y hy => by
    simp only [List.mem_cons, List.not_mem_nil, or_false] at hy
    rcases hy with rfl | rfl
    · exact P1
    · exact P2
  have S := Ow.staKeep S F2.1 (fun y hy => hpl y hy)
  have SD := Ow.staKeep SD F2.1 (fun y hy => hpl y hy)
  have SE := Ow.staKeep SE F2.1 (fun y hy => hpl y hy)
  have Bd := Bd.keep F2.1 (ninS ne_de_al2 (Ow.nin1 ne_de_ed2))
  have Ee := Ee.keep F2.1
  have Fl0 := Fl0.keep F2.1 (ninS ne_el_al2 (Ow.nin1 ne_el_ed2))
  have Be := Be.keep F2.1 (ninS ne_ea0_al2 (Ow.nin1 ne_ea0_ed2))
  have St0 := St0.keep F2.1 (ninS ne_y0_al2 (Ow.nin1 ne_y0_ed2)) (ninS ne_t0_al2 (Ow.nin1 ne_t0_ed2))
  have St1 := St1.keep F2.1 (ninS ne_y1_al2 (Ow.nin1 ne_y1_ed2)) (ninS ne_t1_al2 (Ow.nin1 ne_t1_ed2))
  have St2 := St2.keep F2.1 (ninS ne_y2_al2 (Ow.nin1 ne_y2_ed2)) (ninS ne_t2_al2 (Ow.nin1 ne_t2_ed2))
  obtain ⟨h_87, e_87⟩ : ∃ q, q = T.heap := ⟨_, rfl⟩
  rw [← e_87] at F D S SD SE Bd Ee Fl0 Be St0 St1 St2 A2
  have eT : T.heap = h_87 := e_87.symm
  refine Ow.pop X hx (pc := 90) (hb hby at_90) rfl ?_
  refine Ow.iload X hx (pc := 91) (hb hby at_91) rfl ?_
  refine Ow.iconst X hx (pc := 93) (2) (hb hby at_93) (by decide) ?_
  refine Ow.icmp_le X hx (pc := 94) (pc' := 105) (hb hby at_94) (by decide) (by decide) (fun q => absurd (by decide) q) (fun h94 => ?_)
  refine Ow.aload X hx (pc := 97) (hb hby at_97) rfl rfl ?_
  refine Ow.aload X hx (pc := 99) (hb hby at_99) rfl rfl ?_
  have h_al2 := A2.lt
  have P1 := Ow.Exa.plain A2.1
  have Q1 : Safe Z EL _ _ al2 := Safe.exa D.hZ.alike A2.1 (by decide) (by decide)
  have P2 := Ow.AL.plain A2.2.2.2.2.1
  have Q2 : Safe Z EL _ _ ed2 := A2.2.2.2.2.1.safe D.hZ.alike (by decide)
  refine Ow.callV X hx D.hZ (c_addL2 l Z a0 hw _ al2 ed2 ke2 y0 y1 A2 ne_al2_ed2 y2 St2.1) eT hown (ww hw 61 rfl) (ww hw 62 rfl) (ww hw 64 rfl) (ww hw 63 rfl) (ww hw 39 rfl) (ww hw 65 rfl) (by decide) pd22 (by rw [hml]; rfl) A2.1 (argsL := [_]) rfl rfl rfl (pc := 101) (hb hby at_101) rfl rfl (by decide) (by decide) ?_
  rintro _ T L X ⟨rfl, F2, A2⟩
  dsimp only [Option.toList_some, Option.toList_none, List.cons_append, List.nil_append]
  have F := F.call F2 (fun y hy => by
    simp only [List.mem_cons, List.not_mem_nil, or_false] at hy
    rcases hy with rfl | rfl
    · exact Or.inr l_al2
    · exact Or.inr l_ed2)
  have D := D.keep F2.1 (fun y hy => by
    simp only [List.mem_cons, List.not_mem_nil, or_false] at hy
    rcases hy with rfl | rfl
    · exact Q1
    · exact Q2)
  have hpl : ∀ y ∈ [al2, ed2], ∃ c : Cell, h_87[y]? = some c ∧ c.vm.isStatics = false := fun y hy => by
    simp only [List.mem_cons, List.not_mem_nil, or_false] at hy
    rcases hy with rfl | rfl
    · exact P1
    · exact P2
  have S := Ow.staKeep S F2.1 (fun y hy => hpl y hy)
  have SD := Ow.staKeep SD F2.1 (fun y hy => hpl y hy)
  have SE := Ow.staKeep SE F2.1 (fun y hy => hpl y hy)
  have Bd := Bd.keep F2.1 (ninS ne_de_al2 (Ow.nin1 ne_de_ed2))
  have Ee := Ee.keep F2.1
  have Fl0 := Fl0.keep F2.1 (ninS ne_el_al2 (Ow.nin1 ne_el_ed2))
  have Be := Be.keep F2.1 (ninS ne_ea0_al2 (Ow.nin1 ne_ea0_ed2))
  have St0 := St0.keep F2.1 (ninS ne_y0_al2 (Ow.nin1 ne_y0_ed2)) (ninS ne_t0_al2 (Ow.nin1 ne_t0_ed2))
  have St1 := St1.keep F2.1 (ninS ne_y1_al2 (Ow.nin1 ne_y1_ed2)) (ninS ne_t1_al2 (Ow.nin1 ne_t1_ed2))
  have St2 := St2.keep F2.1 (ninS ne_y2_al2 (Ow.nin1 ne_y2_ed2)) (ninS ne_t2_al2 (Ow.nin1 ne_t2_ed2))
  obtain ⟨h_101, e_101⟩ : ∃ q, q = T.heap := ⟨_, rfl⟩
  rw [← e_101] at F D S SD SE Bd Ee Fl0 Be St0 St1 St2 A2
  have eT : T.heap = h_101 := e_101.symm
  refine Ow.pop X hx (pc := 104) (hb hby at_104) rfl ?_
  refine Ow.aload X hx (pc := 105) (hb hby at_105) rfl rfl ?_
  refine Ow.aconst_null X hx (pc := 107) (hb hby at_107) ?_
  refine Ow.callSW X hx (c_parse3 l Z a0 hw hEL _ z S hz al2 de kd SD Bd ed2 ke2 y0 t0 _ _ St0 hl0 hp0 y1 t1 _ _ St1 hl1 hp1 y2 t2 _ _ St2 hl2 hp2 A2) eT D hEL (fun _ q => nomatch q) hown (ww hw 92 rfl) (ww hw 93 rfl) (ww hw 94 rfl) (ww hw 95 rfl) (by decide) pd24 (by rw [hml]; rfl) (argsL := [_, _]) rfl rfl rfl (pc := 108) (hb hby at_108) rfl rfl (by decide) (by decide) ?_
  rintro _ vm9 T L X ⟨o, hm, al3, rfl, F2, A_o, Fv, Fa, A_hm, Ft, ed3, ke3, A3⟩ D hown C1
  dsimp only [Option.toList_some, Option.toList_none, List.cons_append, List.nil_append]
  have F := F.call F2 (fun _ q => nomatch q)
  have S := S.ext (Ow.Keep.ext0 F2.1)
  have SD := SD.ext (Ow.Keep.ext0 F2.1)
  have SE := SE.ext (Ow.Keep.ext0 F2.1)
  have Bd := Bd.ext (Ow.Keep.ext0 F2.1)
  have Ee := Ee.ext (Ow.Keep.ext0 F2.1)
  have Fl0 := Fl0.ext (Ow.Keep.ext0 F2.1)
  have Be := Be.ext (Ow.Keep.ext0 F2.1)
  have St0 := St0.ext (Ow.Keep.ext0 F2.1)
  have St1 := St1.ext (Ow.Keep.ext0 F2.1)
  have St2 := St2.ext (Ow.Keep.ext0 F2.1)
  have A2 := A2.ext (Ow.Keep.ext0 F2.1)
  obtain ⟨h_108, e_108⟩ : ∃ q, q = T.heap := ⟨_, rfl⟩
  rw [← e_108] at F D S SD SE Bd Ee Fl0 Be St0 St1 St2 A2 A_o Fv Fa A_hm Ft A3
  have eT : T.heap = h_108 := e_108.symm
  refine Ow.astore X hx (pc := 111) #[_, _, _, _, _, _, _, _, _, _, _, _, _, _] (hb hby at_111) rfl rfl ?_
  refine Ow.aload X hx (pc := 113) (hb hby at_113) rfl rfl ?_
  refine Ow.callVP X hx D.hZ (c_oargs l Z a0 hw _ o al3 Fa) rfl rfl eT hown (ww hw 182 rfl) (ww hw 183 rfl) (ww hw 185 rfl) (ww hw 184 rfl) (ww hw 94 rfl) (ww hw 186 rfl) (by decide) pd19 (by rw [hml]; rfl) A_o (argsL := []) rfl rfl rfl (pc := 115) (hb hby at_115) rfl rfl (by decide) (by decide) ?_   -- com/example/rowgate/rowgate/Options.arguments:()Ljava/util/List;
  intro T X eT
  dsimp only [Option.toList_some, Option.toList_none, List.cons_append, List.nil_append]
  refine Ow.astore X hx (pc := 118) #[_, _, _, _, _, _, _, _, _, _, _, _, _, _] (hb hby at_118) rfl rfl ?_
  refine Ow.aload X hx (pc := 120) (hb hby at_120) rfl rfl ?_
  refine Ow.callFP X hx D.hZ (c_size l Z a0 hw _ al3 _ A3.2.2.1) rfl rfl eT hown (ww hw 187 rfl) (ww hw 115 rfl) (ww hw 117 rfl) (ww hw 118 rfl) (ww hw 116 rfl) (ww hw 119 rfl) (ww hw 120 rfl) (ww hw 121 rfl) (ww hw 39 rfl) (ww hw 122 rfl) (by decide) pd14 (by rw [hml]; rfl) A3.1 (argsL := []) rfl rfl rfl (pc := 122) (hb hby at_122) rfl rfl (by decide) (by decide) ?_
  intro T X eT
  dsimp only [Option.toList_some, Option.toList_none, List.cons_append, List.nil_append]
  refine Ow.iload X hx (pc := 127) (hb hby at_127) rfl ?_
  refine Ow.icmp_ne X hx (pc := 129) (pc' := 136) (hb hby at_129) (by decide) (by decide) (fun q => absurd rfl q) (fun h129 => ?_)
  refine Ow.iconst X hx (pc := 132) (1) (hb hby at_132) (by decide) ?_
  refine Ow.goto X hx (pc := 133) (pc' := 137) (hb hby at_133) (by decide) (by decide) ?_
  refine Ow.istore X hx (pc := 137) #[_, _, _, _, _, _, _, _, _, _, _, _, _, _] (hb hby at_137) rfl ?_
  refine Ow.iload X hx (pc := 139) (hb hby at_139) rfl ?_
  refine Ow.if_eq X hx (pc := 141) (pc' := 167) (hb hby at_141) (by decide) (by decide) (fun q => absurd q (by decide)) (fun h141 => ?_)
  refine Ow.iload X hx (pc := 144) (hb hby at_144) rfl ?_
  refine Ow.if_le X hx (pc := 146) (pc' := 167) (hb hby at_146) (by decide) (by decide) (fun q => absurd (by decide) q) (fun h146 => ?_)
  refine Ow.aload X hx (pc := 149) (hb hby at_149) rfl rfl ?_
  refine Ow.iconst X hx (pc := 151) (0) (hb hby at_151) (by decide) ?_
  refine Ow.callFP X hx D.hZ (c_get l Z a0 hw _ al3 ed3 ke3 3 _ A3 0 y0 rfl (by decide) (by decide)) rfl rfl eT hown (ww hw 188 rfl) (ww hw 124 rfl) (ww hw 126 rfl) (ww hw 127 rfl) (ww hw 125 rfl) (ww hw 128 rfl) (ww hw 129 rfl) (ww hw 121 rfl) (ww hw 39 rfl) (ww hw 130 rfl) (by decide) pd9 (by rw [hml]; rfl) A3.1 (argsL := [_]) rfl rfl rfl (pc := 152) (hb hby at_152) rfl rfl (by decide) (by decide) ?_
  intro T X eT
  dsimp only [Option.toList_some, Option.toList_none, List.cons_append, List.nil_append]
  refine Ow.checkcast X hx D.hZ hown (ww hw 4 rfl) eT (Ins.self St0.1) (pc := 157) (hb hby at_157) ?_
  intro T X eT
  refine Ow.aload X hx (pc := 160) (hb hby at_160) rfl rfl ?_
  refine Ow.callVP X hx D.hZ (c_eqid l Z a0 hw _ y0) rfl rfl eT hown (ww hw 189 rfl) (ww hw 190 rfl) (ww hw 192 rfl) (ww hw 191 rfl) (ww hw 6 rfl) (ww hw 193 rfl) (by decide) pd22 (by rw [hml]; rfl) St0.1 (argsL := [_]) rfl rfl rfl (pc := 162) (hb hby at_162) rfl rfl (by decide) (by decide) ?_   -- java/lang/String.equals:(Ljava/lang/Object;)Z
  intro T X eT
  dsimp only [Option.toList_some, Option.toList_none, List.cons_append, List.nil_append]
  refine Ow.istore X hx (pc := 165) #[_, _, _, _, _, _, _, _, _, _, _, _, _, _] (hb hby at_165) rfl ?_
  refine Ow.iload X hx (pc := 167) (hb hby at_167) rfl ?_
  refine Ow.if_eq X hx (pc := 169) (pc' := 196) (hb hby at_169) (by decide) (by decide) (fun q => absurd q (by decide)) (fun h169 => ?_)
  refine Ow.iload X hx (pc := 172) (hb hby at_172) rfl ?_
  refine Ow.iconst X hx (pc := 174) (1) (hb hby at_174) (by decide) ?_
  refine Ow.icmp_le X hx (pc := 175) (pc' := 196) (hb hby at_175) (by decide) (by decide) (fun q => absurd (by decide) q) (fun h175 => ?_)
  refine Ow.aload X hx (pc := 178) (hb hby at_178) rfl rfl ?_
  refine Ow.iconst X hx (pc := 180) (1) (hb hby at_180) (by decide) ?_
  refine Ow.callFP X hx D.hZ (c_get l Z a0 hw _ al3 ed3 ke3 3 _ A3 1 y1 rfl (by decide) (by decide)) rfl rfl eT hown (ww hw 188 rfl) (ww hw 124 rfl) (ww hw 126 rfl) (ww hw 127 rfl) (ww hw 125 rfl) (ww hw 128 rfl) (ww hw 129 rfl) (ww hw 121 rfl) (ww hw 39 rfl) (ww hw 130 rfl) (by decide) pd9 (by rw [hml]; rfl) A3.1 (argsL := [_]) rfl rfl rfl (pc := 181) (hb hby at_181) rfl rfl (by decide) (by decide) ?_
  intro T X eT
  dsimp only [Option.toList_some, Option.toList_none, List.cons_append, List.nil_append]
  refine Ow.checkcast X hx D.hZ hown (ww hw 4 rfl) eT (Ins.self St1.1) (pc := 186) (hb hby at_186) ?_
  intro T X eT
  refine Ow.aload X hx (pc := 189) (hb hby at_189) rfl rfl ?_
  refine Ow.callVP X hx D.hZ (c_eqid l Z a0 hw _ y1) rfl rfl eT hown (ww hw 189 rfl) (ww hw 190 rfl) (ww hw 192 rfl) (ww hw 191 rfl) (ww hw 6 rfl) (ww hw 193 rfl) (by decide) pd22 (by rw [hml]; rfl) St1.1 (argsL := [_]) rfl rfl rfl (pc := 191) (hb hby at_191) rfl rfl (by decide) (by decide) ?_   -- java/lang/String.equals:(Ljava/lang/Object;)Z
  intro T X eT
  dsimp only [Option.toList_some, Option.toList_none, List.cons_append, List.nil_append]
  refine Ow.istore X hx (pc := 194) #[_, _, _, _, _, _, _, _, _, _, _, _, _, _] (hb hby at_194) rfl ?_
  refine Ow.iload X hx (pc := 196) (hb hby at_196) rfl ?_
  refine Ow.if_eq X hx (pc := 198) (pc' := 225) (hb hby at_198) (by decide) (by decide) (fun q => absurd q (by decide)) (fun h198 => ?_)
  refine Ow.iload X hx (pc := 201) (hb hby at_201) rfl ?_
  refine Ow.iconst X hx (pc := 203) (2) (hb hby at_203) (by decide) ?_
  refine Ow.icmp_le X hx (pc := 204) (pc' := 225) (hb hby at_204) (by decide) (by decide) (fun q => absurd (by decide) q) (fun h204 => ?_)
  refine Ow.aload X hx (pc := 207) (hb hby at_207) rfl rfl ?_
  refine Ow.iconst X hx (pc := 209) (2) (hb hby at_209) (by decide) ?_
  refine Ow.callFP X hx D.hZ (c_get l Z a0 hw _ al3 ed3 ke3 3 _ A3 2 y2 rfl (by decide) (by decide)) rfl rfl eT hown (ww hw 188 rfl) (ww hw 124 rfl) (ww hw 126 rfl) (ww hw 127 rfl) (ww hw 125 rfl) (ww hw 128 rfl) (ww hw 129 rfl) (ww hw 121 rfl) (ww hw 39 rfl) (ww hw 130 rfl) (by decide) pd9 (by rw [hml]; rfl) A3.1 (argsL := [_]) rfl rfl rfl (pc := 210) (hb hby at_210) rfl rfl (by decide) (by decide) ?_
  intro T X eT
  dsimp only [Option.toList_some, Option.toList_none, List.cons_append, List.nil_append]
  refine Ow.checkcast X hx D.hZ hown (ww hw 4 rfl) eT (Ins.self St2.1) (pc := 215) (hb hby at_215) ?_
  intro T X eT
  refine Ow.aload X hx (pc := 218) (hb hby at_218) rfl rfl ?_
  refine Ow.callVP X hx D.hZ (c_eqid l Z a0 hw _ y2) rfl rfl eT hown (ww hw 189 rfl) (ww hw 190 rfl) (ww hw 192 rfl) (ww hw 191 rfl) (ww hw 6 rfl) (ww hw 193 rfl) (by decide) pd22 (by rw [hml]; rfl) St2.1 (argsL := [_]) rfl rfl rfl (pc := 220) (hb hby at_220) rfl rfl (by decide) (by decide) ?_   -- java/lang/String.equals:(Ljava/lang/Object;)Z
  intro T X eT
  dsimp only [Option.toList_some, Option.toList_none, List.cons_append, List.nil_append]
  refine Ow.istore X hx (pc := 223) #[_, _, _, _, _, _, _, _, _, _, _, _, _, _] (hb hby at_223) rfl ?_
  refine Ow.iload X hx (pc := 225) (hb hby at_225) rfl ?_
  refine Ow.if_eq X hx (pc := 227) (pc' := 249) (hb hby at_227) (by decide) (by decide) (fun q => absurd q (by decide)) (fun h227 => ?_)
  refine Ow.aload X hx (pc := 230) (hb hby at_230) rfl rfl ?_
  refine Ow.aload X hx (pc := 232) (hb hby at_232) rfl rfl ?_
  refine Ow.callVP X hx D.hZ (c_all l Z a0 hw _ o hm x el Fv A_hm Ft SE Ee) rfl rfl eT hown (ww hw 194 rfl) (ww hw 195 rfl) (ww hw 197 rfl) (ww hw 196 rfl) (ww hw 94 rfl) (ww hw 198 rfl) (by decide) pd25 (by rw [hml]; rfl) A_o (argsL := [_]) rfl rfl rfl (pc := 234) (hb hby at_234) rfl rfl (by decide) (by decide) ?_   -- com/example/rowgate/rowgate/Options.all:(Ljava/lang/String;)Ljava/util/List;
  intro T X eT
  dsimp only [Option.toList_some, Option.toList_none, List.cons_append, List.nil_append]
  refine Ow.callFP X hx D.hZ (c_lnsize l Z a0 hw _ el ea0 ka0 Fl0 Be) rfl rfl eT hown (ww hw 187 rfl) (ww hw 115 rfl) (ww hw 223 rfl) (ww hw 224 rfl) (ww hw 116 rfl) (ww hw 225 rfl) (ww hw 226 rfl) (ww hw 222 rfl) (ww hw 227 rfl) (ww hw 228 rfl) (by decide) pd14 (by rw [hml]; rfl) Ee (argsL := []) rfl rfl rfl (pc := 237) (hb hby at_237) rfl rfl (by decide) (by decide) ?_
  intro T X eT
  dsimp only [Option.toList_some, Option.toList_none, List.cons_append, List.nil_append]
  refine Ow.if_ne X hx (pc := 242) (pc' := 249) (hb hby at_242) (by decide) (by decide) (fun q => absurd rfl q) (fun h242 => ?_)
  refine Ow.iconst X hx (pc := 245) (1) (hb hby at_245) (by decide) ?_
  refine Ow.goto X hx (pc := 246) (pc' := 250) (hb hby at_246) (by decide) (by decide) ?_
  exact Ow.nreturnW X hx eT D hEL hlk hret (Or.inl rfl) (hb hby at_250) ⟨rfl, by rw [eT]; exact F⟩ (by decide) (by decide)
theorem law_w (l : Launch) (Z : State) (a0 : Array Value) (hw : ∀ d ∈ tables_1, d.before a0 Z = true) (hEL : EW Z a0 EL) (h0 : Heap) (z p0 p1 p2 p3 p4 : Int32) (S : Sta Z h0 "java/lang/String" "COMPACT_STRINGS" "Z" (.int z)) (hz : ¬ z = 0) (de el ea0 : Addr) (kd ka0 : ClassId) (SD : Sta Z h0 "java/util/ArrayList" "DEFAULTCAPACITY_EMPTY_ELEMENTDATA" "[Ljava/lang/Object;" (.ref de)) (Bd : Ow.AL Z h0 de kd (.object "java/lang/Object") []) (SE : Sta Z h0 "java/util/ImmutableCollections" "EMPTY_LIST" "Ljava/util/ImmutableCollections$ListN;" (.ref el)) (Ee : Exa Z h0 el "java/util/ImmutableCollections$ListN") (Fl0 : Fld Z h0 el "java/util/ImmutableCollections$ListN" "elements" "[Ljava/lang/Object;" (.ref ea0)) (Be : Ow.AL Z h0 ea0 ka0 (.object "java/lang/Object") []) : Ow.PayW l Z EL [] x code maxLocals ret room_1 #[(.int p0), (.int p1), (.int p2), (.int p3), (.int p4)] h0 (fun v h L => v = some (.int 1) ∧ Ow.Eff h0 h [] L) := by
  rcases own_four p3 with h | h | h | h
  · exact law_0 l Z a0 hw hEL h0 z p0 p1 p2 p3 p4 S hz de el ea0 kd ka0 SD Bd SE Ee Fl0 Be h
  · exact law_1 l Z a0 hw hEL h0 z p0 p1 p2 p3 p4 S hz de el ea0 kd ka0 SD Bd SE Ee Fl0 Be h
  · exact law_2 l Z a0 hw hEL h0 z p0 p1 p2 p3 p4 S hz de el ea0 kd ka0 SD Bd SE Ee Fl0 Be h
  · exact law_3 l Z a0 hw hEL h0 z p0 p1 p2 p3 p4 S hz de el ea0 kd ka0 SD Bd SE Ee Fl0 Be h
theorem own_AL0 {Z : State} {h : Heap} {a : Addr} {cl : Cell} {ty : FieldType} (A : Arr Z h a cl ty) (h1 : cl.slots.size < 2147483648 ∧ cl.slots.size.toInt32 = 0) : Ow.AL Z h a cl.cls ty [] := by
  have h0 : cl.slots.size = 0 := (Ow.n_eq (n := 0) h1.1 (by decide)).mp h1.2
  exact ⟨cl, A, rfl, Array.eq_empty_of_size_eq_zero h0⟩
set_option maxRecDepth 65536 in
set_option maxHeartbeats 40000000 in
theorem comes_1 {Post : Tables → Env → Array Value → State → Outcome → State → Prop} (hpost : ∀ tb e args s v u, (limb_1_1.after args s (.returned v) u = true ∧ limb_1_2.after args s (.returned v) u = true ∧ True) → ReturnedEndW s (.returned v) u (Jvm.fieldLocs frame_1_writes args s ++ Jvm.arrayLocs frame_1_arrays args s ++ Jvm.staticLocs frame_1_statics s) 48 2304 → Post tb e args s (.returned v) u) :
    ArmFor flags0 classFile x code maxLocals ret World_1 tables_1 room_1 Calls_1 rest_1 Pre_1 Post := by
  intro l hfl _ _ p e ha hc hk s m args below hf hA hF happ hP
  obtain ⟨hcalls, hrest, hpre⟩ := hP
  obtain ⟨-, -, -, hnamed, -, -, -, hat⟩ := (Spec.applies_iff hf).mp happ
  obtain ⟨hg, hnar⟩ := and_e (Cond.before_iff.mp (show (Jvm.Cond.and given_1 narrow_1).before args s = true from hpre))
  obtain ⟨g0, g1⟩ := and_e hg
  obtain ⟨q0, g2⟩ := and_e g1
  obtain ⟨q1, g3⟩ := and_e g2
  obtain ⟨q2, g4⟩ := and_e g3
  obtain ⟨q3, g5⟩ := and_e g4
  have q4 := g5
  obtain ⟨w0, w1, w2, w3, w4, rfl⟩ : ∃ w0 w1 w2 w3 w4 : Value, args = #[w0, w1, w2, w3, w4] := by
    have hs : args.size = 5 := by simpa [Cond.value, given_1] using g0
    obtain ⟨L⟩ := args
    match L, hs with
    | [w0, w1, w2, w3, w4], _ => exact ⟨w0, w1, w2, w3, w4, rfl⟩
  have hw := fun d (hd : d ∈ tables_1) => atoms_spec (ws := Jvm.Cond.code x code maxLocals ret :: tables_1) hat d (List.mem_cons_of_mem _ hd)
  obtain ⟨hsets, hown0⟩ := atoms_of _ (rest_1_c_eq ▸ (show rest_1_c.before _ s = true from hrest))
  have hfit : Fit s := fun {y c} hc i hi => by
    obtain ⟨ha, rfl⟩ := Array.getElem?_eq_some_iff.mp hc
    have q := List.all_eq_true.mp ((Array.all_eq_true_iff_forall_mem.mp hF) _ (Array.getElem_mem ha)) i (List.mem_range.mpr hi)
    simpa [Array.getElem?_eq_getElem hi] using q
  obtain ⟨i0, e0⟩ := is_v q0
  obtain rfl : w0 = (.int i0) := Option.some.inj e0
  obtain ⟨i1, e1⟩ := is_v q1
  obtain rfl : w1 = (.int i1) := Option.some.inj e1
  obtain ⟨i2, e2⟩ := is_v q2
  obtain rfl : w2 = (.int i2) := Option.some.inj e2
  obtain ⟨i3, e3⟩ := is_v q3
  obtain rfl : w3 = (.int i3) := Option.some.inj e3
  obtain ⟨i4, e4⟩ := is_v q4
  obtain rfl : w4 = (.int i4) := Option.some.inj e4
  have n5 := not_v (Cond.before_iff.mp (hsets _ (List.mem_of_getElem? (i := 2) rfl)))
  obtain ⟨z, ez⟩ := is_v (Cond.before_iff.mp (hsets _ (List.mem_of_getElem? (i := 1) rfl)))
  have S : Sta s s.heap "java/lang/String" "COMPACT_STRINGS" "Z" (.int z) := Sta.start ez (Or.inl (hsets _ (List.mem_of_getElem? (i := 0) rfl)))
  have hz : ¬ (z = (0 : Int32)) := gotF (Cond.eq_ints ez (Term.int_eval (0))) n5
  obtain ⟨de, ede⟩ := exa_v (Cond.before_iff.mp (hsets _ (List.mem_of_getElem? (i := 16) rfl)))
  have SD : Sta s s.heap "java/util/ArrayList" "DEFAULTCAPACITY_EMPTY_ELEMENTDATA" "[Ljava/lang/Object;" (.ref de) := Sta.start ede (Or.inr ⟨(ww hw 39 rfl), hsets _ (List.mem_of_getElem? (i := 11) rfl)⟩)
  obtain ⟨cd, Ad⟩ := Arr.start ede (Cond.before_iff.mp (hsets _ (List.mem_of_getElem? (i := 15) rfl)))
  have Bd := own_AL0 Ad (Ow.lenAt (Cond.before_iff.mp (hsets _ (List.mem_of_getElem? (i := 17) rfl))) ede Ad)
  obtain ⟨el, eel⟩ := exa_v (Cond.before_iff.mp (hsets _ (List.mem_of_getElem? (i := 20) rfl)))
  have Ee := Exa.start eel (Cond.before_iff.mp (hsets _ (List.mem_of_getElem? (i := 20) rfl)))
  have SE : Sta s s.heap "java/util/ImmutableCollections" "EMPTY_LIST" "Ljava/util/ImmutableCollections$ListN;" (.ref el) := Sta.start eel (Or.inl (hsets _ (List.mem_of_getElem? (i := 19) rfl)))
  obtain ⟨ea0, eea⟩ := exa_v (Cond.before_iff.mp (hsets _ (List.mem_of_getElem? (i := 22) rfl)))
  have Fl0 : Fld s s.heap el "java/util/ImmutableCollections$ListN" "elements" "[Ljava/lang/Object;" (.ref ea0) := Ow.fldR eea eel
  obtain ⟨ce, Ae⟩ := Arr.start eea (Cond.before_iff.mp (hsets _ (List.mem_of_getElem? (i := 21) rfl)))
  have Be := own_AL0 Ae (Ow.lenAt (Cond.before_iff.mp (hsets _ (List.mem_of_getElem? (i := 23) rfl))) eea Ae)
  have hEL : EW s _ EL := EW.cons (ww hw 145 rfl) (by decide) (EW.cons (ww hw 18 rfl) (by decide) (EW.nil))
  have H : CHv s EL s.vm s.heap := CHv.start hEL hcalls.1 (hsets _ (List.mem_of_getElem? (i := 2) rfl)) (ww hw 19 rfl) (ww hw 5 rfl)
  obtain ⟨n, o, h1, h2, h3, _, L, rfl, ⟨rfl, F⟩, -, hq⟩ := law_w l s _ hw hEL s.heap z i0 i1 i2 i3 i4 S hz de el ea0 _ _ SD Bd SE Ee Fl0 Be tables_1 p e ha hc hk s m _ below hf ((Spec.applies_iff_loose hf).mp happ).1 ⟨rfl, State.Warmed39.refl s, rfl, H, fun _ q => nomatch q⟩ trivial
  refine ⟨n, _, h1, h2, h3, hpost _ _ _ _ _ _ ⟨Cond.after_iff.mpr rfl, Cond.after_iff.mpr (eq_i res_at (Term.int_eval (1)) rfl), trivial⟩ ⟨hq.1, hq.2.1, hq.2.2.1, (hq.2.2.2.sift fun y hy => Or.inr (F.fr y hy)).mono (by decide) (by decide)⟩⟩
theorem main_1_1 : Claimed_1_1 := comes_1 fun _ _ _ _ _ _ h hF => ⟨h.1, hF⟩
theorem main_1_2 : Claimed_1_2 := comes_1 fun _ _ _ _ _ _ h hF => ⟨h.2.1, hF⟩
end Jvm.Pilot.@@N@@
namespace Jvm.Pilot.@@N@@
open Jvm Jvm.ClassFile Sem Op Lib Jvm.Free Jvm.Stand Jvm.Pilot.@@N@@.Jvm.D
/-! MADE BY PROGRAM (witnessworld.py) out of the Statement's table words and the real class files: 38 classes; the members and pool entries that the words name. The judged class is class 1, her method 2. -/
namespace start1
open Jvm.ClassFile
def u (s : String) : CpInfo := .utf8 (stringToUtf16 s)
/-- a pool by its gaps: so many unusable entries, then the entry; so many at the end -/
def gap : Nat → List CpInfo → List CpInfo
  | 0, r => r
  | n + 1, r => .unusable :: gap n r
def poolList (es : List (Nat × CpInfo)) (last : Nat) : List CpInfo := es.foldr (fun e r => gap e.1 (e.2 :: r)) (gap last [])
def pool (es : List (Nat × CpInfo)) (last : Nat) : Array CpInfo := ⟨poolList es last⟩
def fileOf (pool : Array CpInfo) (this : Nat) (attrs : Array Attribute := #[]) (ms : Array MethodInfo := #[]) (fl : Nat := 33) (sup : Nat := 0) (ifs : Array Nat := #[]) (fds : Array FieldInfo := #[]) : ClassFile where
  minorVersion := 0
  majorVersion := 65
  constantPool := pool
  accessFlags := fl
  thisClass := this
  superClass := sup
  interfaces := ifs
  fields := fds
  methods := ms
  attributes := attrs
def plain (name : String) (sup : Option ClassId) : Class where
  name := name
  kind := .ordinary
  loader := none
  accessFlags := 33
  super := sup
  interfaces := #[]
  cf := none
  fields := #[]
  methods := #[]
  instanceTypes := #[]
  staticTypes := #[]
  resolved := #[]
  callSites := []
  init := .initialized
  statics := none
  mirror := none

def pool0 : Array CpInfo := pool [(5, u "<init>"), (0, u "()V"), (1, .class_ 10), (1, u "java/lang/Object")] 113

def k0c0 : Code := { maxStack := 0, maxLocals := 1, code := object_method_1_code, exceptionTable := #[], attributes := #[] }
def k0m0 : Method := { name := "<init>", desc := "()V", sig := { parameters := [], returnType := none }, accessFlags := 1, code := some k0c0 }
/-- java/lang/Object -/
def k0 : Class := { plain "java/lang/Object" none with
  accessFlags := 33
  interfaces := #[]
  cf := some (fileOf pool0 8 #[] #[{ accessFlags := 1, nameIndex := 5, descriptorIndex := 6, attributes := #[] }] 33 0 #[] #[])
  fields := #[]
  methods := #[k0m0]
  instanceTypes := #[]
  staticTypes := #[]
  resolved := Array.replicate 124 none
  statics := none }

def pool1 : Array CpInfo := pool [(2, .class_ 4), (0, .nameAndType 5 6), (0, u "java/lang/Object"), (0, u "<init>"), (0, u "()V"), (0, .class_ 8), (0, u "java/lang/String"), (0, .methodref 7 10), (0, .nameAndType 5 11), (0, u "([C)V"), (0, .methodref 7 13), (0, .nameAndType 14 15), (0, u "valueOf"), (0, u "(C)Ljava/lang/String;"), (0, .methodref 17 18), (0, .class_ 19), (0, .nameAndType 20 21), (0, u "com/example/rowgate/rowgate/OptionsParsePinLaw"), (0, u "word"), (0, u "(I)Ljava/lang/String;"), (0, .class_ 23), (0, u "java/util/ArrayList"), (0, .methodref 22 3), (0, .methodref 22 26), (0, .nameAndType 27 28), (0, u "add"), (0, u "(Ljava/lang/Object;)Z"), (0, .methodref 30 31), (0, .class_ 32), (0, .nameAndType 33 34), (0, u "com/example/rowgate/rowgate/Options"), (0, u "parse"), (0, u "(Ljava/util/List;Ljava/util/Set;)Lcom/example/rowgate/rowgate/Options;"), (0, .methodref 30 36), (0, .nameAndType 37 38), (0, u "arguments"), (0, u "()Ljava/util/List;"), (0, .interfaceMethodref 40 41), (0, .class_ 42), (0, .nameAndType 43 44), (0, u "java/util/List"), (0, u "size"), (0, u "()I"), (0, .interfaceMethodref 40 46), (0, .nameAndType 47 48), (0, u "get"), (0, u "(I)Ljava/lang/Object;"), (0, .methodref 7 50), (0, .nameAndType 51 28), (0, u "equals"), (0, .methodref 30 53), (0, .nameAndType 54 55), (0, u "all"), (0, u "(Ljava/lang/String;)Ljava/util/List;"), (3, u "law"), (0, u "(IIIII)Z")] 2

def k1m0 : Method := { name := "<init>", desc := "()V", sig := { parameters := [], returnType := none }, accessFlags := 1, code := none }
def k1c1 : Code := { maxStack := 6, maxLocals := 5, code := method_2_code, exceptionTable := #[], attributes := #[] }
def k1m1 : Method := { name := "word", desc := "(I)Ljava/lang/String;", sig := { parameters := [.int], returnType := some (.object "java/lang/String") }, accessFlags := 10, code := some k1c1 }
def k1c2 : Code := { maxStack := 7, maxLocals := 14, code := code, exceptionTable := #[], attributes := #[] }
def k1m2 : Method := { name := "law", desc := "(IIIII)Z", sig := { parameters := [.int, .int, .int, .int, .int], returnType := some .boolean }, accessFlags := 9, code := some k1c2 }
/-- com/example/rowgate/rowgate/OptionsParsePinLaw -/
def k1 : Class := { plain "com/example/rowgate/rowgate/OptionsParsePinLaw" (some 0) with
  accessFlags := 49
  interfaces := #[]
  cf := some (fileOf pool1 17 #[] #[{ accessFlags := 1, nameIndex := 5, descriptorIndex := 6, attributes := #[] }, { accessFlags := 10, nameIndex := 20, descriptorIndex := 21, attributes := #[] }, { accessFlags := 9, nameIndex := 59, descriptorIndex := 60, attributes := #[] }] 49 2 #[] #[])
  fields := #[]
  methods := #[k1m0, k1m1, k1m2]
  instanceTypes := #[]
  staticTypes := #[]
  resolved := Array.replicate 63 none
  statics := none }

def pool2 : Array CpInfo := pool [(1, .class_ 2), (0, u "java/io/Serializable"), (0, .class_ 4), (0, u "java/lang/Object")] 2

/-- java/io/Serializable -/
def k2 : Class := { plain "java/io/Serializable" (some 0) with
  accessFlags := 1537
  interfaces := #[]
  cf := some (fileOf pool2 1 #[] #[] 1537 3 #[] #[])
  fields := #[]
  methods := #[]
  instanceTypes := #[]
  staticTypes := #[]
  resolved := Array.replicate 7 none
  statics := none }

def pool3 : Array CpInfo := pool [(1, .class_ 2), (0, u "java/lang/Comparable"), (0, .class_ 4), (0, u "java/lang/Object")] 7

/-- java/lang/Comparable -/
def k3 : Class := { plain "java/lang/Comparable" (some 0) with
  accessFlags := 1537
  interfaces := #[]
  cf := some (fileOf pool3 1 #[] #[] 1537 3 #[] #[])
  fields := #[]
  methods := #[]
  instanceTypes := #[]
  staticTypes := #[]
  resolved := Array.replicate 12 none
  statics := none }

def pool4 : Array CpInfo := pool [(2, .class_ 4), (1, u "java/lang/CharSequence"), (42, .class_ 48), (0, u "java/lang/CharSequence$1CodePointIterator"), (10, .class_ 60), (0, u "java/lang/CharSequence$1CharIterator"), (5, .class_ 67), (0, u "java/lang/Object")] 63

/-- java/lang/CharSequence -/
def k4 : Class := { plain "java/lang/CharSequence" (some 0) with
  accessFlags := 1537
  interfaces := #[]
  cf := some (fileOf pool4 2 #[.nestMembers #[47, 59]] #[] 1537 66 #[] #[])
  fields := #[]
  methods := #[]
  instanceTypes := #[]
  staticTypes := #[]
  resolved := Array.replicate 131 none
  statics := none }

def pool5 : Array CpInfo := pool [(1, .class_ 2), (0, u "java/lang/constant/Constable"), (0, .class_ 4), (0, u "java/lang/Object")] 6

/-- java/lang/constant/Constable -/
def k5 : Class := { plain "java/lang/constant/Constable" (some 0) with
  accessFlags := 1537
  interfaces := #[]
  cf := some (fileOf pool5 1 #[] #[] 1537 3 #[] #[])
  fields := #[]
  methods := #[]
  instanceTypes := #[]
  staticTypes := #[]
  resolved := Array.replicate 11 none
  statics := none }

def pool6 : Array CpInfo := pool [(1, .class_ 2), (0, u "java/lang/constant/ConstantDesc"), (0, .class_ 4), (0, u "java/lang/Object")] 32

/-- java/lang/constant/ConstantDesc -/
def k6 : Class := { plain "java/lang/constant/ConstantDesc" (some 0) with
  accessFlags := 1537
  interfaces := #[]
  cf := some (fileOf pool6 1 #[] #[] 1537 3 #[] #[])
  fields := #[]
  methods := #[]
  instanceTypes := #[]
  staticTypes := #[]
  resolved := Array.replicate 37 none
  statics := none }

def pool7 : Array CpInfo := pool [(1, .methodref 2 3), (0, .class_ 4), (0, .nameAndType 5 6), (0, u "java/lang/Object"), (0, u "<init>"), (0, u "()V"), (0, .string 8), (0, u ""), (0, .fieldref 10 11), (0, .class_ 12), (0, .nameAndType 13 14), (0, u "java/lang/String"), (0, u "value"), (0, u "[B"), (0, .fieldref 10 16), (0, .nameAndType 17 18), (0, u "coder"), (0, u "B"), (2, u "hash"), (0, u "I"), (2, u "hashIsZero"), (0, u "Z"), (0, .methodref 10 28), (0, .nameAndType 5 29), (0, u "([CIILjava/lang/Void;)V"), (8, .fieldref 10 39), (0, .nameAndType 40 26), (0, u "COMPACT_STRINGS"), (1, .class_ 44), (1, u "java/lang/StringUTF16"), (0, u "compress"), (1, .methodref 42 48), (0, .nameAndType 49 50), (0, u "coderFromArrayLen"), (0, u "([BI)B"), (2, u "toBytes"), (53, .class_ 109), (1, u "java/lang/StringLatin1"), (67, .methodref 42 178), (0, .nameAndType 45 179), (0, u "([CII)[B"), (29, .methodref 10 210), (0, .nameAndType 5 211), (0, u "([BB)V"), (122, u "()I"), (0, .methodref 10 336), (0, .nameAndType 17 337), (0, u "()B"), (31, u "(C)Z"), (6, u "([BI[BII)I"), (128, .methodref 10 506), (0, .nameAndType 507 334), (0, u "length"), (35, u "equals"), (15, .class_ 561), (1, u "jdk/internal/util/ArraysSupport"), (0, u "mismatch"), (10, u "(Ljava/lang/Object;)Z"), (1, .class_ 576), (0, u "java/lang/CharSequence"), (22, u "CASE_INSENSITIVE_ORDER"), (0, u "Ljava/util/Comparator;"), (6, .methodref 559 608), (0, .nameAndType 562 376), (15, .methodref 10 625), (0, .nameAndType 626 627), (0, u "startsWith"), (0, u "(Ljava/lang/String;I)Z"), (154, u "valueOf"), (0, u "(C)Ljava/lang/String;"), (226, u "([C)V"), (4, .methodref 107 1016), (0, .nameAndType 1017 369), (0, u "canEncode"), (0, .methodref 107 1019), (0, .nameAndType 53 1020), (0, u "(C)[B"), (80, u "serialPersistentFields"), (0, u "[Ljava/io/ObjectStreamField;"), (0, .class_ 1104), (0, u "java/lang/String$CaseInsensitiveComparator"), (1, .class_ 1107), (0, u "java/io/Serializable"), (0, .class_ 1109), (0, u "java/lang/Comparable"), (0, .class_ 1111), (0, u "java/lang/constant/Constable"), (0, .class_ 1113), (0, u "java/lang/constant/ConstantDesc"), (2, u "serialVersionUID"), (0, u "J"), (3, u "REPL"), (0, u "C"), (2, u "LATIN1"), (1, u "UTF16"), (129, u "(Ljava/lang/String;)Z")] 193

def k7m0 : Method := { name := "<init>", desc := "()V", sig := { parameters := [], returnType := none }, accessFlags := 1, code := none }
def k7c1 : Code := { maxStack := 5, maxLocals := 2, code := jdk_42_method_3_code, exceptionTable := #[], attributes := #[] }
def k7m1 : Method := { name := "<init>", desc := "([C)V", sig := { parameters := [(.array .char)], returnType := none }, accessFlags := 1, code := some k7c1 }
def k7c2 : Code := { maxStack := 2, maxLocals := 1, code := jdk_42_method_54_code, exceptionTable := #[], attributes := #[] }
def k7m2 : Method := { name := "length", desc := "()I", sig := { parameters := [], returnType := some .int }, accessFlags := 1, code := some k7c2 }
def k7c3 : Code := { maxStack := 2, maxLocals := 3, code := jdk_42_method_66_code, exceptionTable := #[], attributes := #[] }
def k7m3 : Method := { name := "equals", desc := "(Ljava/lang/Object;)Z", sig := { parameters := [(.object "java/lang/Object")], returnType := some .boolean }, accessFlags := 1, code := some k7c3 }
def k7c4 : Code := { maxStack := 5, maxLocals := 8, code := jdk_42_method_75_code, exceptionTable := #[], attributes := #[] }
def k7m4 : Method := { name := "startsWith", desc := "(Ljava/lang/String;I)Z", sig := { parameters := [(.object "java/lang/String"), .int], returnType := some .boolean }, accessFlags := 1, code := some k7c4 }
def k7c5 : Code := { maxStack := 3, maxLocals := 2, code := jdk_42_method_76_code, exceptionTable := #[], attributes := #[] }
def k7m5 : Method := { name := "startsWith", desc := "(Ljava/lang/String;)Z", sig := { parameters := [(.object "java/lang/String")], returnType := some .boolean }, accessFlags := 1, code := some k7c5 }
def k7c6 : Code := { maxStack := 4, maxLocals := 1, code := jdk_42_method_139_code, exceptionTable := #[], attributes := #[] }
def k7m6 : Method := { name := "valueOf", desc := "(C)Ljava/lang/String;", sig := { parameters := [.char], returnType := some (.object "java/lang/String") }, accessFlags := 9, code := some k7c6 }
def k7c7 : Code := { maxStack := 4, maxLocals := 6, code := jdk_42_method_149_code, exceptionTable := #[], attributes := #[] }
def k7m7 : Method := { name := "<init>", desc := "([CIILjava/lang/Void;)V", sig := { parameters := [(.array .char), .int, .int, (.object "java/lang/Void")], returnType := none }, accessFlags := 2, code := some k7c7 }
def k7c8 : Code := { maxStack := 2, maxLocals := 3, code := jdk_42_method_151_code, exceptionTable := #[], attributes := #[] }
def k7m8 : Method := { name := "<init>", desc := "([BB)V", sig := { parameters := [(.array .byte), .byte], returnType := none }, accessFlags := 0, code := some k7c8 }
def k7c9 : Code := { maxStack := 1, maxLocals := 1, code := jdk_42_method_152_code, exceptionTable := #[], attributes := #[] }
def k7m9 : Method := { name := "coder", desc := "()B", sig := { parameters := [], returnType := some .byte }, accessFlags := 0, code := some k7c9 }
/-- java/lang/String -/
def k7 : Class := { plain "java/lang/String" (some 0) with
  accessFlags := 49
  interfaces := #[2, 3, 4, 5, 6]
  cf := some (fileOf pool7 10 #[.nestMembers #[1103]] #[{ accessFlags := 1, nameIndex := 5, descriptorIndex := 6, attributes := #[] }, { accessFlags := 1, nameIndex := 5, descriptorIndex := 1010, attributes := #[] }, { accessFlags := 1, nameIndex := 507, descriptorIndex := 334, attributes := #[] }, { accessFlags := 1, nameIndex := 543, descriptorIndex := 573, attributes := #[] }, { accessFlags := 1, nameIndex := 626, descriptorIndex := 627, attributes := #[] }, { accessFlags := 1, nameIndex := 626, descriptorIndex := 1257, attributes := #[] }, { accessFlags := 9, nameIndex := 782, descriptorIndex := 783, attributes := #[] }, { accessFlags := 2, nameIndex := 5, descriptorIndex := 29, attributes := #[] }, { accessFlags := 0, nameIndex := 5, descriptorIndex := 211, attributes := #[] }, { accessFlags := 0, nameIndex := 17, descriptorIndex := 337, attributes := #[] }] 49 2 #[1106, 1108, 575, 1110, 1112] #[{ accessFlags := 18, nameIndex := 13, descriptorIndex := 14, attributes := #[] }, { accessFlags := 18, nameIndex := 17, descriptorIndex := 18, attributes := #[] }, { accessFlags := 2, nameIndex := 21, descriptorIndex := 22, attributes := #[] }, { accessFlags := 2, nameIndex := 25, descriptorIndex := 26, attributes := #[] }, { accessFlags := 26, nameIndex := 1116, descriptorIndex := 1117, attributes := #[] }, { accessFlags := 24, nameIndex := 40, descriptorIndex := 26, attributes := #[] }, { accessFlags := 26, nameIndex := 1101, descriptorIndex := 1102, attributes := #[] }, { accessFlags := 26, nameIndex := 1121, descriptorIndex := 1122, attributes := #[] }, { accessFlags := 25, nameIndex := 599, descriptorIndex := 600, attributes := #[] }, { accessFlags := 24, nameIndex := 1125, descriptorIndex := 18, attributes := #[] }, { accessFlags := 24, nameIndex := 1127, descriptorIndex := 18, attributes := #[] }])
  fields := #[{ name := "value", type := (.array .byte), accessFlags := 18, slot := 0, constantValue := 0 }, { name := "coder", type := .byte, accessFlags := 18, slot := 1, constantValue := 0 }, { name := "hash", type := .int, accessFlags := 2, slot := 2, constantValue := 0 }, { name := "hashIsZero", type := .boolean, accessFlags := 2, slot := 3, constantValue := 0 }, { name := "serialVersionUID", type := .long, accessFlags := 26, slot := 0, constantValue := 0 }, { name := "COMPACT_STRINGS", type := .boolean, accessFlags := 24, slot := 1, constantValue := 0 }, { name := "serialPersistentFields", type := (.array (.object "java/io/ObjectStreamField")), accessFlags := 26, slot := 2, constantValue := 0 }, { name := "REPL", type := .char, accessFlags := 26, slot := 3, constantValue := 0 }, { name := "CASE_INSENSITIVE_ORDER", type := (.object "java/util/Comparator"), accessFlags := 25, slot := 4, constantValue := 0 }, { name := "LATIN1", type := .byte, accessFlags := 24, slot := 5, constantValue := 0 }, { name := "UTF16", type := .byte, accessFlags := 24, slot := 6, constantValue := 0 }]
  methods := #[k7m0, k7m1, k7m2, k7m3, k7m4, k7m5, k7m6, k7m7, k7m8, k7m9]
  instanceTypes := #[(.array .byte), .byte, .int, .boolean]
  staticTypes := #[.long, .boolean, (.array (.object "java/io/ObjectStreamField")), .char, (.object "java/util/Comparator"), .byte, .byte]
  resolved := Array.replicate 1451 none
  statics := some 0 }

def pool8 : Array CpInfo := pool [(6, .class_ 8), (1, u "java/lang/Object"), (0, u "<init>"), (0, u "()V"), (1, .class_ 14), (1, u "java/lang/StringUTF16"), (31, u "$assertionsDisabled"), (0, u "Z"), (13, u "HI_BYTE_SHIFT"), (0, u "I"), (2, u "LO_BYTE_SHIFT"), (49, .methodref 12 116), (0, .nameAndType 117 118), (0, u "compress"), (0, u "([CI[BII)I"), (3, u "([CII)[B"), (138, u "coderFromArrayLen"), (0, u "([BI)B"), (106, .class_ 371), (1, u "java/lang/StringUTF16$LinesSpliterator"), (58, u "MAX_LENGTH"), (196, .class_ 628), (0, u "java/lang/StringUTF16$CodePointsSpliterator"), (0, .class_ 630), (0, u "java/lang/StringUTF16$CharsSpliterator")] 4

def k8m0 : Method := { name := "<init>", desc := "()V", sig := { parameters := [], returnType := none }, accessFlags := 0, code := none }
def k8c1 : Code := { maxStack := 2, maxLocals := 2, code := jdk_52_method_15_code, exceptionTable := #[], attributes := #[] }
def k8m1 : Method := { name := "coderFromArrayLen", desc := "([BI)B", sig := { parameters := [(.array .byte), .int], returnType := some .byte }, accessFlags := 8, code := some k8c1 }
def k8c2 : Code := { maxStack := 5, maxLocals := 6, code := jdk_52_method_16_code, exceptionTable := #[], attributes := #[] }
def k8m2 : Method := { name := "compress", desc := "([CII)[B", sig := { parameters := [(.array .char), .int, .int], returnType := some (.array .byte) }, accessFlags := 9, code := some k8c2 }
def k8c3 : Code := { maxStack := 3, maxLocals := 7, code := jdk_52_method_21_code, exceptionTable := #[], attributes := #[] }
def k8m3 : Method := { name := "compress", desc := "([CI[BII)I", sig := { parameters := [(.array .char), .int, (.array .byte), .int, .int], returnType := some .int }, accessFlags := 9, code := some k8c3 }
/-- java/lang/StringUTF16 -/
def k8 : Class := { plain "java/lang/StringUTF16" (some 0) with
  accessFlags := 48
  interfaces := #[]
  cf := some (fileOf pool8 12 #[.nestMembers #[627, 629, 369]] #[{ accessFlags := 0, nameIndex := 9, descriptorIndex := 10, attributes := #[] }, { accessFlags := 8, nameIndex := 261, descriptorIndex := 262, attributes := #[] }, { accessFlags := 9, nameIndex := 117, descriptorIndex := 122, attributes := #[] }, { accessFlags := 9, nameIndex := 117, descriptorIndex := 118, attributes := #[] }] 48 6 #[] #[{ accessFlags := 26, nameIndex := 61, descriptorIndex := 62, attributes := #[] }, { accessFlags := 26, nameIndex := 65, descriptorIndex := 62, attributes := #[] }, { accessFlags := 24, nameIndex := 430, descriptorIndex := 62, attributes := #[] }, { accessFlags := 4120, nameIndex := 46, descriptorIndex := 47, attributes := #[] }])
  fields := #[{ name := "HI_BYTE_SHIFT", type := .int, accessFlags := 26, slot := 0, constantValue := 0 }, { name := "LO_BYTE_SHIFT", type := .int, accessFlags := 26, slot := 1, constantValue := 0 }, { name := "MAX_LENGTH", type := .int, accessFlags := 24, slot := 2, constantValue := 0 }, { name := "$assertionsDisabled", type := .boolean, accessFlags := 4120, slot := 3, constantValue := 0 }]
  methods := #[k8m0, k8m1, k8m2, k8m3]
  instanceTypes := #[]
  staticTypes := #[.int, .int, .int, .boolean]
  resolved := Array.replicate 635 none
  statics := none }

def pool9 : Array CpInfo := pool [(8, .class_ 10), (1, u "java/lang/Iterable"), (24, .class_ 36), (0, u "java/lang/Object")] 25

/-- java/lang/Iterable -/
def k9 : Class := { plain "java/lang/Iterable" (some 0) with
  accessFlags := 1537
  interfaces := #[]
  cf := some (fileOf pool9 8 #[] #[] 1537 35 #[] #[])
  fields := #[]
  methods := #[]
  instanceTypes := #[]
  staticTypes := #[]
  resolved := Array.replicate 62 none
  statics := none }

def pool10 : Array CpInfo := pool [(10, .class_ 12), (1, u "java/util/Collection"), (47, .class_ 61), (0, u "java/lang/Object"), (0, .class_ 63), (0, u "java/lang/Iterable")] 51

/-- java/util/Collection -/
def k10 : Class := { plain "java/util/Collection" (some 0) with
  accessFlags := 1537
  interfaces := #[9]
  cf := some (fileOf pool10 10 #[] #[] 1537 60 #[62] #[])
  fields := #[]
  methods := #[]
  instanceTypes := #[]
  staticTypes := #[]
  resolved := Array.replicate 115 none
  statics := none }

def pool11 : Array CpInfo := pool [(1, .methodref 2 3), (0, .class_ 4), (0, .nameAndType 5 6), (0, u "java/lang/Object"), (0, u "<init>"), (0, u "()V"), (1, .class_ 10), (1, u "java/util/AbstractCollection"), (66, .class_ 78), (0, u "java/util/Collection")] 81

def k11c0 : Code := { maxStack := 1, maxLocals := 1, code := jdk_22_method_1_code, exceptionTable := #[], attributes := #[] }
def k11m0 : Method := { name := "<init>", desc := "()V", sig := { parameters := [], returnType := none }, accessFlags := 4, code := some k11c0 }
/-- java/util/AbstractCollection -/
def k11 : Class := { plain "java/util/AbstractCollection" (some 0) with
  accessFlags := 1057
  interfaces := #[10]
  cf := some (fileOf pool11 8 #[] #[{ accessFlags := 4, nameIndex := 5, descriptorIndex := 6, attributes := #[] }] 1057 2 #[77] #[])
  fields := #[]
  methods := #[k11m0]
  instanceTypes := #[]
  staticTypes := #[]
  resolved := Array.replicate 160 none
  statics := none }

def pool12 : Array CpInfo := pool [(8, .class_ 10), (1, u "java/util/SequencedCollection"), (15, .class_ 27), (0, u "java/lang/Object"), (0, .class_ 29), (0, u "java/util/Collection")] 27

/-- java/util/SequencedCollection -/
def k12 : Class := { plain "java/util/SequencedCollection" (some 0) with
  accessFlags := 1537
  interfaces := #[10]
  cf := some (fileOf pool12 8 #[] #[] 1537 26 #[28] #[])
  fields := #[]
  methods := #[]
  instanceTypes := #[]
  staticTypes := #[]
  resolved := Array.replicate 57 none
  statics := none }

def pool13 : Array CpInfo := pool [(8, .class_ 10), (1, u "java/util/List"), (49, u "add"), (3, u "(Ljava/lang/Object;)Z"), (10, u "get"), (0, u "(I)Ljava/lang/Object;"), (2, u "size"), (0, u "()I"), (7, u "of"), (1, .fieldref 91 92), (0, .class_ 93), (0, .nameAndType 94 95), (0, u "java/util/ImmutableCollections"), (0, u "EMPTY_LIST"), (0, u "Ljava/util/ImmutableCollections$ListN;"), (7, .class_ 104), (0, u "java/lang/Object"), (14, u "()Ljava/util/List;"), (0, .class_ 121), (0, u "java/util/SequencedCollection")] 129

def k13m0 : Method := { name := "size", desc := "()I", sig := { parameters := [], returnType := some .int }, accessFlags := 1025, code := none }
def k13m1 : Method := { name := "add", desc := "(Ljava/lang/Object;)Z", sig := { parameters := [(.object "java/lang/Object")], returnType := some .boolean }, accessFlags := 1025, code := none }
def k13m2 : Method := { name := "get", desc := "(I)Ljava/lang/Object;", sig := { parameters := [.int], returnType := some (.object "java/lang/Object") }, accessFlags := 1025, code := none }
def k13c3 : Code := { maxStack := 1, maxLocals := 0, code := jdk_40_method_36_code, exceptionTable := #[], attributes := #[] }
def k13m3 : Method := { name := "of", desc := "()Ljava/util/List;", sig := { parameters := [], returnType := some (.object "java/util/List") }, accessFlags := 9, code := some k13c3 }
/-- java/util/List -/
def k13 : Class := { plain "java/util/List" (some 0) with
  accessFlags := 1537
  interfaces := #[12]
  cf := some (fileOf pool13 8 #[] #[{ accessFlags := 1025, nameIndex := 79, descriptorIndex := 80, attributes := #[] }, { accessFlags := 1025, nameIndex := 60, descriptorIndex := 64, attributes := #[] }, { accessFlags := 1025, nameIndex := 75, descriptorIndex := 76, attributes := #[] }, { accessFlags := 9, nameIndex := 88, descriptorIndex := 119, attributes := #[] }] 1537 103 #[120] #[])
  fields := #[]
  methods := #[k13m0, k13m1, k13m2, k13m3]
  instanceTypes := #[]
  staticTypes := #[]
  resolved := Array.replicate 251 none
  statics := none }

def pool14 : Array CpInfo := pool [(1, .methodref 2 3), (0, .class_ 4), (0, .nameAndType 5 6), (0, u "java/util/AbstractCollection"), (0, u "<init>"), (0, u "()V"), (0, .fieldref 8 9), (0, .class_ 10), (0, .nameAndType 11 12), (0, u "java/util/AbstractList"), (0, u "modCount"), (0, u "I"), (64, .class_ 78), (0, u "java/util/AbstractList$Itr"), (3, .class_ 83), (0, u "java/util/AbstractList$ListItr"), (9, .class_ 94), (0, u "java/util/AbstractList$RandomAccessSubList"), (3, .class_ 99), (0, u "java/util/AbstractList$SubList"), (33, .class_ 134), (0, u "java/util/List"), (73, .class_ 209), (0, u "java/util/AbstractList$SubList$1"), (0, .class_ 211), (0, u "java/util/AbstractList$RandomAccessSpliterator")] 6

def k14c0 : Code := { maxStack := 2, maxLocals := 1, code := jdk_39_method_1_code, exceptionTable := #[], attributes := #[] }
def k14m0 : Method := { name := "<init>", desc := "()V", sig := { parameters := [], returnType := none }, accessFlags := 4, code := some k14c0 }
/-- java/util/AbstractList -/
def k14 : Class := { plain "java/util/AbstractList" (some 11) with
  accessFlags := 1057
  interfaces := #[13]
  cf := some (fileOf pool14 8 #[.nestMembers #[93, 98, 208, 210, 82, 77]] #[{ accessFlags := 4, nameIndex := 5, descriptorIndex := 6, attributes := #[] }] 1057 2 #[133] #[{ accessFlags := 132, nameIndex := 11, descriptorIndex := 12, attributes := #[] }])
  fields := #[{ name := "modCount", type := .int, accessFlags := 132, slot := 0, constantValue := 0 }]
  methods := #[k14m0]
  instanceTypes := #[.int]
  staticTypes := #[]
  resolved := Array.replicate 218 none
  statics := none }

def pool15 : Array CpInfo := pool [(1, .class_ 2), (0, u "java/util/RandomAccess"), (0, .class_ 4), (0, u "java/lang/Object")] 2

/-- java/util/RandomAccess -/
def k15 : Class := { plain "java/util/RandomAccess" (some 0) with
  accessFlags := 1537
  interfaces := #[]
  cf := some (fileOf pool15 1 #[] #[] 1537 3 #[] #[])
  fields := #[]
  methods := #[]
  instanceTypes := #[]
  staticTypes := #[]
  resolved := Array.replicate 7 none
  statics := none }

def pool16 : Array CpInfo := pool [(1, .class_ 2), (0, u "java/lang/Cloneable"), (0, .class_ 4), (0, u "java/lang/Object")] 2

/-- java/lang/Cloneable -/
def k16 : Class := { plain "java/lang/Cloneable" (some 0) with
  accessFlags := 1537
  interfaces := #[]
  cf := some (fileOf pool16 1 #[] #[] 1537 3 #[] #[])
  fields := #[]
  methods := #[]
  instanceTypes := #[]
  staticTypes := #[]
  resolved := Array.replicate 7 none
  statics := none }

def pool17 : Array CpInfo := pool [(1, .methodref 2 3), (0, .class_ 4), (0, .nameAndType 5 6), (0, u "java/util/AbstractList"), (0, u "<init>"), (0, u "()V"), (0, .class_ 8), (0, u "java/lang/Object"), (0, .fieldref 10 11), (0, .class_ 12), (0, .nameAndType 13 14), (0, u "java/util/ArrayList"), (0, u "elementData"), (0, u "[Ljava/lang/Object;"), (2, u "EMPTY_ELEMENTDATA"), (21, .fieldref 10 40), (0, .nameAndType 41 14), (0, u "DEFAULTCAPACITY_EMPTY_ELEMENTDATA"), (5, u "()[Ljava/lang/Object;"), (0, .fieldref 10 49), (0, .nameAndType 50 51), (0, u "size"), (0, u "I"), (11, .fieldref 10 64), (0, .nameAndType 65 51), (0, u "modCount"), (3, .methodref 10 70), (0, .nameAndType 71 72), (0, u "grow"), (0, u "(I)[Ljava/lang/Object;"), (6, .methodref 80 81), (0, .class_ 82), (0, .nameAndType 83 84), (0, u "java/lang/Math"), (0, u "max"), (0, u "(II)I"), (11, u "(Ljava/lang/Object;)Z"), (21, .methodref 119 120), (0, .class_ 121), (0, .nameAndType 122 84), (0, u "java/util/Objects"), (0, u "checkIndex"), (0, .methodref 10 124), (0, .nameAndType 13 125), (0, u "(I)Ljava/lang/Object;"), (3, .methodref 10 130), (0, .nameAndType 71 47), (0, .methodref 10 132), (0, .nameAndType 133 134), (0, u "add"), (0, u "(Ljava/lang/Object;[Ljava/lang/Object;I)V"), (13, .class_ 149), (0, u "java/util/List"), (36, u "()I"), (75, .class_ 263), (0, u "java/util/ArrayList$ListItr"), (3, .class_ 268), (0, u "java/util/ArrayList$Itr"), (7, .class_ 277), (0, u "java/util/ArrayList$SubList"), (12, .class_ 291), (0, u "java/util/ArrayList$ArrayListSpliterator"), (37, .class_ 330), (0, u "java/util/RandomAccess"), (0, .class_ 332), (0, u "java/lang/Cloneable"), (0, .class_ 334), (0, u "java/io/Serializable"), (0, u "serialVersionUID"), (0, u "J"), (3, u "DEFAULT_CAPACITY"), (40, u "get"), (118, .class_ 501), (0, u "java/util/ArrayList$SubList$2"), (0, .class_ 503), (0, u "java/util/ArrayList$SubList$1")] 5

def k17c0 : Code := { maxStack := 2, maxLocals := 1, code := jdk_38_method_2_code, exceptionTable := #[], attributes := #[] }
def k17m0 : Method := { name := "<init>", desc := "()V", sig := { parameters := [], returnType := none }, accessFlags := 1, code := some k17c0 }
def k17c1 : Code := { maxStack := 4, maxLocals := 4, code := jdk_38_method_6_code, exceptionTable := #[], attributes := #[] }
def k17m1 : Method := { name := "grow", desc := "(I)[Ljava/lang/Object;", sig := { parameters := [.int], returnType := some (.array (.object "java/lang/Object")) }, accessFlags := 2, code := some k17c1 }
def k17c2 : Code := { maxStack := 3, maxLocals := 1, code := jdk_38_method_7_code, exceptionTable := #[], attributes := #[] }
def k17m2 : Method := { name := "grow", desc := "()[Ljava/lang/Object;", sig := { parameters := [], returnType := some (.array (.object "java/lang/Object")) }, accessFlags := 2, code := some k17c2 }
def k17c3 : Code := { maxStack := 1, maxLocals := 1, code := jdk_38_method_8_code, exceptionTable := #[], attributes := #[] }
def k17m3 : Method := { name := "size", desc := "()I", sig := { parameters := [], returnType := some .int }, accessFlags := 1, code := some k17c3 }
def k17c4 : Code := { maxStack := 2, maxLocals := 2, code := jdk_38_method_18_code, exceptionTable := #[], attributes := #[] }
def k17m4 : Method := { name := "elementData", desc := "(I)Ljava/lang/Object;", sig := { parameters := [.int], returnType := some (.object "java/lang/Object") }, accessFlags := 0, code := some k17c4 }
def k17c5 : Code := { maxStack := 2, maxLocals := 2, code := jdk_38_method_20_code, exceptionTable := #[], attributes := #[] }
def k17m5 : Method := { name := "get", desc := "(I)Ljava/lang/Object;", sig := { parameters := [.int], returnType := some (.object "java/lang/Object") }, accessFlags := 1, code := some k17c5 }
def k17c6 : Code := { maxStack := 3, maxLocals := 4, code := jdk_38_method_24_code, exceptionTable := #[], attributes := #[] }
def k17m6 : Method := { name := "add", desc := "(Ljava/lang/Object;[Ljava/lang/Object;I)V", sig := { parameters := [(.object "java/lang/Object"), (.array (.object "java/lang/Object")), .int], returnType := none }, accessFlags := 2, code := some k17c6 }
def k17c7 : Code := { maxStack := 4, maxLocals := 2, code := jdk_38_method_25_code, exceptionTable := #[], attributes := #[] }
def k17m7 : Method := { name := "add", desc := "(Ljava/lang/Object;)Z", sig := { parameters := [(.object "java/lang/Object")], returnType := some .boolean }, accessFlags := 1, code := some k17c7 }
/-- java/util/ArrayList -/
def k17 : Class := { plain "java/util/ArrayList" (some 14) with
  accessFlags := 33
  interfaces := #[13, 15, 16, 2]
  cf := some (fileOf pool17 10 #[.nestMembers #[290, 276, 500, 502, 262, 267]] #[{ accessFlags := 1, nameIndex := 5, descriptorIndex := 6, attributes := #[] }, { accessFlags := 2, nameIndex := 71, descriptorIndex := 72, attributes := #[] }, { accessFlags := 2, nameIndex := 71, descriptorIndex := 47, attributes := #[] }, { accessFlags := 1, nameIndex := 50, descriptorIndex := 186, attributes := #[] }, { accessFlags := 0, nameIndex := 13, descriptorIndex := 125, attributes := #[] }, { accessFlags := 1, nameIndex := 381, descriptorIndex := 125, attributes := #[] }, { accessFlags := 2, nameIndex := 133, descriptorIndex := 134, attributes := #[] }, { accessFlags := 1, nameIndex := 133, descriptorIndex := 96, attributes := #[] }] 33 2 #[148, 329, 331, 333] #[{ accessFlags := 26, nameIndex := 335, descriptorIndex := 336, attributes := #[] }, { accessFlags := 26, nameIndex := 340, descriptorIndex := 51, attributes := #[] }, { accessFlags := 26, nameIndex := 17, descriptorIndex := 14, attributes := #[] }, { accessFlags := 26, nameIndex := 41, descriptorIndex := 14, attributes := #[] }, { accessFlags := 128, nameIndex := 13, descriptorIndex := 14, attributes := #[] }, { accessFlags := 2, nameIndex := 50, descriptorIndex := 51, attributes := #[] }])
  fields := #[{ name := "serialVersionUID", type := .long, accessFlags := 26, slot := 0, constantValue := 0 }, { name := "DEFAULT_CAPACITY", type := .int, accessFlags := 26, slot := 1, constantValue := 0 }, { name := "EMPTY_ELEMENTDATA", type := (.array (.object "java/lang/Object")), accessFlags := 26, slot := 2, constantValue := 0 }, { name := "DEFAULTCAPACITY_EMPTY_ELEMENTDATA", type := (.array (.object "java/lang/Object")), accessFlags := 26, slot := 3, constantValue := 0 }, { name := "elementData", type := (.array (.object "java/lang/Object")), accessFlags := 128, slot := 1, constantValue := 0 }, { name := "size", type := .int, accessFlags := 2, slot := 2, constantValue := 0 }]
  methods := #[k17m0, k17m1, k17m2, k17m3, k17m4, k17m5, k17m6, k17m7]
  instanceTypes := #[.int, (.array (.object "java/lang/Object")), .int]
  staticTypes := #[.long, .int, (.array (.object "java/lang/Object")), (.array (.object "java/lang/Object"))]
  resolved := Array.replicate 509 none
  statics := some 1 }

def pool18 : Array CpInfo := pool [(1, .class_ 2), (0, u "java/lang/Math"), (1, .class_ 6), (1, u "java/lang/Object"), (0, u "<init>"), (0, u "()V"), (89, .class_ 100), (1, u "java/lang/Math$RandomNumberGeneratorHolder"), (71, u "negativeZeroFloatBits"), (0, u "J"), (2, u "negativeZeroDoubleBits"), (21, u "max"), (46, u "$assertionsDisabled"), (0, u "Z"), (88, u "(II)I"), (2, u "twoToTheDoubleScaleDown"), (0, u "D"), (4, u "twoToTheDoubleScaleUp"), (9, u "E"), (3, u "PI"), (2, u "TAU"), (2, u "DEGREES_TO_RADIANS"), (0, u "RADIANS_TO_DEGREES")] 94

def k18m0 : Method := { name := "<init>", desc := "()V", sig := { parameters := [], returnType := none }, accessFlags := 2, code := none }
def k18c1 : Code := { maxStack := 2, maxLocals := 2, code := jdk_29_method_65_code, exceptionTable := #[], attributes := #[] }
def k18m1 : Method := { name := "max", desc := "(II)I", sig := { parameters := [.int, .int], returnType := some .int }, accessFlags := 9, code := some k18c1 }
/-- java/lang/Math -/
def k18 : Class := { plain "java/lang/Math" (some 0) with
  accessFlags := 49
  interfaces := #[]
  cf := some (fileOf pool18 1 #[.nestMembers #[98]] #[{ accessFlags := 2, nameIndex := 7, descriptorIndex := 8, attributes := #[] }, { accessFlags := 9, nameIndex := 198, descriptorIndex := 335, attributes := #[] }] 49 4 #[] #[{ accessFlags := 25, nameIndex := 354, descriptorIndex := 339, attributes := #[] }, { accessFlags := 25, nameIndex := 358, descriptorIndex := 339, attributes := #[] }, { accessFlags := 25, nameIndex := 361, descriptorIndex := 339, attributes := #[] }, { accessFlags := 26, nameIndex := 364, descriptorIndex := 339, attributes := #[] }, { accessFlags := 26, nameIndex := 365, descriptorIndex := 339, attributes := #[] }, { accessFlags := 26, nameIndex := 172, descriptorIndex := 173, attributes := #[] }, { accessFlags := 26, nameIndex := 176, descriptorIndex := 173, attributes := #[] }, { accessFlags := 8, nameIndex := 344, descriptorIndex := 339, attributes := #[] }, { accessFlags := 8, nameIndex := 338, descriptorIndex := 339, attributes := #[] }, { accessFlags := 4120, nameIndex := 245, descriptorIndex := 246, attributes := #[] }])
  fields := #[{ name := "E", type := .double, accessFlags := 25, slot := 0, constantValue := 0 }, { name := "PI", type := .double, accessFlags := 25, slot := 1, constantValue := 0 }, { name := "TAU", type := .double, accessFlags := 25, slot := 2, constantValue := 0 }, { name := "DEGREES_TO_RADIANS", type := .double, accessFlags := 26, slot := 3, constantValue := 0 }, { name := "RADIANS_TO_DEGREES", type := .double, accessFlags := 26, slot := 4, constantValue := 0 }, { name := "negativeZeroFloatBits", type := .long, accessFlags := 26, slot := 5, constantValue := 0 }, { name := "negativeZeroDoubleBits", type := .long, accessFlags := 26, slot := 6, constantValue := 0 }, { name := "twoToTheDoubleScaleUp", type := .double, accessFlags := 8, slot := 7, constantValue := 0 }, { name := "twoToTheDoubleScaleDown", type := .double, accessFlags := 8, slot := 8, constantValue := 0 }, { name := "$assertionsDisabled", type := .boolean, accessFlags := 4120, slot := 9, constantValue := 0 }]
  methods := #[k18m0, k18m1]
  instanceTypes := #[]
  staticTypes := #[.double, .double, .double, .double, .double, .long, .long, .double, .double, .boolean]
  resolved := Array.replicate 460 none
  statics := none }

def pool19 : Array CpInfo := pool [(1, .methodref 2 3), (0, .class_ 4), (0, .nameAndType 5 6), (0, u "java/lang/Object"), (0, u "<init>"), (0, u "()V"), (0, .fieldref 8 9), (0, .class_ 10), (0, .nameAndType 11 12), (0, u "com/example/rowgate/rowgate/Options"), (0, u "values"), (0, u "Ljava/util/Map;"), (0, .fieldref 8 14), (0, .nameAndType 15 16), (0, u "arguments"), (0, u "Ljava/util/List;"), (0, .class_ 18), (0, u "java/util/HashMap"), (0, .methodref 17 3), (0, .class_ 21), (0, u "java/util/ArrayList"), (0, .methodref 20 3), (0, .interfaceMethodref 24 25), (0, .class_ 26), (0, .nameAndType 27 28), (0, u "java/util/List"), (0, u "size"), (0, u "()I"), (0, .interfaceMethodref 24 30), (0, .nameAndType 31 32), (0, u "get"), (0, u "(I)Ljava/lang/Object;"), (0, .class_ 34), (0, u "java/lang/String"), (0, .string 36), (0, u "--"), (0, .methodref 33 38), (0, .nameAndType 39 40), (0, u "startsWith"), (0, u "(Ljava/lang/String;)Z"), (0, .interfaceMethodref 24 42), (0, .nameAndType 43 44), (0, u "add"), (0, u "(Ljava/lang/Object;)Z"), (20, .class_ 67), (1, u "java/util/Map"), (2, .methodref 8 71), (0, .nameAndType 5 72), (0, u "(Ljava/util/Map;Ljava/util/List;)V"), (6, u "all"), (0, u "(Ljava/lang/String;)Ljava/util/List;"), (5, .interfaceMethodref 24 87), (0, .nameAndType 88 89), (0, u "of"), (0, u "()Ljava/util/List;"), (0, .interfaceMethodref 65 91), (0, .nameAndType 92 93), (0, u "getOrDefault"), (0, u "(Ljava/lang/Object;Ljava/lang/Object;)Ljava/lang/Object;"), (6, u "parse"), (0, u "(Ljava/util/List;Ljava/util/Set;)Lcom/example/rowgate/rowgate/Options;")] 42

def k19c0 : Code := { maxStack := 2, maxLocals := 3, code := prog_10_method_1_code, exceptionTable := #[], attributes := #[] }
def k19m0 : Method := { name := "<init>", desc := "(Ljava/util/Map;Ljava/util/List;)V", sig := { parameters := [(.object "java/util/Map"), (.object "java/util/List")], returnType := none }, accessFlags := 2, code := some k19c0 }
def k19c1 : Code := { maxStack := 4, maxLocals := 6, code := prog_10_method_2_code, exceptionTable := #[], attributes := #[] }
def k19m1 : Method := { name := "parse", desc := "(Ljava/util/List;Ljava/util/Set;)Lcom/example/rowgate/rowgate/Options;", sig := { parameters := [(.object "java/util/List"), (.object "java/util/Set")], returnType := some (.object "com/example/rowgate/rowgate/Options") }, accessFlags := 8, code := some k19c1 }
def k19c2 : Code := { maxStack := 3, maxLocals := 2, code := prog_10_method_5_code, exceptionTable := #[], attributes := #[] }
def k19m2 : Method := { name := "all", desc := "(Ljava/lang/String;)Ljava/util/List;", sig := { parameters := [(.object "java/lang/String")], returnType := some (.object "java/util/List") }, accessFlags := 0, code := some k19c2 }
def k19c3 : Code := { maxStack := 1, maxLocals := 1, code := prog_10_method_6_code, exceptionTable := #[], attributes := #[] }
def k19m3 : Method := { name := "arguments", desc := "()Ljava/util/List;", sig := { parameters := [], returnType := some (.object "java/util/List") }, accessFlags := 0, code := some k19c3 }
/-- com/example/rowgate/rowgate/Options -/
def k19 : Class := { plain "com/example/rowgate/rowgate/Options" (some 0) with
  accessFlags := 48
  interfaces := #[]
  cf := some (fileOf pool19 8 #[] #[{ accessFlags := 2, nameIndex := 5, descriptorIndex := 72, attributes := #[] }, { accessFlags := 8, nameIndex := 100, descriptorIndex := 101, attributes := #[] }, { accessFlags := 0, nameIndex := 79, descriptorIndex := 80, attributes := #[] }, { accessFlags := 0, nameIndex := 15, descriptorIndex := 89, attributes := #[] }] 48 2 #[] #[{ accessFlags := 18, nameIndex := 11, descriptorIndex := 12, attributes := #[] }, { accessFlags := 18, nameIndex := 15, descriptorIndex := 16, attributes := #[] }])
  fields := #[{ name := "values", type := (.object "java/util/Map"), accessFlags := 18, slot := 0, constantValue := 0 }, { name := "arguments", type := (.object "java/util/List"), accessFlags := 18, slot := 1, constantValue := 0 }]
  methods := #[k19m0, k19m1, k19m2, k19m3]
  instanceTypes := #[(.object "java/util/Map"), (.object "java/util/List")]
  staticTypes := #[]
  resolved := Array.replicate 144 none
  statics := none }

def pool20 : Array CpInfo := pool [(2, .class_ 4), (1, u "java/util/Map"), (31, .class_ 37), (0, u "java/util/Map$Entry"), (25, u "(Ljava/lang/Object;Ljava/lang/Object;)Ljava/lang/Object;"), (29, .class_ 94), (0, u "java/lang/Object"), (43, u "getOrDefault")] 124

def k20c0 : Code := { maxStack := 2, maxLocals := 4, code := ⟨#[0x2a, 0x2b, 0xb9, 0x00, 0x01, 0x02, 0x00, 0x59, 0x4e, 0xc7, 0x00, 0x0d, 0x2a, 0x2b, 0xb9, 0x00, 0x07, 0x02, 0x00, 0x99, 0x00, 0x07, 0x2d, 0xa7, 0x00, 0x04, 0x2c, 0xb0]⟩, exceptionTable := #[], attributes := #[] }
def k20m0 : Method := { name := "getOrDefault", desc := "(Ljava/lang/Object;Ljava/lang/Object;)Ljava/lang/Object;", sig := { parameters := [(.object "java/lang/Object"), (.object "java/lang/Object")], returnType := some (.object "java/lang/Object") }, accessFlags := 1, code := some k20c0 }
/-- java/util/Map -/
def k20 : Class := { plain "java/util/Map" (some 0) with
  accessFlags := 1537
  interfaces := #[]
  cf := some (fileOf pool20 2 #[.nestMembers #[36]] #[{ accessFlags := 1, nameIndex := 138, descriptorIndex := 63, attributes := #[] }] 1537 93 #[] #[])
  fields := #[]
  methods := #[k20m0]
  instanceTypes := #[]
  staticTypes := #[]
  resolved := Array.replicate 263 none
  statics := none }

def pool21 : Array CpInfo := pool [(1, .methodref 2 3), (0, .class_ 4), (0, .nameAndType 5 6), (0, u "java/lang/Object"), (0, u "<init>"), (0, u "()V"), (1, .class_ 10), (1, u "java/util/AbstractMap"), (42, .class_ 54), (0, u "java/util/Map"), (9, u "keySet"), (0, u "Ljava/util/Set;"), (0, .class_ 67), (0, u "java/util/AbstractMap$1"), (5, u "values"), (0, u "Ljava/util/Collection;"), (0, .class_ 76), (0, u "java/util/AbstractMap$2"), (104, .class_ 182), (0, u "java/util/AbstractMap$ViewCollection"), (0, .class_ 184), (0, u "java/util/AbstractMap$SimpleImmutableEntry"), (0, .class_ 186), (0, u "java/util/AbstractMap$SimpleEntry"), (0, .class_ 188), (0, u "java/util/AbstractMap$2$1"), (0, .class_ 190), (0, u "java/util/AbstractMap$1$1")] 5

def k21c0 : Code := { maxStack := 1, maxLocals := 1, code := jdk_71_method_1_code, exceptionTable := #[], attributes := #[] }
def k21m0 : Method := { name := "<init>", desc := "()V", sig := { parameters := [], returnType := none }, accessFlags := 4, code := some k21c0 }
/-- java/util/AbstractMap -/
def k21 : Class := { plain "java/util/AbstractMap" (some 0) with
  accessFlags := 1057
  interfaces := #[20]
  cf := some (fileOf pool21 8 #[.nestMembers #[181, 183, 185, 75, 187, 66, 189]] #[{ accessFlags := 4, nameIndex := 5, descriptorIndex := 6, attributes := #[] }] 1057 2 #[53] #[{ accessFlags := 128, nameIndex := 64, descriptorIndex := 65, attributes := #[] }, { accessFlags := 128, nameIndex := 73, descriptorIndex := 74, attributes := #[] }])
  fields := #[{ name := "keySet", type := (.object "java/util/Set"), accessFlags := 128, slot := 0, constantValue := 0 }, { name := "values", type := (.object "java/util/Collection"), accessFlags := 128, slot := 1, constantValue := 0 }]
  methods := #[k21m0]
  instanceTypes := #[(.object "java/util/Set"), (.object "java/util/Collection")]
  staticTypes := #[]
  resolved := Array.replicate 196 none
  statics := none }

def pool22 : Array CpInfo := pool [(40, .class_ 41), (0, u "java/util/HashMap"), (1, .methodref 44 45), (0, .class_ 46), (0, .nameAndType 47 48), (0, u "java/util/AbstractMap"), (0, u "<init>"), (0, u "()V"), (32, .fieldref 40 82), (0, .nameAndType 83 84), (0, u "loadFactor"), (0, u "F"), (5, u "threshold"), (0, u "I"), (0, .float 1061158912), (8, .class_ 103), (1, u "java/util/Map"), (0, u "size"), (0, .fieldref 40 106), (0, .nameAndType 107 108), (0, u "table"), (0, u "[Ljava/util/HashMap$Node;"), (14, u "entrySet"), (34, .methodref 40 159), (0, .nameAndType 160 161), (0, u "getNode"), (0, u "(Ljava/lang/Object;)Ljava/util/HashMap$Node;"), (1, .class_ 165), (1, u "java/util/HashMap$Node"), (14, .class_ 181), (0, u "java/util/HashMap$TreeNode"), (22, u "modCount"), (37, u "Ljava/util/Set;"), (0, .class_ 244), (0, u "java/util/HashMap$KeySet"), (18, .class_ 264), (0, u "java/util/HashMap$Values"), (3, .class_ 269), (0, u "java/util/HashMap$EntrySet"), (17, u "(Ljava/lang/Object;Ljava/lang/Object;)Ljava/lang/Object;"), (58, .class_ 348), (1, u "java/util/HashMap$UnsafeHolder"), (43, .class_ 393), (0, u "java/lang/Cloneable"), (0, .class_ 395), (0, u "java/io/Serializable"), (0, u "serialVersionUID"), (0, u "J"), (3, u "DEFAULT_INITIAL_CAPACITY"), (1, u "MAXIMUM_CAPACITY"), (0, u "DEFAULT_LOAD_FACTOR"), (0, u "TREEIFY_THRESHOLD"), (1, u "UNTREEIFY_THRESHOLD"), (1, u "MIN_TREEIFY_CAPACITY"), (114, u "getOrDefault"), (71, .class_ 597), (0, u "java/util/HashMap$EntrySpliterator"), (0, .class_ 599), (0, u "java/util/HashMap$ValueSpliterator"), (0, .class_ 601), (0, u "java/util/HashMap$KeySpliterator"), (0, .class_ 603), (0, u "java/util/HashMap$HashMapSpliterator"), (0, .class_ 605), (0, u "java/util/HashMap$EntryIterator"), (0, .class_ 607), (0, u "java/util/HashMap$ValueIterator"), (0, .class_ 609), (0, u "java/util/HashMap$KeyIterator"), (0, .class_ 611), (0, u "java/util/HashMap$HashIterator")] 17

def k22c0 : Code := { maxStack := 2, maxLocals := 1, code := jdk_69_method_7_code, exceptionTable := #[], attributes := #[] }
def k22m0 : Method := { name := "<init>", desc := "()V", sig := { parameters := [], returnType := none }, accessFlags := 1, code := some k22c0 }
def k22c1 : Code := { maxStack := 4, maxLocals := 8, code := jdk_69_method_13_code, exceptionTable := #[], attributes := #[] }
def k22m1 : Method := { name := "getNode", desc := "(Ljava/lang/Object;)Ljava/util/HashMap$Node;", sig := { parameters := [(.object "java/lang/Object")], returnType := some (.object "java/util/HashMap$Node") }, accessFlags := 16, code := some k22c1 }
def k22c2 : Code := { maxStack := 2, maxLocals := 4, code := jdk_69_method_30_code, exceptionTable := #[], attributes := #[] }
def k22m2 : Method := { name := "getOrDefault", desc := "(Ljava/lang/Object;Ljava/lang/Object;)Ljava/lang/Object;", sig := { parameters := [(.object "java/lang/Object"), (.object "java/lang/Object")], returnType := some (.object "java/lang/Object") }, accessFlags := 1, code := some k22c2 }
/-- java/util/HashMap -/
def k22 : Class := { plain "java/util/HashMap" (some 21) with
  accessFlags := 33
  interfaces := #[20, 16, 2]
  cf := some (fileOf pool22 40 #[.nestMembers #[180, 596, 598, 600, 602, 604, 606, 608, 610, 346, 268, 263, 243, 163]] #[{ accessFlags := 1, nameIndex := 47, descriptorIndex := 48, attributes := #[] }, { accessFlags := 16, nameIndex := 160, descriptorIndex := 161, attributes := #[] }, { accessFlags := 1, nameIndex := 524, descriptorIndex := 287, attributes := #[] }] 33 44 #[101, 392, 394] #[{ accessFlags := 26, nameIndex := 396, descriptorIndex := 397, attributes := #[] }, { accessFlags := 24, nameIndex := 401, descriptorIndex := 91, attributes := #[] }, { accessFlags := 24, nameIndex := 403, descriptorIndex := 91, attributes := #[] }, { accessFlags := 24, nameIndex := 404, descriptorIndex := 84, attributes := #[] }, { accessFlags := 24, nameIndex := 405, descriptorIndex := 91, attributes := #[] }, { accessFlags := 24, nameIndex := 407, descriptorIndex := 91, attributes := #[] }, { accessFlags := 24, nameIndex := 409, descriptorIndex := 91, attributes := #[] }, { accessFlags := 128, nameIndex := 107, descriptorIndex := 108, attributes := #[] }, { accessFlags := 128, nameIndex := 123, descriptorIndex := 242, attributes := #[] }, { accessFlags := 128, nameIndex := 104, descriptorIndex := 91, attributes := #[] }, { accessFlags := 128, nameIndex := 204, descriptorIndex := 91, attributes := #[] }, { accessFlags := 0, nameIndex := 90, descriptorIndex := 91, attributes := #[] }, { accessFlags := 16, nameIndex := 83, descriptorIndex := 84, attributes := #[] }])
  fields := #[{ name := "serialVersionUID", type := .long, accessFlags := 26, slot := 0, constantValue := 0 }, { name := "DEFAULT_INITIAL_CAPACITY", type := .int, accessFlags := 24, slot := 1, constantValue := 0 }, { name := "MAXIMUM_CAPACITY", type := .int, accessFlags := 24, slot := 2, constantValue := 0 }, { name := "DEFAULT_LOAD_FACTOR", type := .float, accessFlags := 24, slot := 3, constantValue := 0 }, { name := "TREEIFY_THRESHOLD", type := .int, accessFlags := 24, slot := 4, constantValue := 0 }, { name := "UNTREEIFY_THRESHOLD", type := .int, accessFlags := 24, slot := 5, constantValue := 0 }, { name := "MIN_TREEIFY_CAPACITY", type := .int, accessFlags := 24, slot := 6, constantValue := 0 }, { name := "table", type := (.array (.object "java/util/HashMap$Node")), accessFlags := 128, slot := 2, constantValue := 0 }, { name := "entrySet", type := (.object "java/util/Set"), accessFlags := 128, slot := 3, constantValue := 0 }, { name := "size", type := .int, accessFlags := 128, slot := 4, constantValue := 0 }, { name := "modCount", type := .int, accessFlags := 128, slot := 5, constantValue := 0 }, { name := "threshold", type := .int, accessFlags := 0, slot := 6, constantValue := 0 }, { name := "loadFactor", type := .float, accessFlags := 16, slot := 7, constantValue := 0 }]
  methods := #[k22m0, k22m1, k22m2]
  instanceTypes := #[(.object "java/util/Set"), (.object "java/util/Collection"), (.array (.object "java/util/HashMap$Node")), (.object "java/util/Set"), .int, .int, .int, .float]
  staticTypes := #[.long, .int, .int, .float, .int, .int, .int]
  resolved := Array.replicate 629 none
  statics := none }

def pool23 : Array CpInfo := pool [(2, .class_ 4), (1, u "java/lang/Object"), (0, u "<init>"), (0, u "()V"), (35, .class_ 44), (1, u "java/util/Objects"), (60, .methodref 106 107), (0, .class_ 108), (0, .nameAndType 109 110), (0, u "jdk/internal/util/Preconditions"), (0, u "checkIndex"), (0, u "(IILjava/util/function/BiFunction;)I"), (60, u "(II)I")] 12

def k23m0 : Method := { name := "<init>", desc := "()V", sig := { parameters := [], returnType := none }, accessFlags := 2, code := none }
def k23c1 : Code := { maxStack := 3, maxLocals := 2, code := jdk_31_method_17_code, exceptionTable := #[], attributes := #[] }
def k23m1 : Method := { name := "checkIndex", desc := "(II)I", sig := { parameters := [.int, .int], returnType := some .int }, accessFlags := 9, code := some k23c1 }
/-- java/util/Objects -/
def k23 : Class := { plain "java/util/Objects" (some 0) with
  accessFlags := 49
  interfaces := #[]
  cf := some (fileOf pool23 42 #[] #[{ accessFlags := 2, nameIndex := 5, descriptorIndex := 6, attributes := #[] }, { accessFlags := 9, nameIndex := 109, descriptorIndex := 171, attributes := #[] }] 49 2 #[] #[])
  fields := #[]
  methods := #[k23m0, k23m1]
  instanceTypes := #[]
  staticTypes := #[]
  resolved := Array.replicate 184 none
  statics := none }

def pool24 : Array CpInfo := pool [(2, .class_ 4), (1, u "java/lang/Object"), (0, u "<init>"), (0, u "()V"), (17, .class_ 26), (1, u "jdk/internal/util/Preconditions"), (6, u "checkIndex"), (21, .class_ 56), (0, u "jdk/internal/util/Preconditions$4"), (57, .class_ 115), (0, u "jdk/internal/util/Preconditions$1"), (7, u "SIOOBE_FORMATTER"), (0, u "Ljava/util/function/BiFunction;"), (0, .class_ 126), (0, u "jdk/internal/util/Preconditions$2"), (3, u "AIOOBE_FORMATTER"), (0, .class_ 132), (0, u "jdk/internal/util/Preconditions$3"), (3, u "IOOBE_FORMATTER"), (41, u "(IILjava/util/function/BiFunction;)I")] 15

def k24m0 : Method := { name := "<init>", desc := "()V", sig := { parameters := [], returnType := none }, accessFlags := 1, code := none }
def k24c1 : Code := { maxStack := 3, maxLocals := 3, code := jdk_41_method_11_code, exceptionTable := #[], attributes := #[] }
def k24m1 : Method := { name := "checkIndex", desc := "(IILjava/util/function/BiFunction;)I", sig := { parameters := [.int, .int, (.object "java/util/function/BiFunction")], returnType := some .int }, accessFlags := 9, code := some k24c1 }
/-- jdk/internal/util/Preconditions -/
def k24 : Class := { plain "jdk/internal/util/Preconditions" (some 0) with
  accessFlags := 33
  interfaces := #[]
  cf := some (fileOf pool24 24 #[.nestMembers #[55, 131, 125, 114]] #[{ accessFlags := 1, nameIndex := 5, descriptorIndex := 6, attributes := #[] }, { accessFlags := 9, nameIndex := 33, descriptorIndex := 178, attributes := #[] }] 33 2 #[] #[{ accessFlags := 25, nameIndex := 123, descriptorIndex := 124, attributes := #[] }, { accessFlags := 25, nameIndex := 130, descriptorIndex := 124, attributes := #[] }, { accessFlags := 25, nameIndex := 136, descriptorIndex := 124, attributes := #[] }])
  fields := #[{ name := "SIOOBE_FORMATTER", type := (.object "java/util/function/BiFunction"), accessFlags := 25, slot := 0, constantValue := 0 }, { name := "AIOOBE_FORMATTER", type := (.object "java/util/function/BiFunction"), accessFlags := 25, slot := 1, constantValue := 0 }, { name := "IOOBE_FORMATTER", type := (.object "java/util/function/BiFunction"), accessFlags := 25, slot := 2, constantValue := 0 }]
  methods := #[k24m0, k24m1]
  instanceTypes := #[]
  staticTypes := #[(.object "java/util/function/BiFunction"), (.object "java/util/function/BiFunction"), (.object "java/util/function/BiFunction")]
  resolved := Array.replicate 194 none
  statics := some 2 }

def pool25 : Array CpInfo := pool [(2, .class_ 4), (1, u "java/lang/Object"), (0, u "<init>"), (0, u "()V"), (3, .class_ 11), (0, u "java/util/ImmutableCollections$List12"), (0, .class_ 13), (0, u "java/util/ImmutableCollections$ListN"), (3, u "Z"), (29, .class_ 49), (1, u "java/util/ImmutableCollections"), (0, u "$assertionsDisabled"), (5, u "[Ljava/lang/Object;"), (5, u "EMPTY_LIST"), (0, u "Ljava/util/ImmutableCollections$ListN;"), (8, u "EMPTY_LIST_NULLS"), (22, u "SALT32L"), (0, u "J"), (2, u "REVERSE"), (6, u "archivedObjects"), (2, u "EMPTY"), (0, u "Ljava/lang/Object;"), (0, .class_ 112), (0, u "java/util/ImmutableCollections$SetN"), (5, u "EMPTY_SET"), (0, u "Ljava/util/ImmutableCollections$SetN;"), (0, .class_ 121), (0, u "java/util/ImmutableCollections$MapN"), (3, u "EMPTY_MAP"), (0, u "Ljava/util/ImmutableCollections$MapN;"), (4, u "EXPAND_FACTOR"), (0, u "I"), (36, .class_ 170), (0, u "java/util/ImmutableCollections$MapN$MapNIterator"), (0, .class_ 172), (0, u "java/util/ImmutableCollections$MapN$1"), (0, .class_ 174), (0, u "java/util/ImmutableCollections$Map1"), (0, .class_ 176), (0, u "java/util/ImmutableCollections$AbstractImmutableMap"), (0, .class_ 178), (0, u "java/util/ImmutableCollections$SetN$SetNIterator"), (0, .class_ 180), (0, u "java/util/ImmutableCollections$Set12"), (0, .class_ 182), (0, u "java/util/ImmutableCollections$Set12$1"), (0, .class_ 184), (0, u "java/util/ImmutableCollections$AbstractImmutableSet"), (0, .class_ 186), (0, u "java/util/ImmutableCollections$SubList"), (0, .class_ 188), (0, u "java/util/ImmutableCollections$ListItr"), (0, .class_ 190), (0, u "java/util/ImmutableCollections$AbstractImmutableList"), (0, .class_ 192), (0, u "java/util/ImmutableCollections$AbstractImmutableCollection"), (0, .class_ 194), (0, u "java/util/ImmutableCollections$Access"), (0, .class_ 196), (0, u "java/util/ImmutableCollections$Access$1")] 16

def k25m0 : Method := { name := "<init>", desc := "()V", sig := { parameters := [], returnType := none }, accessFlags := 2, code := none }
/-- java/util/ImmutableCollections -/
def k25 : Class := { plain "java/util/ImmutableCollections" (some 0) with
  accessFlags := 32
  interfaces := #[]
  cf := some (fileOf pool25 47 #[.nestMembers #[120, 169, 171, 173, 175, 111, 177, 179, 181, 183, 12, 10, 185, 187, 189, 191, 193, 195]] #[{ accessFlags := 2, nameIndex := 5, descriptorIndex := 6, attributes := #[] }] 32 2 #[] #[{ accessFlags := 26, nameIndex := 95, descriptorIndex := 96, attributes := #[] }, { accessFlags := 26, nameIndex := 99, descriptorIndex := 17, attributes := #[] }, { accessFlags := 10, nameIndex := 106, descriptorIndex := 56, attributes := #[] }, { accessFlags := 26, nameIndex := 109, descriptorIndex := 110, attributes := #[] }, { accessFlags := 24, nameIndex := 62, descriptorIndex := 63, attributes := #[] }, { accessFlags := 24, nameIndex := 72, descriptorIndex := 63, attributes := #[] }, { accessFlags := 24, nameIndex := 118, descriptorIndex := 119, attributes := #[] }, { accessFlags := 24, nameIndex := 125, descriptorIndex := 126, attributes := #[] }, { accessFlags := 24, nameIndex := 131, descriptorIndex := 132, attributes := #[] }, { accessFlags := 4120, nameIndex := 50, descriptorIndex := 17, attributes := #[] }])
  fields := #[{ name := "SALT32L", type := .long, accessFlags := 26, slot := 0, constantValue := 0 }, { name := "REVERSE", type := .boolean, accessFlags := 26, slot := 1, constantValue := 0 }, { name := "archivedObjects", type := (.array (.object "java/lang/Object")), accessFlags := 10, slot := 2, constantValue := 0 }, { name := "EMPTY", type := (.object "java/lang/Object"), accessFlags := 26, slot := 3, constantValue := 0 }, { name := "EMPTY_LIST", type := (.object "java/util/ImmutableCollections$ListN"), accessFlags := 24, slot := 4, constantValue := 0 }, { name := "EMPTY_LIST_NULLS", type := (.object "java/util/ImmutableCollections$ListN"), accessFlags := 24, slot := 5, constantValue := 0 }, { name := "EMPTY_SET", type := (.object "java/util/ImmutableCollections$SetN"), accessFlags := 24, slot := 6, constantValue := 0 }, { name := "EMPTY_MAP", type := (.object "java/util/ImmutableCollections$MapN"), accessFlags := 24, slot := 7, constantValue := 0 }, { name := "EXPAND_FACTOR", type := .int, accessFlags := 24, slot := 8, constantValue := 0 }, { name := "$assertionsDisabled", type := .boolean, accessFlags := 4120, slot := 9, constantValue := 0 }]
  methods := #[k25m0]
  instanceTypes := #[]
  staticTypes := #[.long, .boolean, (.array (.object "java/lang/Object")), (.object "java/lang/Object"), (.object "java/util/ImmutableCollections$ListN"), (.object "java/util/ImmutableCollections$ListN"), (.object "java/util/ImmutableCollections$SetN"), (.object "java/util/ImmutableCollections$MapN"), .int, .boolean]
  resolved := Array.replicate 213 none
  statics := some 3 }

def pool26 : Array CpInfo := pool [(2, .class_ 4), (1, u "java/util/AbstractCollection"), (0, u "<init>"), (0, u "()V"), (1, .class_ 10), (1, u "java/util/ImmutableCollections"), (2, .class_ 14), (0, u "java/util/ImmutableCollections$AbstractImmutableCollection")] 41

def k26m0 : Method := { name := "<init>", desc := "()V", sig := { parameters := [], returnType := none }, accessFlags := 0, code := none }
/-- java/util/ImmutableCollections$AbstractImmutableCollection -/
def k26 : Class := { plain "java/util/ImmutableCollections$AbstractImmutableCollection" (some 11) with
  accessFlags := 1056
  interfaces := #[]
  cf := some (fileOf pool26 13 #[.nestHost 8] #[{ accessFlags := 0, nameIndex := 5, descriptorIndex := 6, attributes := #[] }] 1056 2 #[] #[])
  fields := #[]
  methods := #[k26m0]
  instanceTypes := #[]
  staticTypes := #[]
  resolved := Array.replicate 56 none
  statics := none }

def pool27 : Array CpInfo := pool [(2, .class_ 4), (1, u "java/util/ImmutableCollections$AbstractImmutableCollection"), (0, u "<init>"), (0, u "()V"), (1, .class_ 10), (1, u "java/util/ImmutableCollections"), (3, .class_ 16), (1, u "java/util/ImmutableCollections$AbstractImmutableList"), (60, .class_ 78), (0, u "java/util/List"), (45, .class_ 125), (0, u "java/util/RandomAccess")] 70

def k27m0 : Method := { name := "<init>", desc := "()V", sig := { parameters := [], returnType := none }, accessFlags := 0, code := none }
/-- java/util/ImmutableCollections$AbstractImmutableList -/
def k27 : Class := { plain "java/util/ImmutableCollections$AbstractImmutableList" (some 26) with
  accessFlags := 1056
  interfaces := #[13, 15]
  cf := some (fileOf pool27 14 #[.nestHost 8] #[{ accessFlags := 0, nameIndex := 5, descriptorIndex := 6, attributes := #[] }] 1056 2 #[77, 124] #[])
  fields := #[]
  methods := #[k27m0]
  instanceTypes := #[]
  staticTypes := #[]
  resolved := Array.replicate 196 none
  statics := none }

def pool28 : Array CpInfo := pool [(2, .class_ 4), (1, u "java/util/ImmutableCollections$AbstractImmutableList"), (2, .fieldref 8 9), (0, .class_ 10), (0, .nameAndType 11 12), (0, u "java/util/ImmutableCollections$ListN"), (0, u "elements"), (0, u "[Ljava/lang/Object;"), (2, u "allowNulls"), (0, u "Z"), (42, .class_ 60), (0, u "java/io/Serializable"), (16, u "size"), (0, u "()I"), (35, .class_ 115), (0, u "java/util/ImmutableCollections")] 3

def k28c0 : Code := { maxStack := 1, maxLocals := 1, code := jdk_45_method_3_code, exceptionTable := #[], attributes := #[] }
def k28m0 : Method := { name := "size", desc := "()I", sig := { parameters := [], returnType := some .int }, accessFlags := 1, code := some k28c0 }
/-- java/util/ImmutableCollections$ListN -/
def k28 : Class := { plain "java/util/ImmutableCollections$ListN" (some 27) with
  accessFlags := 48
  interfaces := #[2]
  cf := some (fileOf pool28 8 #[.nestHost 114] #[{ accessFlags := 1, nameIndex := 77, descriptorIndex := 78, attributes := #[] }] 48 2 #[59] #[{ accessFlags := 18, nameIndex := 11, descriptorIndex := 12, attributes := #[] }, { accessFlags := 18, nameIndex := 15, descriptorIndex := 16, attributes := #[] }])
  fields := #[{ name := "elements", type := (.array (.object "java/lang/Object")), accessFlags := 18, slot := 0, constantValue := 0 }, { name := "allowNulls", type := .boolean, accessFlags := 18, slot := 1, constantValue := 0 }]
  methods := #[k28m0]
  instanceTypes := #[(.array (.object "java/lang/Object")), .boolean]
  staticTypes := #[]
  resolved := Array.replicate 119 none
  statics := none }

def pool29 : Array CpInfo := pool [(9, u "<init>"), (6, .class_ 18), (1, u "java/lang/Object"), (0, u "()V"), (1, .class_ 23), (1, u "jdk/internal/util/ArraysSupport"), (0, u "LOG2_ARRAY_LONG_INDEX_SCALE"), (0, u "I"), (2, u "U"), (0, u "Ljdk/internal/misc/Unsafe;"), (8, u "BIG_ENDIAN"), (0, u "Z"), (8, u "LOG2_BYTE_BIT_SIZE"), (4, u "LOG2_ARRAY_INT_INDEX_SCALE"), (54, u "JLA"), (0, u "Ljdk/internal/access/JavaLangAccess;"), (11, u "LOG2_ARRAY_BOOLEAN_INDEX_SCALE"), (9, u "LOG2_ARRAY_BYTE_INDEX_SCALE"), (5, u "LOG2_ARRAY_CHAR_INDEX_SCALE"), (5, u "LOG2_ARRAY_SHORT_INDEX_SCALE"), (5, u "mismatch"), (12, u "LOG2_ARRAY_FLOAT_INDEX_SCALE"), (24, u "LOG2_ARRAY_DOUBLE_INDEX_SCALE"), (89, u "T_BOOLEAN"), (2, u "T_CHAR"), (1, u "T_FLOAT"), (1, u "T_DOUBLE"), (1, u "T_BYTE"), (1, u "T_SHORT"), (1, u "T_INT"), (1, u "T_LONG"), (1, u "SOFT_MAX_ARRAY_LENGTH"), (42, u "([BI[BII)I")] 40

def k29m0 : Method := { name := "<init>", desc := "()V", sig := { parameters := [], returnType := none }, accessFlags := 2, code := none }
def k29c1 : Code := { maxStack := 8, maxLocals := 8, code := jdk_48_method_14_code, exceptionTable := #[], attributes := #[] }
def k29m1 : Method := { name := "mismatch", desc := "([BI[BII)I", sig := { parameters := [(.array .byte), .int, (.array .byte), .int, .int], returnType := some .int }, accessFlags := 9, code := some k29c1 }
/-- jdk/internal/util/ArraysSupport -/
def k29 : Class := { plain "jdk/internal/util/ArraysSupport" (some 0) with
  accessFlags := 33
  interfaces := #[]
  cf := some (fileOf pool29 21 #[] #[{ accessFlags := 2, nameIndex := 9, descriptorIndex := 19, attributes := #[] }, { accessFlags := 9, nameIndex := 149, descriptorIndex := 337, attributes := #[] }] 33 16 #[] #[{ accessFlags := 24, nameIndex := 28, descriptorIndex := 29, attributes := #[] }, { accessFlags := 26, nameIndex := 38, descriptorIndex := 39, attributes := #[] }, { accessFlags := 25, nameIndex := 121, descriptorIndex := 25, attributes := #[] }, { accessFlags := 25, nameIndex := 131, descriptorIndex := 25, attributes := #[] }, { accessFlags := 25, nameIndex := 137, descriptorIndex := 25, attributes := #[] }, { accessFlags := 25, nameIndex := 143, descriptorIndex := 25, attributes := #[] }, { accessFlags := 25, nameIndex := 53, descriptorIndex := 25, attributes := #[] }, { accessFlags := 25, nameIndex := 24, descriptorIndex := 25, attributes := #[] }, { accessFlags := 25, nameIndex := 162, descriptorIndex := 25, attributes := #[] }, { accessFlags := 25, nameIndex := 187, descriptorIndex := 25, attributes := #[] }, { accessFlags := 26, nameIndex := 48, descriptorIndex := 25, attributes := #[] }, { accessFlags := 25, nameIndex := 277, descriptorIndex := 25, attributes := #[] }, { accessFlags := 25, nameIndex := 280, descriptorIndex := 25, attributes := #[] }, { accessFlags := 25, nameIndex := 282, descriptorIndex := 25, attributes := #[] }, { accessFlags := 25, nameIndex := 284, descriptorIndex := 25, attributes := #[] }, { accessFlags := 25, nameIndex := 286, descriptorIndex := 25, attributes := #[] }, { accessFlags := 25, nameIndex := 288, descriptorIndex := 25, attributes := #[] }, { accessFlags := 25, nameIndex := 290, descriptorIndex := 25, attributes := #[] }, { accessFlags := 25, nameIndex := 292, descriptorIndex := 25, attributes := #[] }, { accessFlags := 26, nameIndex := 108, descriptorIndex := 109, attributes := #[] }, { accessFlags := 25, nameIndex := 294, descriptorIndex := 25, attributes := #[] }])
  fields := #[{ name := "U", type := (.object "jdk/internal/misc/Unsafe"), accessFlags := 24, slot := 0, constantValue := 0 }, { name := "BIG_ENDIAN", type := .boolean, accessFlags := 26, slot := 1, constantValue := 0 }, { name := "LOG2_ARRAY_BOOLEAN_INDEX_SCALE", type := .int, accessFlags := 25, slot := 2, constantValue := 0 }, { name := "LOG2_ARRAY_BYTE_INDEX_SCALE", type := .int, accessFlags := 25, slot := 3, constantValue := 0 }, { name := "LOG2_ARRAY_CHAR_INDEX_SCALE", type := .int, accessFlags := 25, slot := 4, constantValue := 0 }, { name := "LOG2_ARRAY_SHORT_INDEX_SCALE", type := .int, accessFlags := 25, slot := 5, constantValue := 0 }, { name := "LOG2_ARRAY_INT_INDEX_SCALE", type := .int, accessFlags := 25, slot := 6, constantValue := 0 }, { name := "LOG2_ARRAY_LONG_INDEX_SCALE", type := .int, accessFlags := 25, slot := 7, constantValue := 0 }, { name := "LOG2_ARRAY_FLOAT_INDEX_SCALE", type := .int, accessFlags := 25, slot := 8, constantValue := 0 }, { name := "LOG2_ARRAY_DOUBLE_INDEX_SCALE", type := .int, accessFlags := 25, slot := 9, constantValue := 0 }, { name := "LOG2_BYTE_BIT_SIZE", type := .int, accessFlags := 26, slot := 10, constantValue := 0 }, { name := "T_BOOLEAN", type := .int, accessFlags := 25, slot := 11, constantValue := 0 }, { name := "T_CHAR", type := .int, accessFlags := 25, slot := 12, constantValue := 0 }, { name := "T_FLOAT", type := .int, accessFlags := 25, slot := 13, constantValue := 0 }, { name := "T_DOUBLE", type := .int, accessFlags := 25, slot := 14, constantValue := 0 }, { name := "T_BYTE", type := .int, accessFlags := 25, slot := 15, constantValue := 0 }, { name := "T_SHORT", type := .int, accessFlags := 25, slot := 16, constantValue := 0 }, { name := "T_INT", type := .int, accessFlags := 25, slot := 17, constantValue := 0 }, { name := "T_LONG", type := .int, accessFlags := 25, slot := 18, constantValue := 0 }, { name := "JLA", type := (.object "jdk/internal/access/JavaLangAccess"), accessFlags := 26, slot := 19, constantValue := 0 }, { name := "SOFT_MAX_ARRAY_LENGTH", type := .int, accessFlags := 25, slot := 20, constantValue := 0 }]
  methods := #[k29m0, k29m1]
  instanceTypes := #[]
  staticTypes := #[(.object "jdk/internal/misc/Unsafe"), .boolean, .int, .int, .int, .int, .int, .int, .int, .int, .int, .int, .int, .int, .int, .int, .int, .int, .int, (.object "jdk/internal/access/JavaLangAccess"), .int]
  resolved := Array.replicate 378 none
  statics := none }

def pool30 : Array CpInfo := pool [(4, .class_ 6), (1, u "java/lang/Object"), (0, u "<init>"), (0, u "()V"), (5, .class_ 16), (1, u "java/lang/StringLatin1"), (73, u "canEncode"), (14, u "(C)Z"), (15, u "$assertionsDisabled"), (0, u "Z"), (98, .class_ 223), (1, u "java/lang/StringLatin1$LinesSpliterator"), (156, u "toBytes"), (1, u "(C)[B"), (7, .class_ 391), (0, u "java/lang/StringLatin1$CharsSpliterator")] 3

def k30m0 : Method := { name := "<init>", desc := "()V", sig := { parameters := [], returnType := none }, accessFlags := 0, code := none }
def k30c1 : Code := { maxStack := 2, maxLocals := 1, code := jdk_43_method_3_code, exceptionTable := #[], attributes := #[] }
def k30m1 : Method := { name := "canEncode", desc := "(C)Z", sig := { parameters := [.char], returnType := some .boolean }, accessFlags := 9, code := some k30c1 }
def k30c2 : Code := { maxStack := 4, maxLocals := 1, code := jdk_43_method_46_code, exceptionTable := #[], attributes := #[] }
def k30m2 : Method := { name := "toBytes", desc := "(C)[B", sig := { parameters := [.char], returnType := some (.array .byte) }, accessFlags := 9, code := some k30c2 }
/-- java/lang/StringLatin1 -/
def k30 : Class := { plain "java/lang/StringLatin1" (some 0) with
  accessFlags := 48
  interfaces := #[]
  cf := some (fileOf pool30 14 #[.nestMembers #[390, 221]] #[{ accessFlags := 0, nameIndex := 7, descriptorIndex := 8, attributes := #[] }, { accessFlags := 9, nameIndex := 90, descriptorIndex := 105, attributes := #[] }, { accessFlags := 9, nameIndex := 380, descriptorIndex := 382, attributes := #[] }] 48 4 #[] #[{ accessFlags := 4120, nameIndex := 121, descriptorIndex := 122, attributes := #[] }])
  fields := #[{ name := "$assertionsDisabled", type := .boolean, accessFlags := 4120, slot := 0, constantValue := 0 }]
  methods := #[k30m0, k30m1, k30m2]
  instanceTypes := #[]
  staticTypes := #[.boolean]
  resolved := Array.replicate 395 none
  statics := none }

/-- the primitive byte -/
def k31 : Class := { plain "byte" none with kind := .primitive 'B', accessFlags := 0x411 }
/-- [B -/
def k32 : Class := { plain "[B" (some 0) with kind := .array 31 .byte, interfaces := #[16, 2], accessFlags := 1041 }

/-- the primitive char -/
def k33 : Class := { plain "char" none with kind := .primitive 'C', accessFlags := 0x411 }
/-- [C -/
def k34 : Class := { plain "[C" (some 0) with kind := .array 33 .char, interfaces := #[16, 2], accessFlags := 1041 }

/-- the primitive int -/
def k35 : Class := { plain "int" none with kind := .primitive 'I', accessFlags := 0x411 }
/-- [I -/
def k36 : Class := { plain "[I" (some 0) with kind := .array 35 .int, interfaces := #[16, 2], accessFlags := 1041 }

/-- [Ljava/lang/Object; -/
def k37 : Class := { plain "[Ljava/lang/Object;" (some 0) with kind := .array 0 (.object "java/lang/Object"), interfaces := #[16, 2], accessFlags := 1041 }

def heap : Heap := #[{ cls := 7, slots := #[.long 0, .int 1, .null, .int 0, .null, .int 0, .int 0], vm := .statics 7 },
  { cls := 17, slots := #[.long 0, .int 0, .ref 6, .ref 7], vm := .statics 17 },
  { cls := 24, slots := #[.null, .null, .null], vm := .statics 24 },
  { cls := 25, slots := #[.long 0, .int 0, .null, .null, .ref 5, .null, .null, .null, .int 0, .int 0], vm := .statics 25 },
  { cls := 37, slots := #[], vm := .none },
  { cls := 28, slots := #[.ref 4, .int 0], vm := .none },
  { cls := 37, slots := #[], vm := .none },
  { cls := 37, slots := #[], vm := .none }]
def classes : Array Class := #[k0, k1, k2, k3, k4, k5, k6, k7, k8, k9, k10, k11, k12, k13, k14, k15, k16, k17, k18, k19, k20, k21, k22, k23, k24, k25, k26, k27, k28, k29, k30, k31, k32, k33, k34, k35, k36, k37]
def interned : List (Array UInt16 × Addr) := []
def slotsUsed : Nat := 26
def theMethod : MethodId := ⟨1, 2⟩
def args0 : Array Value := #[.int 5, .int 6, .int 7, .int 8, .int 9]
def aboutOver (below : List Frame) : State where
  vm := { classes := classes, interned := interned.toArray }
  heap := heap
  slotsUsed := slotsUsed
  threads := #[{ frames := .invoking theMethod args0 :: below }]
def below0 : List Frame := [.native { method := ⟨0, 0⟩, args := #[] }]
def about1 : State := aboutOver below0
def p0 : Program := .bare "" "" ""
def e0 : Env := launch0.env 0 0 0
theorem w_frames : about1.frames = Frame.invoking theMethod args0 :: below0 := rfl
set_option maxRecDepth 65536 in
theorem w_args : argsFit about1.vm theMethod args0 = true := by decide +kernel
set_option maxRecDepth 65536 in
theorem w_heap : heapFits about1 = true := by decide +kernel
set_option maxRecDepth 65536 in
theorem w_runnable : about1.curStatus? = some .runnable := by decide +kernel
set_option maxRecDepth 65536 in
theorem w_alone : about1.alone = true := by decide +kernel
set_option maxRecDepth 65536 in
theorem w_named : about1.methodNamed? x = some theMethod := by decide +kernel
set_option maxRecDepth 65536 in
theorem w_hears : about1.hears theMethod below0 = true := by decide +kernel
set_option maxRecDepth 65536 in
theorem w_ripe : about1.ripe theMethod args0 below0 = true := by decide +kernel
theorem w_running : about1.status = .running := rfl
set_option maxRecDepth 65536 in
theorem w_room : about1.hasRoom e0.platform room_1 = true :=
  launch0.hasRoom_least _ room_1 (by decide +kernel) (by decide +kernel) (by decide +kernel) (by decide +kernel) (by decide +kernel) (by decide +kernel)
theorem allAtoms_all (ts : List Jvm.Cond) (a : Array Jvm.Value) (st : Jvm.State) : (allAtoms ts).before a st = ts.all (fun c => c.before a st) := by
  induction ts with
  | nil => rfl
  | cons c t ih =>
    show (Jvm.Cond.and c (allAtoms t)).before a st = _
    rw [Jvm.Cond.before_and, ih, List.all_cons]
def words1 : List Jvm.Cond := Jvm.Cond.code x code maxLocals ret :: tables_1
/-- a 'code' word, met by the world's own term for the bytes: nothing is compared byte by byte -/
theorem code_word {y : MethodName} {bytes : ByteArray} {mx : Nat} {rt : Option FieldType} {a : Array Value} {s : State} {m : MethodId} {meth : Method} {c : Code} (h1 : s.methodNamed? y = some m) (h2 : s.vm.method? m = some meth) (h3 : meth.code = some c) (h4 : c.code = bytes)
    (h5 : (c.maxLocals == mx && c.exceptionTable.isEmpty && decide (c.maxStack ≤ mostOperands) && decide (meth.sig.returnType = rt) && !meth.locks && decide (parseMethodDescriptor y.desc = some meth.sig)) = true) : (Jvm.Cond.code y bytes mx rt).before a s = true := by
  simp only [Bool.and_eq_true, beq_iff_eq, Bool.not_eq_true', decide_eq_true_eq] at h5
  obtain ⟨⟨⟨⟨⟨g1, g2⟩, g3⟩, g4⟩, g5⟩, g6⟩ := h5
  simp [Cond.before, Cond.holds, Cond.value, h1, h2, h3, h4, g1, g2, g3, g4, g5, g6]
def isCode : Jvm.Cond → Bool
  | .code _ _ _ _ => true
  | _ => false
theorem all_split {L : List Jvm.Cond} {P : Jvm.Cond → Bool} (h1 : L.all (fun c => isCode c || P c) = true) (h2 : ∀ c ∈ L.filter isCode, P c = true) : L.all P = true := by
  refine List.all_eq_true.mpr fun c hc => ?_
  have h := List.all_eq_true.mp h1 c hc
  rcases Bool.eq_false_or_eq_true (isCode c) with hi | hi
  · exact h2 c (List.mem_filter.mpr ⟨hc, hi⟩)
  · simpa [hi] using h
set_option maxRecDepth 65536 in
theorem w_c0 : (Jvm.Cond.code x code maxLocals ret).before args0 about1 = true := code_word (m := ⟨1, 2⟩) (meth := k1m2) (c := k1c2) (by decide +kernel) rfl rfl rfl (by decide +kernel)
set_option maxRecDepth 65536 in
theorem w_c1 : (Jvm.Cond.code ({ cls := "com/example/rowgate/rowgate/OptionsParsePinLaw", name := "word", desc := "(I)Ljava/lang/String;" } : Jvm.MethodName) method_2_code (5 : Nat) (Option.some (Jvm.ClassFile.FieldType.object "java/lang/String"))).before args0 about1 = true := code_word (m := ⟨1, 1⟩) (meth := k1m1) (c := k1c1) (by decide +kernel) rfl rfl rfl (by decide +kernel)
set_option maxRecDepth 65536 in
theorem w_c2 : (Jvm.Cond.code ({ cls := "java/lang/String", name := "<init>", desc := "([C)V" } : Jvm.MethodName) jdk_42_method_3_code (2 : Nat) (Option.none : Option Jvm.ClassFile.FieldType)).before args0 about1 = true := code_word (m := ⟨7, 1⟩) (meth := k7m1) (c := k7c1) (by decide +kernel) rfl rfl rfl (by decide +kernel)
set_option maxRecDepth 65536 in
theorem w_c3 : (Jvm.Cond.code ({ cls := "java/lang/String", name := "<init>", desc := "([CIILjava/lang/Void;)V" } : Jvm.MethodName) jdk_42_method_149_code (6 : Nat) (Option.none : Option Jvm.ClassFile.FieldType)).before args0 about1 = true := code_word (m := ⟨7, 7⟩) (meth := k7m7) (c := k7c7) (by decide +kernel) rfl rfl rfl (by decide +kernel)
set_option maxRecDepth 65536 in
theorem w_c4 : (Jvm.Cond.code ({ cls := "java/lang/Object", name := "<init>", desc := "()V" } : Jvm.MethodName) object_method_1_code (1 : Nat) (Option.none : Option Jvm.ClassFile.FieldType)).before args0 about1 = true := code_word (m := ⟨0, 0⟩) (meth := k0m0) (c := k0c0) (by decide +kernel) rfl rfl rfl (by decide +kernel)
set_option maxRecDepth 65536 in
theorem w_c5 : (Jvm.Cond.code ({ cls := "java/lang/StringUTF16", name := "compress", desc := "([CII)[B" } : Jvm.MethodName) jdk_52_method_16_code (6 : Nat) (Option.some (Jvm.ClassFile.FieldType.array Jvm.ClassFile.FieldType.byte))).before args0 about1 = true := code_word (m := ⟨8, 2⟩) (meth := k8m2) (c := k8c2) (by decide +kernel) rfl rfl rfl (by decide +kernel)
set_option maxRecDepth 65536 in
theorem w_c6 : (Jvm.Cond.code ({ cls := "java/lang/StringUTF16", name := "compress", desc := "([CI[BII)I" } : Jvm.MethodName) jdk_52_method_21_code (7 : Nat) (Option.some Jvm.ClassFile.FieldType.int)).before args0 about1 = true := code_word (m := ⟨8, 3⟩) (meth := k8m3) (c := k8c3) (by decide +kernel) rfl rfl rfl (by decide +kernel)
set_option maxRecDepth 65536 in
theorem w_c7 : (Jvm.Cond.code ({ cls := "java/lang/StringUTF16", name := "coderFromArrayLen", desc := "([BI)B" } : Jvm.MethodName) jdk_52_method_15_code (2 : Nat) (Option.some Jvm.ClassFile.FieldType.byte)).before args0 about1 = true := code_word (m := ⟨8, 1⟩) (meth := k8m1) (c := k8c1) (by decide +kernel) rfl rfl rfl (by decide +kernel)
set_option maxRecDepth 65536 in
theorem w_c8 : (Jvm.Cond.code ({ cls := "java/util/ArrayList", name := "<init>", desc := "()V" } : Jvm.MethodName) jdk_38_method_2_code (1 : Nat) (Option.none : Option Jvm.ClassFile.FieldType)).before args0 about1 = true := code_word (m := ⟨17, 0⟩) (meth := k17m0) (c := k17c0) (by decide +kernel) rfl rfl rfl (by decide +kernel)
set_option maxRecDepth 65536 in
theorem w_c9 : (Jvm.Cond.code ({ cls := "java/util/AbstractList", name := "<init>", desc := "()V" } : Jvm.MethodName) jdk_39_method_1_code (1 : Nat) (Option.none : Option Jvm.ClassFile.FieldType)).before args0 about1 = true := code_word (m := ⟨14, 0⟩) (meth := k14m0) (c := k14c0) (by decide +kernel) rfl rfl rfl (by decide +kernel)
set_option maxRecDepth 65536 in
theorem w_c10 : (Jvm.Cond.code ({ cls := "java/util/AbstractCollection", name := "<init>", desc := "()V" } : Jvm.MethodName) jdk_22_method_1_code (1 : Nat) (Option.none : Option Jvm.ClassFile.FieldType)).before args0 about1 = true := code_word (m := ⟨11, 0⟩) (meth := k11m0) (c := k11c0) (by decide +kernel) rfl rfl rfl (by decide +kernel)
set_option maxRecDepth 65536 in
theorem w_c11 : (Jvm.Cond.code ({ cls := "java/util/ArrayList", name := "add", desc := "(Ljava/lang/Object;)Z" } : Jvm.MethodName) jdk_38_method_25_code (2 : Nat) (Option.some Jvm.ClassFile.FieldType.boolean)).before args0 about1 = true := code_word (m := ⟨17, 7⟩) (meth := k17m7) (c := k17c7) (by decide +kernel) rfl rfl rfl (by decide +kernel)
set_option maxRecDepth 65536 in
theorem w_c12 : (Jvm.Cond.code ({ cls := "java/util/ArrayList", name := "add", desc := "(Ljava/lang/Object;[Ljava/lang/Object;I)V" } : Jvm.MethodName) jdk_38_method_24_code (4 : Nat) (Option.none : Option Jvm.ClassFile.FieldType)).before args0 about1 = true := code_word (m := ⟨17, 6⟩) (meth := k17m6) (c := k17c6) (by decide +kernel) rfl rfl rfl (by decide +kernel)
set_option maxRecDepth 65536 in
theorem w_c13 : (Jvm.Cond.code ({ cls := "java/util/ArrayList", name := "grow", desc := "()[Ljava/lang/Object;" } : Jvm.MethodName) jdk_38_method_7_code (1 : Nat) (Option.some (Jvm.ClassFile.FieldType.array (Jvm.ClassFile.FieldType.object "java/lang/Object")))).before args0 about1 = true := code_word (m := ⟨17, 2⟩) (meth := k17m2) (c := k17c2) (by decide +kernel) rfl rfl rfl (by decide +kernel)
set_option maxRecDepth 65536 in
theorem w_c14 : (Jvm.Cond.code ({ cls := "java/util/ArrayList", name := "grow", desc := "(I)[Ljava/lang/Object;" } : Jvm.MethodName) jdk_38_method_6_code (4 : Nat) (Option.some (Jvm.ClassFile.FieldType.array (Jvm.ClassFile.FieldType.object "java/lang/Object")))).before args0 about1 = true := code_word (m := ⟨17, 1⟩) (meth := k17m1) (c := k17c1) (by decide +kernel) rfl rfl rfl (by decide +kernel)
set_option maxRecDepth 65536 in
theorem w_c15 : (Jvm.Cond.code ({ cls := "java/lang/Math", name := "max", desc := "(II)I" } : Jvm.MethodName) jdk_29_method_65_code (2 : Nat) (Option.some Jvm.ClassFile.FieldType.int)).before args0 about1 = true := code_word (m := ⟨18, 1⟩) (meth := k18m1) (c := k18c1) (by decide +kernel) rfl rfl rfl (by decide +kernel)
set_option maxRecDepth 65536 in
theorem w_c16 : (Jvm.Cond.code ({ cls := "com/example/rowgate/rowgate/Options", name := "parse", desc := "(Ljava/util/List;Ljava/util/Set;)Lcom/example/rowgate/rowgate/Options;" } : Jvm.MethodName) prog_10_method_2_code (6 : Nat) (Option.some (Jvm.ClassFile.FieldType.object "com/example/rowgate/rowgate/Options"))).before args0 about1 = true := code_word (m := ⟨19, 1⟩) (meth := k19m1) (c := k19c1) (by decide +kernel) rfl rfl rfl (by decide +kernel)
set_option maxRecDepth 65536 in
theorem w_c17 : (Jvm.Cond.code ({ cls := "java/util/HashMap", name := "<init>", desc := "()V" } : Jvm.MethodName) jdk_69_method_7_code (1 : Nat) (Option.none : Option Jvm.ClassFile.FieldType)).before args0 about1 = true := code_word (m := ⟨22, 0⟩) (meth := k22m0) (c := k22c0) (by decide +kernel) rfl rfl rfl (by decide +kernel)
set_option maxRecDepth 65536 in
theorem w_c18 : (Jvm.Cond.code ({ cls := "java/util/AbstractMap", name := "<init>", desc := "()V" } : Jvm.MethodName) jdk_71_method_1_code (1 : Nat) (Option.none : Option Jvm.ClassFile.FieldType)).before args0 about1 = true := code_word (m := ⟨21, 0⟩) (meth := k21m0) (c := k21c0) (by decide +kernel) rfl rfl rfl (by decide +kernel)
set_option maxRecDepth 65536 in
theorem w_c19 : (Jvm.Cond.code ({ cls := "java/util/ArrayList", name := "size", desc := "()I" } : Jvm.MethodName) jdk_38_method_8_code (1 : Nat) (Option.some Jvm.ClassFile.FieldType.int)).before args0 about1 = true := code_word (m := ⟨17, 3⟩) (meth := k17m3) (c := k17c3) (by decide +kernel) rfl rfl rfl (by decide +kernel)
set_option maxRecDepth 65536 in
theorem w_c20 : (Jvm.Cond.code ({ cls := "java/util/ArrayList", name := "get", desc := "(I)Ljava/lang/Object;" } : Jvm.MethodName) jdk_38_method_20_code (2 : Nat) (Option.some (Jvm.ClassFile.FieldType.object "java/lang/Object"))).before args0 about1 = true := code_word (m := ⟨17, 5⟩) (meth := k17m5) (c := k17c5) (by decide +kernel) rfl rfl rfl (by decide +kernel)
set_option maxRecDepth 65536 in
theorem w_c21 : (Jvm.Cond.code ({ cls := "java/util/Objects", name := "checkIndex", desc := "(II)I" } : Jvm.MethodName) jdk_31_method_17_code (2 : Nat) (Option.some Jvm.ClassFile.FieldType.int)).before args0 about1 = true := code_word (m := ⟨23, 1⟩) (meth := k23m1) (c := k23c1) (by decide +kernel) rfl rfl rfl (by decide +kernel)
set_option maxRecDepth 65536 in
theorem w_c22 : (Jvm.Cond.code ({ cls := "jdk/internal/util/Preconditions", name := "checkIndex", desc := "(IILjava/util/function/BiFunction;)I" } : Jvm.MethodName) jdk_41_method_11_code (3 : Nat) (Option.some Jvm.ClassFile.FieldType.int)).before args0 about1 = true := code_word (m := ⟨24, 1⟩) (meth := k24m1) (c := k24c1) (by decide +kernel) rfl rfl rfl (by decide +kernel)
set_option maxRecDepth 65536 in
theorem w_c23 : (Jvm.Cond.code ({ cls := "java/util/ArrayList", name := "elementData", desc := "(I)Ljava/lang/Object;" } : Jvm.MethodName) jdk_38_method_18_code (2 : Nat) (Option.some (Jvm.ClassFile.FieldType.object "java/lang/Object"))).before args0 about1 = true := code_word (m := ⟨17, 4⟩) (meth := k17m4) (c := k17c4) (by decide +kernel) rfl rfl rfl (by decide +kernel)
set_option maxRecDepth 65536 in
theorem w_c24 : (Jvm.Cond.code ({ cls := "java/lang/String", name := "startsWith", desc := "(Ljava/lang/String;)Z" } : Jvm.MethodName) jdk_42_method_76_code (2 : Nat) (Option.some Jvm.ClassFile.FieldType.boolean)).before args0 about1 = true := code_word (m := ⟨7, 5⟩) (meth := k7m5) (c := k7c5) (by decide +kernel) rfl rfl rfl (by decide +kernel)
set_option maxRecDepth 65536 in
theorem w_c25 : (Jvm.Cond.code ({ cls := "java/lang/String", name := "startsWith", desc := "(Ljava/lang/String;I)Z" } : Jvm.MethodName) jdk_42_method_75_code (8 : Nat) (Option.some Jvm.ClassFile.FieldType.boolean)).before args0 about1 = true := code_word (m := ⟨7, 4⟩) (meth := k7m4) (c := k7c4) (by decide +kernel) rfl rfl rfl (by decide +kernel)
set_option maxRecDepth 65536 in
theorem w_c26 : (Jvm.Cond.code ({ cls := "java/lang/String", name := "length", desc := "()I" } : Jvm.MethodName) jdk_42_method_54_code (1 : Nat) (Option.some Jvm.ClassFile.FieldType.int)).before args0 about1 = true := code_word (m := ⟨7, 2⟩) (meth := k7m2) (c := k7c2) (by decide +kernel) rfl rfl rfl (by decide +kernel)
set_option maxRecDepth 65536 in
theorem w_c27 : (Jvm.Cond.code ({ cls := "java/lang/String", name := "coder", desc := "()B" } : Jvm.MethodName) jdk_42_method_152_code (1 : Nat) (Option.some Jvm.ClassFile.FieldType.byte)).before args0 about1 = true := code_word (m := ⟨7, 9⟩) (meth := k7m9) (c := k7c9) (by decide +kernel) rfl rfl rfl (by decide +kernel)
set_option maxRecDepth 65536 in
theorem w_c28 : (Jvm.Cond.code ({ cls := "com/example/rowgate/rowgate/Options", name := "<init>", desc := "(Ljava/util/Map;Ljava/util/List;)V" } : Jvm.MethodName) prog_10_method_1_code (3 : Nat) (Option.none : Option Jvm.ClassFile.FieldType)).before args0 about1 = true := code_word (m := ⟨19, 0⟩) (meth := k19m0) (c := k19c0) (by decide +kernel) rfl rfl rfl (by decide +kernel)
set_option maxRecDepth 65536 in
theorem w_c29 : (Jvm.Cond.code ({ cls := "com/example/rowgate/rowgate/Options", name := "arguments", desc := "()Ljava/util/List;" } : Jvm.MethodName) prog_10_method_6_code (1 : Nat) (Option.some (Jvm.ClassFile.FieldType.object "java/util/List"))).before args0 about1 = true := code_word (m := ⟨19, 3⟩) (meth := k19m3) (c := k19c3) (by decide +kernel) rfl rfl rfl (by decide +kernel)
set_option maxRecDepth 65536 in
theorem w_c30 : (Jvm.Cond.code ({ cls := "java/lang/String", name := "equals", desc := "(Ljava/lang/Object;)Z" } : Jvm.MethodName) jdk_42_method_66_code (3 : Nat) (Option.some Jvm.ClassFile.FieldType.boolean)).before args0 about1 = true := code_word (m := ⟨7, 3⟩) (meth := k7m3) (c := k7c3) (by decide +kernel) rfl rfl rfl (by decide +kernel)
set_option maxRecDepth 65536 in
theorem w_c31 : (Jvm.Cond.code ({ cls := "com/example/rowgate/rowgate/Options", name := "all", desc := "(Ljava/lang/String;)Ljava/util/List;" } : Jvm.MethodName) prog_10_method_5_code (2 : Nat) (Option.some (Jvm.ClassFile.FieldType.object "java/util/List"))).before args0 about1 = true := code_word (m := ⟨19, 2⟩) (meth := k19m2) (c := k19c2) (by decide +kernel) rfl rfl rfl (by decide +kernel)
set_option maxRecDepth 65536 in
theorem w_c32 : (Jvm.Cond.code ({ cls := "java/util/List", name := "of", desc := "()Ljava/util/List;" } : Jvm.MethodName) jdk_40_method_36_code (0 : Nat) (Option.some (Jvm.ClassFile.FieldType.object "java/util/List"))).before args0 about1 = true := code_word (m := ⟨13, 3⟩) (meth := k13m3) (c := k13c3) (by decide +kernel) rfl rfl rfl (by decide +kernel)
set_option maxRecDepth 65536 in
theorem w_c33 : (Jvm.Cond.code ({ cls := "java/util/HashMap", name := "getOrDefault", desc := "(Ljava/lang/Object;Ljava/lang/Object;)Ljava/lang/Object;" } : Jvm.MethodName) jdk_69_method_30_code (4 : Nat) (Option.some (Jvm.ClassFile.FieldType.object "java/lang/Object"))).before args0 about1 = true := code_word (m := ⟨22, 2⟩) (meth := k22m2) (c := k22c2) (by decide +kernel) rfl rfl rfl (by decide +kernel)
set_option maxRecDepth 65536 in
theorem w_c34 : (Jvm.Cond.code ({ cls := "java/util/HashMap", name := "getNode", desc := "(Ljava/lang/Object;)Ljava/util/HashMap$Node;" } : Jvm.MethodName) jdk_69_method_13_code (8 : Nat) (Option.some (Jvm.ClassFile.FieldType.object "java/util/HashMap$Node"))).before args0 about1 = true := code_word (m := ⟨22, 1⟩) (meth := k22m1) (c := k22c1) (by decide +kernel) rfl rfl rfl (by decide +kernel)
set_option maxRecDepth 65536 in
theorem w_c35 : (Jvm.Cond.code ({ cls := "java/util/ImmutableCollections$ListN", name := "size", desc := "()I" } : Jvm.MethodName) jdk_45_method_3_code (1 : Nat) (Option.some Jvm.ClassFile.FieldType.int)).before args0 about1 = true := code_word (m := ⟨28, 0⟩) (meth := k28m0) (c := k28c0) (by decide +kernel) rfl rfl rfl (by decide +kernel)
set_option maxRecDepth 65536 in
theorem w_c36 : (Jvm.Cond.code ({ cls := "jdk/internal/util/ArraysSupport", name := "mismatch", desc := "([BI[BII)I" } : Jvm.MethodName) jdk_48_method_14_code (8 : Nat) (Option.some Jvm.ClassFile.FieldType.int)).before args0 about1 = true := code_word (m := ⟨29, 1⟩) (meth := k29m1) (c := k29c1) (by decide +kernel) rfl rfl rfl (by decide +kernel)
set_option maxRecDepth 65536 in
theorem w_c37 : (Jvm.Cond.code ({ cls := "java/lang/String", name := "valueOf", desc := "(C)Ljava/lang/String;" } : Jvm.MethodName) jdk_42_method_139_code (1 : Nat) (Option.some (Jvm.ClassFile.FieldType.object "java/lang/String"))).before args0 about1 = true := code_word (m := ⟨7, 6⟩) (meth := k7m6) (c := k7c6) (by decide +kernel) rfl rfl rfl (by decide +kernel)
set_option maxRecDepth 65536 in
theorem w_c38 : (Jvm.Cond.code ({ cls := "java/lang/StringLatin1", name := "canEncode", desc := "(C)Z" } : Jvm.MethodName) jdk_43_method_3_code (1 : Nat) (Option.some Jvm.ClassFile.FieldType.boolean)).before args0 about1 = true := code_word (m := ⟨30, 1⟩) (meth := k30m1) (c := k30c1) (by decide +kernel) rfl rfl rfl (by decide +kernel)
set_option maxRecDepth 65536 in
theorem w_c39 : (Jvm.Cond.code ({ cls := "java/lang/StringLatin1", name := "toBytes", desc := "(C)[B" } : Jvm.MethodName) jdk_43_method_46_code (1 : Nat) (Option.some (Jvm.ClassFile.FieldType.array Jvm.ClassFile.FieldType.byte))).before args0 about1 = true := code_word (m := ⟨30, 2⟩) (meth := k30m2) (c := k30c2) (by decide +kernel) rfl rfl rfl (by decide +kernel)
set_option maxRecDepth 65536 in
theorem w_c40 : (Jvm.Cond.code ({ cls := "java/lang/String", name := "<init>", desc := "([BB)V" } : Jvm.MethodName) jdk_42_method_151_code (3 : Nat) (Option.none : Option Jvm.ClassFile.FieldType)).before args0 about1 = true := code_word (m := ⟨7, 8⟩) (meth := k7m8) (c := k7c8) (by decide +kernel) rfl rfl rfl (by decide +kernel)
def codes1 : List Jvm.Cond := [Jvm.Cond.code x code maxLocals ret, Jvm.Cond.code ({ cls := "com/example/rowgate/rowgate/OptionsParsePinLaw", name := "word", desc := "(I)Ljava/lang/String;" } : Jvm.MethodName) method_2_code (5 : Nat) (Option.some (Jvm.ClassFile.FieldType.object "java/lang/String")), Jvm.Cond.code ({ cls := "java/lang/String", name := "<init>", desc := "([C)V" } : Jvm.MethodName) jdk_42_method_3_code (2 : Nat) (Option.none : Option Jvm.ClassFile.FieldType), Jvm.Cond.code ({ cls := "java/lang/String", name := "<init>", desc := "([CIILjava/lang/Void;)V" } : Jvm.MethodName) jdk_42_method_149_code (6 : Nat) (Option.none : Option Jvm.ClassFile.FieldType), Jvm.Cond.code ({ cls := "java/lang/Object", name := "<init>", desc := "()V" } : Jvm.MethodName) object_method_1_code (1 : Nat) (Option.none : Option Jvm.ClassFile.FieldType), Jvm.Cond.code ({ cls := "java/lang/StringUTF16", name := "compress", desc := "([CII)[B" } : Jvm.MethodName) jdk_52_method_16_code (6 : Nat) (Option.some (Jvm.ClassFile.FieldType.array Jvm.ClassFile.FieldType.byte)), Jvm.Cond.code ({ cls := "java/lang/StringUTF16", name := "compress", desc := "([CI[BII)I" } : Jvm.MethodName) jdk_52_method_21_code (7 : Nat) (Option.some Jvm.ClassFile.FieldType.int), Jvm.Cond.code ({ cls := "java/lang/StringUTF16", name := "coderFromArrayLen", desc := "([BI)B" } : Jvm.MethodName) jdk_52_method_15_code (2 : Nat) (Option.some Jvm.ClassFile.FieldType.byte), Jvm.Cond.code ({ cls := "java/util/ArrayList", name := "<init>", desc := "()V" } : Jvm.MethodName) jdk_38_method_2_code (1 : Nat) (Option.none : Option Jvm.ClassFile.FieldType), Jvm.Cond.code ({ cls := "java/util/AbstractList", name := "<init>", desc := "()V" } : Jvm.MethodName) jdk_39_method_1_code (1 : Nat) (Option.none : Option Jvm.ClassFile.FieldType), Jvm.Cond.code ({ cls := "java/util/AbstractCollection", name := "<init>", desc := "()V" } : Jvm.MethodName) jdk_22_method_1_code (1 : Nat) (Option.none : Option Jvm.ClassFile.FieldType), Jvm.Cond.code ({ cls := "java/util/ArrayList", name := "add", desc := "(Ljava/lang/Object;)Z" } : Jvm.MethodName) jdk_38_method_25_code (2 : Nat) (Option.some Jvm.ClassFile.FieldType.boolean), Jvm.Cond.code ({ cls := "java/util/ArrayList", name := "add", desc := "(Ljava/lang/Object;[Ljava/lang/Object;I)V" } : Jvm.MethodName) jdk_38_method_24_code (4 : Nat) (Option.none : Option Jvm.ClassFile.FieldType), Jvm.Cond.code ({ cls := "java/util/ArrayList", name := "grow", desc := "()[Ljava/lang/Object;" } : Jvm.MethodName) jdk_38_method_7_code (1 : Nat) (Option.some (Jvm.ClassFile.FieldType.array (Jvm.ClassFile.FieldType.object "java/lang/Object"))), Jvm.Cond.code ({ cls := "java/util/ArrayList", name := "grow", desc := "(I)[Ljava/lang/Object;" } : Jvm.MethodName) jdk_38_method_6_code (4 : Nat) (Option.some (Jvm.ClassFile.FieldType.array (Jvm.ClassFile.FieldType.object "java/lang/Object"))), Jvm.Cond.code ({ cls := "java/lang/Math", name := "max", desc := "(II)I" } : Jvm.MethodName) jdk_29_method_65_code (2 : Nat) (Option.some Jvm.ClassFile.FieldType.int), Jvm.Cond.code ({ cls := "com/example/rowgate/rowgate/Options", name := "parse", desc := "(Ljava/util/List;Ljava/util/Set;)Lcom/example/rowgate/rowgate/Options;" } : Jvm.MethodName) prog_10_method_2_code (6 : Nat) (Option.some (Jvm.ClassFile.FieldType.object "com/example/rowgate/rowgate/Options")), Jvm.Cond.code ({ cls := "java/util/HashMap", name := "<init>", desc := "()V" } : Jvm.MethodName) jdk_69_method_7_code (1 : Nat) (Option.none : Option Jvm.ClassFile.FieldType), Jvm.Cond.code ({ cls := "java/util/AbstractMap", name := "<init>", desc := "()V" } : Jvm.MethodName) jdk_71_method_1_code (1 : Nat) (Option.none : Option Jvm.ClassFile.FieldType), Jvm.Cond.code ({ cls := "java/util/ArrayList", name := "size", desc := "()I" } : Jvm.MethodName) jdk_38_method_8_code (1 : Nat) (Option.some Jvm.ClassFile.FieldType.int), Jvm.Cond.code ({ cls := "java/util/ArrayList", name := "get", desc := "(I)Ljava/lang/Object;" } : Jvm.MethodName) jdk_38_method_20_code (2 : Nat) (Option.some (Jvm.ClassFile.FieldType.object "java/lang/Object")), Jvm.Cond.code ({ cls := "java/util/Objects", name := "checkIndex", desc := "(II)I" } : Jvm.MethodName) jdk_31_method_17_code (2 : Nat) (Option.some Jvm.ClassFile.FieldType.int), Jvm.Cond.code ({ cls := "jdk/internal/util/Preconditions", name := "checkIndex", desc := "(IILjava/util/function/BiFunction;)I" } : Jvm.MethodName) jdk_41_method_11_code (3 : Nat) (Option.some Jvm.ClassFile.FieldType.int), Jvm.Cond.code ({ cls := "java/util/ArrayList", name := "elementData", desc := "(I)Ljava/lang/Object;" } : Jvm.MethodName) jdk_38_method_18_code (2 : Nat) (Option.some (Jvm.ClassFile.FieldType.object "java/lang/Object")), Jvm.Cond.code ({ cls := "java/lang/String", name := "startsWith", desc := "(Ljava/lang/String;)Z" } : Jvm.MethodName) jdk_42_method_76_code (2 : Nat) (Option.some Jvm.ClassFile.FieldType.boolean), Jvm.Cond.code ({ cls := "java/lang/String", name := "startsWith", desc := "(Ljava/lang/String;I)Z" } : Jvm.MethodName) jdk_42_method_75_code (8 : Nat) (Option.some Jvm.ClassFile.FieldType.boolean), Jvm.Cond.code ({ cls := "java/lang/String", name := "length", desc := "()I" } : Jvm.MethodName) jdk_42_method_54_code (1 : Nat) (Option.some Jvm.ClassFile.FieldType.int), Jvm.Cond.code ({ cls := "java/lang/String", name := "coder", desc := "()B" } : Jvm.MethodName) jdk_42_method_152_code (1 : Nat) (Option.some Jvm.ClassFile.FieldType.byte), Jvm.Cond.code ({ cls := "com/example/rowgate/rowgate/Options", name := "<init>", desc := "(Ljava/util/Map;Ljava/util/List;)V" } : Jvm.MethodName) prog_10_method_1_code (3 : Nat) (Option.none : Option Jvm.ClassFile.FieldType), Jvm.Cond.code ({ cls := "com/example/rowgate/rowgate/Options", name := "arguments", desc := "()Ljava/util/List;" } : Jvm.MethodName) prog_10_method_6_code (1 : Nat) (Option.some (Jvm.ClassFile.FieldType.object "java/util/List")), Jvm.Cond.code ({ cls := "java/lang/String", name := "equals", desc := "(Ljava/lang/Object;)Z" } : Jvm.MethodName) jdk_42_method_66_code (3 : Nat) (Option.some Jvm.ClassFile.FieldType.boolean), Jvm.Cond.code ({ cls := "com/example/rowgate/rowgate/Options", name := "all", desc := "(Ljava/lang/String;)Ljava/util/List;" } : Jvm.MethodName) prog_10_method_5_code (2 : Nat) (Option.some (Jvm.ClassFile.FieldType.object "java/util/List")), Jvm.Cond.code ({ cls := "java/util/List", name := "of", desc := "()Ljava/util/List;" } : Jvm.MethodName) jdk_40_method_36_code (0 : Nat) (Option.some (Jvm.ClassFile.FieldType.object "java/util/List")), Jvm.Cond.code ({ cls := "java/util/HashMap", name := "getOrDefault", desc := "(Ljava/lang/Object;Ljava/lang/Object;)Ljava/lang/Object;" } : Jvm.MethodName) jdk_69_method_30_code (4 : Nat) (Option.some (Jvm.ClassFile.FieldType.object "java/lang/Object")), Jvm.Cond.code ({ cls := "java/util/HashMap", name := "getNode", desc := "(Ljava/lang/Object;)Ljava/util/HashMap$Node;" } : Jvm.MethodName) jdk_69_method_13_code (8 : Nat) (Option.some (Jvm.ClassFile.FieldType.object "java/util/HashMap$Node")), Jvm.Cond.code ({ cls := "java/util/ImmutableCollections$ListN", name := "size", desc := "()I" } : Jvm.MethodName) jdk_45_method_3_code (1 : Nat) (Option.some Jvm.ClassFile.FieldType.int), Jvm.Cond.code ({ cls := "jdk/internal/util/ArraysSupport", name := "mismatch", desc := "([BI[BII)I" } : Jvm.MethodName) jdk_48_method_14_code (8 : Nat) (Option.some Jvm.ClassFile.FieldType.int), Jvm.Cond.code ({ cls := "java/lang/String", name := "valueOf", desc := "(C)Ljava/lang/String;" } : Jvm.MethodName) jdk_42_method_139_code (1 : Nat) (Option.some (Jvm.ClassFile.FieldType.object "java/lang/String")), Jvm.Cond.code ({ cls := "java/lang/StringLatin1", name := "canEncode", desc := "(C)Z" } : Jvm.MethodName) jdk_43_method_3_code (1 : Nat) (Option.some Jvm.ClassFile.FieldType.boolean), Jvm.Cond.code ({ cls := "java/lang/StringLatin1", name := "toBytes", desc := "(C)[B" } : Jvm.MethodName) jdk_43_method_46_code (1 : Nat) (Option.some (Jvm.ClassFile.FieldType.array Jvm.ClassFile.FieldType.byte)), Jvm.Cond.code ({ cls := "java/lang/String", name := "<init>", desc := "([BB)V" } : Jvm.MethodName) jdk_42_method_151_code (3 : Nat) (Option.none : Option Jvm.ClassFile.FieldType)]
set_option maxRecDepth 65536 in
theorem codes_eq : words1.filter isCode = codes1 := rfl
theorem w_codes : ∀ c ∈ words1.filter isCode, c.before args0 about1 = true := by
  rw [codes_eq]
  intro c hc
  simp only [codes1, List.mem_cons, List.not_mem_nil, or_false] at hc
  rcases hc with rfl | rfl | rfl | rfl | rfl | rfl | rfl | rfl | rfl | rfl | rfl | rfl | rfl | rfl | rfl | rfl | rfl | rfl | rfl | rfl | rfl | rfl | rfl | rfl | rfl | rfl | rfl | rfl | rfl | rfl | rfl | rfl | rfl | rfl | rfl | rfl | rfl | rfl | rfl | rfl | rfl
  · exact w_c0
  · exact w_c1
  · exact w_c2
  · exact w_c3
  · exact w_c4
  · exact w_c5
  · exact w_c6
  · exact w_c7
  · exact w_c8
  · exact w_c9
  · exact w_c10
  · exact w_c11
  · exact w_c12
  · exact w_c13
  · exact w_c14
  · exact w_c15
  · exact w_c16
  · exact w_c17
  · exact w_c18
  · exact w_c19
  · exact w_c20
  · exact w_c21
  · exact w_c22
  · exact w_c23
  · exact w_c24
  · exact w_c25
  · exact w_c26
  · exact w_c27
  · exact w_c28
  · exact w_c29
  · exact w_c30
  · exact w_c31
  · exact w_c32
  · exact w_c33
  · exact w_c34
  · exact w_c35
  · exact w_c36
  · exact w_c37
  · exact w_c38
  · exact w_c39
  · exact w_c40
set_option maxRecDepth 65536 in
theorem w_t1 : (words1.take 24).all (fun c => isCode c || c.before args0 about1) = true := by decide +kernel
set_option maxRecDepth 65536 in
theorem w_t2 : ((words1.drop 24).take 24).all (fun c => isCode c || c.before args0 about1) = true := by decide +kernel
set_option maxRecDepth 65536 in
theorem w_t3 : (((words1.drop 24).drop 24).take 24).all (fun c => isCode c || c.before args0 about1) = true := by decide +kernel
set_option maxRecDepth 65536 in
theorem w_t4 : ((((words1.drop 24).drop 24).drop 24).take 24).all (fun c => isCode c || c.before args0 about1) = true := by decide +kernel
set_option maxRecDepth 65536 in
theorem w_t5 : (((((words1.drop 24).drop 24).drop 24).drop 24).take 24).all (fun c => isCode c || c.before args0 about1) = true := by decide +kernel
set_option maxRecDepth 65536 in
theorem w_t6 : ((((((words1.drop 24).drop 24).drop 24).drop 24).drop 24).take 24).all (fun c => isCode c || c.before args0 about1) = true := by decide +kernel
set_option maxRecDepth 65536 in
theorem w_t7 : (((((((words1.drop 24).drop 24).drop 24).drop 24).drop 24).drop 24).take 24).all (fun c => isCode c || c.before args0 about1) = true := by decide +kernel
set_option maxRecDepth 65536 in
theorem w_t8 : ((((((((words1.drop 24).drop 24).drop 24).drop 24).drop 24).drop 24).drop 24).take 24).all (fun c => isCode c || c.before args0 about1) = true := by decide +kernel
set_option maxRecDepth 65536 in
theorem w_t9 : (((((((((words1.drop 24).drop 24).drop 24).drop 24).drop 24).drop 24).drop 24).drop 24).take 24).all (fun c => isCode c || c.before args0 about1) = true := by decide +kernel
set_option maxRecDepth 65536 in
theorem w_t10 : ((((((((((words1.drop 24).drop 24).drop 24).drop 24).drop 24).drop 24).drop 24).drop 24).drop 24).take 24).all (fun c => isCode c || c.before args0 about1) = true := by decide +kernel
set_option maxRecDepth 65536 in
theorem w_t11 : ((((((((((words1.drop 24).drop 24).drop 24).drop 24).drop 24).drop 24).drop 24).drop 24).drop 24).drop 24).all (fun c => isCode c || c.before args0 about1) = true := by decide +kernel
theorem w_tables : (allAtoms (Jvm.Cond.code x code maxLocals ret :: tables_1)).before args0 about1 = true := by
  rw [allAtoms_all]
  show words1.all (fun c => c.before args0 about1) = true
  refine all_split ?_ w_codes
  rw [← List.take_append_drop 24 words1, List.all_append, w_t1, ← List.take_append_drop 24 (words1.drop 24), List.all_append, w_t2, ← List.take_append_drop 24 ((words1.drop 24).drop 24), List.all_append, w_t3, ← List.take_append_drop 24 (((words1.drop 24).drop 24).drop 24), List.all_append, w_t4, ← List.take_append_drop 24 ((((words1.drop 24).drop 24).drop 24).drop 24), List.all_append, w_t5, ← List.take_append_drop 24 (((((words1.drop 24).drop 24).drop 24).drop 24).drop 24), List.all_append, w_t6, ← List.take_append_drop 24 ((((((words1.drop 24).drop 24).drop 24).drop 24).drop 24).drop 24), List.all_append, w_t7, ← List.take_append_drop 24 (((((((words1.drop 24).drop 24).drop 24).drop 24).drop 24).drop 24).drop 24), List.all_append, w_t8, ← List.take_append_drop 24 ((((((((words1.drop 24).drop 24).drop 24).drop 24).drop 24).drop 24).drop 24).drop 24), List.all_append, w_t9, ← List.take_append_drop 24 (((((((((words1.drop 24).drop 24).drop 24).drop 24).drop 24).drop 24).drop 24).drop 24).drop 24), List.all_append, w_t10, w_t11]
  rfl
set_option maxRecDepth 65536 in
theorem w_rest : rest_1_c.before args0 about1 = true := by decide +kernel
set_option maxRecDepth 65536 in
theorem w_case : (Jvm.Cond.and given_1 narrow_1).before args0 about1 = true := by decide +kernel
set_option maxRecDepth 65536 in
theorem w_consts : constsHeld consts_1 about1 := Jvm.Lit.constsHeldB_iff.mp (by decide +kernel)
theorem w_applies : (headSpec (Jvm.Cond.code x code maxLocals ret :: tables_1) room_1).applies x e0.platform about1 = true :=
  (Spec.applies_iff w_frames).mpr ⟨w_running, w_runnable, w_alone, w_named, w_hears, w_ripe, w_room, w_tables⟩
theorem atStart : AtStart classFile x code maxLocals ret World_1 tables_1 room_1 Calls_1 rest_1 Pre_1 launch0 p0 e0 about1 theMethod args0 below0 :=
  ⟨lists_1, trivial, launch0.admits_env _ _ _, launch0.least_env, fairChoices_fair.cas, fairChoices_fair.clock, w_frames, w_args, w_heap, w_applies, ⟨w_consts, trivial⟩, w_rest, w_case⟩
end start1
theorem witness_1 : WitnessClaimed_1 := ⟨start1.p0, start1.e0, start1.about1, start1.theMethod, start1.args0, start1.below0, start1.atStart⟩
end Jvm.Pilot.@@N@@
