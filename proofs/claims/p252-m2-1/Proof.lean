import JvmDerived
import JvmDerived.Pilot.@@N@@Statement
import JvmDerived.Pilot.@@N@@Code
set_option linter.unusedVariables false
set_option linter.unusedSimpArgs false
namespace Jvm.Ow
open Sem ClassFile Op Lib Jvm.Stand Jvm.Free Jvm.LawKit Jvm.RoadKit
/-- from S the run goes on to an end that G accepts -/
def Go (tb : Tables) (e : Env) (below : List Frame) (G : Outcome → State → Prop) (S : State) : Prop := ∃ t o, Steps tb e below S t ∧ t.status = .running ∧ Ended t below o ∧ G o t
theorem Go.via {tb : Tables} {e : Env} {below : List Frame} {G : Outcome → State → Prop} {S S' : State} (st : ∀ target, Steps tb e below S' target → Steps tb e below S target) (K : Go tb e below G S') : Go tb e below G S := by
  obtain ⟨t, o, h1, h2⟩ := K
  exact ⟨t, o, st t h1, h2⟩
theorem Go.thru {tb : Tables} {e : Env} {below : List Frame} {G : Outcome → State → Prop} {S S' : State} (st : Steps tb e below S S') (K : Go tb e below G S') : Go tb e below G S := by
  obtain ⟨t, o, h1, h2⟩ := K
  exact ⟨t, o, st.trans h1, h2⟩
section Steps1
variable {p : Program} {l : Launch} {e : Env} {R : Room} {s : State} {m : MethodId} {args : Array Value} {below : List Frame} {meth : Method} {c : Code} {T : State} {locs : List Loc} {cells slots : Nat} {G : Outcome → State → Prop} {pc pc' : Nat} {Ls : Array Slot} {rest : List Value}
theorem aloadN (X : Stand p l e R s m args below meth c T locs cells slots) (hx : p.tables.exec = Jvm.exec) {k : Fin 4} {v : Value} (hd : decode c.code pc = .ok (.aload_n k, 1)) (hl : Ls[k.val]? = some (.val v)) (hv : v.isRef = true) (K : Go p.tables e below G (T.setTop (mkF m (pc + 1) Ls (v :: rest)))) : Go p.tables e below G (T.setTop (mkF m (pc) Ls rest)) := K.via fun _ r => XS.aloadN X.here hx rfl hd hl hv r
theorem aload (X : Stand p l e R s m args below meth c T locs cells slots) (hx : p.tables.exec = Jvm.exec) {k : Nat} {v : Value} (hd : decode c.code pc = .ok (.aload k, 2)) (hl : Ls[k]? = some (.val v)) (hv : v.isRef = true) (K : Go p.tables e below G (T.setTop (mkF m (pc + 2) Ls (v :: rest)))) : Go p.tables e below G (T.setTop (mkF m (pc) Ls rest)) := K.via fun _ r => XS.aload X.here hx rfl hd hl hv r
theorem iloadN (X : Stand p l e R s m args below meth c T locs cells slots) (hx : p.tables.exec = Jvm.exec) {k : Fin 4} {v : Int32} (hd : decode c.code pc = .ok (.iload_n k, 1)) (hl : Ls[k.val]? = some (.val (.int v))) (K : Go p.tables e below G (T.setTop (mkF m (pc + 1) Ls (.int v :: rest)))) : Go p.tables e below G (T.setTop (mkF m (pc) Ls rest)) := K.via fun _ r => XS.iloadN X.here hx rfl hd hl r
theorem iload (X : Stand p l e R s m args below meth c T locs cells slots) (hx : p.tables.exec = Jvm.exec) {k : Nat} {v : Int32} (hd : decode c.code pc = .ok (.iload k, 2)) (hl : Ls[k]? = some (.val (.int v))) (K : Go p.tables e below G (T.setTop (mkF m (pc + 2) Ls (.int v :: rest)))) : Go p.tables e below G (T.setTop (mkF m (pc) Ls rest)) := K.via fun _ r => XS.iload X.here hx rfl hd hl r
theorem lloadN (X : Stand p l e R s m args below meth c T locs cells slots) (hx : p.tables.exec = Jvm.exec) {k : Fin 4} {v : Int64} (hd : decode c.code pc = .ok (.lload_n k, 1)) (hl : Ls[k.val]? = some (.val (.long v))) (K : Go p.tables e below G (T.setTop (mkF m (pc + 1) Ls (.long v :: rest)))) : Go p.tables e below G (T.setTop (mkF m (pc) Ls rest)) := K.via fun _ r => XT.lloadN X.here hx rfl hd hl r
theorem lload (X : Stand p l e R s m args below meth c T locs cells slots) (hx : p.tables.exec = Jvm.exec) {k : Nat} {v : Int64} (hd : decode c.code pc = .ok (.lload k, 2)) (hl : Ls[k]? = some (.val (.long v))) (K : Go p.tables e below G (T.setTop (mkF m (pc + 2) Ls (.long v :: rest)))) : Go p.tables e below G (T.setTop (mkF m (pc) Ls rest)) := K.via fun _ r => XT.lload X.here hx rfl hd hl r
theorem iconst (X : Stand p l e R s m args below meth c T locs cells slots) (hx : p.tables.exec = Jvm.exec) {i : Int} (v : Int32) (hd : decode c.code pc = .ok (.iconst i, 1)) (hv : Int32.ofInt i = v) (K : Go p.tables e below G (T.setTop (mkF m (pc + 1) Ls (.int v :: rest)))) : Go p.tables e below G (T.setTop (mkF m (pc) Ls rest)) := K.via fun _ r => XT.iconstV X.here hx rfl v hd hv r
theorem bipush (X : Stand p l e R s m args below meth c T locs cells slots) (hx : p.tables.exec = Jvm.exec) {i : Int} (v : Int32) (hd : decode c.code pc = .ok (.bipush i, 2)) (hv : (Int8.ofInt i).toInt32 = v) (K : Go p.tables e below G (T.setTop (mkF m (pc + 2) Ls (.int v :: rest)))) : Go p.tables e below G (T.setTop (mkF m (pc) Ls rest)) := K.via fun _ r => XT.bipushV X.here hx rfl v hd hv r
theorem sipush (X : Stand p l e R s m args below meth c T locs cells slots) (hx : p.tables.exec = Jvm.exec) {i : Int} (v : Int32) (hd : decode c.code pc = .ok (.sipush i, 3)) (hv : (Int16.ofInt i).toInt32 = v) (K : Go p.tables e below G (T.setTop (mkF m (pc + 3) Ls (.int v :: rest)))) : Go p.tables e below G (T.setTop (mkF m (pc) Ls rest)) := K.via fun _ r => XT.sipushV X.here hx rfl v hd hv r
theorem lconst (X : Stand p l e R s m args below meth c T locs cells slots) (hx : p.tables.exec = Jvm.exec) {k : Fin 2} (v : Int64) (hd : decode c.code pc = .ok (.lconst k, 1)) (hv : Int64.ofNat k = v) (K : Go p.tables e below G (T.setTop (mkF m (pc + 1) Ls (.long v :: rest)))) : Go p.tables e below G (T.setTop (mkF m (pc) Ls rest)) := K.via fun _ r => XT.lconstV X.here hx rfl v hd hv r
theorem aconst_null (X : Stand p l e R s m args below meth c T locs cells slots) (hx : p.tables.exec = Jvm.exec)  (hd : decode c.code pc = .ok (.aconst_null, 1))  (K : Go p.tables e below G (T.setTop (mkF m (pc + 1) Ls (.null :: rest)))) : Go p.tables e below G (T.setTop (mkF m (pc) Ls rest)) := K.via fun _ r => XS.aconstNull X.here hx rfl hd r
theorem ldcI (X : Stand p l e R s m args below meth c T locs cells slots) (hx : p.tables.exec = Jvm.exec) {own : String} {index : Nat} (v : Int32) (hd : decode c.code pc = .ok (.ldc index, 2)) (hown : s.vm.findClass own = some m.cls) (hc : (Cond.constant own index v).before args s = true) (K : Go p.tables e below G (T.setTop (mkF m (pc + 2) Ls (.int v :: rest)))) : Go p.tables e below G (T.setTop (mkF m (pc) Ls rest)) := K.via fun _ r => X.ldcI hx hown hc rfl hd r
theorem ldcWI (X : Stand p l e R s m args below meth c T locs cells slots) (hx : p.tables.exec = Jvm.exec) {own : String} {index : Nat} (v : Int32) (hd : decode c.code pc = .ok (.ldc_w index, 3)) (hown : s.vm.findClass own = some m.cls) (hc : (Cond.constant own index v).before args s = true) (K : Go p.tables e below G (T.setTop (mkF m (pc + 3) Ls (.int v :: rest)))) : Go p.tables e below G (T.setTop (mkF m (pc) Ls rest)) := K.via fun _ r => X.ldcWI hx hown hc rfl hd r
theorem ldc2J (X : Stand p l e R s m args below meth c T locs cells slots) (hx : p.tables.exec = Jvm.exec) {own : String} {index : Nat} (v : Int64) (hd : decode c.code pc = .ok (.ldc2_w index, 3)) (hown : s.vm.findClass own = some m.cls) (hc : (Cond.constantLong own index v).before args s = true) (K : Go p.tables e below G (T.setTop (mkF m (pc + 3) Ls (.long v :: rest)))) : Go p.tables e below G (T.setTop (mkF m (pc) Ls rest)) := K.via fun _ r => X.ldc2J hx hown hc rfl hd r
theorem iadd (X : Stand p l e R s m args below meth c T locs cells slots) (hx : p.tables.exec = Jvm.exec) {x y : Int32} (hd : decode c.code pc = .ok (.iadd, 1))  (K : Go p.tables e below G (T.setTop (mkF m (pc + 1) Ls (.int (x + y) :: rest)))) : Go p.tables e below G (T.setTop (mkF m (pc) Ls (.int y :: .int x :: rest))) := K.via fun _ r => XS.iadd X.here hx rfl hd rfl r
theorem isub (X : Stand p l e R s m args below meth c T locs cells slots) (hx : p.tables.exec = Jvm.exec) {x y : Int32} (hd : decode c.code pc = .ok (.isub, 1))  (K : Go p.tables e below G (T.setTop (mkF m (pc + 1) Ls (.int (x - y) :: rest)))) : Go p.tables e below G (T.setTop (mkF m (pc) Ls (.int y :: .int x :: rest))) := K.via fun _ r => XS.isub X.here hx rfl hd rfl r
theorem iand (X : Stand p l e R s m args below meth c T locs cells slots) (hx : p.tables.exec = Jvm.exec) {x y : Int32} (hd : decode c.code pc = .ok (.iand, 1))  (K : Go p.tables e below G (T.setTop (mkF m (pc + 1) Ls (.int (x &&& y) :: rest)))) : Go p.tables e below G (T.setTop (mkF m (pc) Ls (.int y :: .int x :: rest))) := K.via fun _ r => XS.iand X.here hx rfl hd rfl r
theorem imul (X : Stand p l e R s m args below meth c T locs cells slots) (hx : p.tables.exec = Jvm.exec) {x y : Int32} (hd : decode c.code pc = .ok (.imul, 1))  (K : Go p.tables e below G (T.setTop (mkF m (pc + 1) Ls (.int (x * y) :: rest)))) : Go p.tables e below G (T.setTop (mkF m (pc) Ls (.int y :: .int x :: rest))) := K.via fun _ r => XS.imul X.here hx rfl hd rfl r
theorem ixor (X : Stand p l e R s m args below meth c T locs cells slots) (hx : p.tables.exec = Jvm.exec) {x y : Int32} (hd : decode c.code pc = .ok (.ixor, 1))  (K : Go p.tables e below G (T.setTop (mkF m (pc + 1) Ls (.int (x ^^^ y) :: rest)))) : Go p.tables e below G (T.setTop (mkF m (pc) Ls (.int y :: .int x :: rest))) := K.via fun _ r => XT.ixor X.here hx rfl hd rfl r
theorem ior (X : Stand p l e R s m args below meth c T locs cells slots) (hx : p.tables.exec = Jvm.exec) {x y : Int32} (hd : decode c.code pc = .ok (.ior, 1))  (K : Go p.tables e below G (T.setTop (mkF m (pc + 1) Ls (.int (x ||| y) :: rest)))) : Go p.tables e below G (T.setTop (mkF m (pc) Ls (.int y :: .int x :: rest))) := K.via fun _ r => XT.ior X.here hx rfl hd rfl r
theorem ishl (X : Stand p l e R s m args below meth c T locs cells slots) (hx : p.tables.exec = Jvm.exec) {x y : Int32} (hd : decode c.code pc = .ok (.ishl, 1))  (K : Go p.tables e below G (T.setTop (mkF m (pc + 1) Ls (.int (x <<< (y &&& 31)) :: rest)))) : Go p.tables e below G (T.setTop (mkF m (pc) Ls (.int y :: .int x :: rest))) := K.via fun _ r => XT.ishl X.here hx rfl hd rfl r
theorem ishr (X : Stand p l e R s m args below meth c T locs cells slots) (hx : p.tables.exec = Jvm.exec) {x y : Int32} (hd : decode c.code pc = .ok (.ishr, 1))  (K : Go p.tables e below G (T.setTop (mkF m (pc + 1) Ls (.int (x >>> (y &&& 31)) :: rest)))) : Go p.tables e below G (T.setTop (mkF m (pc) Ls (.int y :: .int x :: rest))) := K.via fun _ r => XT.ishr X.here hx rfl hd rfl r
theorem iushr (X : Stand p l e R s m args below meth c T locs cells slots) (hx : p.tables.exec = Jvm.exec) {x y : Int32} (hd : decode c.code pc = .ok (.iushr, 1))  (K : Go p.tables e below G (T.setTop (mkF m (pc + 1) Ls (.int (XT.ushr x y) :: rest)))) : Go p.tables e below G (T.setTop (mkF m (pc) Ls (.int y :: .int x :: rest))) := K.via fun _ r => XT.iushr X.here hx rfl hd rfl r
theorem idiv (X : Stand p l e R s m args below meth c T locs cells slots) (hx : p.tables.exec = Jvm.exec) {x y : Int32} (hd : decode c.code pc = .ok (.idiv, 1)) (hy : y ≠ 0) (K : Go p.tables e below G (T.setTop (mkF m (pc + 1) Ls (.int (x / y) :: rest)))) : Go p.tables e below G (T.setTop (mkF m (pc) Ls (.int y :: .int x :: rest))) := K.via fun _ r => XS.idiv X.here hx rfl hd rfl hy r
theorem irem (X : Stand p l e R s m args below meth c T locs cells slots) (hx : p.tables.exec = Jvm.exec) {x y : Int32} (hd : decode c.code pc = .ok (.irem, 1)) (hy : y ≠ 0) (K : Go p.tables e below G (T.setTop (mkF m (pc + 1) Ls (.int (x % y) :: rest)))) : Go p.tables e below G (T.setTop (mkF m (pc) Ls (.int y :: .int x :: rest))) := K.via fun _ r => RoadKit.iremM X hx rfl hd rfl hy r
theorem ineg (X : Stand p l e R s m args below meth c T locs cells slots) (hx : p.tables.exec = Jvm.exec) {x : Int32} (hd : decode c.code pc = .ok (.ineg, 1))  (K : Go p.tables e below G (T.setTop (mkF m (pc + 1) Ls (.int (-x) :: rest)))) : Go p.tables e below G (T.setTop (mkF m (pc) Ls (.int x :: rest))) := K.via fun _ r => XS.ineg X.here hx rfl hd rfl r
theorem ladd (X : Stand p l e R s m args below meth c T locs cells slots) (hx : p.tables.exec = Jvm.exec) {x y : Int64} (hd : decode c.code pc = .ok (.ladd, 1))  (K : Go p.tables e below G (T.setTop (mkF m (pc + 1) Ls (.long (x + y) :: rest)))) : Go p.tables e below G (T.setTop (mkF m (pc) Ls (.long y :: .long x :: rest))) := K.via fun _ r => XT.ladd X.here hx rfl hd rfl r
theorem lsub (X : Stand p l e R s m args below meth c T locs cells slots) (hx : p.tables.exec = Jvm.exec) {x y : Int64} (hd : decode c.code pc = .ok (.lsub, 1))  (K : Go p.tables e below G (T.setTop (mkF m (pc + 1) Ls (.long (x - y) :: rest)))) : Go p.tables e below G (T.setTop (mkF m (pc) Ls (.long y :: .long x :: rest))) := K.via fun _ r => XT.lsub X.here hx rfl hd rfl r
theorem lmul (X : Stand p l e R s m args below meth c T locs cells slots) (hx : p.tables.exec = Jvm.exec) {x y : Int64} (hd : decode c.code pc = .ok (.lmul, 1))  (K : Go p.tables e below G (T.setTop (mkF m (pc + 1) Ls (.long (x * y) :: rest)))) : Go p.tables e below G (T.setTop (mkF m (pc) Ls (.long y :: .long x :: rest))) := K.via fun _ r => XT.lmul X.here hx rfl hd rfl r
theorem land (X : Stand p l e R s m args below meth c T locs cells slots) (hx : p.tables.exec = Jvm.exec) {x y : Int64} (hd : decode c.code pc = .ok (.land, 1))  (K : Go p.tables e below G (T.setTop (mkF m (pc + 1) Ls (.long (x &&& y) :: rest)))) : Go p.tables e below G (T.setTop (mkF m (pc) Ls (.long y :: .long x :: rest))) := K.via fun _ r => XT.land X.here hx rfl hd rfl r
theorem lor (X : Stand p l e R s m args below meth c T locs cells slots) (hx : p.tables.exec = Jvm.exec) {x y : Int64} (hd : decode c.code pc = .ok (.lor, 1))  (K : Go p.tables e below G (T.setTop (mkF m (pc + 1) Ls (.long (x ||| y) :: rest)))) : Go p.tables e below G (T.setTop (mkF m (pc) Ls (.long y :: .long x :: rest))) := K.via fun _ r => XT.lor X.here hx rfl hd rfl r
theorem lxor (X : Stand p l e R s m args below meth c T locs cells slots) (hx : p.tables.exec = Jvm.exec) {x y : Int64} (hd : decode c.code pc = .ok (.lxor, 1))  (K : Go p.tables e below G (T.setTop (mkF m (pc + 1) Ls (.long (x ^^^ y) :: rest)))) : Go p.tables e below G (T.setTop (mkF m (pc) Ls (.long y :: .long x :: rest))) := K.via fun _ r => XT.lxor X.here hx rfl hd rfl r
theorem ldiv (X : Stand p l e R s m args below meth c T locs cells slots) (hx : p.tables.exec = Jvm.exec) {x y : Int64} (hd : decode c.code pc = .ok (.ldiv, 1)) (hy : y ≠ 0) (K : Go p.tables e below G (T.setTop (mkF m (pc + 1) Ls (.long (x / y) :: rest)))) : Go p.tables e below G (T.setTop (mkF m (pc) Ls (.long y :: .long x :: rest))) := K.via fun _ r => XT.ldiv X.here hx rfl hd rfl hy r
theorem lrem (X : Stand p l e R s m args below meth c T locs cells slots) (hx : p.tables.exec = Jvm.exec) {x y : Int64} (hd : decode c.code pc = .ok (.lrem, 1)) (hy : y ≠ 0) (K : Go p.tables e below G (T.setTop (mkF m (pc + 1) Ls (.long (x - (x / y) * y) :: rest)))) : Go p.tables e below G (T.setTop (mkF m (pc) Ls (.long y :: .long x :: rest))) := K.via fun _ r => XT.lrem X.here hx rfl hd rfl hy r
theorem lshl (X : Stand p l e R s m args below meth c T locs cells slots) (hx : p.tables.exec = Jvm.exec) {x : Int64} {y : Int32} (hd : decode c.code pc = .ok (.lshl, 1))  (K : Go p.tables e below G (T.setTop (mkF m (pc + 1) Ls (.long (x <<< (y.toInt64 &&& 63)) :: rest)))) : Go p.tables e below G (T.setTop (mkF m (pc) Ls (.int y :: .long x :: rest))) := K.via fun _ r => XT.lshl X.here hx rfl hd rfl r
theorem lshr (X : Stand p l e R s m args below meth c T locs cells slots) (hx : p.tables.exec = Jvm.exec) {x : Int64} {y : Int32} (hd : decode c.code pc = .ok (.lshr, 1))  (K : Go p.tables e below G (T.setTop (mkF m (pc + 1) Ls (.long (x >>> (y.toInt64 &&& 63)) :: rest)))) : Go p.tables e below G (T.setTop (mkF m (pc) Ls (.int y :: .long x :: rest))) := K.via fun _ r => XT.lshr X.here hx rfl hd rfl r
theorem lushr (X : Stand p l e R s m args below meth c T locs cells slots) (hx : p.tables.exec = Jvm.exec) {x : Int64} {y : Int32} (hd : decode c.code pc = .ok (.lushr, 1))  (K : Go p.tables e below G (T.setTop (mkF m (pc + 1) Ls (.long (XT.ushrL x y) :: rest)))) : Go p.tables e below G (T.setTop (mkF m (pc) Ls (.int y :: .long x :: rest))) := K.via fun _ r => XT.lushr X.here hx rfl hd rfl r
theorem lneg (X : Stand p l e R s m args below meth c T locs cells slots) (hx : p.tables.exec = Jvm.exec) {x : Int64} (hd : decode c.code pc = .ok (.lneg, 1))  (K : Go p.tables e below G (T.setTop (mkF m (pc + 1) Ls (.long (-x) :: rest)))) : Go p.tables e below G (T.setTop (mkF m (pc) Ls (.long x :: rest))) := K.via fun _ r => XT.lneg X.here hx rfl hd rfl r
theorem lcmp (X : Stand p l e R s m args below meth c T locs cells slots) (hx : p.tables.exec = Jvm.exec) {x y : Int64} (hd : decode c.code pc = .ok (.lcmp, 1))  (K : Go p.tables e below G (T.setTop (mkF m (pc + 1) Ls (.int (XT.cmpL x y) :: rest)))) : Go p.tables e below G (T.setTop (mkF m (pc) Ls (.long y :: .long x :: rest))) := K.via fun _ r => XT.lcmp X.here hx rfl hd rfl r
theorem i2l (X : Stand p l e R s m args below meth c T locs cells slots) (hx : p.tables.exec = Jvm.exec) {x : Int32} (hd : decode c.code pc = .ok (.i2l, 1))  (K : Go p.tables e below G (T.setTop (mkF m (pc + 1) Ls (.long (x.toInt64) :: rest)))) : Go p.tables e below G (T.setTop (mkF m (pc) Ls (.int x :: rest))) := K.via fun _ r => XT.i2l X.here hx rfl hd rfl r
theorem l2i (X : Stand p l e R s m args below meth c T locs cells slots) (hx : p.tables.exec = Jvm.exec) {x : Int64} (hd : decode c.code pc = .ok (.l2i, 1))  (K : Go p.tables e below G (T.setTop (mkF m (pc + 1) Ls (.int (x.toInt32) :: rest)))) : Go p.tables e below G (T.setTop (mkF m (pc) Ls (.long x :: rest))) := K.via fun _ r => XT.l2i X.here hx rfl hd rfl r
theorem i2b (X : Stand p l e R s m args below meth c T locs cells slots) (hx : p.tables.exec = Jvm.exec) {x : Int32} (hd : decode c.code pc = .ok (.i2b, 1))  (K : Go p.tables e below G (T.setTop (mkF m (pc + 1) Ls (.int (x.toInt8.toInt32) :: rest)))) : Go p.tables e below G (T.setTop (mkF m (pc) Ls (.int x :: rest))) := K.via fun _ r => XT.i2b X.here hx rfl hd rfl r
theorem i2c (X : Stand p l e R s m args below meth c T locs cells slots) (hx : p.tables.exec = Jvm.exec) {x : Int32} (hd : decode c.code pc = .ok (.i2c, 1))  (K : Go p.tables e below G (T.setTop (mkF m (pc + 1) Ls (.int (x.toUInt32.toUInt16.toUInt32.toInt32) :: rest)))) : Go p.tables e below G (T.setTop (mkF m (pc) Ls (.int x :: rest))) := K.via fun _ r => XT.i2c X.here hx rfl hd rfl r
theorem i2s (X : Stand p l e R s m args below meth c T locs cells slots) (hx : p.tables.exec = Jvm.exec) {x : Int32} (hd : decode c.code pc = .ok (.i2s, 1))  (K : Go p.tables e below G (T.setTop (mkF m (pc + 1) Ls (.int (x.toInt16.toInt32) :: rest)))) : Go p.tables e below G (T.setTop (mkF m (pc) Ls (.int x :: rest))) := K.via fun _ r => XT.i2s X.here hx rfl hd rfl r
theorem dup (X : Stand p l e R s m args below meth c T locs cells slots) (hx : p.tables.exec = Jvm.exec) {v : Value} (hd : decode c.code pc = .ok (.dup, 1)) (hv : v.category = 1) (K : Go p.tables e below G (T.setTop (mkF m (pc + 1) Ls (v :: v :: rest)))) : Go p.tables e below G (T.setTop (mkF m (pc) Ls (v :: rest))) := K.via fun _ r => XS.dup X.here hx rfl hd rfl hv r
theorem pop (X : Stand p l e R s m args below meth c T locs cells slots) (hx : p.tables.exec = Jvm.exec) {v : Value} (hd : decode c.code pc = .ok (.pop, 1)) (hv : v.category = 1) (K : Go p.tables e below G (T.setTop (mkF m (pc + 1) Ls rest))) : Go p.tables e below G (T.setTop (mkF m (pc) Ls (v :: rest))) := K.via fun _ r => XT.pop X.here hx rfl hd rfl hv r
theorem dup_x1 (X : Stand p l e R s m args below meth c T locs cells slots) (hx : p.tables.exec = Jvm.exec) {v w : Value} (hd : decode c.code pc = .ok (.dup_x1, 1)) (hv : v.category = 1) (hw : w.category = 1) (K : Go p.tables e below G (T.setTop (mkF m (pc + 1) Ls (v :: w :: v :: rest)))) : Go p.tables e below G (T.setTop (mkF m (pc) Ls (v :: w :: rest))) := K.via fun _ r => XT.dupX1 X.here hx rfl hd rfl hv hw r
theorem dup2 (X : Stand p l e R s m args below meth c T locs cells slots) (hx : p.tables.exec = Jvm.exec) {v w : Value} (hd : decode c.code pc = .ok (.dup2, 1)) (hv : v.category = 1) (hw : w.category = 1) (K : Go p.tables e below G (T.setTop (mkF m (pc + 1) Ls (v :: w :: v :: w :: rest)))) : Go p.tables e below G (T.setTop (mkF m (pc) Ls (v :: w :: rest))) := K.via fun _ r => XT.dup2 X.here hx rfl hd rfl hv hw r
theorem dup2L (X : Stand p l e R s m args below meth c T locs cells slots) (hx : p.tables.exec = Jvm.exec) {x : Int64} (hd : decode c.code pc = .ok (.dup2, 1))  (K : Go p.tables e below G (T.setTop (mkF m (pc + 1) Ls (.long x :: .long x :: rest)))) : Go p.tables e below G (T.setTop (mkF m (pc) Ls (.long x :: rest))) := K.via fun _ r => XT.dup2L X.here hx rfl hd rfl r
theorem istoreN (X : Stand p l e R s m args below meth c T locs cells slots) (hx : p.tables.exec = Jvm.exec) {k : Fin 4} {x : Int32} (L2 : Array Slot) (hd : decode c.code pc = .ok (.istore_n k, 1))  (hl : storeLocals Ls k.val (.int x) = some L2) (K : Go p.tables e below G (T.setTop (mkF m (pc + 1) L2 rest))) : Go p.tables e below G (T.setTop (mkF m (pc) Ls ((.int x) :: rest))) := K.via fun _ r => XS.istoreN X.here hx rfl hd rfl hl r
theorem istore (X : Stand p l e R s m args below meth c T locs cells slots) (hx : p.tables.exec = Jvm.exec) {k : Nat} {x : Int32} (L2 : Array Slot) (hd : decode c.code pc = .ok (.istore k, 2))  (hl : storeLocals Ls k (.int x) = some L2) (K : Go p.tables e below G (T.setTop (mkF m (pc + 2) L2 rest))) : Go p.tables e below G (T.setTop (mkF m (pc) Ls ((.int x) :: rest))) := K.via fun _ r => XS.istore X.here hx rfl hd rfl hl r
theorem astoreN (X : Stand p l e R s m args below meth c T locs cells slots) (hx : p.tables.exec = Jvm.exec) {k : Fin 4} {v : Value} (L2 : Array Slot) (hd : decode c.code pc = .ok (.astore_n k, 1)) (hv : v.isRef = true) (hl : storeLocals Ls k.val v = some L2) (K : Go p.tables e below G (T.setTop (mkF m (pc + 1) L2 rest))) : Go p.tables e below G (T.setTop (mkF m (pc) Ls (v :: rest))) := K.via fun _ r => XS.astoreN X.here hx rfl hd rfl hv hl r
theorem astore (X : Stand p l e R s m args below meth c T locs cells slots) (hx : p.tables.exec = Jvm.exec) {k : Nat} {v : Value} (L2 : Array Slot) (hd : decode c.code pc = .ok (.astore k, 2)) (hv : v.isRef = true) (hl : storeLocals Ls k v = some L2) (K : Go p.tables e below G (T.setTop (mkF m (pc + 2) L2 rest))) : Go p.tables e below G (T.setTop (mkF m (pc) Ls (v :: rest))) := K.via fun _ r => XS.astore X.here hx rfl hd rfl hv hl r
theorem lstoreN (X : Stand p l e R s m args below meth c T locs cells slots) (hx : p.tables.exec = Jvm.exec) {k : Fin 4} {x : Int64} (L2 : Array Slot) (hd : decode c.code pc = .ok (.lstore_n k, 1))  (hl : storeLocals Ls k.val (.long x) = some L2) (K : Go p.tables e below G (T.setTop (mkF m (pc + 1) L2 rest))) : Go p.tables e below G (T.setTop (mkF m (pc) Ls ((.long x) :: rest))) := K.via fun _ r => XT.lstoreN X.here hx rfl hd rfl hl r
theorem lstore (X : Stand p l e R s m args below meth c T locs cells slots) (hx : p.tables.exec = Jvm.exec) {k : Nat} {x : Int64} (L2 : Array Slot) (hd : decode c.code pc = .ok (.lstore k, 2))  (hl : storeLocals Ls k (.long x) = some L2) (K : Go p.tables e below G (T.setTop (mkF m (pc + 2) L2 rest))) : Go p.tables e below G (T.setTop (mkF m (pc) Ls ((.long x) :: rest))) := K.via fun _ r => XT.lstore X.here hx rfl hd rfl hl r
theorem iinc (X : Stand p l e R s m args below meth c T locs cells slots) (hx : p.tables.exec = Jvm.exec) {k : Nat} {cst : Int} {x : Int32} (v : Int32) (L2 : Array Slot) (hd : decode c.code pc = .ok (.iinc k cst, 3)) (hv : Int32.ofInt cst = v) (hl : Ls[k]? = some (.val (.int x))) (hl' : storeLocals Ls k (.int (x + v)) = some L2) (K : Go p.tables e below G (T.setTop (mkF m (pc + 3) L2 rest))) : Go p.tables e below G (T.setTop (mkF m (pc) Ls rest)) := K.via fun _ r => XT.iincV X.here hx rfl v hd hv hl hl' r
theorem goto (X : Stand p l e R s m args below meth c T locs cells slots) (hx : p.tables.exec = Jvm.exec) {o : Int} (hd : decode c.code pc = .ok (.goto o, 3)) (ho : 0 ≤ (pc : Int) + o) (hp : ((pc : Int) + o).toNat = pc') (K : Go p.tables e below G (T.setTop (mkF m (pc') Ls rest))) : Go p.tables e below G (T.setTop (mkF m (pc) Ls rest)) := K.via fun _ r => XS.goto X.here hx rfl rfl hd ho hp r
theorem if_eq (X : Stand p l e R s m args below meth c T locs cells slots) (hx : p.tables.exec = Jvm.exec) {x : Int32} {o : Int} (hd : decode c.code pc = .ok (.ifCond .eq o, 3)) (ho : 0 ≤ (pc : Int) + o) (hp : ((pc : Int) + o).toNat = pc') (KT : x = 0 → Go p.tables e below G (T.setTop (mkF m (pc') Ls rest))) (KF : ¬ x = 0 → Go p.tables e below G (T.setTop (mkF m (pc + 3) Ls rest))) : Go p.tables e below G (T.setTop (mkF m (pc) Ls (.int x :: rest))) := by
  by_cases h : x = 0
  · exact (KT h).via fun _ r => XS.ifYes X.here hx rfl rfl hd rfl (XT.i0_eq_t h) ho hp r
  · exact (KF h).via fun _ r => XS.ifNo X.here hx rfl hd rfl (XT.i0_eq_f h) r
theorem if_ne (X : Stand p l e R s m args below meth c T locs cells slots) (hx : p.tables.exec = Jvm.exec) {x : Int32} {o : Int} (hd : decode c.code pc = .ok (.ifCond .ne o, 3)) (ho : 0 ≤ (pc : Int) + o) (hp : ((pc : Int) + o).toNat = pc') (KT : ¬ x = 0 → Go p.tables e below G (T.setTop (mkF m (pc') Ls rest))) (KF : x = 0 → Go p.tables e below G (T.setTop (mkF m (pc + 3) Ls rest))) : Go p.tables e below G (T.setTop (mkF m (pc) Ls (.int x :: rest))) := by
  by_cases h : x = 0
  · exact (KF h).via fun _ r => XS.ifNo X.here hx rfl hd rfl (XT.i0_ne_f h) r
  · exact (KT h).via fun _ r => XS.ifYes X.here hx rfl rfl hd rfl (XT.i0_ne_t h) ho hp r
theorem if_lt (X : Stand p l e R s m args below meth c T locs cells slots) (hx : p.tables.exec = Jvm.exec) {x : Int32} {o : Int} (hd : decode c.code pc = .ok (.ifCond .lt o, 3)) (ho : 0 ≤ (pc : Int) + o) (hp : ((pc : Int) + o).toNat = pc') (KT : x < 0 → Go p.tables e below G (T.setTop (mkF m (pc') Ls rest))) (KF : ¬ x < 0 → Go p.tables e below G (T.setTop (mkF m (pc + 3) Ls rest))) : Go p.tables e below G (T.setTop (mkF m (pc) Ls (.int x :: rest))) := by
  by_cases h : x < 0
  · exact (KT h).via fun _ r => XS.ifYes X.here hx rfl rfl hd rfl (XT.i0_lt_t h) ho hp r
  · exact (KF h).via fun _ r => XS.ifNo X.here hx rfl hd rfl (XT.i0_lt_f h) r
theorem if_ge (X : Stand p l e R s m args below meth c T locs cells slots) (hx : p.tables.exec = Jvm.exec) {x : Int32} {o : Int} (hd : decode c.code pc = .ok (.ifCond .ge o, 3)) (ho : 0 ≤ (pc : Int) + o) (hp : ((pc : Int) + o).toNat = pc') (KT : ¬ x < 0 → Go p.tables e below G (T.setTop (mkF m (pc') Ls rest))) (KF : x < 0 → Go p.tables e below G (T.setTop (mkF m (pc + 3) Ls rest))) : Go p.tables e below G (T.setTop (mkF m (pc) Ls (.int x :: rest))) := by
  by_cases h : x < 0
  · exact (KF h).via fun _ r => XS.ifNo X.here hx rfl hd rfl (XT.i0_ge_f h) r
  · exact (KT h).via fun _ r => XS.ifYes X.here hx rfl rfl hd rfl (XT.i0_ge_t h) ho hp r
theorem if_gt (X : Stand p l e R s m args below meth c T locs cells slots) (hx : p.tables.exec = Jvm.exec) {x : Int32} {o : Int} (hd : decode c.code pc = .ok (.ifCond .gt o, 3)) (ho : 0 ≤ (pc : Int) + o) (hp : ((pc : Int) + o).toNat = pc') (KT : 0 < x → Go p.tables e below G (T.setTop (mkF m (pc') Ls rest))) (KF : ¬ 0 < x → Go p.tables e below G (T.setTop (mkF m (pc + 3) Ls rest))) : Go p.tables e below G (T.setTop (mkF m (pc) Ls (.int x :: rest))) := by
  by_cases h : 0 < x
  · exact (KT h).via fun _ r => XS.ifYes X.here hx rfl rfl hd rfl (XT.i0_gt_t h) ho hp r
  · exact (KF h).via fun _ r => XS.ifNo X.here hx rfl hd rfl (XT.i0_gt_f h) r
theorem if_le (X : Stand p l e R s m args below meth c T locs cells slots) (hx : p.tables.exec = Jvm.exec) {x : Int32} {o : Int} (hd : decode c.code pc = .ok (.ifCond .le o, 3)) (ho : 0 ≤ (pc : Int) + o) (hp : ((pc : Int) + o).toNat = pc') (KT : ¬ 0 < x → Go p.tables e below G (T.setTop (mkF m (pc') Ls rest))) (KF : 0 < x → Go p.tables e below G (T.setTop (mkF m (pc + 3) Ls rest))) : Go p.tables e below G (T.setTop (mkF m (pc) Ls (.int x :: rest))) := by
  by_cases h : 0 < x
  · exact (KF h).via fun _ r => XS.ifNo X.here hx rfl hd rfl (XT.i0_le_f h) r
  · exact (KT h).via fun _ r => XS.ifYes X.here hx rfl rfl hd rfl (XT.i0_le_t h) ho hp r
theorem icmp_eq (X : Stand p l e R s m args below meth c T locs cells slots) (hx : p.tables.exec = Jvm.exec) {x y : Int32} {o : Int} (hd : decode c.code pc = .ok (.if_icmp .eq o, 3)) (ho : 0 ≤ (pc : Int) + o) (hp : ((pc : Int) + o).toNat = pc') (KT : x = y → Go p.tables e below G (T.setTop (mkF m (pc') Ls rest))) (KF : ¬ x = y → Go p.tables e below G (T.setTop (mkF m (pc + 3) Ls rest))) : Go p.tables e below G (T.setTop (mkF m (pc) Ls (.int y :: .int x :: rest))) := by
  by_cases h : x = y
  · exact (KT h).via fun _ r => XS.icmpYes X.here hx rfl rfl hd rfl (XT.ii_eq_t h) ho hp r
  · exact (KF h).via fun _ r => XS.icmpNo X.here hx rfl hd rfl (XT.ii_eq_f h) r
theorem icmp_ne (X : Stand p l e R s m args below meth c T locs cells slots) (hx : p.tables.exec = Jvm.exec) {x y : Int32} {o : Int} (hd : decode c.code pc = .ok (.if_icmp .ne o, 3)) (ho : 0 ≤ (pc : Int) + o) (hp : ((pc : Int) + o).toNat = pc') (KT : ¬ x = y → Go p.tables e below G (T.setTop (mkF m (pc') Ls rest))) (KF : x = y → Go p.tables e below G (T.setTop (mkF m (pc + 3) Ls rest))) : Go p.tables e below G (T.setTop (mkF m (pc) Ls (.int y :: .int x :: rest))) := by
  by_cases h : x = y
  · exact (KF h).via fun _ r => XS.icmpNo X.here hx rfl hd rfl (XT.ii_ne_f h) r
  · exact (KT h).via fun _ r => XS.icmpYes X.here hx rfl rfl hd rfl (XT.ii_ne_t h) ho hp r
theorem icmp_lt (X : Stand p l e R s m args below meth c T locs cells slots) (hx : p.tables.exec = Jvm.exec) {x y : Int32} {o : Int} (hd : decode c.code pc = .ok (.if_icmp .lt o, 3)) (ho : 0 ≤ (pc : Int) + o) (hp : ((pc : Int) + o).toNat = pc') (KT : x < y → Go p.tables e below G (T.setTop (mkF m (pc') Ls rest))) (KF : ¬ x < y → Go p.tables e below G (T.setTop (mkF m (pc + 3) Ls rest))) : Go p.tables e below G (T.setTop (mkF m (pc) Ls (.int y :: .int x :: rest))) := by
  by_cases h : x < y
  · exact (KT h).via fun _ r => XS.icmpYes X.here hx rfl rfl hd rfl (XT.ii_lt_t h) ho hp r
  · exact (KF h).via fun _ r => XS.icmpNo X.here hx rfl hd rfl (XT.ii_lt_f h) r
theorem icmp_ge (X : Stand p l e R s m args below meth c T locs cells slots) (hx : p.tables.exec = Jvm.exec) {x y : Int32} {o : Int} (hd : decode c.code pc = .ok (.if_icmp .ge o, 3)) (ho : 0 ≤ (pc : Int) + o) (hp : ((pc : Int) + o).toNat = pc') (KT : ¬ x < y → Go p.tables e below G (T.setTop (mkF m (pc') Ls rest))) (KF : x < y → Go p.tables e below G (T.setTop (mkF m (pc + 3) Ls rest))) : Go p.tables e below G (T.setTop (mkF m (pc) Ls (.int y :: .int x :: rest))) := by
  by_cases h : x < y
  · exact (KF h).via fun _ r => XS.icmpNo X.here hx rfl hd rfl (XT.ii_ge_f h) r
  · exact (KT h).via fun _ r => XS.icmpYes X.here hx rfl rfl hd rfl (XT.ii_ge_t h) ho hp r
theorem icmp_gt (X : Stand p l e R s m args below meth c T locs cells slots) (hx : p.tables.exec = Jvm.exec) {x y : Int32} {o : Int} (hd : decode c.code pc = .ok (.if_icmp .gt o, 3)) (ho : 0 ≤ (pc : Int) + o) (hp : ((pc : Int) + o).toNat = pc') (KT : y < x → Go p.tables e below G (T.setTop (mkF m (pc') Ls rest))) (KF : ¬ y < x → Go p.tables e below G (T.setTop (mkF m (pc + 3) Ls rest))) : Go p.tables e below G (T.setTop (mkF m (pc) Ls (.int y :: .int x :: rest))) := by
  by_cases h : y < x
  · exact (KT h).via fun _ r => XS.icmpYes X.here hx rfl rfl hd rfl (XT.ii_gt_t h) ho hp r
  · exact (KF h).via fun _ r => XS.icmpNo X.here hx rfl hd rfl (XT.ii_gt_f h) r
theorem icmp_le (X : Stand p l e R s m args below meth c T locs cells slots) (hx : p.tables.exec = Jvm.exec) {x y : Int32} {o : Int} (hd : decode c.code pc = .ok (.if_icmp .le o, 3)) (ho : 0 ≤ (pc : Int) + o) (hp : ((pc : Int) + o).toNat = pc') (KT : ¬ y < x → Go p.tables e below G (T.setTop (mkF m (pc') Ls rest))) (KF : y < x → Go p.tables e below G (T.setTop (mkF m (pc + 3) Ls rest))) : Go p.tables e below G (T.setTop (mkF m (pc) Ls (.int y :: .int x :: rest))) := by
  by_cases h : y < x
  · exact (KF h).via fun _ r => XS.icmpNo X.here hx rfl hd rfl (XT.ii_le_f h) r
  · exact (KT h).via fun _ r => XS.icmpYes X.here hx rfl rfl hd rfl (XT.ii_le_t h) ho hp r
theorem ifnull_n (X : Stand p l e R s m args below meth c T locs cells slots) (hx : p.tables.exec = Jvm.exec) {o : Int} (hd : decode c.code pc = .ok (.ifnull o, 3)) (ho : 0 ≤ (pc : Int) + o) (hp : ((pc : Int) + o).toNat = pc') (K : Go p.tables e below G (T.setTop (mkF m (pc') Ls rest))) : Go p.tables e below G (T.setTop (mkF m (pc) Ls (.null :: rest))) := K.via fun _ r => XS.ifnullYes X.here hx rfl rfl hd rfl ho hp r
theorem ifnull_r (X : Stand p l e R s m args below meth c T locs cells slots) (hx : p.tables.exec = Jvm.exec) {o : Int} {b : Addr} (hd : decode c.code pc = .ok (.ifnull o, 3)) (K : Go p.tables e below G (T.setTop (mkF m (pc + 3) Ls rest))) : Go p.tables e below G (T.setTop (mkF m (pc) Ls (.ref b :: rest))) := K.via fun _ r => XS.ifnullNo X.here hx rfl hd rfl r
theorem ifnonnull_r (X : Stand p l e R s m args below meth c T locs cells slots) (hx : p.tables.exec = Jvm.exec) {o : Int} {b : Addr} (hd : decode c.code pc = .ok (.ifnonnull o, 3)) (ho : 0 ≤ (pc : Int) + o) (hp : ((pc : Int) + o).toNat = pc') (K : Go p.tables e below G (T.setTop (mkF m (pc') Ls rest))) : Go p.tables e below G (T.setTop (mkF m (pc) Ls (.ref b :: rest))) := K.via fun _ r => XT.ifnonnullYes X.here hx rfl rfl hd rfl ho hp r
theorem ifnonnull_n (X : Stand p l e R s m args below meth c T locs cells slots) (hx : p.tables.exec = Jvm.exec) {o : Int} (hd : decode c.code pc = .ok (.ifnonnull o, 3)) (K : Go p.tables e below G (T.setTop (mkF m (pc + 3) Ls rest))) : Go p.tables e below G (T.setTop (mkF m (pc) Ls (.null :: rest))) := K.via fun _ r => XT.ifnonnullNo X.here hx rfl hd rfl r
theorem acmp_eq (X : Stand p l e R s m args below meth c T locs cells slots) (hx : p.tables.exec = Jvm.exec) {v w : Value} {o : Int} (hd : decode c.code pc = .ok (.if_acmp .eq o, 3)) (h1 : v.isRef = true) (h2 : w.isRef = true) (ho : 0 ≤ (pc : Int) + o) (hp : ((pc : Int) + o).toNat = pc') (KT : v = w → Go p.tables e below G (T.setTop (mkF m (pc') Ls rest))) (KF : ¬ v = w → Go p.tables e below G (T.setTop (mkF m (pc + 3) Ls rest))) : Go p.tables e below G (T.setTop (mkF m (pc) Ls (w :: v :: rest))) := by
  by_cases h : v = w
  · exact (KT h).via fun _ r => XT.acmpYes X.here hx rfl rfl hd rfl h1 h2 (XT.aa_eq_t h) ho hp r
  · exact (KF h).via fun _ r => XT.acmpNo X.here hx rfl hd rfl h1 h2 (XT.aa_eq_f h) r
theorem acmp_ne (X : Stand p l e R s m args below meth c T locs cells slots) (hx : p.tables.exec = Jvm.exec) {v w : Value} {o : Int} (hd : decode c.code pc = .ok (.if_acmp .ne o, 3)) (h1 : v.isRef = true) (h2 : w.isRef = true) (ho : 0 ≤ (pc : Int) + o) (hp : ((pc : Int) + o).toNat = pc') (KT : ¬ v = w → Go p.tables e below G (T.setTop (mkF m (pc') Ls rest))) (KF : v = w → Go p.tables e below G (T.setTop (mkF m (pc + 3) Ls rest))) : Go p.tables e below G (T.setTop (mkF m (pc) Ls (w :: v :: rest))) := by
  by_cases h : v = w
  · exact (KF h).via fun _ r => XT.acmpNo X.here hx rfl hd rfl h1 h2 (XT.aa_ne_f h) r
  · exact (KT h).via fun _ r => XT.acmpYes X.here hx rfl rfl hd rfl h1 h2 (XT.aa_ne_t h) ho hp r
theorem iaload (X : Stand p l e R s m args below meth c T locs cells slots) (hx : p.tables.exec = Jvm.exec) {Z : State} {h : Heap} (hZ : Z.Warmed39 s.vm) (eT : T.heap = h) {a : Addr} {cell : Cell} {j : Int32} (v : Value) (A : Arr Z h a cell .int) (hin : ¬ (j < 0 ∨ cell.slots.size ≤ j.toNatClampNeg)) (hv : cell.slots[j.toNatClampNeg]? = some v) (hd : decode c.code pc = .ok (.iaload, 1)) (K : Go p.tables e below G (T.setTop (mkF m (pc + 1) Ls (v :: rest)))) : Go p.tables e below G (T.setTop (mkF m (pc) Ls (.int j :: .ref a :: rest))) := K.via fun t r => X.iaload hx (g := mkF m pc Ls (.int j :: .ref a :: rest)) (by rw [eT]; exact A.1) (State.isArrayOf_alike hZ.alike A.2.1) A.2.2 hin hv rfl rfl hd t r
theorem caload (X : Stand p l e R s m args below meth c T locs cells slots) (hx : p.tables.exec = Jvm.exec) {Z : State} {h : Heap} (hZ : Z.Warmed39 s.vm) (eT : T.heap = h) {a : Addr} {cell : Cell} {j : Int32} (v : Value) (A : Arr Z h a cell .char) (hin : ¬ (j < 0 ∨ cell.slots.size ≤ j.toNatClampNeg)) (hv : cell.slots[j.toNatClampNeg]? = some v) (hd : decode c.code pc = .ok (.caload, 1)) (K : Go p.tables e below G (T.setTop (mkF m (pc + 1) Ls (v :: rest)))) : Go p.tables e below G (T.setTop (mkF m (pc) Ls (.int j :: .ref a :: rest))) := K.via fun t r => X.caload hx (g := mkF m pc Ls (.int j :: .ref a :: rest)) (by rw [eT]; exact A.1) (State.isArrayOf_alike hZ.alike A.2.1) A.2.2 hin hv rfl rfl hd t r
theorem laload (X : Stand p l e R s m args below meth c T locs cells slots) (hx : p.tables.exec = Jvm.exec) {Z : State} {h : Heap} (hZ : Z.Warmed39 s.vm) (eT : T.heap = h) {a : Addr} {cell : Cell} {j : Int32} (v : Value) (A : Arr Z h a cell .long) (hin : ¬ (j < 0 ∨ cell.slots.size ≤ j.toNatClampNeg)) (hv : cell.slots[j.toNatClampNeg]? = some v) (hd : decode c.code pc = .ok (.laload, 1)) (K : Go p.tables e below G (T.setTop (mkF m (pc + 1) Ls (v :: rest)))) : Go p.tables e below G (T.setTop (mkF m (pc) Ls (.int j :: .ref a :: rest))) := K.via fun t r => X.laload hx (g := mkF m pc Ls (.int j :: .ref a :: rest)) (by rw [eT]; exact A.1) (State.isArrayOf_alike hZ.alike A.2.1) A.2.2 hin hv rfl rfl hd t r
theorem baload (X : Stand p l e R s m args below meth c T locs cells slots) (hx : p.tables.exec = Jvm.exec) {Z : State} {h : Heap} (hZ : Z.Warmed39 s.vm) (eT : T.heap = h) {a : Addr} {cell : Cell} {j : Int32} (v : Value) (A : Arr Z h a cell .byte) (hin : ¬ (j < 0 ∨ cell.slots.size ≤ j.toNatClampNeg)) (hv : cell.slots[j.toNatClampNeg]? = some v) (hd : decode c.code pc = .ok (.baload, 1)) (K : Go p.tables e below G (T.setTop (mkF m (pc + 1) Ls (v :: rest)))) : Go p.tables e below G (T.setTop (mkF m (pc) Ls (.int j :: .ref a :: rest))) := K.via fun t r => X.baloadBytes hx (g := mkF m pc Ls (.int j :: .ref a :: rest)) (by rw [eT]; exact A.1) (State.isArrayOf_alike hZ.alike A.2.1) A.2.2 hin hv rfl rfl hd t r
theorem zaload (X : Stand p l e R s m args below meth c T locs cells slots) (hx : p.tables.exec = Jvm.exec) {Z : State} {h : Heap} (hZ : Z.Warmed39 s.vm) (eT : T.heap = h) {a : Addr} {cell : Cell} {j : Int32} (v : Value) (A : Arr Z h a cell .boolean) (hin : ¬ (j < 0 ∨ cell.slots.size ≤ j.toNatClampNeg)) (hv : cell.slots[j.toNatClampNeg]? = some v) (hd : decode c.code pc = .ok (.baload, 1)) (K : Go p.tables e below G (T.setTop (mkF m (pc + 1) Ls (v :: rest)))) : Go p.tables e below G (T.setTop (mkF m (pc) Ls (.int j :: .ref a :: rest))) := K.via fun t r => X.baloadBooleans hx (g := mkF m pc Ls (.int j :: .ref a :: rest)) (by rw [eT]; exact A.1) (State.isArrayOf_alike hZ.alike A.2.1) A.2.2 hin hv rfl rfl hd t r
theorem aaload (X : Stand p l e R s m args below meth c T locs cells slots) (hx : p.tables.exec = Jvm.exec) {Z : State} {h : Heap} (hZ : Z.Warmed39 s.vm) (eT : T.heap = h) {a : Addr} {cell : Cell} {ty : FieldType} {j : Int32} (v : Value) (A : Arr Z h a cell ty) (hty : ty.isReference = true) (hin : ¬ (j < 0 ∨ cell.slots.size ≤ j.toNatClampNeg)) (hv : cell.slots[j.toNatClampNeg]? = some v) (hd : decode c.code pc = .ok (.aaload, 1)) (K : Go p.tables e below G (T.setTop (mkF m (pc + 1) Ls (v :: rest)))) : Go p.tables e below G (T.setTop (mkF m (pc) Ls (.int j :: .ref a :: rest))) := K.via fun t r => X.aaload hx (g := mkF m pc Ls (.int j :: .ref a :: rest)) (by rw [eT]; exact A.1) (State.isArrayOf_alike hZ.alike A.2.1) hty A.2.2 hin hv rfl rfl hd t r
theorem arraylength (X : Stand p l e R s m args below meth c T locs cells slots) (hx : p.tables.exec = Jvm.exec) {Z : State} {h : Heap} (hZ : Z.Warmed39 s.vm) (eT : T.heap = h) {a : Addr} {cell : Cell} {ty : FieldType} (N : Int32) (A : Arr Z h a cell ty) (hN : cell.slots.size.toInt32 = N) (hd : decode c.code pc = .ok (.arraylength, 1)) (K : Go p.tables e below G (T.setTop (mkF m (pc + 1) Ls (.int N :: rest)))) : Go p.tables e below G (T.setTop (mkF m (pc) Ls (.ref a :: rest))) := K.via fun t r => X.arraylength hx (g := mkF m pc Ls (.ref a :: rest)) (by rw [eT]; exact A.1) (State.isArrayOf_alike hZ.alike A.2.1) rfl rfl hd t (by rw [hN]; exact r)
end Steps1
section Ends
variable {p : Program} {l : Launch} {e : Env} {R : Room} {s : State} {m : MethodId} {args : Array Value} {below : List Frame} {meth : Method} {c : Code} {T : State} {locs : List Loc} {cells slots : Nat} {pc pc' : Nat} {Ls : Array Slot} {rest : List Value} {Q : Option Value → Heap → List Loc → Prop} {k n : Nat}
/-- what a narrow contract says of its end -/
abbrev EndN (s : State) (Q : Option Value → Heap → List Loc → Prop) (k n : Nat) : Outcome → State → Prop := fun o t => ∃ v L, o = .returned v ∧ Q v t.heap L ∧ FrameEnd s o t L k n
theorem fin_of (X : Stand p l e R s m args below meth c T locs cells slots) (hlk : meth.locks = false) {v : Option Value} (hv : meth.sig.returnType = none → v = none) {g : JFrame} (st : ∀ fs, (∀ (f : JFrame) (acts : List Action), f.method = m → f.locked = none → f.entered = [] → (doReturn e (T.setTop f) acts v).1 = T.setFrames fs) → Steps p.tables e below (T.setTop g) (T.setFrames fs)) (hQ : Q v T.heap locs) (hk : cells ≤ k) (hn : slots ≤ n) : Go p.tables e below (EndN s Q k n) (T.setTop g) := by
  obtain ⟨fs, hr, hrun, hended, hW, hsame⟩ := X.leave (v := v) hv hlk
  exact ⟨_, _, st fs hr, hrun, hended, _, _, rfl, hQ, ⟨_, rfl⟩, hW, hsame.mono hk hn⟩
theorem ireturn (X : Stand p l e R s m args below meth c T locs cells slots) (hx : p.tables.exec = Jvm.exec) (hlk : meth.locks = false) {z : Int32} (hret : meth.sig.returnType = some .int) (hd : decode c.code pc = .ok (.ireturn, 1)) (hQ : Q (some (.int z)) T.heap locs) (hk : cells ≤ k) (hn : slots ≤ n) : Go p.tables e below (EndN s Q k n) (T.setTop (mkF m pc Ls (.int z :: rest))) :=
  fin_of X hlk (v := some (.int z)) (fun h => by rw [hret] at h; cases h) (fun fs hr => retOut X hx hret rfl (Or.inl ⟨rfl, Or.inl rfl, z, rfl⟩) hd hr) hQ hk hn
theorem nreturn (X : Stand p l e R s m args below meth c T locs cells slots) (hx : p.tables.exec = Jvm.exec) (hlk : meth.locks = false) {z : Int32} {t : FieldType} (hret : meth.sig.returnType = some t) (ht : t = .boolean ∨ t = .byte ∨ t = .char ∨ t = .short) (hd : decode c.code pc = .ok (.ireturn, 1)) (hQ : Q (some (.int (nar t z))) T.heap locs) (hk : cells ≤ k) (hn : slots ≤ n) : Go p.tables e below (EndN s Q k n) (T.setTop (mkF m pc Ls (.int z :: rest))) :=
  fin_of X hlk (v := some (.int (nar t z))) (fun h => by rw [hret] at h; cases h) (fun fs hr => retN X hx hret ht hd hr) hQ hk hn
theorem areturn (X : Stand p l e R s m args below meth c T locs cells slots) (hx : p.tables.exec = Jvm.exec) (hlk : meth.locks = false) {w : Value} {t : FieldType} (hret : meth.sig.returnType = some t) (ht : t.isReference = true) (hw : w.isRef = true) (hna : narrow t w = w) (hd : decode c.code pc = .ok (.areturn, 1)) (hQ : Q (some w) T.heap locs) (hk : cells ≤ k) (hn : slots ≤ n) : Go p.tables e below (EndN s Q k n) (T.setTop (mkF m pc Ls (w :: rest))) :=
  fin_of X hlk (v := some w) (fun h => by rw [hret] at h; cases h) (fun fs hr => retOut X hx hret hna (Or.inr (Or.inr (Or.inr (Or.inr ⟨rfl, ht, hw⟩)))) hd hr) hQ hk hn
theorem lreturn (X : Stand p l e R s m args below meth c T locs cells slots) (hx : p.tables.exec = Jvm.exec) (hlk : meth.locks = false) {z : Int64} (hret : meth.sig.returnType = some .long) (hd : decode c.code pc = .ok (.lreturn, 1)) (hQ : Q (some (.long z)) T.heap locs) (hk : cells ≤ k) (hn : slots ≤ n) : Go p.tables e below (EndN s Q k n) (T.setTop (mkF m pc Ls (.long z :: rest))) :=
  fin_of X hlk (v := some (.long z)) (fun h => by rw [hret] at h; cases h) (fun fs hr => retOut X hx hret rfl (Or.inr (Or.inl ⟨rfl, rfl, z, rfl⟩)) hd hr) hQ hk hn
theorem vreturn (X : Stand p l e R s m args below meth c T locs cells slots) (hx : p.tables.exec = Jvm.exec) (hlk : meth.locks = false) (hret : meth.sig.returnType = none) (hd : decode c.code pc = .ok (.return_, 1)) (hQ : Q none T.heap locs) (hk : cells ≤ k) (hn : slots ≤ n) : Go p.tables e below (EndN s Q k n) (T.setTop (mkF m pc Ls [])) :=
  fin_of X hlk (v := none) (fun _ => rfl) (fun fs hr => X.returnOut hx hret hd hr) hQ hk hn
end Ends
section Pays
/-- a narrow contract: called with as' at a heap h0 the method returns v, Q v says of the heap behind -/
def Pay (l : Launch) (Z : State) (y : MethodName) (bytes : ByteArray) (maxL : Nat) (ret : Option FieldType) (rm : Room) (as' : Array Value) (h0 : Heap) (Q : Option Value → Heap → List Loc → Prop) : Prop :=
  ∀ ws : List Jvm.Cond, MetFree l y (head1 (Jvm.Cond.code y bytes maxL ret :: ws) rm) (fun a U => a = as' ∧ Z.Warmed39 U.vm ∧ U.heap = h0) (fun _ _ _ _ _ => True) (fun _ U o U' => ∃ v L, o = .returned v ∧ Q v U'.heap L ∧ FrameEnd U o U' L rm.cells rm.slots)
variable {l : Launch} {Z : State} {y : MethodName} {bytes : ByteArray} {maxL : Nat} {ret : Option FieldType} {rm : Room} {as' : Array Value} {h0 : Heap} {Q : Option Value → Heap → List Loc → Prop}
theorem Pay.of {Ls : Array Slot} (hpn : plainFor y = true) (hef : ∀ m, entryFrame m as' maxL = mkF m 0 Ls [])
    (body : ∀ (p : Program) (e : Env) (s : State) (m : MethodId) (below : List Frame) (meth : Method) (c : Code) (T : State), p.tables.exec = Jvm.exec → c.code = bytes → c.maxLocals = maxL → s.vm.findClass y.cls = some m.cls → s.methodNamed? y = some m → s.vm.method? m = some meth → Z.Warmed39 s.vm → meth.sig.returnType = ret → meth.locks = false → Stand p l e rm s m as' below meth c T [] 0 0 → T.heap = h0 →
      Go p.tables e below (EndN s Q rm.cells rm.slots) (T.setTop (mkF m 0 Ls []))) : Pay l Z y bytes maxL ret rm as' h0 Q := by
  intro ws
  refine MetFree.of_bodySF hpn hisR ?_
  intro p e s m args below meth c s₁ Bd hml0 hP hK
  obtain ⟨rfl, hZ, hh⟩ := hP
  rw [hef m]
  exact body p e s m below meth c s₁ Bd.exec Bd.bytes hml0 (findClass_of_methodNamed Bd.named) Bd.named Bd.method hZ Bd.returns Bd.notSynchronized (Stand.of_body Bd) (by rw [← hh, Bd.state]; rfl)
theorem Pay.mono {Q' : Option Value → Heap → List Loc → Prop} (P : Pay l Z y bytes maxL ret rm as' h0 Q) (h : ∀ v h L, Q v h L → Q' v h L) : Pay l Z y bytes maxL ret rm as' h0 Q' := fun ws =>
  (P ws).mono (fun _ _ q => q) (fun _ _ _ _ _ q => q) fun _ _ _ _ _ ⟨v, L, h1, h2, h3⟩ => ⟨v, L, h1, h _ _ _ h2, h3⟩
variable {p : Program} {e : Env} {R : Room} {s : State} {m : MethodId} {args : Array Value} {below : List Frame} {meth : Method} {c : Code} {T : State} {locs : List Loc} {cells slots : Nat} {G : Outcome → State → Prop} {pc : Nat} {Ls : Array Slot} {a0 : Array Value}
/-- invokestatic, by whoever pays it -/
theorem callSB (X : Stand p l e R s m args below meth c T locs cells slots) (hx : p.tables.exec = Jvm.exec) (hZ : Z.Warmed39 s.vm) {argsL rest st : List Value} {kc ks : Nat}
    (hK : Back l R p e below s args y 3 ((rest.map fun v => v.category).sum) (fun A a => a = as' ∧ A.U.heap = h0 ∧ A.cells + kc ≤ R.cells ∧ A.slots + ks ≤ R.slots) (fun A _ v B => ∃ L, Q v B.U.heap L ∧ B.locs = A.locs ++ L ∧ B.cells = A.cells + kc ∧ B.slots = A.slots + ks)) (eT : T.heap = h0) {own : String} {index : Nat} (hown : s.vm.findClass own = some m.cls)
    (wl : (Cond.methodLink own index y).before a0 Z = true) (wst : (Cond.static y).before a0 Z = true) (wz : (Cond.initialized y.cls).before a0 Z = true) (wc : (Cond.code y bytes maxL ret).before a0 Z = true)
    (hy : y.cls ≠ "java/lang/invoke/MethodHandle" ∧ y.cls ≠ "java/lang/invoke/VarHandle") {ps : List FieldType} {rt : Option FieldType} (hpd : parseMethodDescriptor y.desc = some ⟨ps, rt⟩) (hsz : Ls.size = c.maxLocals)
    (has : argsL.toArray = as') (hlen : argsL.length = ps.length) (hst : st = argsL.reverse ++ rest) (hd : decode c.code pc = .ok (.invokestatic index, 3)) (hce : cells + kc ≤ R.cells) (hsl : slots + ks ≤ R.slots)
    (K : ∀ (v : Option Value) (T' : State) (L : List Loc), Stand p l e R s m args below meth c T' (locs ++ L) (cells + kc) (slots + ks) → Q v T'.heap L → Go p.tables e below G (T'.setTop (mkF m (pc + 3) Ls (v.toList ++ rest)))) :
    Go p.tables e below G (T.setTop (mkF m pc Ls st)) := by
  obtain ⟨_, _, ⟨T1, L1, k1, n1⟩, -, X1, ⟨Lc, hQ, l1, y1, z1⟩, st1⟩ := Jvm.LawKit.callS X hx (y := y) hown (mvT hZ wl) (mvT hZ wst) (mvT hZ wz) (mvT hZ wc) hy hK (g := mkF m pc Ls st) rfl hsz (argsL := argsL) (rest := rest) (lenOf hpd hlen) hst (by show 2 * 0 + _ ≤ _; omega) hd (fun _ _ => ⟨has, eT, hce, hsl⟩)
  dsimp only [Pt.U, Pt.locs, Pt.cells, Pt.slots] at X1 l1 y1 z1 st1 hQ
  subst l1 y1 z1
  exact (K _ _ _ X1 hQ).via st1
/-- invokestatic by a narrow contract -/
theorem callS (X : Stand p l e R s m args below meth c T locs cells slots) (hx : p.tables.exec = Jvm.exec) (hZ : Z.Warmed39 s.vm) (hP : Pay l Z y bytes maxL ret rm as' h0 Q) (eT : T.heap = h0) {own : String} {index : Nat} (hown : s.vm.findClass own = some m.cls)
    (wl : (Cond.methodLink own index y).before a0 Z = true) (wst : (Cond.static y).before a0 Z = true) (wz : (Cond.initialized y.cls).before a0 Z = true) (wc : (Cond.code y bytes maxL ret).before a0 Z = true)
    (hy : y.cls ≠ "java/lang/invoke/MethodHandle" ∧ y.cls ≠ "java/lang/invoke/VarHandle") {ps : List FieldType} {rt : Option FieldType} (hpd : parseMethodDescriptor y.desc = some ⟨ps, rt⟩) (hsz : Ls.size = c.maxLocals)
    {argsL rest st : List Value} (has : argsL.toArray = as') (hlen : argsL.length = ps.length) (hst : st = argsL.reverse ++ rest) (hd : decode c.code pc = .ok (.invokestatic index, 3))
    (hf : (rm.frames + 1).ble R.frames = true) (hlo : ((rest.map fun v => v.category).sum + (maxL + 11) + rm.locals).ble R.locals = true) (hce : cells + rm.cells ≤ R.cells) (hsl : slots + rm.slots ≤ R.slots)
    (K : ∀ (v : Option Value) (T' : State) (L : List Loc), Stand p l e R s m args below meth c T' (locs ++ L) (cells + rm.cells) (slots + rm.slots) → Q v T'.heap L → Go p.tables e below G (T'.setTop (mkF m (pc + 3) Ls (v.toList ++ rest)))) :
    Go p.tables e below G (T.setTop (mkF m pc Ls st)) :=
  callSB X hx hZ (backOf (W := (rest.map fun v => v.category).sum) (hP []) hZ wc wz (Nat.le_of_ble_eq_true hf) (Nat.le_of_ble_eq_true hlo)) eT hown wl wst wz wc hy hpd hsz has hlen hst hd hce hsl K
/-- .. that moves nothing -/
theorem callSP (X : Stand p l e R s m args below meth c T locs cells slots) (hx : p.tables.exec = Jvm.exec) (hZ : Z.Warmed39 s.vm) {r : Option Value} (hP : Pay l Z y bytes maxL ret rm as' h0 (fun v h L => v = r ∧ h = h0 ∧ L = [])) (h0c : rm.cells = 0) (h0s : rm.slots = 0) (eT : T.heap = h0) {own : String} {index : Nat} (hown : s.vm.findClass own = some m.cls)
    (wl : (Cond.methodLink own index y).before a0 Z = true) (wst : (Cond.static y).before a0 Z = true) (wz : (Cond.initialized y.cls).before a0 Z = true) (wc : (Cond.code y bytes maxL ret).before a0 Z = true)
    (hy : y.cls ≠ "java/lang/invoke/MethodHandle" ∧ y.cls ≠ "java/lang/invoke/VarHandle") {ps : List FieldType} {rt : Option FieldType} (hpd : parseMethodDescriptor y.desc = some ⟨ps, rt⟩) (hsz : Ls.size = c.maxLocals)
    {argsL rest st : List Value} (has : argsL.toArray = as') (hlen : argsL.length = ps.length) (hst : st = argsL.reverse ++ rest) (hd : decode c.code pc = .ok (.invokestatic index, 3))
    (hf : (rm.frames + 1).ble R.frames = true) (hlo : ((rest.map fun v => v.category).sum + (maxL + 11) + rm.locals).ble R.locals = true) (hce : cells ≤ R.cells) (hsl : slots ≤ R.slots)
    (K : ∀ (T' : State), Stand p l e R s m args below meth c T' locs cells slots → T'.heap = h0 → Go p.tables e below G (T'.setTop (mkF m (pc + 3) Ls (r.toList ++ rest)))) :
    Go p.tables e below G (T.setTop (mkF m pc Ls st)) := by
  refine callS X hx hZ hP eT hown wl wst wz wc hy hpd hsz has hlen hst hd hf hlo (by rw [h0c]; exact hce) (by rw [h0s]; exact hsl) ?_
  rintro v T' L X' ⟨rfl, hh, rfl⟩
  rw [h0c, h0s, List.append_nil] at X'
  exact K T' X' hh
end Pays
end Jvm.Ow
namespace Jvm.Ow
open Sem ClassFile Op Lib Jvm.Stand Jvm.Free Jvm.LawKit Jvm.RoadKit
section Heaps
variable {p : Program} {l : Launch} {e : Env} {R : Room} {s : State} {m : MethodId} {args : Array Value} {below : List Frame} {meth : Method} {c : Code} {T : State} {locs : List Loc} {cells slots : Nat} {G : Outcome → State → Prop} {pc pc' : Nat} {Ls : Array Slot} {rest : List Value} {Z : State} {a0 : Array Value} {h : Heap}
theorem new_ (X : Stand p l e R s m args below meth c T locs cells slots) (hx : p.tables.exec = Jvm.exec) (hZ : Z.Warmed39 s.vm) {own C : String} {index n : Nat} (hown : s.vm.findClass own = some m.cls) (w : (Cond.classLink own index C).before a0 Z = true) (wi : (Cond.instantiable C n).before a0 Z = true) (wz : (Cond.initialized C).before a0 Z = true) (eT : T.heap = h)
    (hd : decode c.code pc = .ok (.new index, 3)) (hc : cells + 1 ≤ R.cells) (hl : slots + n ≤ R.slots)
    (K : ∀ T' h' (a : Addr), a = h.size → Stand p l e R s m args below meth c T' locs (cells + 1) (slots + n) → T'.heap = h' → Ext h h' → Exa Z h' a C → (∀ {O nm d : String} {ty : FieldType}, Laid Z a0 C O nm d → parseFieldDescriptor d = some ty → Fld Z h' a O nm d (defaultValue ty)) → (∃ cell : Cell, h'[a]? = some cell ∧ cell.vm = .none ∧ cell.monitor = {}) →
      Go p.tables e below G (T'.setTop (mkF m (pc + 3) Ls (.ref a :: rest)))) : Go p.tables e below G (T.setTop (mkF m pc Ls rest)) := by
  obtain ⟨T', h', X', e', E, A, D, U, st⟩ := newO X hx hZ hown w wi wz eT (g := mkF m pc Ls rest) rfl hd hc hl
  exact (K T' h' _ rfl X' e' E A D U).via st
theorem newarray (X : Stand p l e R s m args below meth c T locs cells slots) (hx : p.tables.exec = Jvm.exec) (hZ : Z.Warmed39 s.vm) {aty : ArrayType} (w : (Cond.arrayClass (newarray.typeOf aty)).before a0 Z = true) (eT : T.heap = h) (cap : Nat) {n : Int32}
    (hd : decode c.code pc = .ok (.newarray aty, 2)) (hn : ¬ n < 0) (hcap : n.toNatClampNeg ≤ cap) (hb : cap * 8 ≤ 536870912) (hc : cells + 1 ≤ R.cells) (hl : slots + cap ≤ R.slots)
    (K : ∀ T' h' cA (a : Addr), a = h.size → Stand p l e R s m args below meth c T' locs (cells + 1) (slots + cap) → T'.heap = h' → Ext h h' → Arr Z h' a (newA cA (newarray.typeOf aty) n) (newarray.typeOf aty) →
      Go p.tables e below G (T'.setTop (mkF m (pc + 2) Ls (.ref a :: rest)))) : Go p.tables e below G (T.setTop (mkF m pc Ls (.int n :: rest))) := by
  obtain ⟨T', h', cA, X', e', E, A, st⟩ := newP X hx hZ w eT (g := mkF m pc Ls (.int n :: rest)) rfl hd rfl hn hcap hb hc hl
  exact (K T' h' cA _ rfl X' e' E A).via st
theorem getfield (X : Stand p l e R s m args below meth c T locs cells slots) (hx : p.tables.exec = Jvm.exec) (hZ : Z.Warmed39 s.vm) {own R0 O n d : String} {index : Nat} (hown : s.vm.findClass own = some m.cls) (w : (Cond.fieldLink own index R0 n d).before a0 Z = true) (via : Via Z R0 O n d) (eT : T.heap = h) {a : Addr} {v : Value} (F : Fld Z h a O n d v)
    (hd : decode c.code pc = .ok (.getfield index, 3)) (K : ∀ T', Stand p l e R s m args below meth c T' locs cells slots → T'.heap = h → Go p.tables e below G (T'.setTop (mkF m (pc + 3) Ls (v :: rest)))) : Go p.tables e below G (T.setTop (mkF m pc Ls (.ref a :: rest))) := by
  obtain ⟨T', X', e', st⟩ := getF X hx hZ hown (host := "") (Or.inl w) via eT F (g := mkF m pc Ls (.ref a :: rest)) rfl rfl hd
  exact (K T' X' e').via st
theorem putfield (X : Stand p l e R s m args below meth c T locs cells slots) (hx : p.tables.exec = Jvm.exec) (hZ : Z.Warmed39 s.vm) {own R0 O n d C : String} {index kk : Nat} {ty : FieldType} (hown : s.vm.findClass own = some m.cls) (w : (Cond.fieldLink own index R0 n d).before a0 Z = true) (via : Via Z R0 O n d)
    (eT : T.heap = h) {a : Addr} {v old : Value} (F : Fld Z h a O n d old) (E : Exa Z h a C) (L : (Cond.lays C O n d).before a0 Z = true ∨ ((Cond.laysFinal C O n d).before a0 Z = true ∧ own = O ∧ meth.name = "<init>")) (wi : (Cond.instantiable C kk).before a0 Z = true)
    (hty : parseFieldDescriptor d = some ty) (hn : narrow ty v = v) (hf : fits ty v = true) (hd : decode c.code pc = .ok (.putfield index, 3))
    (K : ∀ T' h', Stand p l e R s m args below meth c T' (locs ++ [⟨a, RoadKit.slotOf Z O n d⟩]) cells slots → T'.heap = h' → Wr h h' a (RoadKit.slotOf Z O n d) v → Go p.tables e below G (T'.setTop (mkF m (pc + 3) Ls rest))) : Go p.tables e below G (T.setTop (mkF m pc Ls (v :: .ref a :: rest))) := by
  obtain ⟨T', h', X', e', W, st⟩ := putF X hx hZ hown (host := "") (Or.inl w) via eT F E L wi hty hn hf (g := mkF m pc Ls (v :: .ref a :: rest)) rfl rfl hd
  exact (K T' h' X' e' W).via st
theorem getstatic (X : Stand p l e R s m args below meth c T locs cells slots) (hx : p.tables.exec = Jvm.exec) (hZ : Z.Warmed39 s.vm) {own R0 O n d : String} {index : Nat} (hown : s.vm.findClass own = some m.cls) (w : (Cond.fieldLink own index R0 n d).before a0 Z = true) (via : Via Z R0 O n d) (eT : T.heap = h) {v : Value} (F : Sta Z h O n d v)
    (hd : decode c.code pc = .ok (.getstatic index, 3)) (K : ∀ T', Stand p l e R s m args below meth c T' locs cells slots → T'.heap = h → Go p.tables e below G (T'.setTop (mkF m (pc + 3) Ls (v :: rest)))) : Go p.tables e below G (T.setTop (mkF m pc Ls rest)) := by
  obtain ⟨T', X', e', st⟩ := getS (host := "") X hx hZ hown w via eT F (g := mkF m pc Ls rest) rfl hd
  exact (K T' X' e').via st
theorem objinit (X : Stand p l e R s m args below meth c T locs cells slots) (hx : p.tables.exec = Jvm.exec) (hZ : Z.Warmed39 s.vm) {own : String} {idx : Nat} (hown : s.vm.findClass own = some m.cls) (w1 : (Cond.methodLink own idx Lib.objectInit).before a0 Z = true) (w2 : (Cond.instanceMethod Lib.objectInit).before a0 Z = true)
    (w3 : (Cond.code Lib.objectInit ⟨#[0xb1]⟩ 1 none).before a0 Z = true) (eT : T.heap = h) (hsz : Ls.size = c.maxLocals) {a : Addr} (hd : decode c.code pc = .ok (.invokespecial idx, 3)) (hf : (1 : Nat).ble R.frames = true) (hl : ((rest.map fun v => v.category).sum + 12).ble R.locals = true)
    (K : ∀ T', Stand p l e R s m args below meth c T' locs cells slots → T'.heap = h → Go p.tables e below G (T'.setTop (mkF m (pc + 3) Ls rest))) : Go p.tables e below G (T.setTop (mkF m pc Ls (.ref a :: rest))) := by
  obtain ⟨T', X', e', st⟩ := initO X hx hZ hown w1 w2 w3 eT (g := mkF m pc Ls (.ref a :: rest)) rfl hsz rfl hd (Nat.le_of_ble_eq_true hf) (W := (rest.map fun v => v.category).sum) (by show 2 * 0 + _ ≤ _; omega) (Nat.le_of_ble_eq_true hl)
  exact (K T' X' e').via st
theorem castore (X : Stand p l e R s m args below meth c T locs cells slots) (hx : p.tables.exec = Jvm.exec) (hZ : Z.Warmed39 s.vm) (eT : T.heap = h) {a : Addr} {cl : Cell} (A : Arr Z h a cl .char) {j x : Int32} (hj : ¬ (j < 0 ∨ cl.slots.size ≤ j.toNatClampNeg)) (hd : decode c.code pc = .ok (.castore, 1))
    (K : ∀ T' h', Stand p l e R s m args below meth c T' (locs ++ [⟨a, j.toNatClampNeg⟩]) cells slots → T'.heap = h' → Wr h h' a j.toNatClampNeg (.int (nar .char x)) → Go p.tables e below G (T'.setTop (mkF m (pc + 1) Ls rest))) : Go p.tables e below G (T.setTop (mkF m pc Ls (.int x :: .int j :: .ref a :: rest))) := by
  obtain ⟨T', h', X', e', W, st⟩ := stC X hx hZ eT A hj (g := mkF m pc Ls (.int x :: .int j :: .ref a :: rest)) rfl rfl hd
  exact (K T' h' X' e' W).via st
theorem bastore (X : Stand p l e R s m args below meth c T locs cells slots) (hx : p.tables.exec = Jvm.exec) (hZ : Z.Warmed39 s.vm) (eT : T.heap = h) {a : Addr} {cl : Cell} (A : Arr Z h a cl .byte) {j x : Int32} (hj : ¬ (j < 0 ∨ cl.slots.size ≤ j.toNatClampNeg)) (hd : decode c.code pc = .ok (.bastore, 1))
    (K : ∀ T' h', Stand p l e R s m args below meth c T' (locs ++ [⟨a, j.toNatClampNeg⟩]) cells slots → T'.heap = h' → Wr h h' a j.toNatClampNeg (.int (nar .byte x)) → Go p.tables e below G (T'.setTop (mkF m (pc + 1) Ls rest))) : Go p.tables e below G (T.setTop (mkF m pc Ls (.int x :: .int j :: .ref a :: rest))) := by
  obtain ⟨T', h', X', e', W, st⟩ := stB X hx hZ eT A hj (g := mkF m pc Ls (.int x :: .int j :: .ref a :: rest)) rfl rfl hd
  exact (K T' h' X' e' W).via st
theorem zastore (X : Stand p l e R s m args below meth c T locs cells slots) (hx : p.tables.exec = Jvm.exec) (hZ : Z.Warmed39 s.vm) (eT : T.heap = h) {a : Addr} {cl : Cell} (A : Arr Z h a cl .boolean) {j x : Int32} (hj : ¬ (j < 0 ∨ cl.slots.size ≤ j.toNatClampNeg)) (hd : decode c.code pc = .ok (.bastore, 1))
    (K : ∀ T' h', Stand p l e R s m args below meth c T' (locs ++ [⟨a, j.toNatClampNeg⟩]) cells slots → T'.heap = h' → Wr h h' a j.toNatClampNeg (.int (nar .boolean x)) → Go p.tables e below G (T'.setTop (mkF m (pc + 1) Ls rest))) : Go p.tables e below G (T.setTop (mkF m pc Ls (.int x :: .int j :: .ref a :: rest))) := by
  obtain ⟨T', h', X', e', W, st⟩ := stZ X hx hZ eT A hj (g := mkF m pc Ls (.int x :: .int j :: .ref a :: rest)) rfl rfl hd
  exact (K T' h' X' e' W).via st
theorem iastore (X : Stand p l e R s m args below meth c T locs cells slots) (hx : p.tables.exec = Jvm.exec) (hZ : Z.Warmed39 s.vm) (eT : T.heap = h) {a : Addr} {cl : Cell} (A : Arr Z h a cl .int) {j x : Int32} (hj : ¬ (j < 0 ∨ cl.slots.size ≤ j.toNatClampNeg)) (hd : decode c.code pc = .ok (.iastore, 1))
    (K : ∀ T' h', Stand p l e R s m args below meth c T' (locs ++ [⟨a, j.toNatClampNeg⟩]) cells slots → T'.heap = h' → Wr h h' a j.toNatClampNeg (.int x) → Go p.tables e below G (T'.setTop (mkF m (pc + 1) Ls rest))) : Go p.tables e below G (T.setTop (mkF m pc Ls (.int x :: .int j :: .ref a :: rest))) := by
  obtain ⟨T', h', X', e', W, st⟩ := stI X hx hZ eT A hj (g := mkF m pc Ls (.int x :: .int j :: .ref a :: rest)) rfl rfl hd
  exact (K T' h' X' e' W).via st
theorem checkcast (X : Stand p l e R s m args below meth c T locs cells slots) (hx : p.tables.exec = Jvm.exec) (hZ : Z.Warmed39 s.vm) {own K0 : String} {index : Nat} (hown : s.vm.findClass own = some m.cls) (w : (Cond.classLink own index K0).before a0 Z = true) (eT : T.heap = h) {a : Addr} (F : Ins Z h a K0 true) (hd : decode c.code pc = .ok (.checkcast index, 3))
    (K : ∀ T', Stand p l e R s m args below meth c T' locs cells slots → T'.heap = h → Go p.tables e below G (T'.setTop (mkF m (pc + 3) Ls (.ref a :: rest)))) : Go p.tables e below G (T.setTop (mkF m pc Ls (.ref a :: rest))) := by
  obtain ⟨T', X', e', st⟩ := castY X hx hZ hown w eT F (g := mkF m pc Ls (.ref a :: rest)) rfl rfl hd
  exact (K T' X' e').via st
theorem instanceofY (X : Stand p l e R s m args below meth c T locs cells slots) (hx : p.tables.exec = Jvm.exec) (hZ : Z.Warmed39 s.vm) {own K0 : String} {index : Nat} (hown : s.vm.findClass own = some m.cls) (w : (Cond.classLink own index K0).before a0 Z = true) (eT : T.heap = h) {a : Addr} (F : Ins Z h a K0 true) (hd : decode c.code pc = .ok (.instanceof index, 3))
    (K : ∀ T', Stand p l e R s m args below meth c T' locs cells slots → T'.heap = h → Go p.tables e below G (T'.setTop (mkF m (pc + 3) Ls (.int 1 :: rest)))) : Go p.tables e below G (T.setTop (mkF m pc Ls (.ref a :: rest))) := by
  obtain ⟨T', X', e', st⟩ := instY X hx hZ hown w eT F (g := mkF m pc Ls (.ref a :: rest)) rfl rfl hd
  exact (K T' X' e').via st
end Heaps
section Calls
variable {l : Launch} {Z : State} {y : MethodName} {bytes : ByteArray} {maxL : Nat} {ret : Option FieldType} {rm : Room} {as' : Array Value} {h0 : Heap} {Q : Option Value → Heap → List Loc → Prop}
variable {p : Program} {e : Env} {R : Room} {s : State} {m : MethodId} {args : Array Value} {below : List Frame} {meth : Method} {c : Code} {T : State} {locs : List Loc} {cells slots : Nat} {G : Outcome → State → Prop} {pc : Nat} {Ls : Array Slot} {a0 : Array Value}
/-- invokespecial of a constructor, by whoever pays it -/
theorem callIB (X : Stand p l e R s m args below meth c T locs cells slots) (hx : p.tables.exec = Jvm.exec) (hZ : Z.Warmed39 s.vm) {a : Addr} {argsL rest st : List Value} {kc ks : Nat}
    (hK : Back l R p e below s args y 3 ((rest.map fun v => v.category).sum) (fun A a => a = as' ∧ A.U.heap = h0 ∧ A.cells + kc ≤ R.cells ∧ A.slots + ks ≤ R.slots) (fun A _ v B => ∃ L, Q v B.U.heap L ∧ B.locs = A.locs ++ L ∧ B.cells = A.cells + kc ∧ B.slots = A.slots + ks)) (eT : T.heap = h0) (hni : y.name = "<init>") {own : String} {index : Nat} (hown : s.vm.findClass own = some m.cls)
    (wl : (Cond.methodLink own index y).before a0 Z = true) (win : (Cond.instanceMethod y).before a0 Z = true) (wc : (Cond.code y bytes maxL none).before a0 Z = true)
    (hy : y.cls ≠ "java/lang/invoke/MethodHandle" ∧ y.cls ≠ "java/lang/invoke/VarHandle") {ps : List FieldType} {rt : Option FieldType} (hpd : parseMethodDescriptor y.desc = some ⟨ps, rt⟩) (hsz : Ls.size = c.maxLocals)
    (has : (.ref a :: argsL).toArray = as') (hlen : argsL.length = ps.length) (hst : st = argsL.reverse ++ .ref a :: rest) (hd : decode c.code pc = .ok (.invokespecial index, 3)) (hce : cells + kc ≤ R.cells) (hsl : slots + ks ≤ R.slots)
    (K : ∀ (v : Option Value) (T' : State) (L : List Loc), Stand p l e R s m args below meth c T' (locs ++ L) (cells + kc) (slots + ks) → Q v T'.heap L → Go p.tables e below G (T'.setTop (mkF m (pc + 3) Ls (v.toList ++ rest)))) :
    Go p.tables e below G (T.setTop (mkF m pc Ls st)) := by
  obtain ⟨_, _, ⟨T1, L1, k1, n1⟩, -, X1, ⟨Lc, hQ, l1, y1, z1⟩, st1⟩ := X.specialBack hx (y := y) hni hown (mvT hZ wl) (mvT hZ win) (mvT hZ wc) hy hK (g := mkF m pc Ls st) rfl hsz (Steps.refl _) (a := a) (argsL := argsL) (rest := rest) (lenOf hpd hlen) hst (by show 2 * 0 + _ ≤ _; omega) hd (fun _ _ => ⟨has, eT, hce, hsl⟩)
  dsimp only [Pt.U, Pt.locs, Pt.cells, Pt.slots] at X1 l1 y1 z1 st1 hQ
  subst l1 y1 z1
  exact (K _ _ _ X1 hQ).thru st1
/-- invokespecial of a constructor by a narrow contract -/
theorem callI (X : Stand p l e R s m args below meth c T locs cells slots) (hx : p.tables.exec = Jvm.exec) (hZ : Z.Warmed39 s.vm) (hP : Pay l Z y bytes maxL none rm as' h0 Q) (eT : T.heap = h0) (hni : y.name = "<init>") {own : String} {index : Nat} (hown : s.vm.findClass own = some m.cls)
    (wl : (Cond.methodLink own index y).before a0 Z = true) (win : (Cond.instanceMethod y).before a0 Z = true) (wz : (Cond.initialized y.cls).before a0 Z = true) (wc : (Cond.code y bytes maxL none).before a0 Z = true)
    (hy : y.cls ≠ "java/lang/invoke/MethodHandle" ∧ y.cls ≠ "java/lang/invoke/VarHandle") {ps : List FieldType} {rt : Option FieldType} (hpd : parseMethodDescriptor y.desc = some ⟨ps, rt⟩) (hsz : Ls.size = c.maxLocals)
    {a : Addr} {argsL rest st : List Value} (has : (.ref a :: argsL).toArray = as') (hlen : argsL.length = ps.length) (hst : st = argsL.reverse ++ .ref a :: rest) (hd : decode c.code pc = .ok (.invokespecial index, 3))
    (hf : (rm.frames + 1).ble R.frames = true) (hlo : ((rest.map fun v => v.category).sum + (maxL + 11) + rm.locals).ble R.locals = true) (hce : cells + rm.cells ≤ R.cells) (hsl : slots + rm.slots ≤ R.slots)
    (K : ∀ (v : Option Value) (T' : State) (L : List Loc), Stand p l e R s m args below meth c T' (locs ++ L) (cells + rm.cells) (slots + rm.slots) → Q v T'.heap L → Go p.tables e below G (T'.setTop (mkF m (pc + 3) Ls (v.toList ++ rest)))) :
    Go p.tables e below G (T.setTop (mkF m pc Ls st)) :=
  callIB X hx hZ (backOf (W := (rest.map fun v => v.category).sum) (hP []) hZ wc wz (Nat.le_of_ble_eq_true hf) (Nat.le_of_ble_eq_true hlo)) eT hni hown wl win wc hy hpd hsz has hlen hst hd hce hsl K
/-- invokevirtual, by whoever pays it: x is named, y is selected -/
theorem callVB (X : Stand p l e R s m args below meth c T locs cells slots) (hx : p.tables.exec = Jvm.exec) (hZ : Z.Warmed39 s.vm) {a : Addr} {argsL rest st : List Value} {kc ks : Nat}
    (hK : Back l R p e below s args y 3 ((rest.map fun v => v.category).sum) (fun A a => a = as' ∧ A.U.heap = h0 ∧ A.cells + kc ≤ R.cells ∧ A.slots + ks ≤ R.slots) (fun A _ v B => ∃ L, Q v B.U.heap L ∧ B.locs = A.locs ++ L ∧ B.cells = A.cells + kc ∧ B.slots = A.slots + ks)) (eT : T.heap = h0) {C : String} {own : String} {index : Nat} (hown : s.vm.findClass own = some m.cls)
    (wl : (Cond.methodLink own index y).before a0 Z = true) (wd : (Cond.declares y).before a0 Z = true) (wse : (Cond.selects C y y).before a0 Z = true) (win : (Cond.instanceMethod y).before a0 Z = true)
    (hy : y.cls ≠ "java/lang/invoke/MethodHandle" ∧ y.cls ≠ "java/lang/invoke/VarHandle") {ps : List FieldType} {rt : Option FieldType} (hpd : parseMethodDescriptor y.desc = some ⟨ps, rt⟩) (hsz : Ls.size = c.maxLocals)
    (E : Exa Z h0 a C) (has : (.ref a :: argsL).toArray = as') (hlen : argsL.length = ps.length) (hst : st = argsL.reverse ++ .ref a :: rest) (hd : decode c.code pc = .ok (.invokevirtual index, 3)) (hce : cells + kc ≤ R.cells) (hsl : slots + ks ≤ R.slots)
    (K : ∀ (v : Option Value) (T' : State) (L : List Loc), Stand p l e R s m args below meth c T' (locs ++ L) (cells + kc) (slots + ks) → Q v T'.heap L → Go p.tables e below G (T'.setTop (mkF m (pc + 3) Ls (v.toList ++ rest)))) :
    Go p.tables e below G (T.setTop (mkF m pc Ls st)) := by
  obtain ⟨cq, kq, qa, qb, qc⟩ := isOf hZ eT E
  obtain ⟨_, _, ⟨T1, L1, k1, n1⟩, -, X1, ⟨Lc, hQ, l1, y1, z1⟩, st1⟩ := X.virtualBack hx (y := y) (z := y) hown (mvT hZ wl) (mvT hZ wd) (notFace_of_selects (args := #[]) (mvT hZ wse)) (mvT hZ wse) (mvT hZ win) hy hK qa qc (g := mkF m pc Ls st) rfl hsz (Steps.refl _) (argsL := argsL) (rest := rest) (lenOf hpd hlen) hst (by show 2 * 0 + _ ≤ _; omega) hd (fun _ _ => ⟨has, eT, hce, hsl⟩)
  dsimp only [Pt.U, Pt.locs, Pt.cells, Pt.slots] at X1 l1 y1 z1 st1 hQ
  subst l1 y1 z1
  exact (K _ _ _ X1 hQ).thru st1
/-- invokevirtual by a narrow contract -/
theorem callV (X : Stand p l e R s m args below meth c T locs cells slots) (hx : p.tables.exec = Jvm.exec) (hZ : Z.Warmed39 s.vm) (hP : Pay l Z y bytes maxL ret rm as' h0 Q) (eT : T.heap = h0) {C : String} {own : String} {index : Nat} (hown : s.vm.findClass own = some m.cls)
    (wl : (Cond.methodLink own index y).before a0 Z = true) (wd : (Cond.declares y).before a0 Z = true) (wse : (Cond.selects C y y).before a0 Z = true) (win : (Cond.instanceMethod y).before a0 Z = true) (wz : (Cond.initialized y.cls).before a0 Z = true) (wc : (Cond.code y bytes maxL ret).before a0 Z = true)
    (hy : y.cls ≠ "java/lang/invoke/MethodHandle" ∧ y.cls ≠ "java/lang/invoke/VarHandle") {ps : List FieldType} {rt : Option FieldType} (hpd : parseMethodDescriptor y.desc = some ⟨ps, rt⟩) (hsz : Ls.size = c.maxLocals)
    {a : Addr} (E : Exa Z h0 a C) {argsL rest st : List Value} (has : (.ref a :: argsL).toArray = as') (hlen : argsL.length = ps.length) (hst : st = argsL.reverse ++ .ref a :: rest) (hd : decode c.code pc = .ok (.invokevirtual index, 3))
    (hf : (rm.frames + 1).ble R.frames = true) (hlo : ((rest.map fun v => v.category).sum + (maxL + 11) + rm.locals).ble R.locals = true) (hce : cells + rm.cells ≤ R.cells) (hsl : slots + rm.slots ≤ R.slots)
    (K : ∀ (v : Option Value) (T' : State) (L : List Loc), Stand p l e R s m args below meth c T' (locs ++ L) (cells + rm.cells) (slots + rm.slots) → Q v T'.heap L → Go p.tables e below G (T'.setTop (mkF m (pc + 3) Ls (v.toList ++ rest)))) :
    Go p.tables e below G (T.setTop (mkF m pc Ls st)) :=
  callVB X hx hZ (backOf (W := (rest.map fun v => v.category).sum) (hP []) hZ wc wz (Nat.le_of_ble_eq_true hf) (Nat.le_of_ble_eq_true hlo)) eT hown wl wd wse win hy hpd hsz E has hlen hst hd hce hsl K
/-- .. that moves nothing -/
theorem callVP (X : Stand p l e R s m args below meth c T locs cells slots) (hx : p.tables.exec = Jvm.exec) (hZ : Z.Warmed39 s.vm) {r : Option Value} (hP : Pay l Z y bytes maxL ret rm as' h0 (fun v h L => v = r ∧ h = h0 ∧ L = [])) (h0c : rm.cells = 0) (h0s : rm.slots = 0) (eT : T.heap = h0) {C : String} {own : String} {index : Nat} (hown : s.vm.findClass own = some m.cls)
    (wl : (Cond.methodLink own index y).before a0 Z = true) (wd : (Cond.declares y).before a0 Z = true) (wse : (Cond.selects C y y).before a0 Z = true) (win : (Cond.instanceMethod y).before a0 Z = true) (wz : (Cond.initialized y.cls).before a0 Z = true) (wc : (Cond.code y bytes maxL ret).before a0 Z = true)
    (hy : y.cls ≠ "java/lang/invoke/MethodHandle" ∧ y.cls ≠ "java/lang/invoke/VarHandle") {ps : List FieldType} {rt : Option FieldType} (hpd : parseMethodDescriptor y.desc = some ⟨ps, rt⟩) (hsz : Ls.size = c.maxLocals)
    {a : Addr} (E : Exa Z h0 a C) {argsL rest st : List Value} (has : (.ref a :: argsL).toArray = as') (hlen : argsL.length = ps.length) (hst : st = argsL.reverse ++ .ref a :: rest) (hd : decode c.code pc = .ok (.invokevirtual index, 3))
    (hf : (rm.frames + 1).ble R.frames = true) (hlo : ((rest.map fun v => v.category).sum + (maxL + 11) + rm.locals).ble R.locals = true) (hce : cells ≤ R.cells) (hsl : slots ≤ R.slots)
    (K : ∀ (T' : State), Stand p l e R s m args below meth c T' locs cells slots → T'.heap = h0 → Go p.tables e below G (T'.setTop (mkF m (pc + 3) Ls (r.toList ++ rest)))) :
    Go p.tables e below G (T.setTop (mkF m pc Ls st)) := by
  refine callV X hx hZ hP eT hown wl wd wse win wz wc hy hpd hsz E has hlen hst hd hf hlo (by rw [h0c]; exact hce) (by rw [h0s]; exact hsl) ?_
  rintro v T' L X' ⟨rfl, hh, rfl⟩
  rw [h0c, h0s, List.append_nil] at X'
  exact K T' X' hh
end Calls
end Jvm.Ow
namespace Jvm.Ow
open Sem ClassFile Op Lib Jvm.Stand Jvm.Free Jvm.LawKit Jvm.RoadKit
/-- an array whose slots are known, one by one -/
def AL (Z : State) (h : Heap) (a : Addr) (k : ClassId) (ty : FieldType) (vs : List Value) : Prop := ∃ c : Cell, Arr Z h a c ty ∧ c.cls = k ∧ c.slots = vs.toArray
/-- what has moved from h0 to h: the cells ws and new ones -/
def Eff (h0 h : Heap) (ws : List Addr) (L : List Loc) : Prop := Keep h0 h ws ∧ ∀ y ∈ L, y.base ∈ ws ∨ h0.size ≤ y.base
section ALs
variable {Z : State} {h h' h0 : Heap} {a b : Addr} {k : ClassId} {ty : FieldType} {vs : List Value} {v : Value} {ws ws' : List Addr} {L L' : List Loc} {sl : Nat} {C n d : String}
theorem AL.lt (A : AL Z h a k ty vs) : a < h.size := by obtain ⟨c, A, -⟩ := A; exact A.lt
theorem AL.ext (A : AL Z h a k ty vs) (E : Ext h h') : AL Z h' a k ty vs := by obtain ⟨c, A, r⟩ := A; exact ⟨c, A.ext E, r⟩
theorem AL.other (A : AL Z h b k ty vs) (W : Wr h h' a sl v) (q : b ≠ a) : AL Z h' b k ty vs := by obtain ⟨c, A, r⟩ := A; exact ⟨c, A.other W q, r⟩
theorem AL.keep (A : AL Z h a k ty vs) (K : Keep h h' ws) (q : a ∉ ws) : AL Z h' a k ty vs := by obtain ⟨c, A, r⟩ := A; exact ⟨c, ⟨K.2.1 a c A.1 q, A.2⟩, r⟩
theorem AL.new {z : Int32} (A : Arr Z h a (newA k ty z) ty) (vs : List Value) (q : List.replicate z.toNatClampNeg (defaultValue ty) = vs) : AL Z h a k ty vs := ⟨_, A, rfl, by rw [← q]; simp [newA]⟩
theorem AL.set (A : AL Z h a k ty vs) {i : Nat} (W : Wr h h' a i v) (vs' : List Value) (q : vs.set i v = vs') : AL Z h' a k ty vs' := by
  obtain ⟨c, A, r1, r2⟩ := A
  refine ⟨_, A.same W, r1, ?_⟩
  show c.slots.setIfInBounds i v = _
  rw [r2, ← q]; simp
theorem AL.arr (A : AL Z h a k ty vs) : ∃ c : Cell, Arr Z h a c ty ∧ c.cls = k ∧ c.slots.size = vs.length ∧ ∀ i : Nat, c.slots[i]? = vs[i]? := by
  obtain ⟨c, A, r1, r2⟩ := A
  exact ⟨c, A, r1, by rw [r2]; simp, fun i => by rw [r2]; simp⟩
theorem AL.arv (A : AL Z h a k ty vs) {z : Int32} {dv : Value} (hz : ¬ z < 0) (hl : z.toNatClampNeg = vs.length) (hf : ∀ v ∈ vs, fits ty v = true) : Arv Z h a k ty z vs dv := by
  obtain ⟨c, A, r1, r2, r3⟩ := A.arr
  refine ⟨c, A, r1, by rw [r2, hl], hz, fun i hi => ?_, fun i hi => ?_⟩
  · rw [r3, List.getD_eq_getElem?_getD, List.getElem?_eq_getElem (by omega)]; rfl
  · rw [List.getD_eq_getElem?_getD, List.getElem?_eq_getElem (by omega)]; exact hf _ (List.getElem_mem _)
theorem AL.of_arv {z : Int32} {dv : Value} (A : Arv Z h a k ty z vs dv) (hl : z.toNatClampNeg = vs.length) : AL Z h a k ty vs := by
  obtain ⟨c, A, r1, r2, r3, H, -⟩ := A
  refine ⟨c, A, r1, Array.ext_getElem? fun i => ?_⟩
  by_cases q : i < c.slots.size
  · rw [H i q, List.getD_eq_getElem?_getD]
    have : i < vs.length := by omega
    simp [this]
  · rw [Array.getElem?_eq_none (by omega)]
    have : vs.length ≤ i := by omega
    simp [this]
theorem Eff.refl (h : Heap) (ws : List Addr) : Eff h h ws [] := ⟨Keep.refl h ws, fun _ q => nomatch q⟩
theorem Eff.size (F : Eff h0 h ws L) : h0.size ≤ h.size := F.1.1
theorem Eff.ext (F : Eff h0 h ws L) (E : Ext h h') : Eff h0 h' ws L := ⟨F.1.ext E, F.2⟩
theorem Eff.wr (F : Eff h0 h ws L) (W : Wr h h' a sl v) (q : a ∈ ws ∨ h0.size ≤ a) : Eff h0 h' ws (L ++ [⟨a, sl⟩]) := ⟨F.1.wr W q, fun y hy => by
  rcases List.mem_append.mp hy with hy | hy
  · exact F.2 y hy
  · cases List.mem_singleton.mp hy; exact q⟩
theorem Eff.call (F : Eff h0 h ws L) (F' : Eff h h' ws' L') (q : ∀ x ∈ ws', x ∈ ws ∨ h0.size ≤ x) : Eff h0 h' ws (L ++ L') := ⟨F.1.trans F'.1 q, fun y hy => by
  rcases List.mem_append.mp hy with hy | hy
  · exact F.2 y hy
  · rcases F'.2 y hy with r | r
    · exact q _ r
    · exact Or.inr (Nat.le_trans F.1.1 r)⟩
theorem Eff.app0 (F : Eff h0 h ws L) : Eff h0 h ws (L ++ []) := by rw [List.append_nil]; exact F
theorem Eff.fr (F : Eff h0 h [] L) : Fr h0.size L := fun y hy => (F.2 y hy).elim (fun q => nomatch q) id
theorem Eff.keep (F : Eff h0 h ws L) : Keep h0 h ws := F.1
theorem ext_ne (q : a < h.size) : a ≠ h.size := Nat.ne_of_lt q
theorem Keep.ext0 (K : Keep h h' []) : Ext h h' := ⟨K.1, fun x c q => K.2.1 x c q nin0⟩
end ALs
section ALsteps
variable {p : Program} {l : Launch} {e : Env} {R : Room} {s : State} {m : MethodId} {args : Array Value} {below : List Frame} {meth : Method} {c : Code} {T : State} {locs : List Loc} {cells slots : Nat} {G : Outcome → State → Prop} {pc pc' : Nat} {Ls : Array Slot} {rest : List Value} {Z : State} {a0 : Array Value} {h : Heap} {a : Addr} {kc : ClassId} {vs : List Value}
theorem inb {c : Cell} {j : Int32} (hs : c.slots.size = vs.length) (h0 : ¬ j < 0) {i : Nat} (hi : j.toNatClampNeg = i) (hl : i < vs.length) : ¬ (j < 0 ∨ c.slots.size ≤ j.toNatClampNeg) := by
  rw [hi, hs]; exact fun q => q.elim h0 (Nat.not_le.mpr hl)
/-- newarray: all slots at their first value -/
theorem newarrayL (X : Stand p l e R s m args below meth c T locs cells slots) (hx : p.tables.exec = Jvm.exec) (hZ : Z.Warmed39 s.vm) {aty : ArrayType} (w : (Cond.arrayClass (newarray.typeOf aty)).before a0 Z = true) (eT : T.heap = h) (cap : Nat) {n : Int32} (vs : List Value) (hvs : List.replicate n.toNatClampNeg (defaultValue (newarray.typeOf aty)) = vs)
    (hd : decode c.code pc = .ok (.newarray aty, 2)) (hn : ¬ n < 0) (hcap : n.toNatClampNeg ≤ cap) (hb : cap * 8 ≤ 536870912) (hc : cells + 1 ≤ R.cells) (hl : slots + cap ≤ R.slots)
    (K : ∀ T' h' cA (a : Addr), a = h.size → Stand p l e R s m args below meth c T' locs (cells + 1) (slots + cap) → T'.heap = h' → Ext h h' → AL Z h' a cA (newarray.typeOf aty) vs →
      Go p.tables e below G (T'.setTop (mkF m (pc + 2) Ls (.ref a :: rest)))) : Go p.tables e below G (T.setTop (mkF m pc Ls (.int n :: rest))) :=
  newarray X hx hZ w eT cap hd hn hcap hb hc hl fun T' h' cA a ha X' e' E A => K T' h' cA a ha X' e' E (AL.new A vs hvs)
theorem castoreL (X : Stand p l e R s m args below meth c T locs cells slots) (hx : p.tables.exec = Jvm.exec) (hZ : Z.Warmed39 s.vm) (eT : T.heap = h) (A : AL Z h a kc .char vs) {j x : Int32} (i : Nat) (vs' : List Value) (hj0 : ¬ j < 0) (hj : j.toNatClampNeg = i) (hi : i.blt vs.length = true) (hvs : vs.set i (.int (nar .char x)) = vs') (hd : decode c.code pc = .ok (.castore, 1))
    (K : ∀ T' h', Stand p l e R s m args below meth c T' (locs ++ [⟨a, i⟩]) cells slots → T'.heap = h' → Wr h h' a i (.int (nar .char x)) → AL Z h' a kc .char vs' → Go p.tables e below G (T'.setTop (mkF m (pc + 1) Ls rest))) : Go p.tables e below G (T.setTop (mkF m pc Ls (.int x :: .int j :: .ref a :: rest))) := by
  obtain ⟨cl, Ar, -, q2, -⟩ := A.arr
  have hi' : i < vs.length := by simpa [Nat.blt_eq] using hi
  refine castore X hx hZ eT Ar (inb q2 hj0 hj hi') hd ?_
  rw [hj]
  exact fun T' h' X' e' W => K T' h' X' e' W (A.set W vs' hvs)
theorem bastoreL (X : Stand p l e R s m args below meth c T locs cells slots) (hx : p.tables.exec = Jvm.exec) (hZ : Z.Warmed39 s.vm) (eT : T.heap = h) (A : AL Z h a kc .byte vs) {j x : Int32} (i : Nat) (vs' : List Value) (hj0 : ¬ j < 0) (hj : j.toNatClampNeg = i) (hi : i.blt vs.length = true) (hvs : vs.set i (.int (nar .byte x)) = vs') (hd : decode c.code pc = .ok (.bastore, 1))
    (K : ∀ T' h', Stand p l e R s m args below meth c T' (locs ++ [⟨a, i⟩]) cells slots → T'.heap = h' → Wr h h' a i (.int (nar .byte x)) → AL Z h' a kc .byte vs' → Go p.tables e below G (T'.setTop (mkF m (pc + 1) Ls rest))) : Go p.tables e below G (T.setTop (mkF m pc Ls (.int x :: .int j :: .ref a :: rest))) := by
  obtain ⟨cl, Ar, -, q2, -⟩ := A.arr
  have hi' : i < vs.length := by simpa [Nat.blt_eq] using hi
  refine bastore X hx hZ eT Ar (inb q2 hj0 hj hi') hd ?_
  rw [hj]
  exact fun T' h' X' e' W => K T' h' X' e' W (A.set W vs' hvs)
theorem zastoreL (X : Stand p l e R s m args below meth c T locs cells slots) (hx : p.tables.exec = Jvm.exec) (hZ : Z.Warmed39 s.vm) (eT : T.heap = h) (A : AL Z h a kc .boolean vs) {j x : Int32} (i : Nat) (vs' : List Value) (hj0 : ¬ j < 0) (hj : j.toNatClampNeg = i) (hi : i.blt vs.length = true) (hvs : vs.set i (.int (nar .boolean x)) = vs') (hd : decode c.code pc = .ok (.bastore, 1))
    (K : ∀ T' h', Stand p l e R s m args below meth c T' (locs ++ [⟨a, i⟩]) cells slots → T'.heap = h' → Wr h h' a i (.int (nar .boolean x)) → AL Z h' a kc .boolean vs' → Go p.tables e below G (T'.setTop (mkF m (pc + 1) Ls rest))) : Go p.tables e below G (T.setTop (mkF m pc Ls (.int x :: .int j :: .ref a :: rest))) := by
  obtain ⟨cl, Ar, -, q2, -⟩ := A.arr
  have hi' : i < vs.length := by simpa [Nat.blt_eq] using hi
  refine zastore X hx hZ eT Ar (inb q2 hj0 hj hi') hd ?_
  rw [hj]
  exact fun T' h' X' e' W => K T' h' X' e' W (A.set W vs' hvs)
theorem caloadL (X : Stand p l e R s m args below meth c T locs cells slots) (hx : p.tables.exec = Jvm.exec) (hZ : Z.Warmed39 s.vm) (eT : T.heap = h) (A : AL Z h a kc .char vs) {j : Int32} (i : Nat) (v : Value) (hj0 : ¬ j < 0) (hj : j.toNatClampNeg = i) (hv : vs[i]? = some v) (hd : decode c.code pc = .ok (.caload, 1)) (K : Go p.tables e below G (T.setTop (mkF m (pc + 1) Ls (v :: rest)))) : Go p.tables e below G (T.setTop (mkF m pc Ls (.int j :: .ref a :: rest))) := by
  obtain ⟨cl, Ar, -, q2, q3⟩ := A.arr
  exact caload X hx hZ eT v Ar (inb q2 hj0 hj (List.getElem?_eq_some_iff.mp hv).1) (by rw [hj, q3]; exact hv) hd K
theorem baloadL (X : Stand p l e R s m args below meth c T locs cells slots) (hx : p.tables.exec = Jvm.exec) (hZ : Z.Warmed39 s.vm) (eT : T.heap = h) (A : AL Z h a kc .byte vs) {j : Int32} (i : Nat) (v : Value) (hj0 : ¬ j < 0) (hj : j.toNatClampNeg = i) (hv : vs[i]? = some v) (hd : decode c.code pc = .ok (.baload, 1)) (K : Go p.tables e below G (T.setTop (mkF m (pc + 1) Ls (v :: rest)))) : Go p.tables e below G (T.setTop (mkF m pc Ls (.int j :: .ref a :: rest))) := by
  obtain ⟨cl, Ar, -, q2, q3⟩ := A.arr
  exact baload X hx hZ eT v Ar (inb q2 hj0 hj (List.getElem?_eq_some_iff.mp hv).1) (by rw [hj, q3]; exact hv) hd K
theorem zaloadL (X : Stand p l e R s m args below meth c T locs cells slots) (hx : p.tables.exec = Jvm.exec) (hZ : Z.Warmed39 s.vm) (eT : T.heap = h) (A : AL Z h a kc .boolean vs) {j : Int32} (i : Nat) (v : Value) (hj0 : ¬ j < 0) (hj : j.toNatClampNeg = i) (hv : vs[i]? = some v) (hd : decode c.code pc = .ok (.baload, 1)) (K : Go p.tables e below G (T.setTop (mkF m (pc + 1) Ls (v :: rest)))) : Go p.tables e below G (T.setTop (mkF m pc Ls (.int j :: .ref a :: rest))) := by
  obtain ⟨cl, Ar, -, q2, q3⟩ := A.arr
  exact zaload X hx hZ eT v Ar (inb q2 hj0 hj (List.getElem?_eq_some_iff.mp hv).1) (by rw [hj, q3]; exact hv) hd K
theorem aaloadL (X : Stand p l e R s m args below meth c T locs cells slots) (hx : p.tables.exec = Jvm.exec) (hZ : Z.Warmed39 s.vm) (eT : T.heap = h) {ty : FieldType} (A : AL Z h a kc ty vs) (hty : ty.isReference = true) {j : Int32} (i : Nat) (v : Value) (hj0 : ¬ j < 0) (hj : j.toNatClampNeg = i) (hv : vs[i]? = some v) (hd : decode c.code pc = .ok (.aaload, 1)) (K : Go p.tables e below G (T.setTop (mkF m (pc + 1) Ls (v :: rest)))) : Go p.tables e below G (T.setTop (mkF m pc Ls (.int j :: .ref a :: rest))) := by
  obtain ⟨cl, Ar, -, q2, q3⟩ := A.arr
  exact aaload X hx hZ eT v Ar hty (inb q2 hj0 hj (List.getElem?_eq_some_iff.mp hv).1) (by rw [hj, q3]; exact hv) hd K
theorem lengthL (X : Stand p l e R s m args below meth c T locs cells slots) (hx : p.tables.exec = Jvm.exec) (hZ : Z.Warmed39 s.vm) (eT : T.heap = h) {ty : FieldType} (A : AL Z h a kc ty vs) (N : Int32) (hN : vs.length.toInt32 = N) (hd : decode c.code pc = .ok (.arraylength, 1)) (K : Go p.tables e below G (T.setTop (mkF m (pc + 1) Ls (.int N :: rest)))) : Go p.tables e below G (T.setTop (mkF m pc Ls (.ref a :: rest))) := by
  obtain ⟨cl, Ar, -, q2, -⟩ := A.arr
  exact arraylength X hx hZ eT N Ar (by rw [q2]; exact hN) hd K
/-- a place where roads meet with an int on the stack: first what lies behind it, then the roads -/
theorem joinI (X : Stand p l e R s m args below meth c T locs cells slots) (eT : T.heap = h) (P : Int32 → Prop) (pcJ : Nat) {st : List Value}
    (J : ∀ v T', Stand p l e R s m args below meth c T' locs cells slots → T'.heap = h → P v → Go p.tables e below G (T'.setTop (mkF m pcJ Ls (.int v :: st))))
    (K : (∀ v T', Stand p l e R s m args below meth c T' locs cells slots → T'.heap = h → P v → Go p.tables e below G (T'.setTop (mkF m pcJ Ls (.int v :: st)))) → Go p.tables e below G (T.setTop (mkF m pc Ls st))) : Go p.tables e below G (T.setTop (mkF m pc Ls st)) := K J
/-- .. with other locals and nothing new on the stack -/
theorem join0 (X : Stand p l e R s m args below meth c T locs cells slots) (eT : T.heap = h) (P : Array Slot → Prop) (pcJ : Nat) {st : List Value}
    (J : ∀ L2 T', Stand p l e R s m args below meth c T' locs cells slots → T'.heap = h → P L2 → Go p.tables e below G (T'.setTop (mkF m pcJ L2 st)))
    (K : (∀ L2 T', Stand p l e R s m args below meth c T' locs cells slots → T'.heap = h → P L2 → Go p.tables e below G (T'.setTop (mkF m pcJ L2 st))) → Go p.tables e below G (T.setTop (mkF m pc Ls st))) : Go p.tables e below G (T.setTop (mkF m pc Ls st)) := K J
end ALsteps
end Jvm.Ow
namespace Jvm.Ow
open Sem ClassFile Op Lib Jvm.Stand Jvm.Free Jvm.LawKit Jvm.RoadKit
/-- what a walk that may load literals bears besides its Stand over (s.setVm vm0): s is the method's start, h the heap at hand -/
def Wd (s Z : State) (EL : List (String × Nat)) (vm0 : Vm) (h : Heap) : Prop := (∃ k0, s.Since vm0 k0 ∧ k0 ≤ h.size) ∧ Z.Warmed39 vm0 ∧ CHr Z EL s.vm s.heap vm0 h
section Wides
variable {s Z : State} {EL : List (String × Nat)} {vm0 vm1 : Vm} {h h' : Heap}
theorem Wd.hZ (D : Wd s Z EL vm0 h) : Z.Warmed39 vm0 := D.2.1
theorem Wd.ch (D : Wd s Z EL vm0 h) : CHv Z EL vm0 h := D.2.2.1
theorem Wd.start (hZ : Z.Warmed39 s.vm) (H : CHv Z EL s.vm s.heap) : Wd s Z EL s.vm s.heap := ⟨⟨_, (State.WarmedH.refl s).since s.heap.size, Nat.le_refl _⟩, hZ, CHr.refl H⟩
theorem Wd.to (D : Wd s Z EL vm0 h) (C : CHr Z EL vm0 h vm0 h') : Wd s Z EL vm0 h' := by
  obtain ⟨⟨k0, h1, h2⟩, h3, h4⟩ := D
  exact ⟨⟨k0, h1, Nat.le_trans h2 C.2.1⟩, h3, h4.trans C⟩
theorem Wd.ext (D : Wd s Z EL vm0 h) (E : Ext h h') : Wd s Z EL vm0 h' := D.to (CHr.ext E D.ch)
theorem Wd.wr (D : Wd s Z EL vm0 h) {a : Addr} {sl : Nat} {v : Value} (W : Wr h h' a sl v) (S : Safe Z EL vm0 h a) : Wd s Z EL vm0 h' := D.to (CHr.wr W S D.ch)
theorem Wd.keep (D : Wd s Z EL vm0 h) {ws : List Addr} (K : Keep h h' ws) (S : ∀ x ∈ ws, Safe Z EL vm0 h x) : Wd s Z EL vm0 h' := D.to (CHr.keep K S D.ch)
theorem Wd.safeExt (D : Wd s Z EL vm0 h) (E : Ext h h') {x : Addr} (S : Safe Z EL vm0 h x) : Safe Z EL vm0 h' x := S.ext E D.ch
theorem Wd.safeNew (D : Wd s Z EL vm0 h) (E : Ext h h') : Safe Z EL vm0 h' h.size := (Safe.new (Nat.le_refl _)).ext E D.ch
theorem Wd.safeWr (D : Wd s Z EL vm0 h) {a : Addr} {sl : Nat} {v : Value} (W : Wr h h' a sl v) (S : Safe Z EL vm0 h a) {x : Addr} (Sx : Safe Z EL vm0 h x) : Safe Z EL vm0 h' x := Safe.wr W S D.ch Sx
theorem Wd.safeKeep (D : Wd s Z EL vm0 h) {ws : List Addr} (K : Keep h h' ws) (S : ∀ x ∈ ws, Safe Z EL vm0 h x) {x : Addr} (Sx : Safe Z EL vm0 h x) : Safe Z EL vm0 h' x := Sx.keep K S D.ch
/-- what a wide contract says of its end -/
abbrev EndW (Z : State) (EL : List (String × Nat)) (s : State) (Q : Option Value → Heap → List Loc → Prop) (k n : Nat) : Outcome → State → Prop := fun o t => ∃ v L, o = .returned v ∧ Q v t.heap L ∧ CHr Z EL s.vm s.heap t.vm t.heap ∧ ReturnedEndW s o t L k n
variable {p : Program} {l : Launch} {e : Env} {R : Room} {m : MethodId} {args : Array Value} {below : List Frame} {meth : Method} {c : Code} {T : State} {locs : List Loc} {cells slots : Nat} {pc pc' : Nat} {Ls : Array Slot} {rest : List Value} {Q : Option Value → Heap → List Loc → Prop} {k n : Nat} {a0 : Array Value}
theorem sbn_mono {s t : State} {o : Outcome} {L : List Loc} {k n k' n' : Nat} (h : ReturnedEndW s o t L k n) (hk : k ≤ k') (hn : n ≤ n') : ReturnedEndW s o t L k' n' := ⟨h.1, h.2.1, h.2.2.1, h.2.2.2.mono hk hn⟩
theorem fin_ofW (X : Stand p l e R (s.setVm vm0) m args below meth c T locs cells slots) (eT : T.heap = h) (D : Wd s Z EL vm0 h) (hEL : EW Z a0 EL) (hlk : meth.locks = false) {v : Option Value} (hv : meth.sig.returnType = none → v = none) {g : JFrame} (st : ∀ fs, (∀ (f : JFrame) (acts : List Action), f.method = m → f.locked = none → f.entered = [] → (doReturn e (T.setTop f) acts v).1 = T.setFrames fs) → Steps p.tables e below (T.setTop g) (T.setFrames fs)) (hQ : Q v T.heap locs) (hk : cells ≤ k) (hn : slots ≤ n) : Go p.tables e below (EndW Z EL s Q k n) (T.setTop g) := by
  subst eT
  obtain ⟨⟨k0, hS, hk0⟩, hZ, C⟩ := D
  have A : CHr Z EL s.vm s.heap T.vm T.heap := C.trans (CHv.at X hZ hEL C.1)
  obtain ⟨fs, hr, hrun, hended, hE⟩ := X.leaveW hS hk0 (v := v) hv hlk
  exact ⟨_, _, st fs hr, hrun, hended, _, _, rfl, hQ, A, sbn_mono hE hk hn⟩
theorem ireturnW (X : Stand p l e R (s.setVm vm0) m args below meth c T locs cells slots) (hx : p.tables.exec = Jvm.exec) (eT : T.heap = h) (D : Wd s Z EL vm0 h) (hEL : EW Z a0 EL) (hlk : meth.locks = false) {z : Int32} (hret : meth.sig.returnType = some .int) (hd : decode c.code pc = .ok (.ireturn, 1)) (hQ : Q (some (.int z)) T.heap locs) (hk : cells ≤ k) (hn : slots ≤ n) : Go p.tables e below (EndW Z EL s Q k n) (T.setTop (mkF m pc Ls (.int z :: rest))) :=
  fin_ofW X eT D hEL hlk (v := some (.int z)) (fun h => by rw [hret] at h; cases h) (fun fs hr => retOut X hx hret rfl (Or.inl ⟨rfl, Or.inl rfl, z, rfl⟩) hd hr) hQ hk hn
theorem nreturnW (X : Stand p l e R (s.setVm vm0) m args below meth c T locs cells slots) (hx : p.tables.exec = Jvm.exec) (eT : T.heap = h) (D : Wd s Z EL vm0 h) (hEL : EW Z a0 EL) (hlk : meth.locks = false) {z : Int32} {t : FieldType} (hret : meth.sig.returnType = some t) (ht : t = .boolean ∨ t = .byte ∨ t = .char ∨ t = .short) (hd : decode c.code pc = .ok (.ireturn, 1)) (hQ : Q (some (.int (nar t z))) T.heap locs) (hk : cells ≤ k) (hn : slots ≤ n) : Go p.tables e below (EndW Z EL s Q k n) (T.setTop (mkF m pc Ls (.int z :: rest))) :=
  fin_ofW X eT D hEL hlk (v := some (.int (nar t z))) (fun h => by rw [hret] at h; cases h) (fun fs hr => retN X hx hret ht hd hr) hQ hk hn
theorem areturnW (X : Stand p l e R (s.setVm vm0) m args below meth c T locs cells slots) (hx : p.tables.exec = Jvm.exec) (eT : T.heap = h) (D : Wd s Z EL vm0 h) (hEL : EW Z a0 EL) (hlk : meth.locks = false) {w : Value} {t : FieldType} (hret : meth.sig.returnType = some t) (ht : t.isReference = true) (hw : w.isRef = true) (hna : narrow t w = w) (hd : decode c.code pc = .ok (.areturn, 1)) (hQ : Q (some w) T.heap locs) (hk : cells ≤ k) (hn : slots ≤ n) : Go p.tables e below (EndW Z EL s Q k n) (T.setTop (mkF m pc Ls (w :: rest))) :=
  fin_ofW X eT D hEL hlk (v := some w) (fun h => by rw [hret] at h; cases h) (fun fs hr => retOut X hx hret hna (Or.inr (Or.inr (Or.inr (Or.inr ⟨rfl, ht, hw⟩)))) hd hr) hQ hk hn
theorem vreturnW (X : Stand p l e R (s.setVm vm0) m args below meth c T locs cells slots) (hx : p.tables.exec = Jvm.exec) (eT : T.heap = h) (D : Wd s Z EL vm0 h) (hEL : EW Z a0 EL) (hlk : meth.locks = false) (hret : meth.sig.returnType = none) (hd : decode c.code pc = .ok (.return_, 1)) (hQ : Q none T.heap locs) (hk : cells ≤ k) (hn : slots ≤ n) : Go p.tables e below (EndW Z EL s Q k n) (T.setTop (mkF m pc Ls [])) :=
  fin_ofW X eT D hEL hlk (v := none) (fun _ => rfl) (fun fs hr => X.returnOut hx hret hd hr) hQ hk hn
/-- ldc of a literal whose text is held -/
theorem ldcS {G : Outcome → State → Prop} (X : Stand p l e R (s.setVm vm0) m args below meth c T locs cells slots) (hx : p.tables.exec = Jvm.exec) (eT : T.heap = h) (D : Wd s Z EL vm0 h) (hEL : EW Z a0 EL) {own text : String} {index : Nat} (hown : vm0.findClass own = some m.cls) (w : (Cond.stringLink own index text).before a0 Z = true) (wS : ∀ a ∈ Bundle.stringAtoms, a.before a0 Z = true) (hmem : (own, index) ∈ EL)
    {vs : List Value} {z : Int32} (ht : (∀ c ∈ text.toList, c.toNat < 256) ∧ text.toList.map (fun c => Value.int (Jvm.Lit.byteI c.toNat.toUInt16)) = vs) (hz : ¬ z < 0) (hl : z.toNatClampNeg = vs.length) (hd : decode c.code pc = .ok (.ldc index, 2)) (n : Nat) (hn : 4 * text.toList.length ≤ n) (hbig : n ≤ 536870912) (hc : cells + 2 ≤ R.cells) (hl' : slots + (n + 4) ≤ R.slots)
    (K : ∀ (vm1 : Vm) (a : Addr) (T' : State) (h' : Heap) (b : Addr) (kc : ClassId), Stand p l e R (s.setVm vm1) m args below meth c T' locs (cells + 2) (slots + (n + 4)) → T'.heap = h' → Ext h h' → Wd s Z EL vm1 h' → vm1.findClass own = some m.cls → CHr Z EL vm0 h vm1 h' →
      Exa Z h' a "java/lang/String" → Fld Z h' a "java/lang/String" "coder" "B" (.int 0) → Fld Z h' a "java/lang/String" "value" "[B" (.ref b) → Arv Z h' b kc .byte z vs (.int 0) → (∀ x, Safe Z EL vm1 h' x → x ≠ a ∧ x ≠ b) → Go p.tables e below G (T'.setTop (mkF m (pc + 2) Ls (.ref a :: rest)))) : Go p.tables e below G (T.setTop (mkF m pc Ls rest)) := by
  obtain ⟨⟨k0, hS, hk0⟩, hZ, C⟩ := D
  obtain ⟨a, T', h', k1, b, kc, X', e', E, hS', hk1, hW, hf, A, F1, F2, V, -, -, C', -, hne, st⟩ := ldcCH X hx hZ hown w wS eT hS hk0 hEL hmem C.1 ht hz hl (g := mkF m pc Ls rest) rfl hd hn hbig hc hl'
  exact (K T'.vm a T' h' b kc X' e' E ⟨⟨k1, hS', hk1⟩, hW, C.trans C'⟩ hf C' A F1 F2 V hne).via st
/-- ldc of any literal, its text unread -/
theorem ldcO {G : Outcome → State → Prop} (X : Stand p l e R (s.setVm vm0) m args below meth c T locs cells slots) (hx : p.tables.exec = Jvm.exec) (eT : T.heap = h) (D : Wd s Z EL vm0 h) (hEL : EW Z a0 EL) {own text : String} {index : Nat} (hown : vm0.findClass own = some m.cls) (w : (Cond.stringLink own index text).before a0 Z = true) (wS : ∀ a ∈ Bundle.stringAtoms, a.before a0 Z = true)
    (hd : decode c.code pc = .ok (.ldc index, 2)) (n : Nat) (hn : 4 * text.toList.length ≤ n) (hbig : n ≤ 536870912) (hc : cells + 2 ≤ R.cells) (hl' : slots + (n + 4) ≤ R.slots)
    (K : ∀ (vm1 : Vm) (a : Addr) (T' : State) (h' : Heap), Stand p l e R (s.setVm vm1) m args below meth c T' locs (cells + 2) (slots + (n + 4)) → T'.heap = h' → Ext h h' → Wd s Z EL vm1 h' → vm1.findClass own = some m.cls → CHr Z EL vm0 h vm1 h' → Go p.tables e below G (T'.setTop (mkF m (pc + 2) Ls (.ref a :: rest)))) : Go p.tables e below G (T.setTop (mkF m pc Ls rest)) := by
  obtain ⟨⟨k0, hS, hk0⟩, hZ, C⟩ := D
  obtain ⟨a, T', h', k1, X', e', E, hS', hk1, hW, hf, C', -, st⟩ := ldcOH X hx hZ hown w wS eT hS hk0 hEL C.1 (g := mkF m pc Ls rest) rfl hd hn hbig hc hl'
  exact (K T'.vm a T' h' X' e' E ⟨⟨k1, hS', hk1⟩, hW, C.trans C'⟩ hf C').via st
end Wides
section PaysW
/-- a wide contract; the cells sf are none of a booked literal's -/
def PayW (l : Launch) (Z : State) (EL : List (String × Nat)) (sf : List Addr) (y : MethodName) (bytes : ByteArray) (maxL : Nat) (ret : Option FieldType) (rm : Room) (as' : Array Value) (h0 : Heap) (Q : Option Value → Heap → List Loc → Prop) : Prop :=
  ∀ ws : List Jvm.Cond, MetFree l y (head1 (Jvm.Cond.code y bytes maxL ret :: ws) rm) (fun a U => a = as' ∧ Z.Warmed39 U.vm ∧ U.heap = h0 ∧ CHv Z EL U.vm h0 ∧ ∀ x ∈ sf, Safe Z EL U.vm h0 x) (fun _ _ _ _ _ => True) (fun _ U o U' => ∃ v L, o = .returned v ∧ Q v U'.heap L ∧ CHr Z EL U.vm U.heap U'.vm U'.heap ∧ ReturnedEndW U o U' L rm.cells rm.slots)
variable {l : Launch} {Z : State} {EL : List (String × Nat)} {sf : List Addr} {y : MethodName} {bytes : ByteArray} {maxL : Nat} {ret : Option FieldType} {rm : Room} {as' : Array Value} {h0 : Heap} {Q : Option Value → Heap → List Loc → Prop}
theorem PayW.of {Ls : Array Slot} (hpn : plainFor y = true) (hef : ∀ m, entryFrame m as' maxL = mkF m 0 Ls [])
    (body : ∀ (p : Program) (e : Env) (s : State) (m : MethodId) (below : List Frame) (meth : Method) (c : Code) (T : State) (vm0 : Vm), p.tables.exec = Jvm.exec → c.code = bytes → c.maxLocals = maxL → vm0.findClass y.cls = some m.cls → s.methodNamed? y = some m → s.vm.method? m = some meth → meth.sig.returnType = ret → meth.locks = false → Stand p l e rm (s.setVm vm0) m as' below meth c T [] 0 0 → T.heap = h0 → Wd s Z EL vm0 h0 → (∀ x ∈ sf, Safe Z EL vm0 h0 x) →
      Go p.tables e below (EndW Z EL s Q rm.cells rm.slots) (T.setTop (mkF m 0 Ls []))) : PayW l Z EL sf y bytes maxL ret rm as' h0 Q := by
  intro ws
  refine MetFree.of_bodySF hpn hisR ?_
  intro p e s m args below meth c s₁ Bd hml0 hP hK
  obtain ⟨rfl, hZ, hh, H, hsf⟩ := hP
  rw [hef m]
  subst hh
  exact body p e s m below meth c s₁ s.vm Bd.exec Bd.bytes hml0 (findClass_of_methodNamed Bd.named) Bd.named Bd.method Bd.returns Bd.notSynchronized (Stand.of_body Bd) (by rw [Bd.state]; rfl) (Wd.start hZ H) hsf
variable {p : Program} {e : Env} {R : Room} {s : State} {vm0 : Vm} {m : MethodId} {args : Array Value} {below : List Frame} {meth : Method} {c : Code} {T : State} {locs : List Loc} {cells slots : Nat} {G : Outcome → State → Prop} {pc : Nat} {Ls : Array Slot} {a0 : Array Value}
/-- its payer -/
theorem backW {len W : Nat} (hP : PayW l Z EL sf y bytes maxL ret rm as' h0 Q) (hZ : Z.Warmed39 vm0) (wc : (Cond.code y bytes maxL ret).before a0 Z = true) (wz : (Cond.initialized y.cls).before a0 Z = true) (hf : rm.frames + 1 ≤ R.frames) (hl : W + (maxL + 11) + rm.locals ≤ R.locals) (hEL : EW Z a0 EL) (H : CHv Z EL vm0 h0) (hsf : ∀ x ∈ sf, x < h0.size ∧ Safe Z EL vm0 h0 x) :
    BackS l R p e below (s.setVm vm0) args y len W (fun A a => a = as' ∧ A.U.heap = h0 ∧ A.cells + rm.cells ≤ R.cells ∧ A.slots + rm.slots ≤ R.slots)
      (fun A _ v B => ∃ L, Q v B.U.heap L ∧ B.locs = A.locs ++ L ∧ B.cells = A.cells + rm.cells ∧ B.slots = A.slots + rm.slots ∧ CHr Z EL vm0 h0 B.U.vm B.U.heap) := by
  have at' : ∀ (m : MethodId) (meth : Method) (c : Code) (A : Pt), Stand p l e R (s.setVm vm0) m args below meth c A.U A.locs A.cells A.slots → Z.Warmed39 A.U.vm ∧ CHr Z EL vm0 h0 A.U.vm h0 := fun m meth c A Y => ⟨wtrans (s := s.setVm vm0) hZ Y.warmed, CHv.at Y hZ hEL H⟩
  refine BackS.of_freeW (bytes := bytes) (maxL := maxL) (ret := ret) (E := fun _ first o t L k n => k = rm.cells ∧ n = rm.slots ∧ (∃ v, o = .returned v ∧ Q v t.heap L) ∧ CHr Z EL first.vm first.heap t.vm t.heap) (hP []) hf hl ?_ ?_ (fun _ _ _ _ _ _ _ _ _ => trivial) ?_ ?_
  · intro m meth c A a Y hp
    have hU := (at' m meth c A Y).1
    refine ⟨?_, mv hU wc, mv hU wz, hp.2.2.1, hp.2.2.2⟩
    show (Cond.and _ .tt).before a A.U = true
    rw [Cond.before_and, mv hU wc]; rfl
  · intro m meth c A a g mk Y hp
    obtain ⟨hU, hC⟩ := at' m meth c A Y
    exact ⟨hp.1, hU, hp.2.1, hC.1, fun x hx => hC.safe (hsf x hx).1 (hsf x hx).2⟩
  · rintro _ _ _ _ ⟨v, L, h1, h2, h3, h4⟩
    exact ⟨L, _, _, h4, rfl, rfl, ⟨v, h1, h2⟩, h3⟩
  · rintro m meth c A a g mk v t L k n Y hp _ _ ⟨e1, e2, ⟨v', e3, e4⟩, e5⟩
    cases e3; subst e1 e2
    refine ⟨L, e4, rfl, rfl, rfl, (at' m meth c A Y).2.trans ?_⟩
    rw [← hp.2.1]; exact e5
/-- invokestatic by a wide contract -/
theorem callSW (X : Stand p l e R (s.setVm vm0) m args below meth c T locs cells slots) (hx : p.tables.exec = Jvm.exec) (hP : PayW l Z EL sf y bytes maxL ret rm as' h0 Q) (eT : T.heap = h0) (D : Wd s Z EL vm0 h0) (hEL : EW Z a0 EL) (hsf : ∀ x ∈ sf, x < h0.size ∧ Safe Z EL vm0 h0 x) {own : String} {index : Nat} (hown : vm0.findClass own = some m.cls)
    (wl : (Cond.methodLink own index y).before a0 Z = true) (wst : (Cond.static y).before a0 Z = true) (wz : (Cond.initialized y.cls).before a0 Z = true) (wc : (Cond.code y bytes maxL ret).before a0 Z = true)
    (hy : y.cls ≠ "java/lang/invoke/MethodHandle" ∧ y.cls ≠ "java/lang/invoke/VarHandle") {ps : List FieldType} {rt : Option FieldType} (hpd : parseMethodDescriptor y.desc = some ⟨ps, rt⟩) (hsz : Ls.size = c.maxLocals)
    {argsL rest st : List Value} (has : argsL.toArray = as') (hlen : argsL.length = ps.length) (hst : st = argsL.reverse ++ rest) (hd : decode c.code pc = .ok (.invokestatic index, 3))
    (hf : (rm.frames + 1).ble R.frames = true) (hlo : ((rest.map fun v => v.category).sum + (maxL + 11) + rm.locals).ble R.locals = true) (hce : cells + rm.cells ≤ R.cells) (hsl : slots + rm.slots ≤ R.slots)
    (K : ∀ (v : Option Value) (vm1 : Vm) (T' : State) (L : List Loc), Stand p l e R (s.setVm vm1) m args below meth c T' (locs ++ L) (cells + rm.cells) (slots + rm.slots) → Q v T'.heap L → Wd s Z EL vm1 T'.heap → vm1.findClass own = some m.cls → CHr Z EL vm0 h0 vm1 T'.heap → Go p.tables e below G (T'.setTop (mkF m (pc + 3) Ls (v.toList ++ rest)))) :
    Go p.tables e below G (T.setTop (mkF m pc Ls st)) := by
  have hy' := hy
  obtain ⟨⟨k0, hS, hk0⟩, hZ, C⟩ := D
  have hZ' : Z.Warmed39 (s.setVm vm0).vm := hZ
  have hown' : (s.setVm vm0).vm.findClass own = some m.cls := hown
  obtain ⟨_, _, ⟨T1, L1, k1, n1⟩, -, X1, S1, g1, ⟨Lc, hQ, l1, y1, z1, C1⟩, st1⟩ := callSS X hx (y := y) hown' (mvT hZ' wl) (mvT hZ' wst) (mvT hZ' wz) (mvT hZ' wc) hy' (backW (W := (rest.map fun v => v.category).sum) hP hZ wc wz (Nat.le_of_ble_eq_true hf) (Nat.le_of_ble_eq_true hlo) hEL C.1 hsf) (g := mkF m pc Ls st) rfl hsz (argsL := argsL) (rest := rest) (lenOf hpd hlen) hst (by show 2 * 0 + _ ≤ _; omega) hd (fun _ _ => ⟨has, eT, hce, hsl⟩)
  dsimp only [Pt.U, Pt.locs, Pt.cells, Pt.slots] at X1 l1 y1 z1 st1 hQ S1 g1 C1
  subst l1 y1 z1
  obtain ⟨X2, S2, Z2, O2⟩ := rebS hS (by rw [← eT] at hk0; exact hk0) X1 S1 g1 hZ' hown'
  exact (K _ T1.vm _ _ X2 hQ ⟨⟨_, S2, Nat.le_refl _⟩, Z2, C.trans C1⟩ O2 C1).thru st1
/-- invokespecial of a constructor by a wide contract -/
theorem callIW (X : Stand p l e R (s.setVm vm0) m args below meth c T locs cells slots) (hx : p.tables.exec = Jvm.exec) (hP : PayW l Z EL sf y bytes maxL none rm as' h0 Q) (eT : T.heap = h0) (D : Wd s Z EL vm0 h0) (hEL : EW Z a0 EL) (hsf : ∀ x ∈ sf, x < h0.size ∧ Safe Z EL vm0 h0 x) (hni : y.name = "<init>") {own : String} {index : Nat} (hown : vm0.findClass own = some m.cls)
    (wl : (Cond.methodLink own index y).before a0 Z = true) (win : (Cond.instanceMethod y).before a0 Z = true) (wz : (Cond.initialized y.cls).before a0 Z = true) (wc : (Cond.code y bytes maxL none).before a0 Z = true)
    (hy : y.cls ≠ "java/lang/invoke/MethodHandle" ∧ y.cls ≠ "java/lang/invoke/VarHandle") {ps : List FieldType} {rt : Option FieldType} (hpd : parseMethodDescriptor y.desc = some ⟨ps, rt⟩) (hsz : Ls.size = c.maxLocals)
    {a : Addr} {argsL rest st : List Value} (has : (.ref a :: argsL).toArray = as') (hlen : argsL.length = ps.length) (hst : st = argsL.reverse ++ .ref a :: rest) (hd : decode c.code pc = .ok (.invokespecial index, 3))
    (hf : (rm.frames + 1).ble R.frames = true) (hlo : ((rest.map fun v => v.category).sum + (maxL + 11) + rm.locals).ble R.locals = true) (hce : cells + rm.cells ≤ R.cells) (hsl : slots + rm.slots ≤ R.slots)
    (K : ∀ (v : Option Value) (vm1 : Vm) (T' : State) (L : List Loc), Stand p l e R (s.setVm vm1) m args below meth c T' (locs ++ L) (cells + rm.cells) (slots + rm.slots) → Q v T'.heap L → Wd s Z EL vm1 T'.heap → vm1.findClass own = some m.cls → CHr Z EL vm0 h0 vm1 T'.heap → Go p.tables e below G (T'.setTop (mkF m (pc + 3) Ls (v.toList ++ rest)))) :
    Go p.tables e below G (T.setTop (mkF m pc Ls st)) := by
  have hy' := hy
  obtain ⟨⟨k0, hS, hk0⟩, hZ, C⟩ := D
  have hZ' : Z.Warmed39 (s.setVm vm0).vm := hZ
  have hown' : (s.setVm vm0).vm.findClass own = some m.cls := hown
  obtain ⟨_, _, ⟨T1, L1, k1, n1⟩, -, X1, S1, g1, ⟨Lc, hQ, l1, y1, z1, C1⟩, st1⟩ := X.specialBackS hx (y := y) hni hown' (mvT hZ' wl) (mvT hZ' win) (mvT hZ' wc) hy' (backW (W := (rest.map fun v => v.category).sum) hP hZ wc wz (Nat.le_of_ble_eq_true hf) (Nat.le_of_ble_eq_true hlo) hEL C.1 hsf) (g := mkF m pc Ls st) rfl hsz (Steps.refl _) (a := a) (argsL := argsL) (rest := rest) (lenOf hpd hlen) hst (by show 2 * 0 + _ ≤ _; omega) hd (fun _ _ => ⟨has, eT, hce, hsl⟩)
  dsimp only [Pt.U, Pt.locs, Pt.cells, Pt.slots] at X1 l1 y1 z1 st1 hQ S1 g1 C1
  subst l1 y1 z1
  obtain ⟨X2, S2, Z2, O2⟩ := rebS hS (by rw [← eT] at hk0; exact hk0) X1 S1 g1 hZ' hown'
  exact (K _ T1.vm _ _ X2 hQ ⟨⟨_, S2, Nat.le_refl _⟩, Z2, C.trans C1⟩ O2 C1).thru st1
/-- invokevirtual by a wide contract -/
theorem callVW (X : Stand p l e R (s.setVm vm0) m args below meth c T locs cells slots) (hx : p.tables.exec = Jvm.exec) (hP : PayW l Z EL sf y bytes maxL ret rm as' h0 Q) (eT : T.heap = h0) (D : Wd s Z EL vm0 h0) (hEL : EW Z a0 EL) (hsf : ∀ x ∈ sf, x < h0.size ∧ Safe Z EL vm0 h0 x) {C : String} {own : String} {index : Nat} (hown : vm0.findClass own = some m.cls)
    (wl : (Cond.methodLink own index y).before a0 Z = true) (wd : (Cond.declares y).before a0 Z = true) (wse : (Cond.selects C y y).before a0 Z = true) (win : (Cond.instanceMethod y).before a0 Z = true) (wz : (Cond.initialized y.cls).before a0 Z = true) (wc : (Cond.code y bytes maxL ret).before a0 Z = true)
    (hy : y.cls ≠ "java/lang/invoke/MethodHandle" ∧ y.cls ≠ "java/lang/invoke/VarHandle") {ps : List FieldType} {rt : Option FieldType} (hpd : parseMethodDescriptor y.desc = some ⟨ps, rt⟩) (hsz : Ls.size = c.maxLocals)
    {a : Addr} (E : Exa Z h0 a C) {argsL rest st : List Value} (has : (.ref a :: argsL).toArray = as') (hlen : argsL.length = ps.length) (hst : st = argsL.reverse ++ .ref a :: rest) (hd : decode c.code pc = .ok (.invokevirtual index, 3))
    (hf : (rm.frames + 1).ble R.frames = true) (hlo : ((rest.map fun v => v.category).sum + (maxL + 11) + rm.locals).ble R.locals = true) (hce : cells + rm.cells ≤ R.cells) (hsl : slots + rm.slots ≤ R.slots)
    (K : ∀ (v : Option Value) (vm1 : Vm) (T' : State) (L : List Loc), Stand p l e R (s.setVm vm1) m args below meth c T' (locs ++ L) (cells + rm.cells) (slots + rm.slots) → Q v T'.heap L → Wd s Z EL vm1 T'.heap → vm1.findClass own = some m.cls → CHr Z EL vm0 h0 vm1 T'.heap → Go p.tables e below G (T'.setTop (mkF m (pc + 3) Ls (v.toList ++ rest)))) :
    Go p.tables e below G (T.setTop (mkF m pc Ls st)) := by
  have hy' := hy
  obtain ⟨⟨k0, hS, hk0⟩, hZ, C2⟩ := D
  have hZ' : Z.Warmed39 (s.setVm vm0).vm := hZ
  have hown' : (s.setVm vm0).vm.findClass own = some m.cls := hown
  obtain ⟨cq, kq, qa, qb, qc⟩ := isOf hZ' eT E
  obtain ⟨_, _, ⟨T1, L1, k1, n1⟩, -, X1, S1, g1, ⟨Lc, hQ, l1, y1, z1, C1⟩, st1⟩ := X.virtualBackS hx (y := y) (z := y) hown' (mvT hZ' wl) (mvT hZ' wd) (notFace_of_selects (args := #[]) (mvT hZ' wse)) (mvT hZ' wse) (mvT hZ' win) hy' (backW (W := (rest.map fun v => v.category).sum) hP hZ wc wz (Nat.le_of_ble_eq_true hf) (Nat.le_of_ble_eq_true hlo) hEL C2.1 hsf) qa qc (g := mkF m pc Ls st) rfl hsz (Steps.refl _) (argsL := argsL) (rest := rest) (lenOf hpd hlen) hst (by show 2 * 0 + _ ≤ _; omega) hd (fun _ _ => ⟨has, eT, hce, hsl⟩)
  dsimp only [Pt.U, Pt.locs, Pt.cells, Pt.slots] at X1 l1 y1 z1 st1 hQ S1 g1 C1
  subst l1 y1 z1
  obtain ⟨X2, S2, Z2, O2⟩ := rebS hS (by rw [← eT] at hk0; exact hk0) X1 S1 g1 hZ' hown'
  exact (K _ T1.vm _ _ X2 hQ ⟨⟨_, S2, Nat.le_refl _⟩, Z2, C2.trans C1⟩ O2 C1).thru st1
end PaysW
end Jvm.Ow
namespace Jvm.Ow
open Sem ClassFile Op Lib Jvm.Stand Jvm.Free Jvm.LawKit Jvm.RoadKit
/-- a compact String at x, its bytes bs at t -/
def Str (Z : State) (h : Heap) (x t : Addr) (kb : ClassId) (bs : List Int32) : Prop := Exa Z h x "java/lang/String" ∧ Fld Z h x "java/lang/String" "coder" "B" (.int 0) ∧ Fld Z h x "java/lang/String" "value" "[B" (.ref t) ∧ AL Z h t kb .byte (bs.map Value.int)
section Strs
variable {Z : State} {h h' : Heap} {x t : Addr} {kb : ClassId} {bs : List Int32} {ws : List Addr}
theorem Str.ext (S : Str Z h x t kb bs) (E : Ext h h') : Str Z h' x t kb bs := ⟨S.1.ext E, S.2.1.ext E, S.2.2.1.ext E, S.2.2.2.ext E⟩
theorem Str.keep (S : Str Z h x t kb bs) (K : Keep h h' ws) (q1 : x ∉ ws) (q2 : t ∉ ws) : Str Z h' x t kb bs := ⟨S.1.keep K, S.2.1.keep K q1, S.2.2.1.keep K q1, S.2.2.2.keep K q2⟩
theorem Str.lt (S : Str Z h x t kb bs) : x < h.size := S.1.lt
theorem Str.ltB (S : Str Z h x t kb bs) : t < h.size := S.2.2.2.lt
theorem shr0 (c : Int32) : c >>> ((0 : Int32) &&& 31) = c := by
  have h : ((0 : Int32) &&& 31) = 0 := by decide
  rw [h]
  apply Int32.toBitVec_inj.mp
  simp
theorem n_cl {n : Nat} (hn : n < 2147483648) : (Int32.ofNat n).toNatClampNeg = n := by
  rw [Int32.toNatClampNeg, Int32.toInt_ofNat_of_lt hn]; rfl
theorem n_nn {n : Nat} (hn : n < 2147483648) : ¬ Int32.ofNat n < 0 := by
  rw [Int32.lt_iff_toInt_lt, Int32.toInt_ofNat_of_lt hn, show (0 : Int32).toInt = 0 from rfl]; omega
theorem n_lt {i n : Nat} (hi : i < 2147483648) (hn : n < 2147483648) : Int32.ofNat i < Int32.ofNat n ↔ i < n := by
  rw [Int32.lt_iff_toInt_lt, Int32.toInt_ofNat_of_lt hi, Int32.toInt_ofNat_of_lt hn]; omega
theorem n_one (i : Nat) : Int32.ofNat i + (1 : Int32) = Int32.ofNat (i + 1) := (Int32.ofNat_add i 1).symm
theorem n_eq {i n : Nat} (hi : i < 2147483648) (hn : n < 2147483648) : Int32.ofNat i = Int32.ofNat n ↔ i = n := by
  refine ⟨fun h => ?_, fun h => by rw [h]⟩
  have := congrArg Int32.toNatClampNeg h
  rwa [n_cl hi, n_cl hn] at this
end Strs
end Jvm.Ow
namespace Jvm.Ow
open Sem ClassFile Op Lib Jvm.Stand Jvm.Free Jvm.LawKit Jvm.RoadKit
theorem staKeep {Z : State} {h h' : Heap} {C n d : String} {v : Value} {ws : List Addr} (S : Sta Z h C n d v) (K : Keep h h' ws) (q : ∀ x ∈ ws, ∃ c : Cell, h[x]? = some c ∧ c.vm.isStatics = false) : Sta Z h' C n d v := by
  obtain ⟨cf, i, k, f, st, cell, h1, h2, h3, h4, h5, h6, h7⟩ := S
  refine ⟨cf, i, k, f, st, cell, h1, h2, h3, h4, K.2.1 st cell h5 fun hm => ?_, h6, h7⟩
  obtain ⟨c, hc, hs⟩ := q st hm
  cases h5.symm.trans hc
  rw [hs] at h6; cases h6
theorem Exa.plain {Z : State} {h : Heap} {a : Addr} {C : String} (A : Exa Z h a C) : ∃ c : Cell, h[a]? = some c ∧ c.vm.isStatics = false := by
  obtain ⟨c, _, h1, -, -, h4, -⟩ := A; exact ⟨c, h1, h4⟩
theorem AL.plain {Z : State} {h : Heap} {a : Addr} {k : ClassId} {ty : FieldType} {vs : List Value} (A : AL Z h a k ty vs) : ∃ c : Cell, h[a]? = some c ∧ c.vm.isStatics = false := by
  obtain ⟨c, A, -⟩ := A; exact ⟨c, A.1, A.plain⟩
theorem AL.safe {Z : State} {EL : List (String × Nat)} {vm : Vm} {h : Heap} {a : Addr} {k : ClassId} {ty : FieldType} {vs : List Value} (A : AL Z h a k ty vs) (hal : Z.vm.Alike vm) (ht : ty ≠ .byte) : Safe Z EL vm h a := by
  obtain ⟨c, A, -⟩ := A; exact Safe.arr hal A ht
theorem nin1 {x y : Addr} (q : x ≠ y) : x ∉ [y] := fun z => q (List.mem_singleton.mp z)
end Jvm.Ow
namespace Jvm.Ow
open Sem ClassFile Op Lib Jvm.Stand Jvm.Free Jvm.LawKit Jvm.RoadKit
section Starts
variable {args : Array Value} {s : State} {t u : Term} {x : Addr} {C n d : String} {cl : Cell} {ty : FieldType}
theorem eqI_at {k : Int32} (h : (Cond.eq t (.int k)).value args s none s [] = some true) : t.eval args s none [] s = some (.int k) := by
  simp only [Cond.value, Term.eval] at h
  cases ht : t.eval args s none [] s with
  | none => simp [ht] at h
  | some v => cases v <;> simp [ht] at h ⊢ <;> exact h
theorem eqJ_at {k : Int64} (h : (Cond.eq t (.long k)).value args s none s [] = some true) : t.eval args s none [] s = some (.long k) := by
  simp only [Cond.value, Term.eval] at h
  cases ht : t.eval args s none [] s with
  | none => simp [ht] at h
  | some v => cases v <;> simp [ht] at h ⊢ <;> exact h
theorem eqR_at (h : (Cond.eq t u).value args s none s [] = some true) (hu : u.eval args s none [] s = some (.ref x)) : t.eval args s none [] s = some (.ref x) := by
  simp only [Cond.value, hu] at h
  cases ht : t.eval args s none [] s with
  | none => simp [ht] at h
  | some v => cases v <;> simp [ht] at h ⊢ <;> exact h
theorem fldI {k : Int32} (h : (Cond.eq (.field t C n d) (.int k)).value args s none s [] = some true) (ht : t.eval args s none [] s = some (.ref x)) : Fld s s.heap x C n d (.int k) := Fld.start (by rw [← fld_at ht]; exact eqI_at h)
theorem fldJ {k : Int64} (h : (Cond.eq (.field t C n d) (.long k)).value args s none s [] = some true) (ht : t.eval args s none [] s = some (.ref x)) : Fld s s.heap x C n d (.long k) := Fld.start (by rw [← fld_at ht]; exact eqJ_at h)
theorem fldR {y : Addr} (h : (Term.field t C n d).eval args s none [] s = some (.ref y)) (ht : t.eval args s none [] s = some (.ref x)) : Fld s s.heap x C n d (.ref y) := Fld.start (by rw [← fld_at ht]; exact h)
theorem lenAt {k : Int32} (h : (Cond.eq (.length t) (.int k)).value args s none s [] = some true) (ht : t.eval args s none [] s = some (.ref x)) (A : Arr s s.heap x cl ty) : cl.slots.size < 2147483648 ∧ cl.slots.size.toInt32 = k := by
  have q := eqI_at h
  have ha : s.arrayAt? x = some cl := A.fin (Vm.Alike.refl _)
  simp only [Term.eval, ht, ha, Option.bind_eq_bind, Option.bind_some] at q
  split at q
  · rename_i hl
    exact ⟨hl, by simpa using q⟩
  · cases q
theorem elemAt {k : Int32} {v : Value} (h : (Term.elem t (.int k)).eval args s none [] s = some v) (ht : t.eval args s none [] s = some (.ref x)) (A : Arr s s.heap x cl ty) : cl.slots[k.toNatClampNeg]? = some v := (elem_in h ht rfl A.1).2
end Starts
end Jvm.Ow
namespace Jvm.Ow
open Sem ClassFile Op Lib Jvm.Stand Jvm.Free Jvm.LawKit Jvm.RoadKit
section Calls
variable {l : Launch} {Z : State} {y : MethodName} {bytes : ByteArray} {maxL : Nat} {ret : Option FieldType} {rm : Room} {as' : Array Value} {h0 : Heap} {Q : Option Value → Heap → List Loc → Prop}
variable {p : Program} {e : Env} {R : Room} {s : State} {m : MethodId} {args : Array Value} {below : List Frame} {meth : Method} {c : Code} {T : State} {locs : List Loc} {cells slots : Nat} {G : Outcome → State → Prop} {pc : Nat} {Ls : Array Slot} {a0 : Array Value}
theorem callFB (X : Stand p l e R s m args below meth c T locs cells slots) (hx : p.tables.exec = Jvm.exec) (hZ : Z.Warmed39 s.vm) {a : Addr} {argsL rest st : List Value} {kc ks : Nat}
    (hK : Back l R p e below s args y 5 ((rest.map fun v => v.category).sum) (fun A a => a = as' ∧ A.U.heap = h0 ∧ A.cells + kc ≤ R.cells ∧ A.slots + ks ≤ R.slots) (fun A _ v B => ∃ L, Q v B.U.heap L ∧ B.locs = A.locs ++ L ∧ B.cells = A.cells + kc ∧ B.slots = A.slots + ks)) (eT : T.heap = h0) {C : String} {x : MethodName} {own : String} {index cnt : Nat} (hown : s.vm.findClass own = some m.cls)
    (wl : (Cond.methodLink own index x).before a0 Z = true) (wd : (Cond.declares x).before a0 Z = true) (wse : (Cond.selects C x y).before a0 Z = true) (win : (Cond.instanceMethod y).before a0 Z = true) (wf : (Cond.interfaceMethod x.cls x.cls x.name x.desc).before a0 Z = true) (wp : (Cond.publicMethod y).before a0 Z = true) (wu : (Cond.unhidden C x.name x.desc).before a0 Z = true) (wca : (Cond.castable C x.cls).before a0 Z = true)
    (hy : x.cls ≠ "java/lang/invoke/MethodHandle" ∧ x.cls ≠ "java/lang/invoke/VarHandle") {ps : List FieldType} {rt : Option FieldType} (hpd : parseMethodDescriptor x.desc = some ⟨ps, rt⟩) (hsz : Ls.size = c.maxLocals)
    (E : Exa Z h0 a C) (has : (.ref a :: argsL).toArray = as') (hlen : argsL.length = ps.length) (hst : st = argsL.reverse ++ .ref a :: rest) (hd : decode c.code pc = .ok (.invokeinterface index cnt, 5)) (hce : cells + kc ≤ R.cells) (hsl : slots + ks ≤ R.slots)
    (K : ∀ (v : Option Value) (T' : State) (L : List Loc), Stand p l e R s m args below meth c T' (locs ++ L) (cells + kc) (slots + ks) → Q v T'.heap L → Go p.tables e below G (T'.setTop (mkF m (pc + 5) Ls (v.toList ++ rest)))) :
    Go p.tables e below G (T.setTop (mkF m pc Ls st)) := by
  obtain ⟨cq, kq, qa, qb, qc⟩ := isOf hZ eT E
  obtain ⟨_, _, ⟨T1, L1, k1, n1⟩, -, X1, ⟨Lc, hQ, l1, y1, z1⟩, st1⟩ := X.interfaceBack hx (xi := x) (y := y) hown (mvT hZ wl) (mvT hZ wd) (mvT hZ wf (by simp [Cond.onTables, Cond.keepsFace, Cond.keeps, Cond.steady, Cond.faceAtom, hy.1, hy.2])) (mvT hZ wse) (mvT hZ win) (mvT hZ wp) (mvT hZ wu) (mvT hZ wca) hy hK qa qb qc (g := mkF m pc Ls st) rfl hsz (Steps.refl _) (argsL := argsL) (rest := rest) (lenOf hpd hlen) hst (by show 2 * 0 + _ ≤ _; omega) hd (fun _ _ => ⟨has, eT, hce, hsl⟩)
  dsimp only [Pt.U, Pt.locs, Pt.cells, Pt.slots] at X1 l1 y1 z1 st1 hQ
  subst l1 y1 z1
  exact (K _ _ _ X1 hQ).thru st1
/-- invokeinterface by a narrow contract -/
theorem callF (X : Stand p l e R s m args below meth c T locs cells slots) (hx : p.tables.exec = Jvm.exec) (hZ : Z.Warmed39 s.vm) (hP : Pay l Z y bytes maxL ret rm as' h0 Q) (eT : T.heap = h0) {C : String} {x : MethodName} {own : String} {index cnt : Nat} (hown : s.vm.findClass own = some m.cls)
    (wl : (Cond.methodLink own index x).before a0 Z = true) (wd : (Cond.declares x).before a0 Z = true) (wse : (Cond.selects C x y).before a0 Z = true) (win : (Cond.instanceMethod y).before a0 Z = true) (wf : (Cond.interfaceMethod x.cls x.cls x.name x.desc).before a0 Z = true) (wp : (Cond.publicMethod y).before a0 Z = true) (wu : (Cond.unhidden C x.name x.desc).before a0 Z = true) (wca : (Cond.castable C x.cls).before a0 Z = true) (wz : (Cond.initialized y.cls).before a0 Z = true) (wc : (Cond.code y bytes maxL ret).before a0 Z = true)
    (hy : x.cls ≠ "java/lang/invoke/MethodHandle" ∧ x.cls ≠ "java/lang/invoke/VarHandle") {ps : List FieldType} {rt : Option FieldType} (hpd : parseMethodDescriptor x.desc = some ⟨ps, rt⟩) (hsz : Ls.size = c.maxLocals)
    {a : Addr} (E : Exa Z h0 a C) {argsL rest st : List Value} (has : (.ref a :: argsL).toArray = as') (hlen : argsL.length = ps.length) (hst : st = argsL.reverse ++ .ref a :: rest) (hd : decode c.code pc = .ok (.invokeinterface index cnt, 5))
    (hf : (rm.frames + 1).ble R.frames = true) (hlo : ((rest.map fun v => v.category).sum + (maxL + 11) + rm.locals).ble R.locals = true) (hce : cells + rm.cells ≤ R.cells) (hsl : slots + rm.slots ≤ R.slots)
    (K : ∀ (v : Option Value) (T' : State) (L : List Loc), Stand p l e R s m args below meth c T' (locs ++ L) (cells + rm.cells) (slots + rm.slots) → Q v T'.heap L → Go p.tables e below G (T'.setTop (mkF m (pc + 5) Ls (v.toList ++ rest)))) :
    Go p.tables e below G (T.setTop (mkF m pc Ls st)) :=
  callFB X hx hZ (backOf (W := (rest.map fun v => v.category).sum) (hP []) hZ wc wz (Nat.le_of_ble_eq_true hf) (Nat.le_of_ble_eq_true hlo)) eT hown wl wd wse win wf wp wu wca hy hpd hsz E has hlen hst hd hce hsl K
/-- .. that moves nothing -/
theorem callFP (X : Stand p l e R s m args below meth c T locs cells slots) (hx : p.tables.exec = Jvm.exec) (hZ : Z.Warmed39 s.vm) {r : Option Value} (hP : Pay l Z y bytes maxL ret rm as' h0 (fun v h L => v = r ∧ h = h0 ∧ L = [])) (h0c : rm.cells = 0) (h0s : rm.slots = 0) (eT : T.heap = h0) {C : String} {x : MethodName} {own : String} {index cnt : Nat} (hown : s.vm.findClass own = some m.cls)
    (wl : (Cond.methodLink own index x).before a0 Z = true) (wd : (Cond.declares x).before a0 Z = true) (wse : (Cond.selects C x y).before a0 Z = true) (win : (Cond.instanceMethod y).before a0 Z = true) (wf : (Cond.interfaceMethod x.cls x.cls x.name x.desc).before a0 Z = true) (wp : (Cond.publicMethod y).before a0 Z = true) (wu : (Cond.unhidden C x.name x.desc).before a0 Z = true) (wca : (Cond.castable C x.cls).before a0 Z = true) (wz : (Cond.initialized y.cls).before a0 Z = true) (wc : (Cond.code y bytes maxL ret).before a0 Z = true)
    (hy : x.cls ≠ "java/lang/invoke/MethodHandle" ∧ x.cls ≠ "java/lang/invoke/VarHandle") {ps : List FieldType} {rt : Option FieldType} (hpd : parseMethodDescriptor x.desc = some ⟨ps, rt⟩) (hsz : Ls.size = c.maxLocals)
    {a : Addr} (E : Exa Z h0 a C) {argsL rest st : List Value} (has : (.ref a :: argsL).toArray = as') (hlen : argsL.length = ps.length) (hst : st = argsL.reverse ++ .ref a :: rest) (hd : decode c.code pc = .ok (.invokeinterface index cnt, 5))
    (hf : (rm.frames + 1).ble R.frames = true) (hlo : ((rest.map fun v => v.category).sum + (maxL + 11) + rm.locals).ble R.locals = true) (hce : cells ≤ R.cells) (hsl : slots ≤ R.slots)
    (K : ∀ (T' : State), Stand p l e R s m args below meth c T' locs cells slots → T'.heap = h0 → Go p.tables e below G (T'.setTop (mkF m (pc + 5) Ls (r.toList ++ rest)))) :
    Go p.tables e below G (T.setTop (mkF m pc Ls st)) := by
  refine callF X hx hZ hP eT hown wl wd wse win wf wp wu wca wz wc hy hpd hsz E has hlen hst hd hf hlo (by rw [h0c]; exact hce) (by rw [h0s]; exact hsl) ?_
  rintro v T' L X' ⟨rfl, hh, rfl⟩
  rw [h0c, h0s, List.append_nil] at X'
  exact K T' X' hh
end Calls
end Jvm.Ow
/- laws to paste: Road.backV, Road.lenW, pair_says, narrow_ch, lo8_mask, shr0 (cut by pick.py; bodies as the Statement names them) -/
namespace Jvm.Pilot.@@N@@
namespace StrChars
open Jvm Sem ClassFile Op Lib Jvm.Stand Jvm.Free.XT Jvm.Free.ALB Jvm.Free.JM Jvm.Free
open Jvm.Lib.Cold (StaticIs)
/-- a char array whose places are chars -/
def Ch (a : Addr) (A : Cell) (U : State) : Prop := Arr .char a A U ∧ Typed .char A
theorem Ch.mv {a : Addr} {A : Cell} {U U' : State} (h : Ch a A U) (hal : U.vm.Alike U'.vm) (hh : U'.heap = U.heap) : Ch a A U' := ⟨h.1.mv hal hh, h.2⟩
theorem Ch.keep {a : Addr} {A : Cell} {U U' : State} (h : Ch a A U) (hal : U.vm.Alike U'.vm) (hk : U'.heap[a]? = some A) : Ch a A U' := ⟨h.1.keep hal hk, h.2⟩
/-- what place i of a char[]'s cell holds -/
def cv (A : Cell) (i : Nat) : Int32 := match A.slots[i]? with | some (.int x) => x | _ => 0
theorem Ch.get {a : Addr} {A : Cell} {U : State} (h : Ch a A U) {i : Nat} (hi : i < A.slots.size) : A.slots[i]? = some (.int (cv A i)) := by
  have e := Array.getElem?_eq_getElem hi
  have f := h.2 i _ e
  unfold cv; rw [e]
  generalize A.slots[i] = v at f
  cases v <;> simp [fits] at f ⊢
/-- the byte that i2b leaves of a char -/
def lo8 (x : Int32) : Int32 := x.toInt8.toInt32
theorem fits_lo8 (y : Int32) : fits .byte (.int (lo8 y)) = true := by
  have h1 := y.toInt8.le_toInt
  have h2 := y.toInt8.toInt_lt
  simp only [lo8, fits, Bool.and_eq_true, decide_eq_true_eq, Int32.le_iff_toInt_le, Int8.toInt_toInt32, show (-128 : Int32).toInt = -128 from by decide, show (127 : Int32).toInt = 127 from by decide]
  omega
/-- A' is A but that each place j of lo .. hi - 1 holds f j -/
def Laid (A A' : Cell) (lo hi : Nat) (f : Nat → Value) : Prop := A'.cls = A.cls ∧ A'.vm = A.vm ∧ A'.slots.size = A.slots.size ∧ ∀ i, A'.slots[i]? = if lo ≤ i ∧ i < hi then some (f i) else A.slots[i]?
theorem Laid.zero (A : Cell) (lo : Nat) (f : Nat → Value) : Laid A A lo (lo + 0) f := ⟨rfl, rfl, rfl, fun i => by rw [if_neg (by omega)]⟩
theorem Laid.step {A Ak : Cell} {lo k : Nat} {f : Nat → Value} {v : Value} (h : Laid A Ak lo k f) (hlo : lo ≤ k) (hk : k < Ak.slots.size) (hv : v = f k) : Laid A (Ak.setSlot k v) lo (k + 1) f := by
  refine ⟨h.1, h.2.1, by simpa [Cell.setSlot] using h.2.2.1, fun i => ?_⟩
  by_cases e : k = i
  · subst e; rw [Cell.slots_setSlot_self v hk, if_pos (by omega), hv]
  · rw [Cell.slots_setSlot_ne v e, h.2.2.2 i]
    by_cases q : lo ≤ i ∧ i < k
    · rw [if_pos q, if_pos (by omega)]
    · rw [if_neg q, if_neg (by omega)]
def U16 : String := "java/lang/StringUTF16"
namespace Cmp5
def yN : MethodName := ⟨"java/lang/StringUTF16", "compress", "([CI[BII)I"⟩
abbrev yB : ByteArray := jdk_52_method_21_code
theorem d0 : decode yB 0 = .ok (.iconst 0, 1) := by decide +kernel
theorem d1 : decode yB 1 = .ok (.istore 5, 2) := by decide +kernel
theorem d3 : decode yB 3 = .ok (.iload 5, 2) := by decide +kernel
theorem d5 : decode yB 5 = .ok (.iload 4, 2) := by decide +kernel
theorem d7 : decode yB 7 = .ok (.if_icmp (.ge) 37, 3) := by decide +kernel
theorem d10 : decode yB 10 = .ok (.aload_n 0, 1) := by decide +kernel
theorem d11 : decode yB 11 = .ok (.iload_n 1, 1) := by decide +kernel
theorem d12 : decode yB 12 = .ok (.caload, 1) := by decide +kernel
theorem d13 : decode yB 13 = .ok (.istore 6, 2) := by decide +kernel
theorem d15 : decode yB 15 = .ok (.iload 6, 2) := by decide +kernel
theorem d17 : decode yB 17 = .ok (.sipush 255, 3) := by decide +kernel
theorem d20 : decode yB 20 = .ok (.if_icmp (.le) 6, 3) := by decide +kernel
theorem d26 : decode yB 26 = .ok (.aload_n 2, 1) := by decide +kernel
theorem d27 : decode yB 27 = .ok (.iload_n 3, 1) := by decide +kernel
theorem d28 : decode yB 28 = .ok (.iload 6, 2) := by decide +kernel
theorem d30 : decode yB 30 = .ok (.i2b, 1) := by decide +kernel
theorem d31 : decode yB 31 = .ok (.bastore, 1) := by decide +kernel
theorem d32 : decode yB 32 = .ok (.iinc 1 1, 3) := by decide +kernel
theorem d35 : decode yB 35 = .ok (.iinc 3 1, 3) := by decide +kernel
theorem d38 : decode yB 38 = .ok (.iinc 5 1, 3) := by decide +kernel
theorem d41 : decode yB 41 = .ok (.goto (-38), 3) := by decide +kernel
theorem d44 : decode yB 44 = .ok (.iload 4, 2) := by decide +kernel
theorem d46 : decode yB 46 = .ok (.ireturn, 1) := by decide +kernel
def site : List Cond := []
def tab : Cond := tabOf yN yB 7 (some .int) site
def P (b : Addr) (A : Cell) (d : Addr) (B : Cell) (o q len : Nat) (args : Array Value) (s : State) : Prop := args = #[.ref b, .int (Int32.ofNat o), .ref d, .int (Int32.ofNat q), .int (Int32.ofNat len)] ∧ Ch b A s ∧ Arr .byte d B s ∧ b ≠ d ∧ o + len ≤ A.slots.size ∧ q + len ≤ B.slots.size ∧ ∀ i, i < len → ¬ 255 < cv A (o + i)
def E (b : Addr) (A : Cell) (d : Addr) (B : Cell) (o q len : Nat) (r : Option Value) (s u : State) : Prop := r = some (.int (Int32.ofNat len)) ∧ ∃ B', Put d B' s u ∧ Laid B B' q (q + len) (fun j => Value.int (lo8 (cv A (o + (j - q)))))
/-- no char of the range above 255: len; the places written hold each char's low byte -/
theorem law (l : Launch) (b : Addr) (A : Cell) (d : Addr) (B : Cell) (o q len : Nat) : Law l yN 5 5 0 0 yB 7 (some .int) site (P b A d B o q len) (E b A d B o q len) (copyLocs d q len) 0 0 := by
  refine Law.of_walk (plainFor_of_name (by decide +kernel)) (by decide +kernel) (by decide +kernel) (by decide) (fun _ _ h => by rw [h.1]; rfl) (fun _ U U' hal hh h => ⟨h.1, h.2.1.mv hal hh, h.2.2.1.mv hal hh, h.2.2.2⟩) (fun r U U' V V' h1 hal h2 h => ⟨h.1, h.2.elim fun B' q => ⟨B', q.1.mv h1 h2, q.2⟩⟩) ?_
  intro p e s m args below meth c s₁ X0 hexec hbytes hml hret hlk hnm hown hh0 W hP
  obtain ⟨rfl, hA, hB, hne, l1, l2, hp⟩ := hP
  have c1 : Steps p.tables e below (s₁.setTop (entryFrame m #[.ref b, .int (Int32.ofNat o), .ref d, .int (Int32.ofNat q), .int (Int32.ofNat len)] 7)) (s₁.setTop (mkF m 0 #[.val (.ref b), .val (.int (Int32.ofNat o)), .val (.ref d), .val (.int (Int32.ofNat q)), .val (.int (Int32.ofNat len)), .unset, .unset] [])) := entry rfl
  have hA0 := hA.1.mv X0.warmed.alike hh0
  have hB0 := hB.mv X0.warmed.alike hh0
  have a31 := hA.1.2.2.2
  have c2 : Steps p.tables e below (s₁.setTop (entryFrame m #[.ref b, .int (Int32.ofNat o), .ref d, .int (Int32.ofNat q), .int (Int32.ofNat len)] 7)) (s₁.setTop (mkF m 3 #[.val (.ref b), .val (.int (Int32.ofNat o)), .val (.ref d), .val (.int (Int32.ofNat q)), .val (.int (Int32.ofNat len)), .val (.int 0), .unset] [])) := c1.trans (by
    refine iconstV X0.here hexec rfl 0 (hb hbytes d0) (by decide) ?_
    refine XS.istore X0.here hexec rfl (hb hbytes d1) rfl rfl ?_
    exact Steps.refl _)
  have loop : ∀ (r i : Nat), i + r = len → ∀ (z : Slot), (z = .unset ∨ ∃ w, z = .val w ∧ w.category = 1) → ∀ (Tl : State) (Bk : Cell), Stand p l e { frames := 0, locals := 0, cells := 0, slots := 0 } s m #[.ref b, .int (Int32.ofNat o), .ref d, .int (Int32.ofNat q), .int (Int32.ofNat len)] below meth c Tl ([] ++ copyLocs d q i) 0 0 → Put d Bk s₁ Tl → Laid B Bk q (q + i) (fun j => Value.int (lo8 (cv A (o + (j - q))))) →
      Steps p.tables e below (s₁.setTop (entryFrame m #[.ref b, .int (Int32.ofNat o), .ref d, .int (Int32.ofNat q), .int (Int32.ofNat len)] 7)) (Tl.setTop (mkF m 3 #[.val (.ref b), .val (.int (Int32.ofNat (o + i))), .val (.ref d), .val (.int (Int32.ofNat (q + i))), .val (.int (Int32.ofNat len)), .val (.int (Int32.ofNat i)), z] [])) → ∃ (T' : State) (B' : Cell) (z' : Slot), Stand p l e { frames := 0, locals := 0, cells := 0, slots := 0 } s m #[.ref b, .int (Int32.ofNat o), .ref d, .int (Int32.ofNat q), .int (Int32.ofNat len)] below meth c T' ([] ++ copyLocs d q len) 0 0 ∧ Put d B' s₁ T' ∧ Laid B B' q (q + len) (fun j => Value.int (lo8 (cv A (o + (j - q))))) ∧
      Steps p.tables e below (s₁.setTop (entryFrame m #[.ref b, .int (Int32.ofNat o), .ref d, .int (Int32.ofNat q), .int (Int32.ofNat len)] 7)) (T'.setTop (mkF m 3 #[.val (.ref b), .val (.int (Int32.ofNat (o + len))), .val (.ref d), .val (.int (Int32.ofNat (q + len))), .val (.int (Int32.ofNat len)), .val (.int (Int32.ofNat len)), z'] [])) := by
    intro r
    induction r with
    | zero =>
      intro i hi z hz Tl Bk Xl pl fl cl
      have hil : i = len := by omega
      rw [hil] at Xl fl cl
      exact ⟨Tl, Bk, z, Xl, pl, fl, cl⟩
    | succ r ih =>
      intro i hi z hz Tl Bk Xl pl fl cl
      have all := X0.warmed.alike.symm.trans Xl.warmed.alike
      have hAl := hA0.keep all (pl.other hne hA0.1)
      have hBk := hB0.like all pl.1 fl.1 fl.2.1 fl.2.2.1
      have hlt : q + i < Bk.slots.size := by rw [fl.2.2.1]; omega
      have c3 : Steps p.tables e below (s₁.setTop (entryFrame m #[.ref b, .int (Int32.ofNat o), .ref d, .int (Int32.ofNat q), .int (Int32.ofNat len)] 7)) (Tl.setTop (mkF m 12 #[.val (.ref b), .val (.int (Int32.ofNat (o + i))), .val (.ref d), .val (.int (Int32.ofNat (q + i))), .val (.int (Int32.ofNat len)), .val (.int (Int32.ofNat i)), z] [.int (Int32.ofNat (o + i)), .ref b])) := cl.trans (by
        refine XS.iload Xl.here hexec rfl (hb hbytes d3) rfl ?_
        refine XS.iload Xl.here hexec rfl (hb hbytes d5) rfl ?_
        refine XS.icmpNo Xl.here hexec rfl (hb hbytes d7) rfl (ii_ge_f (lt32 (by omega) (by omega))) ?_
        refine XS.aloadN Xl.here hexec rfl (hb hbytes d10) rfl rfl ?_
        refine XS.iloadN Xl.here hexec rfl (hb hbytes d11) rfl ?_
        exact Steps.refl _)
      have c4 : Steps p.tables e below (s₁.setTop (entryFrame m #[.ref b, .int (Int32.ofNat o), .ref d, .int (Int32.ofNat q), .int (Int32.ofNat len)] 7)) (Tl.setTop (mkF m 13 #[.val (.ref b), .val (.int (Int32.ofNat (o + i))), .val (.ref d), .val (.int (Int32.ofNat (q + i))), .val (.int (Int32.ofNat len)), .val (.int (Int32.ofNat i)), z] [.int (cv A (o + i))])) := c3.trans (by
        refine Xl.aget hexec hAl rfl (hA.get (i := o + i) (by omega)) rfl rfl (hb hbytes d12) ?_
        exact Steps.refl _)
      have c5 : Steps p.tables e below (s₁.setTop (entryFrame m #[.ref b, .int (Int32.ofNat o), .ref d, .int (Int32.ofNat q), .int (Int32.ofNat len)] 7)) (Tl.setTop (mkF m 15 #[.val (.ref b), .val (.int (Int32.ofNat (o + i))), .val (.ref d), .val (.int (Int32.ofNat (q + i))), .val (.int (Int32.ofNat len)), .val (.int (Int32.ofNat i)), .val (.int (cv A (o + i)))] [])) := c4.trans (by
        refine XS.istoreS Xl.here hexec rfl (hb hbytes d13) rfl rfl hz ?_
        exact Steps.refl _)
      have c6 : Steps p.tables e below (s₁.setTop (entryFrame m #[.ref b, .int (Int32.ofNat o), .ref d, .int (Int32.ofNat q), .int (Int32.ofNat len)] 7)) (Tl.setTop (mkF m 31 #[.val (.ref b), .val (.int (Int32.ofNat (o + i))), .val (.ref d), .val (.int (Int32.ofNat (q + i))), .val (.int (Int32.ofNat len)), .val (.int (Int32.ofNat i)), .val (.int (cv A (o + i)))] [.int (lo8 (cv A (o + i))), .int (Int32.ofNat (q + i)), .ref d])) := c5.trans (by
        refine XS.iload Xl.here hexec rfl (hb hbytes d15) rfl ?_
        refine sipushV Xl.here hexec rfl 255 (hb hbytes d17) (by decide) ?_
        refine XS.icmpYes Xl.here hexec rfl (pc0 := 20) rfl (hb hbytes d20) rfl (ii_le_t (hp i (by omega))) (by decide) rfl ?_
        refine XS.aloadN Xl.here hexec rfl (hb hbytes d26) rfl rfl ?_
        refine XS.iloadN Xl.here hexec rfl (hb hbytes d27) rfl ?_
        refine XS.iload Xl.here hexec rfl (hb hbytes d28) rfl ?_
        refine i2b Xl.here hexec rfl (hb hbytes d30) rfl ?_
        exact Steps.refl _)
      obtain ⟨T7, X7, p7, st7⟩ := Xl.aput hexec hBk rfl hlt rfl (fits_lo8 (cv A (o + i))) (g := (mkF m 31 #[.val (.ref b), .val (.int (Int32.ofNat (o + i))), .val (.ref d), .val (.int (Int32.ofNat (q + i))), .val (.int (Int32.ofNat len)), .val (.int (Int32.ofNat i)), .val (.int (cv A (o + i)))] [.int (lo8 (cv A (o + i))), .int (Int32.ofNat (q + i)), .ref d])) rfl (rest := []) rfl (hb hbytes d31)
      have c8 : Steps p.tables e below (s₁.setTop (entryFrame m #[.ref b, .int (Int32.ofNat o), .ref d, .int (Int32.ofNat q), .int (Int32.ofNat len)] 7)) (T7.setTop (mkF m 32 #[.val (.ref b), .val (.int (Int32.ofNat (o + i))), .val (.ref d), .val (.int (Int32.ofNat (q + i))), .val (.int (Int32.ofNat len)), .val (.int (Int32.ofNat i)), .val (.int (cv A (o + i)))] [])) := c6.trans (st7 _ (Steps.refl _))
      have c9 : Steps p.tables e below (s₁.setTop (entryFrame m #[.ref b, .int (Int32.ofNat o), .ref d, .int (Int32.ofNat q), .int (Int32.ofNat len)] 7)) (T7.setTop (mkF m 3 #[.val (.ref b), .val (.int (Int32.ofNat (o + i) + 1)), .val (.ref d), .val (.int (Int32.ofNat (q + i) + 1)), .val (.int (Int32.ofNat len)), .val (.int (Int32.ofNat i + 1)), .val (.int (cv A (o + i)))] [])) := c8.trans (by
        refine iincV X7.here hexec rfl 1 (hb hbytes d32) (by decide) rfl rfl ?_
        refine iincV X7.here hexec rfl 1 (hb hbytes d35) (by decide) rfl rfl ?_
        refine iincV X7.here hexec rfl 1 (hb hbytes d38) (by decide) rfl rfl ?_
        refine XS.goto X7.here hexec rfl (pc0 := 41) rfl (hb hbytes d41) (by decide) rfl ?_
        exact Steps.refl _)
      have c10 : Steps p.tables e below (s₁.setTop (entryFrame m #[.ref b, .int (Int32.ofNat o), .ref d, .int (Int32.ofNat q), .int (Int32.ofNat len)] 7)) (T7.setTop (mkF m 3 #[.val (.ref b), .val (.int (Int32.ofNat (o + (i + 1)))), .val (.ref d), .val (.int (Int32.ofNat (q + (i + 1)))), .val (.int (Int32.ofNat len)), .val (.int (Int32.ofNat (i + 1))), .val (.int (cv A (o + i)))] [])) := by
        have := c9
        rw [succ32, succ32, succ32] at this
        exact this
      exact ih (i + 1) (by omega) _ (Or.inr ⟨_, rfl, rfl⟩) T7 _ (by rw [copyLocs_step, ← List.append_assoc]; exact X7) (pl.trans p7) (fl.step (by omega) hlt (by simp)) c10
  obtain ⟨T9, B9, z9, X9, p9, f9, g9⟩ := loop len 0 (by omega) .unset (Or.inl rfl) s₁ B (by simpa [copyLocs] using X0) ⟨hB0.1, fun _ _ => rfl, rfl⟩ (Laid.zero _ _ _) c2
  have c11 : Steps p.tables e below (s₁.setTop (entryFrame m #[.ref b, .int (Int32.ofNat o), .ref d, .int (Int32.ofNat q), .int (Int32.ofNat len)] 7)) (T9.setTop (mkF m 46 #[.val (.ref b), .val (.int (Int32.ofNat (o + len))), .val (.ref d), .val (.int (Int32.ofNat (q + len))), .val (.int (Int32.ofNat len)), .val (.int (Int32.ofNat len)), z9] [.int (Int32.ofNat len)])) := g9.trans (by
    refine XS.iload X9.here hexec rfl (hb hbytes d3) rfl ?_
    refine XS.iload X9.here hexec rfl (hb hbytes d5) rfl ?_
    refine XS.icmpYes X9.here hexec rfl (pc0 := 7) rfl (hb hbytes d7) rfl (ii_ge_t (nlt32 (by omega) (Nat.le_refl _))) (by decide) rfl ?_
    refine XS.iload X9.here hexec rfl (hb hbytes d44) rfl ?_
    exact Steps.refl _)
  exact ⟨T9, some (.int (Int32.ofNat len)), _, _, _, X9, by simp, rfl, rfl, (fun h => by cases h), ⟨rfl, B9, p9.from hh0, f9⟩, fun fs hl => c11.trans (X9.ireturnOut hexec hret rfl (Or.inl rfl) (hb hbytes d46) hl)⟩
end Cmp5
namespace Cmp3
def yN : MethodName := ⟨"java/lang/StringUTF16", "compress", "([CII)[B"⟩
abbrev yB : ByteArray := jdk_52_method_16_code
theorem d0 : decode yB 0 = .ok (.iload_n 2, 1) := by decide +kernel
theorem d1 : decode yB 1 = .ok (.newarray .byte, 2) := by decide +kernel
theorem d3 : decode yB 3 = .ok (.astore_n 3, 1) := by decide +kernel
theorem d4 : decode yB 4 = .ok (.aload_n 0, 1) := by decide +kernel
theorem d5 : decode yB 5 = .ok (.iload_n 1, 1) := by decide +kernel
theorem d6 : decode yB 6 = .ok (.aload_n 3, 1) := by decide +kernel
theorem d7 : decode yB 7 = .ok (.iconst 0, 1) := by decide +kernel
theorem d8 : decode yB 8 = .ok (.iload_n 2, 1) := by decide +kernel
theorem d9 : decode yB 9 = .ok (.invokestatic 115, 3) := by decide +kernel
theorem d12 : decode yB 12 = .ok (.istore 4, 2) := by decide +kernel
theorem d14 : decode yB 14 = .ok (.iload 4, 2) := by decide +kernel
theorem d16 : decode yB 16 = .ok (.iload_n 2, 1) := by decide +kernel
theorem d17 : decode yB 17 = .ok (.if_icmp (.eq) 40, 3) := by decide +kernel
theorem d57 : decode yB 57 = .ok (.aload_n 3, 1) := by decide +kernel
theorem d58 : decode yB 58 = .ok (.areturn, 1) := by decide +kernel
def site : List Cond := [.arrayClass .byte, Cmp5.tab] ++ staticW U16 115 Cmp5.yN
def tab : Cond := tabOf yN yB 6 (some (.array .byte)) site
def P (b : Addr) (A : Cell) (o len : Nat) (args : Array Value) (s : State) : Prop := args = #[.ref b, .int (Int32.ofNat o), .int (Int32.ofNat len)] ∧ Ch b A s ∧ o + len ≤ A.slots.size ∧ len ≤ 536870912 ∧ ∀ i, i < len → ¬ 255 < cv A (o + i)
def E (b : Addr) (A : Cell) (o len : Nat) (r : Option Value) (s u : State) : Prop := NewArr .byte "[B" len (fun j => .int (lo8 (cv A (o + j)))) r s u ∧ u.heap.size = s.heap.size + 1
/-- no char of the range above 255: a new byte[] of their low bytes -/
theorem law (l : Launch) (b : Addr) (A : Cell) (o len : Nat) : Law l yN 3 3 1 18 yB 6 (some (.array .byte)) site (P b A o len) (E b A o len) [] 1 len := by
  refine Law.of_walk (plainFor_of_name (by decide +kernel)) (by decide +kernel) (by decide +kernel) (by decide) (fun _ _ h => by rw [h.1]; rfl) (fun _ U U' hal hh h => ⟨h.1, h.2.1.mv hal hh, h.2.2⟩) (fun r U U' V V' h1 hal h2 h => ⟨NewArr.mv r U U' V V' h1 hal h2 h.1, by rw [h1, h2]; exact h.2⟩) ?_
  intro p e s m args below meth c s₁ X0 hexec hbytes hml hret hlk hnm hown hh0 W hP
  obtain ⟨rfl, hA, l1, l2, hp⟩ := hP
  have a31 := hA.1.2.2.2
  have c1 : Steps p.tables e below (s₁.setTop (entryFrame m #[.ref b, .int (Int32.ofNat o), .int (Int32.ofNat len)] 6)) (s₁.setTop (mkF m 0 #[.val (.ref b), .val (.int (Int32.ofNat o)), .val (.int (Int32.ofNat len)), .unset, .unset, .unset] [])) := entry rfl
  have c2 : Steps p.tables e below (s₁.setTop (entryFrame m #[.ref b, .int (Int32.ofNat o), .int (Int32.ofNat len)] 6)) (s₁.setTop (mkF m 1 #[.val (.ref b), .val (.int (Int32.ofNat o)), .val (.int (Int32.ofNat len)), .unset, .unset, .unset] [.int (Int32.ofNat len)])) := c1.trans (by
    refine XS.iloadN X0.here hexec rfl (hb hbytes d0) rfl ?_
    exact Steps.refl _)
  obtain ⟨T3, B3, X3, ba3, bs3, bv3, bh3, bf3, st3⟩ := X0.anew hexec (atype := .byte) (wk W (.arrayClass .byte)) rfl (by show len * 1 ≤ _; omega) (by omega) (g := (mkF m 1 #[.val (.ref b), .val (.int (Int32.ofNat o)), .val (.int (Int32.ofNat len)), .unset, .unset, .unset] [.int (Int32.ofNat len)])) rfl (hb hbytes d1) (rest := []) rfl (Nat.le_refl _) (by show 0 + len ≤ len; omega)
  rw [hh0] at ba3 st3
  have kp3 : XT.Kept s T3 := (XT.Kept.of_eq hh0).push bh3
  have hA3 := hA.keep X3.warmed.alike (kp3 _ _ hA.1.1)
  have hne : b ≠ s.heap.size := hA.1.ne
  have c4 : Steps p.tables e below (s₁.setTop (entryFrame m #[.ref b, .int (Int32.ofNat o), .int (Int32.ofNat len)] 6)) (T3.setTop (mkF m 3 #[.val (.ref b), .val (.int (Int32.ofNat o)), .val (.int (Int32.ofNat len)), .unset, .unset, .unset] [.ref s.heap.size])) := c2.trans (st3 _ (Steps.refl _))
  have c5 : Steps p.tables e below (s₁.setTop (entryFrame m #[.ref b, .int (Int32.ofNat o), .int (Int32.ofNat len)] 6)) (T3.setTop (mkF m 9 #[.val (.ref b), .val (.int (Int32.ofNat o)), .val (.int (Int32.ofNat len)), .val (.ref s.heap.size), .unset, .unset] [.int (Int32.ofNat len), .int 0, .ref s.heap.size, .int (Int32.ofNat o), .ref b])) := c4.trans (by
    refine XS.astoreN X3.here hexec rfl (hb hbytes d3) rfl rfl rfl ?_
    refine XS.aloadN X3.here hexec rfl (hb hbytes d4) rfl rfl ?_
    refine XS.iloadN X3.here hexec rfl (hb hbytes d5) rfl ?_
    refine XS.aloadN X3.here hexec rfl (hb hbytes d6) rfl rfl ?_
    refine iconstV X3.here hexec rfl 0 (hb hbytes d7) (by decide) ?_
    refine XS.iloadN X3.here hexec rfl (hb hbytes d8) rfl ?_
    exact Steps.refl _)
  obtain ⟨v6, T6, X6, E6, g6⟩ := X3.callS hexec (Cmp5.law l b A s.heap.size B3 o 0 len) hown (wks W (staticW U16 115 Cmp5.yN)) (wk W Cmp5.tab) (W := 0) (Nat.le_of_ble_eq_true rfl) (Nat.le_of_ble_eq_true rfl) (Nat.le_refl _) (by show 0 + len + 0 ≤ len; omega) (g := (mkF m 9 #[.val (.ref b), .val (.int (Int32.ofNat o)), .val (.int (Int32.ofNat len)), .val (.ref s.heap.size), .unset, .unset] [.int (Int32.ofNat len), .int (Int32.ofNat 0), .ref s.heap.size, .int (Int32.ofNat o), .ref b])) rfl (by rw [hml]; rfl) c5 (argsL := [.ref b, .int (Int32.ofNat o), .ref s.heap.size, .int (Int32.ofNat 0), .int (Int32.ofNat len)]) (rest := []) rfl rfl (by show 2 * 0 + 0 ≤ _; decide) (hb hbytes d9) (⟨rfl, hA3, ba3, hne, l1, by rw [bs3]; simp, hp⟩)
  obtain ⟨rfl, B6, p6, f6⟩ := E6
  have c7 : Steps p.tables e below (s₁.setTop (entryFrame m #[.ref b, .int (Int32.ofNat o), .int (Int32.ofNat len)] 6)) (T6.setTop (mkF m 12 #[.val (.ref b), .val (.int (Int32.ofNat o)), .val (.int (Int32.ofNat len)), .val (.ref s.heap.size), .unset, .unset] [.int (Int32.ofNat len)])) := g6
  have c8 : Steps p.tables e below (s₁.setTop (entryFrame m #[.ref b, .int (Int32.ofNat o), .int (Int32.ofNat len)] 6)) (T6.setTop (mkF m 58 #[.val (.ref b), .val (.int (Int32.ofNat o)), .val (.int (Int32.ofNat len)), .val (.ref s.heap.size), .val (.int (Int32.ofNat len)), .unset] [.ref s.heap.size])) := c7.trans (by
    refine XS.istore X6.here hexec rfl (hb hbytes d12) rfl rfl ?_
    refine XS.iload X6.here hexec rfl (hb hbytes d14) rfl ?_
    refine XS.iloadN X6.here hexec rfl (hb hbytes d16) rfl ?_
    refine XS.icmpYes X6.here hexec rfl (pc0 := 17) rfl (hb hbytes d17) rfl (ii_eq_t rfl) (by decide) rfl ?_
    refine XS.aloadN X6.here hexec rfl (hb hbytes d57) rfl rfl ?_
    exact Steps.refl _)
  have X8 := X6.wide (L' := []) (cells' := 1) (slots' := len) (fun x hx hlt => by
    simp only [List.nil_append, copyLocs, List.mem_map, List.mem_range] at hx
    obtain ⟨i, -, rfl⟩ := hx
    exact absurd hlt (Nat.lt_irrefl _)) (Nat.le_refl _) (by omega)
  exact ⟨T6, some (.ref s.heap.size), _, _, _, X8, rfl, rfl, rfl, (fun h => by cases h), ⟨⟨rfl, B6, ba3.like (X3.warmed.alike.symm.trans X6.warmed.alike) p6.1 f6.1 f6.2.1 f6.2.2.1, f6.2.1.trans bv3, by rw [X6.warmed.alike.findClass, f6.1]; exact bf3, by rw [f6.2.2.1, bs3]; simp, fun j hj => by rw [f6.2.2.2 j, if_pos (by omega)]; rfl, kp3.put p6 (Nat.le_refl _)⟩, by rw [p6.2.2, bh3, hh0]; simp⟩, fun fs hl => c8.trans (X8.areturnOut hexec rfl hret rfl (hb hbytes d58) hl)⟩
end Cmp3
namespace CodL
def yN : MethodName := ⟨"java/lang/StringUTF16", "coderFromArrayLen", "([BI)B"⟩
abbrev yB : ByteArray := jdk_52_method_15_code
theorem d0 : decode yB 0 = .ok (.iload_n 1, 1) := by decide +kernel
theorem d1 : decode yB 1 = .ok (.aload_n 0, 1) := by decide +kernel
theorem d2 : decode yB 2 = .ok (.arraylength, 1) := by decide +kernel
theorem d3 : decode yB 3 = .ok (.isub, 1) := by decide +kernel
theorem d4 : decode yB 4 = .ok (.bipush 31, 2) := by decide +kernel
theorem d6 : decode yB 6 = .ok (.iushr, 1) := by decide +kernel
theorem d7 : decode yB 7 = .ok (.i2b, 1) := by decide +kernel
theorem d8 : decode yB 8 = .ok (.ireturn, 1) := by decide +kernel
def site : List Cond := []
def tab : Cond := tabOf yN yB 2 (some .byte) site
def P (d : Addr) (B : Cell) (args : Array Value) (s : State) : Prop := args = #[.ref d, .int (Int32.ofNat B.slots.size)] ∧ Arr .byte d B s
def E (r : Option Value) (s u : State) : Prop := XT.PureE (some (.int 0)) r s u
/-- an array as long as the number of chars: LATIN1 -/
theorem law (l : Launch) (d : Addr) (B : Cell) : Law l yN 2 2 0 0 yB 2 (some .byte) site (P d B) E [] 0 0 := by
  refine Law.of_walk (plainFor_of_name (by decide +kernel)) (by decide +kernel) (by decide +kernel) (by decide) (fun _ _ h => by rw [h.1]; rfl) (fun _ U U' hal hh h => ⟨h.1, h.2.mv hal hh⟩) (fun r U U' V V' h1 hal h2 h => XT.PureE.mv r U U' V V' h1 hal h2 h) ?_
  intro p e s m args below meth c s₁ X0 hexec hbytes hml hret hlk hnm hown hh0 W hP
  obtain ⟨rfl, hB⟩ := hP
  have hB0 := hB.mv X0.warmed.alike hh0
  have c1 : Steps p.tables e below (s₁.setTop (entryFrame m #[.ref d, .int (Int32.ofNat B.slots.size)] 2)) (s₁.setTop (mkF m 0 #[.val (.ref d), .val (.int (Int32.ofNat B.slots.size))] [])) := entry rfl
  have c2 : Steps p.tables e below (s₁.setTop (entryFrame m #[.ref d, .int (Int32.ofNat B.slots.size)] 2)) (s₁.setTop (mkF m 2 #[.val (.ref d), .val (.int (Int32.ofNat B.slots.size))] [.ref d, .int (Int32.ofNat B.slots.size)])) := c1.trans (by
    refine XS.iloadN X0.here hexec rfl (hb hbytes d0) rfl ?_
    refine XS.aloadN X0.here hexec rfl (hb hbytes d1) rfl rfl ?_
    exact Steps.refl _)
  have c3 : Steps p.tables e below (s₁.setTop (entryFrame m #[.ref d, .int (Int32.ofNat B.slots.size)] 2)) (s₁.setTop (mkF m 8 #[.val (.ref d), .val (.int (Int32.ofNat B.slots.size))] [.int (lo8 (ushr (Int32.ofNat B.slots.size - Int32.ofNat B.slots.size) 31))])) := c2.trans (by
    refine X0.alen hexec hB0 rfl rfl (hb hbytes d2) ?_
    refine XS.isub X0.here hexec rfl (hb hbytes d3) rfl ?_
    refine bipushV X0.here hexec rfl 31 (hb hbytes d4) (by decide) ?_
    refine iushr X0.here hexec rfl (hb hbytes d6) rfl ?_
    refine i2b X0.here hexec rfl (hb hbytes d7) rfl ?_
    exact Steps.refl _)
  have e0 : lo8 (ushr (Int32.ofNat B.slots.size - Int32.ofNat B.slots.size) 31) = 0 := by rw [Int32.sub_self]; decide
  rw [e0] at c3
  exact ⟨s₁, some (.int 0), _, _, _, X0, rfl, rfl, rfl, (fun h => by cases h), ⟨rfl, hh0⟩, fun fs hl => c3.trans (X0.ireturnOut hexec hret rfl (Or.inr (Or.inr (Or.inl rfl))) (hb hbytes d8) hl)⟩
end CodL
/-- the String at a is Latin-1 over a new byte[] (the heap's one new cell): the low bytes of the len chars of A from o on; every cell but a is kept -/
def Got (a : Addr) (D : Cell) (fV fC : Field) (A : Cell) (o len : Nat) (r : Option Value) (s u : State) : Prop := r = none ∧ ∃ D' V : Cell, Blank "java/lang/String" a D' u ∧ Same D D' [fV.slot, fC.slot] ∧ D'.slots[fV.slot]? = some (.ref s.heap.size) ∧ D'.slots[fC.slot]? = some (.int 0) ∧ Arr .byte s.heap.size V u ∧ V.vm = .none ∧ u.vm.findClass "[B" = some V.cls ∧ V.slots.size = len ∧ (∀ j, j < len → V.slots[j]? = some (.int (lo8 (cv A (o + j))))) ∧ (∀ (y : Addr) (c : Cell), y ≠ a → s.heap[y]? = some c → u.heap[y]? = some c) ∧ u.heap.size = s.heap.size + 1
theorem Got.mv {a : Addr} {D A : Cell} {fV fC : Field} {o len : Nat} : ∀ r (U U' V V' : State), U'.heap = U.heap → V.vm.Alike V'.vm → V'.heap = V.heap → Got a D fV fC A o len r U V → Got a D fV fC A o len r U' V' :=
  fun r U U' V V' h1 hal h2 ⟨e0, D', X, a1, a2, a3, a4, a5, a6, a7, a8, a9, a10, a11⟩ => ⟨e0, D', X, a1.mv hal h2, a2, by rw [h1]; exact a3, a4, by rw [h1]; exact a5.mv hal h2, a6, by rw [hal.findClass]; exact a7, a8, a9, by rw [h1, h2]; exact a10, by rw [h1, h2]; exact a11⟩
namespace New4
def yN : MethodName := ⟨"java/lang/String", "<init>", "([CIILjava/lang/Void;)V"⟩
abbrev yB : ByteArray := jdk_42_method_149_code
theorem d0 : decode yB 0 = .ok (.aload_n 0, 1) := by decide +kernel
theorem d1 : decode yB 1 = .ok (.invokespecial 1, 3) := by decide +kernel
theorem d4 : decode yB 4 = .ok (.iload_n 3, 1) := by decide +kernel
theorem d5 : decode yB 5 = .ok (.ifCond (.ne) 22, 3) := by decide +kernel
theorem d27 : decode yB 27 = .ok (.getstatic 38, 3) := by decide +kernel
theorem d30 : decode yB 30 = .ok (.ifCond (.eq) 28, 3) := by decide +kernel
theorem d33 : decode yB 33 = .ok (.aload_n 1, 1) := by decide +kernel
theorem d34 : decode yB 34 = .ok (.iload_n 2, 1) := by decide +kernel
theorem d35 : decode yB 35 = .ok (.iload_n 3, 1) := by decide +kernel
theorem d36 : decode yB 36 = .ok (.invokestatic 177, 3) := by decide +kernel
theorem d39 : decode yB 39 = .ok (.astore 5, 2) := by decide +kernel
theorem d41 : decode yB 41 = .ok (.aload_n 0, 1) := by decide +kernel
theorem d42 : decode yB 42 = .ok (.aload 5, 2) := by decide +kernel
theorem d44 : decode yB 44 = .ok (.iload_n 3, 1) := by decide +kernel
theorem d45 : decode yB 45 = .ok (.invokestatic 47, 3) := by decide +kernel
theorem d48 : decode yB 48 = .ok (.putfield 15, 3) := by decide +kernel
theorem d51 : decode yB 51 = .ok (.aload_n 0, 1) := by decide +kernel
theorem d52 : decode yB 52 = .ok (.aload 5, 2) := by decide +kernel
theorem d54 : decode yB 54 = .ok (.putfield 9, 3) := by decide +kernel
theorem d57 : decode yB 57 = .ok (.return_, 1) := by decide +kernel
def site : List Cond := [.fieldLink "java/lang/String" 38 "java/lang/String" "COMPACT_STRINGS" "Z", Cmp3.tab, CodL.tab, .laysFinal "java/lang/String" "java/lang/String" "value" "[B", .fieldLink "java/lang/String" 9 "java/lang/String" "value" "[B", .laysFinal "java/lang/String" "java/lang/String" "coder" "B", .fieldLink "java/lang/String" 15 "java/lang/String" "coder" "B"] ++ objW "java/lang/String" 1 ++ staticW "java/lang/String" 177 Cmp3.yN ++ staticW "java/lang/String" 47 CodL.yN
def tab : Cond := tabOf yN yB 6 none site
def P (a : Addr) (D : Cell) (fV fC : Field) (b : Addr) (A : Cell) (z : Int32) (o len : Nat) (args : Array Value) (s : State) : Prop := args = #[.ref a, .ref b, .int (Int32.ofNat o), .int (Int32.ofNat len), .null] ∧ Blank "java/lang/String" a D s ∧ Found "java/lang/String" "value" "[B" fV s ∧ Found "java/lang/String" "coder" "B" fC s ∧ Ch b A s ∧ StaticIs s "java/lang/String" "COMPACT_STRINGS" "Z" (.int z) ∧ ¬ z = 0 ∧ 0 < len ∧ o + len ≤ A.slots.size ∧ len ≤ 536870912 ∧ ∀ i, i < len → ¬ 255 < cv A (o + i)
def E (a : Addr) (D : Cell) (fV fC : Field) (A : Cell) (o len : Nat) (r : Option Value) (s u : State) : Prop := Got a D fV fC A o len r s u
/-- len > 0, no char of the range above 255: a Latin-1 String of their low bytes -/
theorem law (l : Launch) (a : Addr) (D : Cell) (fV fC : Field) (b : Addr) (A : Cell) (z : Int32) (o len : Nat) : Law l yN 5 4 2 35 yB 6 none site (P a D fV fC b A z o len) (E a D fV fC A o len) [⟨a, fC.slot⟩, ⟨a, fV.slot⟩] 1 len := by
  refine Law.of_walk (plainFor_of_name (by decide +kernel)) (by decide +kernel) (by decide +kernel) (by decide) (fun _ _ h => by rw [h.1]; rfl) (fun _ U U' hal hh h => ⟨h.1, h.2.1.mv hal hh, h.2.2.1.al hal, h.2.2.2.1.al hal, h.2.2.2.2.1.mv hal hh, h.2.2.2.2.2.1.there hal hh, h.2.2.2.2.2.2⟩) (fun r U U' V V' h1 hal h2 h => Got.mv r U U' V V' h1 hal h2 h) ?_
  intro p e s m args below meth c s₁ X0 hexec hbytes hml hret hlk hnm hown hh0 W hP
  obtain ⟨rfl, hB, f1, f2, hA, s1, hz, l0, l1, l2, hp⟩ := hP
  have a31 := hA.1.2.2.2
  have c1 : Steps p.tables e below (s₁.setTop (entryFrame m #[.ref a, .ref b, .int (Int32.ofNat o), .int (Int32.ofNat len), .null] 6)) (s₁.setTop (mkF m 0 #[.val (.ref a), .val (.ref b), .val (.int (Int32.ofNat o)), .val (.int (Int32.ofNat len)), .val .null, .unset] [])) := entry rfl
  have c2 : Steps p.tables e below (s₁.setTop (entryFrame m #[.ref a, .ref b, .int (Int32.ofNat o), .int (Int32.ofNat len), .null] 6)) (s₁.setTop (mkF m 1 #[.val (.ref a), .val (.ref b), .val (.int (Int32.ofNat o)), .val (.int (Int32.ofNat len)), .val .null, .unset] [.ref a])) := c1.trans (by
    refine XS.aloadN X0.here hexec rfl (hb hbytes d0) rfl rfl ?_
    exact Steps.refl _)
  obtain ⟨T3, X3, q3, st3⟩ := X0.oinit hexec hown (wks W (objW "java/lang/String" 1)) (g := (mkF m 1 #[.val (.ref a), .val (.ref b), .val (.int (Int32.ofNat o)), .val (.int (Int32.ofNat len)), .val .null, .unset] [.ref a])) rfl (by rw [hml]; rfl) (rest := []) rfl (hb hbytes d1) (W := 0) (by show 2 * 0 + 0 ≤ _; decide) (Nat.le_of_ble_eq_true rfl) (Nat.le_of_ble_eq_true rfl)
  have hh3 := q3.trans hh0
  have c4 : Steps p.tables e below (s₁.setTop (entryFrame m #[.ref a, .ref b, .int (Int32.ofNat o), .int (Int32.ofNat len), .null] 6)) (T3.setTop (mkF m 27 #[.val (.ref a), .val (.ref b), .val (.int (Int32.ofNat o)), .val (.int (Int32.ofNat len)), .val .null, .unset] [])) := (c2.trans (st3 _ (Steps.refl _))).trans (by
    refine XS.iloadN X3.here hexec rfl (hb hbytes d4) rfl ?_
    refine XS.ifYes X3.here hexec rfl (pc0 := 5) rfl (hb hbytes d5) rfl (i0_ne_t (nz32 (by omega) l0)) (by decide) rfl ?_
    exact Steps.refl _)
  obtain ⟨T5, X5, q5, st5⟩ := X3.sget hexec hown (wk W (.fieldLink "java/lang/String" 38 "java/lang/String" "COMPACT_STRINGS" "Z")) s1 (fun _ _ h => by rw [hh3]; exact h) (g := (mkF m 27 #[.val (.ref a), .val (.ref b), .val (.int (Int32.ofNat o)), .val (.int (Int32.ofNat len)), .val .null, .unset] [])) rfl (hb hbytes d27)
  have hh5 := q5.trans hh3
  have c6 : Steps p.tables e below (s₁.setTop (entryFrame m #[.ref a, .ref b, .int (Int32.ofNat o), .int (Int32.ofNat len), .null] 6)) (T5.setTop (mkF m 30 #[.val (.ref a), .val (.ref b), .val (.int (Int32.ofNat o)), .val (.int (Int32.ofNat len)), .val .null, .unset] [.int z])) := c4.trans (st5 _ (Steps.refl _))
  have c7 : Steps p.tables e below (s₁.setTop (entryFrame m #[.ref a, .ref b, .int (Int32.ofNat o), .int (Int32.ofNat len), .null] 6)) (T5.setTop (mkF m 36 #[.val (.ref a), .val (.ref b), .val (.int (Int32.ofNat o)), .val (.int (Int32.ofNat len)), .val .null, .unset] [.int (Int32.ofNat len), .int (Int32.ofNat o), .ref b])) := c6.trans (by
    refine XS.ifNo X5.here hexec rfl (hb hbytes d30) rfl (i0_eq_f hz) ?_
    refine XS.aloadN X5.here hexec rfl (hb hbytes d33) rfl rfl ?_
    refine XS.iloadN X5.here hexec rfl (hb hbytes d34) rfl ?_
    refine XS.iloadN X5.here hexec rfl (hb hbytes d35) rfl ?_
    exact Steps.refl _)
  obtain ⟨v8, T8, X8, E8, g8⟩ := X5.callS hexec (Cmp3.law l b A o len) hown (wks W (staticW "java/lang/String" 177 Cmp3.yN)) (wk W Cmp3.tab) (W := 0) (Nat.le_of_ble_eq_true rfl) (Nat.le_of_ble_eq_true rfl) (Nat.le_refl _) (by show 0 + len ≤ len; omega) (g := (mkF m 36 #[.val (.ref a), .val (.ref b), .val (.int (Int32.ofNat o)), .val (.int (Int32.ofNat len)), .val .null, .unset] [.int (Int32.ofNat len), .int (Int32.ofNat o), .ref b])) rfl (by rw [hml]; rfl) c7 (argsL := [.ref b, .int (Int32.ofNat o), .int (Int32.ofNat len)]) (rest := []) rfl rfl (by show 2 * 0 + 0 ≤ _; decide) (hb hbytes d36) (⟨rfl, hA.mv X5.warmed.alike hh5, l1, l2, hp⟩)
  obtain ⟨e8, z8⟩ := E8
  obtain ⟨rfl, N, n1, n2, n3, n4, n5, n6⟩ := NewArr.mv _ T5 s _ _ hh5.symm (Vm.Alike.refl _) rfl e8
  rw [hh5] at z8
  have hB1 := hB.keep X8.warmed.alike (n6 _ _ hB.1)
  have hne : s.heap.size ≠ a := (Nat.ne_of_lt (Array.getElem?_eq_some_iff.mp hB.1).1).symm
  have c9 : Steps p.tables e below (s₁.setTop (entryFrame m #[.ref a, .ref b, .int (Int32.ofNat o), .int (Int32.ofNat len), .null] 6)) (T8.setTop (mkF m 39 #[.val (.ref a), .val (.ref b), .val (.int (Int32.ofNat o)), .val (.int (Int32.ofNat len)), .val .null, .unset] [.ref s.heap.size])) := g8
  have c10 : Steps p.tables e below (s₁.setTop (entryFrame m #[.ref a, .ref b, .int (Int32.ofNat o), .int (Int32.ofNat len), .null] 6)) (T8.setTop (mkF m 45 #[.val (.ref a), .val (.ref b), .val (.int (Int32.ofNat o)), .val (.int (Int32.ofNat len)), .val .null, .val (.ref s.heap.size)] [.int (Int32.ofNat N.slots.size), .ref s.heap.size, .ref a])) := by
    have hc : Steps p.tables e below (s₁.setTop (entryFrame m #[.ref a, .ref b, .int (Int32.ofNat o), .int (Int32.ofNat len), .null] 6)) (T8.setTop (mkF m 45 #[.val (.ref a), .val (.ref b), .val (.int (Int32.ofNat o)), .val (.int (Int32.ofNat len)), .val .null, .val (.ref s.heap.size)] [.int (Int32.ofNat len), .ref s.heap.size, .ref a])) := c9.trans (by
      refine XS.astore X8.here hexec rfl (hb hbytes d39) rfl rfl rfl ?_
      refine XS.aloadN X8.here hexec rfl (hb hbytes d41) rfl rfl ?_
      refine XS.aload X8.here hexec rfl (hb hbytes d42) rfl rfl ?_
      refine XS.iloadN X8.here hexec rfl (hb hbytes d44) rfl ?_
      exact Steps.refl _)
    rw [n4]; exact hc
  obtain ⟨v11, T11, X11, E11, g11⟩ := X8.callS hexec (CodL.law l s.heap.size N) hown (wks W (staticW "java/lang/String" 47 CodL.yN)) (wk W CodL.tab) (W := 1) (Nat.le_of_ble_eq_true rfl) (Nat.le_of_ble_eq_true rfl) (Nat.le_refl _) (by show 0 + len + 0 ≤ len; omega) (g := (mkF m 45 #[.val (.ref a), .val (.ref b), .val (.int (Int32.ofNat o)), .val (.int (Int32.ofNat len)), .val .null, .val (.ref s.heap.size)] [.int (Int32.ofNat N.slots.size), .ref s.heap.size, .ref a])) rfl (by rw [hml]; rfl) c10 (argsL := [.ref s.heap.size, .int (Int32.ofNat N.slots.size)]) (rest := [.ref a]) rfl rfl (by show 2 * 0 + (1 + 0) ≤ _; decide) (hb hbytes d45) (⟨rfl, n1⟩)
  obtain ⟨rfl, q11⟩ := E11
  have hB11 := hB1.mv (X8.warmed.alike.symm.trans X11.warmed.alike) q11
  have c12 : Steps p.tables e below (s₁.setTop (entryFrame m #[.ref a, .ref b, .int (Int32.ofNat o), .int (Int32.ofNat len), .null] 6)) (T11.setTop (mkF m 48 #[.val (.ref a), .val (.ref b), .val (.int (Int32.ofNat o)), .val (.int (Int32.ofNat len)), .val .null, .val (.ref s.heap.size)] [.int 0, .ref a])) := g11
  obtain ⟨T13, X13, p13, bl13, sl13, st13⟩ := X11.finit hexec hown (wk W (.fieldLink "java/lang/String" 15 "java/lang/String" "coder" "B")) (Or.inr ⟨_, (wk W (.laysFinal "java/lang/String" "java/lang/String" "coder" "B"))⟩) (Or.inl ⟨rfl, hnm⟩) f2 (Or.inl rfl) hB11 (t := .byte) (by decide +kernel) rfl (g := (mkF m 48 #[.val (.ref a), .val (.ref b), .val (.int (Int32.ofNat o)), .val (.int (Int32.ofNat len)), .val .null, .val (.ref s.heap.size)] [.int 0, .ref a])) rfl (rest := []) rfl (hb hbytes d48)
  have c14 : Steps p.tables e below (s₁.setTop (entryFrame m #[.ref a, .ref b, .int (Int32.ofNat o), .int (Int32.ofNat len), .null] 6)) (T13.setTop (mkF m 54 #[.val (.ref a), .val (.ref b), .val (.int (Int32.ofNat o)), .val (.int (Int32.ofNat len)), .val .null, .val (.ref s.heap.size)] [.ref s.heap.size, .ref a])) := (c12.trans (st13 _ (Steps.refl _))).trans (by
    refine XS.aloadN X13.here hexec rfl (hb hbytes d51) rfl rfl ?_
    refine XS.aload X13.here hexec rfl (hb hbytes d52) rfl rfl ?_
    exact Steps.refl _)
  obtain ⟨T15, X15, p15, bl15, sl15, st15⟩ := X13.finit hexec hown (wk W (.fieldLink "java/lang/String" 9 "java/lang/String" "value" "[B")) (Or.inr ⟨_, (wk W (.laysFinal "java/lang/String" "java/lang/String" "value" "[B"))⟩) (Or.inl ⟨rfl, hnm⟩) f1 (Or.inl rfl) bl13 (t := (.array .byte)) (by decide +kernel) rfl (g := (mkF m 54 #[.val (.ref a), .val (.ref b), .val (.int (Int32.ofNat o)), .val (.int (Int32.ofNat len)), .val .null, .val (.ref s.heap.size)] [.ref s.heap.size, .ref a])) rfl (rest := []) rfl (hb hbytes d54)
  have c16 : Steps p.tables e below (s₁.setTop (entryFrame m #[.ref a, .ref b, .int (Int32.ofNat o), .int (Int32.ofNat len), .null] 6)) (T15.setTop (mkF m 57 #[.val (.ref a), .val (.ref b), .val (.int (Int32.ofNat o)), .val (.int (Int32.ofNat len)), .val .null, .val (.ref s.heap.size)] [])) := c14.trans (st15 _ (Steps.refl _))
  have ap := apart (Or.inr ⟨_, (wk W (.laysFinal "java/lang/String" "java/lang/String" "value" "[B"))⟩) (Or.inr ⟨_, (wk W (.laysFinal "java/lang/String" "java/lang/String" "coder" "B"))⟩) f1 f2 (t₁ := .array .byte) (t₂ := .byte) (by decide +kernel) (by decide +kernel) (by decide)
  have al := X8.warmed.alike.symm.trans X15.warmed.alike
  have n7 : T11.heap[s.heap.size]? = some N := by rw [q11]; exact n1.1
  exact ⟨T15, none, _, _, _, X15, by simp, rfl, by omega, (fun _ => rfl), ⟨rfl, _, N, bl15, ((Same.refl D _).set _ (by simp)).set _ (by simp), sl15, (Cell.slots_setSlot_ne _ ap).trans sl13, n1.keep al (p15.other hne (p13.other hne n7)), n2, by rw [al.findClass]; exact n3, n4, n5, fun y c h1 h2 => p15.other h1 (p13.other h1 (by rw [q11]; exact n6 y c h2)), by rw [p15.2.2, p13.2.2, q11]; exact z8⟩, fun fs hl => c16.trans (X15.returnOut hexec hret (hb hbytes d57) hl)⟩
end New4
namespace New1
def yN : MethodName := ⟨"java/lang/String", "<init>", "([C)V"⟩
abbrev yB : ByteArray := jdk_42_method_3_code
theorem d0 : decode yB 0 = .ok (.aload_n 0, 1) := by decide +kernel
theorem d1 : decode yB 1 = .ok (.aload_n 1, 1) := by decide +kernel
theorem d2 : decode yB 2 = .ok (.iconst 0, 1) := by decide +kernel
theorem d3 : decode yB 3 = .ok (.aload_n 1, 1) := by decide +kernel
theorem d4 : decode yB 4 = .ok (.arraylength, 1) := by decide +kernel
theorem d5 : decode yB 5 = .ok (.aconst_null, 1) := by decide +kernel
theorem d6 : decode yB 6 = .ok (.invokespecial 27, 3) := by decide +kernel
theorem d9 : decode yB 9 = .ok (.return_, 1) := by decide +kernel
def site : List Cond := [New4.tab] ++ initW "java/lang/String" 27 New4.yN
def tab : Cond := tabOf yN yB 2 none site
def P (a : Addr) (D : Cell) (fV fC : Field) (b : Addr) (A : Cell) (z : Int32) (args : Array Value) (s : State) : Prop := args = #[.ref a, .ref b] ∧ Blank "java/lang/String" a D s ∧ Found "java/lang/String" "value" "[B" fV s ∧ Found "java/lang/String" "coder" "B" fC s ∧ Ch b A s ∧ StaticIs s "java/lang/String" "COMPACT_STRINGS" "Z" (.int z) ∧ ¬ z = 0 ∧ 0 < A.slots.size ∧ A.slots.size ≤ 536870912 ∧ ∀ i, i < A.slots.size → ¬ 255 < cv A i
def E (a : Addr) (D : Cell) (fV fC : Field) (A : Cell) (r : Option Value) (s u : State) : Prop := Got a D fV fC A 0 A.slots.size r s u
/-- new String(chars), not empty, no char above 255: a Latin-1 String of their low bytes -/
theorem law (l : Launch) (a : Addr) (D : Cell) (fV fC : Field) (b : Addr) (A : Cell) (z : Int32) : Law l yN 2 1 3 52 yB 2 none site (P a D fV fC b A z) (E a D fV fC A) [⟨a, fC.slot⟩, ⟨a, fV.slot⟩] 1 A.slots.size := by
  refine Law.of_walk (plainFor_of_name (by decide +kernel)) (by decide +kernel) (by decide +kernel) (by decide) (fun _ _ h => by rw [h.1]; rfl) (fun _ U U' hal hh h => ⟨h.1, h.2.1.mv hal hh, h.2.2.1.al hal, h.2.2.2.1.al hal, h.2.2.2.2.1.mv hal hh, h.2.2.2.2.2.1.there hal hh, h.2.2.2.2.2.2⟩) (fun r U U' V V' h1 hal h2 h => Got.mv r U U' V V' h1 hal h2 h) ?_
  intro p e s m args below meth c s₁ X0 hexec hbytes hml hret hlk hnm hown hh0 W hP
  obtain ⟨rfl, hB, f1, f2, hA, s1, hz, l0, l2, hp⟩ := hP
  have c1 : Steps p.tables e below (s₁.setTop (entryFrame m #[.ref a, .ref b] 2)) (s₁.setTop (mkF m 0 #[.val (.ref a), .val (.ref b)] [])) := entry rfl
  have c2 : Steps p.tables e below (s₁.setTop (entryFrame m #[.ref a, .ref b] 2)) (s₁.setTop (mkF m 6 #[.val (.ref a), .val (.ref b)] [.null, .int (Int32.ofNat A.slots.size), .int 0, .ref b, .ref a])) := c1.trans (by
    refine XS.aloadN X0.here hexec rfl (hb hbytes d0) rfl rfl ?_
    refine XS.aloadN X0.here hexec rfl (hb hbytes d1) rfl rfl ?_
    refine iconstV X0.here hexec rfl 0 (hb hbytes d2) (by decide) ?_
    refine XS.aloadN X0.here hexec rfl (hb hbytes d3) rfl rfl ?_
    refine X0.alen hexec (hA.1.mv X0.warmed.alike hh0) rfl rfl (hb hbytes d4) ?_
    refine XS.aconstNull X0.here hexec rfl (hb hbytes d5) ?_
    exact Steps.refl _)
  obtain ⟨v3, T3, X3, E3, g3⟩ := X0.callN hexec (New4.law l a D fV fC b A z 0 A.slots.size) rfl hown (wks W (initW "java/lang/String" 27 New4.yN)) (W New4.tab (by simp only [site, List.mem_cons, List.mem_append, true_or, or_true])) (W := 0) (Nat.le_of_ble_eq_true rfl) (Nat.le_of_ble_eq_true rfl) (Nat.le_refl _) (by show 0 + A.slots.size ≤ A.slots.size; omega) (g := (mkF m 6 #[.val (.ref a), .val (.ref b)] [.null, .int (Int32.ofNat A.slots.size), .int (Int32.ofNat 0), .ref b, .ref a])) rfl (by rw [hml]; rfl) c2 (argsL := [.ref b, .int (Int32.ofNat 0), .int (Int32.ofNat A.slots.size), .null]) (rest := []) rfl rfl (by show 2 * 0 + 0 ≤ _; decide) (hb hbytes d6) (⟨rfl, hB.mv X0.warmed.alike hh0, f1.al X0.warmed.alike, f2.al X0.warmed.alike, hA.mv X0.warmed.alike hh0, s1.there X0.warmed.alike hh0, hz, l0, by omega, l2, fun i hi => by rw [Nat.zero_add]; exact hp i hi⟩)
  have e0 := Got.mv _ s₁ s _ _ hh0.symm (Vm.Alike.refl _) rfl E3
  obtain rfl := e0.1
  have c4 : Steps p.tables e below (s₁.setTop (entryFrame m #[.ref a, .ref b] 2)) (T3.setTop (mkF m 9 #[.val (.ref a), .val (.ref b)] [])) := g3
  exact ⟨T3, none, _, _, _, X3, by simp, rfl, by omega, (fun _ => rfl), e0, fun fs hl => c4.trans (X3.returnOut hexec hret (hb hbytes d9) hl)⟩
theorem pays {l : Launch} {R : Room} {p : Program} {e : Env} {below : List Frame} {s : State} {sargs : Array Value} {len W : Nat} (a : Addr) (D : Cell) (fV fC : Field) (b : Addr) (A : Cell) (z : Int32) (htab : tab.before sargs s = true) (hfr : 4 ≤ R.frames) (hlo : W + 65 ≤ R.locals) :
    Back l R p e below s sargs yN len W (fun A₁ a₁ => A₁.cells + 1 ≤ R.cells ∧ A₁.slots + A.slots.size ≤ R.slots ∧ P a D fV fC b A z a₁ A₁.U) (fun A₁ _ v₁ B₁ => E a D fV fC A v₁ A₁.U B₁.U ∧ B₁.locs = A₁.locs ++ [⟨a, fC.slot⟩, ⟨a, fV.slot⟩] ∧ B₁.cells = A₁.cells + 1 ∧ B₁.slots = A₁.slots + A.slots.size) :=
  (law l a D fV fC b A z).pays htab hfr (by omega)
end New1
/-- the byte, read back as charAt reads it, is the char -/
theorem lo8_mask {x : Int32} (h0 : ¬ x < 0) (h1 : ¬ 255 < x) : lo8 x &&& 255 = x := by
  have t : ∀ k : Fin 256, lo8 (Int32.ofNat k.val) &&& 255 = Int32.ofNat k.val := by decide +kernel
  rw [Int32.lt_iff_toInt_lt] at h0 h1
  have e0 : (0 : Int32).toInt = 0 := rfl
  have e1 : (255 : Int32).toInt = 255 := rfl
  obtain ⟨k, hk⟩ : ∃ k : Nat, x.toInt = k := ⟨x.toInt.toNat, by omega⟩
  have hx : x = Int32.ofNat k := Int32.toInt_inj.mp (by rw [hk, Int32.toInt_ofNat_small (by omega)])
  rw [hx]
  exact t ⟨k, by omega⟩
end StrChars
namespace StrChars.Road
open Jvm Sem ClassFile Op Lib Jvm.Stand Jvm.Free Jvm.Free.XT
open Jvm.Lib.Cold (StaticIs)
abbrev ST : String := "java/lang/String"
/-- every table word that New1's law asks, flat -/
abbrev words : List Jvm.Cond := [.code New1.yN New1.yB 2 none, .initialized ST, .methodLink ST 27 New4.yN, .instanceMethod New4.yN,
  .code New4.yN New4.yB 6 none, .fieldLink ST 38 ST "COMPACT_STRINGS" "Z", .laysFinal ST ST "value" "[B", .fieldLink ST 9 ST "value" "[B", .laysFinal ST ST "coder" "B", .fieldLink ST 15 ST "coder" "B",
  .methodLink ST 1 Lib.objectInit, .instanceMethod Lib.objectInit, .code Lib.objectInit ⟨#[0xb1]⟩ 1 none, .methodLink ST 177 Cmp3.yN, .static Cmp3.yN, .methodLink ST 47 CodL.yN, .static CodL.yN,
  .code Cmp3.yN Cmp3.yB 6 (some (.array .byte)), .initialized U16, .arrayClass .byte, .methodLink U16 115 Cmp5.yN, .static Cmp5.yN, .code Cmp5.yN Cmp5.yB 7 (some .int), .code CodL.yN CodL.yB 2 (some .byte)]
theorem tab_of {a : Array Value} {s : State} (h : ∀ w ∈ words, w.before a s = true) : New1.tab.before a s = true := by
  have h5 : Cmp5.tab.before a s = true := unparts (wk h (.code Cmp5.yN Cmp5.yB 7 (some .int))) (wks h (.initialized Cmp5.yN.cls :: Cmp5.site))
  have hc : CodL.tab.before a s = true := unparts (wk h (.code CodL.yN CodL.yB 2 (some .byte))) (wks h (.initialized CodL.yN.cls :: CodL.site))
  have q5 : ∀ w ∈ Cmp5.tab :: words, w.before a s = true := fun w hw => (List.mem_cons.mp hw).elim (fun e => e ▸ h5) (h w)
  have h3 : Cmp3.tab.before a s = true := unparts (wk q5 (.code Cmp3.yN Cmp3.yB 6 (some (.array .byte)))) (wks q5 (.initialized Cmp3.yN.cls :: Cmp3.site))
  have q3 : ∀ w ∈ Cmp3.tab :: CodL.tab :: words, w.before a s = true := fun w hw => (List.mem_cons.mp hw).elim (fun e => e ▸ h3) fun hw => (List.mem_cons.mp hw).elim (fun e => e ▸ hc) (h w)
  have h4 : New4.tab.before a s = true := unparts (wk q3 (.code New4.yN New4.yB 6 none)) (wks q3 (.initialized New4.yN.cls :: New4.site))
  have q4 : ∀ w ∈ New4.tab :: words, w.before a s = true := fun w hw => (List.mem_cons.mp hw).elim (fun e => e ▸ h4) (h w)
  exact unparts (wk q4 (.code New1.yN New1.yB 2 none)) (wks q4 (.initialized New1.yN.cls :: New1.site))
/-- the words ride from the start Z to the walk's own state -/
theorem moved {Z s : State} {a0 args : Array Value} (hZ : Z.Warmed39 s.vm) (hw : ∀ d ∈ words, d.before a0 Z = true) : ∀ d ∈ words, d.before args s = true := fun d hd => by
  have q := hw d hd
  have t : ∀ d ∈ words, d = .arrayClass .byte ∨ (d.onTables && d.keepsFace) = true := by decide +kernel
  rcases t d hd with rfl | t
  · exact RoadKit.mvA hZ q
  · exact RoadKit.mv hZ q t
/-- WHAT COMES BACK, over the tables of the start Z: h the heap at the call, h' behind it -/
def Q (Z : State) (x : Addr) (A : Cell) (h : Heap) (v : Option Value) (h' : Heap) (L : List Loc) : Prop := v = none ∧ (∀ y ∈ L, y.base = x) ∧ RoadKit.Keep h h' [x] ∧ h'.size = h.size + 1 ∧ RoadKit.Exa Z h' x ST ∧ RoadKit.Fld Z h' x ST "value" "[B" (.ref h.size) ∧ RoadKit.Fld Z h' x ST "coder" "B" (.int 0) ∧
  (∃ V : Cell, RoadKit.Arr Z h' h.size V .byte ∧ V.vm = .none ∧ Z.vm.findClass "[B" = some V.cls ∧ V.slots.size = A.slots.size ∧ ∀ j, j < A.slots.size → V.slots[j]? = some (.int (lo8 (cv A j)))) ∧
  ∀ (O n d : String) (w : Value), RoadKit.Fld Z h x O n d w → RoadKit.slotOf Z O n d ≠ RoadKit.slotOf Z ST "value" "[B" → RoadKit.slotOf Z O n d ≠ RoadKit.slotOf Z ST "coder" "B" → RoadKit.Fld Z h' x O n d w
/-- **new String(chars) AT A CALL, IN THE ROAD'S FORM**: for specialBack behind newO: x the fresh String, b the char[] with the cell A -/
theorem back {p : Program} {l : Launch} {e : Env} {R : Room} {s : State} {args : Array Value} {below : List Frame} {len W : Nat} {Z : State} {a0 : Array Value} {h : Heap} (hZ : Z.Warmed39 s.vm) (hw : ∀ d ∈ words, d.before a0 Z = true) {kI : Nat} (wi : (Jvm.Cond.instantiable ST kI).before a0 Z = true)
    {x b : Addr} {A : Cell} {z : Int32} {v0 c0 : Value} (E : RoadKit.Exa Z h x ST) (V : RoadKit.Fld Z h x ST "value" "[B" v0) (C : RoadKit.Fld Z h x ST "coder" "B" c0) (K : RoadKit.Arr Z h b A .char) (hty : Typed .char A) (S : RoadKit.Sta Z h ST "COMPACT_STRINGS" "Z" (.int z)) (hz : ¬ z = 0)
    (l0 : 0 < A.slots.size) (l2 : A.slots.size ≤ 536870912) (hp : ∀ i, i < A.slots.size → ¬ 255 < cv A i) (hfr : 4 ≤ R.frames) (hlo : W + 65 ≤ R.locals) :
    Back l R p e below s args New1.yN len W (fun P a => a = #[.ref x, .ref b] ∧ P.U.heap = h ∧ P.cells + 1 ≤ R.cells ∧ P.slots + A.slots.size ≤ R.slots)
      (fun P _ v B => ∃ L, Q Z x A h v B.U.heap L ∧ B.locs = P.locs ++ L ∧ B.cells = P.cells + 1 ∧ B.slots = P.slots + A.slots.size) := by
  intro m meth c P g ig mk a X hg hsize hdg hW hn hp'
  obtain ⟨rfl, rfl, r1, r2⟩ := hp'
  have al : Z.vm.Alike P.U.vm := hZ.alike.trans X.warmed.alike
  obtain ⟨D, cfV, kV, iV, fV, hD, gV, stV, knV, obV, asV, slV⟩ := id V
  obtain ⟨D', cfC, kC, iC, fC, hD', gC, stC, -, -, asC, slC⟩ := id C
  cases hD.symm.trans hD'
  obtain ⟨D2, kD, e1, e2, e3, e4, e5⟩ := id E
  cases hD.symm.trans e1
  obtain ⟨c2, k2, i1, i2, i3, -⟩ := Cond.instantiable_spec wi
  cases e2.symm.trans i1
  cases e3.symm.trans i2
  obtain ⟨kU, u1, u2⟩ := al.2.2 _ _ e3
  have hB : Blank ST x D P.U := ⟨hD, ⟨knV, fun q hq => by rw [hq] at obV; cases obV⟩, by rw [al.findClass]; exact e2, kU, u1, by rw [u2]; exact i3, by rw [u2]; exact e5 i3⟩
  have F1 : Found ST "value" "[B" fV P.U := ⟨SBG.found_only al ⟨cfV, kV, iV, gV⟩, stV⟩
  have F2 : Found ST "coder" "B" fC P.U := ⟨SBG.found_only al ⟨cfC, kC, iC, gC⟩, stC⟩
  have hA : Ch b A P.U := ⟨⟨K.1, State.isArrayOf_alike al K.2.1, K.2.2, by omega⟩, hty⟩
  have hS : StaticIs P.U ST "COMPACT_STRINGS" "Z" (.int z) := by
    obtain ⟨cfS, iS, kS, fS, st, cS, t1, t2, t3, t4, t5, t6, t7⟩ := S
    exact StaticIs.there (s := { Z with heap := P.U.heap }) ⟨cfS, iS, kS, fS, st, cS, t1, t2, t3, t4, t5, (fun q => by rw [q] at t6; cases t6), t7⟩ al rfl
  obtain ⟨v, B, X', ⟨⟨hv, E', V', q1, q2, q3, q4, q5, q6, q7, q8, q9, q10, q11⟩, hl, hc, hs⟩, st⟩ := New1.pays x D fV fC b A z (tab_of (moved hZ hw)) hfr hlo m meth c P g ig mk _ X hg hsize hdg hW hn ⟨r1, r2, rfl, hB, F1, F2, hA, hS, hz, l0, l2, hp⟩
  have al' : Z.vm.Alike B.U.vm := hZ.alike.trans X'.warmed.alike
  have hsz : E'.slots.size = D.slots.size := by
    obtain ⟨-, -, -, kB, w1, w2, w3⟩ := q1
    obtain ⟨kB', y1, y2⟩ := al'.2.2 _ _ e3
    rw [q2.2.1] at w1
    cases w1.symm.trans y1
    rw [w3, e5 i3, y2]
  refine ⟨v, B, X', ⟨_, ⟨hv, ?_, ⟨by omega, fun y cy hy hn' => q10 y cy (by simpa using hn') hy, fun y cy hy => ?_⟩, q11, ⟨E', _, q1.1, by rw [q2.2.1]; exact e2, by rw [q2.2.1]; exact e3, by rw [q2.1]; exact obV, fun _ => by rw [hsz]; exact e5 i3⟩,
    ⟨E', cfV, kV, iV, fV, q1.1, gV, stV, by rw [q2.1]; exact knV, by rw [q2.1]; exact obV, by rw [q2.2.1]; exact asV, q3⟩, ⟨E', cfC, kC, iC, fC, q1.1, gC, stC, by rw [q2.1]; exact knV, by rw [q2.1]; exact obV, by rw [q2.2.1]; exact asC, q4⟩,
    ⟨V', ⟨q5.1, State.isArrayOf_alike al'.symm q5.2.1, q5.2.2.1⟩, q6, by rw [← al'.findClass]; exact q7, q8, fun j hj => by have := q9 j hj; rwa [Nat.zero_add] at this⟩, fun O n d w F n1 n2 => ?_⟩, hl, hc, hs⟩, st⟩
  · intro y hy
    simp only [List.mem_cons, List.not_mem_nil, or_false] at hy
    rcases hy with rfl | rfl <;> rfl
  · by_cases q : y = x
    · subst q
      cases hD.symm.trans hy
      exact ⟨E', q1.1, q2.2.1, q2.1, hsz⟩
    · exact ⟨cy, q10 y cy q hy, rfl, rfl, rfl⟩
  · obtain ⟨D3, cf, k, i, f, g1, g2, g3, g4, g5, g6, g7⟩ := F
    cases hD.symm.trans g1
    simp only [RoadKit.slotOf, g2, gV, gC, Option.map_some, Option.getD_some] at n1 n2
    exact ⟨E', cf, k, i, f, q1.1, g2, g3, by rw [q2.1]; exact g4, by rw [q2.1]; exact g5, by rw [q2.2.1]; exact g6, by rw [q2.2.2 f.slot (by simp [n1, n2])]; exact g7⟩
end StrChars.Road
namespace StrChars.Road
open Jvm Sem ClassFile Op Lib Jvm.Stand Jvm.Free Jvm.Free.XT
/-- WHAT COMES BACK, the byte[] as a list of values -/
def QA (Z : State) (x : Addr) (zn : Int32) (cs : List Int32) (h : Heap) (v : Option Value) (h' : Heap) (L : List Loc) : Prop := v = none ∧ (∀ y ∈ L, y.base = x) ∧ RoadKit.Keep h h' [x] ∧ h'.size = h.size + 1 ∧ RoadKit.Exa Z h' x ST ∧ RoadKit.Fld Z h' x ST "value" "[B" (.ref h.size) ∧ RoadKit.Fld Z h' x ST "coder" "B" (.int 0) ∧
  (∃ kb, Z.vm.findClass "[B" = some kb ∧ RoadKit.Arv Z h' h.size kb .byte zn (cs.map fun c => .int (lo8 c)) (.int 0)) ∧
  ∀ (O n d : String) (w : Value), RoadKit.Fld Z h x O n d w → RoadKit.slotOf Z O n d ≠ RoadKit.slotOf Z ST "value" "[B" → RoadKit.slotOf Z O n d ≠ RoadKit.slotOf Z ST "coder" "B" → RoadKit.Fld Z h' x O n d w
/-- **new String(chars) AT A CALL, THE ARRAYS AS LISTS**: the char[] at b holds cs, not empty, no char above 255 -/
theorem backArv {p : Program} {l : Launch} {e : Env} {R : Room} {s : State} {args : Array Value} {below : List Frame} {len W : Nat} {Z : State} {a0 : Array Value} {h : Heap} (hZ : Z.Warmed39 s.vm) (hw : ∀ d ∈ words, d.before a0 Z = true) {kI : Nat} (wi : (Jvm.Cond.instantiable ST kI).before a0 Z = true)
    {x b : Addr} {k : ClassId} {zn z : Int32} {cs : List Int32} {dv v0 c0 : Value} (E : RoadKit.Exa Z h x ST) (V : RoadKit.Fld Z h x ST "value" "[B" v0) (C : RoadKit.Fld Z h x ST "coder" "B" c0) (K : RoadKit.Arv Z h b k .char zn (cs.map Value.int) dv) (S : RoadKit.Sta Z h ST "COMPACT_STRINGS" "Z" (.int z)) (hz : ¬ z = 0)
    (hlen : zn.toNatClampNeg = cs.length) (h0 : 0 < cs.length) (hbig : cs.length ≤ 536870912) (hall : ∀ c ∈ cs, ¬ 255 < c) (hfr : 4 ≤ R.frames) (hlo : W + 65 ≤ R.locals) :
    Back l R p e below s args New1.yN len W (fun P a => a = #[.ref x, .ref b] ∧ P.U.heap = h ∧ P.cells + 1 ≤ R.cells ∧ P.slots + cs.length ≤ R.slots)
      (fun P _ v B => ∃ L, QA Z x zn cs h v B.U.heap L ∧ B.locs = P.locs ++ L ∧ B.cells = P.cells + 1 ∧ B.slots = P.slots + cs.length) := by
  obtain ⟨A, K1, K2, K3, K4, K5, K6⟩ := K
  have e : A.slots.size = cs.length := K3.trans hlen
  have hat : ∀ (i : Nat) (hi : i < cs.length), A.slots[i]? = some (.int cs[i]) := fun i hi => by rw [K5 i (by omega)]; simp [List.getD_eq_getElem?_getD, hi]
  have hcv : ∀ (i : Nat) (hi : i < cs.length), cv A i = cs[i] := fun i hi => by unfold cv; rw [hat i hi]
  have hty : Typed .char A := fun i v hv => by
    have hi : i < A.slots.size := (Array.getElem?_eq_some_iff.mp hv).1
    have q := K5 i hi
    rw [hv] at q
    rw [Option.some.inj q]
    exact K6 i hi
  refine Back.mono (back hZ hw wi E V C K1 hty S hz (by omega) (by omega) (fun i hi => by rw [hcv i (by omega)]; exact hall _ (List.getElem_mem _)) hfr hlo) (fun P a hp => ⟨hp.1, hp.2.1, hp.2.2.1, by rw [e]; exact hp.2.2.2⟩) (fun P a v B hp hq => ?_)
  obtain ⟨L, ⟨q1, q2, q3, q4, q5, q6, q7, ⟨V', v1, v2, v3, v4, v5⟩, q9⟩, hl, hc, hs⟩ := hq
  refine ⟨L, ⟨q1, q2, q3, q4, q5, q6, q7, ⟨V'.cls, v3, V', v1, rfl, by rw [v4, e, hlen], K4, fun i hi => ?_, fun i hi => ?_⟩, q9⟩, hl, hc, by rw [hs, e]⟩
  · have hi' : i < cs.length := by omega
    rw [v5 i (by omega), hcv i hi']; simp [List.getD_eq_getElem?_getD, hi']
  · have hi' : i < cs.length := by omega
    simp only [List.getD_eq_getElem?_getD, List.getElem?_map, List.getElem?_eq_getElem hi', Option.map_some, Option.getD_some]
    exact fits_lo8 _
end StrChars.Road
namespace StrChars.Road
open Jvm Sem ClassFile Op Lib Jvm.Stand Jvm.Free Jvm.Free.XT
/-- WHAT COMES BACK, in the writer's own shape -/
def QV (Z : State) (x : Addr) (N : Int32) (bs : List Int32) (h : Heap) (n0 : Nat) (v : Option Value) (h' : Heap) (L : List Loc) : Prop := v = none ∧ RoadKit.Fr n0 L ∧ RoadKit.Keep h h' [x] ∧ RoadKit.Exa Z h' x ST ∧ RoadKit.Fld Z h' x ST "coder" "B" (.int 0) ∧
  ∃ (t : Addr) (kb : ClassId), n0 ≤ t ∧ h.size ≤ t ∧ ¬ t = x ∧ RoadKit.Fld Z h' x ST "value" "[B" (.ref t) ∧ RoadKit.Arv Z h' t kb .byte N (bs.map Value.int) (.int 0)
/-- **new String(chars) AT A CALL, FOR THE WRITER**: a char[] of n known ints, each 0 to 255 -/
theorem backV {p : Program} {l : Launch} {e : Env} {R : Room} {s : State} {args : Array Value} {below : List Frame} {len W : Nat} {Z : State} {a0 : Array Value} {h : Heap} (hZ : Z.Warmed39 s.vm) (hw : ∀ d ∈ words, d.before a0 Z = true) {kI : Nat} (wi : (Jvm.Cond.instantiable ST kI).before a0 Z = true)
    {x b : Addr} {kC : ClassId} {cs bs : List Int32} {d v0 c0 : Value} {z N : Int32} {n n0 : Nat} (hx0 : n0 ≤ x) (hh0 : n0 ≤ h.size) (E : RoadKit.Exa Z h x ST) (V : RoadKit.Fld Z h x ST "value" "[B" v0) (C : RoadKit.Fld Z h x ST "coder" "B" c0) (K : RoadKit.Arv Z h b kC .char N (cs.map Value.int) d) (S : RoadKit.Sta Z h ST "COMPACT_STRINGS" "Z" (.int z)) (hz : ¬ z = 0)
    (hn : cs.length = n) (hN : N = Int32.ofNat n) (l0 : 0 < n) (l2 : n ≤ 4000) (hp : ∀ c ∈ cs, ¬ c < 0 ∧ ¬ (255 : Int32) < c) (hb : bs = cs.map (fun c => c.toInt8.toInt32)) (hfr : 4 ≤ R.frames) (hlo : W + 65 ≤ R.locals) :
    Back l R p e below s args (⟨"java/lang/String", "<init>", "([C)V"⟩ : MethodName) len W (fun P a => a = #[.ref x, .ref b] ∧ P.U.heap = h ∧ P.cells + 1 ≤ R.cells ∧ P.slots + n ≤ R.slots)
      (fun P _ v B => ∃ L, QV Z x N bs h n0 v B.U.heap L ∧ B.locs = P.locs ++ L ∧ B.cells = P.cells + 1 ∧ B.slots = P.slots + n) := by
  subst hn hN hb
  refine Back.mono (backArv hZ hw wi E V C K S hz (n32 (by omega)) l0 (by omega) (fun c hc => (hp c hc).2) hfr hlo) (fun P a hp => hp) (fun P a v B hp hq => ?_)
  obtain ⟨L, ⟨q1, q2, q3, q4, q5, q6, q7, ⟨kb, v1, v2⟩, q9⟩, hl, hc, hs⟩ := hq
  exact ⟨L, ⟨q1, fun y hy => by rw [q2 y hy]; exact hx0, q3, q5, q7, h.size, kb, hh0, Nat.le_refl _, Nat.ne_of_gt E.lt, q6, by rw [List.map_map]; exact v2⟩, hl, hc, hs⟩
end StrChars.Road
namespace StrChars
open Jvm Sem ClassFile Op Lib Jvm.Stand Jvm.Free.XT Jvm.Free.ALB Jvm.Free.JM Jvm.Free
open Jvm.Lib.Cold (StaticIs)
def hi8 (x : Int32) : Int32 := lo8 (x >>> ((8 : Int32) &&& 31))
/-- what StringUTF16.getChar makes of two bytes -/
def pairCh (u v : Int32) : Int32 := (((u &&& 255) <<< ((0 : Int32) &&& 31)) ||| ((v &&& 255) <<< ((8 : Int32) &&& 31))).toUInt32.toUInt16.toUInt32.toInt32
theorem shr0 (c : Int32) : c >>> ((0 : Int32) &&& 31) = c := by
  have e : ((0 : Int32) &&& 31) = 0 := by decide
  rw [e]
  apply Int32.toBitVec_inj.mp
  rw [Int32.toBitVec_shiftRight]
  have e1 : ((0 : Int32).toBitVec.smod 32) = 0#32 := by decide
  rw [e1, BitVec.sshiftRight_eq']
  exact BitVec.sshiftRight_zero
theorem lo8_and (x : Int32) : (lo8 x &&& 255).toBitVec.toNat = x.toBitVec.toNat % 256 := by
  have h : (lo8 x).toBitVec = (x.toBitVec.signExtend 8).signExtend 32 := by rw [lo8, Int8.toBitVec_toInt32, Int32.toBitVec_toInt8]
  rw [Int32.toBitVec_and, BitVec.toNat_and, h]
  have e : ((x.toBitVec.signExtend 8).signExtend 32).toNat % 256 = x.toBitVec.toNat % 256 := by
    rw [BitVec.toNat_signExtend]
    have hlt := x.toBitVec.isLt
    simp only [BitVec.toNat_setWidth, BitVec.toNat_signExtend]
    split <;> split <;> omega
  rw [← e]
  exact Nat.and_two_pow_sub_one_eq_mod _ 8
theorem pair_says {c : Int32} (h0 : ¬ c < 0) (h1 : ¬ 65535 < c) : pairCh (lo8 c) (hi8 c) = c := by
  rw [Int32.lt_iff_toInt_lt] at h0 h1
  have e0 : (0 : Int32).toInt = 0 := rfl
  have e1 : (65535 : Int32).toInt = 65535 := rfl
  have hc : c.toInt = c.toBitVec.toNat := by
    have := c.toBitVec.isLt
    have e : c.toInt = c.toBitVec.toInt := rfl
    rw [e] at h0 h1
    rw [e]
    rw [BitVec.toInt_eq_toNat_cond] at h0 h1 ⊢
    split at h0 <;> split <;> omega
  have hn : c.toBitVec.toNat < 65536 := by omega
  have a1 := lo8_and c
  have a2 : (hi8 c &&& 255).toBitVec.toNat = c.toBitVec.toNat / 256 := by
    rw [hi8, lo8_and]
    have e : ((8 : Int32) &&& 31) = 8 := by decide
    rw [e, Int32.toBitVec_shiftRight]
    have e2 : ((8 : Int32).toBitVec.smod 32) = 8#32 := by decide
    rw [e2, BitVec.sshiftRight_eq', BitVec.toNat_sshiftRight_of_msb_false (by rw [BitVec.msb_eq_false_iff_two_mul_lt]; omega)]
    show c.toBitVec.toNat >>> 8 % 256 = _
    rw [Nat.shiftRight_eq_div_pow]
    omega
  unfold pairCh
  apply Int32.toBitVec_inj.mp
  apply BitVec.eq_of_toNat_eq
  have f0 : ((0 : Int32) &&& 31) = 0 := by decide
  have f8 : ((8 : Int32) &&& 31) = 8 := by decide
  rw [f0, f8]
  have g : (((lo8 c &&& 255) <<< (0 : Int32)) ||| ((hi8 c &&& 255) <<< (8 : Int32))).toBitVec.toNat = c.toBitVec.toNat := by
    rw [Int32.toBitVec_or, Int32.toBitVec_shiftLeft, Int32.toBitVec_shiftLeft]
    have s0 : ((0 : Int32).toBitVec.smod 32) = 0#32 := by decide
    have s8 : ((8 : Int32).toBitVec.smod 32) = 8#32 := by decide
    rw [s0, s8, BitVec.toNat_or]
    simp only [BitVec.shiftLeft_eq', BitVec.toNat_shiftLeft, a1, a2]
    show (c.toBitVec.toNat % 256) <<< 0 % 2 ^ 32 ||| (c.toBitVec.toNat / 256) <<< 8 % 2 ^ 32 = _
    rw [Nat.shiftLeft_zero, Nat.mod_eq_of_lt (show c.toBitVec.toNat % 256 < 2 ^ 32 by omega), Nat.mod_eq_of_lt (show (c.toBitVec.toNat / 256) <<< 8 < 2 ^ 32 by rw [Nat.shiftLeft_eq]; omega), Nat.or_comm, ← Nat.shiftLeft_add_eq_or_of_lt (by omega), Nat.shiftLeft_eq]
    omega
  show BitVec.toNat (((((lo8 c &&& 255) <<< (0 : Int32)) ||| ((hi8 c &&& 255) <<< (8 : Int32))).toBitVec.setWidth 16).setWidth 32) = _
  rw [BitVec.toNat_setWidth, BitVec.toNat_setWidth, g]
  omega
end StrChars
namespace StrChars
open Jvm Sem ClassFile Op Lib Jvm.Stand Jvm.Free.XT Jvm.Free.ALB Jvm.Free.JM Jvm.Free
open Jvm.Lib.Cold (StaticIs)
theorem shr1 {n : Nat} (h : 2 * n < 2 ^ 31) : Int32.ofNat (2 * n) >>> ((1 : Int32) &&& 31) = Int32.ofNat n := by
  have e : ((1 : Int32) &&& 31) = 1 := by decide
  rw [e]
  apply Int32.toBitVec_inj.mp
  rw [Int32.toBitVec_shiftRight]
  have e1 : ((1 : Int32).toBitVec.smod 32) = 1#32 := by decide
  have hm : (BitVec.ofNat 32 (2 * n)).toNat = 2 * n := by rw [BitVec.toNat_ofNat, Nat.mod_eq_of_lt (by omega)]
  rw [e1, BitVec.sshiftRight_eq']
  apply BitVec.eq_of_toNat_eq
  show ((BitVec.ofNat 32 (2 * n)).sshiftRight 1).toNat = (BitVec.ofNat 32 n).toNat
  rw [BitVec.toNat_sshiftRight_of_msb_false (by rw [BitVec.msb_eq_false_iff_two_mul_lt, hm]; omega), hm, BitVec.toNat_ofNat, Nat.shiftRight_eq_div_pow]
  omega
theorem narrow_ch {c : Int32} (h0 : ¬ c < 0) (h1 : ¬ 65535 < c) : narrow .char (.int c) = .int c := by
  have q : narrow .char (.int (pairCh (lo8 c) (hi8 c))) = .int (pairCh (lo8 c) (hi8 c)) := narrow_c _
  rwa [pair_says h0 h1] at q
/-- the array's cell V codes the n chars f 0 .. f (n - 1) by the coder cd, as the JDK does: coder 1 just where some char is above 255 -/
def Cod (cd : Int32) (n : Nat) (f : Nat → Int32) (V : Cell) : Prop := (cd = 0 ∧ V.slots.size = n ∧ ∀ j, j < n → V.slots[j]? = some (.int (lo8 (f j))) ∧ ¬ 255 < f j) ∨ (cd = 1 ∧ V.slots.size = 2 * n ∧ (∀ j, j < n → V.slots[2 * j]? = some (.int (lo8 (f j))) ∧ V.slots[2 * j + 1]? = some (.int (hi8 (f j)))) ∧ ∃ j, j < n ∧ 255 < f j)
theorem Cod.cd {cd : Int32} {n : Nat} {f : Nat → Int32} {V : Cell} (h : Cod cd n f V) : cd = 0 ∨ cd = 1 := h.imp (fun q => q.1) fun q => q.1
theorem Cod.len {cd : Int32} {n : Nat} {f : Nat → Int32} {V : Cell} (h : Cod cd n f V) (hs : V.slots.size < 2 ^ 31) : Int32.ofNat V.slots.size >>> (cd &&& 31) = Int32.ofNat n := by
  rcases h with ⟨rfl, h, -⟩ | ⟨rfl, h, -⟩
  · rw [shr0, h]
  · rw [h, shr1 (by omega)]
/-- **x is a String of the n chars f 0 .. f (n - 1)**, Latin-1 or UTF-16; its array at t has the cell V -/
def Txt (x t : Addr) (V : Cell) (cd : Int32) (n : Nat) (f : Nat → Int32) (U : State) : Prop := Exact "java/lang/String" x U ∧ Has x "java/lang/String" "value" "[B" (.ref t) U ∧ Has x "java/lang/String" "coder" "B" (.int cd) U ∧ XT.Arr .byte t V U ∧ Cod cd n f V ∧ ∀ j, j < n → ¬ f j < 0 ∧ ¬ 65535 < f j
theorem Txt.mv {x t : Addr} {V : Cell} {cd : Int32} {n : Nat} {f : Nat → Int32} {U U' : State} (h : Txt x t V cd n f U) (hal : U.vm.Alike U'.vm) (hh : U'.heap = U.heap) : Txt x t V cd n f U' := ⟨h.1.mv hal hh, h.2.1.mv hal hh, h.2.2.1.mv hal hh, h.2.2.2.1.mv hal hh, h.2.2.2.2⟩
namespace Cdr
def yN : MethodName := ⟨"java/lang/String", "coder", "()B"⟩
abbrev yB : ByteArray := jdk_42_method_152_code
theorem d0 : decode yB 0 = .ok (.getstatic 38, 3) := by decide +kernel
theorem d3 : decode yB 3 = .ok (.ifCond (.eq) 10, 3) := by decide +kernel
theorem d6 : decode yB 6 = .ok (.aload_n 0, 1) := by decide +kernel
theorem d7 : decode yB 7 = .ok (.getfield 15, 3) := by decide +kernel
theorem d10 : decode yB 10 = .ok (.goto 4, 3) := by decide +kernel
theorem d14 : decode yB 14 = .ok (.ireturn, 1) := by decide +kernel
def site : List Cond := [.fieldLink "java/lang/String" 38 "java/lang/String" "COMPACT_STRINGS" "Z", .fieldLink "java/lang/String" 15 "java/lang/String" "coder" "B"]
def tab : Cond := tabOf yN yB 1 (some .byte) site
def P (x : Addr) (cd z : Int32) (args : Array Value) (s : State) : Prop := args = #[.ref x] ∧ Has x "java/lang/String" "coder" "B" (.int cd) s ∧ (cd = 0 ∨ cd = 1) ∧ StaticIs s "java/lang/String" "COMPACT_STRINGS" "Z" (.int z) ∧ ¬ z = 0
def E (cd : Int32) (r : Option Value) (s u : State) : Prop := XT.PureE (some (.int cd)) r s u
theorem law (l : Launch) (x : Addr) (cd z : Int32) : Law l yN 1 0 0 0 yB 1 (some .byte) site (P x cd z) (E cd) [] 0 0 := by
  refine Law.of_walk (plainFor_of_name (by decide +kernel)) (by decide +kernel) (by decide +kernel) (by decide) (fun _ _ h => by rw [h.1]; rfl) (fun _ U U' hal hh h => ⟨h.1, h.2.1.mv hal hh, h.2.2.1, h.2.2.2.1.there hal hh, h.2.2.2.2⟩) (fun r U U' V V' h1 hal h2 h => XT.PureE.mv r U U' V V' h1 hal h2 h) ?_
  intro p e s m args below meth c s₁ X0 hexec hbytes hml hret hlk hnm hown hh0 W hP
  obtain ⟨rfl, hx, hc, s1, hz⟩ := hP
  have c1 : Steps p.tables e below (s₁.setTop (entryFrame m #[.ref x] 1)) (s₁.setTop (mkF m 0 #[.val (.ref x)] [])) := entry rfl
  obtain ⟨T2, X2, q2, st2⟩ := X0.sget hexec hown (wk W (.fieldLink "java/lang/String" 38 "java/lang/String" "COMPACT_STRINGS" "Z")) s1 (fun _ _ h => by rw [hh0]; exact h) (g := (mkF m 0 #[.val (.ref x)] [])) rfl (hb hbytes d0)
  have hh2 := q2.trans hh0
  have c3 : Steps p.tables e below (s₁.setTop (entryFrame m #[.ref x] 1)) (T2.setTop (mkF m 7 #[.val (.ref x)] [.ref x])) := (c1.trans (st2 _ (Steps.refl _))).trans (by
    refine XS.ifNo X2.here hexec rfl (hb hbytes d3) rfl (i0_eq_f hz) ?_
    refine XS.aloadN X2.here hexec rfl (hb hbytes d6) rfl rfl ?_
    exact Steps.refl _)
  obtain ⟨T4, X4, q4, st4⟩ := X2.hget hexec hown (wk W (.fieldLink "java/lang/String" 15 "java/lang/String" "coder" "B")) (hx.mv X2.warmed.alike hh2) (g := (mkF m 7 #[.val (.ref x)] [.ref x])) rfl (rest := []) rfl (hb hbytes d7)
  have c5 : Steps p.tables e below (s₁.setTop (entryFrame m #[.ref x] 1)) (T4.setTop (mkF m 14 #[.val (.ref x)] [.int cd])) := (c3.trans (st4 _ (Steps.refl _))).trans (by
    refine XS.goto X4.here hexec rfl (pc0 := 10) rfl (hb hbytes d10) (by decide) rfl ?_
    exact Steps.refl _)
  exact ⟨T4, some (.int cd), _, _, _, X4, rfl, rfl, rfl, (fun h => by cases h), ⟨rfl, q4.trans hh2⟩, fun fs hl => c5.trans (X4.ireturnOut hexec hret (by rcases hc with rfl | rfl <;> rfl) (Or.inr (Or.inr (Or.inl rfl))) (hb hbytes d14) hl)⟩
end Cdr
namespace Len
def yN : MethodName := ⟨"java/lang/String", "length", "()I"⟩
abbrev yB : ByteArray := jdk_42_method_54_code
theorem d0 : decode yB 0 = .ok (.aload_n 0, 1) := by decide +kernel
theorem d1 : decode yB 1 = .ok (.getfield 9, 3) := by decide +kernel
theorem d4 : decode yB 4 = .ok (.arraylength, 1) := by decide +kernel
theorem d5 : decode yB 5 = .ok (.aload_n 0, 1) := by decide +kernel
theorem d6 : decode yB 6 = .ok (.invokevirtual 335, 3) := by decide +kernel
theorem d9 : decode yB 9 = .ok (.ishr, 1) := by decide +kernel
theorem d10 : decode yB 10 = .ok (.ireturn, 1) := by decide +kernel
def site : List Cond := [.fieldLink "java/lang/String" 9 "java/lang/String" "value" "[B", Cdr.tab] ++ virtW "java/lang/String" 335 "java/lang/String" Cdr.yN Cdr.yN
def tab : Cond := tabOf yN yB 1 (some .int) site
def P (x t : Addr) (V : Cell) (cd : Int32) (n : Nat) (f : Nat → Int32) (z : Int32) (args : Array Value) (s : State) : Prop := args = #[.ref x] ∧ Txt x t V cd n f s ∧ StaticIs s "java/lang/String" "COMPACT_STRINGS" "Z" (.int z) ∧ ¬ z = 0
def E (n : Nat) (r : Option Value) (s u : State) : Prop := XT.PureE (some (.int (Int32.ofNat n))) r s u
/-- length() of a String of n chars, in either coding -/
theorem law (l : Launch) (x t : Addr) (V : Cell) (cd : Int32) (n : Nat) (f : Nat → Int32) (z : Int32) : Law l yN 1 0 1 13 yB 1 (some .int) site (P x t V cd n f z) (E n) [] 0 0 := by
  refine Law.of_walk (plainFor_of_name (by decide +kernel)) (by decide +kernel) (by decide +kernel) (by decide) (fun _ _ h => by rw [h.1]; rfl) (fun _ U U' hal hh h => ⟨h.1, h.2.1.mv hal hh, h.2.2.1.there hal hh, h.2.2.2⟩) (fun r U U' V V' h1 hal h2 h => XT.PureE.mv r U U' V V' h1 hal h2 h) ?_
  intro p e s m args below meth c s₁ X0 hexec hbytes hml hret hlk hnm hown hh0 W hP
  obtain ⟨rfl, hx, s1, hz⟩ := hP
  have v31 := hx.2.2.2.1.2.2.2
  have c1 : Steps p.tables e below (s₁.setTop (entryFrame m #[.ref x] 1)) (s₁.setTop (mkF m 1 #[.val (.ref x)] [.ref x])) := Steps.trans (entry rfl) (by
    show Steps p.tables e below (s₁.setTop (mkF m 0 #[.val (.ref x)] [])) _
    refine XS.aloadN X0.here hexec rfl (hb hbytes d0) rfl rfl ?_
    exact Steps.refl _)
  obtain ⟨T2, X2, q2, st2⟩ := X0.hget hexec hown (wk W (.fieldLink "java/lang/String" 9 "java/lang/String" "value" "[B")) (hx.mv X0.warmed.alike hh0).2.1 (g := (mkF m 1 #[.val (.ref x)] [.ref x])) rfl (rest := []) rfl (hb hbytes d1)
  have hh2 := q2.trans hh0
  have hx2 := hx.mv X2.warmed.alike hh2
  have c3 : Steps p.tables e below (s₁.setTop (entryFrame m #[.ref x] 1)) (T2.setTop (mkF m 6 #[.val (.ref x)] [.ref x, .int (Int32.ofNat V.slots.size)])) := (c1.trans (st2 _ (Steps.refl _))).trans (by
    refine X2.alen hexec hx2.2.2.2.1 rfl rfl (hb hbytes d4) ?_
    refine XS.aloadN X2.here hexec rfl (hb hbytes d5) rfl rfl ?_
    exact Steps.refl _)
  obtain ⟨v4, T4, X4, E4, g4⟩ := X2.callV hexec (Cdr.law l x cd z) hown (wks W (virtW "java/lang/String" 335 "java/lang/String" Cdr.yN Cdr.yN)) rfl (by decide) (wk W Cdr.tab) (W := 1) (Nat.le_of_ble_eq_true rfl) (Nat.le_of_ble_eq_true rfl) (Nat.le_refl _) (Nat.le_refl _) (hx2.1.fc X2.warmed.alike) hx2.1.is (g := (mkF m 6 #[.val (.ref x)] [.ref x, .int (Int32.ofNat V.slots.size)])) rfl (by rw [hml]; rfl) c3 (argsL := []) (rest := [.int (Int32.ofNat V.slots.size)]) rfl rfl (by show 2 * 0 + (1 + 0) ≤ _; decide) (hb hbytes d6) (⟨rfl, hx2.2.2.1, hx.2.2.2.2.1.cd, s1.there X2.warmed.alike hh2, hz⟩)
  obtain ⟨rfl, q4⟩ := E4
  have c5 : Steps p.tables e below (s₁.setTop (entryFrame m #[.ref x] 1)) (T4.setTop (mkF m 10 #[.val (.ref x)] [.int (Int32.ofNat V.slots.size >>> (cd &&& 31))])) := Steps.trans g4 (by
    refine ishr X4.here hexec rfl (hb hbytes d9) rfl ?_
    exact Steps.refl _)
  rw [hx.2.2.2.2.1.len v31] at c5
  exact ⟨T4, some (.int (Int32.ofNat n)), _, _, _, X4, rfl, rfl, rfl, (fun h => by cases h), ⟨rfl, q4.trans hh2⟩, fun fs hl => c5.trans (X4.ireturnOut hexec hret rfl (Or.inl rfl) (hb hbytes d10) hl)⟩
theorem pays {l : Launch} {R : Room} {p : Program} {e : Env} {below : List Frame} {s : State} {sargs : Array Value} {len W : Nat} (x t : Addr) (V : Cell) (cd : Int32) (n : Nat) (f : Nat → Int32) (z : Int32) (htab : tab.before sargs s = true) (hfr : 2 ≤ R.frames) (hlo : W + 25 ≤ R.locals) :
    Back l R p e below s sargs yN len W (fun A₁ a₁ => A₁.cells + 0 ≤ R.cells ∧ A₁.slots + 0 ≤ R.slots ∧ P x t V cd n f z a₁ A₁.U) (fun A₁ _ v₁ B₁ => E n v₁ A₁.U B₁.U ∧ B₁.locs = A₁.locs ++ [] ∧ B₁.cells = A₁.cells + 0 ∧ B₁.slots = A₁.slots + 0) :=
  (law l x t V cd n f z).pays htab hfr (by omega)
end Len
end StrChars
namespace StrChars.Road
open Jvm Sem ClassFile Op Lib Jvm.Stand Jvm.Free Jvm.Free.XT
open Jvm.Lib.Cold (StaticIs)
theorem consq {a : Array Value} {s : State} {c : Jvm.Cond} {L : List Jvm.Cond} (h0 : c.before a s = true) (h : ∀ w ∈ L, w.before a s = true) : ∀ w ∈ c :: L, w.before a s = true := fun w hw => (List.mem_cons.mp hw).elim (fun e => e ▸ h0) (h w)
/-- the words of String.length(), either coding -/
abbrev wordsLen : List Jvm.Cond := [.code Len.yN Len.yB 1 (some .int), .initialized ST, .fieldLink ST 9 ST "value" "[B", .fieldLink ST 38 ST "COMPACT_STRINGS" "Z", .fieldLink ST 15 ST "coder" "B", .code Cdr.yN Cdr.yB 1 (some .byte), .methodLink ST 335 Cdr.yN, .declares Cdr.yN, .selects ST Cdr.yN Cdr.yN, .instanceMethod Cdr.yN]
theorem tabLen_of {a : Array Value} {s : State} (h : ∀ w ∈ wordsLen, w.before a s = true) : Len.tab.before a s = true := by
  have hc : Cdr.tab.before a s = true := unparts (wk h (.code Cdr.yN Cdr.yB 1 (some .byte))) (wks h (.initialized Cdr.yN.cls :: Cdr.site))
  have q := consq hc h
  exact unparts (wk q (.code Len.yN Len.yB 1 (some .int))) (wks q (.initialized Len.yN.cls :: Len.site))
theorem movedLen {Z s : State} {a0 args : Array Value} (hZ : Z.Warmed39 s.vm) (hw : ∀ d ∈ wordsLen, d.before a0 Z = true) : ∀ d ∈ wordsLen, d.before args s = true := fun d hd => by
  have q := hw d hd
  have t : ∀ d ∈ wordsLen, d = .arrayClass .byte ∨ (d.onTables && d.keepsFace) = true := by decide +kernel
  rcases t d hd with rfl | t
  · exact RoadKit.mvA hZ q
  · exact RoadKit.mv hZ q t
/-- the bytes of the chars cs, low before high -/
def wideBytes : List Int32 → List Value
  | [] => []
  | c :: cs => .int (lo8 c) :: .int (hi8 c) :: wideBytes cs
theorem wide_lo (d : Value) : ∀ (cs : List Int32) (j : Nat), j < cs.length → (wideBytes cs).getD (2 * j) d = .int (lo8 (cs.getD j 0))
  | [], j, h => absurd h (Nat.not_lt_zero j)
  | c :: cs, 0, _ => rfl
  | c :: cs, j + 1, h => by
    have q := wide_lo d cs j (by simpa using h)
    rw [show 2 * (j + 1) = 2 * j + 1 + 1 from by omega]
    simpa [wideBytes] using q
theorem wide_hi (d : Value) : ∀ (cs : List Int32) (j : Nat), j < cs.length → (wideBytes cs).getD (2 * j + 1) d = .int (hi8 (cs.getD j 0))
  | [], j, h => absurd h (Nat.not_lt_zero j)
  | c :: cs, 0, _ => rfl
  | c :: cs, j + 1, h => by
    have q := wide_hi d cs j (by simpa using h)
    rw [show 2 * (j + 1) + 1 = 2 * j + 1 + 1 + 1 from by omega]
    simpa [wideBytes] using q
theorem low_at (d : Value) (cs : List Int32) (j : Nat) (h : j < cs.length) : (cs.map fun c => Value.int (lo8 c)).getD j d = .int (lo8 (cs.getD j 0)) := by
  simp [List.getD_eq_getElem?_getD, h]
/-- an array of N2 bytes vs codes the chars cs by the coder cd -/
def CodA (cs : List Int32) (cd N2 : Int32) (vs : List Value) : Prop := (cd = 0 ∧ N2 = Int32.ofNat cs.length ∧ vs = (cs.map fun c => Value.int (lo8 c)) ∧ ∀ c ∈ cs, ¬ 255 < c) ∨ (cd = 1 ∧ N2 = Int32.ofNat (2 * cs.length) ∧ vs = wideBytes cs ∧ ∃ c ∈ cs, 255 < c)
theorem CodA.cod {cs : List Int32} {cd N2 : Int32} {vs : List Value} {V : Cell} (h : CodA cs cd N2 vs) (hn : 2 * cs.length < 2 ^ 31) (hs : V.slots.size = N2.toNatClampNeg) (hv : RoadKit.Has V vs (.int 0)) : Cod cd cs.length (fun j => cs.getD j 0) V := by
  rcases h with ⟨rfl, rfl, rfl, h⟩ | ⟨rfl, rfl, rfl, c, hc, hw⟩
  · rw [n32 (by omega)] at hs
    exact Or.inl ⟨rfl, hs, fun j hj => ⟨by rw [hv j (by omega), low_at _ _ _ hj], by
      have e : cs.getD j 0 = cs[j] := by simp [List.getD_eq_getElem?_getD, hj]
      show ¬ 255 < cs.getD j 0
      rw [e]; exact h _ (List.getElem_mem _)⟩⟩
  · rw [n32 (by omega)] at hs
    obtain ⟨j, hj, rfl⟩ := List.getElem_of_mem hc
    exact Or.inr ⟨rfl, hs, fun j hj => ⟨by rw [hv _ (by omega), wide_lo _ _ _ hj], by rw [hv _ (by omega), wide_hi _ _ _ hj]⟩, j, hj, by
      have e : cs.getD j 0 = cs[j] := by simp [List.getD_eq_getElem?_getD, hj]
      show 255 < cs.getD j 0
      rw [e]; exact hw⟩
/-- an object of exactly java/lang/String, its two fields found: as the laws ask it -/
theorem strObj {Z U : State} {a0 : Array Value} {kI : Nat} (wi : (Jvm.Cond.instantiable ST kI).before a0 Z = true) (al : Z.vm.Alike U.vm) {x : Addr} {v0 c0 : Value} (E : RoadKit.Exa Z U.heap x ST) (V : RoadKit.Fld Z U.heap x ST "value" "[B" v0) (C : RoadKit.Fld Z U.heap x ST "coder" "B" c0) :
    ∃ (D : Cell) (fV fC : Field), Blank ST x D U ∧ Found ST "value" "[B" fV U ∧ Found ST "coder" "B" fC U ∧ D.slots[fV.slot]? = some v0 ∧ D.slots[fC.slot]? = some c0 ∧ RoadKit.slotOf Z ST "value" "[B" = fV.slot ∧ RoadKit.slotOf Z ST "coder" "B" = fC.slot := by
  obtain ⟨D, cfV, kV, iV, fV, hD, gV, stV, knV, obV, asV, slV⟩ := V
  obtain ⟨D', cfC, kC, iC, fC, hD', gC, stC, -, -, asC, slC⟩ := C
  cases hD.symm.trans hD'
  obtain ⟨D2, kD, e1, e2, e3, e4, e5⟩ := E
  cases hD.symm.trans e1
  obtain ⟨c2, k2, i1, i2, i3, -⟩ := Cond.instantiable_spec wi
  cases e2.symm.trans i1
  cases e3.symm.trans i2
  obtain ⟨kU, u1, u2⟩ := al.2.2 _ _ e3
  exact ⟨D, fV, fC, ⟨hD, ⟨knV, fun q hq => by rw [hq] at obV; cases obV⟩, by rw [al.findClass]; exact e2, kU, u1, by rw [u2]; exact i3, by rw [u2]; exact e5 i3⟩, ⟨SBG.found_only al ⟨cfV, kV, iV, gV⟩, stV⟩, ⟨SBG.found_only al ⟨cfC, kC, iC, gC⟩, stC⟩, slV, slC, by simp [RoadKit.slotOf, gV], by simp [RoadKit.slotOf, gC]⟩
theorem sta_is {Z U : State} (al : Z.vm.Alike U.vm) {C n d : String} {v : Value} (S : RoadKit.Sta Z U.heap C n d v) : StaticIs U C n d v := by
  obtain ⟨cfS, iS, kS, fS, st, cS, t1, t2, t3, t4, t5, t6, t7⟩ := S
  exact StaticIs.there (s := { Z with heap := U.heap }) ⟨cfS, iS, kS, fS, st, cS, t1, t2, t3, t4, t5, (fun q => by rw [q] at t6; cases t6), t7⟩ al rfl
/-- **length() OF SUCH A STRING** -/
theorem lenW {p : Program} {l : Launch} {e : Env} {R : Room} {s : State} {args : Array Value} {below : List Frame} {len W : Nat} {Z : State} {a0 : Array Value} {h : Heap} (hZ : Z.Warmed39 s.vm) (hw : ∀ d ∈ wordsLen, d.before a0 Z = true) {kI : Nat} (wi : (Jvm.Cond.instantiable ST kI).before a0 Z = true)
    {x t : Addr} {kb : ClassId} {cs : List Int32} {cd N2 z : Int32} {vs : List Value} (E : RoadKit.Exa Z h x ST) (V : RoadKit.Fld Z h x ST "value" "[B" (.ref t)) (C : RoadKit.Fld Z h x ST "coder" "B" (.int cd)) (K : RoadKit.Arv Z h t kb .byte N2 vs (.int 0)) (hc : CodA cs cd N2 vs) (hb : ∀ c ∈ cs, ¬ c < 0 ∧ ¬ (65535 : Int32) < c)
    (S : RoadKit.Sta Z h ST "COMPACT_STRINGS" "Z" (.int z)) (hz : ¬ z = 0) (l2 : cs.length ≤ 4000) (hfr : 2 ≤ R.frames) (hlo : W + 25 ≤ R.locals) :
    Back l R p e below s args (⟨"java/lang/String", "length", "()I"⟩ : MethodName) len W (fun P a => a = #[.ref x] ∧ P.U.heap = h ∧ P.cells + 0 ≤ R.cells ∧ P.slots + 0 ≤ R.slots)
      (fun P _ v B => ∃ L, (v = some (.int (Int32.ofNat cs.length)) ∧ L = [] ∧ B.U.heap = h) ∧ B.locs = P.locs ++ L ∧ B.cells = P.cells + 0 ∧ B.slots = P.slots + 0) := by
  obtain ⟨A, K1, K2, K3, K4, K5, K6⟩ := K
  have hcod := hc.cod (by omega) K3 K5
  intro m meth c P g ig mk a X hg hsize hdg hW hn hp'
  obtain ⟨rfl, rfl, r1, r2⟩ := hp'
  have al : Z.vm.Alike P.U.vm := hZ.alike.trans X.warmed.alike
  obtain ⟨D, fV, fC, hB, F1, F2, g1, g2, -, -⟩ := strObj wi al E V C
  have hx : Txt x t A cd cs.length (fun j => cs.getD j 0) P.U := ⟨⟨_, hB.2.2.1, D, hB.1, rfl, by cases q : D.vm <;> first | rfl | exact absurd q (hB.2.1.2 _)⟩, Has.of hB F1 g1, Has.of hB F2 g2, ⟨K1.1, State.isArrayOf_alike al K1.2.1, K1.2.2, by rcases hcod with ⟨-, q, -⟩ | ⟨-, q, -⟩ <;> omega⟩, hcod, fun j hj => by
    have e : cs.getD j 0 = cs[j] := by simp [List.getD_eq_getElem?_getD, hj]
    show ¬ cs.getD j 0 < 0 ∧ ¬ 65535 < cs.getD j 0
    rw [e]; exact hb _ (List.getElem_mem _)⟩
  obtain ⟨v, B, X', ⟨⟨hv, hh⟩, hl, hk, hs⟩, st⟩ := Len.pays x t A cd cs.length (fun j => cs.getD j 0) z (tabLen_of (movedLen hZ hw)) hfr hlo m meth c P g ig mk _ X hg hsize hdg hW hn ⟨r1, r2, rfl, hx, sta_is al S, hz⟩
  exact ⟨v, B, X', ⟨[], ⟨hv, rfl, hh⟩, hl, hk, hs⟩, st⟩
end StrChars.Road
end Jvm.Pilot.@@N@@
namespace Jvm.Pilot.@@N@@
open Jvm.Ow (Go Wd)
open Jvm Jvm.ClassFile Sem Op Lib Jvm.Free Jvm.Stand Jvm.LawKit Jvm.RoadKit Bundle Jvm.Pilot.@@N@@.Jvm.D
theorem ww {a0 : Array Value} {Z : State} (hw : ∀ d ∈ tables_1, d.before a0 Z = true) (k : Nat) {d : Jvm.Cond} (h : tables_1[k]? = some d) : d.before a0 Z = true := hw d (List.mem_of_getElem? h)
theorem pd0 : parseMethodDescriptor "()V" = some ⟨[], none⟩ := by decide +kernel
theorem pd1 : parseMethodDescriptor "([CIILjava/lang/Void;)V" = some ⟨[(.array .char), .int, .int, (.object "java/lang/Void")], none⟩ := by decide +kernel
theorem pd2 : parseMethodDescriptor "([C)V" = some ⟨[(.array .char)], none⟩ := by decide +kernel
theorem pd3 : parseMethodDescriptor "()B" = some ⟨[], (some .byte)⟩ := by decide +kernel
theorem pd4 : parseMethodDescriptor "(IILjava/util/function/BiFunction;)I" = some ⟨[.int, .int, (.object "java/util/function/BiFunction")], (some .int)⟩ := by decide +kernel
theorem pd5 : parseMethodDescriptor "(II)V" = some ⟨[.int, .int], none⟩ := by decide +kernel
theorem pd6 : parseMethodDescriptor "()Z" = some ⟨[], (some .boolean)⟩ := by decide +kernel
theorem pd7 : parseMethodDescriptor "([BI)C" = some ⟨[(.array .byte), .int], (some .char)⟩ := by decide +kernel
theorem pd8 : parseMethodDescriptor "([B)I" = some ⟨[(.array .byte)], (some .int)⟩ := by decide +kernel
theorem pd9 : parseMethodDescriptor "(I[B)V" = some ⟨[.int, (.array .byte)], none⟩ := by decide +kernel
theorem pd10 : parseMethodDescriptor "(C)Z" = some ⟨[.char], (some .boolean)⟩ := by decide +kernel
theorem pd11 : parseMethodDescriptor "()I" = some ⟨[], (some .int)⟩ := by decide +kernel
theorem pd12 : parseMethodDescriptor "(I)C" = some ⟨[.int], (some .char)⟩ := by decide +kernel
theorem pd13 : parseMethodDescriptor "(CZ)Z" = some ⟨[.char, .boolean], (some .boolean)⟩ := by decide +kernel
theorem pd14 : parseMethodDescriptor "(Ljava/lang/CharSequence;)I" = some ⟨[(.object "java/lang/CharSequence")], (some .int)⟩ := by decide +kernel
theorem pd15 : parseMethodDescriptor "(I)I" = some ⟨[.int], (some .int)⟩ := by decide +kernel
theorem pd16 : parseMethodDescriptor "(I)[B" = some ⟨[.int], (some (.array .byte))⟩ := by decide +kernel
theorem pd17 : parseMethodDescriptor "([BII)V" = some ⟨[(.array .byte), .int, .int], none⟩ := by decide +kernel
theorem pd18 : parseMethodDescriptor "([CI[BII)I" = some ⟨[(.array .char), .int, (.array .byte), .int, .int], (some .int)⟩ := by decide +kernel
theorem pd19 : parseMethodDescriptor "([CII)[B" = some ⟨[(.array .char), .int, .int], (some (.array .byte))⟩ := by decide +kernel
theorem pd20 : parseMethodDescriptor "([BI)B" = some ⟨[(.array .byte), .int], (some .byte)⟩ := by decide +kernel
theorem pd21 : parseMethodDescriptor "(ICCCC)Ljava/lang/String;" = some ⟨[.int, .char, .char, .char, .char], (some (.object "java/lang/String"))⟩ := by decide +kernel
theorem pd22 : parseMethodDescriptor "(Ljava/lang/String;)Z" = some ⟨[(.object "java/lang/String")], (some .boolean)⟩ := by decide +kernel
theorem pn0 : plainName "java/lang/String" = true := by first | (simp [plainName, overriddenIn]; done) | decide +kernel
theorem pn1 : plainName "jdk/internal/util/Preconditions" = true := by first | (simp [plainName, overriddenIn]; done) | decide +kernel
theorem pn2 : plainName "java/lang/StringLatin1" = true := by first | (simp [plainName, overriddenIn]; done) | decide +kernel
theorem pn3 : plainName "java/lang/StringUTF16" = true := by first | (simp [plainName, overriddenIn]; done) | decide +kernel
theorem pn4 : plainName "com/example/eunomia/eunomia/builtin/UrlTextIsSchemePinLaw" = true := by first | (simp [plainName, overriddenIn]; done) | decide +kernel
theorem pn5 : plainName "com/example/eunomia/eunomia/builtin/UrlText" = true := by first | (simp [plainName, overriddenIn]; done) | decide +kernel
abbrev EL : List (String × Nat) := consts_1
theorem d2_0 : decode jdk_42_method_149_code 0 = .ok (.aload_n 0, 1) := by decide +kernel
theorem d2_1 : decode jdk_42_method_149_code 1 = .ok (.invokespecial 1, 3) := by decide +kernel
theorem d2_4 : decode jdk_42_method_149_code 4 = .ok (.iload_n 3, 1) := by decide +kernel
theorem d2_5 : decode jdk_42_method_149_code 5 = .ok (.ifCond .ne 22, 3) := by decide +kernel
theorem d2_8 : decode jdk_42_method_149_code 8 = .ok (.aload_n 0, 1) := by decide +kernel
theorem d2_9 : decode jdk_42_method_149_code 9 = .ok (.ldc 7, 2) := by decide +kernel
theorem d2_11 : decode jdk_42_method_149_code 11 = .ok (.getfield 9, 3) := by decide +kernel
theorem d2_14 : decode jdk_42_method_149_code 14 = .ok (.putfield 9, 3) := by decide +kernel
theorem d2_17 : decode jdk_42_method_149_code 17 = .ok (.aload_n 0, 1) := by decide +kernel
theorem d2_18 : decode jdk_42_method_149_code 18 = .ok (.ldc 7, 2) := by decide +kernel
theorem d2_20 : decode jdk_42_method_149_code 20 = .ok (.getfield 15, 3) := by decide +kernel
theorem d2_23 : decode jdk_42_method_149_code 23 = .ok (.putfield 15, 3) := by decide +kernel
theorem d2_26 : decode jdk_42_method_149_code 26 = .ok (.return_, 1) := by decide +kernel
theorem d2_27 : decode jdk_42_method_149_code 27 = .ok (.getstatic 38, 3) := by decide +kernel
theorem d2_30 : decode jdk_42_method_149_code 30 = .ok (.ifCond .eq 28, 3) := by decide +kernel
theorem d2_33 : decode jdk_42_method_149_code 33 = .ok (.aload_n 1, 1) := by decide +kernel
theorem d2_34 : decode jdk_42_method_149_code 34 = .ok (.iload_n 2, 1) := by decide +kernel
theorem d2_35 : decode jdk_42_method_149_code 35 = .ok (.iload_n 3, 1) := by decide +kernel
theorem d2_36 : decode jdk_42_method_149_code 36 = .ok (.invokestatic 177, 3) := by decide +kernel
theorem d2_39 : decode jdk_42_method_149_code 39 = .ok (.astore 5, 2) := by decide +kernel
theorem d2_41 : decode jdk_42_method_149_code 41 = .ok (.aload_n 0, 1) := by decide +kernel
theorem d2_42 : decode jdk_42_method_149_code 42 = .ok (.aload 5, 2) := by decide +kernel
theorem d2_44 : decode jdk_42_method_149_code 44 = .ok (.iload_n 3, 1) := by decide +kernel
theorem d2_45 : decode jdk_42_method_149_code 45 = .ok (.invokestatic 47, 3) := by decide +kernel
theorem d2_48 : decode jdk_42_method_149_code 48 = .ok (.putfield 15, 3) := by decide +kernel
theorem d2_51 : decode jdk_42_method_149_code 51 = .ok (.aload_n 0, 1) := by decide +kernel
theorem d2_52 : decode jdk_42_method_149_code 52 = .ok (.aload 5, 2) := by decide +kernel
theorem d2_54 : decode jdk_42_method_149_code 54 = .ok (.putfield 9, 3) := by decide +kernel
theorem d2_57 : decode jdk_42_method_149_code 57 = .ok (.return_, 1) := by decide +kernel
theorem d2_58 : decode jdk_42_method_149_code 58 = .ok (.aload_n 0, 1) := by decide +kernel
theorem d2_59 : decode jdk_42_method_149_code 59 = .ok (.iconst 1, 1) := by decide +kernel
theorem d2_60 : decode jdk_42_method_149_code 60 = .ok (.putfield 15, 3) := by decide +kernel
theorem d2_63 : decode jdk_42_method_149_code 63 = .ok (.aload_n 0, 1) := by decide +kernel
theorem d2_64 : decode jdk_42_method_149_code 64 = .ok (.aload_n 1, 1) := by decide +kernel
theorem d2_65 : decode jdk_42_method_149_code 65 = .ok (.iload_n 2, 1) := by decide +kernel
theorem d2_66 : decode jdk_42_method_149_code 66 = .ok (.iload_n 3, 1) := by decide +kernel
theorem d2_67 : decode jdk_42_method_149_code 67 = .ok (.invokestatic 180, 3) := by decide +kernel
theorem d2_70 : decode jdk_42_method_149_code 70 = .ok (.putfield 9, 3) := by decide +kernel
theorem d2_73 : decode jdk_42_method_149_code 73 = .ok (.return_, 1) := by decide +kernel
set_option maxRecDepth 65536 in
set_option maxHeartbeats 4000000 in
theorem c_new4e (l : Launch) (Z : State) (a0 : Array Value) (hw : ∀ d ∈ tables_1, d.before a0 Z = true) (hEL : EW Z a0 EL) (h0 : Heap) (x b : Addr) (v0 c0 : Value) (E : Exa Z h0 x "java/lang/String") (V : Fld Z h0 x "java/lang/String" "value" "[B" v0) (C0 : Fld Z h0 x "java/lang/String" "coder" "B" c0) : Ow.PayW l Z EL [x] (⟨"java/lang/String", "<init>", "([CIILjava/lang/Void;)V"⟩ : MethodName) jdk_42_method_149_code 6 none ({ frames := 1, cells := 4, slots := 8, locals := 40 } : Room) #[(.ref x), (.ref b), (.int 0), (.int 0), (.null)] h0 (fun v h L => v = none ∧ Ow.Eff h0 h [x] L ∧ ∃ t kb, Ow.Str Z h x t kb []) := by
  refine Ow.PayW.of (Ls := #[.val (.ref x), .val (.ref b), .val (.int 0), .val (.int 0), .val (.null), .unset]) (plainFor_of_name pn0) (fun m => by first | rfl | (simp [entryFrame, mkF, argsToLocals, Value.category]; done)) ?_
  intro p e s m below meth c T vm0 hx hby hml hown hnm hme hret hlk X eT D hsf
  have wS : ∀ a ∈ Bundle.stringAtoms, a.before a0 Z = true := fun d hd => hw d ((by decide +kernel : ∀ d ∈ Bundle.stringAtoms, d ∈ tables_1) d hd)
  have hni := (name_of_methodNamed hnm hme).1
  have Sx : Safe Z EL vm0 h0 x := hsf x (by simp)
  have hlt := E.lt
  have hsl : RoadKit.slotOf Z "java/lang/String" "coder" "B" ≠ RoadKit.slotOf Z "java/lang/String" "value" "[B" := slot_ne (a0 := a0) (C := "java/lang/String") (Or.inr (ww hw 23 rfl)) (Or.inr (ww hw 22 rfl)) (by decide) (t := .byte) (t' := .array .byte) (by decide) (by decide)
  refine Ow.aloadN X hx (pc := 0) (hb hby d2_0) rfl rfl ?_
  refine Ow.objinit X hx D.hZ hown (ww hw 17 rfl) (ww hw 18 rfl) (ww hw 19 rfl) eT (by rw [hml]; rfl) (pc := 1) (hb hby d2_1) rfl rfl ?_
  intro T X eT
  refine Ow.iloadN X hx (pc := 4) (hb hby d2_4) rfl ?_
  refine Ow.if_ne X hx (pc := 5) (pc' := 27) (hb hby d2_5) (by decide) (by decide) (fun q => absurd rfl q) (fun h5 => ?_)
  refine Ow.aloadN X hx (pc := 8) (hb hby d2_8) rfl rfl ?_
  refine Ow.ldcS X hx eT D hEL hown (ww hw 20 rfl) wS (by decide) (vs := []) (z := 0) (by decide) (by decide) (by decide) (pc := 9) (hb hby d2_9) 0 (by decide) (by decide) (by decide) (by decide) ?_
  intro vm1 a1 T h1 b1 k1 X eT E1 D hown C1 A1 F1c F1v V1 ne1
  have Sx1 := C1.safe hlt Sx
  have ne := ne1 x Sx1
  refine Ow.getfield X hx D.hZ hown (ww hw 26 rfl) Via.refl eT F1v (pc := 11) (hb hby d2_11) ?_
  intro T X eT
  refine Ow.putfield X hx D.hZ hown (ww hw 26 rfl) Via.refl eT (V.ext E1) (E.ext E1) (Or.inr ⟨(ww hw 22 rfl), rfl, hni⟩) (ww hw 7 rfl) (ty := .array .byte) (by decide) rfl rfl (pc := 14) (hb hby d2_14) ?_
  intro T h2 X eT W2
  have Sx2 := D.safeWr W2 Sx1 Sx1
  have D := D.wr W2 Sx1
  refine Ow.aloadN X hx (pc := 17) (hb hby d2_17) rfl rfl ?_
  refine Ow.ldcS X hx eT D hEL hown (ww hw 20 rfl) wS (by decide) (vs := []) (z := 0) (by decide) (by decide) (by decide) (pc := 18) (hb hby d2_18) 0 (by decide) (by decide) (by decide) (by decide) ?_
  intro vm3 a3 T h3 b3 k3 X eT E3 D hown C3 A3 F3c F3v V3 ne3
  have Sx3 := C3.safe (by rw [W2.size]; exact Nat.lt_of_lt_of_le hlt E1.1) Sx2
  refine Ow.getfield X hx D.hZ hown (ww hw 27 rfl) Via.refl eT F3c (pc := 20) (hb hby d2_20) ?_
  intro T X eT
  refine Ow.putfield X hx D.hZ hown (ww hw 27 rfl) Via.refl eT (((C0.ext E1).other W2 (Or.inr hsl)).ext E3) (((E.ext E1).wr W2).ext E3) (Or.inr ⟨(ww hw 23 rfl), rfl, hni⟩) (ww hw 7 rfl) (ty := .byte) (by decide) rfl rfl (pc := 23) (hb hby d2_23) ?_
  intro T h4 X eT W4
  have D := D.wr W4 Sx3
  refine Ow.vreturnW X hx eT D hEL hlk hret (hb hby d2_26) ?_ (by decide) (by decide)
  rw [eT]
  refine ⟨rfl, (((((Ow.Eff.refl h0 [x]).ext E1).wr W2 (Or.inl (by simp))).ext E3).wr W4 (Or.inl (by simp))), b1, k1, ⟨(((E.ext E1).wr W2).ext E3).wr W4, (((C0.ext E1).other W2 (Or.inr hsl)).ext E3).same W4, (((V.ext E1).same W2).ext E3).other W4 (Or.inr (Ne.symm hsl)), ?_⟩⟩
  exact (((Ow.AL.of_arv V1 rfl).other W2 (Ne.symm ne.2)).ext E3).other W4 (Ne.symm ne.2)
theorem d1_0 : decode jdk_42_method_3_code 0 = .ok (.aload_n 0, 1) := by decide +kernel
theorem d1_1 : decode jdk_42_method_3_code 1 = .ok (.aload_n 1, 1) := by decide +kernel
theorem d1_2 : decode jdk_42_method_3_code 2 = .ok (.iconst 0, 1) := by decide +kernel
theorem d1_3 : decode jdk_42_method_3_code 3 = .ok (.aload_n 1, 1) := by decide +kernel
theorem d1_4 : decode jdk_42_method_3_code 4 = .ok (.arraylength, 1) := by decide +kernel
theorem d1_5 : decode jdk_42_method_3_code 5 = .ok (.aconst_null, 1) := by decide +kernel
theorem d1_6 : decode jdk_42_method_3_code 6 = .ok (.invokespecial 27, 3) := by decide +kernel
theorem d1_9 : decode jdk_42_method_3_code 9 = .ok (.return_, 1) := by decide +kernel
set_option maxRecDepth 65536 in
set_option maxHeartbeats 4000000 in
theorem c_new1e (l : Launch) (Z : State) (a0 : Array Value) (hw : ∀ d ∈ tables_1, d.before a0 Z = true) (hEL : EW Z a0 EL) (h0 : Heap) (x b : Addr) (v0 c0 : Value) (E : Exa Z h0 x "java/lang/String") (V : Fld Z h0 x "java/lang/String" "value" "[B" v0) (C0 : Fld Z h0 x "java/lang/String" "coder" "B" c0) (kc : ClassId) (A : Ow.AL Z h0 b kc .char []) : Ow.PayW l Z EL [x] (⟨"java/lang/String", "<init>", "([C)V"⟩ : MethodName) jdk_42_method_3_code 2 none ({ frames := 2, cells := 4, slots := 8, locals := 60 } : Room) #[(.ref x), (.ref b)] h0 (fun v h L => v = none ∧ Ow.Eff h0 h [x] L ∧ ∃ t kb, Ow.Str Z h x t kb []) := by
  refine Ow.PayW.of (Ls := #[.val (.ref x), .val (.ref b)]) (plainFor_of_name pn0) (fun m => by first | rfl | (simp [entryFrame, mkF, argsToLocals, Value.category]; done)) ?_
  intro p e s m below meth c T vm0 hx hby hml hown hnm hme hret hlk X eT D hsf
  refine Ow.aloadN X hx (pc := 0) (hb hby d1_0) rfl rfl ?_
  refine Ow.aloadN X hx (pc := 1) (hb hby d1_1) rfl rfl ?_
  refine Ow.iconst X hx (pc := 2) (0) (hb hby d1_2) (by decide) ?_
  refine Ow.aloadN X hx (pc := 3) (hb hby d1_3) rfl rfl ?_
  refine Ow.lengthL X hx D.hZ eT A 0 rfl (pc := 4) (hb hby d1_4) ?_
  refine Ow.aconst_null X hx (pc := 5) (hb hby d1_5) ?_
  refine Ow.callIW X hx (c_new4e l Z a0 hw hEL h0 x b v0 c0 E V C0) eT D hEL (fun y hy => by cases List.mem_singleton.mp hy; exact ⟨E.lt, hsf _ (by simp)⟩) rfl hown (ww hw 13 rfl) (ww hw 14 rfl) (ww hw 8 rfl) (ww hw 16 rfl) (by decide) pd1 (by rw [hml]; rfl) (argsL := [_, _, _, _]) rfl rfl rfl (pc := 6) (hb hby d1_6) rfl rfl (by decide) (by decide) ?_
  rintro _ vm1 T L X ⟨rfl, F, t, kb, St⟩ D hown C1
  dsimp only [Option.toList_some, Option.toList_none, List.cons_append, List.nil_append]
  exact Ow.vreturnW X hx rfl D hEL hlk hret (hb hby d1_9) ⟨rfl, F, t, kb, St⟩ (by decide) (by decide)
theorem own_ch8 : ∀ n : Fin 256, fits .char (.int (Int32.ofNat n.val)) = true ∧ ¬ (255 : Int32) < Int32.ofNat n.val ∧ nar .char (Int32.ofNat n.val) = Int32.ofNat n.val ∧ (Int32.ofNat n.val).toUInt32.toUInt16.toUInt32.toInt32 = Int32.ofNat n.val := by decide +kernel
/-- new String(cs), cs not empty, each a Latin-1 char: as a step -/
theorem strLat {p : Program} {l : Launch} {e : Env} {R : Room} {s : State} {m : MethodId} {args : Array Value} {below : List Frame} {meth : Method} {c : Code} {T : State} {locs : List Loc} {cells slots : Nat} {G : Outcome → State → Prop} {pc : Nat} {Ls : Array Slot} {rest : List Value} {Z : State} {a0 : Array Value} {h : Heap}
    (X : Stand p l e R s m args below meth c T locs cells slots) (hx : p.tables.exec = Jvm.exec) (hZ : Z.Warmed39 s.vm) (hw : ∀ d ∈ tables_1, d.before a0 Z = true) (eT : T.heap = h) {own : String} {index : Nat} (hown : s.vm.findClass own = some m.cls) (wl : (Cond.methodLink own index (⟨"java/lang/String", "<init>", "([C)V"⟩ : MethodName)).before a0 Z = true)
    {x b : Addr} {kc : ClassId} {cs : List Int32} {v0 c0 : Value} {z : Int32} (E : Exa Z h x "java/lang/String") (V : Fld Z h x "java/lang/String" "value" "[B" v0) (C0 : Fld Z h x "java/lang/String" "coder" "B" c0) (A : Ow.AL Z h b kc .char (cs.map Value.int)) (S : Sta Z h "java/lang/String" "COMPACT_STRINGS" "Z" (.int z)) (hz : ¬ z = 0) (n : Nat) (hn : cs.length = n) (h0 : 0 < n) (hbig : n ≤ 4000) (hall : ∀ c ∈ cs, ∃ k : Fin 256, c = Int32.ofNat k.val) (hsz : Ls.size = c.maxLocals)
    (hd : decode c.code pc = .ok (.invokespecial index, 3)) (hf : (4 : Nat).ble R.frames = true) (hlo : ((rest.map fun v => v.category).sum + 65).ble R.locals = true) (hce : cells + 1 ≤ R.cells) (hsl : slots + n ≤ R.slots)
    (K : ∀ (T' : State) (L : List Loc) (kb : ClassId), Stand p l e R s m args below meth c T' (locs ++ L) (cells + 1) (slots + n) → Ow.Eff h T'.heap [x] L → Ow.Str Z T'.heap x h.size kb (cs.map fun c => c.toInt8.toInt32) → Go p.tables e below G (T'.setTop (mkF m (pc + 3) Ls rest))) :
    Go p.tables e below G (T.setTop (mkF m pc Ls (.ref b :: .ref x :: rest))) := by
  subst hn
  have hws : ∀ d ∈ StrChars.Road.words, d.before a0 Z = true := fun d hd => hw d ((by decide +kernel : ∀ d ∈ StrChars.Road.words, d ∈ tables_1) d hd)
  have hb31 : cs.length < 2147483648 := by omega
  refine Ow.callIB X hx hZ (StrChars.Road.backArv (kI := 4) hZ hws (ww hw 7 rfl) E V C0 (A.arv (z := Int32.ofNat cs.length) (dv := .int 0) (Ow.n_nn hb31) (by rw [Ow.n_cl hb31, List.length_map]) (fun v hv => ?_)) S hz (Ow.n_cl hb31) h0 (by omega) (fun c hc => ?_) (Nat.le_of_ble_eq_true hf) (Nat.le_of_ble_eq_true hlo)) eT rfl hown wl (ww hw 11 rfl) (ww hw 12 rfl) (by decide) pd2 hsz (a := x) (argsL := [.ref b]) rfl rfl rfl hd hce hsl ?_
  · obtain ⟨c, hc, rfl⟩ := List.mem_map.mp hv
    obtain ⟨k, rfl⟩ := hall c hc
    exact (own_ch8 k).1
  · obtain ⟨k, rfl⟩ := hall c hc
    exact (own_ch8 k).2.1
  · rintro _ T' L X' ⟨rfl, q2, q3, q4, q5, q6, q7, ⟨kb, -, q8⟩, -⟩
    refine K T' L kb X' ⟨q3, fun y hy => Or.inl (by rw [q2 y hy]; simp)⟩ ⟨q5, q7, q6, ?_⟩
    have q9 := Ow.AL.of_arv q8 (by rw [Ow.n_cl hb31, List.length_map])
    rw [List.map_map]; exact q9
theorem own_mask8 (x : Int32) : ∃ n : Fin 256, (x &&& (255 : Int32)) = Int32.ofNat n.val := by
  refine ⟨⟨(x &&& 255).toBitVec.toNat, ?_⟩, ?_⟩
  · simp only [Int32.toBitVec_and, BitVec.toNat_and]
    exact Nat.lt_of_le_of_lt Nat.and_le_right (by decide)
  · apply Int32.toBitVec_inj.mp
    show _ = BitVec.ofNat 32 _
    rw [BitVec.ofNat_toNat]; simp
theorem d12_0 : decode jdk_42_method_152_code 0 = .ok (.getstatic 38, 3) := by decide +kernel
theorem d12_3 : decode jdk_42_method_152_code 3 = .ok (.ifCond .eq 10, 3) := by decide +kernel
theorem d12_6 : decode jdk_42_method_152_code 6 = .ok (.aload_n 0, 1) := by decide +kernel
theorem d12_7 : decode jdk_42_method_152_code 7 = .ok (.getfield 15, 3) := by decide +kernel
theorem d12_10 : decode jdk_42_method_152_code 10 = .ok (.goto 4, 3) := by decide +kernel
theorem d12_13 : decode jdk_42_method_152_code 13 = .ok (.iconst 1, 1) := by decide +kernel
theorem d12_14 : decode jdk_42_method_152_code 14 = .ok (.ireturn, 1) := by decide +kernel
set_option maxRecDepth 65536 in
set_option maxHeartbeats 4000000 in
theorem c_coder (l : Launch) (Z : State) (a0 : Array Value) (hw : ∀ d ∈ tables_1, d.before a0 Z = true) (h0 : Heap) (z : Int32) (x : Addr) (S : Sta Z h0 "java/lang/String" "COMPACT_STRINGS" "Z" (.int z)) (hz : ¬ z = 0) (C0 : Fld Z h0 x "java/lang/String" "coder" "B" (.int 0)) : Ow.Pay l Z (⟨"java/lang/String", "coder", "()B"⟩ : MethodName) jdk_42_method_152_code 1 (some .byte) ({ frames := 0, cells := 0, slots := 0, locals := 0 } : Room) #[(.ref x)] h0 (fun v h L => v = some (.int 0) ∧ h = h0 ∧ L = []) := by
  refine Ow.Pay.of (Ls := #[.val (.ref x)]) (plainFor_of_name pn0) (fun m => by first | rfl | (simp [entryFrame, mkF, argsToLocals, Value.category]; done)) ?_
  intro p e s m below meth c T hx hby hml hown hnm hme hZ hret hlk X eT
  refine Ow.getstatic X hx hZ hown (ww hw 37 rfl) Via.refl eT S (pc := 0) (hb hby d12_0) ?_   -- "java/lang/String" "COMPACT_STRINGS" "Z"
  intro T X eT
  refine Ow.if_eq X hx (pc := 3) (pc' := 13) (hb hby d12_3) (by decide) (by decide) (fun q => absurd q hz) (fun h3 => ?_)
  refine Ow.aloadN X hx (pc := 6) (hb hby d12_6) rfl rfl ?_
  refine Ow.getfield X hx hZ hown (ww hw 27 rfl) Via.refl eT C0 (pc := 7) (hb hby d12_7) ?_   -- "java/lang/String" "coder" "B"
  intro T X eT
  refine Ow.goto X hx (pc := 10) (pc' := 14) (hb hby d12_10) (by decide) (by decide) ?_
  exact Ow.nreturn X hx hlk hret (Or.inr (Or.inl rfl)) (hb hby d12_14) ⟨rfl, eT, rfl⟩ (by decide) (by decide)
theorem d14_0 : decode jdk_42_method_154_code 0 = .ok (.getstatic 38, 3) := by decide +kernel
theorem d14_3 : decode jdk_42_method_154_code 3 = .ok (.ifCond .eq 14, 3) := by decide +kernel
theorem d14_6 : decode jdk_42_method_154_code 6 = .ok (.aload_n 0, 1) := by decide +kernel
theorem d14_7 : decode jdk_42_method_154_code 7 = .ok (.getfield 15, 3) := by decide +kernel
theorem d14_10 : decode jdk_42_method_154_code 10 = .ok (.ifCond .ne 7, 3) := by decide +kernel
theorem d14_13 : decode jdk_42_method_154_code 13 = .ok (.iconst 1, 1) := by decide +kernel
theorem d14_14 : decode jdk_42_method_154_code 14 = .ok (.goto 4, 3) := by decide +kernel
theorem d14_17 : decode jdk_42_method_154_code 17 = .ok (.iconst 0, 1) := by decide +kernel
theorem d14_18 : decode jdk_42_method_154_code 18 = .ok (.ireturn, 1) := by decide +kernel
set_option maxRecDepth 65536 in
set_option maxHeartbeats 4000000 in
theorem c_isLatin1 (l : Launch) (Z : State) (a0 : Array Value) (hw : ∀ d ∈ tables_1, d.before a0 Z = true) (h0 : Heap) (z : Int32) (x : Addr) (S : Sta Z h0 "java/lang/String" "COMPACT_STRINGS" "Z" (.int z)) (hz : ¬ z = 0) (C0 : Fld Z h0 x "java/lang/String" "coder" "B" (.int 0)) : Ow.Pay l Z (⟨"java/lang/String", "isLatin1", "()Z"⟩ : MethodName) jdk_42_method_154_code 1 (some .boolean) ({ frames := 0, cells := 0, slots := 0, locals := 0 } : Room) #[(.ref x)] h0 (fun v h L => v = some (.int 1) ∧ h = h0 ∧ L = []) := by
  refine Ow.Pay.of (Ls := #[.val (.ref x)]) (plainFor_of_name pn0) (fun m => by first | rfl | (simp [entryFrame, mkF, argsToLocals, Value.category]; done)) ?_
  intro p e s m below meth c T hx hby hml hown hnm hme hZ hret hlk X eT
  refine Ow.getstatic X hx hZ hown (ww hw 37 rfl) Via.refl eT S (pc := 0) (hb hby d14_0) ?_   -- "java/lang/String" "COMPACT_STRINGS" "Z"
  intro T X eT
  refine Ow.if_eq X hx (pc := 3) (pc' := 17) (hb hby d14_3) (by decide) (by decide) (fun q => absurd q hz) (fun h3 => ?_)
  refine Ow.aloadN X hx (pc := 6) (hb hby d14_6) rfl rfl ?_
  refine Ow.getfield X hx hZ hown (ww hw 27 rfl) Via.refl eT C0 (pc := 7) (hb hby d14_7) ?_   -- "java/lang/String" "coder" "B"
  intro T X eT
  refine Ow.if_ne X hx (pc := 10) (pc' := 17) (hb hby d14_10) (by decide) (by decide) (fun q => absurd rfl q) (fun h10 => ?_)
  refine Ow.iconst X hx (pc := 13) (1) (hb hby d14_13) (by decide) ?_
  refine Ow.goto X hx (pc := 14) (pc' := 18) (hb hby d14_14) (by decide) (by decide) ?_
  exact Ow.nreturn X hx hlk hret (Or.inl rfl) (hb hby d14_18) ⟨rfl, eT, rfl⟩ (by decide) (by decide)
theorem d11_0 : decode jdk_42_method_54_code 0 = .ok (.aload_n 0, 1) := by decide +kernel
theorem d11_1 : decode jdk_42_method_54_code 1 = .ok (.getfield 9, 3) := by decide +kernel
theorem d11_4 : decode jdk_42_method_54_code 4 = .ok (.arraylength, 1) := by decide +kernel
theorem d11_5 : decode jdk_42_method_54_code 5 = .ok (.aload_n 0, 1) := by decide +kernel
theorem d11_6 : decode jdk_42_method_54_code 6 = .ok (.invokevirtual 335, 3) := by decide +kernel
theorem d11_9 : decode jdk_42_method_54_code 9 = .ok (.ishr, 1) := by decide +kernel
theorem d11_10 : decode jdk_42_method_54_code 10 = .ok (.ireturn, 1) := by decide +kernel
set_option maxRecDepth 65536 in
set_option maxHeartbeats 4000000 in
theorem c_length (l : Launch) (Z : State) (a0 : Array Value) (hw : ∀ d ∈ tables_1, d.before a0 Z = true) (h0 : Heap) (z : Int32) (x t : Addr) (kb : ClassId) (bs : List Int32) (S : Sta Z h0 "java/lang/String" "COMPACT_STRINGS" "Z" (.int z)) (hz : ¬ z = 0) (St : Ow.Str Z h0 x t kb bs) : Ow.Pay l Z (⟨"java/lang/String", "length", "()I"⟩ : MethodName) jdk_42_method_54_code 1 (some .int) ({ frames := 1, cells := 0, slots := 0, locals := 13 } : Room) #[(.ref x)] h0 (fun v h L => v = some (.int (Int32.ofNat bs.length)) ∧ h = h0 ∧ L = []) := by
  refine Ow.Pay.of (Ls := #[.val (.ref x)]) (plainFor_of_name pn0) (fun m => by first | rfl | (simp [entryFrame, mkF, argsToLocals, Value.category]; done)) ?_
  intro p e s m below meth c T hx hby hml hown hnm hme hZ hret hlk X eT
  refine Ow.aloadN X hx (pc := 0) (hb hby d11_0) rfl rfl ?_
  refine Ow.getfield X hx hZ hown (ww hw 26 rfl) Via.refl eT St.2.2.1 (pc := 1) (hb hby d11_1) ?_   -- "java/lang/String" "value" "[B"
  intro T X eT
  refine Ow.lengthL X hx hZ eT St.2.2.2 (Int32.ofNat bs.length) (by rw [List.length_map]) (pc := 4) (hb hby d11_4) ?_
  refine Ow.aloadN X hx (pc := 5) (hb hby d11_5) rfl rfl ?_
  refine Ow.callVP X hx hZ (c_coder l Z a0 hw h0 z x S hz St.2.1) rfl rfl eT hown (ww hw 63 rfl) (ww hw 64 rfl) (ww hw 66 rfl) (ww hw 65 rfl) (ww hw 8 rfl) (ww hw 67 rfl) (by decide) pd3 (by rw [hml]; rfl) St.1 (argsL := []) rfl rfl rfl (pc := 6) (hb hby d11_6) rfl rfl (by decide) (by decide) ?_   -- java/lang/String.coder:()B
  intro T X eT
  dsimp only [Option.toList_some, Option.toList_none, List.cons_append, List.nil_append]
  refine Ow.ishr X hx (pc := 9) (hb hby d11_9) ?_
  exact Ow.ireturn X hx hlk hret (hb hby d11_10) ⟨by rw [Ow.shr0], eT, rfl⟩ (by decide) (by decide)
theorem d17_0 : decode jdk_41_method_11_code 0 = .ok (.iload_n 0, 1) := by decide +kernel
theorem d17_1 : decode jdk_41_method_11_code 1 = .ok (.ifCond .lt 8, 3) := by decide +kernel
theorem d17_4 : decode jdk_41_method_11_code 4 = .ok (.iload_n 0, 1) := by decide +kernel
theorem d17_5 : decode jdk_41_method_11_code 5 = .ok (.iload_n 1, 1) := by decide +kernel
theorem d17_6 : decode jdk_41_method_11_code 6 = .ok (.if_icmp .lt 10, 3) := by decide +kernel
theorem d17_9 : decode jdk_41_method_11_code 9 = .ok (.aload_n 2, 1) := by decide +kernel
theorem d17_10 : decode jdk_41_method_11_code 10 = .ok (.iload_n 0, 1) := by decide +kernel
theorem d17_11 : decode jdk_41_method_11_code 11 = .ok (.iload_n 1, 1) := by decide +kernel
theorem d17_12 : decode jdk_41_method_11_code 12 = .ok (.invokestatic 95, 3) := by decide +kernel
theorem d17_15 : decode jdk_41_method_11_code 15 = .ok (.athrow, 1) := by decide +kernel
theorem d17_16 : decode jdk_41_method_11_code 16 = .ok (.iload_n 0, 1) := by decide +kernel
theorem d17_17 : decode jdk_41_method_11_code 17 = .ok (.ireturn, 1) := by decide +kernel
set_option maxRecDepth 65536 in
set_option maxHeartbeats 4000000 in
theorem c_pcheckIndex (l : Launch) (Z : State) (a0 : Array Value) (hw : ∀ d ∈ tables_1, d.before a0 Z = true) (h0 : Heap) (fm : Value) (hfm : fm.isRef = true) (i n : Nat) (hin : i < n) (hn : n < 2147483648) : Ow.Pay l Z (⟨"jdk/internal/util/Preconditions", "checkIndex", "(IILjava/util/function/BiFunction;)I"⟩ : MethodName) jdk_41_method_11_code 3 (some .int) ({ frames := 0, cells := 0, slots := 0, locals := 0 } : Room) #[(.int (Int32.ofNat i)), (.int (Int32.ofNat n)), (fm)] h0 (fun v h L => v = some (.int (Int32.ofNat i)) ∧ h = h0 ∧ L = []) := by
  refine Ow.Pay.of (Ls := #[.val (.int (Int32.ofNat i)), .val (.int (Int32.ofNat n)), .val (fm)]) (plainFor_of_name pn1) (fun m => by rcases ref_cases hfm with rfl | ⟨r, rfl⟩ <;> rfl) ?_
  intro p e s m below meth c T hx hby hml hown hnm hme hZ hret hlk X eT
  refine Ow.iloadN X hx (pc := 0) (hb hby d17_0) rfl ?_
  refine Ow.if_lt X hx (pc := 1) (pc' := 9) (hb hby d17_1) (by decide) (by decide) (fun q => absurd q (Ow.n_nn (by omega))) (fun h1 => ?_)
  refine Ow.iloadN X hx (pc := 4) (hb hby d17_4) rfl ?_
  refine Ow.iloadN X hx (pc := 5) (hb hby d17_5) rfl ?_
  refine Ow.icmp_lt X hx (pc := 6) (pc' := 16) (hb hby d17_6) (by decide) (by decide) (fun h6 => ?_) (fun q => absurd ((Ow.n_lt (by omega) (by omega)).mpr hin) q)
  refine Ow.iloadN X hx (pc := 16) (hb hby d17_16) rfl ?_
  exact Ow.ireturn X hx hlk hret (hb hby d17_17) ⟨rfl, eT, rfl⟩ (by decide) (by decide)
theorem d16_0 : decode jdk_42_method_155_code 0 = .ok (.iload_n 0, 1) := by decide +kernel
theorem d16_1 : decode jdk_42_method_155_code 1 = .ok (.iload_n 1, 1) := by decide +kernel
theorem d16_2 : decode jdk_42_method_155_code 2 = .ok (.getstatic 1053, 3) := by decide +kernel
theorem d16_5 : decode jdk_42_method_155_code 5 = .ok (.invokestatic 1059, 3) := by decide +kernel
theorem d16_8 : decode jdk_42_method_155_code 8 = .ok (.pop, 1) := by decide +kernel
theorem d16_9 : decode jdk_42_method_155_code 9 = .ok (.return_, 1) := by decide +kernel
set_option maxRecDepth 65536 in
set_option maxHeartbeats 4000000 in
theorem c_scheckIndex (l : Launch) (Z : State) (a0 : Array Value) (hw : ∀ d ∈ tables_1, d.before a0 Z = true) (h0 : Heap) (fm : Value) (Sf : Sta Z h0 "jdk/internal/util/Preconditions" "SIOOBE_FORMATTER" "Ljava/util/function/BiFunction;" fm) (hfm : fm.isRef = true) (i n : Nat) (hin : i < n) (hn : n < 2147483648) : Ow.Pay l Z (⟨"java/lang/String", "checkIndex", "(II)V"⟩ : MethodName) jdk_42_method_155_code 2 none ({ frames := 1, cells := 0, slots := 0, locals := 14 } : Room) #[(.int (Int32.ofNat i)), (.int (Int32.ofNat n))] h0 (fun v h L => v = none ∧ h = h0 ∧ L = []) := by
  refine Ow.Pay.of (Ls := #[.val (.int (Int32.ofNat i)), .val (.int (Int32.ofNat n))]) (plainFor_of_name pn0) (fun m => by first | rfl | (simp [entryFrame, mkF, argsToLocals, Value.category]; done)) ?_
  intro p e s m below meth c T hx hby hml hown hnm hme hZ hret hlk X eT
  refine Ow.iloadN X hx (pc := 0) (hb hby d16_0) rfl ?_
  refine Ow.iloadN X hx (pc := 1) (hb hby d16_1) rfl ?_
  refine Ow.getstatic X hx hZ hown (ww hw 88 rfl) Via.refl eT Sf (pc := 2) (hb hby d16_2) ?_   -- "jdk/internal/util/Preconditions" "SIOOBE_FORMATTER" "Ljava/util/function/BiFunction;"
  intro T X eT
  refine Ow.callSP X hx hZ (c_pcheckIndex l Z a0 hw h0 fm hfm i n hin hn) rfl rfl eT hown (ww hw 90 rfl) (ww hw 91 rfl) (ww hw 89 rfl) (ww hw 92 rfl) (by decide) pd4 (by rw [hml]; rfl) (argsL := [_, _, _]) rfl rfl rfl (pc := 5) (hb hby d16_5) rfl rfl (by decide) (by decide) ?_   -- jdk/internal/util/Preconditions.checkIndex:(IILjava/util/function/BiFunction;)I
  intro T X eT
  dsimp only [Option.toList_some, Option.toList_none, List.cons_append, List.nil_append]
  refine Ow.pop X hx (pc := 8) (hb hby d16_8) rfl ?_
  exact Ow.vreturn X hx hlk hret (hb hby d16_9) ⟨rfl, eT, rfl⟩ (by decide) (by decide)
theorem own_i2c8 (v : Int32) : nar .char ((v &&& 255).toUInt32.toUInt16.toUInt32.toInt32) = v &&& 255 := by
  obtain ⟨n, hn⟩ := own_mask8 v
  rw [hn, (own_ch8 n).2.2.2, (own_ch8 n).2.2.1]
theorem d15_0 : decode jdk_43_method_2_code 0 = .ok (.iload_n 1, 1) := by decide +kernel
theorem d15_1 : decode jdk_43_method_2_code 1 = .ok (.aload_n 0, 1) := by decide +kernel
theorem d15_2 : decode jdk_43_method_2_code 2 = .ok (.arraylength, 1) := by decide +kernel
theorem d15_3 : decode jdk_43_method_2_code 3 = .ok (.invokestatic 9, 3) := by decide +kernel
theorem d15_6 : decode jdk_43_method_2_code 6 = .ok (.aload_n 0, 1) := by decide +kernel
theorem d15_7 : decode jdk_43_method_2_code 7 = .ok (.iload_n 1, 1) := by decide +kernel
theorem d15_8 : decode jdk_43_method_2_code 8 = .ok (.baload, 1) := by decide +kernel
theorem d15_9 : decode jdk_43_method_2_code 9 = .ok (.sipush 255, 3) := by decide +kernel
theorem d15_12 : decode jdk_43_method_2_code 12 = .ok (.iand, 1) := by decide +kernel
theorem d15_13 : decode jdk_43_method_2_code 13 = .ok (.i2c, 1) := by decide +kernel
theorem d15_14 : decode jdk_43_method_2_code 14 = .ok (.ireturn, 1) := by decide +kernel
set_option maxRecDepth 65536 in
set_option maxHeartbeats 4000000 in
theorem c_latCharAt (l : Launch) (Z : State) (a0 : Array Value) (hw : ∀ d ∈ tables_1, d.before a0 Z = true) (h0 : Heap) (fm : Value) (Sf : Sta Z h0 "jdk/internal/util/Preconditions" "SIOOBE_FORMATTER" "Ljava/util/function/BiFunction;" fm) (hfm : fm.isRef = true) (t : Addr) (kb : ClassId) (bs : List Int32) (i : Nat) (A : Ow.AL Z h0 t kb .byte (bs.map Value.int)) (hi : i < bs.length) (hbig : bs.length < 2147483648) : Ow.Pay l Z (⟨"java/lang/StringLatin1", "charAt", "([BI)C"⟩ : MethodName) jdk_43_method_2_code 2 (some .char) ({ frames := 2, cells := 0, slots := 0, locals := 30 } : Room) #[(.ref t), (.int (Int32.ofNat i))] h0 (fun v h L => v = some (.int (bs.getD i 0 &&& 255)) ∧ h = h0 ∧ L = []) := by
  refine Ow.Pay.of (Ls := #[.val (.ref t), .val (.int (Int32.ofNat i))]) (plainFor_of_name pn2) (fun m => by first | rfl | (simp [entryFrame, mkF, argsToLocals, Value.category]; done)) ?_
  intro p e s m below meth c T hx hby hml hown hnm hme hZ hret hlk X eT
  refine Ow.iloadN X hx (pc := 0) (hb hby d15_0) rfl ?_
  refine Ow.aloadN X hx (pc := 1) (hb hby d15_1) rfl rfl ?_
  refine Ow.lengthL X hx hZ eT A (Int32.ofNat bs.length) (by rw [List.length_map]) (pc := 2) (hb hby d15_2) ?_
  refine Ow.callSP X hx hZ (c_scheckIndex l Z a0 hw h0 fm Sf hfm i bs.length hi hbig) rfl rfl eT hown (ww hw 85 rfl) (ww hw 86 rfl) (ww hw 8 rfl) (ww hw 87 rfl) (by decide) pd5 (by rw [hml]; rfl) (argsL := [_, _]) rfl rfl rfl (pc := 3) (hb hby d15_3) rfl rfl (by decide) (by decide) ?_   -- java/lang/String.checkIndex:(II)V
  intro T X eT
  dsimp only [Option.toList_some, Option.toList_none, List.cons_append, List.nil_append]
  refine Ow.aloadN X hx (pc := 6) (hb hby d15_6) rfl rfl ?_
  refine Ow.iloadN X hx (pc := 7) (hb hby d15_7) rfl ?_
  refine Ow.baloadL X hx hZ eT A i (.int (bs.getD i 0)) (Ow.n_nn (by omega)) (Ow.n_cl (by omega)) (by simp [hi]) (pc := 8) (hb hby d15_8) ?_
  refine Ow.sipush X hx (pc := 9) (255) (hb hby d15_9) (by decide) ?_
  refine Ow.iand X hx (pc := 12) (hb hby d15_12) ?_
  refine Ow.i2c X hx (pc := 13) (hb hby d15_13) ?_
  exact Ow.nreturn X hx hlk hret (Or.inr (Or.inr (Or.inl rfl))) (hb hby d15_14) ⟨by rw [own_i2c8], eT, rfl⟩ (by decide) (by decide)
theorem d13_0 : decode jdk_42_method_56_code 0 = .ok (.aload_n 0, 1) := by decide +kernel
theorem d13_1 : decode jdk_42_method_56_code 1 = .ok (.invokevirtual 492, 3) := by decide +kernel
theorem d13_4 : decode jdk_42_method_56_code 4 = .ok (.ifCond .eq 12, 3) := by decide +kernel
theorem d13_7 : decode jdk_42_method_56_code 7 = .ok (.aload_n 0, 1) := by decide +kernel
theorem d13_8 : decode jdk_42_method_56_code 8 = .ok (.getfield 9, 3) := by decide +kernel
theorem d13_11 : decode jdk_42_method_56_code 11 = .ok (.iload_n 1, 1) := by decide +kernel
theorem d13_12 : decode jdk_42_method_56_code 12 = .ok (.invokestatic 495, 3) := by decide +kernel
theorem d13_15 : decode jdk_42_method_56_code 15 = .ok (.ireturn, 1) := by decide +kernel
theorem d13_16 : decode jdk_42_method_56_code 16 = .ok (.aload_n 0, 1) := by decide +kernel
theorem d13_17 : decode jdk_42_method_56_code 17 = .ok (.getfield 9, 3) := by decide +kernel
theorem d13_20 : decode jdk_42_method_56_code 20 = .ok (.iload_n 1, 1) := by decide +kernel
theorem d13_21 : decode jdk_42_method_56_code 21 = .ok (.invokestatic 498, 3) := by decide +kernel
theorem d13_24 : decode jdk_42_method_56_code 24 = .ok (.ireturn, 1) := by decide +kernel
set_option maxRecDepth 65536 in
set_option maxHeartbeats 4000000 in
theorem c_charAt (l : Launch) (Z : State) (a0 : Array Value) (hw : ∀ d ∈ tables_1, d.before a0 Z = true) (h0 : Heap) (z : Int32) (fm : Value) (S : Sta Z h0 "java/lang/String" "COMPACT_STRINGS" "Z" (.int z)) (hz : ¬ z = 0) (Sf : Sta Z h0 "jdk/internal/util/Preconditions" "SIOOBE_FORMATTER" "Ljava/util/function/BiFunction;" fm) (hfm : fm.isRef = true) (x t : Addr) (kb : ClassId) (bs : List Int32) (i : Nat) (St : Ow.Str Z h0 x t kb bs) (hi : i < bs.length) (hbig : bs.length < 2147483648) : Ow.Pay l Z (⟨"java/lang/String", "charAt", "(I)C"⟩ : MethodName) jdk_42_method_56_code 2 (some .char) ({ frames := 4, cells := 0, slots := 0, locals := 60 } : Room) #[(.ref x), (.int (Int32.ofNat i))] h0 (fun v h L => v = some (.int (bs.getD i 0 &&& 255)) ∧ h = h0 ∧ L = []) := by
  refine Ow.Pay.of (Ls := #[.val (.ref x), .val (.int (Int32.ofNat i))]) (plainFor_of_name pn0) (fun m => by first | rfl | (simp [entryFrame, mkF, argsToLocals, Value.category]; done)) ?_
  intro p e s m below meth c T hx hby hml hown hnm hme hZ hret hlk X eT
  refine Ow.aloadN X hx (pc := 0) (hb hby d13_0) rfl rfl ?_
  refine Ow.callVP X hx hZ (c_isLatin1 l Z a0 hw h0 z x S hz St.2.1) rfl rfl eT hown (ww hw 76 rfl) (ww hw 77 rfl) (ww hw 79 rfl) (ww hw 78 rfl) (ww hw 8 rfl) (ww hw 80 rfl) (by decide) pd6 (by rw [hml]; rfl) St.1 (argsL := []) rfl rfl rfl (pc := 1) (hb hby d13_1) rfl rfl (by decide) (by decide) ?_   -- java/lang/String.isLatin1:()Z
  intro T X eT
  dsimp only [Option.toList_some, Option.toList_none, List.cons_append, List.nil_append]
  refine Ow.if_eq X hx (pc := 4) (pc' := 16) (hb hby d13_4) (by decide) (by decide) (fun q => absurd q (by decide)) (fun h4 => ?_)
  refine Ow.aloadN X hx (pc := 7) (hb hby d13_7) rfl rfl ?_
  refine Ow.getfield X hx hZ hown (ww hw 26 rfl) Via.refl eT St.2.2.1 (pc := 8) (hb hby d13_8) ?_   -- "java/lang/String" "value" "[B"
  intro T X eT
  refine Ow.iloadN X hx (pc := 11) (hb hby d13_11) rfl ?_
  refine Ow.callSP X hx hZ (c_latCharAt l Z a0 hw h0 fm Sf hfm t kb bs i St.2.2.2 hi hbig) rfl rfl eT hown (ww hw 81 rfl) (ww hw 82 rfl) (ww hw 83 rfl) (ww hw 84 rfl) (by decide) pd7 (by rw [hml]; rfl) (argsL := [_, _]) rfl rfl rfl (pc := 12) (hb hby d13_12) rfl rfl (by decide) (by decide) ?_   -- java/lang/StringLatin1.charAt:([BI)C
  intro T X eT
  dsimp only [Option.toList_some, Option.toList_none, List.cons_append, List.nil_append]
  exact Ow.nreturn X hx hlk hret (Or.inr (Or.inr (Or.inl rfl))) (hb hby d13_15) ⟨by obtain ⟨n, hn⟩ := own_mask8 (bs.getD i 0); rw [hn, (own_ch8 n).2.2.1], eT, rfl⟩ (by decide) (by decide)
theorem own_nb (x : Int32) : nar .byte x.toInt8.toInt32 = x.toInt8.toInt32 := by
  show x.toInt8.toInt32.toInt8.toInt32 = _
  simp
def own_ok (c : Int32) : Prop := ¬ c < 0 ∧ ¬ 65535 < c
def own_wb : List Int32 → List Value
  | [] => []
  | c :: cs => .int (StrChars.lo8 c) :: .int (StrChars.hi8 c) :: own_wb cs
/-- a String at x, its bytes at t, that spells cs -/
def own_Tx (Z : State) (h : Heap) (x t : Addr) (kb : ClassId) (cs : List Int32) : Prop := Exa Z h x "java/lang/String" ∧ Fld Z h x "java/lang/String" "value" "[B" (.ref t) ∧ ((Fld Z h x "java/lang/String" "coder" "B" (.int 0) ∧ Ow.AL Z h t kb .byte (cs.map fun c => Value.int (StrChars.lo8 c)) ∧ ∀ c ∈ cs, ¬ 255 < c) ∨ (Fld Z h x "java/lang/String" "coder" "B" (.int 1) ∧ Ow.AL Z h t kb .byte (own_wb cs)))
theorem own_Tx.ext {Z : State} {h h' : Heap} {x t : Addr} {kb : ClassId} {cs : List Int32} (S : own_Tx Z h x t kb cs) (E : Ext h h') : own_Tx Z h' x t kb cs := by
  obtain ⟨A, V, ⟨C0, B, q⟩ | ⟨C1, B⟩⟩ := S
  · exact ⟨A.ext E, V.ext E, Or.inl ⟨C0.ext E, B.ext E, q⟩⟩
  · exact ⟨A.ext E, V.ext E, Or.inr ⟨C1.ext E, B.ext E⟩⟩
theorem own_txL {Z : State} {h : Heap} {x t : Addr} {kb : ClassId} {cs : List Int32} (S : Ow.Str Z h x t kb (cs.map fun c => c.toInt8.toInt32)) (hL : ∀ c ∈ cs, ¬ 255 < c) : own_Tx Z h x t kb cs := by
  obtain ⟨A, C0, V, B⟩ := S
  rw [List.map_map] at B
  exact ⟨A, V, Or.inl ⟨C0, B, hL⟩⟩
theorem own_small {c : Int32} (h0 : ¬ c < 0) (h1 : ¬ 255 < c) : ∃ k : Fin 256, c = Int32.ofNat k.val := by
  rw [Int32.lt_iff_toInt_lt] at h0 h1
  have e0 : (0 : Int32).toInt = 0 := rfl
  have e1 : (255 : Int32).toInt = 255 := rfl
  have hk : c.toInt.toNat < 256 := by omega
  refine ⟨⟨c.toInt.toNat, hk⟩, Int32.toInt_inj.mp ?_⟩
  show c.toInt = (Int32.ofNat c.toInt.toNat).toInt
  rw [Int32.toInt_ofNat_of_lt (by omega)]
  omega
theorem own_okc (x : Int32) : own_ok (x.toUInt32.toUInt16.toUInt32.toInt32) := by
  have q := fits_nar_char x
  have q2 : (0 : Int32) ≤ nar .char x ∧ nar .char x ≤ (65535 : Int32) := by
    simpa only [fits, Bool.and_eq_true, decide_eq_true_eq] using q
  have e0 : (0 : Int32).toInt = 0 := rfl
  have e1 : (65535 : Int32).toInt = 65535 := rfl
  show ¬ nar .char x < 0 ∧ ¬ 65535 < nar .char x
  simp only [Int32.le_iff_toInt_le] at q2
  simp only [Int32.lt_iff_toInt_lt]
  omega
theorem own_narc {c : Int32} (h : own_ok c) : nar .char c = c := Value.int.inj (StrChars.narrow_ch h.1 h.2)
theorem own_memD {cs : List Int32} {i : Nat} (h : i < cs.length) : cs.getD i 0 ∈ cs := by
  rw [List.getD_eq_getElem?_getD, List.getElem?_eq_getElem h]
  exact List.getElem_mem h
theorem own_okD {cs : List Int32} {i : Nat} (hr : ∀ c ∈ cs, own_ok c) (h : i < cs.length) : own_ok (cs.getD i 0) := hr _ (own_memD h)
theorem own_nex {cs : List Int32} (h : ¬ ∀ ch ∈ cs, ¬ 255 < ch) : ∃ j, j < cs.length ∧ 255 < cs.getD j 0 := by
  refine Classical.byContradiction fun q => h fun ch hc r => q ?_
  obtain ⟨j, hj, rfl⟩ := List.getElem_of_mem hc
  refine ⟨j, hj, ?_⟩
  rw [List.getD_eq_getElem?_getD, List.getElem?_eq_getElem hj]
  exact r
theorem own_wl : ∀ (cs : List Int32) (j : Nat), j < cs.length → (own_wb cs)[2 * j]? = some (.int (StrChars.lo8 (cs.getD j 0)))
  | [], j, h => absurd h (Nat.not_lt_zero j)
  | c :: cs, 0, _ => rfl
  | c :: cs, j + 1, h => by
    have q := own_wl cs j (by simpa using h)
    rw [show 2 * (j + 1) = 2 * j + 1 + 1 from by omega]
    simpa [own_wb] using q
theorem own_wh : ∀ (cs : List Int32) (j : Nat), j < cs.length → (own_wb cs)[2 * j + 1]? = some (.int (StrChars.hi8 (cs.getD j 0)))
  | [], j, h => absurd h (Nat.not_lt_zero j)
  | c :: cs, 0, _ => rfl
  | c :: cs, j + 1, h => by
    have q := own_wh cs j (by simpa using h)
    rw [show 2 * (j + 1) + 1 = 2 * j + 1 + 1 + 1 from by omega]
    simpa [own_wb] using q
theorem own_wlen : ∀ cs : List Int32, (own_wb cs).length = 2 * cs.length
  | [] => rfl
  | c :: cs => by
    show (own_wb cs).length + 1 + 1 = 2 * (cs.length + 1)
    rw [own_wlen cs]; omega
theorem own_shl (i : Nat) (hi : i < 8) : Int32.ofNat i <<< ((1 : Int32) &&& 31) = Int32.ofNat (2 * i) := (by decide +kernel : ∀ i : Fin 8, Int32.ofNat i.val <<< ((1 : Int32) &&& 31) = Int32.ofNat (2 * i.val)) ⟨i, hi⟩
theorem d23_0 : decode jdk_52_method_5_code 0 = .ok (.getstatic 44, 3) := by decide +kernel
theorem d23_3 : decode jdk_52_method_5_code 3 = .ok (.ifCond .ne 25, 3) := by decide +kernel
theorem d23_6 : decode jdk_52_method_5_code 6 = .ok (.iload_n 1, 1) := by decide +kernel
theorem d23_7 : decode jdk_52_method_5_code 7 = .ok (.ifCond .lt 11, 3) := by decide +kernel
theorem d23_10 : decode jdk_52_method_5_code 10 = .ok (.iload_n 1, 1) := by decide +kernel
theorem d23_11 : decode jdk_52_method_5_code 11 = .ok (.aload_n 0, 1) := by decide +kernel
theorem d23_12 : decode jdk_52_method_5_code 12 = .ok (.invokestatic 48, 3) := by decide +kernel
theorem d23_15 : decode jdk_52_method_5_code 15 = .ok (.if_icmp .lt 13, 3) := by decide +kernel
theorem d23_18 : decode jdk_52_method_5_code 18 = .ok (.new 52, 3) := by decide +kernel
theorem d23_21 : decode jdk_52_method_5_code 21 = .ok (.dup, 1) := by decide +kernel
theorem d23_22 : decode jdk_52_method_5_code 22 = .ok (.ldc 54, 2) := by decide +kernel
theorem d23_24 : decode jdk_52_method_5_code 24 = .ok (.invokespecial 56, 3) := by decide +kernel
theorem d23_27 : decode jdk_52_method_5_code 27 = .ok (.athrow, 1) := by decide +kernel
theorem d23_28 : decode jdk_52_method_5_code 28 = .ok (.iload_n 1, 1) := by decide +kernel
theorem d23_29 : decode jdk_52_method_5_code 29 = .ok (.iconst 1, 1) := by decide +kernel
theorem d23_30 : decode jdk_52_method_5_code 30 = .ok (.ishl, 1) := by decide +kernel
theorem d23_31 : decode jdk_52_method_5_code 31 = .ok (.istore_n 1, 1) := by decide +kernel
theorem d23_32 : decode jdk_52_method_5_code 32 = .ok (.aload_n 0, 1) := by decide +kernel
theorem d23_33 : decode jdk_52_method_5_code 33 = .ok (.iload_n 1, 1) := by decide +kernel
theorem d23_34 : decode jdk_52_method_5_code 34 = .ok (.iinc 1 1, 3) := by decide +kernel
theorem d23_37 : decode jdk_52_method_5_code 37 = .ok (.baload, 1) := by decide +kernel
theorem d23_38 : decode jdk_52_method_5_code 38 = .ok (.sipush 255, 3) := by decide +kernel
theorem d23_41 : decode jdk_52_method_5_code 41 = .ok (.iand, 1) := by decide +kernel
theorem d23_42 : decode jdk_52_method_5_code 42 = .ok (.getstatic 59, 3) := by decide +kernel
theorem d23_45 : decode jdk_52_method_5_code 45 = .ok (.ishl, 1) := by decide +kernel
theorem d23_46 : decode jdk_52_method_5_code 46 = .ok (.aload_n 0, 1) := by decide +kernel
theorem d23_47 : decode jdk_52_method_5_code 47 = .ok (.iload_n 1, 1) := by decide +kernel
theorem d23_48 : decode jdk_52_method_5_code 48 = .ok (.baload, 1) := by decide +kernel
theorem d23_49 : decode jdk_52_method_5_code 49 = .ok (.sipush 255, 3) := by decide +kernel
theorem d23_52 : decode jdk_52_method_5_code 52 = .ok (.iand, 1) := by decide +kernel
theorem d23_53 : decode jdk_52_method_5_code 53 = .ok (.getstatic 63, 3) := by decide +kernel
theorem d23_56 : decode jdk_52_method_5_code 56 = .ok (.ishl, 1) := by decide +kernel
theorem d23_57 : decode jdk_52_method_5_code 57 = .ok (.ior, 1) := by decide +kernel
theorem d23_58 : decode jdk_52_method_5_code 58 = .ok (.i2c, 1) := by decide +kernel
theorem d23_59 : decode jdk_52_method_5_code 59 = .ok (.ireturn, 1) := by decide +kernel
set_option maxRecDepth 65536 in
set_option maxHeartbeats 4000000 in
theorem c_getChar (l : Launch) (Z : State) (a0 : Array Value) (hw : ∀ d ∈ tables_1, d.before a0 Z = true) (h0 : Heap) (Sa : Sta Z h0 "java/lang/StringUTF16" "$assertionsDisabled" "Z" (.int 1)) (Sh : Sta Z h0 "java/lang/StringUTF16" "HI_BYTE_SHIFT" "I" (.int 0)) (Sl : Sta Z h0 "java/lang/StringUTF16" "LO_BYTE_SHIFT" "I" (.int 8)) (t : Addr) (kt : ClassId) (vs : List Value) (i : Nat) (u1 u2 ch : Int32) (A : Ow.AL Z h0 t kt .byte vs) (hi8 : i < 8) (g1 : vs[2 * i]? = some (.int u1)) (g2 : vs[2 * i + 1]? = some (.int u2)) (hp : StrChars.pairCh u1 u2 = ch) (hcn : nar .char ch = ch) : Ow.Pay l Z (⟨"java/lang/StringUTF16", "getChar", "([BI)C"⟩ : MethodName) jdk_52_method_5_code 2 (some .char) ({ frames := 0, cells := 0, slots := 0, locals := 0 } : Room) #[(.ref t), (.int (Int32.ofNat i))] h0 (fun v h L => v = some (.int (ch)) ∧ h = h0 ∧ L = []) := by
  refine Ow.Pay.of (Ls := #[.val (.ref t), .val (.int (Int32.ofNat i))]) (plainFor_of_name pn3) (fun m => by first | rfl | (simp [entryFrame, mkF, argsToLocals, Value.category]; done)) ?_
  intro p e s m below meth c T hx hby hml hown hnm hme hZ hret hlk X eT
  refine Ow.getstatic X hx hZ hown (ww hw 112 rfl) Via.refl eT Sa (pc := 0) (hb hby d23_0) ?_   -- "java/lang/StringUTF16" "$assertionsDisabled" "Z"
  intro T X eT
  refine Ow.if_ne X hx (pc := 3) (pc' := 28) (hb hby d23_3) (by decide) (by decide) (fun h3 => ?_) (fun q => absurd q (by decide))
  refine Ow.iloadN X hx (pc := 28) (hb hby d23_28) rfl ?_
  refine Ow.iconst X hx (pc := 29) (1) (hb hby d23_29) (by decide) ?_
  refine Ow.ishl X hx (pc := 30) (hb hby d23_30) ?_
  rw [own_shl i hi8]
  refine Ow.istoreN X hx (pc := 31) #[_, _] (hb hby d23_31) rfl ?_
  refine Ow.aloadN X hx (pc := 32) (hb hby d23_32) rfl rfl ?_
  refine Ow.iloadN X hx (pc := 33) (hb hby d23_33) rfl ?_
  refine Ow.iinc X hx (pc := 34) (1) #[_, _] (hb hby d23_34) (by decide) rfl rfl ?_
  rw [Ow.n_one]
  refine Ow.baloadL X hx hZ eT A (2 * i) (.int u1) (Ow.n_nn (by omega)) (Ow.n_cl (by omega)) g1 (pc := 37) (hb hby d23_37) ?_
  refine Ow.sipush X hx (pc := 38) (255) (hb hby d23_38) (by decide) ?_
  refine Ow.iand X hx (pc := 41) (hb hby d23_41) ?_
  refine Ow.getstatic X hx hZ hown (ww hw 113 rfl) Via.refl eT Sh (pc := 42) (hb hby d23_42) ?_   -- "java/lang/StringUTF16" "HI_BYTE_SHIFT" "I"
  intro T X eT
  refine Ow.ishl X hx (pc := 45) (hb hby d23_45) ?_
  refine Ow.aloadN X hx (pc := 46) (hb hby d23_46) rfl rfl ?_
  refine Ow.iloadN X hx (pc := 47) (hb hby d23_47) rfl ?_
  refine Ow.baloadL X hx hZ eT A (2 * i + 1) (.int u2) (Ow.n_nn (by omega)) (Ow.n_cl (by omega)) g2 (pc := 48) (hb hby d23_48) ?_
  refine Ow.sipush X hx (pc := 49) (255) (hb hby d23_49) (by decide) ?_
  refine Ow.iand X hx (pc := 52) (hb hby d23_52) ?_
  refine Ow.getstatic X hx hZ hown (ww hw 114 rfl) Via.refl eT Sl (pc := 53) (hb hby d23_53) ?_   -- "java/lang/StringUTF16" "LO_BYTE_SHIFT" "I"
  intro T X eT
  refine Ow.ishl X hx (pc := 56) (hb hby d23_56) ?_
  refine Ow.ior X hx (pc := 57) (hb hby d23_57) ?_
  refine Ow.i2c X hx (pc := 58) (hb hby d23_58) ?_
  exact Ow.nreturn X hx hlk hret (Or.inr (Or.inr (Or.inl rfl))) (hb hby d23_59) ⟨(by show some (Value.int (nar .char (StrChars.pairCh u1 u2))) = _; rw [hp, hcn]), eT, rfl⟩ (by decide) (by decide)
theorem d22_0 : decode jdk_52_method_4_code 0 = .ok (.getstatic 44, 3) := by decide +kernel
theorem d22_3 : decode jdk_52_method_4_code 3 = .ok (.ifCond .ne 25, 3) := by decide +kernel
theorem d22_6 : decode jdk_52_method_4_code 6 = .ok (.iload_n 1, 1) := by decide +kernel
theorem d22_7 : decode jdk_52_method_4_code 7 = .ok (.ifCond .lt 11, 3) := by decide +kernel
theorem d22_10 : decode jdk_52_method_4_code 10 = .ok (.iload_n 1, 1) := by decide +kernel
theorem d22_11 : decode jdk_52_method_4_code 11 = .ok (.aload_n 0, 1) := by decide +kernel
theorem d22_12 : decode jdk_52_method_4_code 12 = .ok (.invokestatic 48, 3) := by decide +kernel
theorem d22_15 : decode jdk_52_method_4_code 15 = .ok (.if_icmp .lt 13, 3) := by decide +kernel
theorem d22_18 : decode jdk_52_method_4_code 18 = .ok (.new 52, 3) := by decide +kernel
theorem d22_21 : decode jdk_52_method_4_code 21 = .ok (.dup, 1) := by decide +kernel
theorem d22_22 : decode jdk_52_method_4_code 22 = .ok (.ldc 54, 2) := by decide +kernel
theorem d22_24 : decode jdk_52_method_4_code 24 = .ok (.invokespecial 56, 3) := by decide +kernel
theorem d22_27 : decode jdk_52_method_4_code 27 = .ok (.athrow, 1) := by decide +kernel
theorem d22_28 : decode jdk_52_method_4_code 28 = .ok (.iload_n 1, 1) := by decide +kernel
theorem d22_29 : decode jdk_52_method_4_code 29 = .ok (.iconst 1, 1) := by decide +kernel
theorem d22_30 : decode jdk_52_method_4_code 30 = .ok (.ishl, 1) := by decide +kernel
theorem d22_31 : decode jdk_52_method_4_code 31 = .ok (.istore_n 1, 1) := by decide +kernel
theorem d22_32 : decode jdk_52_method_4_code 32 = .ok (.aload_n 0, 1) := by decide +kernel
theorem d22_33 : decode jdk_52_method_4_code 33 = .ok (.iload_n 1, 1) := by decide +kernel
theorem d22_34 : decode jdk_52_method_4_code 34 = .ok (.iinc 1 1, 3) := by decide +kernel
theorem d22_37 : decode jdk_52_method_4_code 37 = .ok (.iload_n 2, 1) := by decide +kernel
theorem d22_38 : decode jdk_52_method_4_code 38 = .ok (.getstatic 59, 3) := by decide +kernel
theorem d22_41 : decode jdk_52_method_4_code 41 = .ok (.ishr, 1) := by decide +kernel
theorem d22_42 : decode jdk_52_method_4_code 42 = .ok (.i2b, 1) := by decide +kernel
theorem d22_43 : decode jdk_52_method_4_code 43 = .ok (.bastore, 1) := by decide +kernel
theorem d22_44 : decode jdk_52_method_4_code 44 = .ok (.aload_n 0, 1) := by decide +kernel
theorem d22_45 : decode jdk_52_method_4_code 45 = .ok (.iload_n 1, 1) := by decide +kernel
theorem d22_46 : decode jdk_52_method_4_code 46 = .ok (.iload_n 2, 1) := by decide +kernel
theorem d22_47 : decode jdk_52_method_4_code 47 = .ok (.getstatic 63, 3) := by decide +kernel
theorem d22_50 : decode jdk_52_method_4_code 50 = .ok (.ishr, 1) := by decide +kernel
theorem d22_51 : decode jdk_52_method_4_code 51 = .ok (.i2b, 1) := by decide +kernel
theorem d22_52 : decode jdk_52_method_4_code 52 = .ok (.bastore, 1) := by decide +kernel
theorem d22_53 : decode jdk_52_method_4_code 53 = .ok (.return_, 1) := by decide +kernel
set_option maxRecDepth 65536 in
set_option maxHeartbeats 4000000 in
theorem c_putChar (l : Launch) (Z : State) (a0 : Array Value) (hw : ∀ d ∈ tables_1, d.before a0 Z = true) (h0 : Heap) (Sa : Sta Z h0 "java/lang/StringUTF16" "$assertionsDisabled" "Z" (.int 1)) (Sh : Sta Z h0 "java/lang/StringUTF16" "HI_BYTE_SHIFT" "I" (.int 0)) (Sl : Sta Z h0 "java/lang/StringUTF16" "LO_BYTE_SHIFT" "I" (.int 8)) (t : Addr) (kt : ClassId) (vs : List Value) (i : Nat) (ch : Int32) (A : Ow.AL Z h0 t kt .byte vs) (hi8 : i < 8) (hlen : 2 * i + 1 < vs.length) : Ow.Pay l Z (⟨"java/lang/StringUTF16", "putChar", "([BII)V"⟩ : MethodName) jdk_52_method_4_code 3 none ({ frames := 0, cells := 0, slots := 0, locals := 0 } : Room) #[(.ref t), (.int (Int32.ofNat i)), (.int ch)] h0 (fun v h L => v = none ∧ Ow.Eff h0 h [t] L ∧ Ow.AL Z h t kt .byte ((vs.set (2 * i) (.int (StrChars.lo8 ch))).set (2 * i + 1) (.int (StrChars.hi8 ch)))) := by
  refine Ow.Pay.of (Ls := #[.val (.ref t), .val (.int (Int32.ofNat i)), .val (.int ch)]) (plainFor_of_name pn3) (fun m => by first | rfl | (simp [entryFrame, mkF, argsToLocals, Value.category]; done)) ?_
  intro p e s m below meth c T hx hby hml hown hnm hme hZ hret hlk X eT
  have F := Ow.Eff.refl h0 [t]
  refine Ow.getstatic X hx hZ hown (ww hw 112 rfl) Via.refl eT Sa (pc := 0) (hb hby d22_0) ?_   -- "java/lang/StringUTF16" "$assertionsDisabled" "Z"
  intro T X eT
  refine Ow.if_ne X hx (pc := 3) (pc' := 28) (hb hby d22_3) (by decide) (by decide) (fun h3 => ?_) (fun q => absurd q (by decide))
  refine Ow.iloadN X hx (pc := 28) (hb hby d22_28) rfl ?_
  refine Ow.iconst X hx (pc := 29) (1) (hb hby d22_29) (by decide) ?_
  refine Ow.ishl X hx (pc := 30) (hb hby d22_30) ?_
  rw [own_shl i hi8]
  refine Ow.istoreN X hx (pc := 31) #[_, _, _] (hb hby d22_31) rfl ?_
  refine Ow.aloadN X hx (pc := 32) (hb hby d22_32) rfl rfl ?_
  refine Ow.iloadN X hx (pc := 33) (hb hby d22_33) rfl ?_
  refine Ow.iinc X hx (pc := 34) (1) #[_, _, _] (hb hby d22_34) (by decide) rfl rfl ?_
  rw [Ow.n_one]
  refine Ow.iloadN X hx (pc := 37) (hb hby d22_37) rfl ?_
  refine Ow.getstatic X hx hZ hown (ww hw 113 rfl) Via.refl eT Sh (pc := 38) (hb hby d22_38) ?_   -- "java/lang/StringUTF16" "HI_BYTE_SHIFT" "I"
  intro T X eT
  refine Ow.ishr X hx (pc := 41) (hb hby d22_41) ?_
  refine Ow.i2b X hx (pc := 42) (hb hby d22_42) ?_
  refine Ow.bastoreL X hx hZ eT A (2 * i) (vs.set (2 * i) (.int (StrChars.lo8 ch))) (Ow.n_nn (by omega)) (Ow.n_cl (by omega)) (by simp only [Nat.blt_eq]; omega) (by rw [own_nb, StrChars.shr0]; rfl) (pc := 43) (hb hby d22_43) ?_
  intro T h_43 X eT W_43 A
  have Sh := Sh.wr W_43
  have Sl := Sl.wr W_43
  have F := F.wr W_43 (Or.inl (by simp))
  refine Ow.aloadN X hx (pc := 44) (hb hby d22_44) rfl rfl ?_
  refine Ow.iloadN X hx (pc := 45) (hb hby d22_45) rfl ?_
  refine Ow.iloadN X hx (pc := 46) (hb hby d22_46) rfl ?_
  refine Ow.getstatic X hx hZ hown (ww hw 114 rfl) Via.refl eT Sl (pc := 47) (hb hby d22_47) ?_   -- "java/lang/StringUTF16" "LO_BYTE_SHIFT" "I"
  intro T X eT
  refine Ow.ishr X hx (pc := 50) (hb hby d22_50) ?_
  refine Ow.i2b X hx (pc := 51) (hb hby d22_51) ?_
  refine Ow.bastoreL X hx hZ eT A (2 * i + 1) ((vs.set (2 * i) (.int (StrChars.lo8 ch))).set (2 * i + 1) (.int (StrChars.hi8 ch))) (Ow.n_nn (by omega)) (Ow.n_cl (by omega)) (by simp only [Nat.blt_eq, List.length_set]; omega) (by rw [own_nb]; rfl) (pc := 52) (hb hby d22_52) ?_
  intro T h_52 X eT W_52 A
  have Sh := Sh.wr W_52
  have Sl := Sl.wr W_52
  have F := F.wr W_52 (Or.inl (by simp))
  exact Ow.vreturn X hx hlk hret (hb hby d22_53) ⟨rfl, by rw [eT]; exact F, by rw [eT]; exact A⟩ (by decide) (by decide)
theorem d26_0 : decode jdk_52_method_6_code 0 = .ok (.aload_n 0, 1) := by decide +kernel
theorem d26_1 : decode jdk_52_method_6_code 1 = .ok (.arraylength, 1) := by decide +kernel
theorem d26_2 : decode jdk_52_method_6_code 2 = .ok (.iconst 1, 1) := by decide +kernel
theorem d26_3 : decode jdk_52_method_6_code 3 = .ok (.ishr, 1) := by decide +kernel
theorem d26_4 : decode jdk_52_method_6_code 4 = .ok (.ireturn, 1) := by decide +kernel
set_option maxRecDepth 65536 in
set_option maxHeartbeats 4000000 in
theorem c_ulen (l : Launch) (Z : State) (a0 : Array Value) (hw : ∀ d ∈ tables_1, d.before a0 Z = true) (h0 : Heap) (t : Addr) (kt : ClassId) (cs : List Int32) (A : Ow.AL Z h0 t kt .byte (own_wb cs)) (hle4 : cs.length ≤ 4) : Ow.Pay l Z (⟨"java/lang/StringUTF16", "length", "([B)I"⟩ : MethodName) jdk_52_method_6_code 1 (some .int) ({ frames := 0, cells := 0, slots := 0, locals := 0 } : Room) #[(.ref t)] h0 (fun v h L => v = some (.int (Int32.ofNat cs.length)) ∧ h = h0 ∧ L = []) := by
  refine Ow.Pay.of (Ls := #[.val (.ref t)]) (plainFor_of_name pn3) (fun m => by first | rfl | (simp [entryFrame, mkF, argsToLocals, Value.category]; done)) ?_
  intro p e s m below meth c T hx hby hml hown hnm hme hZ hret hlk X eT
  refine Ow.aloadN X hx (pc := 0) (hb hby d26_0) rfl rfl ?_
  refine Ow.lengthL X hx hZ eT A (Int32.ofNat (2 * cs.length)) (by rw [own_wlen]) (pc := 1) (hb hby d26_1) ?_
  refine Ow.iconst X hx (pc := 2) (1) (hb hby d26_2) (by decide) ?_
  refine Ow.ishr X hx (pc := 3) (hb hby d26_3) ?_
  exact Ow.ireturn X hx hlk hret (hb hby d26_4) ⟨by rw [StrChars.shr1 (by omega)], eT, rfl⟩ (by decide) (by decide)
theorem d25_0 : decode jdk_52_method_91_code 0 = .ok (.iload_n 0, 1) := by decide +kernel
theorem d25_1 : decode jdk_52_method_91_code 1 = .ok (.aload_n 1, 1) := by decide +kernel
theorem d25_2 : decode jdk_52_method_91_code 2 = .ok (.invokestatic 48, 3) := by decide +kernel
theorem d25_5 : decode jdk_52_method_91_code 5 = .ok (.invokestatic 414, 3) := by decide +kernel
theorem d25_8 : decode jdk_52_method_91_code 8 = .ok (.return_, 1) := by decide +kernel
set_option maxRecDepth 65536 in
set_option maxHeartbeats 4000000 in
theorem c_ucheck (l : Launch) (Z : State) (a0 : Array Value) (hw : ∀ d ∈ tables_1, d.before a0 Z = true) (h0 : Heap) (fm : Value) (Sf : Sta Z h0 "jdk/internal/util/Preconditions" "SIOOBE_FORMATTER" "Ljava/util/function/BiFunction;" fm) (hfm : fm.isRef = true) (t : Addr) (kt : ClassId) (cs : List Int32) (A : Ow.AL Z h0 t kt .byte (own_wb cs)) (hle4 : cs.length ≤ 4) (i : Nat) (hi : i < cs.length) : Ow.Pay l Z (⟨"java/lang/StringUTF16", "checkIndex", "(I[B)V"⟩ : MethodName) jdk_52_method_91_code 2 none ({ frames := 2, cells := 0, slots := 0, locals := 27 } : Room) #[(.int (Int32.ofNat i)), (.ref t)] h0 (fun v h L => v = none ∧ h = h0 ∧ L = []) := by
  refine Ow.Pay.of (Ls := #[.val (.int (Int32.ofNat i)), .val (.ref t)]) (plainFor_of_name pn3) (fun m => by first | rfl | (simp [entryFrame, mkF, argsToLocals, Value.category]; done)) ?_
  intro p e s m below meth c T hx hby hml hown hnm hme hZ hret hlk X eT
  refine Ow.iloadN X hx (pc := 0) (hb hby d25_0) rfl ?_
  refine Ow.aloadN X hx (pc := 1) (hb hby d25_1) rfl rfl ?_
  refine Ow.callSP X hx hZ (c_ulen l Z a0 hw h0 t kt cs A hle4) rfl rfl eT hown (ww hw 124 rfl) (ww hw 125 rfl) (ww hw 40 rfl) (ww hw 126 rfl) (by decide) pd8 (by rw [hml]; rfl) (argsL := [_]) rfl rfl rfl (pc := 2) (hb hby d25_2) rfl rfl (by decide) (by decide) ?_   -- java/lang/StringUTF16.length:([B)I
  intro T X eT
  dsimp only [Option.toList_some, Option.toList_none, List.cons_append, List.nil_append]
  refine Ow.callSP X hx hZ (c_scheckIndex l Z a0 hw h0 fm Sf hfm i cs.length hi (by omega)) rfl rfl eT hown (ww hw 127 rfl) (ww hw 86 rfl) (ww hw 8 rfl) (ww hw 87 rfl) (by decide) pd5 (by rw [hml]; rfl) (argsL := [_, _]) rfl rfl rfl (pc := 5) (hb hby d25_5) rfl rfl (by decide) (by decide) ?_   -- java/lang/String.checkIndex:(II)V
  intro T X eT
  dsimp only [Option.toList_some, Option.toList_none, List.cons_append, List.nil_append]
  exact Ow.vreturn X hx hlk hret (hb hby d25_8) ⟨rfl, eT, rfl⟩ (by decide) (by decide)
theorem d24_0 : decode jdk_52_method_83_code 0 = .ok (.iload_n 1, 1) := by decide +kernel
theorem d24_1 : decode jdk_52_method_83_code 1 = .ok (.aload_n 0, 1) := by decide +kernel
theorem d24_2 : decode jdk_52_method_83_code 2 = .ok (.invokestatic 67, 3) := by decide +kernel
theorem d24_5 : decode jdk_52_method_83_code 5 = .ok (.aload_n 0, 1) := by decide +kernel
theorem d24_6 : decode jdk_52_method_83_code 6 = .ok (.iload_n 1, 1) := by decide +kernel
theorem d24_7 : decode jdk_52_method_83_code 7 = .ok (.invokestatic 71, 3) := by decide +kernel
theorem d24_10 : decode jdk_52_method_83_code 10 = .ok (.ireturn, 1) := by decide +kernel
set_option maxRecDepth 65536 in
set_option maxHeartbeats 4000000 in
theorem c_ucharAt (l : Launch) (Z : State) (a0 : Array Value) (hw : ∀ d ∈ tables_1, d.before a0 Z = true) (h0 : Heap) (fm : Value) (Sf : Sta Z h0 "jdk/internal/util/Preconditions" "SIOOBE_FORMATTER" "Ljava/util/function/BiFunction;" fm) (hfm : fm.isRef = true) (Sa : Sta Z h0 "java/lang/StringUTF16" "$assertionsDisabled" "Z" (.int 1)) (Sh : Sta Z h0 "java/lang/StringUTF16" "HI_BYTE_SHIFT" "I" (.int 0)) (Sl : Sta Z h0 "java/lang/StringUTF16" "LO_BYTE_SHIFT" "I" (.int 8)) (t : Addr) (kt : ClassId) (cs : List Int32) (A : Ow.AL Z h0 t kt .byte (own_wb cs)) (hle4 : cs.length ≤ 4) (hr : ∀ c ∈ cs, own_ok c) (i : Nat) (hi : i < cs.length) : Ow.Pay l Z (⟨"java/lang/StringUTF16", "charAt", "([BI)C"⟩ : MethodName) jdk_52_method_83_code 2 (some .char) ({ frames := 3, cells := 0, slots := 0, locals := 40 } : Room) #[(.ref t), (.int (Int32.ofNat i))] h0 (fun v h L => v = some (.int (cs.getD i 0)) ∧ h = h0 ∧ L = []) := by
  refine Ow.Pay.of (Ls := #[.val (.ref t), .val (.int (Int32.ofNat i))]) (plainFor_of_name pn3) (fun m => by first | rfl | (simp [entryFrame, mkF, argsToLocals, Value.category]; done)) ?_
  intro p e s m below meth c T hx hby hml hown hnm hme hZ hret hlk X eT
  have hok := own_okD hr hi
  have hnar : nar .char (cs.getD i 0) = cs.getD i 0 := own_narc hok
  refine Ow.iloadN X hx (pc := 0) (hb hby d24_0) rfl ?_
  refine Ow.aloadN X hx (pc := 1) (hb hby d24_1) rfl rfl ?_
  refine Ow.callSP X hx hZ (c_ucheck l Z a0 hw h0 fm Sf hfm t kt cs A hle4 i hi) rfl rfl eT hown (ww hw 121 rfl) (ww hw 122 rfl) (ww hw 40 rfl) (ww hw 123 rfl) (by decide) pd9 (by rw [hml]; rfl) (argsL := [_, _]) rfl rfl rfl (pc := 2) (hb hby d24_2) rfl rfl (by decide) (by decide) ?_   -- java/lang/StringUTF16.checkIndex:(I[B)V
  intro T X eT
  dsimp only [Option.toList_some, Option.toList_none, List.cons_append, List.nil_append]
  refine Ow.aloadN X hx (pc := 5) (hb hby d24_5) rfl rfl ?_
  refine Ow.iloadN X hx (pc := 6) (hb hby d24_6) rfl ?_
  refine Ow.callSP X hx hZ (c_getChar l Z a0 hw h0 Sa Sh Sl t kt (own_wb cs) i _ _ (cs.getD i 0) A (by omega) (own_wl cs i hi) (own_wh cs i hi) (StrChars.pair_says hok.1 hok.2) hnar) rfl rfl eT hown (ww hw 115 rfl) (ww hw 116 rfl) (ww hw 40 rfl) (ww hw 117 rfl) (by decide) pd7 (by rw [hml]; rfl) (argsL := [_, _]) rfl rfl rfl (pc := 7) (hb hby d24_7) rfl rfl (by decide) (by decide) ?_   -- java/lang/StringUTF16.getChar:([BI)C
  intro T X eT
  dsimp only [Option.toList_some, Option.toList_none, List.cons_append, List.nil_append]
  exact Ow.nreturn X hx hlk hret (Or.inr (Or.inr (Or.inl rfl))) (hb hby d24_10) ⟨by rw [hnar], eT, rfl⟩ (by decide) (by decide)
set_option maxRecDepth 65536 in
set_option maxHeartbeats 4000000 in
theorem c_coderw (l : Launch) (Z : State) (a0 : Array Value) (hw : ∀ d ∈ tables_1, d.before a0 Z = true) (h0 : Heap) (z : Int32) (x : Addr) (S : Sta Z h0 "java/lang/String" "COMPACT_STRINGS" "Z" (.int z)) (hz : ¬ z = 0) (C1 : Fld Z h0 x "java/lang/String" "coder" "B" (.int 1)) : Ow.Pay l Z (⟨"java/lang/String", "coder", "()B"⟩ : MethodName) jdk_42_method_152_code 1 (some .byte) ({ frames := 0, cells := 0, slots := 0, locals := 0 } : Room) #[(.ref x)] h0 (fun v h L => v = some (.int (1)) ∧ h = h0 ∧ L = []) := by
  refine Ow.Pay.of (Ls := #[.val (.ref x)]) (plainFor_of_name pn0) (fun m => by first | rfl | (simp [entryFrame, mkF, argsToLocals, Value.category]; done)) ?_
  intro p e s m below meth c T hx hby hml hown hnm hme hZ hret hlk X eT
  refine Ow.getstatic X hx hZ hown (ww hw 37 rfl) Via.refl eT S (pc := 0) (hb hby d12_0) ?_   -- "java/lang/String" "COMPACT_STRINGS" "Z"
  intro T X eT
  refine Ow.if_eq X hx (pc := 3) (pc' := 13) (hb hby d12_3) (by decide) (by decide) (fun q => absurd q hz) (fun h3 => ?_)
  refine Ow.aloadN X hx (pc := 6) (hb hby d12_6) rfl rfl ?_
  refine Ow.getfield X hx hZ hown (ww hw 27 rfl) Via.refl eT C1 (pc := 7) (hb hby d12_7) ?_   -- "java/lang/String" "coder" "B"
  intro T X eT
  refine Ow.goto X hx (pc := 10) (pc' := 14) (hb hby d12_10) (by decide) (by decide) ?_
  exact Ow.nreturn X hx hlk hret (Or.inr (Or.inl rfl)) (hb hby d12_14) ⟨rfl, eT, rfl⟩ (by decide) (by decide)
set_option maxRecDepth 65536 in
set_option maxHeartbeats 4000000 in
theorem c_isLatin1w (l : Launch) (Z : State) (a0 : Array Value) (hw : ∀ d ∈ tables_1, d.before a0 Z = true) (h0 : Heap) (z : Int32) (x : Addr) (S : Sta Z h0 "java/lang/String" "COMPACT_STRINGS" "Z" (.int z)) (hz : ¬ z = 0) (C1 : Fld Z h0 x "java/lang/String" "coder" "B" (.int 1)) : Ow.Pay l Z (⟨"java/lang/String", "isLatin1", "()Z"⟩ : MethodName) jdk_42_method_154_code 1 (some .boolean) ({ frames := 0, cells := 0, slots := 0, locals := 0 } : Room) #[(.ref x)] h0 (fun v h L => v = some (.int (0)) ∧ h = h0 ∧ L = []) := by
  refine Ow.Pay.of (Ls := #[.val (.ref x)]) (plainFor_of_name pn0) (fun m => by first | rfl | (simp [entryFrame, mkF, argsToLocals, Value.category]; done)) ?_
  intro p e s m below meth c T hx hby hml hown hnm hme hZ hret hlk X eT
  refine Ow.getstatic X hx hZ hown (ww hw 37 rfl) Via.refl eT S (pc := 0) (hb hby d14_0) ?_   -- "java/lang/String" "COMPACT_STRINGS" "Z"
  intro T X eT
  refine Ow.if_eq X hx (pc := 3) (pc' := 17) (hb hby d14_3) (by decide) (by decide) (fun q => absurd q hz) (fun h3 => ?_)
  refine Ow.aloadN X hx (pc := 6) (hb hby d14_6) rfl rfl ?_
  refine Ow.getfield X hx hZ hown (ww hw 27 rfl) Via.refl eT C1 (pc := 7) (hb hby d14_7) ?_   -- "java/lang/String" "coder" "B"
  intro T X eT
  refine Ow.if_ne X hx (pc := 10) (pc' := 17) (hb hby d14_10) (by decide) (by decide) (fun h10 => ?_) (fun q => absurd q (by decide))
  refine Ow.iconst X hx (pc := 17) (0) (hb hby d14_17) (by decide) ?_
  exact Ow.nreturn X hx hlk hret (Or.inl rfl) (hb hby d14_18) ⟨rfl, eT, rfl⟩ (by decide) (by decide)
set_option maxRecDepth 65536 in
set_option maxHeartbeats 4000000 in
theorem c_lengthw (l : Launch) (Z : State) (a0 : Array Value) (hw : ∀ d ∈ tables_1, d.before a0 Z = true) (h0 : Heap) (z : Int32) (x t : Addr) (kb : ClassId) (cs : List Int32) (S : Sta Z h0 "java/lang/String" "COMPACT_STRINGS" "Z" (.int z)) (hz : ¬ z = 0) (E : Exa Z h0 x "java/lang/String") (V : Fld Z h0 x "java/lang/String" "value" "[B" (.ref t)) (C1 : Fld Z h0 x "java/lang/String" "coder" "B" (.int 1)) (A : Ow.AL Z h0 t kb .byte (own_wb cs)) (hle4 : cs.length ≤ 4) : Ow.Pay l Z (⟨"java/lang/String", "length", "()I"⟩ : MethodName) jdk_42_method_54_code 1 (some .int) ({ frames := 1, cells := 0, slots := 0, locals := 13 } : Room) #[(.ref x)] h0 (fun v h L => v = some (.int (Int32.ofNat cs.length)) ∧ h = h0 ∧ L = []) := by
  refine Ow.Pay.of (Ls := #[.val (.ref x)]) (plainFor_of_name pn0) (fun m => by first | rfl | (simp [entryFrame, mkF, argsToLocals, Value.category]; done)) ?_
  intro p e s m below meth c T hx hby hml hown hnm hme hZ hret hlk X eT
  refine Ow.aloadN X hx (pc := 0) (hb hby d11_0) rfl rfl ?_
  refine Ow.getfield X hx hZ hown (ww hw 26 rfl) Via.refl eT V (pc := 1) (hb hby d11_1) ?_   -- "java/lang/String" "value" "[B"
  intro T X eT
  refine Ow.lengthL X hx hZ eT A (Int32.ofNat (2 * cs.length)) (by rw [own_wlen]) (pc := 4) (hb hby d11_4) ?_
  refine Ow.aloadN X hx (pc := 5) (hb hby d11_5) rfl rfl ?_
  refine Ow.callVP X hx hZ (c_coderw l Z a0 hw h0 z x S hz C1) rfl rfl eT hown (ww hw 63 rfl) (ww hw 64 rfl) (ww hw 66 rfl) (ww hw 65 rfl) (ww hw 8 rfl) (ww hw 67 rfl) (by decide) pd3 (by rw [hml]; rfl) E (argsL := []) rfl rfl rfl (pc := 6) (hb hby d11_6) rfl rfl (by decide) (by decide) ?_   -- java/lang/String.coder:()B
  intro T X eT
  dsimp only [Option.toList_some, Option.toList_none, List.cons_append, List.nil_append]
  refine Ow.ishr X hx (pc := 9) (hb hby d11_9) ?_
  exact Ow.ireturn X hx hlk hret (hb hby d11_10) ⟨by rw [StrChars.shr1 (by omega)], eT, rfl⟩ (by decide) (by decide)
set_option maxRecDepth 65536 in
set_option maxHeartbeats 4000000 in
theorem c_charAtw (l : Launch) (Z : State) (a0 : Array Value) (hw : ∀ d ∈ tables_1, d.before a0 Z = true) (h0 : Heap) (z : Int32) (fm : Value) (S : Sta Z h0 "java/lang/String" "COMPACT_STRINGS" "Z" (.int z)) (hz : ¬ z = 0) (Sf : Sta Z h0 "jdk/internal/util/Preconditions" "SIOOBE_FORMATTER" "Ljava/util/function/BiFunction;" fm) (hfm : fm.isRef = true) (Sa : Sta Z h0 "java/lang/StringUTF16" "$assertionsDisabled" "Z" (.int 1)) (Sh : Sta Z h0 "java/lang/StringUTF16" "HI_BYTE_SHIFT" "I" (.int 0)) (Sl : Sta Z h0 "java/lang/StringUTF16" "LO_BYTE_SHIFT" "I" (.int 8)) (x t : Addr) (kb : ClassId) (cs : List Int32) (E : Exa Z h0 x "java/lang/String") (V : Fld Z h0 x "java/lang/String" "value" "[B" (.ref t)) (C1 : Fld Z h0 x "java/lang/String" "coder" "B" (.int 1)) (A : Ow.AL Z h0 t kb .byte (own_wb cs)) (hle4 : cs.length ≤ 4) (hr : ∀ c ∈ cs, own_ok c) (i : Nat) (hi : i < cs.length) : Ow.Pay l Z (⟨"java/lang/String", "charAt", "(I)C"⟩ : MethodName) jdk_42_method_56_code 2 (some .char) ({ frames := 4, cells := 0, slots := 0, locals := 60 } : Room) #[(.ref x), (.int (Int32.ofNat i))] h0 (fun v h L => v = some (.int (cs.getD i 0)) ∧ h = h0 ∧ L = []) := by
  refine Ow.Pay.of (Ls := #[.val (.ref x), .val (.int (Int32.ofNat i))]) (plainFor_of_name pn0) (fun m => by first | rfl | (simp [entryFrame, mkF, argsToLocals, Value.category]; done)) ?_
  intro p e s m below meth c T hx hby hml hown hnm hme hZ hret hlk X eT
  have hnar : nar .char (cs.getD i 0) = cs.getD i 0 := own_narc (own_okD hr hi)
  refine Ow.aloadN X hx (pc := 0) (hb hby d13_0) rfl rfl ?_
  refine Ow.callVP X hx hZ (c_isLatin1w l Z a0 hw h0 z x S hz C1) rfl rfl eT hown (ww hw 76 rfl) (ww hw 77 rfl) (ww hw 79 rfl) (ww hw 78 rfl) (ww hw 8 rfl) (ww hw 80 rfl) (by decide) pd6 (by rw [hml]; rfl) E (argsL := []) rfl rfl rfl (pc := 1) (hb hby d13_1) rfl rfl (by decide) (by decide) ?_   -- java/lang/String.isLatin1:()Z
  intro T X eT
  dsimp only [Option.toList_some, Option.toList_none, List.cons_append, List.nil_append]
  refine Ow.if_eq X hx (pc := 4) (pc' := 16) (hb hby d13_4) (by decide) (by decide) (fun h4 => ?_) (fun q => absurd rfl q)
  refine Ow.aloadN X hx (pc := 16) (hb hby d13_16) rfl rfl ?_
  refine Ow.getfield X hx hZ hown (ww hw 26 rfl) Via.refl eT V (pc := 17) (hb hby d13_17) ?_   -- "java/lang/String" "value" "[B"
  intro T X eT
  refine Ow.iloadN X hx (pc := 20) (hb hby d13_20) rfl ?_
  refine Ow.callSP X hx hZ (c_ucharAt l Z a0 hw h0 fm Sf hfm Sa Sh Sl t kb cs A hle4 hr i hi) rfl rfl eT hown (ww hw 118 rfl) (ww hw 119 rfl) (ww hw 40 rfl) (ww hw 120 rfl) (by decide) pd7 (by rw [hml]; rfl) (argsL := [_, _]) rfl rfl rfl (pc := 21) (hb hby d13_21) rfl rfl (by decide) (by decide) ?_   -- java/lang/StringUTF16.charAt:([BI)C
  intro T X eT
  dsimp only [Option.toList_some, Option.toList_none, List.cons_append, List.nil_append]
  exact Ow.nreturn X hx hlk hret (Or.inr (Or.inr (Or.inl rfl))) (hb hby d13_24) ⟨by rw [hnar], eT, rfl⟩ (by decide) (by decide)
theorem c_len (l : Launch) (Z : State) (a0 : Array Value) (hw : ∀ d ∈ tables_1, d.before a0 Z = true) (h0 : Heap) (z : Int32) (S : Sta Z h0 "java/lang/String" "COMPACT_STRINGS" "Z" (.int z)) (hz : ¬ z = 0) (x t : Addr) (kb : ClassId) (cs : List Int32) (St : own_Tx Z h0 x t kb cs) (hle4 : cs.length ≤ 4) : Ow.Pay l Z (⟨"java/lang/String", "length", "()I"⟩ : MethodName) jdk_42_method_54_code 1 (some .int) ({ frames := 1, cells := 0, slots := 0, locals := 13 } : Room) #[(.ref x)] h0 (fun v h L => v = some (.int (Int32.ofNat cs.length)) ∧ h = h0 ∧ L = []) := by
  obtain ⟨E, V, ⟨C0, A, h8⟩ | ⟨C1, A⟩⟩ := St
  · have q := c_length l Z a0 hw h0 z x t kb (cs.map StrChars.lo8) S hz ⟨E, C0, V, by rw [List.map_map]; exact A⟩
    rw [List.length_map] at q
    exact q
  · exact c_lengthw l Z a0 hw h0 z x t kb cs S hz E V C1 A hle4
theorem c_at (l : Launch) (Z : State) (a0 : Array Value) (hw : ∀ d ∈ tables_1, d.before a0 Z = true) (h0 : Heap) (z : Int32) (fm : Value) (S : Sta Z h0 "java/lang/String" "COMPACT_STRINGS" "Z" (.int z)) (hz : ¬ z = 0) (Sf : Sta Z h0 "jdk/internal/util/Preconditions" "SIOOBE_FORMATTER" "Ljava/util/function/BiFunction;" fm) (hfm : fm.isRef = true) (Sa : Sta Z h0 "java/lang/StringUTF16" "$assertionsDisabled" "Z" (.int 1)) (Sh : Sta Z h0 "java/lang/StringUTF16" "HI_BYTE_SHIFT" "I" (.int 0)) (Sl : Sta Z h0 "java/lang/StringUTF16" "LO_BYTE_SHIFT" "I" (.int 8)) (x t : Addr) (kb : ClassId) (cs : List Int32) (St : own_Tx Z h0 x t kb cs) (hle4 : cs.length ≤ 4) (hr : ∀ c ∈ cs, own_ok c) (i : Nat) (hi : i < cs.length) : Ow.Pay l Z (⟨"java/lang/String", "charAt", "(I)C"⟩ : MethodName) jdk_42_method_56_code 2 (some .char) ({ frames := 4, cells := 0, slots := 0, locals := 60 } : Room) #[(.ref x), (.int (Int32.ofNat i))] h0 (fun v h L => v = some (.int (cs.getD i 0)) ∧ h = h0 ∧ L = []) := by
  obtain ⟨E, V, ⟨C0, A, h8⟩ | ⟨C1, A⟩⟩ := St
  · have q := c_charAt l Z a0 hw h0 z fm S hz Sf hfm x t kb (cs.map StrChars.lo8) i ⟨E, C0, V, by rw [List.map_map]; exact A⟩ (by rw [List.length_map]; exact hi) (by rw [List.length_map]; omega)
    have e1 : (cs.map StrChars.lo8).getD i 0 = StrChars.lo8 (cs.getD i 0) := by simp [List.getD_eq_getElem?_getD, hi]
    rw [e1, StrChars.lo8_mask (own_okD hr hi).1 (h8 _ (own_memD hi))] at q
    exact q
  · exact c_charAtw l Z a0 hw h0 z fm S hz Sf hfm Sa Sh Sl x t kb cs E V C1 A hle4 hr i hi
theorem d5_0 : decode jdk_42_method_55_code 0 = .ok (.aload_n 0, 1) := by decide +kernel
theorem d5_1 : decode jdk_42_method_55_code 1 = .ok (.getfield 9, 3) := by decide +kernel
theorem d5_4 : decode jdk_42_method_55_code 4 = .ok (.arraylength, 1) := by decide +kernel
theorem d5_5 : decode jdk_42_method_55_code 5 = .ok (.ifCond .ne 7, 3) := by decide +kernel
theorem d5_8 : decode jdk_42_method_55_code 8 = .ok (.iconst 1, 1) := by decide +kernel
theorem d5_9 : decode jdk_42_method_55_code 9 = .ok (.goto 4, 3) := by decide +kernel
theorem d5_12 : decode jdk_42_method_55_code 12 = .ok (.iconst 0, 1) := by decide +kernel
theorem d5_13 : decode jdk_42_method_55_code 13 = .ok (.ireturn, 1) := by decide +kernel
set_option maxRecDepth 65536 in
set_option maxHeartbeats 4000000 in
theorem c_empB (l : Launch) (Z : State) (a0 : Array Value) (hw : ∀ d ∈ tables_1, d.before a0 Z = true) (h0 : Heap) (x t : Addr) (kb : ClassId) (vs : List Value) (V : Fld Z h0 x "java/lang/String" "value" "[B" (.ref t)) (A : Ow.AL Z h0 t kb .byte vs) (hl : vs.length < 2147483648) : Ow.Pay l Z (⟨"java/lang/String", "isEmpty", "()Z"⟩ : MethodName) jdk_42_method_55_code 1 (some .boolean) ({ frames := 0, cells := 0, slots := 0, locals := 0 } : Room) #[(.ref x)] h0 (fun v h L => v = some (.int (if vs.length = 0 then 1 else 0)) ∧ h = h0 ∧ L = []) := by
  refine Ow.Pay.of (Ls := #[.val (.ref x)]) (plainFor_of_name pn0) (fun m => by first | rfl | (simp [entryFrame, mkF, argsToLocals, Value.category]; done)) ?_
  intro p e s m below meth c T hx hby hml hown hnm hme hZ hret hlk X eT
  refine Ow.aloadN X hx (pc := 0) (hb hby d5_0) rfl rfl ?_
  refine Ow.getfield X hx hZ hown (ww hw 26 rfl) Via.refl eT V (pc := 1) (hb hby d5_1) ?_   -- "java/lang/String" "value" "[B"
  intro T X eT
  refine Ow.lengthL X hx hZ eT A (Int32.ofNat vs.length) rfl (pc := 4) (hb hby d5_4) ?_
  refine Ow.if_ne X hx (pc := 5) (pc' := 12) (hb hby d5_5) (by decide) (by decide) (fun h5 => ?_) (fun h5 => ?_)
  · refine Ow.iconst X hx (pc := 12) (0) (hb hby d5_12) (by decide) ?_
    exact Ow.nreturn X hx hlk hret (Or.inl rfl) (hb hby d5_13) ⟨congrArg (fun w => some (Value.int w)) (Eq.symm (if_neg (fun r => h5 ((Ow.n_eq (n := 0) hl (by omega)).mpr r)))), eT, rfl⟩ (by decide) (by decide)
  · refine Ow.iconst X hx (pc := 8) (1) (hb hby d5_8) (by decide) ?_
    refine Ow.goto X hx (pc := 9) (pc' := 13) (hb hby d5_9) (by decide) (by decide) ?_
    exact Ow.nreturn X hx hlk hret (Or.inl rfl) (hb hby d5_13) ⟨congrArg (fun w => some (Value.int w)) (Eq.symm (if_pos ((Ow.n_eq (n := 0) hl (by omega)).mp h5))), eT, rfl⟩ (by decide) (by decide)
theorem c_emp (l : Launch) (Z : State) (a0 : Array Value) (hw : ∀ d ∈ tables_1, d.before a0 Z = true) (h0 : Heap) (x t : Addr) (kb : ClassId) (cs : List Int32) (St : own_Tx Z h0 x t kb cs) (hle4 : cs.length ≤ 4) : Ow.Pay l Z (⟨"java/lang/String", "isEmpty", "()Z"⟩ : MethodName) jdk_42_method_55_code 1 (some .boolean) ({ frames := 0, cells := 0, slots := 0, locals := 0 } : Room) #[(.ref x)] h0 (fun v h L => v = some (.int (if cs.length = 0 then 1 else 0)) ∧ h = h0 ∧ L = []) := by
  obtain ⟨E, V, ⟨C0, A, h8⟩ | ⟨C1, A⟩⟩ := St
  · have q := c_empB l Z a0 hw h0 x t kb _ V A (by rw [List.length_map]; omega)
    rw [List.length_map] at q
    exact q
  · have q := c_empB l Z a0 hw h0 x t kb _ V A (by rw [own_wlen]; omega)
    have e1 : (if (own_wb cs).length = 0 then (1 : Int32) else 0) = if cs.length = 0 then 1 else 0 := by
      rw [own_wlen]
      by_cases r : cs.length = 0
      · rw [if_pos r, if_pos (by omega)]
      · rw [if_neg r, if_neg (by omega)]
    rw [e1] at q
    exact q
def own_le2 (c : Int32) : Int32 := if c < 65 then 0 else if 90 < c then 0 else 1
def own_let (c : Int32) : Int32 := if c < 97 then own_le2 c else if 122 < c then own_le2 c else 1
def own_ot2 (c : Int32) : Int32 := if c = 43 then 1 else if c = 45 then 1 else if c = 46 then 1 else 0
def own_oth (c : Int32) : Int32 := if c < 48 then own_ot2 c else if 57 < c then own_ot2 c else 1
def own_lsc (c : Int32) : Int32 := if own_let c = 0 then own_oth c else 1
def own_sc (c d : Int32) : Int32 := if own_let c = 0 then (if d = 0 then own_oth c else 0) else 1
def own_sl (cs : List Int32) : Nat → Nat → Nat
  | i, 0 => i
  | i, f + 1 => if own_sc (cs.getD i 0) (if i = 0 then 1 else 0) = 0 then i else own_sl cs (i + 1) f
theorem own_sl_succ (cs : List Int32) (i f : Nat) : own_sl cs i (f + 1) = if own_sc (cs.getD i 0) (if i = 0 then 1 else 0) = 0 then i else own_sl cs (i + 1) f := rfl
theorem own_sl_le (cs : List Int32) : ∀ (f i : Nat), own_sl cs i f ≤ i + f
  | 0, i => Nat.le_refl _
  | f + 1, i => by
    rw [own_sl_succ]
    by_cases h : own_sc (cs.getD i 0) (if i = 0 then 1 else 0) = 0
    · rw [if_pos h]; omega
    · rw [if_neg h]
      have := own_sl_le cs f (i + 1)
      omega
def own_is (cs : List Int32) : Int32 := if cs.length = 0 then 0 else if own_sl cs 0 cs.length = cs.length then 1 else 0
theorem own_sc1 (c : Int32) : (own_sc c 1 = 0) = (own_let c = 0) := by
  unfold own_sc
  by_cases h : own_let c = 0
  · simp [h]
  · simp [h]
theorem own_sc0 (c : Int32) : (own_sc c 0 = 0) = (own_lsc c = 0) := by
  unfold own_sc own_lsc
  rw [if_pos rfl]
theorem d9_0 : decode method_2_code 0 = .ok (.iload_n 0, 1) := by decide +kernel
theorem d9_1 : decode method_2_code 1 = .ok (.bipush 97, 2) := by decide +kernel
theorem d9_3 : decode method_2_code 3 = .ok (.if_icmp .lt 9, 3) := by decide +kernel
theorem d9_6 : decode method_2_code 6 = .ok (.iload_n 0, 1) := by decide +kernel
theorem d9_7 : decode method_2_code 7 = .ok (.bipush 122, 2) := by decide +kernel
theorem d9_9 : decode method_2_code 9 = .ok (.if_icmp .le 15, 3) := by decide +kernel
theorem d9_12 : decode method_2_code 12 = .ok (.iload_n 0, 1) := by decide +kernel
theorem d9_13 : decode method_2_code 13 = .ok (.bipush 65, 2) := by decide +kernel
theorem d9_15 : decode method_2_code 15 = .ok (.if_icmp .lt 13, 3) := by decide +kernel
theorem d9_18 : decode method_2_code 18 = .ok (.iload_n 0, 1) := by decide +kernel
theorem d9_19 : decode method_2_code 19 = .ok (.bipush 90, 2) := by decide +kernel
theorem d9_21 : decode method_2_code 21 = .ok (.if_icmp .gt 7, 3) := by decide +kernel
theorem d9_24 : decode method_2_code 24 = .ok (.iconst 1, 1) := by decide +kernel
theorem d9_25 : decode method_2_code 25 = .ok (.goto 4, 3) := by decide +kernel
theorem d9_28 : decode method_2_code 28 = .ok (.iconst 0, 1) := by decide +kernel
theorem d9_29 : decode method_2_code 29 = .ok (.ireturn, 1) := by decide +kernel
set_option maxRecDepth 65536 in
set_option maxHeartbeats 4000000 in
theorem c_ial (l : Launch) (Z : State) (a0 : Array Value) (hw : ∀ d ∈ tables_1, d.before a0 Z = true) (h0 : Heap) (ch : Int32) : Ow.Pay l Z (⟨"com/example/eunomia/eunomia/builtin/UrlTextIsSchemePinLaw", "isAsciiLetter", "(C)Z"⟩ : MethodName) method_2_code 1 (some .boolean) ({ frames := 0, cells := 0, slots := 0, locals := 0 } : Room) #[(.int ch)] h0 (fun v h L => v = some (.int (own_let ch)) ∧ h = h0 ∧ L = []) := by
  refine Ow.Pay.of (Ls := #[.val (.int ch)]) (plainFor_of_name pn4) (fun m => by first | rfl | (simp [entryFrame, mkF, argsToLocals, Value.category]; done)) ?_
  intro p e s m below meth c T hx hby hml hown hnm hme hZ hret hlk X eT
  refine Ow.iloadN X hx (pc := 0) (hb hby d9_0) rfl ?_
  refine Ow.bipush X hx (pc := 1) (97) (hb hby d9_1) (by decide) ?_
  refine Ow.icmp_lt X hx (pc := 3) (pc' := 12) (hb hby d9_3) (by decide) (by decide) (fun h3 => ?_) (fun h3 => ?_)
  · refine Ow.iloadN X hx (pc := 12) (hb hby d9_12) rfl ?_
    refine Ow.bipush X hx (pc := 13) (65) (hb hby d9_13) (by decide) ?_
    refine Ow.icmp_lt X hx (pc := 15) (pc' := 28) (hb hby d9_15) (by decide) (by decide) (fun h15 => ?_) (fun h15 => ?_)
    · refine Ow.iconst X hx (pc := 28) (0) (hb hby d9_28) (by decide) ?_
      exact Ow.nreturn X hx hlk hret (Or.inl rfl) (hb hby d9_29) ⟨congrArg (fun w => some (Value.int w)) (Eq.symm (show own_let ch = 0 from by unfold own_let own_le2; rw [if_pos h3, if_pos h15])), eT, rfl⟩ (by decide) (by decide)
    · refine Ow.iloadN X hx (pc := 18) (hb hby d9_18) rfl ?_
      refine Ow.bipush X hx (pc := 19) (90) (hb hby d9_19) (by decide) ?_
      refine Ow.icmp_gt X hx (pc := 21) (pc' := 28) (hb hby d9_21) (by decide) (by decide) (fun h21 => ?_) (fun h21 => ?_)
      · refine Ow.iconst X hx (pc := 28) (0) (hb hby d9_28) (by decide) ?_
        exact Ow.nreturn X hx hlk hret (Or.inl rfl) (hb hby d9_29) ⟨congrArg (fun w => some (Value.int w)) (Eq.symm (show own_let ch = 0 from by unfold own_let own_le2; rw [if_pos h3, if_neg h15, if_pos h21])), eT, rfl⟩ (by decide) (by decide)
      · refine Ow.iconst X hx (pc := 24) (1) (hb hby d9_24) (by decide) ?_
        refine Ow.goto X hx (pc := 25) (pc' := 29) (hb hby d9_25) (by decide) (by decide) ?_
        exact Ow.nreturn X hx hlk hret (Or.inl rfl) (hb hby d9_29) ⟨congrArg (fun w => some (Value.int w)) (Eq.symm (show own_let ch = 1 from by unfold own_let own_le2; rw [if_pos h3, if_neg h15, if_neg h21])), eT, rfl⟩ (by decide) (by decide)
  · refine Ow.iloadN X hx (pc := 6) (hb hby d9_6) rfl ?_
    refine Ow.bipush X hx (pc := 7) (122) (hb hby d9_7) (by decide) ?_
    refine Ow.icmp_le X hx (pc := 9) (pc' := 24) (hb hby d9_9) (by decide) (by decide) (fun h9 => ?_) (fun h9 => ?_)
    · refine Ow.iconst X hx (pc := 24) (1) (hb hby d9_24) (by decide) ?_
      refine Ow.goto X hx (pc := 25) (pc' := 29) (hb hby d9_25) (by decide) (by decide) ?_
      exact Ow.nreturn X hx hlk hret (Or.inl rfl) (hb hby d9_29) ⟨congrArg (fun w => some (Value.int w)) (Eq.symm (show own_let ch = 1 from by unfold own_let own_le2; rw [if_neg h3, if_neg h9])), eT, rfl⟩ (by decide) (by decide)
    · refine Ow.iloadN X hx (pc := 12) (hb hby d9_12) rfl ?_
      refine Ow.bipush X hx (pc := 13) (65) (hb hby d9_13) (by decide) ?_
      refine Ow.icmp_lt X hx (pc := 15) (pc' := 28) (hb hby d9_15) (by decide) (by decide) (fun h15 => ?_) (fun h15 => ?_)
      · refine Ow.iconst X hx (pc := 28) (0) (hb hby d9_28) (by decide) ?_
        exact Ow.nreturn X hx hlk hret (Or.inl rfl) (hb hby d9_29) ⟨congrArg (fun w => some (Value.int w)) (Eq.symm (show own_let ch = 0 from by unfold own_let own_le2; rw [if_neg h3, if_pos h9, if_pos h15])), eT, rfl⟩ (by decide) (by decide)
      · refine Ow.iloadN X hx (pc := 18) (hb hby d9_18) rfl ?_
        refine Ow.bipush X hx (pc := 19) (90) (hb hby d9_19) (by decide) ?_
        refine Ow.icmp_gt X hx (pc := 21) (pc' := 28) (hb hby d9_21) (by decide) (by decide) (fun h21 => ?_) (fun h21 => ?_)
        · refine Ow.iconst X hx (pc := 28) (0) (hb hby d9_28) (by decide) ?_
          exact Ow.nreturn X hx hlk hret (Or.inl rfl) (hb hby d9_29) ⟨congrArg (fun w => some (Value.int w)) (Eq.symm (show own_let ch = 0 from by unfold own_let own_le2; rw [if_neg h3, if_pos h9, if_neg h15, if_pos h21])), eT, rfl⟩ (by decide) (by decide)
        · refine Ow.iconst X hx (pc := 24) (1) (hb hby d9_24) (by decide) ?_
          refine Ow.goto X hx (pc := 25) (pc' := 29) (hb hby d9_25) (by decide) (by decide) ?_
          exact Ow.nreturn X hx hlk hret (Or.inl rfl) (hb hby d9_29) ⟨congrArg (fun w => some (Value.int w)) (Eq.symm (show own_let ch = 1 from by unfold own_let own_le2; rw [if_neg h3, if_pos h9, if_neg h15, if_neg h21])), eT, rfl⟩ (by decide) (by decide)
theorem d27_0 : decode method_3_code 0 = .ok (.iload_n 0, 1) := by decide +kernel
theorem d27_1 : decode method_3_code 1 = .ok (.invokestatic 7, 3) := by decide +kernel
theorem d27_4 : decode method_3_code 4 = .ok (.ifCond .ne 33, 3) := by decide +kernel
theorem d27_7 : decode method_3_code 7 = .ok (.iload_n 0, 1) := by decide +kernel
theorem d27_8 : decode method_3_code 8 = .ok (.bipush 48, 2) := by decide +kernel
theorem d27_10 : decode method_3_code 10 = .ok (.if_icmp .lt 9, 3) := by decide +kernel
theorem d27_13 : decode method_3_code 13 = .ok (.iload_n 0, 1) := by decide +kernel
theorem d27_14 : decode method_3_code 14 = .ok (.bipush 57, 2) := by decide +kernel
theorem d27_16 : decode method_3_code 16 = .ok (.if_icmp .le 21, 3) := by decide +kernel
theorem d27_19 : decode method_3_code 19 = .ok (.iload_n 0, 1) := by decide +kernel
theorem d27_20 : decode method_3_code 20 = .ok (.bipush 43, 2) := by decide +kernel
theorem d27_22 : decode method_3_code 22 = .ok (.if_icmp .eq 15, 3) := by decide +kernel
theorem d27_25 : decode method_3_code 25 = .ok (.iload_n 0, 1) := by decide +kernel
theorem d27_26 : decode method_3_code 26 = .ok (.bipush 45, 2) := by decide +kernel
theorem d27_28 : decode method_3_code 28 = .ok (.if_icmp .eq 9, 3) := by decide +kernel
theorem d27_31 : decode method_3_code 31 = .ok (.iload_n 0, 1) := by decide +kernel
theorem d27_32 : decode method_3_code 32 = .ok (.bipush 46, 2) := by decide +kernel
theorem d27_34 : decode method_3_code 34 = .ok (.if_icmp .ne 7, 3) := by decide +kernel
theorem d27_37 : decode method_3_code 37 = .ok (.iconst 1, 1) := by decide +kernel
theorem d27_38 : decode method_3_code 38 = .ok (.goto 4, 3) := by decide +kernel
theorem d27_41 : decode method_3_code 41 = .ok (.iconst 0, 1) := by decide +kernel
theorem d27_42 : decode method_3_code 42 = .ok (.ireturn, 1) := by decide +kernel
set_option maxRecDepth 65536 in
set_option maxHeartbeats 4000000 in
theorem c_ils (l : Launch) (Z : State) (a0 : Array Value) (hw : ∀ d ∈ tables_1, d.before a0 Z = true) (h0 : Heap) (ch : Int32) : Ow.Pay l Z (⟨"com/example/eunomia/eunomia/builtin/UrlTextIsSchemePinLaw", "isLaterSchemeChar", "(C)Z"⟩ : MethodName) method_3_code 1 (some .boolean) ({ frames := 1, cells := 0, slots := 0, locals := 12 } : Room) #[(.int ch)] h0 (fun v h L => v = some (.int (own_lsc ch)) ∧ h = h0 ∧ L = []) := by
  refine Ow.Pay.of (Ls := #[.val (.int ch)]) (plainFor_of_name pn4) (fun m => by first | rfl | (simp [entryFrame, mkF, argsToLocals, Value.category]; done)) ?_
  intro p e s m below meth c T hx hby hml hown hnm hme hZ hret hlk X eT
  refine Ow.iloadN X hx (pc := 0) (hb hby d27_0) rfl ?_
  refine Ow.callSP X hx hZ (c_ial l Z a0 hw h0 _) rfl rfl eT hown (ww hw 48 rfl) (ww hw 49 rfl) (ww hw 4 rfl) (ww hw 50 rfl) (by decide) pd10 (by rw [hml]; rfl) (argsL := [_]) rfl rfl rfl (pc := 1) (hb hby d27_1) rfl rfl (by decide) (by decide) ?_   -- com/example/eunomia/eunomia/builtin/UrlTextIsSchemePinLaw.isAsciiLetter:(C)Z
  intro T X eT
  dsimp only [Option.toList_some, Option.toList_none, List.cons_append, List.nil_append]
  refine Ow.if_ne X hx (pc := 4) (pc' := 37) (hb hby d27_4) (by decide) (by decide) (fun h4 => ?_) (fun h4 => ?_)
  · refine Ow.iconst X hx (pc := 37) (1) (hb hby d27_37) (by decide) ?_
    refine Ow.goto X hx (pc := 38) (pc' := 42) (hb hby d27_38) (by decide) (by decide) ?_
    exact Ow.nreturn X hx hlk hret (Or.inl rfl) (hb hby d27_42) ⟨congrArg (fun w => some (Value.int w)) (Eq.symm (show own_lsc ch = 1 from by unfold own_lsc; rw [if_neg h4])), eT, rfl⟩ (by decide) (by decide)
  · refine Ow.iloadN X hx (pc := 7) (hb hby d27_7) rfl ?_
    refine Ow.bipush X hx (pc := 8) (48) (hb hby d27_8) (by decide) ?_
    refine Ow.icmp_lt X hx (pc := 10) (pc' := 19) (hb hby d27_10) (by decide) (by decide) (fun h10 => ?_) (fun h10 => ?_)
    · refine Ow.iloadN X hx (pc := 19) (hb hby d27_19) rfl ?_
      refine Ow.bipush X hx (pc := 20) (43) (hb hby d27_20) (by decide) ?_
      refine Ow.icmp_eq X hx (pc := 22) (pc' := 37) (hb hby d27_22) (by decide) (by decide) (fun h22 => ?_) (fun h22 => ?_)
      · refine Ow.iconst X hx (pc := 37) (1) (hb hby d27_37) (by decide) ?_
        refine Ow.goto X hx (pc := 38) (pc' := 42) (hb hby d27_38) (by decide) (by decide) ?_
        exact Ow.nreturn X hx hlk hret (Or.inl rfl) (hb hby d27_42) ⟨congrArg (fun w => some (Value.int w)) (Eq.symm (show own_lsc ch = 1 from by unfold own_lsc own_oth own_ot2; rw [if_pos h4, if_pos h10, if_pos h22])), eT, rfl⟩ (by decide) (by decide)
      · refine Ow.iloadN X hx (pc := 25) (hb hby d27_25) rfl ?_
        refine Ow.bipush X hx (pc := 26) (45) (hb hby d27_26) (by decide) ?_
        refine Ow.icmp_eq X hx (pc := 28) (pc' := 37) (hb hby d27_28) (by decide) (by decide) (fun h28 => ?_) (fun h28 => ?_)
        · refine Ow.iconst X hx (pc := 37) (1) (hb hby d27_37) (by decide) ?_
          refine Ow.goto X hx (pc := 38) (pc' := 42) (hb hby d27_38) (by decide) (by decide) ?_
          exact Ow.nreturn X hx hlk hret (Or.inl rfl) (hb hby d27_42) ⟨congrArg (fun w => some (Value.int w)) (Eq.symm (show own_lsc ch = 1 from by unfold own_lsc own_oth own_ot2; rw [if_pos h4, if_pos h10, if_neg h22, if_pos h28])), eT, rfl⟩ (by decide) (by decide)
        · refine Ow.iloadN X hx (pc := 31) (hb hby d27_31) rfl ?_
          refine Ow.bipush X hx (pc := 32) (46) (hb hby d27_32) (by decide) ?_
          refine Ow.icmp_ne X hx (pc := 34) (pc' := 41) (hb hby d27_34) (by decide) (by decide) (fun h34 => ?_) (fun h34 => ?_)
          · refine Ow.iconst X hx (pc := 41) (0) (hb hby d27_41) (by decide) ?_
            exact Ow.nreturn X hx hlk hret (Or.inl rfl) (hb hby d27_42) ⟨congrArg (fun w => some (Value.int w)) (Eq.symm (show own_lsc ch = 0 from by unfold own_lsc own_oth own_ot2; rw [if_pos h4, if_pos h10, if_neg h22, if_neg h28, if_neg h34])), eT, rfl⟩ (by decide) (by decide)
          · refine Ow.iconst X hx (pc := 37) (1) (hb hby d27_37) (by decide) ?_
            refine Ow.goto X hx (pc := 38) (pc' := 42) (hb hby d27_38) (by decide) (by decide) ?_
            exact Ow.nreturn X hx hlk hret (Or.inl rfl) (hb hby d27_42) ⟨congrArg (fun w => some (Value.int w)) (Eq.symm (show own_lsc ch = 1 from by unfold own_lsc own_oth own_ot2; rw [if_pos h4, if_pos h10, if_neg h22, if_neg h28, if_pos h34])), eT, rfl⟩ (by decide) (by decide)
    · refine Ow.iloadN X hx (pc := 13) (hb hby d27_13) rfl ?_
      refine Ow.bipush X hx (pc := 14) (57) (hb hby d27_14) (by decide) ?_
      refine Ow.icmp_le X hx (pc := 16) (pc' := 37) (hb hby d27_16) (by decide) (by decide) (fun h16 => ?_) (fun h16 => ?_)
      · refine Ow.iconst X hx (pc := 37) (1) (hb hby d27_37) (by decide) ?_
        refine Ow.goto X hx (pc := 38) (pc' := 42) (hb hby d27_38) (by decide) (by decide) ?_
        exact Ow.nreturn X hx hlk hret (Or.inl rfl) (hb hby d27_42) ⟨congrArg (fun w => some (Value.int w)) (Eq.symm (show own_lsc ch = 1 from by unfold own_lsc own_oth own_ot2; rw [if_pos h4, if_neg h10, if_neg h16])), eT, rfl⟩ (by decide) (by decide)
      · refine Ow.iloadN X hx (pc := 19) (hb hby d27_19) rfl ?_
        refine Ow.bipush X hx (pc := 20) (43) (hb hby d27_20) (by decide) ?_
        refine Ow.icmp_eq X hx (pc := 22) (pc' := 37) (hb hby d27_22) (by decide) (by decide) (fun h22 => ?_) (fun h22 => ?_)
        · refine Ow.iconst X hx (pc := 37) (1) (hb hby d27_37) (by decide) ?_
          refine Ow.goto X hx (pc := 38) (pc' := 42) (hb hby d27_38) (by decide) (by decide) ?_
          exact Ow.nreturn X hx hlk hret (Or.inl rfl) (hb hby d27_42) ⟨congrArg (fun w => some (Value.int w)) (Eq.symm (show own_lsc ch = 1 from by unfold own_lsc own_oth own_ot2; rw [if_pos h4, if_neg h10, if_pos h16, if_pos h22])), eT, rfl⟩ (by decide) (by decide)
        · refine Ow.iloadN X hx (pc := 25) (hb hby d27_25) rfl ?_
          refine Ow.bipush X hx (pc := 26) (45) (hb hby d27_26) (by decide) ?_
          refine Ow.icmp_eq X hx (pc := 28) (pc' := 37) (hb hby d27_28) (by decide) (by decide) (fun h28 => ?_) (fun h28 => ?_)
          · refine Ow.iconst X hx (pc := 37) (1) (hb hby d27_37) (by decide) ?_
            refine Ow.goto X hx (pc := 38) (pc' := 42) (hb hby d27_38) (by decide) (by decide) ?_
            exact Ow.nreturn X hx hlk hret (Or.inl rfl) (hb hby d27_42) ⟨congrArg (fun w => some (Value.int w)) (Eq.symm (show own_lsc ch = 1 from by unfold own_lsc own_oth own_ot2; rw [if_pos h4, if_neg h10, if_pos h16, if_neg h22, if_pos h28])), eT, rfl⟩ (by decide) (by decide)
          · refine Ow.iloadN X hx (pc := 31) (hb hby d27_31) rfl ?_
            refine Ow.bipush X hx (pc := 32) (46) (hb hby d27_32) (by decide) ?_
            refine Ow.icmp_ne X hx (pc := 34) (pc' := 41) (hb hby d27_34) (by decide) (by decide) (fun h34 => ?_) (fun h34 => ?_)
            · refine Ow.iconst X hx (pc := 41) (0) (hb hby d27_41) (by decide) ?_
              exact Ow.nreturn X hx hlk hret (Or.inl rfl) (hb hby d27_42) ⟨congrArg (fun w => some (Value.int w)) (Eq.symm (show own_lsc ch = 0 from by unfold own_lsc own_oth own_ot2; rw [if_pos h4, if_neg h10, if_pos h16, if_neg h22, if_neg h28, if_neg h34])), eT, rfl⟩ (by decide) (by decide)
            · refine Ow.iconst X hx (pc := 37) (1) (hb hby d27_37) (by decide) ?_
              refine Ow.goto X hx (pc := 38) (pc' := 42) (hb hby d27_38) (by decide) (by decide) ?_
              exact Ow.nreturn X hx hlk hret (Or.inl rfl) (hb hby d27_42) ⟨congrArg (fun w => some (Value.int w)) (Eq.symm (show own_lsc ch = 1 from by unfold own_lsc own_oth own_ot2; rw [if_pos h4, if_neg h10, if_pos h16, if_neg h22, if_neg h28, if_pos h34])), eT, rfl⟩ (by decide) (by decide)
theorem d18_0 : decode prog_4_method_9_code 0 = .ok (.iload_n 0, 1) := by decide +kernel
theorem d18_1 : decode prog_4_method_9_code 1 = .ok (.bipush 97, 2) := by decide +kernel
theorem d18_3 : decode prog_4_method_9_code 3 = .ok (.if_icmp .lt 9, 3) := by decide +kernel
theorem d18_6 : decode prog_4_method_9_code 6 = .ok (.iload_n 0, 1) := by decide +kernel
theorem d18_7 : decode prog_4_method_9_code 7 = .ok (.bipush 122, 2) := by decide +kernel
theorem d18_9 : decode prog_4_method_9_code 9 = .ok (.if_icmp .le 15, 3) := by decide +kernel
theorem d18_12 : decode prog_4_method_9_code 12 = .ok (.iload_n 0, 1) := by decide +kernel
theorem d18_13 : decode prog_4_method_9_code 13 = .ok (.bipush 65, 2) := by decide +kernel
theorem d18_15 : decode prog_4_method_9_code 15 = .ok (.if_icmp .lt 13, 3) := by decide +kernel
theorem d18_18 : decode prog_4_method_9_code 18 = .ok (.iload_n 0, 1) := by decide +kernel
theorem d18_19 : decode prog_4_method_9_code 19 = .ok (.bipush 90, 2) := by decide +kernel
theorem d18_21 : decode prog_4_method_9_code 21 = .ok (.if_icmp .gt 7, 3) := by decide +kernel
theorem d18_24 : decode prog_4_method_9_code 24 = .ok (.iconst 1, 1) := by decide +kernel
theorem d18_25 : decode prog_4_method_9_code 25 = .ok (.goto 4, 3) := by decide +kernel
theorem d18_28 : decode prog_4_method_9_code 28 = .ok (.iconst 0, 1) := by decide +kernel
theorem d18_29 : decode prog_4_method_9_code 29 = .ok (.istore_n 2, 1) := by decide +kernel
theorem d18_30 : decode prog_4_method_9_code 30 = .ok (.iload_n 2, 1) := by decide +kernel
theorem d18_31 : decode prog_4_method_9_code 31 = .ok (.ifCond .ne 37, 3) := by decide +kernel
theorem d18_34 : decode prog_4_method_9_code 34 = .ok (.iload_n 1, 1) := by decide +kernel
theorem d18_35 : decode prog_4_method_9_code 35 = .ok (.ifCond .ne 37, 3) := by decide +kernel
theorem d18_38 : decode prog_4_method_9_code 38 = .ok (.iload_n 0, 1) := by decide +kernel
theorem d18_39 : decode prog_4_method_9_code 39 = .ok (.bipush 48, 2) := by decide +kernel
theorem d18_41 : decode prog_4_method_9_code 41 = .ok (.if_icmp .lt 9, 3) := by decide +kernel
theorem d18_44 : decode prog_4_method_9_code 44 = .ok (.iload_n 0, 1) := by decide +kernel
theorem d18_45 : decode prog_4_method_9_code 45 = .ok (.bipush 57, 2) := by decide +kernel
theorem d18_47 : decode prog_4_method_9_code 47 = .ok (.if_icmp .le 21, 3) := by decide +kernel
theorem d18_50 : decode prog_4_method_9_code 50 = .ok (.iload_n 0, 1) := by decide +kernel
theorem d18_51 : decode prog_4_method_9_code 51 = .ok (.bipush 43, 2) := by decide +kernel
theorem d18_53 : decode prog_4_method_9_code 53 = .ok (.if_icmp .eq 15, 3) := by decide +kernel
theorem d18_56 : decode prog_4_method_9_code 56 = .ok (.iload_n 0, 1) := by decide +kernel
theorem d18_57 : decode prog_4_method_9_code 57 = .ok (.bipush 45, 2) := by decide +kernel
theorem d18_59 : decode prog_4_method_9_code 59 = .ok (.if_icmp .eq 9, 3) := by decide +kernel
theorem d18_62 : decode prog_4_method_9_code 62 = .ok (.iload_n 0, 1) := by decide +kernel
theorem d18_63 : decode prog_4_method_9_code 63 = .ok (.bipush 46, 2) := by decide +kernel
theorem d18_65 : decode prog_4_method_9_code 65 = .ok (.if_icmp .ne 7, 3) := by decide +kernel
theorem d18_68 : decode prog_4_method_9_code 68 = .ok (.iconst 1, 1) := by decide +kernel
theorem d18_69 : decode prog_4_method_9_code 69 = .ok (.goto 4, 3) := by decide +kernel
theorem d18_72 : decode prog_4_method_9_code 72 = .ok (.iconst 0, 1) := by decide +kernel
theorem d18_73 : decode prog_4_method_9_code 73 = .ok (.ireturn, 1) := by decide +kernel
set_option maxRecDepth 65536 in
set_option maxHeartbeats 4000000 in
theorem c_isc (l : Launch) (Z : State) (a0 : Array Value) (hw : ∀ d ∈ tables_1, d.before a0 Z = true) (h0 : Heap) (ch dd : Int32) : Ow.Pay l Z (⟨"com/example/eunomia/eunomia/builtin/UrlText", "isSchemeCharacter", "(CZ)Z"⟩ : MethodName) prog_4_method_9_code 3 (some .boolean) ({ frames := 0, cells := 0, slots := 0, locals := 0 } : Room) #[(.int ch), (.int dd)] h0 (fun v h L => v = some (.int (own_sc ch dd)) ∧ h = h0 ∧ L = []) := by
  refine Ow.Pay.of (Ls := #[.val (.int ch), .val (.int dd), .unset]) (plainFor_of_name pn5) (fun m => by first | rfl | (simp [entryFrame, mkF, argsToLocals, Value.category]; done)) ?_
  intro p e s m below meth c T hx hby hml hown hnm hme hZ hret hlk X eT
  refine Ow.joinI X eT (fun v => v = own_let ch) 29 ?_ (fun J => ?_)
  rotate_left
  · refine Ow.iloadN X hx (pc := 0) (hb hby d18_0) rfl ?_
    refine Ow.bipush X hx (pc := 1) (97) (hb hby d18_1) (by decide) ?_
    refine Ow.icmp_lt X hx (pc := 3) (pc' := 12) (hb hby d18_3) (by decide) (by decide) (fun h3 => ?_) (fun h3 => ?_)
    · refine Ow.iloadN X hx (pc := 12) (hb hby d18_12) rfl ?_
      refine Ow.bipush X hx (pc := 13) (65) (hb hby d18_13) (by decide) ?_
      refine Ow.icmp_lt X hx (pc := 15) (pc' := 28) (hb hby d18_15) (by decide) (by decide) (fun h15 => ?_) (fun h15 => ?_)
      · refine Ow.iconst X hx (pc := 28) (0) (hb hby d18_28) (by decide) ?_
        exact J _ T X eT (by unfold own_let own_le2; rw [if_pos h3, if_pos h15])
      · refine Ow.iloadN X hx (pc := 18) (hb hby d18_18) rfl ?_
        refine Ow.bipush X hx (pc := 19) (90) (hb hby d18_19) (by decide) ?_
        refine Ow.icmp_gt X hx (pc := 21) (pc' := 28) (hb hby d18_21) (by decide) (by decide) (fun h21 => ?_) (fun h21 => ?_)
        · refine Ow.iconst X hx (pc := 28) (0) (hb hby d18_28) (by decide) ?_
          exact J _ T X eT (by unfold own_let own_le2; rw [if_pos h3, if_neg h15, if_pos h21])
        · refine Ow.iconst X hx (pc := 24) (1) (hb hby d18_24) (by decide) ?_
          refine Ow.goto X hx (pc := 25) (pc' := 29) (hb hby d18_25) (by decide) (by decide) ?_
          exact J _ T X eT (by unfold own_let own_le2; rw [if_pos h3, if_neg h15, if_neg h21])
    · refine Ow.iloadN X hx (pc := 6) (hb hby d18_6) rfl ?_
      refine Ow.bipush X hx (pc := 7) (122) (hb hby d18_7) (by decide) ?_
      refine Ow.icmp_le X hx (pc := 9) (pc' := 24) (hb hby d18_9) (by decide) (by decide) (fun h9 => ?_) (fun h9 => ?_)
      · refine Ow.iconst X hx (pc := 24) (1) (hb hby d18_24) (by decide) ?_
        refine Ow.goto X hx (pc := 25) (pc' := 29) (hb hby d18_25) (by decide) (by decide) ?_
        exact J _ T X eT (by unfold own_let own_le2; rw [if_neg h3, if_neg h9])
      · refine Ow.iloadN X hx (pc := 12) (hb hby d18_12) rfl ?_
        refine Ow.bipush X hx (pc := 13) (65) (hb hby d18_13) (by decide) ?_
        refine Ow.icmp_lt X hx (pc := 15) (pc' := 28) (hb hby d18_15) (by decide) (by decide) (fun h15 => ?_) (fun h15 => ?_)
        · refine Ow.iconst X hx (pc := 28) (0) (hb hby d18_28) (by decide) ?_
          exact J _ T X eT (by unfold own_let own_le2; rw [if_neg h3, if_pos h9, if_pos h15])
        · refine Ow.iloadN X hx (pc := 18) (hb hby d18_18) rfl ?_
          refine Ow.bipush X hx (pc := 19) (90) (hb hby d18_19) (by decide) ?_
          refine Ow.icmp_gt X hx (pc := 21) (pc' := 28) (hb hby d18_21) (by decide) (by decide) (fun h21 => ?_) (fun h21 => ?_)
          · refine Ow.iconst X hx (pc := 28) (0) (hb hby d18_28) (by decide) ?_
            exact J _ T X eT (by unfold own_let own_le2; rw [if_neg h3, if_pos h9, if_neg h15, if_pos h21])
          · refine Ow.iconst X hx (pc := 24) (1) (hb hby d18_24) (by decide) ?_
            refine Ow.goto X hx (pc := 25) (pc' := 29) (hb hby d18_25) (by decide) (by decide) ?_
            exact J _ T X eT (by unfold own_let own_le2; rw [if_neg h3, if_pos h9, if_neg h15, if_neg h21])
  rintro _ T X eT rfl
  refine Ow.istoreN X hx (pc := 29) #[_, _, _] (hb hby d18_29) rfl ?_
  refine Ow.iloadN X hx (pc := 30) (hb hby d18_30) rfl ?_
  refine Ow.if_ne X hx (pc := 31) (pc' := 68) (hb hby d18_31) (by decide) (by decide) (fun h31 => ?_) (fun h31 => ?_)
  · refine Ow.iconst X hx (pc := 68) (1) (hb hby d18_68) (by decide) ?_
    refine Ow.goto X hx (pc := 69) (pc' := 73) (hb hby d18_69) (by decide) (by decide) ?_
    exact Ow.nreturn X hx hlk hret (Or.inl rfl) (hb hby d18_73) ⟨congrArg (fun w => some (Value.int w)) (Eq.symm (show own_sc ch dd = 1 from by unfold own_sc; rw [if_neg h31])), eT, rfl⟩ (by decide) (by decide)
  · refine Ow.iloadN X hx (pc := 34) (hb hby d18_34) rfl ?_
    refine Ow.if_ne X hx (pc := 35) (pc' := 72) (hb hby d18_35) (by decide) (by decide) (fun h35 => ?_) (fun h35 => ?_)
    · refine Ow.iconst X hx (pc := 72) (0) (hb hby d18_72) (by decide) ?_
      exact Ow.nreturn X hx hlk hret (Or.inl rfl) (hb hby d18_73) ⟨congrArg (fun w => some (Value.int w)) (Eq.symm (show own_sc ch dd = 0 from by unfold own_sc; rw [if_pos h31, if_neg h35])), eT, rfl⟩ (by decide) (by decide)
    · refine Ow.iloadN X hx (pc := 38) (hb hby d18_38) rfl ?_
      refine Ow.bipush X hx (pc := 39) (48) (hb hby d18_39) (by decide) ?_
      refine Ow.icmp_lt X hx (pc := 41) (pc' := 50) (hb hby d18_41) (by decide) (by decide) (fun h41 => ?_) (fun h41 => ?_)
      · refine Ow.iloadN X hx (pc := 50) (hb hby d18_50) rfl ?_
        refine Ow.bipush X hx (pc := 51) (43) (hb hby d18_51) (by decide) ?_
        refine Ow.icmp_eq X hx (pc := 53) (pc' := 68) (hb hby d18_53) (by decide) (by decide) (fun h53 => ?_) (fun h53 => ?_)
        · refine Ow.iconst X hx (pc := 68) (1) (hb hby d18_68) (by decide) ?_
          refine Ow.goto X hx (pc := 69) (pc' := 73) (hb hby d18_69) (by decide) (by decide) ?_
          exact Ow.nreturn X hx hlk hret (Or.inl rfl) (hb hby d18_73) ⟨congrArg (fun w => some (Value.int w)) (Eq.symm (show own_sc ch dd = 1 from by unfold own_sc own_oth own_ot2; rw [if_pos h31, if_pos h35, if_pos h41, if_pos h53])), eT, rfl⟩ (by decide) (by decide)
        · refine Ow.iloadN X hx (pc := 56) (hb hby d18_56) rfl ?_
          refine Ow.bipush X hx (pc := 57) (45) (hb hby d18_57) (by decide) ?_
          refine Ow.icmp_eq X hx (pc := 59) (pc' := 68) (hb hby d18_59) (by decide) (by decide) (fun h59 => ?_) (fun h59 => ?_)
          · refine Ow.iconst X hx (pc := 68) (1) (hb hby d18_68) (by decide) ?_
            refine Ow.goto X hx (pc := 69) (pc' := 73) (hb hby d18_69) (by decide) (by decide) ?_
            exact Ow.nreturn X hx hlk hret (Or.inl rfl) (hb hby d18_73) ⟨congrArg (fun w => some (Value.int w)) (Eq.symm (show own_sc ch dd = 1 from by unfold own_sc own_oth own_ot2; rw [if_pos h31, if_pos h35, if_pos h41, if_neg h53, if_pos h59])), eT, rfl⟩ (by decide) (by decide)
          · refine Ow.iloadN X hx (pc := 62) (hb hby d18_62) rfl ?_
            refine Ow.bipush X hx (pc := 63) (46) (hb hby d18_63) (by decide) ?_
            refine Ow.icmp_ne X hx (pc := 65) (pc' := 72) (hb hby d18_65) (by decide) (by decide) (fun h65 => ?_) (fun h65 => ?_)
            · refine Ow.iconst X hx (pc := 72) (0) (hb hby d18_72) (by decide) ?_
              exact Ow.nreturn X hx hlk hret (Or.inl rfl) (hb hby d18_73) ⟨congrArg (fun w => some (Value.int w)) (Eq.symm (show own_sc ch dd = 0 from by unfold own_sc own_oth own_ot2; rw [if_pos h31, if_pos h35, if_pos h41, if_neg h53, if_neg h59, if_neg h65])), eT, rfl⟩ (by decide) (by decide)
            · refine Ow.iconst X hx (pc := 68) (1) (hb hby d18_68) (by decide) ?_
              refine Ow.goto X hx (pc := 69) (pc' := 73) (hb hby d18_69) (by decide) (by decide) ?_
              exact Ow.nreturn X hx hlk hret (Or.inl rfl) (hb hby d18_73) ⟨congrArg (fun w => some (Value.int w)) (Eq.symm (show own_sc ch dd = 1 from by unfold own_sc own_oth own_ot2; rw [if_pos h31, if_pos h35, if_pos h41, if_neg h53, if_neg h59, if_pos h65])), eT, rfl⟩ (by decide) (by decide)
      · refine Ow.iloadN X hx (pc := 44) (hb hby d18_44) rfl ?_
        refine Ow.bipush X hx (pc := 45) (57) (hb hby d18_45) (by decide) ?_
        refine Ow.icmp_le X hx (pc := 47) (pc' := 68) (hb hby d18_47) (by decide) (by decide) (fun h47 => ?_) (fun h47 => ?_)
        · refine Ow.iconst X hx (pc := 68) (1) (hb hby d18_68) (by decide) ?_
          refine Ow.goto X hx (pc := 69) (pc' := 73) (hb hby d18_69) (by decide) (by decide) ?_
          exact Ow.nreturn X hx hlk hret (Or.inl rfl) (hb hby d18_73) ⟨congrArg (fun w => some (Value.int w)) (Eq.symm (show own_sc ch dd = 1 from by unfold own_sc own_oth own_ot2; rw [if_pos h31, if_pos h35, if_neg h41, if_neg h47])), eT, rfl⟩ (by decide) (by decide)
        · refine Ow.iloadN X hx (pc := 50) (hb hby d18_50) rfl ?_
          refine Ow.bipush X hx (pc := 51) (43) (hb hby d18_51) (by decide) ?_
          refine Ow.icmp_eq X hx (pc := 53) (pc' := 68) (hb hby d18_53) (by decide) (by decide) (fun h53 => ?_) (fun h53 => ?_)
          · refine Ow.iconst X hx (pc := 68) (1) (hb hby d18_68) (by decide) ?_
            refine Ow.goto X hx (pc := 69) (pc' := 73) (hb hby d18_69) (by decide) (by decide) ?_
            exact Ow.nreturn X hx hlk hret (Or.inl rfl) (hb hby d18_73) ⟨congrArg (fun w => some (Value.int w)) (Eq.symm (show own_sc ch dd = 1 from by unfold own_sc own_oth own_ot2; rw [if_pos h31, if_pos h35, if_neg h41, if_pos h47, if_pos h53])), eT, rfl⟩ (by decide) (by decide)
          · refine Ow.iloadN X hx (pc := 56) (hb hby d18_56) rfl ?_
            refine Ow.bipush X hx (pc := 57) (45) (hb hby d18_57) (by decide) ?_
            refine Ow.icmp_eq X hx (pc := 59) (pc' := 68) (hb hby d18_59) (by decide) (by decide) (fun h59 => ?_) (fun h59 => ?_)
            · refine Ow.iconst X hx (pc := 68) (1) (hb hby d18_68) (by decide) ?_
              refine Ow.goto X hx (pc := 69) (pc' := 73) (hb hby d18_69) (by decide) (by decide) ?_
              exact Ow.nreturn X hx hlk hret (Or.inl rfl) (hb hby d18_73) ⟨congrArg (fun w => some (Value.int w)) (Eq.symm (show own_sc ch dd = 1 from by unfold own_sc own_oth own_ot2; rw [if_pos h31, if_pos h35, if_neg h41, if_pos h47, if_neg h53, if_pos h59])), eT, rfl⟩ (by decide) (by decide)
            · refine Ow.iloadN X hx (pc := 62) (hb hby d18_62) rfl ?_
              refine Ow.bipush X hx (pc := 63) (46) (hb hby d18_63) (by decide) ?_
              refine Ow.icmp_ne X hx (pc := 65) (pc' := 72) (hb hby d18_65) (by decide) (by decide) (fun h65 => ?_) (fun h65 => ?_)
              · refine Ow.iconst X hx (pc := 72) (0) (hb hby d18_72) (by decide) ?_
                exact Ow.nreturn X hx hlk hret (Or.inl rfl) (hb hby d18_73) ⟨congrArg (fun w => some (Value.int w)) (Eq.symm (show own_sc ch dd = 0 from by unfold own_sc own_oth own_ot2; rw [if_pos h31, if_pos h35, if_neg h41, if_pos h47, if_neg h53, if_neg h59, if_neg h65])), eT, rfl⟩ (by decide) (by decide)
              · refine Ow.iconst X hx (pc := 68) (1) (hb hby d18_68) (by decide) ?_
                refine Ow.goto X hx (pc := 69) (pc' := 73) (hb hby d18_69) (by decide) (by decide) ?_
                exact Ow.nreturn X hx hlk hret (Or.inl rfl) (hb hby d18_73) ⟨congrArg (fun w => some (Value.int w)) (Eq.symm (show own_sc ch dd = 1 from by unfold own_sc own_oth own_ot2; rw [if_pos h31, if_pos h35, if_neg h41, if_pos h47, if_neg h53, if_neg h59, if_pos h65])), eT, rfl⟩ (by decide) (by decide)
theorem d10_0 : decode prog_4_method_8_code 0 = .ok (.iconst 0, 1) := by decide +kernel
theorem d10_1 : decode prog_4_method_8_code 1 = .ok (.istore_n 1, 1) := by decide +kernel
theorem d10_2 : decode prog_4_method_8_code 2 = .ok (.iload_n 1, 1) := by decide +kernel
theorem d10_3 : decode prog_4_method_8_code 3 = .ok (.aload_n 0, 1) := by decide +kernel
theorem d10_4 : decode prog_4_method_8_code 4 = .ok (.invokeinterface 20 1, 5) := by decide +kernel
theorem d10_9 : decode prog_4_method_8_code 9 = .ok (.if_icmp .ge 31, 3) := by decide +kernel
theorem d10_12 : decode prog_4_method_8_code 12 = .ok (.aload_n 0, 1) := by decide +kernel
theorem d10_13 : decode prog_4_method_8_code 13 = .ok (.iload_n 1, 1) := by decide +kernel
theorem d10_14 : decode prog_4_method_8_code 14 = .ok (.invokeinterface 30 2, 5) := by decide +kernel
theorem d10_19 : decode prog_4_method_8_code 19 = .ok (.iload_n 1, 1) := by decide +kernel
theorem d10_20 : decode prog_4_method_8_code 20 = .ok (.ifCond .ne 7, 3) := by decide +kernel
theorem d10_23 : decode prog_4_method_8_code 23 = .ok (.iconst 1, 1) := by decide +kernel
theorem d10_24 : decode prog_4_method_8_code 24 = .ok (.goto 4, 3) := by decide +kernel
theorem d10_27 : decode prog_4_method_8_code 27 = .ok (.iconst 0, 1) := by decide +kernel
theorem d10_28 : decode prog_4_method_8_code 28 = .ok (.invokestatic 127, 3) := by decide +kernel
theorem d10_31 : decode prog_4_method_8_code 31 = .ok (.ifCond .eq 9, 3) := by decide +kernel
theorem d10_34 : decode prog_4_method_8_code 34 = .ok (.iinc 1 1, 3) := by decide +kernel
theorem d10_37 : decode prog_4_method_8_code 37 = .ok (.goto (-35), 3) := by decide +kernel
theorem d10_40 : decode prog_4_method_8_code 40 = .ok (.iload_n 1, 1) := by decide +kernel
theorem d10_41 : decode prog_4_method_8_code 41 = .ok (.ireturn, 1) := by decide +kernel
set_option maxRecDepth 65536 in
set_option maxHeartbeats 4000000 in
theorem c_sl (l : Launch) (Z : State) (a0 : Array Value) (hw : ∀ d ∈ tables_1, d.before a0 Z = true) (h0 : Heap) (z : Int32) (fm : Value) (S : Sta Z h0 "java/lang/String" "COMPACT_STRINGS" "Z" (.int z)) (hz : ¬ z = 0) (Sf : Sta Z h0 "jdk/internal/util/Preconditions" "SIOOBE_FORMATTER" "Ljava/util/function/BiFunction;" fm) (hfm : fm.isRef = true) (Sa : Sta Z h0 "java/lang/StringUTF16" "$assertionsDisabled" "Z" (.int 1)) (Sh : Sta Z h0 "java/lang/StringUTF16" "HI_BYTE_SHIFT" "I" (.int 0)) (Sl : Sta Z h0 "java/lang/StringUTF16" "LO_BYTE_SHIFT" "I" (.int 8)) (x t : Addr) (kb : ClassId) (cs : List Int32) (St : own_Tx Z h0 x t kb cs) (hle4 : cs.length ≤ 4) (hr : ∀ c ∈ cs, own_ok c) : Ow.Pay l Z (⟨"com/example/eunomia/eunomia/builtin/UrlText", "schemeLength", "(Ljava/lang/CharSequence;)I"⟩ : MethodName) prog_4_method_8_code 2 (some .int) ({ frames := 5, cells := 0, slots := 0, locals := 73 } : Room) #[(.ref x)] h0 (fun v h L => v = some (.int (Int32.ofNat (own_sl cs 0 cs.length))) ∧ h = h0 ∧ L = []) := by
  refine Ow.Pay.of (Ls := #[.val (.ref x), .unset]) (plainFor_of_name pn5) (fun m => by first | rfl | (simp [entryFrame, mkF, argsToLocals, Value.category]; done)) ?_
  intro p e s m below meth c T hx hby hml hown hnm hme hZ hret hlk X eT
  have lp : ∀ (f i : Nat), i + f = cs.length → own_sl cs 0 cs.length = own_sl cs i f → ∀ T, Stand p l e ({ frames := 5, cells := 0, slots := 0, locals := 73 } : Room) s m #[(.ref x)] below meth c T [] 0 0 → T.heap = h0 → Go p.tables e below (Ow.EndN s (fun v h L => v = some (.int (Int32.ofNat (own_sl cs 0 cs.length))) ∧ h = h0 ∧ L = []) 0 0) (T.setTop (mkF m 2 #[.val (.ref x), .val (.int (Int32.ofNat i))] [])) := by
    intro f
    induction f with
    | zero =>
      intro i hi hv T X eT
      refine Ow.iloadN X hx (pc := 2) (hb hby d10_2) rfl ?_
      refine Ow.aloadN X hx (pc := 3) (hb hby d10_3) rfl rfl ?_
      refine Ow.callFP X hx hZ (c_len l Z a0 hw h0 z S hz x t kb cs St hle4) rfl rfl eT hown (ww hw 54 rfl) (ww hw 55 rfl) (ww hw 57 rfl) (ww hw 58 rfl) (ww hw 56 rfl) (ww hw 59 rfl) (ww hw 60 rfl) (ww hw 61 rfl) (ww hw 8 rfl) (ww hw 62 rfl) (by decide) pd11 (by rw [hml]; rfl) St.1 (argsL := []) rfl rfl rfl (pc := 4) (hb hby d10_4) rfl rfl (by decide) (by decide) ?_   -- java/lang/CharSequence.length:()I
      intro T X eT
      dsimp only [Option.toList_some, Option.toList_none, List.cons_append, List.nil_append]
      refine Ow.icmp_ge X hx (pc := 9) (pc' := 40) (hb hby d10_9) (by decide) (by decide) (fun h9 => ?_) (fun q => absurd ((Ow.n_lt (by omega) (by omega)).mp q) (by omega))
      refine Ow.iloadN X hx (pc := 40) (hb hby d10_40) rfl ?_
      exact Ow.ireturn X hx hlk hret (hb hby d10_41) ⟨by rw [hv]; rfl, eT, rfl⟩ (by decide) (by decide)
    | succ f ih =>
      intro i hi hv T X eT
      have hi2 : i < cs.length := by omega
      rw [own_sl_succ] at hv
      refine Ow.iloadN X hx (pc := 2) (hb hby d10_2) rfl ?_
      refine Ow.aloadN X hx (pc := 3) (hb hby d10_3) rfl rfl ?_
      refine Ow.callFP X hx hZ (c_len l Z a0 hw h0 z S hz x t kb cs St hle4) rfl rfl eT hown (ww hw 54 rfl) (ww hw 55 rfl) (ww hw 57 rfl) (ww hw 58 rfl) (ww hw 56 rfl) (ww hw 59 rfl) (ww hw 60 rfl) (ww hw 61 rfl) (ww hw 8 rfl) (ww hw 62 rfl) (by decide) pd11 (by rw [hml]; rfl) St.1 (argsL := []) rfl rfl rfl (pc := 4) (hb hby d10_4) rfl rfl (by decide) (by decide) ?_   -- java/lang/CharSequence.length:()I
      intro T X eT
      dsimp only [Option.toList_some, Option.toList_none, List.cons_append, List.nil_append]
      refine Ow.icmp_ge X hx (pc := 9) (pc' := 40) (hb hby d10_9) (by decide) (by decide) (fun q => absurd ((Ow.n_lt (by omega) (by omega)).mpr hi2) q) (fun h9 => ?_)
      refine Ow.aloadN X hx (pc := 12) (hb hby d10_12) rfl rfl ?_
      refine Ow.iloadN X hx (pc := 13) (hb hby d10_13) rfl ?_
      refine Ow.callFP X hx hZ (c_at l Z a0 hw h0 z fm S hz Sf hfm Sa Sh Sl x t kb cs St hle4 hr i hi2) rfl rfl eT hown (ww hw 68 rfl) (ww hw 69 rfl) (ww hw 71 rfl) (ww hw 72 rfl) (ww hw 70 rfl) (ww hw 73 rfl) (ww hw 74 rfl) (ww hw 61 rfl) (ww hw 8 rfl) (ww hw 75 rfl) (by decide) pd12 (by rw [hml]; rfl) St.1 (argsL := [_]) rfl rfl rfl (pc := 14) (hb hby d10_14) rfl rfl (by decide) (by decide) ?_   -- java/lang/CharSequence.charAt:(I)C
      intro T X eT
      dsimp only [Option.toList_some, Option.toList_none, List.cons_append, List.nil_append]
      refine Ow.joinI X eT (fun v => v = if i = 0 then 1 else 0) 28 ?_ (fun J => ?_)
      rotate_left
      · refine Ow.iloadN X hx (pc := 19) (hb hby d10_19) rfl ?_
        refine Ow.if_ne X hx (pc := 20) (pc' := 27) (hb hby d10_20) (by decide) (by decide) (fun h20 => ?_) (fun h20 => ?_)
        · refine Ow.iconst X hx (pc := 27) (0) (hb hby d10_27) (by decide) ?_
          exact J _ T X eT (by exact Eq.symm (if_neg (fun r => h20 ((Ow.n_eq (n := 0) (by omega) (by omega)).mpr r))))
        · refine Ow.iconst X hx (pc := 23) (1) (hb hby d10_23) (by decide) ?_
          refine Ow.goto X hx (pc := 24) (pc' := 28) (hb hby d10_24) (by decide) (by decide) ?_
          exact J _ T X eT (by exact Eq.symm (if_pos ((Ow.n_eq (n := 0) (by omega) (by omega)).mp h20)))
      rintro _ T X eT rfl
      refine Ow.callSP X hx hZ (c_isc l Z a0 hw h0 _ _) rfl rfl eT hown (ww hw 93 rfl) (ww hw 94 rfl) (ww hw 30 rfl) (ww hw 95 rfl) (by decide) pd13 (by rw [hml]; rfl) (argsL := [_, _]) rfl rfl rfl (pc := 28) (hb hby d10_28) rfl rfl (by decide) (by decide) ?_   -- com/example/eunomia/eunomia/builtin/UrlText.isSchemeCharacter:(CZ)Z
      intro T X eT
      dsimp only [Option.toList_some, Option.toList_none, List.cons_append, List.nil_append]
      refine Ow.if_eq X hx (pc := 31) (pc' := 40) (hb hby d10_31) (by decide) (by decide) (fun h31 => ?_) (fun h31 => ?_)
      · refine Ow.iloadN X hx (pc := 40) (hb hby d10_40) rfl ?_
        exact Ow.ireturn X hx hlk hret (hb hby d10_41) ⟨by rw [hv, if_pos h31], eT, rfl⟩ (by decide) (by decide)
      · refine Ow.iinc X hx (pc := 34) 1 #[_, _] (hb hby d10_34) (by decide) rfl rfl ?_
        rw [Ow.n_one]
        refine Ow.goto X hx (pc := 37) (pc' := 2) (hb hby d10_37) (by decide) (by decide) ?_
        rw [if_neg h31] at hv
        exact ih (i + 1) (by omega) hv T X eT
  refine Ow.iconst X hx (pc := 0) (0) (hb hby d10_0) (by decide) ?_
  refine Ow.istoreN X hx (pc := 1) #[_, _] (hb hby d10_1) rfl ?_
  exact lp cs.length 0 (by omega) rfl T X eT
theorem d4_0 : decode prog_4_method_3_code 0 = .ok (.aload_n 0, 1) := by decide +kernel
theorem d4_1 : decode prog_4_method_3_code 1 = .ok (.invokevirtual 77, 3) := by decide +kernel
theorem d4_4 : decode prog_4_method_3_code 4 = .ok (.ifCond .ne 18, 3) := by decide +kernel
theorem d4_7 : decode prog_4_method_3_code 7 = .ok (.aload_n 0, 1) := by decide +kernel
theorem d4_8 : decode prog_4_method_3_code 8 = .ok (.invokestatic 26, 3) := by decide +kernel
theorem d4_11 : decode prog_4_method_3_code 11 = .ok (.aload_n 0, 1) := by decide +kernel
theorem d4_12 : decode prog_4_method_3_code 12 = .ok (.invokevirtual 99, 3) := by decide +kernel
theorem d4_15 : decode prog_4_method_3_code 15 = .ok (.if_icmp .ne 7, 3) := by decide +kernel
theorem d4_18 : decode prog_4_method_3_code 18 = .ok (.iconst 1, 1) := by decide +kernel
theorem d4_19 : decode prog_4_method_3_code 19 = .ok (.goto 4, 3) := by decide +kernel
theorem d4_22 : decode prog_4_method_3_code 22 = .ok (.iconst 0, 1) := by decide +kernel
theorem d4_23 : decode prog_4_method_3_code 23 = .ok (.ireturn, 1) := by decide +kernel
set_option maxRecDepth 65536 in
set_option maxHeartbeats 4000000 in
theorem c_is (l : Launch) (Z : State) (a0 : Array Value) (hw : ∀ d ∈ tables_1, d.before a0 Z = true) (h0 : Heap) (z : Int32) (fm : Value) (S : Sta Z h0 "java/lang/String" "COMPACT_STRINGS" "Z" (.int z)) (hz : ¬ z = 0) (Sf : Sta Z h0 "jdk/internal/util/Preconditions" "SIOOBE_FORMATTER" "Ljava/util/function/BiFunction;" fm) (hfm : fm.isRef = true) (Sa : Sta Z h0 "java/lang/StringUTF16" "$assertionsDisabled" "Z" (.int 1)) (Sh : Sta Z h0 "java/lang/StringUTF16" "HI_BYTE_SHIFT" "I" (.int 0)) (Sl : Sta Z h0 "java/lang/StringUTF16" "LO_BYTE_SHIFT" "I" (.int 8)) (x t : Addr) (kb : ClassId) (cs : List Int32) (St : own_Tx Z h0 x t kb cs) (hle4 : cs.length ≤ 4) (hr : ∀ c ∈ cs, own_ok c) : Ow.Pay l Z (⟨"com/example/eunomia/eunomia/builtin/UrlText", "isScheme", "(Ljava/lang/String;)Z"⟩ : MethodName) prog_4_method_3_code 1 (some .boolean) ({ frames := 6, cells := 0, slots := 0, locals := 86 } : Room) #[(.ref x)] h0 (fun v h L => v = some (.int (own_is cs)) ∧ h = h0 ∧ L = []) := by
  refine Ow.Pay.of (Ls := #[.val (.ref x)]) (plainFor_of_name pn5) (fun m => by first | rfl | (simp [entryFrame, mkF, argsToLocals, Value.category]; done)) ?_
  intro p e s m below meth c T hx hby hml hown hnm hme hZ hret hlk X eT
  by_cases hcl : cs.length = 0
  · refine Ow.aloadN X hx (pc := 0) (hb hby d4_0) rfl rfl ?_
    refine Ow.callVP X hx hZ (c_emp l Z a0 hw h0 x t kb cs St hle4) rfl rfl eT hown (ww hw 32 rfl) (ww hw 33 rfl) (ww hw 35 rfl) (ww hw 34 rfl) (ww hw 8 rfl) (ww hw 36 rfl) (by decide) pd6 (by rw [hml]; rfl) St.1 (argsL := []) rfl rfl rfl (pc := 1) (hb hby d4_1) rfl rfl (by decide) (by decide) ?_   -- java/lang/String.isEmpty:()Z
    intro T X eT
    dsimp only [Option.toList_some, Option.toList_none, List.cons_append, List.nil_append]
    rw [show (if cs.length = 0 then (1 : Int32) else 0) = 1 from if_pos hcl]
    refine Ow.if_ne X hx (pc := 4) (pc' := 22) (hb hby d4_4) (by decide) (by decide) (fun h4 => ?_) (fun q => absurd q (by decide))
    refine Ow.iconst X hx (pc := 22) (0) (hb hby d4_22) (by decide) ?_
    exact Ow.nreturn X hx hlk hret (Or.inl rfl) (hb hby d4_23) ⟨congrArg (fun w => some (Value.int w)) (Eq.symm (show own_is cs = 0 from if_pos hcl)), eT, rfl⟩ (by decide) (by decide)
  · refine Ow.aloadN X hx (pc := 0) (hb hby d4_0) rfl rfl ?_
    refine Ow.callVP X hx hZ (c_emp l Z a0 hw h0 x t kb cs St hle4) rfl rfl eT hown (ww hw 32 rfl) (ww hw 33 rfl) (ww hw 35 rfl) (ww hw 34 rfl) (ww hw 8 rfl) (ww hw 36 rfl) (by decide) pd6 (by rw [hml]; rfl) St.1 (argsL := []) rfl rfl rfl (pc := 1) (hb hby d4_1) rfl rfl (by decide) (by decide) ?_   -- java/lang/String.isEmpty:()Z
    intro T X eT
    dsimp only [Option.toList_some, Option.toList_none, List.cons_append, List.nil_append]
    rw [show (if cs.length = 0 then (1 : Int32) else 0) = 0 from if_neg hcl]
    refine Ow.if_ne X hx (pc := 4) (pc' := 22) (hb hby d4_4) (by decide) (by decide) (fun q => absurd rfl q) (fun h4 => ?_)
    refine Ow.aloadN X hx (pc := 7) (hb hby d4_7) rfl rfl ?_
    refine Ow.callSP X hx hZ (c_sl l Z a0 hw h0 z fm S hz Sf hfm Sa Sh Sl x t kb cs St hle4 hr) rfl rfl eT hown (ww hw 51 rfl) (ww hw 52 rfl) (ww hw 30 rfl) (ww hw 53 rfl) (by decide) pd14 (by rw [hml]; rfl) (argsL := [_]) rfl rfl rfl (pc := 8) (hb hby d4_8) rfl rfl (by decide) (by decide) ?_   -- com/example/eunomia/eunomia/builtin/UrlText.schemeLength:(Ljava/lang/CharSequence;)I
    intro T X eT
    dsimp only [Option.toList_some, Option.toList_none, List.cons_append, List.nil_append]
    refine Ow.aloadN X hx (pc := 11) (hb hby d4_11) rfl rfl ?_
    refine Ow.callVP X hx hZ (c_len l Z a0 hw h0 z S hz x t kb cs St hle4) rfl rfl eT hown (ww hw 96 rfl) (ww hw 97 rfl) (ww hw 98 rfl) (ww hw 58 rfl) (ww hw 8 rfl) (ww hw 62 rfl) (by decide) pd11 (by rw [hml]; rfl) St.1 (argsL := []) rfl rfl rfl (pc := 12) (hb hby d4_12) rfl rfl (by decide) (by decide) ?_   -- java/lang/String.length:()I
    intro T X eT
    dsimp only [Option.toList_some, Option.toList_none, List.cons_append, List.nil_append]
    refine Ow.icmp_ne X hx (pc := 15) (pc' := 22) (hb hby d4_15) (by decide) (by decide) (fun h15 => ?_) (fun h15 => ?_)
    · refine Ow.iconst X hx (pc := 22) (0) (hb hby d4_22) (by decide) ?_
      exact Ow.nreturn X hx hlk hret (Or.inl rfl) (hb hby d4_23) ⟨congrArg (fun w => some (Value.int w)) (Eq.symm (show own_is cs = 0 from (if_neg hcl).trans (if_neg (fun r => h15 (congrArg Int32.ofNat r))))), eT, rfl⟩ (by decide) (by decide)
    · refine Ow.iconst X hx (pc := 18) (1) (hb hby d4_18) (by decide) ?_
      refine Ow.goto X hx (pc := 19) (pc' := 23) (hb hby d4_19) (by decide) (by decide) ?_
      exact Ow.nreturn X hx hlk hret (Or.inl rfl) (hb hby d4_23) ⟨congrArg (fun w => some (Value.int w)) (Eq.symm (show own_is cs = 1 from (if_neg hcl).trans (if_pos ((Ow.n_eq (by have := own_sl_le cs cs.length 0; omega) (by omega)).mp h15)))), eT, rfl⟩ (by decide) (by decide)
theorem d7_0 : decode jdk_52_method_21_code 0 = .ok (.iconst 0, 1) := by decide +kernel
theorem d7_1 : decode jdk_52_method_21_code 1 = .ok (.istore 5, 2) := by decide +kernel
theorem d7_3 : decode jdk_52_method_21_code 3 = .ok (.iload 5, 2) := by decide +kernel
theorem d7_5 : decode jdk_52_method_21_code 5 = .ok (.iload 4, 2) := by decide +kernel
theorem d7_7 : decode jdk_52_method_21_code 7 = .ok (.if_icmp .ge 37, 3) := by decide +kernel
theorem d7_10 : decode jdk_52_method_21_code 10 = .ok (.aload_n 0, 1) := by decide +kernel
theorem d7_11 : decode jdk_52_method_21_code 11 = .ok (.iload_n 1, 1) := by decide +kernel
theorem d7_12 : decode jdk_52_method_21_code 12 = .ok (.caload, 1) := by decide +kernel
theorem d7_13 : decode jdk_52_method_21_code 13 = .ok (.istore 6, 2) := by decide +kernel
theorem d7_15 : decode jdk_52_method_21_code 15 = .ok (.iload 6, 2) := by decide +kernel
theorem d7_17 : decode jdk_52_method_21_code 17 = .ok (.sipush 255, 3) := by decide +kernel
theorem d7_20 : decode jdk_52_method_21_code 20 = .ok (.if_icmp .le 6, 3) := by decide +kernel
theorem d7_23 : decode jdk_52_method_21_code 23 = .ok (.iload 5, 2) := by decide +kernel
theorem d7_25 : decode jdk_52_method_21_code 25 = .ok (.ireturn, 1) := by decide +kernel
theorem d7_26 : decode jdk_52_method_21_code 26 = .ok (.aload_n 2, 1) := by decide +kernel
theorem d7_27 : decode jdk_52_method_21_code 27 = .ok (.iload_n 3, 1) := by decide +kernel
theorem d7_28 : decode jdk_52_method_21_code 28 = .ok (.iload 6, 2) := by decide +kernel
theorem d7_30 : decode jdk_52_method_21_code 30 = .ok (.i2b, 1) := by decide +kernel
theorem d7_31 : decode jdk_52_method_21_code 31 = .ok (.bastore, 1) := by decide +kernel
theorem d7_32 : decode jdk_52_method_21_code 32 = .ok (.iinc 1 1, 3) := by decide +kernel
theorem d7_35 : decode jdk_52_method_21_code 35 = .ok (.iinc 3 1, 3) := by decide +kernel
theorem d7_38 : decode jdk_52_method_21_code 38 = .ok (.iinc 5 1, 3) := by decide +kernel
theorem d7_41 : decode jdk_52_method_21_code 41 = .ok (.goto (-38), 3) := by decide +kernel
theorem d7_44 : decode jdk_52_method_21_code 44 = .ok (.iload 4, 2) := by decide +kernel
theorem d7_46 : decode jdk_52_method_21_code 46 = .ok (.ireturn, 1) := by decide +kernel
set_option maxRecDepth 65536 in
set_option maxHeartbeats 4000000 in
theorem c_comp5 (l : Launch) (Z : State) (a0 : Array Value) (hw : ∀ d ∈ tables_1, d.before a0 Z = true) (h0 : Heap) (cA d : Addr) (kc kd : ClassId) (cs : List Int32) (vs : List Value) (hne : cA ≠ d) (A : Ow.AL Z h0 cA kc .char (cs.map Value.int)) (B : Ow.AL Z h0 d kd .byte vs) (hvl : vs.length = cs.length) (hle4 : cs.length ≤ 4) (hex : ∃ j, j < cs.length ∧ 255 < cs.getD j 0) : Ow.Pay l Z (⟨"java/lang/StringUTF16", "compress", "([CI[BII)I"⟩ : MethodName) jdk_52_method_21_code 7 (some .int) ({ frames := 0, cells := 0, slots := 0, locals := 0 } : Room) #[(.ref cA), (.int 0), (.ref d), (.int 0), (.int (Int32.ofNat cs.length))] h0 (fun v h L => ∃ j, j < cs.length ∧ 255 < cs.getD j 0 ∧ v = some (.int (Int32.ofNat j)) ∧ Ow.Eff h0 h [d] L) := by
  refine Ow.Pay.of (Ls := #[.val (.ref cA), .val (.int 0), .val (.ref d), .val (.int 0), .val (.int (Int32.ofNat cs.length)), .unset, .unset]) (plainFor_of_name pn3) (fun m => by first | rfl | (simp [entryFrame, mkF, argsToLocals, Value.category]; done)) ?_
  intro p e s m below meth c T hx hby hml hown hnm hme hZ hret hlk X eT
  have lp : ∀ (f i : Nat), i + f = cs.length → (∃ j, i ≤ j ∧ j < cs.length ∧ 255 < cs.getD j 0) → ∀ (z6 : Slot), (z6 = .unset ∨ ∃ v6 : Int32, z6 = .val (.int v6)) → ∀ (T : State) (h : Heap) (L : List Loc) (vs : List Value), Stand p l e ({ frames := 0, cells := 0, slots := 0, locals := 0 } : Room) s m #[(.ref cA), (.int 0), (.ref d), (.int 0), (.int (Int32.ofNat cs.length))] below meth c T L 0 0 → T.heap = h → Ow.AL Z h cA kc .char (cs.map Value.int) → Ow.AL Z h d kd .byte vs → vs.length = cs.length → Ow.Eff h0 h [d] L → Go p.tables e below (Ow.EndN s (fun v h L => ∃ j, j < cs.length ∧ 255 < cs.getD j 0 ∧ v = some (.int (Int32.ofNat j)) ∧ Ow.Eff h0 h [d] L) 0 0) (T.setTop (mkF m 3 #[.val (.ref cA), .val (.int (Int32.ofNat i)), .val (.ref d), .val (.int (Int32.ofNat i)), .val (.int (Int32.ofNat cs.length)), .val (.int (Int32.ofNat i)), z6] [])) := by
    intro f
    induction f with
    | zero =>
      intro i hi hex
      obtain ⟨j, h1, h2, -⟩ := hex
      exact absurd h2 (by omega)
    | succ f ih =>
      intro i hi hex z6 hz6 T h L vs X eT A B hvl F
      have hi2 : i < cs.length := by omega
      have hg : (cs.map Value.int)[i]? = some (.int (cs.getD i 0)) := by simp [hi2]
      refine Ow.iload X hx (pc := 3) (hb hby d7_3) rfl ?_
      refine Ow.iload X hx (pc := 5) (hb hby d7_5) rfl ?_
      refine Ow.icmp_ge X hx (pc := 7) (pc' := 44) (hb hby d7_7) (by decide) (by decide) (fun q => absurd ((Ow.n_lt (by omega) (by omega)).mpr hi2) q) (fun h7 => ?_)
      refine Ow.aloadN X hx (pc := 10) (hb hby d7_10) rfl rfl ?_
      refine Ow.iloadN X hx (pc := 11) (hb hby d7_11) rfl ?_
      refine Ow.caloadL X hx hZ eT A i (.int (cs.getD i 0)) (Ow.n_nn (by omega)) (Ow.n_cl (by omega)) hg (pc := 12) (hb hby d7_12) ?_
      refine Ow.istore X hx (pc := 13) #[.val (.ref cA), .val (.int (Int32.ofNat i)), .val (.ref d), .val (.int (Int32.ofNat i)), .val (.int (Int32.ofNat cs.length)), .val (.int (Int32.ofNat i)), .val (.int (cs.getD i 0))] (hb hby d7_13) (by rcases hz6 with rfl | ⟨v6, rfl⟩ <;> rfl) ?_
      refine Ow.iload X hx (pc := 15) (hb hby d7_15) rfl ?_
      refine Ow.sipush X hx (pc := 17) (255) (hb hby d7_17) (by decide) ?_
      refine Ow.icmp_le X hx (pc := 20) (pc' := 26) (hb hby d7_20) (by decide) (by decide) (fun h20 => ?_) (fun h20 => ?_)
      · refine Ow.aloadN X hx (pc := 26) (hb hby d7_26) rfl rfl ?_
        refine Ow.iloadN X hx (pc := 27) (hb hby d7_27) rfl ?_
        refine Ow.iload X hx (pc := 28) (hb hby d7_28) rfl ?_
        refine Ow.i2b X hx (pc := 30) (hb hby d7_30) ?_
        refine Ow.bastoreL X hx hZ eT B i _ (Ow.n_nn (by omega)) (Ow.n_cl (by omega)) (by simp only [Nat.blt_eq]; omega) rfl (pc := 31) (hb hby d7_31) ?_
        intro T h2 X eT W B
        have A := A.other W hne
        have F := F.wr W (Or.inl (by simp))
        refine Ow.iinc X hx (pc := 32) (1) #[_, _, _, _, _, _, _] (hb hby d7_32) (by decide) rfl rfl ?_
        refine Ow.iinc X hx (pc := 35) (1) #[_, _, _, _, _, _, _] (hb hby d7_35) (by decide) rfl rfl ?_
        refine Ow.iinc X hx (pc := 38) 1 #[_, _, _, _, _, _, _] (hb hby d7_38) (by decide) rfl rfl ?_
        rw [Ow.n_one]
        refine Ow.goto X hx (pc := 41) (pc' := 3) (hb hby d7_41) (by decide) (by decide) ?_
        obtain ⟨j, h1, hj2, hj3⟩ := hex
        have hij : i ≠ j := fun r => h20 (by rw [r]; exact hj3)
        exact ih (i + 1) (by omega) ⟨j, by omega, hj2, hj3⟩ _ (Or.inr ⟨_, rfl⟩) T h2 _ _ X eT A B (by rw [List.length_set]; exact hvl) F
      · refine Ow.iload X hx (pc := 23) (hb hby d7_23) rfl ?_
        exact Ow.ireturn X hx hlk hret (hb hby d7_25) ⟨i, hi2, h20, rfl, by rw [eT]; exact F⟩ (by decide) (by decide)
  refine Ow.iconst X hx (pc := 0) (0) (hb hby d7_0) (by decide) ?_
  refine Ow.istore X hx (pc := 1) #[_, _, _, _, _, _, _] (hb hby d7_1) rfl ?_
  obtain ⟨j, hj1, hj2⟩ := hex
  exact lp cs.length 0 (by omega) ⟨j, Nat.zero_le _, hj1, hj2⟩ _ (Or.inl rfl) T h0 [] vs X eT A B hvl (Ow.Eff.refl h0 _)
theorem d21_0 : decode jdk_52_method_3_code 0 = .ok (.iload_n 0, 1) := by decide +kernel
theorem d21_1 : decode jdk_52_method_3_code 1 = .ok (.ifCond .ge 11, 3) := by decide +kernel
theorem d21_4 : decode jdk_52_method_3_code 4 = .ok (.new 17, 3) := by decide +kernel
theorem d21_7 : decode jdk_52_method_3_code 7 = .ok (.dup, 1) := by decide +kernel
theorem d21_8 : decode jdk_52_method_3_code 8 = .ok (.invokespecial 19, 3) := by decide +kernel
theorem d21_11 : decode jdk_52_method_3_code 11 = .ok (.athrow, 1) := by decide +kernel
theorem d21_12 : decode jdk_52_method_3_code 12 = .ok (.iload_n 0, 1) := by decide +kernel
theorem d21_13 : decode jdk_52_method_3_code 13 = .ok (.ldc 20, 2) := by decide +kernel
theorem d21_15 : decode jdk_52_method_3_code 15 = .ok (.if_icmp .lt 40, 3) := by decide +kernel
theorem d21_18 : decode jdk_52_method_3_code 18 = .ok (.new 21, 3) := by decide +kernel
theorem d21_21 : decode jdk_52_method_3_code 21 = .ok (.dup, 1) := by decide +kernel
theorem d21_22 : decode jdk_52_method_3_code 22 = .ok (.new 23, 3) := by decide +kernel
theorem d21_25 : decode jdk_52_method_3_code 25 = .ok (.dup, 1) := by decide +kernel
theorem d21_26 : decode jdk_52_method_3_code 26 = .ok (.invokespecial 25, 3) := by decide +kernel
theorem d21_29 : decode jdk_52_method_3_code 29 = .ok (.ldc 26, 2) := by decide +kernel
theorem d21_31 : decode jdk_52_method_3_code 31 = .ok (.invokevirtual 28, 3) := by decide +kernel
theorem d21_34 : decode jdk_52_method_3_code 34 = .ok (.iload_n 0, 1) := by decide +kernel
theorem d21_35 : decode jdk_52_method_3_code 35 = .ok (.invokevirtual 32, 3) := by decide +kernel
theorem d21_38 : decode jdk_52_method_3_code 38 = .ok (.ldc 35, 2) := by decide +kernel
theorem d21_40 : decode jdk_52_method_3_code 40 = .ok (.invokevirtual 28, 3) := by decide +kernel
theorem d21_43 : decode jdk_52_method_3_code 43 = .ok (.ldc 20, 2) := by decide +kernel
theorem d21_45 : decode jdk_52_method_3_code 45 = .ok (.invokevirtual 32, 3) := by decide +kernel
theorem d21_48 : decode jdk_52_method_3_code 48 = .ok (.invokevirtual 37, 3) := by decide +kernel
theorem d21_51 : decode jdk_52_method_3_code 51 = .ok (.invokespecial 41, 3) := by decide +kernel
theorem d21_54 : decode jdk_52_method_3_code 54 = .ok (.athrow, 1) := by decide +kernel
theorem d21_55 : decode jdk_52_method_3_code 55 = .ok (.iload_n 0, 1) := by decide +kernel
theorem d21_56 : decode jdk_52_method_3_code 56 = .ok (.iconst 1, 1) := by decide +kernel
theorem d21_57 : decode jdk_52_method_3_code 57 = .ok (.ishl, 1) := by decide +kernel
theorem d21_58 : decode jdk_52_method_3_code 58 = .ok (.ireturn, 1) := by decide +kernel
theorem d20_0 : decode jdk_52_method_2_code 0 = .ok (.iload_n 0, 1) := by decide +kernel
theorem d20_1 : decode jdk_52_method_2_code 1 = .ok (.invokestatic 11, 3) := by decide +kernel
theorem d20_4 : decode jdk_52_method_2_code 4 = .ok (.newarray .byte, 2) := by decide +kernel
theorem d20_6 : decode jdk_52_method_2_code 6 = .ok (.areturn, 1) := by decide +kernel
theorem d19_0 : decode jdk_52_method_14_code 0 = .ok (.iload_n 2, 1) := by decide +kernel
theorem d19_1 : decode jdk_52_method_14_code 1 = .ok (.invokestatic 107, 3) := by decide +kernel
theorem d19_4 : decode jdk_52_method_14_code 4 = .ok (.astore_n 3, 1) := by decide +kernel
theorem d19_5 : decode jdk_52_method_14_code 5 = .ok (.iconst 0, 1) := by decide +kernel
theorem d19_6 : decode jdk_52_method_14_code 6 = .ok (.istore 4, 2) := by decide +kernel
theorem d19_8 : decode jdk_52_method_14_code 8 = .ok (.iload 4, 2) := by decide +kernel
theorem d19_10 : decode jdk_52_method_14_code 10 = .ok (.iload_n 2, 1) := by decide +kernel
theorem d19_11 : decode jdk_52_method_14_code 11 = .ok (.if_icmp .ge 21, 3) := by decide +kernel
theorem d19_14 : decode jdk_52_method_14_code 14 = .ok (.aload_n 3, 1) := by decide +kernel
theorem d19_15 : decode jdk_52_method_14_code 15 = .ok (.iload 4, 2) := by decide +kernel
theorem d19_17 : decode jdk_52_method_14_code 17 = .ok (.aload_n 0, 1) := by decide +kernel
theorem d19_18 : decode jdk_52_method_14_code 18 = .ok (.iload_n 1, 1) := by decide +kernel
theorem d19_19 : decode jdk_52_method_14_code 19 = .ok (.caload, 1) := by decide +kernel
theorem d19_20 : decode jdk_52_method_14_code 20 = .ok (.invokestatic 111, 3) := by decide +kernel
theorem d19_23 : decode jdk_52_method_14_code 23 = .ok (.iinc 1 1, 3) := by decide +kernel
theorem d19_26 : decode jdk_52_method_14_code 26 = .ok (.iinc 4 1, 3) := by decide +kernel
theorem d19_29 : decode jdk_52_method_14_code 29 = .ok (.goto (-21), 3) := by decide +kernel
theorem d19_32 : decode jdk_52_method_14_code 32 = .ok (.aload_n 3, 1) := by decide +kernel
theorem d19_33 : decode jdk_52_method_14_code 33 = .ok (.areturn, 1) := by decide +kernel
theorem d6_0 : decode jdk_52_method_16_code 0 = .ok (.iload_n 2, 1) := by decide +kernel
theorem d6_1 : decode jdk_52_method_16_code 1 = .ok (.newarray .byte, 2) := by decide +kernel
theorem d6_3 : decode jdk_52_method_16_code 3 = .ok (.astore_n 3, 1) := by decide +kernel
theorem d6_4 : decode jdk_52_method_16_code 4 = .ok (.aload_n 0, 1) := by decide +kernel
theorem d6_5 : decode jdk_52_method_16_code 5 = .ok (.iload_n 1, 1) := by decide +kernel
theorem d6_6 : decode jdk_52_method_16_code 6 = .ok (.aload_n 3, 1) := by decide +kernel
theorem d6_7 : decode jdk_52_method_16_code 7 = .ok (.iconst 0, 1) := by decide +kernel
theorem d6_8 : decode jdk_52_method_16_code 8 = .ok (.iload_n 2, 1) := by decide +kernel
theorem d6_9 : decode jdk_52_method_16_code 9 = .ok (.invokestatic 115, 3) := by decide +kernel
theorem d6_12 : decode jdk_52_method_16_code 12 = .ok (.istore 4, 2) := by decide +kernel
theorem d6_14 : decode jdk_52_method_16_code 14 = .ok (.iload 4, 2) := by decide +kernel
theorem d6_16 : decode jdk_52_method_16_code 16 = .ok (.iload_n 2, 1) := by decide +kernel
theorem d6_17 : decode jdk_52_method_16_code 17 = .ok (.if_icmp .eq 40, 3) := by decide +kernel
theorem d6_20 : decode jdk_52_method_16_code 20 = .ok (.aload_n 0, 1) := by decide +kernel
theorem d6_21 : decode jdk_52_method_16_code 21 = .ok (.iload_n 1, 1) := by decide +kernel
theorem d6_22 : decode jdk_52_method_16_code 22 = .ok (.iload_n 2, 1) := by decide +kernel
theorem d6_23 : decode jdk_52_method_16_code 23 = .ok (.invokestatic 119, 3) := by decide +kernel
theorem d6_26 : decode jdk_52_method_16_code 26 = .ok (.astore 5, 2) := by decide +kernel
theorem d6_28 : decode jdk_52_method_16_code 28 = .ok (.aload 5, 2) := by decide +kernel
theorem d6_30 : decode jdk_52_method_16_code 30 = .ok (.iload 4, 2) := by decide +kernel
theorem d6_32 : decode jdk_52_method_16_code 32 = .ok (.invokestatic 71, 3) := by decide +kernel
theorem d6_35 : decode jdk_52_method_16_code 35 = .ok (.sipush 255, 3) := by decide +kernel
theorem d6_38 : decode jdk_52_method_16_code 38 = .ok (.if_icmp .gt 16, 3) := by decide +kernel
theorem d6_41 : decode jdk_52_method_16_code 41 = .ok (.aload 5, 2) := by decide +kernel
theorem d6_43 : decode jdk_52_method_16_code 43 = .ok (.iconst 0, 1) := by decide +kernel
theorem d6_44 : decode jdk_52_method_16_code 44 = .ok (.aload_n 3, 1) := by decide +kernel
theorem d6_45 : decode jdk_52_method_16_code 45 = .ok (.iconst 0, 1) := by decide +kernel
theorem d6_46 : decode jdk_52_method_16_code 46 = .ok (.iload_n 2, 1) := by decide +kernel
theorem d6_47 : decode jdk_52_method_16_code 47 = .ok (.invokestatic 123, 3) := by decide +kernel
theorem d6_50 : decode jdk_52_method_16_code 50 = .ok (.iload_n 2, 1) := by decide +kernel
theorem d6_51 : decode jdk_52_method_16_code 51 = .ok (.if_icmp .eq 6, 3) := by decide +kernel
theorem d6_54 : decode jdk_52_method_16_code 54 = .ok (.aload 5, 2) := by decide +kernel
theorem d6_56 : decode jdk_52_method_16_code 56 = .ok (.areturn, 1) := by decide +kernel
theorem d6_57 : decode jdk_52_method_16_code 57 = .ok (.aload_n 3, 1) := by decide +kernel
theorem d6_58 : decode jdk_52_method_16_code 58 = .ok (.areturn, 1) := by decide +kernel
theorem d8_0 : decode jdk_52_method_15_code 0 = .ok (.iload_n 1, 1) := by decide +kernel
theorem d8_1 : decode jdk_52_method_15_code 1 = .ok (.aload_n 0, 1) := by decide +kernel
theorem d8_2 : decode jdk_52_method_15_code 2 = .ok (.arraylength, 1) := by decide +kernel
theorem d8_3 : decode jdk_52_method_15_code 3 = .ok (.isub, 1) := by decide +kernel
theorem d8_4 : decode jdk_52_method_15_code 4 = .ok (.bipush 31, 2) := by decide +kernel
theorem d8_6 : decode jdk_52_method_15_code 6 = .ok (.iushr, 1) := by decide +kernel
theorem d8_7 : decode jdk_52_method_15_code 7 = .ok (.i2b, 1) := by decide +kernel
theorem d8_8 : decode jdk_52_method_15_code 8 = .ok (.ireturn, 1) := by decide +kernel
theorem d0_0 : decode method_4_code 0 = .ok (.iload_n 0, 1) := by decide +kernel
theorem d0_1 : decode method_4_code 1 = .ok (.ifCond .ne 14, 3) := by decide +kernel
theorem d0_4 : decode method_4_code 4 = .ok (.new 13, 3) := by decide +kernel
theorem d0_7 : decode method_4_code 7 = .ok (.dup, 1) := by decide +kernel
theorem d0_8 : decode method_4_code 8 = .ok (.iconst 0, 1) := by decide +kernel
theorem d0_9 : decode method_4_code 9 = .ok (.newarray .char, 2) := by decide +kernel
theorem d0_11 : decode method_4_code 11 = .ok (.invokespecial 15, 3) := by decide +kernel
theorem d0_14 : decode method_4_code 14 = .ok (.areturn, 1) := by decide +kernel
theorem d0_15 : decode method_4_code 15 = .ok (.iload_n 0, 1) := by decide +kernel
theorem d0_16 : decode method_4_code 16 = .ok (.iconst 1, 1) := by decide +kernel
theorem d0_17 : decode method_4_code 17 = .ok (.if_icmp .ne 23, 3) := by decide +kernel
theorem d0_20 : decode method_4_code 20 = .ok (.iconst 1, 1) := by decide +kernel
theorem d0_21 : decode method_4_code 21 = .ok (.newarray .char, 2) := by decide +kernel
theorem d0_23 : decode method_4_code 23 = .ok (.astore 5, 2) := by decide +kernel
theorem d0_25 : decode method_4_code 25 = .ok (.aload 5, 2) := by decide +kernel
theorem d0_27 : decode method_4_code 27 = .ok (.iconst 0, 1) := by decide +kernel
theorem d0_28 : decode method_4_code 28 = .ok (.iload_n 1, 1) := by decide +kernel
theorem d0_29 : decode method_4_code 29 = .ok (.castore, 1) := by decide +kernel
theorem d0_30 : decode method_4_code 30 = .ok (.new 13, 3) := by decide +kernel
theorem d0_33 : decode method_4_code 33 = .ok (.dup, 1) := by decide +kernel
theorem d0_34 : decode method_4_code 34 = .ok (.aload 5, 2) := by decide +kernel
theorem d0_36 : decode method_4_code 36 = .ok (.invokespecial 15, 3) := by decide +kernel
theorem d0_39 : decode method_4_code 39 = .ok (.areturn, 1) := by decide +kernel
theorem d0_40 : decode method_4_code 40 = .ok (.iload_n 0, 1) := by decide +kernel
theorem d0_41 : decode method_4_code 41 = .ok (.iconst 2, 1) := by decide +kernel
theorem d0_42 : decode method_4_code 42 = .ok (.if_icmp .ne 28, 3) := by decide +kernel
theorem d0_45 : decode method_4_code 45 = .ok (.iconst 2, 1) := by decide +kernel
theorem d0_46 : decode method_4_code 46 = .ok (.newarray .char, 2) := by decide +kernel
theorem d0_48 : decode method_4_code 48 = .ok (.astore 5, 2) := by decide +kernel
theorem d0_50 : decode method_4_code 50 = .ok (.aload 5, 2) := by decide +kernel
theorem d0_52 : decode method_4_code 52 = .ok (.iconst 0, 1) := by decide +kernel
theorem d0_53 : decode method_4_code 53 = .ok (.iload_n 1, 1) := by decide +kernel
theorem d0_54 : decode method_4_code 54 = .ok (.castore, 1) := by decide +kernel
theorem d0_55 : decode method_4_code 55 = .ok (.aload 5, 2) := by decide +kernel
theorem d0_57 : decode method_4_code 57 = .ok (.iconst 1, 1) := by decide +kernel
theorem d0_58 : decode method_4_code 58 = .ok (.iload_n 2, 1) := by decide +kernel
theorem d0_59 : decode method_4_code 59 = .ok (.castore, 1) := by decide +kernel
theorem d0_60 : decode method_4_code 60 = .ok (.new 13, 3) := by decide +kernel
theorem d0_63 : decode method_4_code 63 = .ok (.dup, 1) := by decide +kernel
theorem d0_64 : decode method_4_code 64 = .ok (.aload 5, 2) := by decide +kernel
theorem d0_66 : decode method_4_code 66 = .ok (.invokespecial 15, 3) := by decide +kernel
theorem d0_69 : decode method_4_code 69 = .ok (.areturn, 1) := by decide +kernel
theorem d0_70 : decode method_4_code 70 = .ok (.iload_n 0, 1) := by decide +kernel
theorem d0_71 : decode method_4_code 71 = .ok (.iconst 3, 1) := by decide +kernel
theorem d0_72 : decode method_4_code 72 = .ok (.if_icmp .ne 33, 3) := by decide +kernel
theorem d0_75 : decode method_4_code 75 = .ok (.iconst 3, 1) := by decide +kernel
theorem d0_76 : decode method_4_code 76 = .ok (.newarray .char, 2) := by decide +kernel
theorem d0_78 : decode method_4_code 78 = .ok (.astore 5, 2) := by decide +kernel
theorem d0_80 : decode method_4_code 80 = .ok (.aload 5, 2) := by decide +kernel
theorem d0_82 : decode method_4_code 82 = .ok (.iconst 0, 1) := by decide +kernel
theorem d0_83 : decode method_4_code 83 = .ok (.iload_n 1, 1) := by decide +kernel
theorem d0_84 : decode method_4_code 84 = .ok (.castore, 1) := by decide +kernel
theorem d0_85 : decode method_4_code 85 = .ok (.aload 5, 2) := by decide +kernel
theorem d0_87 : decode method_4_code 87 = .ok (.iconst 1, 1) := by decide +kernel
theorem d0_88 : decode method_4_code 88 = .ok (.iload_n 2, 1) := by decide +kernel
theorem d0_89 : decode method_4_code 89 = .ok (.castore, 1) := by decide +kernel
theorem d0_90 : decode method_4_code 90 = .ok (.aload 5, 2) := by decide +kernel
theorem d0_92 : decode method_4_code 92 = .ok (.iconst 2, 1) := by decide +kernel
theorem d0_93 : decode method_4_code 93 = .ok (.iload_n 3, 1) := by decide +kernel
theorem d0_94 : decode method_4_code 94 = .ok (.castore, 1) := by decide +kernel
theorem d0_95 : decode method_4_code 95 = .ok (.new 13, 3) := by decide +kernel
theorem d0_98 : decode method_4_code 98 = .ok (.dup, 1) := by decide +kernel
theorem d0_99 : decode method_4_code 99 = .ok (.aload 5, 2) := by decide +kernel
theorem d0_101 : decode method_4_code 101 = .ok (.invokespecial 15, 3) := by decide +kernel
theorem d0_104 : decode method_4_code 104 = .ok (.areturn, 1) := by decide +kernel
theorem d0_105 : decode method_4_code 105 = .ok (.iconst 4, 1) := by decide +kernel
theorem d0_106 : decode method_4_code 106 = .ok (.newarray .char, 2) := by decide +kernel
theorem d0_108 : decode method_4_code 108 = .ok (.astore 5, 2) := by decide +kernel
theorem d0_110 : decode method_4_code 110 = .ok (.aload 5, 2) := by decide +kernel
theorem d0_112 : decode method_4_code 112 = .ok (.iconst 0, 1) := by decide +kernel
theorem d0_113 : decode method_4_code 113 = .ok (.iload_n 1, 1) := by decide +kernel
theorem d0_114 : decode method_4_code 114 = .ok (.castore, 1) := by decide +kernel
theorem d0_115 : decode method_4_code 115 = .ok (.aload 5, 2) := by decide +kernel
theorem d0_117 : decode method_4_code 117 = .ok (.iconst 1, 1) := by decide +kernel
theorem d0_118 : decode method_4_code 118 = .ok (.iload_n 2, 1) := by decide +kernel
theorem d0_119 : decode method_4_code 119 = .ok (.castore, 1) := by decide +kernel
theorem d0_120 : decode method_4_code 120 = .ok (.aload 5, 2) := by decide +kernel
theorem d0_122 : decode method_4_code 122 = .ok (.iconst 2, 1) := by decide +kernel
theorem d0_123 : decode method_4_code 123 = .ok (.iload_n 3, 1) := by decide +kernel
theorem d0_124 : decode method_4_code 124 = .ok (.castore, 1) := by decide +kernel
theorem d0_125 : decode method_4_code 125 = .ok (.aload 5, 2) := by decide +kernel
theorem d0_127 : decode method_4_code 127 = .ok (.iconst 3, 1) := by decide +kernel
theorem d0_128 : decode method_4_code 128 = .ok (.iload 4, 2) := by decide +kernel
theorem d0_130 : decode method_4_code 130 = .ok (.castore, 1) := by decide +kernel
theorem d0_131 : decode method_4_code 131 = .ok (.new 13, 3) := by decide +kernel
theorem d0_134 : decode method_4_code 134 = .ok (.dup, 1) := by decide +kernel
theorem d0_135 : decode method_4_code 135 = .ok (.aload 5, 2) := by decide +kernel
theorem d0_137 : decode method_4_code 137 = .ok (.invokespecial 15, 3) := by decide +kernel
theorem d0_140 : decode method_4_code 140 = .ok (.areturn, 1) := by decide +kernel
set_option maxRecDepth 65536 in
set_option maxHeartbeats 4000000 in
theorem c_nbl1 (l : Launch) (Z : State) (a0 : Array Value) (hw : ∀ d ∈ tables_1, d.before a0 Z = true) (h0 : Heap) : Ow.Pay l Z (⟨"java/lang/StringUTF16", "newBytesLength", "(I)I"⟩ : MethodName) jdk_52_method_3_code 1 (some .int) ({ frames := 0, cells := 0, slots := 0, locals := 0 } : Room) #[(.int 1)] h0 (fun v h L => v = some (.int (2)) ∧ h = h0 ∧ L = []) := by
  refine Ow.Pay.of (Ls := #[.val (.int 1)]) (plainFor_of_name pn3) (fun m => by first | rfl | (simp [entryFrame, mkF, argsToLocals, Value.category]; done)) ?_
  intro p e s m below meth c T hx hby hml hown hnm hme hZ hret hlk X eT
  refine Ow.iloadN X hx (pc := 0) (hb hby d21_0) rfl ?_
  refine Ow.if_ge X hx (pc := 1) (pc' := 12) (hb hby d21_1) (by decide) (by decide) (fun h1 => ?_) (fun q => absurd q (by decide))
  refine Ow.iloadN X hx (pc := 12) (hb hby d21_12) rfl ?_
  refine Ow.ldcI X hx (pc := 13) (1073741823) (hb hby d21_13) hown (mvT hZ (ww hw 108 rfl)) ?_
  refine Ow.icmp_lt X hx (pc := 15) (pc' := 55) (hb hby d21_15) (by decide) (by decide) (fun h15 => ?_) (fun q => absurd (by decide) q)
  refine Ow.iloadN X hx (pc := 55) (hb hby d21_55) rfl ?_
  refine Ow.iconst X hx (pc := 56) (1) (hb hby d21_56) (by decide) ?_
  refine Ow.ishl X hx (pc := 57) (hb hby d21_57) ?_
  exact Ow.ireturn X hx hlk hret (hb hby d21_58) ⟨congrArg (fun w => some (Value.int w)) (by decide +kernel), eT, rfl⟩ (by decide) (by decide)
set_option maxRecDepth 65536 in
set_option maxHeartbeats 4000000 in
theorem c_nbf1 (l : Launch) (Z : State) (a0 : Array Value) (hw : ∀ d ∈ tables_1, d.before a0 Z = true) (h0 : Heap) : Ow.Pay l Z (⟨"java/lang/StringUTF16", "newBytesFor", "(I)[B"⟩ : MethodName) jdk_52_method_2_code 1 (some (.array .byte)) ({ frames := 1, cells := 1, slots := 8, locals := 12 } : Room) #[(.int 1)] h0 (fun v h L => ∃ tb kt, v = some (.ref tb) ∧ Ow.Eff h0 h [] L ∧ h0.size ≤ tb ∧ Ow.AL Z h tb kt .byte [.int 0, .int 0]) := by
  refine Ow.Pay.of (Ls := #[.val (.int 1)]) (plainFor_of_name pn3) (fun m => by first | rfl | (simp [entryFrame, mkF, argsToLocals, Value.category]; done)) ?_
  intro p e s m below meth c T hx hby hml hown hnm hme hZ hret hlk X eT
  have F := Ow.Eff.refl h0 []
  refine Ow.iloadN X hx (pc := 0) (hb hby d20_0) rfl ?_
  refine Ow.callSP X hx hZ (c_nbl1 l Z a0 hw _) rfl rfl eT hown (ww hw 105 rfl) (ww hw 106 rfl) (ww hw 40 rfl) (ww hw 107 rfl) (by decide) pd15 (by rw [hml]; rfl) (argsL := [_]) rfl rfl rfl (pc := 1) (hb hby d20_1) rfl rfl (by decide) (by decide) ?_   -- java/lang/StringUTF16.newBytesLength:(I)I
  intro T X eT
  dsimp only [Option.toList_some, Option.toList_none, List.cons_append, List.nil_append]
  refine Ow.newarrayL X hx hZ (ww hw 21 rfl) eT 2 (vs := [_, _]) rfl (pc := 4) (hb hby d20_4) (by decide) (by decide) (by decide) (by decide) (by decide) ?_
  intro T h_tb k_tb tb ha_tb X eT E_tb B_tb
  have l_tb : h0.size ≤ tb := by rw [ha_tb]; exact F.size
  have F := F.ext E_tb
  exact Ow.areturn X hx hlk hret rfl rfl rfl (hb hby d20_6) ⟨tb, _, rfl, by rw [eT]; exact F, l_tb, by rw [eT]; exact B_tb⟩ (by decide) (by decide)
set_option maxRecDepth 65536 in
set_option maxHeartbeats 4000000 in
theorem c_tb1 (l : Launch) (Z : State) (a0 : Array Value) (hw : ∀ d ∈ tables_1, d.before a0 Z = true) (h0 : Heap) (Sa : Sta Z h0 "java/lang/StringUTF16" "$assertionsDisabled" "Z" (.int 1)) (Sh : Sta Z h0 "java/lang/StringUTF16" "HI_BYTE_SHIFT" "I" (.int 0)) (Sl : Sta Z h0 "java/lang/StringUTF16" "LO_BYTE_SHIFT" "I" (.int 8)) (cA : Addr) (kc : ClassId) (c0 : Int32) (A : Ow.AL Z h0 cA kc .char [.int c0]) : Ow.Pay l Z (⟨"java/lang/StringUTF16", "toBytes", "([CII)[B"⟩ : MethodName) jdk_52_method_14_code 5 (some (.array .byte)) ({ frames := 2, cells := 1, slots := 8, locals := 24 } : Room) #[(.ref cA), (.int 0), (.int 1)] h0 (fun v h L => ∃ tb kt, v = some (.ref tb) ∧ Ow.Eff h0 h [] L ∧ h0.size ≤ tb ∧ Ow.AL Z h tb kt .byte [.int (StrChars.lo8 c0), .int (StrChars.hi8 c0)]) := by
  refine Ow.Pay.of (Ls := #[.val (.ref cA), .val (.int 0), .val (.int 1), .unset, .unset]) (plainFor_of_name pn3) (fun m => by first | rfl | (simp [entryFrame, mkF, argsToLocals, Value.category]; done)) ?_
  intro p e s m below meth c T hx hby hml hown hnm hme hZ hret hlk X eT
  have F := Ow.Eff.refl h0 []
  refine Ow.iloadN X hx (pc := 0) (hb hby d19_0) rfl ?_
  refine Ow.callS X hx hZ (c_nbf1 l Z a0 hw _) eT hown (ww hw 102 rfl) (ww hw 103 rfl) (ww hw 40 rfl) (ww hw 104 rfl) (by decide) pd16 (by rw [hml]; rfl) (argsL := [_]) rfl rfl rfl (pc := 1) (hb hby d19_1) rfl rfl (by decide) (by decide) ?_
  rintro _ T L X ⟨tb, kt, rfl, F2, l_tb, B_tb⟩
  dsimp only [Option.toList_some, Option.toList_none, List.cons_append, List.nil_append]
  have ne_cA_tb : cA ≠ tb := Nat.ne_of_lt (Nat.lt_of_lt_of_le A.lt l_tb)
  have l_tb := Nat.le_trans F.size l_tb
  have F := F.call F2 (fun _ q => nomatch q)
  have A := A.ext (Ow.Keep.ext0 F2.1)
  have Sa := Sa.ext (Ow.Keep.ext0 F2.1)
  have Sh := Sh.ext (Ow.Keep.ext0 F2.1)
  have Sl := Sl.ext (Ow.Keep.ext0 F2.1)
  obtain ⟨h_1, e_1⟩ : ∃ q, q = T.heap := ⟨_, rfl⟩
  rw [← e_1] at F A Sa Sh Sl B_tb
  have eT : T.heap = h_1 := e_1.symm
  refine Ow.astoreN X hx (pc := 4) #[_, _, _, _, _] (hb hby d19_4) rfl rfl ?_
  refine Ow.iconst X hx (pc := 5) (0) (hb hby d19_5) (by decide) ?_
  refine Ow.istore X hx (pc := 6) #[_, _, _, _, _] (hb hby d19_6) rfl ?_
  refine Ow.iload X hx (pc := 8) (hb hby d19_8) rfl ?_
  refine Ow.iloadN X hx (pc := 10) (hb hby d19_10) rfl ?_
  refine Ow.icmp_ge X hx (pc := 11) (pc' := 32) (hb hby d19_11) (by decide) (by decide) (fun q => absurd (by decide) q) (fun h11 => ?_)
  refine Ow.aloadN X hx (pc := 14) (hb hby d19_14) rfl rfl ?_
  refine Ow.iload X hx (pc := 15) (hb hby d19_15) rfl ?_
  refine Ow.aloadN X hx (pc := 17) (hb hby d19_17) rfl rfl ?_
  refine Ow.iloadN X hx (pc := 18) (hb hby d19_18) rfl ?_
  refine Ow.caloadL X hx hZ eT A 0 (.int c0) (by decide) (by decide) rfl (pc := 19) (hb hby d19_19) ?_
  have P_tb := Ow.AL.plain B_tb
  refine Ow.callS X hx hZ (c_putChar l Z a0 hw _ Sa Sh Sl tb _ _ 0 c0 B_tb (by decide) (by simp)) eT hown (ww hw 109 rfl) (ww hw 110 rfl) (ww hw 40 rfl) (ww hw 111 rfl) (by decide) pd17 (by rw [hml]; rfl) (argsL := [_, _, _]) rfl rfl rfl (pc := 20) (hb hby d19_20) rfl rfl (by decide) (by decide) ?_
  rintro _ T L X ⟨rfl, F2, B_tb⟩
  dsimp only [Option.toList_some, Option.toList_none, List.cons_append, List.nil_append]
  have B_tb : Ow.AL Z _ tb kt .byte [.int (StrChars.lo8 c0), .int (StrChars.hi8 c0)] := B_tb
  have F := F.call F2 (fun y hy => by cases List.mem_singleton.mp hy; exact Or.inr l_tb)
  have A := A.keep F2.1 (Ow.nin1 ne_cA_tb)
  have Sa := Ow.staKeep Sa F2.1 (fun y hy => by cases List.mem_singleton.mp hy; exact P_tb)
  have Sh := Ow.staKeep Sh F2.1 (fun y hy => by cases List.mem_singleton.mp hy; exact P_tb)
  have Sl := Ow.staKeep Sl F2.1 (fun y hy => by cases List.mem_singleton.mp hy; exact P_tb)
  obtain ⟨h_20_0, e_20_0⟩ : ∃ q, q = T.heap := ⟨_, rfl⟩
  rw [← e_20_0] at F A Sa Sh Sl B_tb
  have eT : T.heap = h_20_0 := e_20_0.symm
  refine Ow.iinc X hx (pc := 23) (1) #[_, _, _, _, _] (hb hby d19_23) (by decide) rfl rfl ?_
  refine Ow.iinc X hx (pc := 26) (1) #[_, _, _, _, _] (hb hby d19_26) (by decide) rfl rfl ?_
  rw [show (0 + 1 : Int32) = 1 from by decide]
  refine Ow.goto X hx (pc := 29) (pc' := 8) (hb hby d19_29) (by decide) (by decide) ?_
  refine Ow.iload X hx (pc := 8) (hb hby d19_8) rfl ?_
  refine Ow.iloadN X hx (pc := 10) (hb hby d19_10) rfl ?_
  refine Ow.icmp_ge X hx (pc := 11) (pc' := 32) (hb hby d19_11) (by decide) (by decide) (fun h11 => ?_) (fun q => absurd q (by decide))
  refine Ow.aloadN X hx (pc := 32) (hb hby d19_32) rfl rfl ?_
  exact Ow.areturn X hx hlk hret rfl rfl rfl (hb hby d19_33) ⟨tb, kt, rfl, by rw [eT]; exact F, l_tb, by rw [eT]; exact B_tb⟩ (by decide) (by decide)
set_option maxRecDepth 65536 in
set_option maxHeartbeats 4000000 in
theorem c_comp3_1 (l : Launch) (Z : State) (a0 : Array Value) (hw : ∀ d ∈ tables_1, d.before a0 Z = true) (h0 : Heap) (Sa : Sta Z h0 "java/lang/StringUTF16" "$assertionsDisabled" "Z" (.int 1)) (Sh : Sta Z h0 "java/lang/StringUTF16" "HI_BYTE_SHIFT" "I" (.int 0)) (Sl : Sta Z h0 "java/lang/StringUTF16" "LO_BYTE_SHIFT" "I" (.int 8)) (cA : Addr) (kc : ClassId) (c0 : Int32) (A : Ow.AL Z h0 cA kc .char [.int c0]) (hr : ∀ ch ∈ [c0], own_ok ch) (hex : ∃ j, j < [c0].length ∧ 255 < [c0].getD j 0) : Ow.Pay l Z (⟨"java/lang/StringUTF16", "compress", "([CII)[B"⟩ : MethodName) jdk_52_method_16_code 6 (some (.array .byte)) ({ frames := 3, cells := 2, slots := 12, locals := 40 } : Room) #[(.ref cA), (.int 0), (.int 1)] h0 (fun v h L => ∃ tb kt, v = some (.ref tb) ∧ Ow.Eff h0 h [] L ∧ h0.size ≤ tb ∧ Ow.AL Z h tb kt .byte (own_wb [c0])) := by
  refine Ow.Pay.of (Ls := #[.val (.ref cA), .val (.int 0), .val (.int 1), .unset, .unset, .unset]) (plainFor_of_name pn3) (fun m => by first | rfl | (simp [entryFrame, mkF, argsToLocals, Value.category]; done)) ?_
  intro p e s m below meth c T hx hby hml hown hnm hme hZ hret hlk X eT
  have F := Ow.Eff.refl h0 []
  refine Ow.iloadN X hx (pc := 0) (hb hby d6_0) rfl ?_
  refine Ow.newarrayL X hx hZ (ww hw 21 rfl) eT 1 (vs := [_]) rfl (pc := 1) (hb hby d6_1) (by decide) (by decide) (by decide) (by decide) (by decide) ?_
  intro T h_d k_d d ha_d X eT E_d B_d
  have l_d : h0.size ≤ d := by rw [ha_d]; exact F.size
  have ne_cA_d : cA ≠ d := by rw [ha_d]; exact Nat.ne_of_lt A.lt
  have A := A.ext E_d
  have Sa := Sa.ext E_d
  have Sh := Sh.ext E_d
  have Sl := Sl.ext E_d
  have F := F.ext E_d
  refine Ow.astoreN X hx (pc := 3) #[_, _, _, _, _, _] (hb hby d6_3) rfl rfl ?_
  refine Ow.aloadN X hx (pc := 4) (hb hby d6_4) rfl rfl ?_
  refine Ow.iloadN X hx (pc := 5) (hb hby d6_5) rfl ?_
  refine Ow.aloadN X hx (pc := 6) (hb hby d6_6) rfl rfl ?_
  refine Ow.iconst X hx (pc := 7) (0) (hb hby d6_7) (by decide) ?_
  refine Ow.iloadN X hx (pc := 8) (hb hby d6_8) rfl ?_
  have P_d := Ow.AL.plain B_d
  refine Ow.callS X hx hZ (c_comp5 l Z a0 hw _ cA d _ _ [c0] _ ne_cA_d A B_d rfl (by simp) hex) eT hown (ww hw 42 rfl) (ww hw 43 rfl) (ww hw 40 rfl) (ww hw 44 rfl) (by decide) pd18 (by rw [hml]; rfl) (argsL := [_, _, _, _, _]) rfl rfl rfl (pc := 9) (hb hby d6_9) rfl rfl (by decide) (by decide) ?_
  rintro _ T L X ⟨j, hj, hjc, rfl, F2⟩
  dsimp only [Option.toList_some, Option.toList_none, List.cons_append, List.nil_append]
  have F := F.call F2 (fun y hy => by cases List.mem_singleton.mp hy; exact Or.inr l_d)
  have A := A.keep F2.1 (Ow.nin1 ne_cA_d)
  have Sa := Ow.staKeep Sa F2.1 (fun y hy => by cases List.mem_singleton.mp hy; exact P_d)
  have Sh := Ow.staKeep Sh F2.1 (fun y hy => by cases List.mem_singleton.mp hy; exact P_d)
  have Sl := Ow.staKeep Sl F2.1 (fun y hy => by cases List.mem_singleton.mp hy; exact P_d)
  obtain ⟨h_9, e_9⟩ : ∃ q, q = T.heap := ⟨_, rfl⟩
  rw [← e_9] at F A Sa Sh Sl
  have eT : T.heap = h_9 := e_9.symm
  have hjk : j < 1 := hj
  refine Ow.istore X hx (pc := 12) #[_, _, _, _, _, _] (hb hby d6_12) rfl ?_
  refine Ow.iload X hx (pc := 14) (hb hby d6_14) rfl ?_
  refine Ow.iloadN X hx (pc := 16) (hb hby d6_16) rfl ?_
  refine Ow.icmp_eq X hx (pc := 17) (pc' := 57) (hb hby d6_17) (by decide) (by decide) (fun q => absurd ((Ow.n_eq (n := 1) (by omega) (by omega)).mp q) (by omega)) (fun h17 => ?_)
  refine Ow.aloadN X hx (pc := 20) (hb hby d6_20) rfl rfl ?_
  refine Ow.iloadN X hx (pc := 21) (hb hby d6_21) rfl ?_
  refine Ow.iloadN X hx (pc := 22) (hb hby d6_22) rfl ?_
  refine Ow.callS X hx hZ (c_tb1 l Z a0 hw _ Sa Sh Sl cA _ c0 A) eT hown (ww hw 99 rfl) (ww hw 100 rfl) (ww hw 40 rfl) (ww hw 101 rfl) (by decide) pd19 (by rw [hml]; rfl) (argsL := [_, _, _]) rfl rfl rfl (pc := 23) (hb hby d6_23) rfl rfl (by decide) (by decide) ?_
  rintro _ T L X ⟨tb, kt, rfl, F2, l_tb, B_tb⟩
  dsimp only [Option.toList_some, Option.toList_none, List.cons_append, List.nil_append]
  have ne_cA_tb : cA ≠ tb := Nat.ne_of_lt (Nat.lt_of_lt_of_le A.lt l_tb)
  have l_tb := Nat.le_trans F.size l_tb
  have F := F.call F2 (fun _ q => nomatch q)
  have A := A.ext (Ow.Keep.ext0 F2.1)
  have Sa := Sa.ext (Ow.Keep.ext0 F2.1)
  have Sh := Sh.ext (Ow.Keep.ext0 F2.1)
  have Sl := Sl.ext (Ow.Keep.ext0 F2.1)
  obtain ⟨h_23, e_23⟩ : ∃ q, q = T.heap := ⟨_, rfl⟩
  rw [← e_23] at F A Sa Sh Sl B_tb
  have eT : T.heap = h_23 := e_23.symm
  have B_tb : Ow.AL Z h_23 tb kt .byte (own_wb [c0]) := B_tb
  have hok := own_okD hr hj
  refine Ow.astore X hx (pc := 26) #[_, _, _, _, _, _] (hb hby d6_26) rfl rfl ?_
  refine Ow.aload X hx (pc := 28) (hb hby d6_28) rfl rfl ?_
  refine Ow.iload X hx (pc := 30) (hb hby d6_30) rfl ?_
  refine Ow.callSP X hx hZ (c_getChar l Z a0 hw _ Sa Sh Sl tb kt (own_wb [c0]) j _ _ ([c0].getD j 0) B_tb (by omega) (own_wl [c0] j hj) (own_wh [c0] j hj) (StrChars.pair_says hok.1 hok.2) (own_narc hok)) rfl rfl eT hown (ww hw 115 rfl) (ww hw 116 rfl) (ww hw 40 rfl) (ww hw 117 rfl) (by decide) pd7 (by rw [hml]; rfl) (argsL := [_, _]) rfl rfl rfl (pc := 32) (hb hby d6_32) rfl rfl (by decide) (by decide) ?_   -- java/lang/StringUTF16.getChar:([BI)C
  intro T X eT
  dsimp only [Option.toList_some, Option.toList_none, List.cons_append, List.nil_append]
  refine Ow.sipush X hx (pc := 35) (255) (hb hby d6_35) (by decide) ?_
  refine Ow.icmp_gt X hx (pc := 38) (pc' := 54) (hb hby d6_38) (by decide) (by decide) (fun h38 => ?_) (fun q => absurd hjc q)
  refine Ow.aload X hx (pc := 54) (hb hby d6_54) rfl rfl ?_
  exact Ow.areturn X hx hlk hret rfl rfl rfl (hb hby d6_56) ⟨tb, kt, rfl, by rw [eT]; exact F, l_tb, by rw [eT]; exact B_tb⟩ (by decide) (by decide)
set_option maxRecDepth 65536 in
set_option maxHeartbeats 4000000 in
theorem c_cfal1 (l : Launch) (Z : State) (a0 : Array Value) (hw : ∀ d ∈ tables_1, d.before a0 Z = true) (h0 : Heap) (t : Addr) (kt : ClassId) (c0 : Int32) (A : Ow.AL Z h0 t kt .byte (own_wb [c0])) : Ow.Pay l Z (⟨"java/lang/StringUTF16", "coderFromArrayLen", "([BI)B"⟩ : MethodName) jdk_52_method_15_code 2 (some .byte) ({ frames := 0, cells := 0, slots := 0, locals := 0 } : Room) #[(.ref t), (.int 1)] h0 (fun v h L => v = some (.int (1)) ∧ h = h0 ∧ L = []) := by
  refine Ow.Pay.of (Ls := #[.val (.ref t), .val (.int 1)]) (plainFor_of_name pn3) (fun m => by first | rfl | (simp [entryFrame, mkF, argsToLocals, Value.category]; done)) ?_
  intro p e s m below meth c T hx hby hml hown hnm hme hZ hret hlk X eT
  refine Ow.iloadN X hx (pc := 0) (hb hby d8_0) rfl ?_
  refine Ow.aloadN X hx (pc := 1) (hb hby d8_1) rfl rfl ?_
  refine Ow.lengthL X hx hZ eT A 2 rfl (pc := 2) (hb hby d8_2) ?_
  refine Ow.isub X hx (pc := 3) (hb hby d8_3) ?_
  refine Ow.bipush X hx (pc := 4) (31) (hb hby d8_4) (by decide) ?_
  refine Ow.iushr X hx (pc := 6) (hb hby d8_6) ?_
  refine Ow.i2b X hx (pc := 7) (hb hby d8_7) ?_
  exact Ow.nreturn X hx hlk hret (Or.inr (Or.inl rfl)) (hb hby d8_8) ⟨congrArg (fun w => some (Value.int w)) (by decide +kernel), eT, rfl⟩ (by decide) (by decide)
set_option maxRecDepth 65536 in
set_option maxHeartbeats 4000000 in
theorem c_new4w1 (l : Launch) (Z : State) (a0 : Array Value) (hw : ∀ d ∈ tables_1, d.before a0 Z = true) (h0 : Heap) (z : Int32) (S : Sta Z h0 "java/lang/String" "COMPACT_STRINGS" "Z" (.int z)) (hz : ¬ z = 0) (Sa : Sta Z h0 "java/lang/StringUTF16" "$assertionsDisabled" "Z" (.int 1)) (Sh : Sta Z h0 "java/lang/StringUTF16" "HI_BYTE_SHIFT" "I" (.int 0)) (Sl : Sta Z h0 "java/lang/StringUTF16" "LO_BYTE_SHIFT" "I" (.int 8)) (cA : Addr) (kc : ClassId) (c0 : Int32) (A : Ow.AL Z h0 cA kc .char [.int c0]) (hr : ∀ ch ∈ [c0], own_ok ch) (hex : ∃ j, j < [c0].length ∧ 255 < [c0].getD j 0) (x : Addr) (v0 c0_ : Value) (E : Exa Z h0 x "java/lang/String") (V0 : Fld Z h0 x "java/lang/String" "value" "[B" v0) (C0 : Fld Z h0 x "java/lang/String" "coder" "B" c0_) : Ow.Pay l Z (⟨"java/lang/String", "<init>", "([CIILjava/lang/Void;)V"⟩ : MethodName) jdk_42_method_149_code 6 none ({ frames := 4, cells := 2, slots := 12, locals := 57 } : Room) #[(.ref x), (.ref cA), (.int 0), (.int 1), (.null)] h0 (fun v h L => v = none ∧ Ow.Eff h0 h [x] L ∧ ∃ t kb, own_Tx Z h x t kb [c0]) := by
  refine Ow.Pay.of (Ls := #[.val (.ref x), .val (.ref cA), .val (.int 0), .val (.int 1), .val (.null), .unset]) (plainFor_of_name pn0) (fun m => by first | rfl | (simp [entryFrame, mkF, argsToLocals, Value.category]; done)) ?_
  intro p e s m below meth c T hx hby hml hown hnm hme hZ hret hlk X eT
  have F := Ow.Eff.refl h0 [x]
  have hni := (name_of_methodNamed hnm hme).1
  have hsl : RoadKit.slotOf Z "java/lang/String" "coder" "B" ≠ RoadKit.slotOf Z "java/lang/String" "value" "[B" := slot_ne (a0 := a0) (C := "java/lang/String") (Or.inr (ww hw 23 rfl)) (Or.inr (ww hw 22 rfl)) (by decide) (t := .byte) (t' := .array .byte) (by decide) (by decide)
  refine Ow.aloadN X hx (pc := 0) (hb hby d2_0) rfl rfl ?_
  refine Ow.objinit X hx hZ hown (ww hw 17 rfl) (ww hw 18 rfl) (ww hw 19 rfl) eT (by rw [hml]; rfl) (pc := 1) (hb hby d2_1) rfl rfl ?_
  intro T X eT
  refine Ow.iloadN X hx (pc := 4) (hb hby d2_4) rfl ?_
  refine Ow.if_ne X hx (pc := 5) (pc' := 27) (hb hby d2_5) (by decide) (by decide) (fun h5 => ?_) (fun q => absurd q (by decide))
  refine Ow.getstatic X hx hZ hown (ww hw 37 rfl) Via.refl eT S (pc := 27) (hb hby d2_27) ?_   -- "java/lang/String" "COMPACT_STRINGS" "Z"
  intro T X eT
  refine Ow.if_eq X hx (pc := 30) (pc' := 58) (hb hby d2_30) (by decide) (by decide) (fun q => absurd q hz) (fun h30 => ?_)
  refine Ow.aloadN X hx (pc := 33) (hb hby d2_33) rfl rfl ?_
  refine Ow.iloadN X hx (pc := 34) (hb hby d2_34) rfl ?_
  refine Ow.iloadN X hx (pc := 35) (hb hby d2_35) rfl ?_
  refine Ow.callS X hx hZ (c_comp3_1 l Z a0 hw _ Sa Sh Sl cA _ c0 A hr hex) eT hown (ww hw 38 rfl) (ww hw 39 rfl) (ww hw 40 rfl) (ww hw 41 rfl) (by decide) pd19 (by rw [hml]; rfl) (argsL := [_, _, _]) rfl rfl rfl (pc := 36) (hb hby d2_36) rfl rfl (by decide) (by decide) ?_
  rintro _ T L X ⟨d, kd, rfl, F2, l_d, B_d⟩
  dsimp only [Option.toList_some, Option.toList_none, List.cons_append, List.nil_append]
  have ne_cA_d : cA ≠ d := Nat.ne_of_lt (Nat.lt_of_lt_of_le A.lt l_d)
  have ne_x_d : x ≠ d := Nat.ne_of_lt (Nat.lt_of_lt_of_le E.lt l_d)
  have l_d := Nat.le_trans F.size l_d
  have F := F.call F2 (fun _ q => nomatch q)
  have A := A.ext (Ow.Keep.ext0 F2.1)
  have E := E.ext (Ow.Keep.ext0 F2.1)
  have V0 := V0.ext (Ow.Keep.ext0 F2.1)
  have C0 := C0.ext (Ow.Keep.ext0 F2.1)
  have S := S.ext (Ow.Keep.ext0 F2.1)
  have Sa := Sa.ext (Ow.Keep.ext0 F2.1)
  have Sh := Sh.ext (Ow.Keep.ext0 F2.1)
  have Sl := Sl.ext (Ow.Keep.ext0 F2.1)
  obtain ⟨h_36, e_36⟩ : ∃ q, q = T.heap := ⟨_, rfl⟩
  rw [← e_36] at F A E V0 C0 S Sa Sh Sl B_d
  have eT : T.heap = h_36 := e_36.symm
  refine Ow.astore X hx (pc := 39) #[_, _, _, _, _, _] (hb hby d2_39) rfl rfl ?_
  refine Ow.aloadN X hx (pc := 41) (hb hby d2_41) rfl rfl ?_
  refine Ow.aload X hx (pc := 42) (hb hby d2_42) rfl rfl ?_
  refine Ow.iloadN X hx (pc := 44) (hb hby d2_44) rfl ?_
  refine Ow.callSP X hx hZ (c_cfal1 l Z a0 hw _ d _ c0 B_d) rfl rfl eT hown (ww hw 45 rfl) (ww hw 46 rfl) (ww hw 40 rfl) (ww hw 47 rfl) (by decide) pd20 (by rw [hml]; rfl) (argsL := [_, _]) rfl rfl rfl (pc := 45) (hb hby d2_45) rfl rfl (by decide) (by decide) ?_   -- java/lang/StringUTF16.coderFromArrayLen:([BI)B
  intro T X eT
  dsimp only [Option.toList_some, Option.toList_none, List.cons_append, List.nil_append]
  refine Ow.putfield X hx hZ hown (ww hw 27 rfl) Via.refl eT C0 E (Or.inr ⟨(ww hw 23 rfl), rfl, hni⟩) (ww hw 7 rfl) (ty := .byte) (by decide) rfl rfl (pc := 48) (hb hby d2_48) ?_
  intro T h_48 X eT W2
  have C0 := C0.same W2
  have V0 := V0.other W2 (Or.inr (Ne.symm hsl))
  have E := E.wr W2
  have B_d := B_d.other W2 (Ne.symm ne_x_d)
  have F := F.wr W2 (Or.inl (by simp))
  refine Ow.aloadN X hx (pc := 51) (hb hby d2_51) rfl rfl ?_
  refine Ow.aload X hx (pc := 52) (hb hby d2_52) rfl rfl ?_
  refine Ow.putfield X hx hZ hown (ww hw 26 rfl) Via.refl eT V0 E (Or.inr ⟨(ww hw 22 rfl), rfl, hni⟩) (ww hw 7 rfl) (ty := .array .byte) (by decide) rfl rfl (pc := 54) (hb hby d2_54) ?_
  intro T h_54 X eT W3
  have V0 := V0.same W3
  have C0 := C0.other W3 (Or.inr hsl)
  have E := E.wr W3
  have B_d := B_d.other W3 (Ne.symm ne_x_d)
  have F := F.wr W3 (Or.inl (by simp))
  exact Ow.vreturn X hx hlk hret (hb hby d2_57) ⟨rfl, by rw [eT]; exact F, d, kd, by rw [eT]; exact ⟨E, V0, Or.inr ⟨C0, B_d⟩⟩⟩ (by decide) (by decide)
set_option maxRecDepth 65536 in
set_option maxHeartbeats 4000000 in
theorem c_new1w1 (l : Launch) (Z : State) (a0 : Array Value) (hw : ∀ d ∈ tables_1, d.before a0 Z = true) (h0 : Heap) (z : Int32) (S : Sta Z h0 "java/lang/String" "COMPACT_STRINGS" "Z" (.int z)) (hz : ¬ z = 0) (Sa : Sta Z h0 "java/lang/StringUTF16" "$assertionsDisabled" "Z" (.int 1)) (Sh : Sta Z h0 "java/lang/StringUTF16" "HI_BYTE_SHIFT" "I" (.int 0)) (Sl : Sta Z h0 "java/lang/StringUTF16" "LO_BYTE_SHIFT" "I" (.int 8)) (cA : Addr) (kc : ClassId) (c0 : Int32) (A : Ow.AL Z h0 cA kc .char [.int c0]) (hr : ∀ ch ∈ [c0], own_ok ch) (hex : ∃ j, j < [c0].length ∧ 255 < [c0].getD j 0) (x : Addr) (v0 c0_ : Value) (E : Exa Z h0 x "java/lang/String") (V0 : Fld Z h0 x "java/lang/String" "value" "[B" v0) (C0 : Fld Z h0 x "java/lang/String" "coder" "B" c0_) : Ow.Pay l Z (⟨"java/lang/String", "<init>", "([C)V"⟩ : MethodName) jdk_42_method_3_code 2 none ({ frames := 5, cells := 2, slots := 12, locals := 74 } : Room) #[(.ref x), (.ref cA)] h0 (fun v h L => v = none ∧ Ow.Eff h0 h [x] L ∧ ∃ t kb, own_Tx Z h x t kb [c0]) := by
  refine Ow.Pay.of (Ls := #[.val (.ref x), .val (.ref cA)]) (plainFor_of_name pn0) (fun m => by first | rfl | (simp [entryFrame, mkF, argsToLocals, Value.category]; done)) ?_
  intro p e s m below meth c T hx hby hml hown hnm hme hZ hret hlk X eT
  have F := Ow.Eff.refl h0 [x]
  refine Ow.aloadN X hx (pc := 0) (hb hby d1_0) rfl rfl ?_
  refine Ow.aloadN X hx (pc := 1) (hb hby d1_1) rfl rfl ?_
  refine Ow.iconst X hx (pc := 2) (0) (hb hby d1_2) (by decide) ?_
  refine Ow.aloadN X hx (pc := 3) (hb hby d1_3) rfl rfl ?_
  refine Ow.lengthL X hx hZ eT A 1 rfl (pc := 4) (hb hby d1_4) ?_
  refine Ow.aconst_null X hx (pc := 5) (hb hby d1_5) ?_
  refine Ow.callI X hx hZ (c_new4w1 l Z a0 hw _ z S hz Sa Sh Sl cA _ c0 A hr hex x _ _ E V0 C0) eT rfl hown (ww hw 13 rfl) (ww hw 14 rfl) (ww hw 8 rfl) (ww hw 16 rfl) (by decide) pd1 (by rw [hml]; rfl) (argsL := [_, _, _, _]) rfl rfl rfl (pc := 6) (hb hby d1_6) rfl rfl (by decide) (by decide) ?_
  rintro _ T L X ⟨rfl, F2, t2, kb2, St⟩
  dsimp only [Option.toList_some, Option.toList_none, List.cons_append, List.nil_append]
  have F := F.call F2 (fun y hy => by cases List.mem_singleton.mp hy; exact Or.inl (by simp))
  exact Ow.vreturn X hx hlk hret (hb hby d1_9) ⟨rfl, F, t2, kb2, St⟩ (by decide) (by decide)
set_option maxRecDepth 65536 in
set_option maxHeartbeats 4000000 in
theorem c_nbl2 (l : Launch) (Z : State) (a0 : Array Value) (hw : ∀ d ∈ tables_1, d.before a0 Z = true) (h0 : Heap) : Ow.Pay l Z (⟨"java/lang/StringUTF16", "newBytesLength", "(I)I"⟩ : MethodName) jdk_52_method_3_code 1 (some .int) ({ frames := 0, cells := 0, slots := 0, locals := 0 } : Room) #[(.int 2)] h0 (fun v h L => v = some (.int (4)) ∧ h = h0 ∧ L = []) := by
  refine Ow.Pay.of (Ls := #[.val (.int 2)]) (plainFor_of_name pn3) (fun m => by first | rfl | (simp [entryFrame, mkF, argsToLocals, Value.category]; done)) ?_
  intro p e s m below meth c T hx hby hml hown hnm hme hZ hret hlk X eT
  refine Ow.iloadN X hx (pc := 0) (hb hby d21_0) rfl ?_
  refine Ow.if_ge X hx (pc := 1) (pc' := 12) (hb hby d21_1) (by decide) (by decide) (fun h1 => ?_) (fun q => absurd q (by decide))
  refine Ow.iloadN X hx (pc := 12) (hb hby d21_12) rfl ?_
  refine Ow.ldcI X hx (pc := 13) (1073741823) (hb hby d21_13) hown (mvT hZ (ww hw 108 rfl)) ?_
  refine Ow.icmp_lt X hx (pc := 15) (pc' := 55) (hb hby d21_15) (by decide) (by decide) (fun h15 => ?_) (fun q => absurd (by decide) q)
  refine Ow.iloadN X hx (pc := 55) (hb hby d21_55) rfl ?_
  refine Ow.iconst X hx (pc := 56) (1) (hb hby d21_56) (by decide) ?_
  refine Ow.ishl X hx (pc := 57) (hb hby d21_57) ?_
  exact Ow.ireturn X hx hlk hret (hb hby d21_58) ⟨congrArg (fun w => some (Value.int w)) (by decide +kernel), eT, rfl⟩ (by decide) (by decide)
set_option maxRecDepth 65536 in
set_option maxHeartbeats 4000000 in
theorem c_nbf2 (l : Launch) (Z : State) (a0 : Array Value) (hw : ∀ d ∈ tables_1, d.before a0 Z = true) (h0 : Heap) : Ow.Pay l Z (⟨"java/lang/StringUTF16", "newBytesFor", "(I)[B"⟩ : MethodName) jdk_52_method_2_code 1 (some (.array .byte)) ({ frames := 1, cells := 1, slots := 8, locals := 12 } : Room) #[(.int 2)] h0 (fun v h L => ∃ tb kt, v = some (.ref tb) ∧ Ow.Eff h0 h [] L ∧ h0.size ≤ tb ∧ Ow.AL Z h tb kt .byte [.int 0, .int 0, .int 0, .int 0]) := by
  refine Ow.Pay.of (Ls := #[.val (.int 2)]) (plainFor_of_name pn3) (fun m => by first | rfl | (simp [entryFrame, mkF, argsToLocals, Value.category]; done)) ?_
  intro p e s m below meth c T hx hby hml hown hnm hme hZ hret hlk X eT
  have F := Ow.Eff.refl h0 []
  refine Ow.iloadN X hx (pc := 0) (hb hby d20_0) rfl ?_
  refine Ow.callSP X hx hZ (c_nbl2 l Z a0 hw _) rfl rfl eT hown (ww hw 105 rfl) (ww hw 106 rfl) (ww hw 40 rfl) (ww hw 107 rfl) (by decide) pd15 (by rw [hml]; rfl) (argsL := [_]) rfl rfl rfl (pc := 1) (hb hby d20_1) rfl rfl (by decide) (by decide) ?_   -- java/lang/StringUTF16.newBytesLength:(I)I
  intro T X eT
  dsimp only [Option.toList_some, Option.toList_none, List.cons_append, List.nil_append]
  refine Ow.newarrayL X hx hZ (ww hw 21 rfl) eT 4 (vs := [_, _, _, _]) rfl (pc := 4) (hb hby d20_4) (by decide) (by decide) (by decide) (by decide) (by decide) ?_
  intro T h_tb k_tb tb ha_tb X eT E_tb B_tb
  have l_tb : h0.size ≤ tb := by rw [ha_tb]; exact F.size
  have F := F.ext E_tb
  exact Ow.areturn X hx hlk hret rfl rfl rfl (hb hby d20_6) ⟨tb, _, rfl, by rw [eT]; exact F, l_tb, by rw [eT]; exact B_tb⟩ (by decide) (by decide)
set_option maxRecDepth 65536 in
set_option maxHeartbeats 4000000 in
theorem c_tb2 (l : Launch) (Z : State) (a0 : Array Value) (hw : ∀ d ∈ tables_1, d.before a0 Z = true) (h0 : Heap) (Sa : Sta Z h0 "java/lang/StringUTF16" "$assertionsDisabled" "Z" (.int 1)) (Sh : Sta Z h0 "java/lang/StringUTF16" "HI_BYTE_SHIFT" "I" (.int 0)) (Sl : Sta Z h0 "java/lang/StringUTF16" "LO_BYTE_SHIFT" "I" (.int 8)) (cA : Addr) (kc : ClassId) (c0 c1 : Int32) (A : Ow.AL Z h0 cA kc .char [.int c0, .int c1]) : Ow.Pay l Z (⟨"java/lang/StringUTF16", "toBytes", "([CII)[B"⟩ : MethodName) jdk_52_method_14_code 5 (some (.array .byte)) ({ frames := 2, cells := 1, slots := 8, locals := 24 } : Room) #[(.ref cA), (.int 0), (.int 2)] h0 (fun v h L => ∃ tb kt, v = some (.ref tb) ∧ Ow.Eff h0 h [] L ∧ h0.size ≤ tb ∧ Ow.AL Z h tb kt .byte [.int (StrChars.lo8 c0), .int (StrChars.hi8 c0), .int (StrChars.lo8 c1), .int (StrChars.hi8 c1)]) := by
  refine Ow.Pay.of (Ls := #[.val (.ref cA), .val (.int 0), .val (.int 2), .unset, .unset]) (plainFor_of_name pn3) (fun m => by first | rfl | (simp [entryFrame, mkF, argsToLocals, Value.category]; done)) ?_
  intro p e s m below meth c T hx hby hml hown hnm hme hZ hret hlk X eT
  have F := Ow.Eff.refl h0 []
  refine Ow.iloadN X hx (pc := 0) (hb hby d19_0) rfl ?_
  refine Ow.callS X hx hZ (c_nbf2 l Z a0 hw _) eT hown (ww hw 102 rfl) (ww hw 103 rfl) (ww hw 40 rfl) (ww hw 104 rfl) (by decide) pd16 (by rw [hml]; rfl) (argsL := [_]) rfl rfl rfl (pc := 1) (hb hby d19_1) rfl rfl (by decide) (by decide) ?_
  rintro _ T L X ⟨tb, kt, rfl, F2, l_tb, B_tb⟩
  dsimp only [Option.toList_some, Option.toList_none, List.cons_append, List.nil_append]
  have ne_cA_tb : cA ≠ tb := Nat.ne_of_lt (Nat.lt_of_lt_of_le A.lt l_tb)
  have l_tb := Nat.le_trans F.size l_tb
  have F := F.call F2 (fun _ q => nomatch q)
  have A := A.ext (Ow.Keep.ext0 F2.1)
  have Sa := Sa.ext (Ow.Keep.ext0 F2.1)
  have Sh := Sh.ext (Ow.Keep.ext0 F2.1)
  have Sl := Sl.ext (Ow.Keep.ext0 F2.1)
  obtain ⟨h_1, e_1⟩ : ∃ q, q = T.heap := ⟨_, rfl⟩
  rw [← e_1] at F A Sa Sh Sl B_tb
  have eT : T.heap = h_1 := e_1.symm
  refine Ow.astoreN X hx (pc := 4) #[_, _, _, _, _] (hb hby d19_4) rfl rfl ?_
  refine Ow.iconst X hx (pc := 5) (0) (hb hby d19_5) (by decide) ?_
  refine Ow.istore X hx (pc := 6) #[_, _, _, _, _] (hb hby d19_6) rfl ?_
  refine Ow.iload X hx (pc := 8) (hb hby d19_8) rfl ?_
  refine Ow.iloadN X hx (pc := 10) (hb hby d19_10) rfl ?_
  refine Ow.icmp_ge X hx (pc := 11) (pc' := 32) (hb hby d19_11) (by decide) (by decide) (fun q => absurd (by decide) q) (fun h11 => ?_)
  refine Ow.aloadN X hx (pc := 14) (hb hby d19_14) rfl rfl ?_
  refine Ow.iload X hx (pc := 15) (hb hby d19_15) rfl ?_
  refine Ow.aloadN X hx (pc := 17) (hb hby d19_17) rfl rfl ?_
  refine Ow.iloadN X hx (pc := 18) (hb hby d19_18) rfl ?_
  refine Ow.caloadL X hx hZ eT A 0 (.int c0) (by decide) (by decide) rfl (pc := 19) (hb hby d19_19) ?_
  have P_tb := Ow.AL.plain B_tb
  refine Ow.callS X hx hZ (c_putChar l Z a0 hw _ Sa Sh Sl tb _ _ 0 c0 B_tb (by decide) (by simp)) eT hown (ww hw 109 rfl) (ww hw 110 rfl) (ww hw 40 rfl) (ww hw 111 rfl) (by decide) pd17 (by rw [hml]; rfl) (argsL := [_, _, _]) rfl rfl rfl (pc := 20) (hb hby d19_20) rfl rfl (by decide) (by decide) ?_
  rintro _ T L X ⟨rfl, F2, B_tb⟩
  dsimp only [Option.toList_some, Option.toList_none, List.cons_append, List.nil_append]
  have B_tb : Ow.AL Z _ tb kt .byte [.int (StrChars.lo8 c0), .int (StrChars.hi8 c0), .int 0, .int 0] := B_tb
  have F := F.call F2 (fun y hy => by cases List.mem_singleton.mp hy; exact Or.inr l_tb)
  have A := A.keep F2.1 (Ow.nin1 ne_cA_tb)
  have Sa := Ow.staKeep Sa F2.1 (fun y hy => by cases List.mem_singleton.mp hy; exact P_tb)
  have Sh := Ow.staKeep Sh F2.1 (fun y hy => by cases List.mem_singleton.mp hy; exact P_tb)
  have Sl := Ow.staKeep Sl F2.1 (fun y hy => by cases List.mem_singleton.mp hy; exact P_tb)
  obtain ⟨h_20_0, e_20_0⟩ : ∃ q, q = T.heap := ⟨_, rfl⟩
  rw [← e_20_0] at F A Sa Sh Sl B_tb
  have eT : T.heap = h_20_0 := e_20_0.symm
  refine Ow.iinc X hx (pc := 23) (1) #[_, _, _, _, _] (hb hby d19_23) (by decide) rfl rfl ?_
  refine Ow.iinc X hx (pc := 26) (1) #[_, _, _, _, _] (hb hby d19_26) (by decide) rfl rfl ?_
  rw [show (0 + 1 : Int32) = 1 from by decide]
  refine Ow.goto X hx (pc := 29) (pc' := 8) (hb hby d19_29) (by decide) (by decide) ?_
  refine Ow.iload X hx (pc := 8) (hb hby d19_8) rfl ?_
  refine Ow.iloadN X hx (pc := 10) (hb hby d19_10) rfl ?_
  refine Ow.icmp_ge X hx (pc := 11) (pc' := 32) (hb hby d19_11) (by decide) (by decide) (fun q => absurd (by decide) q) (fun h11 => ?_)
  refine Ow.aloadN X hx (pc := 14) (hb hby d19_14) rfl rfl ?_
  refine Ow.iload X hx (pc := 15) (hb hby d19_15) rfl ?_
  refine Ow.aloadN X hx (pc := 17) (hb hby d19_17) rfl rfl ?_
  refine Ow.iloadN X hx (pc := 18) (hb hby d19_18) rfl ?_
  refine Ow.caloadL X hx hZ eT A 1 (.int c1) (by decide) (by decide) rfl (pc := 19) (hb hby d19_19) ?_
  have P_tb := Ow.AL.plain B_tb
  refine Ow.callS X hx hZ (c_putChar l Z a0 hw _ Sa Sh Sl tb _ _ 1 c1 B_tb (by decide) (by simp)) eT hown (ww hw 109 rfl) (ww hw 110 rfl) (ww hw 40 rfl) (ww hw 111 rfl) (by decide) pd17 (by rw [hml]; rfl) (argsL := [_, _, _]) rfl rfl rfl (pc := 20) (hb hby d19_20) rfl rfl (by decide) (by decide) ?_
  rintro _ T L X ⟨rfl, F2, B_tb⟩
  dsimp only [Option.toList_some, Option.toList_none, List.cons_append, List.nil_append]
  have B_tb : Ow.AL Z _ tb kt .byte [.int (StrChars.lo8 c0), .int (StrChars.hi8 c0), .int (StrChars.lo8 c1), .int (StrChars.hi8 c1)] := B_tb
  have F := F.call F2 (fun y hy => by cases List.mem_singleton.mp hy; exact Or.inr l_tb)
  have A := A.keep F2.1 (Ow.nin1 ne_cA_tb)
  have Sa := Ow.staKeep Sa F2.1 (fun y hy => by cases List.mem_singleton.mp hy; exact P_tb)
  have Sh := Ow.staKeep Sh F2.1 (fun y hy => by cases List.mem_singleton.mp hy; exact P_tb)
  have Sl := Ow.staKeep Sl F2.1 (fun y hy => by cases List.mem_singleton.mp hy; exact P_tb)
  obtain ⟨h_20_1, e_20_1⟩ : ∃ q, q = T.heap := ⟨_, rfl⟩
  rw [← e_20_1] at F A Sa Sh Sl B_tb
  have eT : T.heap = h_20_1 := e_20_1.symm
  refine Ow.iinc X hx (pc := 23) (1) #[_, _, _, _, _] (hb hby d19_23) (by decide) rfl rfl ?_
  refine Ow.iinc X hx (pc := 26) (1) #[_, _, _, _, _] (hb hby d19_26) (by decide) rfl rfl ?_
  rw [show (1 + 1 : Int32) = 2 from by decide]
  refine Ow.goto X hx (pc := 29) (pc' := 8) (hb hby d19_29) (by decide) (by decide) ?_
  refine Ow.iload X hx (pc := 8) (hb hby d19_8) rfl ?_
  refine Ow.iloadN X hx (pc := 10) (hb hby d19_10) rfl ?_
  refine Ow.icmp_ge X hx (pc := 11) (pc' := 32) (hb hby d19_11) (by decide) (by decide) (fun h11 => ?_) (fun q => absurd q (by decide))
  refine Ow.aloadN X hx (pc := 32) (hb hby d19_32) rfl rfl ?_
  exact Ow.areturn X hx hlk hret rfl rfl rfl (hb hby d19_33) ⟨tb, kt, rfl, by rw [eT]; exact F, l_tb, by rw [eT]; exact B_tb⟩ (by decide) (by decide)
set_option maxRecDepth 65536 in
set_option maxHeartbeats 4000000 in
theorem c_comp3_2 (l : Launch) (Z : State) (a0 : Array Value) (hw : ∀ d ∈ tables_1, d.before a0 Z = true) (h0 : Heap) (Sa : Sta Z h0 "java/lang/StringUTF16" "$assertionsDisabled" "Z" (.int 1)) (Sh : Sta Z h0 "java/lang/StringUTF16" "HI_BYTE_SHIFT" "I" (.int 0)) (Sl : Sta Z h0 "java/lang/StringUTF16" "LO_BYTE_SHIFT" "I" (.int 8)) (cA : Addr) (kc : ClassId) (c0 c1 : Int32) (A : Ow.AL Z h0 cA kc .char [.int c0, .int c1]) (hr : ∀ ch ∈ [c0, c1], own_ok ch) (hex : ∃ j, j < [c0, c1].length ∧ 255 < [c0, c1].getD j 0) : Ow.Pay l Z (⟨"java/lang/StringUTF16", "compress", "([CII)[B"⟩ : MethodName) jdk_52_method_16_code 6 (some (.array .byte)) ({ frames := 3, cells := 2, slots := 12, locals := 40 } : Room) #[(.ref cA), (.int 0), (.int 2)] h0 (fun v h L => ∃ tb kt, v = some (.ref tb) ∧ Ow.Eff h0 h [] L ∧ h0.size ≤ tb ∧ Ow.AL Z h tb kt .byte (own_wb [c0, c1])) := by
  refine Ow.Pay.of (Ls := #[.val (.ref cA), .val (.int 0), .val (.int 2), .unset, .unset, .unset]) (plainFor_of_name pn3) (fun m => by first | rfl | (simp [entryFrame, mkF, argsToLocals, Value.category]; done)) ?_
  intro p e s m below meth c T hx hby hml hown hnm hme hZ hret hlk X eT
  have F := Ow.Eff.refl h0 []
  refine Ow.iloadN X hx (pc := 0) (hb hby d6_0) rfl ?_
  refine Ow.newarrayL X hx hZ (ww hw 21 rfl) eT 2 (vs := [_, _]) rfl (pc := 1) (hb hby d6_1) (by decide) (by decide) (by decide) (by decide) (by decide) ?_
  intro T h_d k_d d ha_d X eT E_d B_d
  have l_d : h0.size ≤ d := by rw [ha_d]; exact F.size
  have ne_cA_d : cA ≠ d := by rw [ha_d]; exact Nat.ne_of_lt A.lt
  have A := A.ext E_d
  have Sa := Sa.ext E_d
  have Sh := Sh.ext E_d
  have Sl := Sl.ext E_d
  have F := F.ext E_d
  refine Ow.astoreN X hx (pc := 3) #[_, _, _, _, _, _] (hb hby d6_3) rfl rfl ?_
  refine Ow.aloadN X hx (pc := 4) (hb hby d6_4) rfl rfl ?_
  refine Ow.iloadN X hx (pc := 5) (hb hby d6_5) rfl ?_
  refine Ow.aloadN X hx (pc := 6) (hb hby d6_6) rfl rfl ?_
  refine Ow.iconst X hx (pc := 7) (0) (hb hby d6_7) (by decide) ?_
  refine Ow.iloadN X hx (pc := 8) (hb hby d6_8) rfl ?_
  have P_d := Ow.AL.plain B_d
  refine Ow.callS X hx hZ (c_comp5 l Z a0 hw _ cA d _ _ [c0, c1] _ ne_cA_d A B_d rfl (by simp) hex) eT hown (ww hw 42 rfl) (ww hw 43 rfl) (ww hw 40 rfl) (ww hw 44 rfl) (by decide) pd18 (by rw [hml]; rfl) (argsL := [_, _, _, _, _]) rfl rfl rfl (pc := 9) (hb hby d6_9) rfl rfl (by decide) (by decide) ?_
  rintro _ T L X ⟨j, hj, hjc, rfl, F2⟩
  dsimp only [Option.toList_some, Option.toList_none, List.cons_append, List.nil_append]
  have F := F.call F2 (fun y hy => by cases List.mem_singleton.mp hy; exact Or.inr l_d)
  have A := A.keep F2.1 (Ow.nin1 ne_cA_d)
  have Sa := Ow.staKeep Sa F2.1 (fun y hy => by cases List.mem_singleton.mp hy; exact P_d)
  have Sh := Ow.staKeep Sh F2.1 (fun y hy => by cases List.mem_singleton.mp hy; exact P_d)
  have Sl := Ow.staKeep Sl F2.1 (fun y hy => by cases List.mem_singleton.mp hy; exact P_d)
  obtain ⟨h_9, e_9⟩ : ∃ q, q = T.heap := ⟨_, rfl⟩
  rw [← e_9] at F A Sa Sh Sl
  have eT : T.heap = h_9 := e_9.symm
  have hjk : j < 2 := hj
  refine Ow.istore X hx (pc := 12) #[_, _, _, _, _, _] (hb hby d6_12) rfl ?_
  refine Ow.iload X hx (pc := 14) (hb hby d6_14) rfl ?_
  refine Ow.iloadN X hx (pc := 16) (hb hby d6_16) rfl ?_
  refine Ow.icmp_eq X hx (pc := 17) (pc' := 57) (hb hby d6_17) (by decide) (by decide) (fun q => absurd ((Ow.n_eq (n := 2) (by omega) (by omega)).mp q) (by omega)) (fun h17 => ?_)
  refine Ow.aloadN X hx (pc := 20) (hb hby d6_20) rfl rfl ?_
  refine Ow.iloadN X hx (pc := 21) (hb hby d6_21) rfl ?_
  refine Ow.iloadN X hx (pc := 22) (hb hby d6_22) rfl ?_
  refine Ow.callS X hx hZ (c_tb2 l Z a0 hw _ Sa Sh Sl cA _ c0 c1 A) eT hown (ww hw 99 rfl) (ww hw 100 rfl) (ww hw 40 rfl) (ww hw 101 rfl) (by decide) pd19 (by rw [hml]; rfl) (argsL := [_, _, _]) rfl rfl rfl (pc := 23) (hb hby d6_23) rfl rfl (by decide) (by decide) ?_
  rintro _ T L X ⟨tb, kt, rfl, F2, l_tb, B_tb⟩
  dsimp only [Option.toList_some, Option.toList_none, List.cons_append, List.nil_append]
  have ne_cA_tb : cA ≠ tb := Nat.ne_of_lt (Nat.lt_of_lt_of_le A.lt l_tb)
  have l_tb := Nat.le_trans F.size l_tb
  have F := F.call F2 (fun _ q => nomatch q)
  have A := A.ext (Ow.Keep.ext0 F2.1)
  have Sa := Sa.ext (Ow.Keep.ext0 F2.1)
  have Sh := Sh.ext (Ow.Keep.ext0 F2.1)
  have Sl := Sl.ext (Ow.Keep.ext0 F2.1)
  obtain ⟨h_23, e_23⟩ : ∃ q, q = T.heap := ⟨_, rfl⟩
  rw [← e_23] at F A Sa Sh Sl B_tb
  have eT : T.heap = h_23 := e_23.symm
  have B_tb : Ow.AL Z h_23 tb kt .byte (own_wb [c0, c1]) := B_tb
  have hok := own_okD hr hj
  refine Ow.astore X hx (pc := 26) #[_, _, _, _, _, _] (hb hby d6_26) rfl rfl ?_
  refine Ow.aload X hx (pc := 28) (hb hby d6_28) rfl rfl ?_
  refine Ow.iload X hx (pc := 30) (hb hby d6_30) rfl ?_
  refine Ow.callSP X hx hZ (c_getChar l Z a0 hw _ Sa Sh Sl tb kt (own_wb [c0, c1]) j _ _ ([c0, c1].getD j 0) B_tb (by omega) (own_wl [c0, c1] j hj) (own_wh [c0, c1] j hj) (StrChars.pair_says hok.1 hok.2) (own_narc hok)) rfl rfl eT hown (ww hw 115 rfl) (ww hw 116 rfl) (ww hw 40 rfl) (ww hw 117 rfl) (by decide) pd7 (by rw [hml]; rfl) (argsL := [_, _]) rfl rfl rfl (pc := 32) (hb hby d6_32) rfl rfl (by decide) (by decide) ?_   -- java/lang/StringUTF16.getChar:([BI)C
  intro T X eT
  dsimp only [Option.toList_some, Option.toList_none, List.cons_append, List.nil_append]
  refine Ow.sipush X hx (pc := 35) (255) (hb hby d6_35) (by decide) ?_
  refine Ow.icmp_gt X hx (pc := 38) (pc' := 54) (hb hby d6_38) (by decide) (by decide) (fun h38 => ?_) (fun q => absurd hjc q)
  refine Ow.aload X hx (pc := 54) (hb hby d6_54) rfl rfl ?_
  exact Ow.areturn X hx hlk hret rfl rfl rfl (hb hby d6_56) ⟨tb, kt, rfl, by rw [eT]; exact F, l_tb, by rw [eT]; exact B_tb⟩ (by decide) (by decide)
set_option maxRecDepth 65536 in
set_option maxHeartbeats 4000000 in
theorem c_cfal2 (l : Launch) (Z : State) (a0 : Array Value) (hw : ∀ d ∈ tables_1, d.before a0 Z = true) (h0 : Heap) (t : Addr) (kt : ClassId) (c0 c1 : Int32) (A : Ow.AL Z h0 t kt .byte (own_wb [c0, c1])) : Ow.Pay l Z (⟨"java/lang/StringUTF16", "coderFromArrayLen", "([BI)B"⟩ : MethodName) jdk_52_method_15_code 2 (some .byte) ({ frames := 0, cells := 0, slots := 0, locals := 0 } : Room) #[(.ref t), (.int 2)] h0 (fun v h L => v = some (.int (1)) ∧ h = h0 ∧ L = []) := by
  refine Ow.Pay.of (Ls := #[.val (.ref t), .val (.int 2)]) (plainFor_of_name pn3) (fun m => by first | rfl | (simp [entryFrame, mkF, argsToLocals, Value.category]; done)) ?_
  intro p e s m below meth c T hx hby hml hown hnm hme hZ hret hlk X eT
  refine Ow.iloadN X hx (pc := 0) (hb hby d8_0) rfl ?_
  refine Ow.aloadN X hx (pc := 1) (hb hby d8_1) rfl rfl ?_
  refine Ow.lengthL X hx hZ eT A 4 rfl (pc := 2) (hb hby d8_2) ?_
  refine Ow.isub X hx (pc := 3) (hb hby d8_3) ?_
  refine Ow.bipush X hx (pc := 4) (31) (hb hby d8_4) (by decide) ?_
  refine Ow.iushr X hx (pc := 6) (hb hby d8_6) ?_
  refine Ow.i2b X hx (pc := 7) (hb hby d8_7) ?_
  exact Ow.nreturn X hx hlk hret (Or.inr (Or.inl rfl)) (hb hby d8_8) ⟨congrArg (fun w => some (Value.int w)) (by decide +kernel), eT, rfl⟩ (by decide) (by decide)
set_option maxRecDepth 65536 in
set_option maxHeartbeats 4000000 in
theorem c_new4w2 (l : Launch) (Z : State) (a0 : Array Value) (hw : ∀ d ∈ tables_1, d.before a0 Z = true) (h0 : Heap) (z : Int32) (S : Sta Z h0 "java/lang/String" "COMPACT_STRINGS" "Z" (.int z)) (hz : ¬ z = 0) (Sa : Sta Z h0 "java/lang/StringUTF16" "$assertionsDisabled" "Z" (.int 1)) (Sh : Sta Z h0 "java/lang/StringUTF16" "HI_BYTE_SHIFT" "I" (.int 0)) (Sl : Sta Z h0 "java/lang/StringUTF16" "LO_BYTE_SHIFT" "I" (.int 8)) (cA : Addr) (kc : ClassId) (c0 c1 : Int32) (A : Ow.AL Z h0 cA kc .char [.int c0, .int c1]) (hr : ∀ ch ∈ [c0, c1], own_ok ch) (hex : ∃ j, j < [c0, c1].length ∧ 255 < [c0, c1].getD j 0) (x : Addr) (v0 c0_ : Value) (E : Exa Z h0 x "java/lang/String") (V0 : Fld Z h0 x "java/lang/String" "value" "[B" v0) (C0 : Fld Z h0 x "java/lang/String" "coder" "B" c0_) : Ow.Pay l Z (⟨"java/lang/String", "<init>", "([CIILjava/lang/Void;)V"⟩ : MethodName) jdk_42_method_149_code 6 none ({ frames := 4, cells := 2, slots := 12, locals := 57 } : Room) #[(.ref x), (.ref cA), (.int 0), (.int 2), (.null)] h0 (fun v h L => v = none ∧ Ow.Eff h0 h [x] L ∧ ∃ t kb, own_Tx Z h x t kb [c0, c1]) := by
  refine Ow.Pay.of (Ls := #[.val (.ref x), .val (.ref cA), .val (.int 0), .val (.int 2), .val (.null), .unset]) (plainFor_of_name pn0) (fun m => by first | rfl | (simp [entryFrame, mkF, argsToLocals, Value.category]; done)) ?_
  intro p e s m below meth c T hx hby hml hown hnm hme hZ hret hlk X eT
  have F := Ow.Eff.refl h0 [x]
  have hni := (name_of_methodNamed hnm hme).1
  have hsl : RoadKit.slotOf Z "java/lang/String" "coder" "B" ≠ RoadKit.slotOf Z "java/lang/String" "value" "[B" := slot_ne (a0 := a0) (C := "java/lang/String") (Or.inr (ww hw 23 rfl)) (Or.inr (ww hw 22 rfl)) (by decide) (t := .byte) (t' := .array .byte) (by decide) (by decide)
  refine Ow.aloadN X hx (pc := 0) (hb hby d2_0) rfl rfl ?_
  refine Ow.objinit X hx hZ hown (ww hw 17 rfl) (ww hw 18 rfl) (ww hw 19 rfl) eT (by rw [hml]; rfl) (pc := 1) (hb hby d2_1) rfl rfl ?_
  intro T X eT
  refine Ow.iloadN X hx (pc := 4) (hb hby d2_4) rfl ?_
  refine Ow.if_ne X hx (pc := 5) (pc' := 27) (hb hby d2_5) (by decide) (by decide) (fun h5 => ?_) (fun q => absurd q (by decide))
  refine Ow.getstatic X hx hZ hown (ww hw 37 rfl) Via.refl eT S (pc := 27) (hb hby d2_27) ?_   -- "java/lang/String" "COMPACT_STRINGS" "Z"
  intro T X eT
  refine Ow.if_eq X hx (pc := 30) (pc' := 58) (hb hby d2_30) (by decide) (by decide) (fun q => absurd q hz) (fun h30 => ?_)
  refine Ow.aloadN X hx (pc := 33) (hb hby d2_33) rfl rfl ?_
  refine Ow.iloadN X hx (pc := 34) (hb hby d2_34) rfl ?_
  refine Ow.iloadN X hx (pc := 35) (hb hby d2_35) rfl ?_
  refine Ow.callS X hx hZ (c_comp3_2 l Z a0 hw _ Sa Sh Sl cA _ c0 c1 A hr hex) eT hown (ww hw 38 rfl) (ww hw 39 rfl) (ww hw 40 rfl) (ww hw 41 rfl) (by decide) pd19 (by rw [hml]; rfl) (argsL := [_, _, _]) rfl rfl rfl (pc := 36) (hb hby d2_36) rfl rfl (by decide) (by decide) ?_
  rintro _ T L X ⟨d, kd, rfl, F2, l_d, B_d⟩
  dsimp only [Option.toList_some, Option.toList_none, List.cons_append, List.nil_append]
  have ne_cA_d : cA ≠ d := Nat.ne_of_lt (Nat.lt_of_lt_of_le A.lt l_d)
  have ne_x_d : x ≠ d := Nat.ne_of_lt (Nat.lt_of_lt_of_le E.lt l_d)
  have l_d := Nat.le_trans F.size l_d
  have F := F.call F2 (fun _ q => nomatch q)
  have A := A.ext (Ow.Keep.ext0 F2.1)
  have E := E.ext (Ow.Keep.ext0 F2.1)
  have V0 := V0.ext (Ow.Keep.ext0 F2.1)
  have C0 := C0.ext (Ow.Keep.ext0 F2.1)
  have S := S.ext (Ow.Keep.ext0 F2.1)
  have Sa := Sa.ext (Ow.Keep.ext0 F2.1)
  have Sh := Sh.ext (Ow.Keep.ext0 F2.1)
  have Sl := Sl.ext (Ow.Keep.ext0 F2.1)
  obtain ⟨h_36, e_36⟩ : ∃ q, q = T.heap := ⟨_, rfl⟩
  rw [← e_36] at F A E V0 C0 S Sa Sh Sl B_d
  have eT : T.heap = h_36 := e_36.symm
  refine Ow.astore X hx (pc := 39) #[_, _, _, _, _, _] (hb hby d2_39) rfl rfl ?_
  refine Ow.aloadN X hx (pc := 41) (hb hby d2_41) rfl rfl ?_
  refine Ow.aload X hx (pc := 42) (hb hby d2_42) rfl rfl ?_
  refine Ow.iloadN X hx (pc := 44) (hb hby d2_44) rfl ?_
  refine Ow.callSP X hx hZ (c_cfal2 l Z a0 hw _ d _ c0 c1 B_d) rfl rfl eT hown (ww hw 45 rfl) (ww hw 46 rfl) (ww hw 40 rfl) (ww hw 47 rfl) (by decide) pd20 (by rw [hml]; rfl) (argsL := [_, _]) rfl rfl rfl (pc := 45) (hb hby d2_45) rfl rfl (by decide) (by decide) ?_   -- java/lang/StringUTF16.coderFromArrayLen:([BI)B
  intro T X eT
  dsimp only [Option.toList_some, Option.toList_none, List.cons_append, List.nil_append]
  refine Ow.putfield X hx hZ hown (ww hw 27 rfl) Via.refl eT C0 E (Or.inr ⟨(ww hw 23 rfl), rfl, hni⟩) (ww hw 7 rfl) (ty := .byte) (by decide) rfl rfl (pc := 48) (hb hby d2_48) ?_
  intro T h_48 X eT W2
  have C0 := C0.same W2
  have V0 := V0.other W2 (Or.inr (Ne.symm hsl))
  have E := E.wr W2
  have B_d := B_d.other W2 (Ne.symm ne_x_d)
  have F := F.wr W2 (Or.inl (by simp))
  refine Ow.aloadN X hx (pc := 51) (hb hby d2_51) rfl rfl ?_
  refine Ow.aload X hx (pc := 52) (hb hby d2_52) rfl rfl ?_
  refine Ow.putfield X hx hZ hown (ww hw 26 rfl) Via.refl eT V0 E (Or.inr ⟨(ww hw 22 rfl), rfl, hni⟩) (ww hw 7 rfl) (ty := .array .byte) (by decide) rfl rfl (pc := 54) (hb hby d2_54) ?_
  intro T h_54 X eT W3
  have V0 := V0.same W3
  have C0 := C0.other W3 (Or.inr hsl)
  have E := E.wr W3
  have B_d := B_d.other W3 (Ne.symm ne_x_d)
  have F := F.wr W3 (Or.inl (by simp))
  exact Ow.vreturn X hx hlk hret (hb hby d2_57) ⟨rfl, by rw [eT]; exact F, d, kd, by rw [eT]; exact ⟨E, V0, Or.inr ⟨C0, B_d⟩⟩⟩ (by decide) (by decide)
set_option maxRecDepth 65536 in
set_option maxHeartbeats 4000000 in
theorem c_new1w2 (l : Launch) (Z : State) (a0 : Array Value) (hw : ∀ d ∈ tables_1, d.before a0 Z = true) (h0 : Heap) (z : Int32) (S : Sta Z h0 "java/lang/String" "COMPACT_STRINGS" "Z" (.int z)) (hz : ¬ z = 0) (Sa : Sta Z h0 "java/lang/StringUTF16" "$assertionsDisabled" "Z" (.int 1)) (Sh : Sta Z h0 "java/lang/StringUTF16" "HI_BYTE_SHIFT" "I" (.int 0)) (Sl : Sta Z h0 "java/lang/StringUTF16" "LO_BYTE_SHIFT" "I" (.int 8)) (cA : Addr) (kc : ClassId) (c0 c1 : Int32) (A : Ow.AL Z h0 cA kc .char [.int c0, .int c1]) (hr : ∀ ch ∈ [c0, c1], own_ok ch) (hex : ∃ j, j < [c0, c1].length ∧ 255 < [c0, c1].getD j 0) (x : Addr) (v0 c0_ : Value) (E : Exa Z h0 x "java/lang/String") (V0 : Fld Z h0 x "java/lang/String" "value" "[B" v0) (C0 : Fld Z h0 x "java/lang/String" "coder" "B" c0_) : Ow.Pay l Z (⟨"java/lang/String", "<init>", "([C)V"⟩ : MethodName) jdk_42_method_3_code 2 none ({ frames := 5, cells := 2, slots := 12, locals := 74 } : Room) #[(.ref x), (.ref cA)] h0 (fun v h L => v = none ∧ Ow.Eff h0 h [x] L ∧ ∃ t kb, own_Tx Z h x t kb [c0, c1]) := by
  refine Ow.Pay.of (Ls := #[.val (.ref x), .val (.ref cA)]) (plainFor_of_name pn0) (fun m => by first | rfl | (simp [entryFrame, mkF, argsToLocals, Value.category]; done)) ?_
  intro p e s m below meth c T hx hby hml hown hnm hme hZ hret hlk X eT
  have F := Ow.Eff.refl h0 [x]
  refine Ow.aloadN X hx (pc := 0) (hb hby d1_0) rfl rfl ?_
  refine Ow.aloadN X hx (pc := 1) (hb hby d1_1) rfl rfl ?_
  refine Ow.iconst X hx (pc := 2) (0) (hb hby d1_2) (by decide) ?_
  refine Ow.aloadN X hx (pc := 3) (hb hby d1_3) rfl rfl ?_
  refine Ow.lengthL X hx hZ eT A 2 rfl (pc := 4) (hb hby d1_4) ?_
  refine Ow.aconst_null X hx (pc := 5) (hb hby d1_5) ?_
  refine Ow.callI X hx hZ (c_new4w2 l Z a0 hw _ z S hz Sa Sh Sl cA _ c0 c1 A hr hex x _ _ E V0 C0) eT rfl hown (ww hw 13 rfl) (ww hw 14 rfl) (ww hw 8 rfl) (ww hw 16 rfl) (by decide) pd1 (by rw [hml]; rfl) (argsL := [_, _, _, _]) rfl rfl rfl (pc := 6) (hb hby d1_6) rfl rfl (by decide) (by decide) ?_
  rintro _ T L X ⟨rfl, F2, t2, kb2, St⟩
  dsimp only [Option.toList_some, Option.toList_none, List.cons_append, List.nil_append]
  have F := F.call F2 (fun y hy => by cases List.mem_singleton.mp hy; exact Or.inl (by simp))
  exact Ow.vreturn X hx hlk hret (hb hby d1_9) ⟨rfl, F, t2, kb2, St⟩ (by decide) (by decide)
set_option maxRecDepth 65536 in
set_option maxHeartbeats 4000000 in
theorem c_nbl3 (l : Launch) (Z : State) (a0 : Array Value) (hw : ∀ d ∈ tables_1, d.before a0 Z = true) (h0 : Heap) : Ow.Pay l Z (⟨"java/lang/StringUTF16", "newBytesLength", "(I)I"⟩ : MethodName) jdk_52_method_3_code 1 (some .int) ({ frames := 0, cells := 0, slots := 0, locals := 0 } : Room) #[(.int 3)] h0 (fun v h L => v = some (.int (6)) ∧ h = h0 ∧ L = []) := by
  refine Ow.Pay.of (Ls := #[.val (.int 3)]) (plainFor_of_name pn3) (fun m => by first | rfl | (simp [entryFrame, mkF, argsToLocals, Value.category]; done)) ?_
  intro p e s m below meth c T hx hby hml hown hnm hme hZ hret hlk X eT
  refine Ow.iloadN X hx (pc := 0) (hb hby d21_0) rfl ?_
  refine Ow.if_ge X hx (pc := 1) (pc' := 12) (hb hby d21_1) (by decide) (by decide) (fun h1 => ?_) (fun q => absurd q (by decide))
  refine Ow.iloadN X hx (pc := 12) (hb hby d21_12) rfl ?_
  refine Ow.ldcI X hx (pc := 13) (1073741823) (hb hby d21_13) hown (mvT hZ (ww hw 108 rfl)) ?_
  refine Ow.icmp_lt X hx (pc := 15) (pc' := 55) (hb hby d21_15) (by decide) (by decide) (fun h15 => ?_) (fun q => absurd (by decide) q)
  refine Ow.iloadN X hx (pc := 55) (hb hby d21_55) rfl ?_
  refine Ow.iconst X hx (pc := 56) (1) (hb hby d21_56) (by decide) ?_
  refine Ow.ishl X hx (pc := 57) (hb hby d21_57) ?_
  exact Ow.ireturn X hx hlk hret (hb hby d21_58) ⟨congrArg (fun w => some (Value.int w)) (by decide +kernel), eT, rfl⟩ (by decide) (by decide)
set_option maxRecDepth 65536 in
set_option maxHeartbeats 4000000 in
theorem c_nbf3 (l : Launch) (Z : State) (a0 : Array Value) (hw : ∀ d ∈ tables_1, d.before a0 Z = true) (h0 : Heap) : Ow.Pay l Z (⟨"java/lang/StringUTF16", "newBytesFor", "(I)[B"⟩ : MethodName) jdk_52_method_2_code 1 (some (.array .byte)) ({ frames := 1, cells := 1, slots := 8, locals := 12 } : Room) #[(.int 3)] h0 (fun v h L => ∃ tb kt, v = some (.ref tb) ∧ Ow.Eff h0 h [] L ∧ h0.size ≤ tb ∧ Ow.AL Z h tb kt .byte [.int 0, .int 0, .int 0, .int 0, .int 0, .int 0]) := by
  refine Ow.Pay.of (Ls := #[.val (.int 3)]) (plainFor_of_name pn3) (fun m => by first | rfl | (simp [entryFrame, mkF, argsToLocals, Value.category]; done)) ?_
  intro p e s m below meth c T hx hby hml hown hnm hme hZ hret hlk X eT
  have F := Ow.Eff.refl h0 []
  refine Ow.iloadN X hx (pc := 0) (hb hby d20_0) rfl ?_
  refine Ow.callSP X hx hZ (c_nbl3 l Z a0 hw _) rfl rfl eT hown (ww hw 105 rfl) (ww hw 106 rfl) (ww hw 40 rfl) (ww hw 107 rfl) (by decide) pd15 (by rw [hml]; rfl) (argsL := [_]) rfl rfl rfl (pc := 1) (hb hby d20_1) rfl rfl (by decide) (by decide) ?_   -- java/lang/StringUTF16.newBytesLength:(I)I
  intro T X eT
  dsimp only [Option.toList_some, Option.toList_none, List.cons_append, List.nil_append]
  refine Ow.newarrayL X hx hZ (ww hw 21 rfl) eT 6 (vs := [_, _, _, _, _, _]) rfl (pc := 4) (hb hby d20_4) (by decide) (by decide) (by decide) (by decide) (by decide) ?_
  intro T h_tb k_tb tb ha_tb X eT E_tb B_tb
  have l_tb : h0.size ≤ tb := by rw [ha_tb]; exact F.size
  have F := F.ext E_tb
  exact Ow.areturn X hx hlk hret rfl rfl rfl (hb hby d20_6) ⟨tb, _, rfl, by rw [eT]; exact F, l_tb, by rw [eT]; exact B_tb⟩ (by decide) (by decide)
set_option maxRecDepth 65536 in
set_option maxHeartbeats 4000000 in
theorem c_tb3 (l : Launch) (Z : State) (a0 : Array Value) (hw : ∀ d ∈ tables_1, d.before a0 Z = true) (h0 : Heap) (Sa : Sta Z h0 "java/lang/StringUTF16" "$assertionsDisabled" "Z" (.int 1)) (Sh : Sta Z h0 "java/lang/StringUTF16" "HI_BYTE_SHIFT" "I" (.int 0)) (Sl : Sta Z h0 "java/lang/StringUTF16" "LO_BYTE_SHIFT" "I" (.int 8)) (cA : Addr) (kc : ClassId) (c0 c1 c2 : Int32) (A : Ow.AL Z h0 cA kc .char [.int c0, .int c1, .int c2]) : Ow.Pay l Z (⟨"java/lang/StringUTF16", "toBytes", "([CII)[B"⟩ : MethodName) jdk_52_method_14_code 5 (some (.array .byte)) ({ frames := 2, cells := 1, slots := 8, locals := 24 } : Room) #[(.ref cA), (.int 0), (.int 3)] h0 (fun v h L => ∃ tb kt, v = some (.ref tb) ∧ Ow.Eff h0 h [] L ∧ h0.size ≤ tb ∧ Ow.AL Z h tb kt .byte [.int (StrChars.lo8 c0), .int (StrChars.hi8 c0), .int (StrChars.lo8 c1), .int (StrChars.hi8 c1), .int (StrChars.lo8 c2), .int (StrChars.hi8 c2)]) := by
  refine Ow.Pay.of (Ls := #[.val (.ref cA), .val (.int 0), .val (.int 3), .unset, .unset]) (plainFor_of_name pn3) (fun m => by first | rfl | (simp [entryFrame, mkF, argsToLocals, Value.category]; done)) ?_
  intro p e s m below meth c T hx hby hml hown hnm hme hZ hret hlk X eT
  have F := Ow.Eff.refl h0 []
  refine Ow.iloadN X hx (pc := 0) (hb hby d19_0) rfl ?_
  refine Ow.callS X hx hZ (c_nbf3 l Z a0 hw _) eT hown (ww hw 102 rfl) (ww hw 103 rfl) (ww hw 40 rfl) (ww hw 104 rfl) (by decide) pd16 (by rw [hml]; rfl) (argsL := [_]) rfl rfl rfl (pc := 1) (hb hby d19_1) rfl rfl (by decide) (by decide) ?_
  rintro _ T L X ⟨tb, kt, rfl, F2, l_tb, B_tb⟩
  dsimp only [Option.toList_some, Option.toList_none, List.cons_append, List.nil_append]
  have ne_cA_tb : cA ≠ tb := Nat.ne_of_lt (Nat.lt_of_lt_of_le A.lt l_tb)
  have l_tb := Nat.le_trans F.size l_tb
  have F := F.call F2 (fun _ q => nomatch q)
  have A := A.ext (Ow.Keep.ext0 F2.1)
  have Sa := Sa.ext (Ow.Keep.ext0 F2.1)
  have Sh := Sh.ext (Ow.Keep.ext0 F2.1)
  have Sl := Sl.ext (Ow.Keep.ext0 F2.1)
  obtain ⟨h_1, e_1⟩ : ∃ q, q = T.heap := ⟨_, rfl⟩
  rw [← e_1] at F A Sa Sh Sl B_tb
  have eT : T.heap = h_1 := e_1.symm
  refine Ow.astoreN X hx (pc := 4) #[_, _, _, _, _] (hb hby d19_4) rfl rfl ?_
  refine Ow.iconst X hx (pc := 5) (0) (hb hby d19_5) (by decide) ?_
  refine Ow.istore X hx (pc := 6) #[_, _, _, _, _] (hb hby d19_6) rfl ?_
  refine Ow.iload X hx (pc := 8) (hb hby d19_8) rfl ?_
  refine Ow.iloadN X hx (pc := 10) (hb hby d19_10) rfl ?_
  refine Ow.icmp_ge X hx (pc := 11) (pc' := 32) (hb hby d19_11) (by decide) (by decide) (fun q => absurd (by decide) q) (fun h11 => ?_)
  refine Ow.aloadN X hx (pc := 14) (hb hby d19_14) rfl rfl ?_
  refine Ow.iload X hx (pc := 15) (hb hby d19_15) rfl ?_
  refine Ow.aloadN X hx (pc := 17) (hb hby d19_17) rfl rfl ?_
  refine Ow.iloadN X hx (pc := 18) (hb hby d19_18) rfl ?_
  refine Ow.caloadL X hx hZ eT A 0 (.int c0) (by decide) (by decide) rfl (pc := 19) (hb hby d19_19) ?_
  have P_tb := Ow.AL.plain B_tb
  refine Ow.callS X hx hZ (c_putChar l Z a0 hw _ Sa Sh Sl tb _ _ 0 c0 B_tb (by decide) (by simp)) eT hown (ww hw 109 rfl) (ww hw 110 rfl) (ww hw 40 rfl) (ww hw 111 rfl) (by decide) pd17 (by rw [hml]; rfl) (argsL := [_, _, _]) rfl rfl rfl (pc := 20) (hb hby d19_20) rfl rfl (by decide) (by decide) ?_
  rintro _ T L X ⟨rfl, F2, B_tb⟩
  dsimp only [Option.toList_some, Option.toList_none, List.cons_append, List.nil_append]
  have B_tb : Ow.AL Z _ tb kt .byte [.int (StrChars.lo8 c0), .int (StrChars.hi8 c0), .int 0, .int 0, .int 0, .int 0] := B_tb
  have F := F.call F2 (fun y hy => by cases List.mem_singleton.mp hy; exact Or.inr l_tb)
  have A := A.keep F2.1 (Ow.nin1 ne_cA_tb)
  have Sa := Ow.staKeep Sa F2.1 (fun y hy => by cases List.mem_singleton.mp hy; exact P_tb)
  have Sh := Ow.staKeep Sh F2.1 (fun y hy => by cases List.mem_singleton.mp hy; exact P_tb)
  have Sl := Ow.staKeep Sl F2.1 (fun y hy => by cases List.mem_singleton.mp hy; exact P_tb)
  obtain ⟨h_20_0, e_20_0⟩ : ∃ q, q = T.heap := ⟨_, rfl⟩
  rw [← e_20_0] at F A Sa Sh Sl B_tb
  have eT : T.heap = h_20_0 := e_20_0.symm
  refine Ow.iinc X hx (pc := 23) (1) #[_, _, _, _, _] (hb hby d19_23) (by decide) rfl rfl ?_
  refine Ow.iinc X hx (pc := 26) (1) #[_, _, _, _, _] (hb hby d19_26) (by decide) rfl rfl ?_
  rw [show (0 + 1 : Int32) = 1 from by decide]
  refine Ow.goto X hx (pc := 29) (pc' := 8) (hb hby d19_29) (by decide) (by decide) ?_
  refine Ow.iload X hx (pc := 8) (hb hby d19_8) rfl ?_
  refine Ow.iloadN X hx (pc := 10) (hb hby d19_10) rfl ?_
  refine Ow.icmp_ge X hx (pc := 11) (pc' := 32) (hb hby d19_11) (by decide) (by decide) (fun q => absurd (by decide) q) (fun h11 => ?_)
  refine Ow.aloadN X hx (pc := 14) (hb hby d19_14) rfl rfl ?_
  refine Ow.iload X hx (pc := 15) (hb hby d19_15) rfl ?_
  refine Ow.aloadN X hx (pc := 17) (hb hby d19_17) rfl rfl ?_
  refine Ow.iloadN X hx (pc := 18) (hb hby d19_18) rfl ?_
  refine Ow.caloadL X hx hZ eT A 1 (.int c1) (by decide) (by decide) rfl (pc := 19) (hb hby d19_19) ?_
  have P_tb := Ow.AL.plain B_tb
  refine Ow.callS X hx hZ (c_putChar l Z a0 hw _ Sa Sh Sl tb _ _ 1 c1 B_tb (by decide) (by simp)) eT hown (ww hw 109 rfl) (ww hw 110 rfl) (ww hw 40 rfl) (ww hw 111 rfl) (by decide) pd17 (by rw [hml]; rfl) (argsL := [_, _, _]) rfl rfl rfl (pc := 20) (hb hby d19_20) rfl rfl (by decide) (by decide) ?_
  rintro _ T L X ⟨rfl, F2, B_tb⟩
  dsimp only [Option.toList_some, Option.toList_none, List.cons_append, List.nil_append]
  have B_tb : Ow.AL Z _ tb kt .byte [.int (StrChars.lo8 c0), .int (StrChars.hi8 c0), .int (StrChars.lo8 c1), .int (StrChars.hi8 c1), .int 0, .int 0] := B_tb
  have F := F.call F2 (fun y hy => by cases List.mem_singleton.mp hy; exact Or.inr l_tb)
  have A := A.keep F2.1 (Ow.nin1 ne_cA_tb)
  have Sa := Ow.staKeep Sa F2.1 (fun y hy => by cases List.mem_singleton.mp hy; exact P_tb)
  have Sh := Ow.staKeep Sh F2.1 (fun y hy => by cases List.mem_singleton.mp hy; exact P_tb)
  have Sl := Ow.staKeep Sl F2.1 (fun y hy => by cases List.mem_singleton.mp hy; exact P_tb)
  obtain ⟨h_20_1, e_20_1⟩ : ∃ q, q = T.heap := ⟨_, rfl⟩
  rw [← e_20_1] at F A Sa Sh Sl B_tb
  have eT : T.heap = h_20_1 := e_20_1.symm
  refine Ow.iinc X hx (pc := 23) (1) #[_, _, _, _, _] (hb hby d19_23) (by decide) rfl rfl ?_
  refine Ow.iinc X hx (pc := 26) (1) #[_, _, _, _, _] (hb hby d19_26) (by decide) rfl rfl ?_
  rw [show (1 + 1 : Int32) = 2 from by decide]
  refine Ow.goto X hx (pc := 29) (pc' := 8) (hb hby d19_29) (by decide) (by decide) ?_
  refine Ow.iload X hx (pc := 8) (hb hby d19_8) rfl ?_
  refine Ow.iloadN X hx (pc := 10) (hb hby d19_10) rfl ?_
  refine Ow.icmp_ge X hx (pc := 11) (pc' := 32) (hb hby d19_11) (by decide) (by decide) (fun q => absurd (by decide) q) (fun h11 => ?_)
  refine Ow.aloadN X hx (pc := 14) (hb hby d19_14) rfl rfl ?_
  refine Ow.iload X hx (pc := 15) (hb hby d19_15) rfl ?_
  refine Ow.aloadN X hx (pc := 17) (hb hby d19_17) rfl rfl ?_
  refine Ow.iloadN X hx (pc := 18) (hb hby d19_18) rfl ?_
  refine Ow.caloadL X hx hZ eT A 2 (.int c2) (by decide) (by decide) rfl (pc := 19) (hb hby d19_19) ?_
  have P_tb := Ow.AL.plain B_tb
  refine Ow.callS X hx hZ (c_putChar l Z a0 hw _ Sa Sh Sl tb _ _ 2 c2 B_tb (by decide) (by simp)) eT hown (ww hw 109 rfl) (ww hw 110 rfl) (ww hw 40 rfl) (ww hw 111 rfl) (by decide) pd17 (by rw [hml]; rfl) (argsL := [_, _, _]) rfl rfl rfl (pc := 20) (hb hby d19_20) rfl rfl (by decide) (by decide) ?_
  rintro _ T L X ⟨rfl, F2, B_tb⟩
  dsimp only [Option.toList_some, Option.toList_none, List.cons_append, List.nil_append]
  have B_tb : Ow.AL Z _ tb kt .byte [.int (StrChars.lo8 c0), .int (StrChars.hi8 c0), .int (StrChars.lo8 c1), .int (StrChars.hi8 c1), .int (StrChars.lo8 c2), .int (StrChars.hi8 c2)] := B_tb
  have F := F.call F2 (fun y hy => by cases List.mem_singleton.mp hy; exact Or.inr l_tb)
  have A := A.keep F2.1 (Ow.nin1 ne_cA_tb)
  have Sa := Ow.staKeep Sa F2.1 (fun y hy => by cases List.mem_singleton.mp hy; exact P_tb)
  have Sh := Ow.staKeep Sh F2.1 (fun y hy => by cases List.mem_singleton.mp hy; exact P_tb)
  have Sl := Ow.staKeep Sl F2.1 (fun y hy => by cases List.mem_singleton.mp hy; exact P_tb)
  obtain ⟨h_20_2, e_20_2⟩ : ∃ q, q = T.heap := ⟨_, rfl⟩
  rw [← e_20_2] at F A Sa Sh Sl B_tb
  have eT : T.heap = h_20_2 := e_20_2.symm
  refine Ow.iinc X hx (pc := 23) (1) #[_, _, _, _, _] (hb hby d19_23) (by decide) rfl rfl ?_
  refine Ow.iinc X hx (pc := 26) (1) #[_, _, _, _, _] (hb hby d19_26) (by decide) rfl rfl ?_
  rw [show (2 + 1 : Int32) = 3 from by decide]
  refine Ow.goto X hx (pc := 29) (pc' := 8) (hb hby d19_29) (by decide) (by decide) ?_
  refine Ow.iload X hx (pc := 8) (hb hby d19_8) rfl ?_
  refine Ow.iloadN X hx (pc := 10) (hb hby d19_10) rfl ?_
  refine Ow.icmp_ge X hx (pc := 11) (pc' := 32) (hb hby d19_11) (by decide) (by decide) (fun h11 => ?_) (fun q => absurd q (by decide))
  refine Ow.aloadN X hx (pc := 32) (hb hby d19_32) rfl rfl ?_
  exact Ow.areturn X hx hlk hret rfl rfl rfl (hb hby d19_33) ⟨tb, kt, rfl, by rw [eT]; exact F, l_tb, by rw [eT]; exact B_tb⟩ (by decide) (by decide)
set_option maxRecDepth 65536 in
set_option maxHeartbeats 4000000 in
theorem c_comp3_3 (l : Launch) (Z : State) (a0 : Array Value) (hw : ∀ d ∈ tables_1, d.before a0 Z = true) (h0 : Heap) (Sa : Sta Z h0 "java/lang/StringUTF16" "$assertionsDisabled" "Z" (.int 1)) (Sh : Sta Z h0 "java/lang/StringUTF16" "HI_BYTE_SHIFT" "I" (.int 0)) (Sl : Sta Z h0 "java/lang/StringUTF16" "LO_BYTE_SHIFT" "I" (.int 8)) (cA : Addr) (kc : ClassId) (c0 c1 c2 : Int32) (A : Ow.AL Z h0 cA kc .char [.int c0, .int c1, .int c2]) (hr : ∀ ch ∈ [c0, c1, c2], own_ok ch) (hex : ∃ j, j < [c0, c1, c2].length ∧ 255 < [c0, c1, c2].getD j 0) : Ow.Pay l Z (⟨"java/lang/StringUTF16", "compress", "([CII)[B"⟩ : MethodName) jdk_52_method_16_code 6 (some (.array .byte)) ({ frames := 3, cells := 2, slots := 12, locals := 40 } : Room) #[(.ref cA), (.int 0), (.int 3)] h0 (fun v h L => ∃ tb kt, v = some (.ref tb) ∧ Ow.Eff h0 h [] L ∧ h0.size ≤ tb ∧ Ow.AL Z h tb kt .byte (own_wb [c0, c1, c2])) := by
  refine Ow.Pay.of (Ls := #[.val (.ref cA), .val (.int 0), .val (.int 3), .unset, .unset, .unset]) (plainFor_of_name pn3) (fun m => by first | rfl | (simp [entryFrame, mkF, argsToLocals, Value.category]; done)) ?_
  intro p e s m below meth c T hx hby hml hown hnm hme hZ hret hlk X eT
  have F := Ow.Eff.refl h0 []
  refine Ow.iloadN X hx (pc := 0) (hb hby d6_0) rfl ?_
  refine Ow.newarrayL X hx hZ (ww hw 21 rfl) eT 3 (vs := [_, _, _]) rfl (pc := 1) (hb hby d6_1) (by decide) (by decide) (by decide) (by decide) (by decide) ?_
  intro T h_d k_d d ha_d X eT E_d B_d
  have l_d : h0.size ≤ d := by rw [ha_d]; exact F.size
  have ne_cA_d : cA ≠ d := by rw [ha_d]; exact Nat.ne_of_lt A.lt
  have A := A.ext E_d
  have Sa := Sa.ext E_d
  have Sh := Sh.ext E_d
  have Sl := Sl.ext E_d
  have F := F.ext E_d
  refine Ow.astoreN X hx (pc := 3) #[_, _, _, _, _, _] (hb hby d6_3) rfl rfl ?_
  refine Ow.aloadN X hx (pc := 4) (hb hby d6_4) rfl rfl ?_
  refine Ow.iloadN X hx (pc := 5) (hb hby d6_5) rfl ?_
  refine Ow.aloadN X hx (pc := 6) (hb hby d6_6) rfl rfl ?_
  refine Ow.iconst X hx (pc := 7) (0) (hb hby d6_7) (by decide) ?_
  refine Ow.iloadN X hx (pc := 8) (hb hby d6_8) rfl ?_
  have P_d := Ow.AL.plain B_d
  refine Ow.callS X hx hZ (c_comp5 l Z a0 hw _ cA d _ _ [c0, c1, c2] _ ne_cA_d A B_d rfl (by simp) hex) eT hown (ww hw 42 rfl) (ww hw 43 rfl) (ww hw 40 rfl) (ww hw 44 rfl) (by decide) pd18 (by rw [hml]; rfl) (argsL := [_, _, _, _, _]) rfl rfl rfl (pc := 9) (hb hby d6_9) rfl rfl (by decide) (by decide) ?_
  rintro _ T L X ⟨j, hj, hjc, rfl, F2⟩
  dsimp only [Option.toList_some, Option.toList_none, List.cons_append, List.nil_append]
  have F := F.call F2 (fun y hy => by cases List.mem_singleton.mp hy; exact Or.inr l_d)
  have A := A.keep F2.1 (Ow.nin1 ne_cA_d)
  have Sa := Ow.staKeep Sa F2.1 (fun y hy => by cases List.mem_singleton.mp hy; exact P_d)
  have Sh := Ow.staKeep Sh F2.1 (fun y hy => by cases List.mem_singleton.mp hy; exact P_d)
  have Sl := Ow.staKeep Sl F2.1 (fun y hy => by cases List.mem_singleton.mp hy; exact P_d)
  obtain ⟨h_9, e_9⟩ : ∃ q, q = T.heap := ⟨_, rfl⟩
  rw [← e_9] at F A Sa Sh Sl
  have eT : T.heap = h_9 := e_9.symm
  have hjk : j < 3 := hj
  refine Ow.istore X hx (pc := 12) #[_, _, _, _, _, _] (hb hby d6_12) rfl ?_
  refine Ow.iload X hx (pc := 14) (hb hby d6_14) rfl ?_
  refine Ow.iloadN X hx (pc := 16) (hb hby d6_16) rfl ?_
  refine Ow.icmp_eq X hx (pc := 17) (pc' := 57) (hb hby d6_17) (by decide) (by decide) (fun q => absurd ((Ow.n_eq (n := 3) (by omega) (by omega)).mp q) (by omega)) (fun h17 => ?_)
  refine Ow.aloadN X hx (pc := 20) (hb hby d6_20) rfl rfl ?_
  refine Ow.iloadN X hx (pc := 21) (hb hby d6_21) rfl ?_
  refine Ow.iloadN X hx (pc := 22) (hb hby d6_22) rfl ?_
  refine Ow.callS X hx hZ (c_tb3 l Z a0 hw _ Sa Sh Sl cA _ c0 c1 c2 A) eT hown (ww hw 99 rfl) (ww hw 100 rfl) (ww hw 40 rfl) (ww hw 101 rfl) (by decide) pd19 (by rw [hml]; rfl) (argsL := [_, _, _]) rfl rfl rfl (pc := 23) (hb hby d6_23) rfl rfl (by decide) (by decide) ?_
  rintro _ T L X ⟨tb, kt, rfl, F2, l_tb, B_tb⟩
  dsimp only [Option.toList_some, Option.toList_none, List.cons_append, List.nil_append]
  have ne_cA_tb : cA ≠ tb := Nat.ne_of_lt (Nat.lt_of_lt_of_le A.lt l_tb)
  have l_tb := Nat.le_trans F.size l_tb
  have F := F.call F2 (fun _ q => nomatch q)
  have A := A.ext (Ow.Keep.ext0 F2.1)
  have Sa := Sa.ext (Ow.Keep.ext0 F2.1)
  have Sh := Sh.ext (Ow.Keep.ext0 F2.1)
  have Sl := Sl.ext (Ow.Keep.ext0 F2.1)
  obtain ⟨h_23, e_23⟩ : ∃ q, q = T.heap := ⟨_, rfl⟩
  rw [← e_23] at F A Sa Sh Sl B_tb
  have eT : T.heap = h_23 := e_23.symm
  have B_tb : Ow.AL Z h_23 tb kt .byte (own_wb [c0, c1, c2]) := B_tb
  have hok := own_okD hr hj
  refine Ow.astore X hx (pc := 26) #[_, _, _, _, _, _] (hb hby d6_26) rfl rfl ?_
  refine Ow.aload X hx (pc := 28) (hb hby d6_28) rfl rfl ?_
  refine Ow.iload X hx (pc := 30) (hb hby d6_30) rfl ?_
  refine Ow.callSP X hx hZ (c_getChar l Z a0 hw _ Sa Sh Sl tb kt (own_wb [c0, c1, c2]) j _ _ ([c0, c1, c2].getD j 0) B_tb (by omega) (own_wl [c0, c1, c2] j hj) (own_wh [c0, c1, c2] j hj) (StrChars.pair_says hok.1 hok.2) (own_narc hok)) rfl rfl eT hown (ww hw 115 rfl) (ww hw 116 rfl) (ww hw 40 rfl) (ww hw 117 rfl) (by decide) pd7 (by rw [hml]; rfl) (argsL := [_, _]) rfl rfl rfl (pc := 32) (hb hby d6_32) rfl rfl (by decide) (by decide) ?_   -- java/lang/StringUTF16.getChar:([BI)C
  intro T X eT
  dsimp only [Option.toList_some, Option.toList_none, List.cons_append, List.nil_append]
  refine Ow.sipush X hx (pc := 35) (255) (hb hby d6_35) (by decide) ?_
  refine Ow.icmp_gt X hx (pc := 38) (pc' := 54) (hb hby d6_38) (by decide) (by decide) (fun h38 => ?_) (fun q => absurd hjc q)
  refine Ow.aload X hx (pc := 54) (hb hby d6_54) rfl rfl ?_
  exact Ow.areturn X hx hlk hret rfl rfl rfl (hb hby d6_56) ⟨tb, kt, rfl, by rw [eT]; exact F, l_tb, by rw [eT]; exact B_tb⟩ (by decide) (by decide)
set_option maxRecDepth 65536 in
set_option maxHeartbeats 4000000 in
theorem c_cfal3 (l : Launch) (Z : State) (a0 : Array Value) (hw : ∀ d ∈ tables_1, d.before a0 Z = true) (h0 : Heap) (t : Addr) (kt : ClassId) (c0 c1 c2 : Int32) (A : Ow.AL Z h0 t kt .byte (own_wb [c0, c1, c2])) : Ow.Pay l Z (⟨"java/lang/StringUTF16", "coderFromArrayLen", "([BI)B"⟩ : MethodName) jdk_52_method_15_code 2 (some .byte) ({ frames := 0, cells := 0, slots := 0, locals := 0 } : Room) #[(.ref t), (.int 3)] h0 (fun v h L => v = some (.int (1)) ∧ h = h0 ∧ L = []) := by
  refine Ow.Pay.of (Ls := #[.val (.ref t), .val (.int 3)]) (plainFor_of_name pn3) (fun m => by first | rfl | (simp [entryFrame, mkF, argsToLocals, Value.category]; done)) ?_
  intro p e s m below meth c T hx hby hml hown hnm hme hZ hret hlk X eT
  refine Ow.iloadN X hx (pc := 0) (hb hby d8_0) rfl ?_
  refine Ow.aloadN X hx (pc := 1) (hb hby d8_1) rfl rfl ?_
  refine Ow.lengthL X hx hZ eT A 6 rfl (pc := 2) (hb hby d8_2) ?_
  refine Ow.isub X hx (pc := 3) (hb hby d8_3) ?_
  refine Ow.bipush X hx (pc := 4) (31) (hb hby d8_4) (by decide) ?_
  refine Ow.iushr X hx (pc := 6) (hb hby d8_6) ?_
  refine Ow.i2b X hx (pc := 7) (hb hby d8_7) ?_
  exact Ow.nreturn X hx hlk hret (Or.inr (Or.inl rfl)) (hb hby d8_8) ⟨congrArg (fun w => some (Value.int w)) (by decide +kernel), eT, rfl⟩ (by decide) (by decide)
set_option maxRecDepth 65536 in
set_option maxHeartbeats 4000000 in
theorem c_new4w3 (l : Launch) (Z : State) (a0 : Array Value) (hw : ∀ d ∈ tables_1, d.before a0 Z = true) (h0 : Heap) (z : Int32) (S : Sta Z h0 "java/lang/String" "COMPACT_STRINGS" "Z" (.int z)) (hz : ¬ z = 0) (Sa : Sta Z h0 "java/lang/StringUTF16" "$assertionsDisabled" "Z" (.int 1)) (Sh : Sta Z h0 "java/lang/StringUTF16" "HI_BYTE_SHIFT" "I" (.int 0)) (Sl : Sta Z h0 "java/lang/StringUTF16" "LO_BYTE_SHIFT" "I" (.int 8)) (cA : Addr) (kc : ClassId) (c0 c1 c2 : Int32) (A : Ow.AL Z h0 cA kc .char [.int c0, .int c1, .int c2]) (hr : ∀ ch ∈ [c0, c1, c2], own_ok ch) (hex : ∃ j, j < [c0, c1, c2].length ∧ 255 < [c0, c1, c2].getD j 0) (x : Addr) (v0 c0_ : Value) (E : Exa Z h0 x "java/lang/String") (V0 : Fld Z h0 x "java/lang/String" "value" "[B" v0) (C0 : Fld Z h0 x "java/lang/String" "coder" "B" c0_) : Ow.Pay l Z (⟨"java/lang/String", "<init>", "([CIILjava/lang/Void;)V"⟩ : MethodName) jdk_42_method_149_code 6 none ({ frames := 4, cells := 2, slots := 12, locals := 57 } : Room) #[(.ref x), (.ref cA), (.int 0), (.int 3), (.null)] h0 (fun v h L => v = none ∧ Ow.Eff h0 h [x] L ∧ ∃ t kb, own_Tx Z h x t kb [c0, c1, c2]) := by
  refine Ow.Pay.of (Ls := #[.val (.ref x), .val (.ref cA), .val (.int 0), .val (.int 3), .val (.null), .unset]) (plainFor_of_name pn0) (fun m => by first | rfl | (simp [entryFrame, mkF, argsToLocals, Value.category]; done)) ?_
  intro p e s m below meth c T hx hby hml hown hnm hme hZ hret hlk X eT
  have F := Ow.Eff.refl h0 [x]
  have hni := (name_of_methodNamed hnm hme).1
  have hsl : RoadKit.slotOf Z "java/lang/String" "coder" "B" ≠ RoadKit.slotOf Z "java/lang/String" "value" "[B" := slot_ne (a0 := a0) (C := "java/lang/String") (Or.inr (ww hw 23 rfl)) (Or.inr (ww hw 22 rfl)) (by decide) (t := .byte) (t' := .array .byte) (by decide) (by decide)
  refine Ow.aloadN X hx (pc := 0) (hb hby d2_0) rfl rfl ?_
  refine Ow.objinit X hx hZ hown (ww hw 17 rfl) (ww hw 18 rfl) (ww hw 19 rfl) eT (by rw [hml]; rfl) (pc := 1) (hb hby d2_1) rfl rfl ?_
  intro T X eT
  refine Ow.iloadN X hx (pc := 4) (hb hby d2_4) rfl ?_
  refine Ow.if_ne X hx (pc := 5) (pc' := 27) (hb hby d2_5) (by decide) (by decide) (fun h5 => ?_) (fun q => absurd q (by decide))
  refine Ow.getstatic X hx hZ hown (ww hw 37 rfl) Via.refl eT S (pc := 27) (hb hby d2_27) ?_   -- "java/lang/String" "COMPACT_STRINGS" "Z"
  intro T X eT
  refine Ow.if_eq X hx (pc := 30) (pc' := 58) (hb hby d2_30) (by decide) (by decide) (fun q => absurd q hz) (fun h30 => ?_)
  refine Ow.aloadN X hx (pc := 33) (hb hby d2_33) rfl rfl ?_
  refine Ow.iloadN X hx (pc := 34) (hb hby d2_34) rfl ?_
  refine Ow.iloadN X hx (pc := 35) (hb hby d2_35) rfl ?_
  refine Ow.callS X hx hZ (c_comp3_3 l Z a0 hw _ Sa Sh Sl cA _ c0 c1 c2 A hr hex) eT hown (ww hw 38 rfl) (ww hw 39 rfl) (ww hw 40 rfl) (ww hw 41 rfl) (by decide) pd19 (by rw [hml]; rfl) (argsL := [_, _, _]) rfl rfl rfl (pc := 36) (hb hby d2_36) rfl rfl (by decide) (by decide) ?_
  rintro _ T L X ⟨d, kd, rfl, F2, l_d, B_d⟩
  dsimp only [Option.toList_some, Option.toList_none, List.cons_append, List.nil_append]
  have ne_cA_d : cA ≠ d := Nat.ne_of_lt (Nat.lt_of_lt_of_le A.lt l_d)
  have ne_x_d : x ≠ d := Nat.ne_of_lt (Nat.lt_of_lt_of_le E.lt l_d)
  have l_d := Nat.le_trans F.size l_d
  have F := F.call F2 (fun _ q => nomatch q)
  have A := A.ext (Ow.Keep.ext0 F2.1)
  have E := E.ext (Ow.Keep.ext0 F2.1)
  have V0 := V0.ext (Ow.Keep.ext0 F2.1)
  have C0 := C0.ext (Ow.Keep.ext0 F2.1)
  have S := S.ext (Ow.Keep.ext0 F2.1)
  have Sa := Sa.ext (Ow.Keep.ext0 F2.1)
  have Sh := Sh.ext (Ow.Keep.ext0 F2.1)
  have Sl := Sl.ext (Ow.Keep.ext0 F2.1)
  obtain ⟨h_36, e_36⟩ : ∃ q, q = T.heap := ⟨_, rfl⟩
  rw [← e_36] at F A E V0 C0 S Sa Sh Sl B_d
  have eT : T.heap = h_36 := e_36.symm
  refine Ow.astore X hx (pc := 39) #[_, _, _, _, _, _] (hb hby d2_39) rfl rfl ?_
  refine Ow.aloadN X hx (pc := 41) (hb hby d2_41) rfl rfl ?_
  refine Ow.aload X hx (pc := 42) (hb hby d2_42) rfl rfl ?_
  refine Ow.iloadN X hx (pc := 44) (hb hby d2_44) rfl ?_
  refine Ow.callSP X hx hZ (c_cfal3 l Z a0 hw _ d _ c0 c1 c2 B_d) rfl rfl eT hown (ww hw 45 rfl) (ww hw 46 rfl) (ww hw 40 rfl) (ww hw 47 rfl) (by decide) pd20 (by rw [hml]; rfl) (argsL := [_, _]) rfl rfl rfl (pc := 45) (hb hby d2_45) rfl rfl (by decide) (by decide) ?_   -- java/lang/StringUTF16.coderFromArrayLen:([BI)B
  intro T X eT
  dsimp only [Option.toList_some, Option.toList_none, List.cons_append, List.nil_append]
  refine Ow.putfield X hx hZ hown (ww hw 27 rfl) Via.refl eT C0 E (Or.inr ⟨(ww hw 23 rfl), rfl, hni⟩) (ww hw 7 rfl) (ty := .byte) (by decide) rfl rfl (pc := 48) (hb hby d2_48) ?_
  intro T h_48 X eT W2
  have C0 := C0.same W2
  have V0 := V0.other W2 (Or.inr (Ne.symm hsl))
  have E := E.wr W2
  have B_d := B_d.other W2 (Ne.symm ne_x_d)
  have F := F.wr W2 (Or.inl (by simp))
  refine Ow.aloadN X hx (pc := 51) (hb hby d2_51) rfl rfl ?_
  refine Ow.aload X hx (pc := 52) (hb hby d2_52) rfl rfl ?_
  refine Ow.putfield X hx hZ hown (ww hw 26 rfl) Via.refl eT V0 E (Or.inr ⟨(ww hw 22 rfl), rfl, hni⟩) (ww hw 7 rfl) (ty := .array .byte) (by decide) rfl rfl (pc := 54) (hb hby d2_54) ?_
  intro T h_54 X eT W3
  have V0 := V0.same W3
  have C0 := C0.other W3 (Or.inr hsl)
  have E := E.wr W3
  have B_d := B_d.other W3 (Ne.symm ne_x_d)
  have F := F.wr W3 (Or.inl (by simp))
  exact Ow.vreturn X hx hlk hret (hb hby d2_57) ⟨rfl, by rw [eT]; exact F, d, kd, by rw [eT]; exact ⟨E, V0, Or.inr ⟨C0, B_d⟩⟩⟩ (by decide) (by decide)
set_option maxRecDepth 65536 in
set_option maxHeartbeats 4000000 in
theorem c_new1w3 (l : Launch) (Z : State) (a0 : Array Value) (hw : ∀ d ∈ tables_1, d.before a0 Z = true) (h0 : Heap) (z : Int32) (S : Sta Z h0 "java/lang/String" "COMPACT_STRINGS" "Z" (.int z)) (hz : ¬ z = 0) (Sa : Sta Z h0 "java/lang/StringUTF16" "$assertionsDisabled" "Z" (.int 1)) (Sh : Sta Z h0 "java/lang/StringUTF16" "HI_BYTE_SHIFT" "I" (.int 0)) (Sl : Sta Z h0 "java/lang/StringUTF16" "LO_BYTE_SHIFT" "I" (.int 8)) (cA : Addr) (kc : ClassId) (c0 c1 c2 : Int32) (A : Ow.AL Z h0 cA kc .char [.int c0, .int c1, .int c2]) (hr : ∀ ch ∈ [c0, c1, c2], own_ok ch) (hex : ∃ j, j < [c0, c1, c2].length ∧ 255 < [c0, c1, c2].getD j 0) (x : Addr) (v0 c0_ : Value) (E : Exa Z h0 x "java/lang/String") (V0 : Fld Z h0 x "java/lang/String" "value" "[B" v0) (C0 : Fld Z h0 x "java/lang/String" "coder" "B" c0_) : Ow.Pay l Z (⟨"java/lang/String", "<init>", "([C)V"⟩ : MethodName) jdk_42_method_3_code 2 none ({ frames := 5, cells := 2, slots := 12, locals := 74 } : Room) #[(.ref x), (.ref cA)] h0 (fun v h L => v = none ∧ Ow.Eff h0 h [x] L ∧ ∃ t kb, own_Tx Z h x t kb [c0, c1, c2]) := by
  refine Ow.Pay.of (Ls := #[.val (.ref x), .val (.ref cA)]) (plainFor_of_name pn0) (fun m => by first | rfl | (simp [entryFrame, mkF, argsToLocals, Value.category]; done)) ?_
  intro p e s m below meth c T hx hby hml hown hnm hme hZ hret hlk X eT
  have F := Ow.Eff.refl h0 [x]
  refine Ow.aloadN X hx (pc := 0) (hb hby d1_0) rfl rfl ?_
  refine Ow.aloadN X hx (pc := 1) (hb hby d1_1) rfl rfl ?_
  refine Ow.iconst X hx (pc := 2) (0) (hb hby d1_2) (by decide) ?_
  refine Ow.aloadN X hx (pc := 3) (hb hby d1_3) rfl rfl ?_
  refine Ow.lengthL X hx hZ eT A 3 rfl (pc := 4) (hb hby d1_4) ?_
  refine Ow.aconst_null X hx (pc := 5) (hb hby d1_5) ?_
  refine Ow.callI X hx hZ (c_new4w3 l Z a0 hw _ z S hz Sa Sh Sl cA _ c0 c1 c2 A hr hex x _ _ E V0 C0) eT rfl hown (ww hw 13 rfl) (ww hw 14 rfl) (ww hw 8 rfl) (ww hw 16 rfl) (by decide) pd1 (by rw [hml]; rfl) (argsL := [_, _, _, _]) rfl rfl rfl (pc := 6) (hb hby d1_6) rfl rfl (by decide) (by decide) ?_
  rintro _ T L X ⟨rfl, F2, t2, kb2, St⟩
  dsimp only [Option.toList_some, Option.toList_none, List.cons_append, List.nil_append]
  have F := F.call F2 (fun y hy => by cases List.mem_singleton.mp hy; exact Or.inl (by simp))
  exact Ow.vreturn X hx hlk hret (hb hby d1_9) ⟨rfl, F, t2, kb2, St⟩ (by decide) (by decide)
set_option maxRecDepth 65536 in
set_option maxHeartbeats 4000000 in
theorem c_nbl4 (l : Launch) (Z : State) (a0 : Array Value) (hw : ∀ d ∈ tables_1, d.before a0 Z = true) (h0 : Heap) : Ow.Pay l Z (⟨"java/lang/StringUTF16", "newBytesLength", "(I)I"⟩ : MethodName) jdk_52_method_3_code 1 (some .int) ({ frames := 0, cells := 0, slots := 0, locals := 0 } : Room) #[(.int 4)] h0 (fun v h L => v = some (.int (8)) ∧ h = h0 ∧ L = []) := by
  refine Ow.Pay.of (Ls := #[.val (.int 4)]) (plainFor_of_name pn3) (fun m => by first | rfl | (simp [entryFrame, mkF, argsToLocals, Value.category]; done)) ?_
  intro p e s m below meth c T hx hby hml hown hnm hme hZ hret hlk X eT
  refine Ow.iloadN X hx (pc := 0) (hb hby d21_0) rfl ?_
  refine Ow.if_ge X hx (pc := 1) (pc' := 12) (hb hby d21_1) (by decide) (by decide) (fun h1 => ?_) (fun q => absurd q (by decide))
  refine Ow.iloadN X hx (pc := 12) (hb hby d21_12) rfl ?_
  refine Ow.ldcI X hx (pc := 13) (1073741823) (hb hby d21_13) hown (mvT hZ (ww hw 108 rfl)) ?_
  refine Ow.icmp_lt X hx (pc := 15) (pc' := 55) (hb hby d21_15) (by decide) (by decide) (fun h15 => ?_) (fun q => absurd (by decide) q)
  refine Ow.iloadN X hx (pc := 55) (hb hby d21_55) rfl ?_
  refine Ow.iconst X hx (pc := 56) (1) (hb hby d21_56) (by decide) ?_
  refine Ow.ishl X hx (pc := 57) (hb hby d21_57) ?_
  exact Ow.ireturn X hx hlk hret (hb hby d21_58) ⟨congrArg (fun w => some (Value.int w)) (by decide +kernel), eT, rfl⟩ (by decide) (by decide)
set_option maxRecDepth 65536 in
set_option maxHeartbeats 4000000 in
theorem c_nbf4 (l : Launch) (Z : State) (a0 : Array Value) (hw : ∀ d ∈ tables_1, d.before a0 Z = true) (h0 : Heap) : Ow.Pay l Z (⟨"java/lang/StringUTF16", "newBytesFor", "(I)[B"⟩ : MethodName) jdk_52_method_2_code 1 (some (.array .byte)) ({ frames := 1, cells := 1, slots := 8, locals := 12 } : Room) #[(.int 4)] h0 (fun v h L => ∃ tb kt, v = some (.ref tb) ∧ Ow.Eff h0 h [] L ∧ h0.size ≤ tb ∧ Ow.AL Z h tb kt .byte [.int 0, .int 0, .int 0, .int 0, .int 0, .int 0, .int 0, .int 0]) := by
  refine Ow.Pay.of (Ls := #[.val (.int 4)]) (plainFor_of_name pn3) (fun m => by first | rfl | (simp [entryFrame, mkF, argsToLocals, Value.category]; done)) ?_
  intro p e s m below meth c T hx hby hml hown hnm hme hZ hret hlk X eT
  have F := Ow.Eff.refl h0 []
  refine Ow.iloadN X hx (pc := 0) (hb hby d20_0) rfl ?_
  refine Ow.callSP X hx hZ (c_nbl4 l Z a0 hw _) rfl rfl eT hown (ww hw 105 rfl) (ww hw 106 rfl) (ww hw 40 rfl) (ww hw 107 rfl) (by decide) pd15 (by rw [hml]; rfl) (argsL := [_]) rfl rfl rfl (pc := 1) (hb hby d20_1) rfl rfl (by decide) (by decide) ?_   -- java/lang/StringUTF16.newBytesLength:(I)I
  intro T X eT
  dsimp only [Option.toList_some, Option.toList_none, List.cons_append, List.nil_append]
  refine Ow.newarrayL X hx hZ (ww hw 21 rfl) eT 8 (vs := [_, _, _, _, _, _, _, _]) rfl (pc := 4) (hb hby d20_4) (by decide) (by decide) (by decide) (by decide) (by decide) ?_
  intro T h_tb k_tb tb ha_tb X eT E_tb B_tb
  have l_tb : h0.size ≤ tb := by rw [ha_tb]; exact F.size
  have F := F.ext E_tb
  exact Ow.areturn X hx hlk hret rfl rfl rfl (hb hby d20_6) ⟨tb, _, rfl, by rw [eT]; exact F, l_tb, by rw [eT]; exact B_tb⟩ (by decide) (by decide)
set_option maxRecDepth 65536 in
set_option maxHeartbeats 4000000 in
theorem c_tb4 (l : Launch) (Z : State) (a0 : Array Value) (hw : ∀ d ∈ tables_1, d.before a0 Z = true) (h0 : Heap) (Sa : Sta Z h0 "java/lang/StringUTF16" "$assertionsDisabled" "Z" (.int 1)) (Sh : Sta Z h0 "java/lang/StringUTF16" "HI_BYTE_SHIFT" "I" (.int 0)) (Sl : Sta Z h0 "java/lang/StringUTF16" "LO_BYTE_SHIFT" "I" (.int 8)) (cA : Addr) (kc : ClassId) (c0 c1 c2 c3 : Int32) (A : Ow.AL Z h0 cA kc .char [.int c0, .int c1, .int c2, .int c3]) : Ow.Pay l Z (⟨"java/lang/StringUTF16", "toBytes", "([CII)[B"⟩ : MethodName) jdk_52_method_14_code 5 (some (.array .byte)) ({ frames := 2, cells := 1, slots := 8, locals := 24 } : Room) #[(.ref cA), (.int 0), (.int 4)] h0 (fun v h L => ∃ tb kt, v = some (.ref tb) ∧ Ow.Eff h0 h [] L ∧ h0.size ≤ tb ∧ Ow.AL Z h tb kt .byte [.int (StrChars.lo8 c0), .int (StrChars.hi8 c0), .int (StrChars.lo8 c1), .int (StrChars.hi8 c1), .int (StrChars.lo8 c2), .int (StrChars.hi8 c2), .int (StrChars.lo8 c3), .int (StrChars.hi8 c3)]) := by
  refine Ow.Pay.of (Ls := #[.val (.ref cA), .val (.int 0), .val (.int 4), .unset, .unset]) (plainFor_of_name pn3) (fun m => by first | rfl | (simp [entryFrame, mkF, argsToLocals, Value.category]; done)) ?_
  intro p e s m below meth c T hx hby hml hown hnm hme hZ hret hlk X eT
  have F := Ow.Eff.refl h0 []
  refine Ow.iloadN X hx (pc := 0) (hb hby d19_0) rfl ?_
  refine Ow.callS X hx hZ (c_nbf4 l Z a0 hw _) eT hown (ww hw 102 rfl) (ww hw 103 rfl) (ww hw 40 rfl) (ww hw 104 rfl) (by decide) pd16 (by rw [hml]; rfl) (argsL := [_]) rfl rfl rfl (pc := 1) (hb hby d19_1) rfl rfl (by decide) (by decide) ?_
  rintro _ T L X ⟨tb, kt, rfl, F2, l_tb, B_tb⟩
  dsimp only [Option.toList_some, Option.toList_none, List.cons_append, List.nil_append]
  have ne_cA_tb : cA ≠ tb := Nat.ne_of_lt (Nat.lt_of_lt_of_le A.lt l_tb)
  have l_tb := Nat.le_trans F.size l_tb
  have F := F.call F2 (fun _ q => nomatch q)
  have A := A.ext (Ow.Keep.ext0 F2.1)
  have Sa := Sa.ext (Ow.Keep.ext0 F2.1)
  have Sh := Sh.ext (Ow.Keep.ext0 F2.1)
  have Sl := Sl.ext (Ow.Keep.ext0 F2.1)
  obtain ⟨h_1, e_1⟩ : ∃ q, q = T.heap := ⟨_, rfl⟩
  rw [← e_1] at F A Sa Sh Sl B_tb
  have eT : T.heap = h_1 := e_1.symm
  refine Ow.astoreN X hx (pc := 4) #[_, _, _, _, _] (hb hby d19_4) rfl rfl ?_
  refine Ow.iconst X hx (pc := 5) (0) (hb hby d19_5) (by decide) ?_
  refine Ow.istore X hx (pc := 6) #[_, _, _, _, _] (hb hby d19_6) rfl ?_
  refine Ow.iload X hx (pc := 8) (hb hby d19_8) rfl ?_
  refine Ow.iloadN X hx (pc := 10) (hb hby d19_10) rfl ?_
  refine Ow.icmp_ge X hx (pc := 11) (pc' := 32) (hb hby d19_11) (by decide) (by decide) (fun q => absurd (by decide) q) (fun h11 => ?_)
  refine Ow.aloadN X hx (pc := 14) (hb hby d19_14) rfl rfl ?_
  refine Ow.iload X hx (pc := 15) (hb hby d19_15) rfl ?_
  refine Ow.aloadN X hx (pc := 17) (hb hby d19_17) rfl rfl ?_
  refine Ow.iloadN X hx (pc := 18) (hb hby d19_18) rfl ?_
  refine Ow.caloadL X hx hZ eT A 0 (.int c0) (by decide) (by decide) rfl (pc := 19) (hb hby d19_19) ?_
  have P_tb := Ow.AL.plain B_tb
  refine Ow.callS X hx hZ (c_putChar l Z a0 hw _ Sa Sh Sl tb _ _ 0 c0 B_tb (by decide) (by simp)) eT hown (ww hw 109 rfl) (ww hw 110 rfl) (ww hw 40 rfl) (ww hw 111 rfl) (by decide) pd17 (by rw [hml]; rfl) (argsL := [_, _, _]) rfl rfl rfl (pc := 20) (hb hby d19_20) rfl rfl (by decide) (by decide) ?_
  rintro _ T L X ⟨rfl, F2, B_tb⟩
  dsimp only [Option.toList_some, Option.toList_none, List.cons_append, List.nil_append]
  have B_tb : Ow.AL Z _ tb kt .byte [.int (StrChars.lo8 c0), .int (StrChars.hi8 c0), .int 0, .int 0, .int 0, .int 0, .int 0, .int 0] := B_tb
  have F := F.call F2 (fun y hy => by cases List.mem_singleton.mp hy; exact Or.inr l_tb)
  have A := A.keep F2.1 (Ow.nin1 ne_cA_tb)
  have Sa := Ow.staKeep Sa F2.1 (fun y hy => by cases List.mem_singleton.mp hy; exact P_tb)
  have Sh := Ow.staKeep Sh F2.1 (fun y hy => by cases List.mem_singleton.mp hy; exact P_tb)
  have Sl := Ow.staKeep Sl F2.1 (fun y hy => by cases List.mem_singleton.mp hy; exact P_tb)
  obtain ⟨h_20_0, e_20_0⟩ : ∃ q, q = T.heap := ⟨_, rfl⟩
  rw [← e_20_0] at F A Sa Sh Sl B_tb
  have eT : T.heap = h_20_0 := e_20_0.symm
  refine Ow.iinc X hx (pc := 23) (1) #[_, _, _, _, _] (hb hby d19_23) (by decide) rfl rfl ?_
  refine Ow.iinc X hx (pc := 26) (1) #[_, _, _, _, _] (hb hby d19_26) (by decide) rfl rfl ?_
  rw [show (0 + 1 : Int32) = 1 from by decide]
  refine Ow.goto X hx (pc := 29) (pc' := 8) (hb hby d19_29) (by decide) (by decide) ?_
  refine Ow.iload X hx (pc := 8) (hb hby d19_8) rfl ?_
  refine Ow.iloadN X hx (pc := 10) (hb hby d19_10) rfl ?_
  refine Ow.icmp_ge X hx (pc := 11) (pc' := 32) (hb hby d19_11) (by decide) (by decide) (fun q => absurd (by decide) q) (fun h11 => ?_)
  refine Ow.aloadN X hx (pc := 14) (hb hby d19_14) rfl rfl ?_
  refine Ow.iload X hx (pc := 15) (hb hby d19_15) rfl ?_
  refine Ow.aloadN X hx (pc := 17) (hb hby d19_17) rfl rfl ?_
  refine Ow.iloadN X hx (pc := 18) (hb hby d19_18) rfl ?_
  refine Ow.caloadL X hx hZ eT A 1 (.int c1) (by decide) (by decide) rfl (pc := 19) (hb hby d19_19) ?_
  have P_tb := Ow.AL.plain B_tb
  refine Ow.callS X hx hZ (c_putChar l Z a0 hw _ Sa Sh Sl tb _ _ 1 c1 B_tb (by decide) (by simp)) eT hown (ww hw 109 rfl) (ww hw 110 rfl) (ww hw 40 rfl) (ww hw 111 rfl) (by decide) pd17 (by rw [hml]; rfl) (argsL := [_, _, _]) rfl rfl rfl (pc := 20) (hb hby d19_20) rfl rfl (by decide) (by decide) ?_
  rintro _ T L X ⟨rfl, F2, B_tb⟩
  dsimp only [Option.toList_some, Option.toList_none, List.cons_append, List.nil_append]
  have B_tb : Ow.AL Z _ tb kt .byte [.int (StrChars.lo8 c0), .int (StrChars.hi8 c0), .int (StrChars.lo8 c1), .int (StrChars.hi8 c1), .int 0, .int 0, .int 0, .int 0] := B_tb
  have F := F.call F2 (fun y hy => by cases List.mem_singleton.mp hy; exact Or.inr l_tb)
  have A := A.keep F2.1 (Ow.nin1 ne_cA_tb)
  have Sa := Ow.staKeep Sa F2.1 (fun y hy => by cases List.mem_singleton.mp hy; exact P_tb)
  have Sh := Ow.staKeep Sh F2.1 (fun y hy => by cases List.mem_singleton.mp hy; exact P_tb)
  have Sl := Ow.staKeep Sl F2.1 (fun y hy => by cases List.mem_singleton.mp hy; exact P_tb)
  obtain ⟨h_20_1, e_20_1⟩ : ∃ q, q = T.heap := ⟨_, rfl⟩
  rw [← e_20_1] at F A Sa Sh Sl B_tb
  have eT : T.heap = h_20_1 := e_20_1.symm
  refine Ow.iinc X hx (pc := 23) (1) #[_, _, _, _, _] (hb hby d19_23) (by decide) rfl rfl ?_
  refine Ow.iinc X hx (pc := 26) (1) #[_, _, _, _, _] (hb hby d19_26) (by decide) rfl rfl ?_
  rw [show (1 + 1 : Int32) = 2 from by decide]
  refine Ow.goto X hx (pc := 29) (pc' := 8) (hb hby d19_29) (by decide) (by decide) ?_
  refine Ow.iload X hx (pc := 8) (hb hby d19_8) rfl ?_
  refine Ow.iloadN X hx (pc := 10) (hb hby d19_10) rfl ?_
  refine Ow.icmp_ge X hx (pc := 11) (pc' := 32) (hb hby d19_11) (by decide) (by decide) (fun q => absurd (by decide) q) (fun h11 => ?_)
  refine Ow.aloadN X hx (pc := 14) (hb hby d19_14) rfl rfl ?_
  refine Ow.iload X hx (pc := 15) (hb hby d19_15) rfl ?_
  refine Ow.aloadN X hx (pc := 17) (hb hby d19_17) rfl rfl ?_
  refine Ow.iloadN X hx (pc := 18) (hb hby d19_18) rfl ?_
  refine Ow.caloadL X hx hZ eT A 2 (.int c2) (by decide) (by decide) rfl (pc := 19) (hb hby d19_19) ?_
  have P_tb := Ow.AL.plain B_tb
  refine Ow.callS X hx hZ (c_putChar l Z a0 hw _ Sa Sh Sl tb _ _ 2 c2 B_tb (by decide) (by simp)) eT hown (ww hw 109 rfl) (ww hw 110 rfl) (ww hw 40 rfl) (ww hw 111 rfl) (by decide) pd17 (by rw [hml]; rfl) (argsL := [_, _, _]) rfl rfl rfl (pc := 20) (hb hby d19_20) rfl rfl (by decide) (by decide) ?_
  rintro _ T L X ⟨rfl, F2, B_tb⟩
  dsimp only [Option.toList_some, Option.toList_none, List.cons_append, List.nil_append]
  have B_tb : Ow.AL Z _ tb kt .byte [.int (StrChars.lo8 c0), .int (StrChars.hi8 c0), .int (StrChars.lo8 c1), .int (StrChars.hi8 c1), .int (StrChars.lo8 c2), .int (StrChars.hi8 c2), .int 0, .int 0] := B_tb
  have F := F.call F2 (fun y hy => by cases List.mem_singleton.mp hy; exact Or.inr l_tb)
  have A := A.keep F2.1 (Ow.nin1 ne_cA_tb)
  have Sa := Ow.staKeep Sa F2.1 (fun y hy => by cases List.mem_singleton.mp hy; exact P_tb)
  have Sh := Ow.staKeep Sh F2.1 (fun y hy => by cases List.mem_singleton.mp hy; exact P_tb)
  have Sl := Ow.staKeep Sl F2.1 (fun y hy => by cases List.mem_singleton.mp hy; exact P_tb)
  obtain ⟨h_20_2, e_20_2⟩ : ∃ q, q = T.heap := ⟨_, rfl⟩
  rw [← e_20_2] at F A Sa Sh Sl B_tb
  have eT : T.heap = h_20_2 := e_20_2.symm
  refine Ow.iinc X hx (pc := 23) (1) #[_, _, _, _, _] (hb hby d19_23) (by decide) rfl rfl ?_
  refine Ow.iinc X hx (pc := 26) (1) #[_, _, _, _, _] (hb hby d19_26) (by decide) rfl rfl ?_
  rw [show (2 + 1 : Int32) = 3 from by decide]
  refine Ow.goto X hx (pc := 29) (pc' := 8) (hb hby d19_29) (by decide) (by decide) ?_
  refine Ow.iload X hx (pc := 8) (hb hby d19_8) rfl ?_
  refine Ow.iloadN X hx (pc := 10) (hb hby d19_10) rfl ?_
  refine Ow.icmp_ge X hx (pc := 11) (pc' := 32) (hb hby d19_11) (by decide) (by decide) (fun q => absurd (by decide) q) (fun h11 => ?_)
  refine Ow.aloadN X hx (pc := 14) (hb hby d19_14) rfl rfl ?_
  refine Ow.iload X hx (pc := 15) (hb hby d19_15) rfl ?_
  refine Ow.aloadN X hx (pc := 17) (hb hby d19_17) rfl rfl ?_
  refine Ow.iloadN X hx (pc := 18) (hb hby d19_18) rfl ?_
  refine Ow.caloadL X hx hZ eT A 3 (.int c3) (by decide) (by decide) rfl (pc := 19) (hb hby d19_19) ?_
  have P_tb := Ow.AL.plain B_tb
  refine Ow.callS X hx hZ (c_putChar l Z a0 hw _ Sa Sh Sl tb _ _ 3 c3 B_tb (by decide) (by simp)) eT hown (ww hw 109 rfl) (ww hw 110 rfl) (ww hw 40 rfl) (ww hw 111 rfl) (by decide) pd17 (by rw [hml]; rfl) (argsL := [_, _, _]) rfl rfl rfl (pc := 20) (hb hby d19_20) rfl rfl (by decide) (by decide) ?_
  rintro _ T L X ⟨rfl, F2, B_tb⟩
  dsimp only [Option.toList_some, Option.toList_none, List.cons_append, List.nil_append]
  have B_tb : Ow.AL Z _ tb kt .byte [.int (StrChars.lo8 c0), .int (StrChars.hi8 c0), .int (StrChars.lo8 c1), .int (StrChars.hi8 c1), .int (StrChars.lo8 c2), .int (StrChars.hi8 c2), .int (StrChars.lo8 c3), .int (StrChars.hi8 c3)] := B_tb
  have F := F.call F2 (fun y hy => by cases List.mem_singleton.mp hy; exact Or.inr l_tb)
  have A := A.keep F2.1 (Ow.nin1 ne_cA_tb)
  have Sa := Ow.staKeep Sa F2.1 (fun y hy => by cases List.mem_singleton.mp hy; exact P_tb)
  have Sh := Ow.staKeep Sh F2.1 (fun y hy => by cases List.mem_singleton.mp hy; exact P_tb)
  have Sl := Ow.staKeep Sl F2.1 (fun y hy => by cases List.mem_singleton.mp hy; exact P_tb)
  obtain ⟨h_20_3, e_20_3⟩ : ∃ q, q = T.heap := ⟨_, rfl⟩
  rw [← e_20_3] at F A Sa Sh Sl B_tb
  have eT : T.heap = h_20_3 := e_20_3.symm
  refine Ow.iinc X hx (pc := 23) (1) #[_, _, _, _, _] (hb hby d19_23) (by decide) rfl rfl ?_
  refine Ow.iinc X hx (pc := 26) (1) #[_, _, _, _, _] (hb hby d19_26) (by decide) rfl rfl ?_
  rw [show (3 + 1 : Int32) = 4 from by decide]
  refine Ow.goto X hx (pc := 29) (pc' := 8) (hb hby d19_29) (by decide) (by decide) ?_
  refine Ow.iload X hx (pc := 8) (hb hby d19_8) rfl ?_
  refine Ow.iloadN X hx (pc := 10) (hb hby d19_10) rfl ?_
  refine Ow.icmp_ge X hx (pc := 11) (pc' := 32) (hb hby d19_11) (by decide) (by decide) (fun h11 => ?_) (fun q => absurd q (by decide))
  refine Ow.aloadN X hx (pc := 32) (hb hby d19_32) rfl rfl ?_
  exact Ow.areturn X hx hlk hret rfl rfl rfl (hb hby d19_33) ⟨tb, kt, rfl, by rw [eT]; exact F, l_tb, by rw [eT]; exact B_tb⟩ (by decide) (by decide)
set_option maxRecDepth 65536 in
set_option maxHeartbeats 4000000 in
theorem c_comp3_4 (l : Launch) (Z : State) (a0 : Array Value) (hw : ∀ d ∈ tables_1, d.before a0 Z = true) (h0 : Heap) (Sa : Sta Z h0 "java/lang/StringUTF16" "$assertionsDisabled" "Z" (.int 1)) (Sh : Sta Z h0 "java/lang/StringUTF16" "HI_BYTE_SHIFT" "I" (.int 0)) (Sl : Sta Z h0 "java/lang/StringUTF16" "LO_BYTE_SHIFT" "I" (.int 8)) (cA : Addr) (kc : ClassId) (c0 c1 c2 c3 : Int32) (A : Ow.AL Z h0 cA kc .char [.int c0, .int c1, .int c2, .int c3]) (hr : ∀ ch ∈ [c0, c1, c2, c3], own_ok ch) (hex : ∃ j, j < [c0, c1, c2, c3].length ∧ 255 < [c0, c1, c2, c3].getD j 0) : Ow.Pay l Z (⟨"java/lang/StringUTF16", "compress", "([CII)[B"⟩ : MethodName) jdk_52_method_16_code 6 (some (.array .byte)) ({ frames := 3, cells := 2, slots := 12, locals := 40 } : Room) #[(.ref cA), (.int 0), (.int 4)] h0 (fun v h L => ∃ tb kt, v = some (.ref tb) ∧ Ow.Eff h0 h [] L ∧ h0.size ≤ tb ∧ Ow.AL Z h tb kt .byte (own_wb [c0, c1, c2, c3])) := by
  refine Ow.Pay.of (Ls := #[.val (.ref cA), .val (.int 0), .val (.int 4), .unset, .unset, .unset]) (plainFor_of_name pn3) (fun m => by first | rfl | (simp [entryFrame, mkF, argsToLocals, Value.category]; done)) ?_
  intro p e s m below meth c T hx hby hml hown hnm hme hZ hret hlk X eT
  have F := Ow.Eff.refl h0 []
  refine Ow.iloadN X hx (pc := 0) (hb hby d6_0) rfl ?_
  refine Ow.newarrayL X hx hZ (ww hw 21 rfl) eT 4 (vs := [_, _, _, _]) rfl (pc := 1) (hb hby d6_1) (by decide) (by decide) (by decide) (by decide) (by decide) ?_
  intro T h_d k_d d ha_d X eT E_d B_d
  have l_d : h0.size ≤ d := by rw [ha_d]; exact F.size
  have ne_cA_d : cA ≠ d := by rw [ha_d]; exact Nat.ne_of_lt A.lt
  have A := A.ext E_d
  have Sa := Sa.ext E_d
  have Sh := Sh.ext E_d
  have Sl := Sl.ext E_d
  have F := F.ext E_d
  refine Ow.astoreN X hx (pc := 3) #[_, _, _, _, _, _] (hb hby d6_3) rfl rfl ?_
  refine Ow.aloadN X hx (pc := 4) (hb hby d6_4) rfl rfl ?_
  refine Ow.iloadN X hx (pc := 5) (hb hby d6_5) rfl ?_
  refine Ow.aloadN X hx (pc := 6) (hb hby d6_6) rfl rfl ?_
  refine Ow.iconst X hx (pc := 7) (0) (hb hby d6_7) (by decide) ?_
  refine Ow.iloadN X hx (pc := 8) (hb hby d6_8) rfl ?_
  have P_d := Ow.AL.plain B_d
  refine Ow.callS X hx hZ (c_comp5 l Z a0 hw _ cA d _ _ [c0, c1, c2, c3] _ ne_cA_d A B_d rfl (by simp) hex) eT hown (ww hw 42 rfl) (ww hw 43 rfl) (ww hw 40 rfl) (ww hw 44 rfl) (by decide) pd18 (by rw [hml]; rfl) (argsL := [_, _, _, _, _]) rfl rfl rfl (pc := 9) (hb hby d6_9) rfl rfl (by decide) (by decide) ?_
  rintro _ T L X ⟨j, hj, hjc, rfl, F2⟩
  dsimp only [Option.toList_some, Option.toList_none, List.cons_append, List.nil_append]
  have F := F.call F2 (fun y hy => by cases List.mem_singleton.mp hy; exact Or.inr l_d)
  have A := A.keep F2.1 (Ow.nin1 ne_cA_d)
  have Sa := Ow.staKeep Sa F2.1 (fun y hy => by cases List.mem_singleton.mp hy; exact P_d)
  have Sh := Ow.staKeep Sh F2.1 (fun y hy => by cases List.mem_singleton.mp hy; exact P_d)
  have Sl := Ow.staKeep Sl F2.1 (fun y hy => by cases List.mem_singleton.mp hy; exact P_d)
  obtain ⟨h_9, e_9⟩ : ∃ q, q = T.heap := ⟨_, rfl⟩
  rw [← e_9] at F A Sa Sh Sl
  have eT : T.heap = h_9 := e_9.symm
  have hjk : j < 4 := hj
  refine Ow.istore X hx (pc := 12) #[_, _, _, _, _, _] (hb hby d6_12) rfl ?_
  refine Ow.iload X hx (pc := 14) (hb hby d6_14) rfl ?_
  refine Ow.iloadN X hx (pc := 16) (hb hby d6_16) rfl ?_
  refine Ow.icmp_eq X hx (pc := 17) (pc' := 57) (hb hby d6_17) (by decide) (by decide) (fun q => absurd ((Ow.n_eq (n := 4) (by omega) (by omega)).mp q) (by omega)) (fun h17 => ?_)
  refine Ow.aloadN X hx (pc := 20) (hb hby d6_20) rfl rfl ?_
  refine Ow.iloadN X hx (pc := 21) (hb hby d6_21) rfl ?_
  refine Ow.iloadN X hx (pc := 22) (hb hby d6_22) rfl ?_
  refine Ow.callS X hx hZ (c_tb4 l Z a0 hw _ Sa Sh Sl cA _ c0 c1 c2 c3 A) eT hown (ww hw 99 rfl) (ww hw 100 rfl) (ww hw 40 rfl) (ww hw 101 rfl) (by decide) pd19 (by rw [hml]; rfl) (argsL := [_, _, _]) rfl rfl rfl (pc := 23) (hb hby d6_23) rfl rfl (by decide) (by decide) ?_
  rintro _ T L X ⟨tb, kt, rfl, F2, l_tb, B_tb⟩
  dsimp only [Option.toList_some, Option.toList_none, List.cons_append, List.nil_append]
  have ne_cA_tb : cA ≠ tb := Nat.ne_of_lt (Nat.lt_of_lt_of_le A.lt l_tb)
  have l_tb := Nat.le_trans F.size l_tb
  have F := F.call F2 (fun _ q => nomatch q)
  have A := A.ext (Ow.Keep.ext0 F2.1)
  have Sa := Sa.ext (Ow.Keep.ext0 F2.1)
  have Sh := Sh.ext (Ow.Keep.ext0 F2.1)
  have Sl := Sl.ext (Ow.Keep.ext0 F2.1)
  obtain ⟨h_23, e_23⟩ : ∃ q, q = T.heap := ⟨_, rfl⟩
  rw [← e_23] at F A Sa Sh Sl B_tb
  have eT : T.heap = h_23 := e_23.symm
  have B_tb : Ow.AL Z h_23 tb kt .byte (own_wb [c0, c1, c2, c3]) := B_tb
  have hok := own_okD hr hj
  refine Ow.astore X hx (pc := 26) #[_, _, _, _, _, _] (hb hby d6_26) rfl rfl ?_
  refine Ow.aload X hx (pc := 28) (hb hby d6_28) rfl rfl ?_
  refine Ow.iload X hx (pc := 30) (hb hby d6_30) rfl ?_
  refine Ow.callSP X hx hZ (c_getChar l Z a0 hw _ Sa Sh Sl tb kt (own_wb [c0, c1, c2, c3]) j _ _ ([c0, c1, c2, c3].getD j 0) B_tb (by omega) (own_wl [c0, c1, c2, c3] j hj) (own_wh [c0, c1, c2, c3] j hj) (StrChars.pair_says hok.1 hok.2) (own_narc hok)) rfl rfl eT hown (ww hw 115 rfl) (ww hw 116 rfl) (ww hw 40 rfl) (ww hw 117 rfl) (by decide) pd7 (by rw [hml]; rfl) (argsL := [_, _]) rfl rfl rfl (pc := 32) (hb hby d6_32) rfl rfl (by decide) (by decide) ?_   -- java/lang/StringUTF16.getChar:([BI)C
  intro T X eT
  dsimp only [Option.toList_some, Option.toList_none, List.cons_append, List.nil_append]
  refine Ow.sipush X hx (pc := 35) (255) (hb hby d6_35) (by decide) ?_
  refine Ow.icmp_gt X hx (pc := 38) (pc' := 54) (hb hby d6_38) (by decide) (by decide) (fun h38 => ?_) (fun q => absurd hjc q)
  refine Ow.aload X hx (pc := 54) (hb hby d6_54) rfl rfl ?_
  exact Ow.areturn X hx hlk hret rfl rfl rfl (hb hby d6_56) ⟨tb, kt, rfl, by rw [eT]; exact F, l_tb, by rw [eT]; exact B_tb⟩ (by decide) (by decide)
set_option maxRecDepth 65536 in
set_option maxHeartbeats 4000000 in
theorem c_cfal4 (l : Launch) (Z : State) (a0 : Array Value) (hw : ∀ d ∈ tables_1, d.before a0 Z = true) (h0 : Heap) (t : Addr) (kt : ClassId) (c0 c1 c2 c3 : Int32) (A : Ow.AL Z h0 t kt .byte (own_wb [c0, c1, c2, c3])) : Ow.Pay l Z (⟨"java/lang/StringUTF16", "coderFromArrayLen", "([BI)B"⟩ : MethodName) jdk_52_method_15_code 2 (some .byte) ({ frames := 0, cells := 0, slots := 0, locals := 0 } : Room) #[(.ref t), (.int 4)] h0 (fun v h L => v = some (.int (1)) ∧ h = h0 ∧ L = []) := by
  refine Ow.Pay.of (Ls := #[.val (.ref t), .val (.int 4)]) (plainFor_of_name pn3) (fun m => by first | rfl | (simp [entryFrame, mkF, argsToLocals, Value.category]; done)) ?_
  intro p e s m below meth c T hx hby hml hown hnm hme hZ hret hlk X eT
  refine Ow.iloadN X hx (pc := 0) (hb hby d8_0) rfl ?_
  refine Ow.aloadN X hx (pc := 1) (hb hby d8_1) rfl rfl ?_
  refine Ow.lengthL X hx hZ eT A 8 rfl (pc := 2) (hb hby d8_2) ?_
  refine Ow.isub X hx (pc := 3) (hb hby d8_3) ?_
  refine Ow.bipush X hx (pc := 4) (31) (hb hby d8_4) (by decide) ?_
  refine Ow.iushr X hx (pc := 6) (hb hby d8_6) ?_
  refine Ow.i2b X hx (pc := 7) (hb hby d8_7) ?_
  exact Ow.nreturn X hx hlk hret (Or.inr (Or.inl rfl)) (hb hby d8_8) ⟨congrArg (fun w => some (Value.int w)) (by decide +kernel), eT, rfl⟩ (by decide) (by decide)
set_option maxRecDepth 65536 in
set_option maxHeartbeats 4000000 in
theorem c_new4w4 (l : Launch) (Z : State) (a0 : Array Value) (hw : ∀ d ∈ tables_1, d.before a0 Z = true) (h0 : Heap) (z : Int32) (S : Sta Z h0 "java/lang/String" "COMPACT_STRINGS" "Z" (.int z)) (hz : ¬ z = 0) (Sa : Sta Z h0 "java/lang/StringUTF16" "$assertionsDisabled" "Z" (.int 1)) (Sh : Sta Z h0 "java/lang/StringUTF16" "HI_BYTE_SHIFT" "I" (.int 0)) (Sl : Sta Z h0 "java/lang/StringUTF16" "LO_BYTE_SHIFT" "I" (.int 8)) (cA : Addr) (kc : ClassId) (c0 c1 c2 c3 : Int32) (A : Ow.AL Z h0 cA kc .char [.int c0, .int c1, .int c2, .int c3]) (hr : ∀ ch ∈ [c0, c1, c2, c3], own_ok ch) (hex : ∃ j, j < [c0, c1, c2, c3].length ∧ 255 < [c0, c1, c2, c3].getD j 0) (x : Addr) (v0 c0_ : Value) (E : Exa Z h0 x "java/lang/String") (V0 : Fld Z h0 x "java/lang/String" "value" "[B" v0) (C0 : Fld Z h0 x "java/lang/String" "coder" "B" c0_) : Ow.Pay l Z (⟨"java/lang/String", "<init>", "([CIILjava/lang/Void;)V"⟩ : MethodName) jdk_42_method_149_code 6 none ({ frames := 4, cells := 2, slots := 12, locals := 57 } : Room) #[(.ref x), (.ref cA), (.int 0), (.int 4), (.null)] h0 (fun v h L => v = none ∧ Ow.Eff h0 h [x] L ∧ ∃ t kb, own_Tx Z h x t kb [c0, c1, c2, c3]) := by
  refine Ow.Pay.of (Ls := #[.val (.ref x), .val (.ref cA), .val (.int 0), .val (.int 4), .val (.null), .unset]) (plainFor_of_name pn0) (fun m => by first | rfl | (simp [entryFrame, mkF, argsToLocals, Value.category]; done)) ?_
  intro p e s m below meth c T hx hby hml hown hnm hme hZ hret hlk X eT
  have F := Ow.Eff.refl h0 [x]
  have hni := (name_of_methodNamed hnm hme).1
  have hsl : RoadKit.slotOf Z "java/lang/String" "coder" "B" ≠ RoadKit.slotOf Z "java/lang/String" "value" "[B" := slot_ne (a0 := a0) (C := "java/lang/String") (Or.inr (ww hw 23 rfl)) (Or.inr (ww hw 22 rfl)) (by decide) (t := .byte) (t' := .array .byte) (by decide) (by decide)
  refine Ow.aloadN X hx (pc := 0) (hb hby d2_0) rfl rfl ?_
  refine Ow.objinit X hx hZ hown (ww hw 17 rfl) (ww hw 18 rfl) (ww hw 19 rfl) eT (by rw [hml]; rfl) (pc := 1) (hb hby d2_1) rfl rfl ?_
  intro T X eT
  refine Ow.iloadN X hx (pc := 4) (hb hby d2_4) rfl ?_
  refine Ow.if_ne X hx (pc := 5) (pc' := 27) (hb hby d2_5) (by decide) (by decide) (fun h5 => ?_) (fun q => absurd q (by decide))
  refine Ow.getstatic X hx hZ hown (ww hw 37 rfl) Via.refl eT S (pc := 27) (hb hby d2_27) ?_   -- "java/lang/String" "COMPACT_STRINGS" "Z"
  intro T X eT
  refine Ow.if_eq X hx (pc := 30) (pc' := 58) (hb hby d2_30) (by decide) (by decide) (fun q => absurd q hz) (fun h30 => ?_)
  refine Ow.aloadN X hx (pc := 33) (hb hby d2_33) rfl rfl ?_
  refine Ow.iloadN X hx (pc := 34) (hb hby d2_34) rfl ?_
  refine Ow.iloadN X hx (pc := 35) (hb hby d2_35) rfl ?_
  refine Ow.callS X hx hZ (c_comp3_4 l Z a0 hw _ Sa Sh Sl cA _ c0 c1 c2 c3 A hr hex) eT hown (ww hw 38 rfl) (ww hw 39 rfl) (ww hw 40 rfl) (ww hw 41 rfl) (by decide) pd19 (by rw [hml]; rfl) (argsL := [_, _, _]) rfl rfl rfl (pc := 36) (hb hby d2_36) rfl rfl (by decide) (by decide) ?_
  rintro _ T L X ⟨d, kd, rfl, F2, l_d, B_d⟩
  dsimp only [Option.toList_some, Option.toList_none, List.cons_append, List.nil_append]
  have ne_cA_d : cA ≠ d := Nat.ne_of_lt (Nat.lt_of_lt_of_le A.lt l_d)
  have ne_x_d : x ≠ d := Nat.ne_of_lt (Nat.lt_of_lt_of_le E.lt l_d)
  have l_d := Nat.le_trans F.size l_d
  have F := F.call F2 (fun _ q => nomatch q)
  have A := A.ext (Ow.Keep.ext0 F2.1)
  have E := E.ext (Ow.Keep.ext0 F2.1)
  have V0 := V0.ext (Ow.Keep.ext0 F2.1)
  have C0 := C0.ext (Ow.Keep.ext0 F2.1)
  have S := S.ext (Ow.Keep.ext0 F2.1)
  have Sa := Sa.ext (Ow.Keep.ext0 F2.1)
  have Sh := Sh.ext (Ow.Keep.ext0 F2.1)
  have Sl := Sl.ext (Ow.Keep.ext0 F2.1)
  obtain ⟨h_36, e_36⟩ : ∃ q, q = T.heap := ⟨_, rfl⟩
  rw [← e_36] at F A E V0 C0 S Sa Sh Sl B_d
  have eT : T.heap = h_36 := e_36.symm
  refine Ow.astore X hx (pc := 39) #[_, _, _, _, _, _] (hb hby d2_39) rfl rfl ?_
  refine Ow.aloadN X hx (pc := 41) (hb hby d2_41) rfl rfl ?_
  refine Ow.aload X hx (pc := 42) (hb hby d2_42) rfl rfl ?_
  refine Ow.iloadN X hx (pc := 44) (hb hby d2_44) rfl ?_
  refine Ow.callSP X hx hZ (c_cfal4 l Z a0 hw _ d _ c0 c1 c2 c3 B_d) rfl rfl eT hown (ww hw 45 rfl) (ww hw 46 rfl) (ww hw 40 rfl) (ww hw 47 rfl) (by decide) pd20 (by rw [hml]; rfl) (argsL := [_, _]) rfl rfl rfl (pc := 45) (hb hby d2_45) rfl rfl (by decide) (by decide) ?_   -- java/lang/StringUTF16.coderFromArrayLen:([BI)B
  intro T X eT
  dsimp only [Option.toList_some, Option.toList_none, List.cons_append, List.nil_append]
  refine Ow.putfield X hx hZ hown (ww hw 27 rfl) Via.refl eT C0 E (Or.inr ⟨(ww hw 23 rfl), rfl, hni⟩) (ww hw 7 rfl) (ty := .byte) (by decide) rfl rfl (pc := 48) (hb hby d2_48) ?_
  intro T h_48 X eT W2
  have C0 := C0.same W2
  have V0 := V0.other W2 (Or.inr (Ne.symm hsl))
  have E := E.wr W2
  have B_d := B_d.other W2 (Ne.symm ne_x_d)
  have F := F.wr W2 (Or.inl (by simp))
  refine Ow.aloadN X hx (pc := 51) (hb hby d2_51) rfl rfl ?_
  refine Ow.aload X hx (pc := 52) (hb hby d2_52) rfl rfl ?_
  refine Ow.putfield X hx hZ hown (ww hw 26 rfl) Via.refl eT V0 E (Or.inr ⟨(ww hw 22 rfl), rfl, hni⟩) (ww hw 7 rfl) (ty := .array .byte) (by decide) rfl rfl (pc := 54) (hb hby d2_54) ?_
  intro T h_54 X eT W3
  have V0 := V0.same W3
  have C0 := C0.other W3 (Or.inr hsl)
  have E := E.wr W3
  have B_d := B_d.other W3 (Ne.symm ne_x_d)
  have F := F.wr W3 (Or.inl (by simp))
  exact Ow.vreturn X hx hlk hret (hb hby d2_57) ⟨rfl, by rw [eT]; exact F, d, kd, by rw [eT]; exact ⟨E, V0, Or.inr ⟨C0, B_d⟩⟩⟩ (by decide) (by decide)
set_option maxRecDepth 65536 in
set_option maxHeartbeats 4000000 in
theorem c_new1w4 (l : Launch) (Z : State) (a0 : Array Value) (hw : ∀ d ∈ tables_1, d.before a0 Z = true) (h0 : Heap) (z : Int32) (S : Sta Z h0 "java/lang/String" "COMPACT_STRINGS" "Z" (.int z)) (hz : ¬ z = 0) (Sa : Sta Z h0 "java/lang/StringUTF16" "$assertionsDisabled" "Z" (.int 1)) (Sh : Sta Z h0 "java/lang/StringUTF16" "HI_BYTE_SHIFT" "I" (.int 0)) (Sl : Sta Z h0 "java/lang/StringUTF16" "LO_BYTE_SHIFT" "I" (.int 8)) (cA : Addr) (kc : ClassId) (c0 c1 c2 c3 : Int32) (A : Ow.AL Z h0 cA kc .char [.int c0, .int c1, .int c2, .int c3]) (hr : ∀ ch ∈ [c0, c1, c2, c3], own_ok ch) (hex : ∃ j, j < [c0, c1, c2, c3].length ∧ 255 < [c0, c1, c2, c3].getD j 0) (x : Addr) (v0 c0_ : Value) (E : Exa Z h0 x "java/lang/String") (V0 : Fld Z h0 x "java/lang/String" "value" "[B" v0) (C0 : Fld Z h0 x "java/lang/String" "coder" "B" c0_) : Ow.Pay l Z (⟨"java/lang/String", "<init>", "([C)V"⟩ : MethodName) jdk_42_method_3_code 2 none ({ frames := 5, cells := 2, slots := 12, locals := 74 } : Room) #[(.ref x), (.ref cA)] h0 (fun v h L => v = none ∧ Ow.Eff h0 h [x] L ∧ ∃ t kb, own_Tx Z h x t kb [c0, c1, c2, c3]) := by
  refine Ow.Pay.of (Ls := #[.val (.ref x), .val (.ref cA)]) (plainFor_of_name pn0) (fun m => by first | rfl | (simp [entryFrame, mkF, argsToLocals, Value.category]; done)) ?_
  intro p e s m below meth c T hx hby hml hown hnm hme hZ hret hlk X eT
  have F := Ow.Eff.refl h0 [x]
  refine Ow.aloadN X hx (pc := 0) (hb hby d1_0) rfl rfl ?_
  refine Ow.aloadN X hx (pc := 1) (hb hby d1_1) rfl rfl ?_
  refine Ow.iconst X hx (pc := 2) (0) (hb hby d1_2) (by decide) ?_
  refine Ow.aloadN X hx (pc := 3) (hb hby d1_3) rfl rfl ?_
  refine Ow.lengthL X hx hZ eT A 4 rfl (pc := 4) (hb hby d1_4) ?_
  refine Ow.aconst_null X hx (pc := 5) (hb hby d1_5) ?_
  refine Ow.callI X hx hZ (c_new4w4 l Z a0 hw _ z S hz Sa Sh Sl cA _ c0 c1 c2 c3 A hr hex x _ _ E V0 C0) eT rfl hown (ww hw 13 rfl) (ww hw 14 rfl) (ww hw 8 rfl) (ww hw 16 rfl) (by decide) pd1 (by rw [hml]; rfl) (argsL := [_, _, _, _]) rfl rfl rfl (pc := 6) (hb hby d1_6) rfl rfl (by decide) (by decide) ?_
  rintro _ T L X ⟨rfl, F2, t2, kb2, St⟩
  dsimp only [Option.toList_some, Option.toList_none, List.cons_append, List.nil_append]
  have F := F.call F2 (fun y hy => by cases List.mem_singleton.mp hy; exact Or.inl (by simp))
  exact Ow.vreturn X hx hlk hret (hb hby d1_9) ⟨rfl, F, t2, kb2, St⟩ (by decide) (by decide)
set_option maxRecDepth 65536 in
set_option maxHeartbeats 40000000 in
theorem c_make1 (l : Launch) (Z : State) (a0 : Array Value) (hw : ∀ d ∈ tables_1, d.before a0 Z = true) (h0 : Heap) (z : Int32) (S : Sta Z h0 "java/lang/String" "COMPACT_STRINGS" "Z" (.int z)) (hz : ¬ z = 0) (Sa : Sta Z h0 "java/lang/StringUTF16" "$assertionsDisabled" "Z" (.int 1)) (Sh : Sta Z h0 "java/lang/StringUTF16" "HI_BYTE_SHIFT" "I" (.int 0)) (Sl : Sta Z h0 "java/lang/StringUTF16" "LO_BYTE_SHIFT" "I" (.int 8)) (c0 c1 c2 c3 : Int32) (hr : ∀ ch ∈ [c0], own_ok ch) : Ow.Pay l Z (⟨"com/example/eunomia/eunomia/builtin/UrlTextIsSchemePinLaw", "make", "(ICCCC)Ljava/lang/String;"⟩ : MethodName) method_4_code 6 (some (.object "java/lang/String")) ({ frames := 6, cells := 4, slots := 20, locals := 88 } : Room) #[(.int 1), (.int c0), (.int c1), (.int c2), (.int c3)] h0 (fun v h L => ∃ x t kb, v = some (.ref x) ∧ Ow.Eff h0 h [] L ∧ own_Tx Z h x t kb [c0]) := by
  refine Ow.Pay.of (Ls := #[.val (.int 1), .val (.int c0), .val (.int c1), .val (.int c2), .val (.int c3), .unset]) (plainFor_of_name pn4) (fun m => by first | rfl | (simp [entryFrame, mkF, argsToLocals, Value.category]; done)) ?_
  intro p e s m below meth c T hx hby hml hown hnm hme hZ hret hlk X eT
  have F := Ow.Eff.refl h0 []
  have hn0 : nar .char c0 = c0 := own_narc (hr c0 (by simp))
  refine Ow.iloadN X hx (pc := 0) (hb hby d0_0) rfl ?_
  refine Ow.if_ne X hx (pc := 1) (pc' := 15) (hb hby d0_1) (by decide) (by decide) (fun h1 => ?_) (fun q => absurd q (by decide))
  refine Ow.iloadN X hx (pc := 15) (hb hby d0_15) rfl ?_
  refine Ow.iconst X hx (pc := 16) (1) (hb hby d0_16) (by decide) ?_
  refine Ow.icmp_ne X hx (pc := 17) (pc' := 40) (hb hby d0_17) (by decide) (by decide) (fun q => absurd rfl q) (fun h17 => ?_)
  refine Ow.iconst X hx (pc := 20) (1) (hb hby d0_20) (by decide) ?_
  refine Ow.newarrayL X hx hZ (ww hw 9 rfl) eT 1 (vs := [_]) rfl (pc := 21) (hb hby d0_21) (by decide) (by decide) (by decide) (by decide) (by decide) ?_
  intro T h_cA k_cA cA ha_cA X eT E_cA B_cA
  have l_cA : h0.size ≤ cA := by rw [ha_cA]; exact F.size
  have S := S.ext E_cA
  have Sa := Sa.ext E_cA
  have Sh := Sh.ext E_cA
  have Sl := Sl.ext E_cA
  have F := F.ext E_cA
  refine Ow.astore X hx (pc := 23) #[_, _, _, _, _, _] (hb hby d0_23) rfl rfl ?_
  refine Ow.aload X hx (pc := 25) (hb hby d0_25) rfl rfl ?_
  refine Ow.iconst X hx (pc := 27) (0) (hb hby d0_27) (by decide) ?_
  refine Ow.iloadN X hx (pc := 28) (hb hby d0_28) rfl ?_
  refine Ow.castoreL X hx hZ eT B_cA 0 [_] (by decide) (by decide) rfl rfl (pc := 29) (hb hby d0_29) ?_
  intro T h_29 X eT W_29 B_cA
  rw [hn0] at B_cA W_29
  have S := S.wr W_29
  have Sa := Sa.wr W_29
  have Sh := Sh.wr W_29
  have Sl := Sl.wr W_29
  have F := F.wr W_29 (Or.inr l_cA)
  refine Ow.new_ X hx hZ hown (ww hw 6 rfl) (ww hw 7 rfl) (ww hw 8 rfl) eT (pc := 30) (hb hby d0_30) (by decide) (by decide) ?_
  intro T h_x x ha_x X eT E_x A_x D_x U_x
  have l_x : h0.size ≤ x := by rw [ha_x]; exact F.size
  have ne_cA_x : cA ≠ x := by rw [ha_x]; exact Nat.ne_of_lt B_cA.lt
  have S := S.ext E_x
  have Sa := Sa.ext E_x
  have Sh := Sh.ext E_x
  have Sl := Sl.ext E_x
  have B_cA := B_cA.ext E_x
  have F := F.ext E_x
  have V0 := D_x (Or.inr (ww hw 22 rfl)) (ty := .array .byte) (by decide)
  have C0 := D_x (Or.inr (ww hw 23 rfl)) (ty := .byte) (by decide)
  refine Ow.dup X hx (pc := 33) (hb hby d0_33) rfl ?_
  refine Ow.aload X hx (pc := 34) (hb hby d0_34) rfl rfl ?_
  by_cases hL : ∀ ch ∈ [c0], ¬ 255 < ch
  · have H8 : ∀ ch ∈ [c0], ∃ k : Fin 256, ch = Int32.ofNat k.val := fun ch hc => own_small (hr ch hc).1 (hL ch hc)
    refine strLat X hx hZ hw eT hown (ww hw 10 rfl) (cs := [c0]) A_x V0 C0 B_cA S hz 1 rfl (by decide) (by decide) H8 (by rw [hml]; rfl) (pc := 36) (hb hby d0_36) rfl rfl (by decide) (by decide) ?_
    intro T L kx X F2 St
    have F := F.call F2 (fun y hy => by cases List.mem_singleton.mp hy; exact Or.inr l_x)
    exact Ow.areturn X hx hlk hret rfl rfl rfl (hb hby d0_39) ⟨x, _, _, rfl, F, own_txL St hL⟩ (by decide) (by decide)
  · have hex := own_nex hL
    refine Ow.callI X hx hZ (c_new1w1 l Z a0 hw _ z S hz Sa Sh Sl cA _ c0 B_cA hr hex x _ _ A_x V0 C0) eT rfl hown (ww hw 10 rfl) (ww hw 11 rfl) (ww hw 8 rfl) (ww hw 12 rfl) (by decide) pd2 (by rw [hml]; rfl) (argsL := [_]) rfl rfl rfl (pc := 36) (hb hby d0_36) rfl rfl (by decide) (by decide) ?_
    rintro _ T L X ⟨rfl, F2, t2, kb2, St⟩
    dsimp only [Option.toList_some, Option.toList_none, List.cons_append, List.nil_append]
    have F := F.call F2 (fun y hy => by cases List.mem_singleton.mp hy; exact Or.inr l_x)
    exact Ow.areturn X hx hlk hret rfl rfl rfl (hb hby d0_39) ⟨x, t2, kb2, rfl, F, St⟩ (by decide) (by decide)
set_option maxRecDepth 65536 in
set_option maxHeartbeats 40000000 in
theorem c_make2 (l : Launch) (Z : State) (a0 : Array Value) (hw : ∀ d ∈ tables_1, d.before a0 Z = true) (h0 : Heap) (z : Int32) (S : Sta Z h0 "java/lang/String" "COMPACT_STRINGS" "Z" (.int z)) (hz : ¬ z = 0) (Sa : Sta Z h0 "java/lang/StringUTF16" "$assertionsDisabled" "Z" (.int 1)) (Sh : Sta Z h0 "java/lang/StringUTF16" "HI_BYTE_SHIFT" "I" (.int 0)) (Sl : Sta Z h0 "java/lang/StringUTF16" "LO_BYTE_SHIFT" "I" (.int 8)) (c0 c1 c2 c3 : Int32) (hr : ∀ ch ∈ [c0, c1], own_ok ch) : Ow.Pay l Z (⟨"com/example/eunomia/eunomia/builtin/UrlTextIsSchemePinLaw", "make", "(ICCCC)Ljava/lang/String;"⟩ : MethodName) method_4_code 6 (some (.object "java/lang/String")) ({ frames := 6, cells := 4, slots := 20, locals := 88 } : Room) #[(.int 2), (.int c0), (.int c1), (.int c2), (.int c3)] h0 (fun v h L => ∃ x t kb, v = some (.ref x) ∧ Ow.Eff h0 h [] L ∧ own_Tx Z h x t kb [c0, c1]) := by
  refine Ow.Pay.of (Ls := #[.val (.int 2), .val (.int c0), .val (.int c1), .val (.int c2), .val (.int c3), .unset]) (plainFor_of_name pn4) (fun m => by first | rfl | (simp [entryFrame, mkF, argsToLocals, Value.category]; done)) ?_
  intro p e s m below meth c T hx hby hml hown hnm hme hZ hret hlk X eT
  have F := Ow.Eff.refl h0 []
  have hn0 : nar .char c0 = c0 := own_narc (hr c0 (by simp))
  have hn1 : nar .char c1 = c1 := own_narc (hr c1 (by simp))
  refine Ow.iloadN X hx (pc := 0) (hb hby d0_0) rfl ?_
  refine Ow.if_ne X hx (pc := 1) (pc' := 15) (hb hby d0_1) (by decide) (by decide) (fun h1 => ?_) (fun q => absurd q (by decide))
  refine Ow.iloadN X hx (pc := 15) (hb hby d0_15) rfl ?_
  refine Ow.iconst X hx (pc := 16) (1) (hb hby d0_16) (by decide) ?_
  refine Ow.icmp_ne X hx (pc := 17) (pc' := 40) (hb hby d0_17) (by decide) (by decide) (fun h17 => ?_) (fun q => absurd q (by decide))
  refine Ow.iloadN X hx (pc := 40) (hb hby d0_40) rfl ?_
  refine Ow.iconst X hx (pc := 41) (2) (hb hby d0_41) (by decide) ?_
  refine Ow.icmp_ne X hx (pc := 42) (pc' := 70) (hb hby d0_42) (by decide) (by decide) (fun q => absurd rfl q) (fun h42 => ?_)
  refine Ow.iconst X hx (pc := 45) (2) (hb hby d0_45) (by decide) ?_
  refine Ow.newarrayL X hx hZ (ww hw 9 rfl) eT 2 (vs := [_, _]) rfl (pc := 46) (hb hby d0_46) (by decide) (by decide) (by decide) (by decide) (by decide) ?_
  intro T h_cA k_cA cA ha_cA X eT E_cA B_cA
  have l_cA : h0.size ≤ cA := by rw [ha_cA]; exact F.size
  have S := S.ext E_cA
  have Sa := Sa.ext E_cA
  have Sh := Sh.ext E_cA
  have Sl := Sl.ext E_cA
  have F := F.ext E_cA
  refine Ow.astore X hx (pc := 48) #[_, _, _, _, _, _] (hb hby d0_48) rfl rfl ?_
  refine Ow.aload X hx (pc := 50) (hb hby d0_50) rfl rfl ?_
  refine Ow.iconst X hx (pc := 52) (0) (hb hby d0_52) (by decide) ?_
  refine Ow.iloadN X hx (pc := 53) (hb hby d0_53) rfl ?_
  refine Ow.castoreL X hx hZ eT B_cA 0 [_, _] (by decide) (by decide) rfl rfl (pc := 54) (hb hby d0_54) ?_
  intro T h_54 X eT W_54 B_cA
  rw [hn0] at B_cA W_54
  have S := S.wr W_54
  have Sa := Sa.wr W_54
  have Sh := Sh.wr W_54
  have Sl := Sl.wr W_54
  have F := F.wr W_54 (Or.inr l_cA)
  refine Ow.aload X hx (pc := 55) (hb hby d0_55) rfl rfl ?_
  refine Ow.iconst X hx (pc := 57) (1) (hb hby d0_57) (by decide) ?_
  refine Ow.iloadN X hx (pc := 58) (hb hby d0_58) rfl ?_
  refine Ow.castoreL X hx hZ eT B_cA 1 [_, _] (by decide) (by decide) rfl rfl (pc := 59) (hb hby d0_59) ?_
  intro T h_59 X eT W_59 B_cA
  rw [hn1] at B_cA W_59
  have S := S.wr W_59
  have Sa := Sa.wr W_59
  have Sh := Sh.wr W_59
  have Sl := Sl.wr W_59
  have F := F.wr W_59 (Or.inr l_cA)
  refine Ow.new_ X hx hZ hown (ww hw 6 rfl) (ww hw 7 rfl) (ww hw 8 rfl) eT (pc := 60) (hb hby d0_60) (by decide) (by decide) ?_
  intro T h_x x ha_x X eT E_x A_x D_x U_x
  have l_x : h0.size ≤ x := by rw [ha_x]; exact F.size
  have ne_cA_x : cA ≠ x := by rw [ha_x]; exact Nat.ne_of_lt B_cA.lt
  have S := S.ext E_x
  have Sa := Sa.ext E_x
  have Sh := Sh.ext E_x
  have Sl := Sl.ext E_x
  have B_cA := B_cA.ext E_x
  have F := F.ext E_x
  have V0 := D_x (Or.inr (ww hw 22 rfl)) (ty := .array .byte) (by decide)
  have C0 := D_x (Or.inr (ww hw 23 rfl)) (ty := .byte) (by decide)
  refine Ow.dup X hx (pc := 63) (hb hby d0_63) rfl ?_
  refine Ow.aload X hx (pc := 64) (hb hby d0_64) rfl rfl ?_
  by_cases hL : ∀ ch ∈ [c0, c1], ¬ 255 < ch
  · have H8 : ∀ ch ∈ [c0, c1], ∃ k : Fin 256, ch = Int32.ofNat k.val := fun ch hc => own_small (hr ch hc).1 (hL ch hc)
    refine strLat X hx hZ hw eT hown (ww hw 10 rfl) (cs := [c0, c1]) A_x V0 C0 B_cA S hz 2 rfl (by decide) (by decide) H8 (by rw [hml]; rfl) (pc := 66) (hb hby d0_66) rfl rfl (by decide) (by decide) ?_
    intro T L kx X F2 St
    have F := F.call F2 (fun y hy => by cases List.mem_singleton.mp hy; exact Or.inr l_x)
    exact Ow.areturn X hx hlk hret rfl rfl rfl (hb hby d0_69) ⟨x, _, _, rfl, F, own_txL St hL⟩ (by decide) (by decide)
  · have hex := own_nex hL
    refine Ow.callI X hx hZ (c_new1w2 l Z a0 hw _ z S hz Sa Sh Sl cA _ c0 c1 B_cA hr hex x _ _ A_x V0 C0) eT rfl hown (ww hw 10 rfl) (ww hw 11 rfl) (ww hw 8 rfl) (ww hw 12 rfl) (by decide) pd2 (by rw [hml]; rfl) (argsL := [_]) rfl rfl rfl (pc := 66) (hb hby d0_66) rfl rfl (by decide) (by decide) ?_
    rintro _ T L X ⟨rfl, F2, t2, kb2, St⟩
    dsimp only [Option.toList_some, Option.toList_none, List.cons_append, List.nil_append]
    have F := F.call F2 (fun y hy => by cases List.mem_singleton.mp hy; exact Or.inr l_x)
    exact Ow.areturn X hx hlk hret rfl rfl rfl (hb hby d0_69) ⟨x, t2, kb2, rfl, F, St⟩ (by decide) (by decide)
set_option maxRecDepth 65536 in
set_option maxHeartbeats 40000000 in
theorem c_make3 (l : Launch) (Z : State) (a0 : Array Value) (hw : ∀ d ∈ tables_1, d.before a0 Z = true) (h0 : Heap) (z : Int32) (S : Sta Z h0 "java/lang/String" "COMPACT_STRINGS" "Z" (.int z)) (hz : ¬ z = 0) (Sa : Sta Z h0 "java/lang/StringUTF16" "$assertionsDisabled" "Z" (.int 1)) (Sh : Sta Z h0 "java/lang/StringUTF16" "HI_BYTE_SHIFT" "I" (.int 0)) (Sl : Sta Z h0 "java/lang/StringUTF16" "LO_BYTE_SHIFT" "I" (.int 8)) (c0 c1 c2 c3 : Int32) (hr : ∀ ch ∈ [c0, c1, c2], own_ok ch) : Ow.Pay l Z (⟨"com/example/eunomia/eunomia/builtin/UrlTextIsSchemePinLaw", "make", "(ICCCC)Ljava/lang/String;"⟩ : MethodName) method_4_code 6 (some (.object "java/lang/String")) ({ frames := 6, cells := 4, slots := 20, locals := 88 } : Room) #[(.int 3), (.int c0), (.int c1), (.int c2), (.int c3)] h0 (fun v h L => ∃ x t kb, v = some (.ref x) ∧ Ow.Eff h0 h [] L ∧ own_Tx Z h x t kb [c0, c1, c2]) := by
  refine Ow.Pay.of (Ls := #[.val (.int 3), .val (.int c0), .val (.int c1), .val (.int c2), .val (.int c3), .unset]) (plainFor_of_name pn4) (fun m => by first | rfl | (simp [entryFrame, mkF, argsToLocals, Value.category]; done)) ?_
  intro p e s m below meth c T hx hby hml hown hnm hme hZ hret hlk X eT
  have F := Ow.Eff.refl h0 []
  have hn0 : nar .char c0 = c0 := own_narc (hr c0 (by simp))
  have hn1 : nar .char c1 = c1 := own_narc (hr c1 (by simp))
  have hn2 : nar .char c2 = c2 := own_narc (hr c2 (by simp))
  refine Ow.iloadN X hx (pc := 0) (hb hby d0_0) rfl ?_
  refine Ow.if_ne X hx (pc := 1) (pc' := 15) (hb hby d0_1) (by decide) (by decide) (fun h1 => ?_) (fun q => absurd q (by decide))
  refine Ow.iloadN X hx (pc := 15) (hb hby d0_15) rfl ?_
  refine Ow.iconst X hx (pc := 16) (1) (hb hby d0_16) (by decide) ?_
  refine Ow.icmp_ne X hx (pc := 17) (pc' := 40) (hb hby d0_17) (by decide) (by decide) (fun h17 => ?_) (fun q => absurd q (by decide))
  refine Ow.iloadN X hx (pc := 40) (hb hby d0_40) rfl ?_
  refine Ow.iconst X hx (pc := 41) (2) (hb hby d0_41) (by decide) ?_
  refine Ow.icmp_ne X hx (pc := 42) (pc' := 70) (hb hby d0_42) (by decide) (by decide) (fun h42 => ?_) (fun q => absurd q (by decide))
  refine Ow.iloadN X hx (pc := 70) (hb hby d0_70) rfl ?_
  refine Ow.iconst X hx (pc := 71) (3) (hb hby d0_71) (by decide) ?_
  refine Ow.icmp_ne X hx (pc := 72) (pc' := 105) (hb hby d0_72) (by decide) (by decide) (fun q => absurd rfl q) (fun h72 => ?_)
  refine Ow.iconst X hx (pc := 75) (3) (hb hby d0_75) (by decide) ?_
  refine Ow.newarrayL X hx hZ (ww hw 9 rfl) eT 3 (vs := [_, _, _]) rfl (pc := 76) (hb hby d0_76) (by decide) (by decide) (by decide) (by decide) (by decide) ?_
  intro T h_cA k_cA cA ha_cA X eT E_cA B_cA
  have l_cA : h0.size ≤ cA := by rw [ha_cA]; exact F.size
  have S := S.ext E_cA
  have Sa := Sa.ext E_cA
  have Sh := Sh.ext E_cA
  have Sl := Sl.ext E_cA
  have F := F.ext E_cA
  refine Ow.astore X hx (pc := 78) #[_, _, _, _, _, _] (hb hby d0_78) rfl rfl ?_
  refine Ow.aload X hx (pc := 80) (hb hby d0_80) rfl rfl ?_
  refine Ow.iconst X hx (pc := 82) (0) (hb hby d0_82) (by decide) ?_
  refine Ow.iloadN X hx (pc := 83) (hb hby d0_83) rfl ?_
  refine Ow.castoreL X hx hZ eT B_cA 0 [_, _, _] (by decide) (by decide) rfl rfl (pc := 84) (hb hby d0_84) ?_
  intro T h_84 X eT W_84 B_cA
  rw [hn0] at B_cA W_84
  have S := S.wr W_84
  have Sa := Sa.wr W_84
  have Sh := Sh.wr W_84
  have Sl := Sl.wr W_84
  have F := F.wr W_84 (Or.inr l_cA)
  refine Ow.aload X hx (pc := 85) (hb hby d0_85) rfl rfl ?_
  refine Ow.iconst X hx (pc := 87) (1) (hb hby d0_87) (by decide) ?_
  refine Ow.iloadN X hx (pc := 88) (hb hby d0_88) rfl ?_
  refine Ow.castoreL X hx hZ eT B_cA 1 [_, _, _] (by decide) (by decide) rfl rfl (pc := 89) (hb hby d0_89) ?_
  intro T h_89 X eT W_89 B_cA
  rw [hn1] at B_cA W_89
  have S := S.wr W_89
  have Sa := Sa.wr W_89
  have Sh := Sh.wr W_89
  have Sl := Sl.wr W_89
  have F := F.wr W_89 (Or.inr l_cA)
  refine Ow.aload X hx (pc := 90) (hb hby d0_90) rfl rfl ?_
  refine Ow.iconst X hx (pc := 92) (2) (hb hby d0_92) (by decide) ?_
  refine Ow.iloadN X hx (pc := 93) (hb hby d0_93) rfl ?_
  refine Ow.castoreL X hx hZ eT B_cA 2 [_, _, _] (by decide) (by decide) rfl rfl (pc := 94) (hb hby d0_94) ?_
  intro T h_94 X eT W_94 B_cA
  rw [hn2] at B_cA W_94
  have S := S.wr W_94
  have Sa := Sa.wr W_94
  have Sh := Sh.wr W_94
  have Sl := Sl.wr W_94
  have F := F.wr W_94 (Or.inr l_cA)
  refine Ow.new_ X hx hZ hown (ww hw 6 rfl) (ww hw 7 rfl) (ww hw 8 rfl) eT (pc := 95) (hb hby d0_95) (by decide) (by decide) ?_
  intro T h_x x ha_x X eT E_x A_x D_x U_x
  have l_x : h0.size ≤ x := by rw [ha_x]; exact F.size
  have ne_cA_x : cA ≠ x := by rw [ha_x]; exact Nat.ne_of_lt B_cA.lt
  have S := S.ext E_x
  have Sa := Sa.ext E_x
  have Sh := Sh.ext E_x
  have Sl := Sl.ext E_x
  have B_cA := B_cA.ext E_x
  have F := F.ext E_x
  have V0 := D_x (Or.inr (ww hw 22 rfl)) (ty := .array .byte) (by decide)
  have C0 := D_x (Or.inr (ww hw 23 rfl)) (ty := .byte) (by decide)
  refine Ow.dup X hx (pc := 98) (hb hby d0_98) rfl ?_
  refine Ow.aload X hx (pc := 99) (hb hby d0_99) rfl rfl ?_
  by_cases hL : ∀ ch ∈ [c0, c1, c2], ¬ 255 < ch
  · have H8 : ∀ ch ∈ [c0, c1, c2], ∃ k : Fin 256, ch = Int32.ofNat k.val := fun ch hc => own_small (hr ch hc).1 (hL ch hc)
    refine strLat X hx hZ hw eT hown (ww hw 10 rfl) (cs := [c0, c1, c2]) A_x V0 C0 B_cA S hz 3 rfl (by decide) (by decide) H8 (by rw [hml]; rfl) (pc := 101) (hb hby d0_101) rfl rfl (by decide) (by decide) ?_
    intro T L kx X F2 St
    have F := F.call F2 (fun y hy => by cases List.mem_singleton.mp hy; exact Or.inr l_x)
    exact Ow.areturn X hx hlk hret rfl rfl rfl (hb hby d0_104) ⟨x, _, _, rfl, F, own_txL St hL⟩ (by decide) (by decide)
  · have hex := own_nex hL
    refine Ow.callI X hx hZ (c_new1w3 l Z a0 hw _ z S hz Sa Sh Sl cA _ c0 c1 c2 B_cA hr hex x _ _ A_x V0 C0) eT rfl hown (ww hw 10 rfl) (ww hw 11 rfl) (ww hw 8 rfl) (ww hw 12 rfl) (by decide) pd2 (by rw [hml]; rfl) (argsL := [_]) rfl rfl rfl (pc := 101) (hb hby d0_101) rfl rfl (by decide) (by decide) ?_
    rintro _ T L X ⟨rfl, F2, t2, kb2, St⟩
    dsimp only [Option.toList_some, Option.toList_none, List.cons_append, List.nil_append]
    have F := F.call F2 (fun y hy => by cases List.mem_singleton.mp hy; exact Or.inr l_x)
    exact Ow.areturn X hx hlk hret rfl rfl rfl (hb hby d0_104) ⟨x, t2, kb2, rfl, F, St⟩ (by decide) (by decide)
set_option maxRecDepth 65536 in
set_option maxHeartbeats 40000000 in
theorem c_make4 (l : Launch) (Z : State) (a0 : Array Value) (hw : ∀ d ∈ tables_1, d.before a0 Z = true) (h0 : Heap) (z : Int32) (S : Sta Z h0 "java/lang/String" "COMPACT_STRINGS" "Z" (.int z)) (hz : ¬ z = 0) (Sa : Sta Z h0 "java/lang/StringUTF16" "$assertionsDisabled" "Z" (.int 1)) (Sh : Sta Z h0 "java/lang/StringUTF16" "HI_BYTE_SHIFT" "I" (.int 0)) (Sl : Sta Z h0 "java/lang/StringUTF16" "LO_BYTE_SHIFT" "I" (.int 8)) (c0 c1 c2 c3 : Int32) (hr : ∀ ch ∈ [c0, c1, c2, c3], own_ok ch) : Ow.Pay l Z (⟨"com/example/eunomia/eunomia/builtin/UrlTextIsSchemePinLaw", "make", "(ICCCC)Ljava/lang/String;"⟩ : MethodName) method_4_code 6 (some (.object "java/lang/String")) ({ frames := 6, cells := 4, slots := 20, locals := 88 } : Room) #[(.int 4), (.int c0), (.int c1), (.int c2), (.int c3)] h0 (fun v h L => ∃ x t kb, v = some (.ref x) ∧ Ow.Eff h0 h [] L ∧ own_Tx Z h x t kb [c0, c1, c2, c3]) := by
  refine Ow.Pay.of (Ls := #[.val (.int 4), .val (.int c0), .val (.int c1), .val (.int c2), .val (.int c3), .unset]) (plainFor_of_name pn4) (fun m => by first | rfl | (simp [entryFrame, mkF, argsToLocals, Value.category]; done)) ?_
  intro p e s m below meth c T hx hby hml hown hnm hme hZ hret hlk X eT
  have F := Ow.Eff.refl h0 []
  have hn0 : nar .char c0 = c0 := own_narc (hr c0 (by simp))
  have hn1 : nar .char c1 = c1 := own_narc (hr c1 (by simp))
  have hn2 : nar .char c2 = c2 := own_narc (hr c2 (by simp))
  have hn3 : nar .char c3 = c3 := own_narc (hr c3 (by simp))
  refine Ow.iloadN X hx (pc := 0) (hb hby d0_0) rfl ?_
  refine Ow.if_ne X hx (pc := 1) (pc' := 15) (hb hby d0_1) (by decide) (by decide) (fun h1 => ?_) (fun q => absurd q (by decide))
  refine Ow.iloadN X hx (pc := 15) (hb hby d0_15) rfl ?_
  refine Ow.iconst X hx (pc := 16) (1) (hb hby d0_16) (by decide) ?_
  refine Ow.icmp_ne X hx (pc := 17) (pc' := 40) (hb hby d0_17) (by decide) (by decide) (fun h17 => ?_) (fun q => absurd q (by decide))
  refine Ow.iloadN X hx (pc := 40) (hb hby d0_40) rfl ?_
  refine Ow.iconst X hx (pc := 41) (2) (hb hby d0_41) (by decide) ?_
  refine Ow.icmp_ne X hx (pc := 42) (pc' := 70) (hb hby d0_42) (by decide) (by decide) (fun h42 => ?_) (fun q => absurd q (by decide))
  refine Ow.iloadN X hx (pc := 70) (hb hby d0_70) rfl ?_
  refine Ow.iconst X hx (pc := 71) (3) (hb hby d0_71) (by decide) ?_
  refine Ow.icmp_ne X hx (pc := 72) (pc' := 105) (hb hby d0_72) (by decide) (by decide) (fun h72 => ?_) (fun q => absurd q (by decide))
  refine Ow.iconst X hx (pc := 105) (4) (hb hby d0_105) (by decide) ?_
  refine Ow.newarrayL X hx hZ (ww hw 9 rfl) eT 4 (vs := [_, _, _, _]) rfl (pc := 106) (hb hby d0_106) (by decide) (by decide) (by decide) (by decide) (by decide) ?_
  intro T h_cA k_cA cA ha_cA X eT E_cA B_cA
  have l_cA : h0.size ≤ cA := by rw [ha_cA]; exact F.size
  have S := S.ext E_cA
  have Sa := Sa.ext E_cA
  have Sh := Sh.ext E_cA
  have Sl := Sl.ext E_cA
  have F := F.ext E_cA
  refine Ow.astore X hx (pc := 108) #[_, _, _, _, _, _] (hb hby d0_108) rfl rfl ?_
  refine Ow.aload X hx (pc := 110) (hb hby d0_110) rfl rfl ?_
  refine Ow.iconst X hx (pc := 112) (0) (hb hby d0_112) (by decide) ?_
  refine Ow.iloadN X hx (pc := 113) (hb hby d0_113) rfl ?_
  refine Ow.castoreL X hx hZ eT B_cA 0 [_, _, _, _] (by decide) (by decide) rfl rfl (pc := 114) (hb hby d0_114) ?_
  intro T h_114 X eT W_114 B_cA
  rw [hn0] at B_cA W_114
  have S := S.wr W_114
  have Sa := Sa.wr W_114
  have Sh := Sh.wr W_114
  have Sl := Sl.wr W_114
  have F := F.wr W_114 (Or.inr l_cA)
  refine Ow.aload X hx (pc := 115) (hb hby d0_115) rfl rfl ?_
  refine Ow.iconst X hx (pc := 117) (1) (hb hby d0_117) (by decide) ?_
  refine Ow.iloadN X hx (pc := 118) (hb hby d0_118) rfl ?_
  refine Ow.castoreL X hx hZ eT B_cA 1 [_, _, _, _] (by decide) (by decide) rfl rfl (pc := 119) (hb hby d0_119) ?_
  intro T h_119 X eT W_119 B_cA
  rw [hn1] at B_cA W_119
  have S := S.wr W_119
  have Sa := Sa.wr W_119
  have Sh := Sh.wr W_119
  have Sl := Sl.wr W_119
  have F := F.wr W_119 (Or.inr l_cA)
  refine Ow.aload X hx (pc := 120) (hb hby d0_120) rfl rfl ?_
  refine Ow.iconst X hx (pc := 122) (2) (hb hby d0_122) (by decide) ?_
  refine Ow.iloadN X hx (pc := 123) (hb hby d0_123) rfl ?_
  refine Ow.castoreL X hx hZ eT B_cA 2 [_, _, _, _] (by decide) (by decide) rfl rfl (pc := 124) (hb hby d0_124) ?_
  intro T h_124 X eT W_124 B_cA
  rw [hn2] at B_cA W_124
  have S := S.wr W_124
  have Sa := Sa.wr W_124
  have Sh := Sh.wr W_124
  have Sl := Sl.wr W_124
  have F := F.wr W_124 (Or.inr l_cA)
  refine Ow.aload X hx (pc := 125) (hb hby d0_125) rfl rfl ?_
  refine Ow.iconst X hx (pc := 127) (3) (hb hby d0_127) (by decide) ?_
  refine Ow.iload X hx (pc := 128) (hb hby d0_128) rfl ?_
  refine Ow.castoreL X hx hZ eT B_cA 3 [_, _, _, _] (by decide) (by decide) rfl rfl (pc := 130) (hb hby d0_130) ?_
  intro T h_130 X eT W_130 B_cA
  rw [hn3] at B_cA W_130
  have S := S.wr W_130
  have Sa := Sa.wr W_130
  have Sh := Sh.wr W_130
  have Sl := Sl.wr W_130
  have F := F.wr W_130 (Or.inr l_cA)
  refine Ow.new_ X hx hZ hown (ww hw 6 rfl) (ww hw 7 rfl) (ww hw 8 rfl) eT (pc := 131) (hb hby d0_131) (by decide) (by decide) ?_
  intro T h_x x ha_x X eT E_x A_x D_x U_x
  have l_x : h0.size ≤ x := by rw [ha_x]; exact F.size
  have ne_cA_x : cA ≠ x := by rw [ha_x]; exact Nat.ne_of_lt B_cA.lt
  have S := S.ext E_x
  have Sa := Sa.ext E_x
  have Sh := Sh.ext E_x
  have Sl := Sl.ext E_x
  have B_cA := B_cA.ext E_x
  have F := F.ext E_x
  have V0 := D_x (Or.inr (ww hw 22 rfl)) (ty := .array .byte) (by decide)
  have C0 := D_x (Or.inr (ww hw 23 rfl)) (ty := .byte) (by decide)
  refine Ow.dup X hx (pc := 134) (hb hby d0_134) rfl ?_
  refine Ow.aload X hx (pc := 135) (hb hby d0_135) rfl rfl ?_
  by_cases hL : ∀ ch ∈ [c0, c1, c2, c3], ¬ 255 < ch
  · have H8 : ∀ ch ∈ [c0, c1, c2, c3], ∃ k : Fin 256, ch = Int32.ofNat k.val := fun ch hc => own_small (hr ch hc).1 (hL ch hc)
    refine strLat X hx hZ hw eT hown (ww hw 10 rfl) (cs := [c0, c1, c2, c3]) A_x V0 C0 B_cA S hz 4 rfl (by decide) (by decide) H8 (by rw [hml]; rfl) (pc := 137) (hb hby d0_137) rfl rfl (by decide) (by decide) ?_
    intro T L kx X F2 St
    have F := F.call F2 (fun y hy => by cases List.mem_singleton.mp hy; exact Or.inr l_x)
    exact Ow.areturn X hx hlk hret rfl rfl rfl (hb hby d0_140) ⟨x, _, _, rfl, F, own_txL St hL⟩ (by decide) (by decide)
  · have hex := own_nex hL
    refine Ow.callI X hx hZ (c_new1w4 l Z a0 hw _ z S hz Sa Sh Sl cA _ c0 c1 c2 c3 B_cA hr hex x _ _ A_x V0 C0) eT rfl hown (ww hw 10 rfl) (ww hw 11 rfl) (ww hw 8 rfl) (ww hw 12 rfl) (by decide) pd2 (by rw [hml]; rfl) (argsL := [_]) rfl rfl rfl (pc := 137) (hb hby d0_137) rfl rfl (by decide) (by decide) ?_
    rintro _ T L X ⟨rfl, F2, t2, kb2, St⟩
    dsimp only [Option.toList_some, Option.toList_none, List.cons_append, List.nil_append]
    have F := F.call F2 (fun y hy => by cases List.mem_singleton.mp hy; exact Or.inr l_x)
    exact Ow.areturn X hx hlk hret rfl rfl rfl (hb hby d0_140) ⟨x, t2, kb2, rfl, F, St⟩ (by decide) (by decide)
set_option maxRecDepth 65536 in
set_option maxHeartbeats 4000000 in
theorem c_make0 (l : Launch) (Z : State) (a0 : Array Value) (hw : ∀ d ∈ tables_1, d.before a0 Z = true) (hEL : EW Z a0 EL) (h0 : Heap) (c0 c1 c2 c3 : Int32) : Ow.PayW l Z EL [] (⟨"com/example/eunomia/eunomia/builtin/UrlTextIsSchemePinLaw", "make", "(ICCCC)Ljava/lang/String;"⟩ : MethodName) method_4_code 6 (some (.object "java/lang/String")) ({ frames := 3, cells := 6, slots := 12, locals := 74 } : Room) #[(.int 0), (.int c0), (.int c1), (.int c2), (.int c3)] h0 (fun v h L => ∃ x t kb, v = some (.ref x) ∧ Ow.Eff h0 h [] L ∧ own_Tx Z h x t kb []) := by
  refine Ow.PayW.of (Ls := #[.val (.int 0), .val (.int c0), .val (.int c1), .val (.int c2), .val (.int c3), .unset]) (plainFor_of_name pn4) (fun m => by first | rfl | (simp [entryFrame, mkF, argsToLocals, Value.category]; done)) ?_
  intro p e s m below meth c T vm0 hx hby hml hown hnm hme hret hlk X eT D hsf
  have F := Ow.Eff.refl h0 []
  refine Ow.iloadN X hx (pc := 0) (hb hby d0_0) rfl ?_
  refine Ow.if_ne X hx (pc := 1) (pc' := 15) (hb hby d0_1) (by decide) (by decide) (fun q => absurd rfl q) (fun h1 => ?_)
  refine Ow.new_ X hx D.hZ hown (ww hw 6 rfl) (ww hw 7 rfl) (ww hw 8 rfl) eT (pc := 4) (hb hby d0_4) (by decide) (by decide) ?_
  intro T h_x x ha_x X eT E_x A_x D_x U_x
  have l_x : h0.size ≤ x := by rw [ha_x]; exact F.size
  have S_x := D.safeNew E_x
  rw [← ha_x] at S_x
  have F := F.ext E_x
  have D := D.ext E_x
  have V0 := D_x (Or.inr (ww hw 22 rfl)) (ty := .array .byte) (by decide)
  have C0 := D_x (Or.inr (ww hw 23 rfl)) (ty := .byte) (by decide)
  refine Ow.dup X hx (pc := 7) (hb hby d0_7) rfl ?_
  refine Ow.iconst X hx (pc := 8) (0) (hb hby d0_8) (by decide) ?_
  refine Ow.newarrayL X hx D.hZ (ww hw 9 rfl) eT 0 (vs := []) rfl (pc := 9) (hb hby d0_9) (by decide) (by decide) (by decide) (by decide) (by decide) ?_
  intro T h_cA k_cA cA ha_cA X eT E_cA B_cA
  have l_cA : h0.size ≤ cA := by rw [ha_cA]; exact F.size
  have ne_x_cA : x ≠ cA := by rw [ha_cA]; exact Nat.ne_of_lt A_x.lt
  have S_cA := D.safeNew E_cA
  rw [← ha_cA] at S_cA
  have A_x := A_x.ext E_cA
  have V0 := V0.ext E_cA
  have C0 := C0.ext E_cA
  have S_x := D.safeExt E_cA S_x
  have F := F.ext E_cA
  have D := D.ext E_cA
  refine Ow.callIW X hx (c_new1e l Z a0 hw hEL _ _ _ _ _ A_x V0 C0 _ B_cA) eT D hEL (fun y hy => by cases List.mem_singleton.mp hy; exact ⟨A_x.lt, S_x⟩) rfl hown (ww hw 10 rfl) (ww hw 11 rfl) (ww hw 8 rfl) (ww hw 12 rfl) (by decide) pd2 (by rw [hml]; rfl) (argsL := [_]) rfl rfl rfl (pc := 11) (hb hby d0_11) rfl rfl (by decide) (by decide) ?_
  rintro _ vm1 T L X ⟨rfl, F2, t_x, kb_x, St_x⟩ D hown C1
  dsimp only [Option.toList_some, Option.toList_none, List.cons_append, List.nil_append]
  have F := F.call F2 (fun y hy => by cases List.mem_singleton.mp hy; exact Or.inr l_x)
  have eT : T.heap = T.heap := rfl
  exact Ow.areturnW X hx eT D hEL hlk hret rfl rfl rfl (hb hby d0_14) ⟨x, t_x, kb_x, rfl, F, own_txL (cs := []) St_x (fun _ q => nomatch q)⟩ (by decide) (by decide)
theorem own_len5 (x : Int32) : ∃ n : Nat, n ≤ 4 ∧ (x &&& 2147483647) % 5 = Int32.ofNat n := by
  have h1 : 0 ≤ (x &&& 2147483647).toInt := by
    rw [Int32.toInt]
    have hm : (x &&& 2147483647).toBitVec.msb = false := by
      rw [Int32.toBitVec_and, BitVec.msb_and, show (2147483647 : Int32).toBitVec.msb = false from by decide, Bool.and_false]
    rw [BitVec.toInt_eq_msb_cond, hm]; simp
  have h2 : ((x &&& 2147483647) % 5).toInt = (x &&& 2147483647).toInt.tmod 5 := by
    rw [Int32.toInt_mod]; rfl
  have h3 : (x &&& 2147483647).toInt.tmod 5 = (x &&& 2147483647).toInt % 5 := Int.tmod_eq_emod_of_nonneg h1
  refine ⟨((x &&& 2147483647).toInt % 5).toNat, by omega, Int32.toInt_inj.mp ?_⟩
  rw [Int32.toInt_ofNat_of_lt (by omega), h2, h3]; omega
def own_exp1 (c0 : Int32) : Int32 := if own_let c0 = 0 then 0 else 1
theorem own_pl1 (c0 : Int32) : own_is [c0] = own_exp1 c0 := by
  have e : own_sl [c0] 0 1 = (if own_sc c0 1 = 0 then 0 else 1) := rfl
  show (if own_sl [c0] 0 1 = 1 then (1 : Int32) else 0) = _
  rw [e]
  unfold own_exp1
  simp only [own_sc1, own_sc0]
  by_cases h0 : own_let c0 = 0 <;> simp [h0]
def own_exp2 (c0 c1 : Int32) : Int32 := if own_let c0 = 0 then 0 else if own_lsc c1 = 0 then 0 else 1
theorem own_pl2 (c0 c1 : Int32) : own_is [c0, c1] = own_exp2 c0 c1 := by
  have e : own_sl [c0, c1] 0 2 = (if own_sc c0 1 = 0 then 0 else if own_sc c1 0 = 0 then 1 else 2) := rfl
  show (if own_sl [c0, c1] 0 2 = 2 then (1 : Int32) else 0) = _
  rw [e]
  unfold own_exp2
  simp only [own_sc1, own_sc0]
  by_cases h0 : own_let c0 = 0 <;> by_cases h1 : own_lsc c1 = 0 <;> simp [h0, h1]
def own_exp3 (c0 c1 c2 : Int32) : Int32 := if own_let c0 = 0 then 0 else if own_lsc c1 = 0 then 0 else if own_lsc c2 = 0 then 0 else 1
theorem own_pl3 (c0 c1 c2 : Int32) : own_is [c0, c1, c2] = own_exp3 c0 c1 c2 := by
  have e : own_sl [c0, c1, c2] 0 3 = (if own_sc c0 1 = 0 then 0 else if own_sc c1 0 = 0 then 1 else if own_sc c2 0 = 0 then 2 else 3) := rfl
  show (if own_sl [c0, c1, c2] 0 3 = 3 then (1 : Int32) else 0) = _
  rw [e]
  unfold own_exp3
  simp only [own_sc1, own_sc0]
  by_cases h0 : own_let c0 = 0 <;> by_cases h1 : own_lsc c1 = 0 <;> by_cases h2 : own_lsc c2 = 0 <;> simp [h0, h1, h2]
def own_exp4 (c0 c1 c2 c3 : Int32) : Int32 := if own_let c0 = 0 then 0 else if own_lsc c1 = 0 then 0 else if own_lsc c2 = 0 then 0 else if own_lsc c3 = 0 then 0 else 1
theorem own_pl4 (c0 c1 c2 c3 : Int32) : own_is [c0, c1, c2, c3] = own_exp4 c0 c1 c2 c3 := by
  have e : own_sl [c0, c1, c2, c3] 0 4 = (if own_sc c0 1 = 0 then 0 else if own_sc c1 0 = 0 then 1 else if own_sc c2 0 = 0 then 2 else if own_sc c3 0 = 0 then 3 else 4) := rfl
  show (if own_sl [c0, c1, c2, c3] 0 4 = 4 then (1 : Int32) else 0) = _
  rw [e]
  unfold own_exp4
  simp only [own_sc1, own_sc0]
  by_cases h0 : own_let c0 = 0 <;> by_cases h1 : own_lsc c1 = 0 <;> by_cases h2 : own_lsc c2 = 0 <;> by_cases h3 : own_lsc c3 = 0 <;> simp [h0, h1, h2, h3]
set_option maxRecDepth 65536 in
set_option maxHeartbeats 40000000 in
theorem law_0 (l : Launch) (Z : State) (a0 : Array Value) (hw : ∀ d ∈ tables_1, d.before a0 Z = true) (hEL : EW Z a0 EL) (h0 : Heap) (z p0 p1 p2 p3 p4 : Int32) (fm : Value) (S : Sta Z h0 "java/lang/String" "COMPACT_STRINGS" "Z" (.int z)) (hz : ¬ z = 0) (Sf : Sta Z h0 "jdk/internal/util/Preconditions" "SIOOBE_FORMATTER" "Ljava/util/function/BiFunction;" fm) (hfm : fm.isRef = true) (Sa : Sta Z h0 "java/lang/StringUTF16" "$assertionsDisabled" "Z" (.int 1)) (Sh : Sta Z h0 "java/lang/StringUTF16" "HI_BYTE_SHIFT" "I" (.int 0)) (Sl : Sta Z h0 "java/lang/StringUTF16" "LO_BYTE_SHIFT" "I" (.int 8)) (hlen : (p0 &&& 2147483647) % 5 = 0) : Ow.PayW l Z EL [] x code maxLocals ret room_1 #[(.int p0), (.int p1), (.int p2), (.int p3), (.int p4)] h0 (fun v h L => v = some (.int 1) ∧ Ow.Eff h0 h [] L) := by
  refine Ow.PayW.of (Ls := #[.val (.int p0), .val (.int p1), .val (.int p2), .val (.int p3), .val (.int p4), .unset, .unset, .unset, .unset, .unset, .unset, .unset]) (plainFor_of_name pn4) (fun m => by first | rfl | (simp [entryFrame, mkF, argsToLocals, Value.category, maxLocals]; done)) ?_
  intro p e s m below meth c T vm0 hx hby hml hown hnm hme hret hlk X eT D hsf
  have F := Ow.Eff.refl h0 []
  have hy5 : (5 : Int32) ≠ 0 := by decide
  obtain ⟨c0, hc0⟩ : ∃ q, q = (p1 &&& 65535).toUInt32.toUInt16.toUInt32.toInt32 := ⟨_, rfl⟩
  obtain ⟨c1, hc1⟩ : ∃ q, q = (p2 &&& 65535).toUInt32.toUInt16.toUInt32.toInt32 := ⟨_, rfl⟩
  obtain ⟨c2, hc2⟩ : ∃ q, q = (p3 &&& 65535).toUInt32.toUInt16.toUInt32.toInt32 := ⟨_, rfl⟩
  obtain ⟨c3, hc3⟩ : ∃ q, q = (p4 &&& 65535).toUInt32.toUInt16.toUInt32.toInt32 := ⟨_, rfl⟩
  have hr : ∀ ch ∈ ([] : List Int32), own_ok ch := fun ch hc => by
    cases hc
  refine Ow.iloadN X hx (pc := 0) (hb hby at_0) rfl ?_
  refine Ow.ldcI X hx (pc := 1) (2147483647) (hb hby at_1) hown (mvT D.hZ (ww hw 0 rfl)) ?_
  refine Ow.iand X hx (pc := 3) (hb hby at_3) ?_
  refine Ow.iconst X hx (pc := 4) (5) (hb hby at_4) (by decide) ?_
  refine Ow.irem X hx (pc := 5) (hb hby at_5) hy5 ?_
  rw [hlen]
  refine Ow.istore X hx (pc := 6) #[_, _, _, _, _, _, _, _, _, _, _, _] (hb hby at_6) rfl ?_
  refine Ow.iloadN X hx (pc := 8) (hb hby at_8) rfl ?_
  refine Ow.ldcI X hx (pc := 9) (65535) (hb hby at_9) hown (mvT D.hZ (ww hw 1 rfl)) ?_
  refine Ow.iand X hx (pc := 11) (hb hby at_11) ?_
  refine Ow.i2c X hx (pc := 12) (hb hby at_12) ?_
  rw [← hc0]
  refine Ow.istore X hx (pc := 13) #[_, _, _, _, _, _, _, _, _, _, _, _] (hb hby at_13) rfl ?_
  refine Ow.iloadN X hx (pc := 15) (hb hby at_15) rfl ?_
  refine Ow.ldcI X hx (pc := 16) (65535) (hb hby at_16) hown (mvT D.hZ (ww hw 1 rfl)) ?_
  refine Ow.iand X hx (pc := 18) (hb hby at_18) ?_
  refine Ow.i2c X hx (pc := 19) (hb hby at_19) ?_
  rw [← hc1]
  refine Ow.istore X hx (pc := 20) #[_, _, _, _, _, _, _, _, _, _, _, _] (hb hby at_20) rfl ?_
  refine Ow.iloadN X hx (pc := 22) (hb hby at_22) rfl ?_
  refine Ow.ldcI X hx (pc := 23) (65535) (hb hby at_23) hown (mvT D.hZ (ww hw 1 rfl)) ?_
  refine Ow.iand X hx (pc := 25) (hb hby at_25) ?_
  refine Ow.i2c X hx (pc := 26) (hb hby at_26) ?_
  rw [← hc2]
  refine Ow.istore X hx (pc := 27) #[_, _, _, _, _, _, _, _, _, _, _, _] (hb hby at_27) rfl ?_
  refine Ow.iload X hx (pc := 29) (hb hby at_29) rfl ?_
  refine Ow.ldcI X hx (pc := 31) (65535) (hb hby at_31) hown (mvT D.hZ (ww hw 1 rfl)) ?_
  refine Ow.iand X hx (pc := 33) (hb hby at_33) ?_
  refine Ow.i2c X hx (pc := 34) (hb hby at_34) ?_
  rw [← hc3]
  refine Ow.istore X hx (pc := 35) #[_, _, _, _, _, _, _, _, _, _, _, _] (hb hby at_35) rfl ?_
  refine Ow.iload X hx (pc := 37) (hb hby at_37) rfl ?_
  refine Ow.iload X hx (pc := 39) (hb hby at_39) rfl ?_
  refine Ow.iload X hx (pc := 41) (hb hby at_41) rfl ?_
  refine Ow.iload X hx (pc := 43) (hb hby at_43) rfl ?_
  refine Ow.iload X hx (pc := 45) (hb hby at_45) rfl ?_
  refine Ow.callSW X hx (c_make0 l Z a0 hw hEL _ c0 c1 c2 c3) eT D hEL (fun _ q => nomatch q) hown (ww hw 2 rfl) (ww hw 3 rfl) (ww hw 4 rfl) (ww hw 5 rfl) (by decide) pd21 (by rw [hml]; rfl) (argsL := [_, _, _, _, _]) rfl rfl rfl (pc := 47) (hb hby at_47) rfl rfl (by decide) (by decide) ?_
  rintro _ vm1 T L X ⟨x, t, kb, rfl, F2, St⟩ D hown C1
  dsimp only [Option.toList_some, Option.toList_none, List.cons_append, List.nil_append]
  have F := F.call F2 (fun _ q => nomatch q)
  have S := S.ext (Ow.Keep.ext0 F2.1)
  have Sf := Sf.ext (Ow.Keep.ext0 F2.1)
  have Sa := Sa.ext (Ow.Keep.ext0 F2.1)
  have Sh := Sh.ext (Ow.Keep.ext0 F2.1)
  have Sl := Sl.ext (Ow.Keep.ext0 F2.1)
  obtain ⟨hh, ehh⟩ : ∃ q, q = T.heap := ⟨_, rfl⟩
  rw [← ehh] at F D S Sf Sa Sh Sl St
  have eT : T.heap = hh := ehh.symm
  refine Ow.astore X hx (pc := 50) #[_, _, _, _, _, _, _, _, _, _, _, _] (hb hby at_50) rfl rfl ?_
  refine Ow.iload X hx (pc := 52) (hb hby at_52) rfl ?_
  refine Ow.if_le X hx (pc := 54) (pc' := 111) (hb hby at_54) (by decide) (by decide) (fun h54 => ?_) (fun q => absurd q (by decide))
  refine Ow.iconst X hx (pc := 111) (0) (hb hby at_111) (by decide) ?_
  refine Ow.istore X hx (pc := 112) #[_, _, _, _, _, _, _, _, _, _, _, _] (hb hby at_112) rfl ?_
  refine Ow.aload X hx (pc := 114) (hb hby at_114) rfl rfl ?_
  refine Ow.callSP X hx D.hZ (c_is l Z a0 hw hh z fm S hz Sf hfm Sa Sh Sl x t kb [] St (by simp) hr) rfl rfl eT hown (ww hw 28 rfl) (ww hw 29 rfl) (ww hw 30 rfl) (ww hw 31 rfl) (by decide) pd22 (by rw [hml]; rfl) (argsL := [_]) rfl rfl rfl (pc := 116) (hb hby at_116) rfl rfl (by decide) (by decide) ?_   -- com/example/eunomia/eunomia/builtin/UrlText.isScheme:(Ljava/lang/String;)Z
  intro T X eT
  dsimp only [Option.toList_some, Option.toList_none, List.cons_append, List.nil_append]
  refine Ow.iload X hx (pc := 119) (hb hby at_119) rfl ?_
  refine Ow.icmp_ne X hx (pc := 121) (pc' := 128) (hb hby at_121) (by decide) (by decide) (fun q => absurd (show own_is [] = 0 from rfl) q) (fun h121 => ?_)
  refine Ow.iconst X hx (pc := 124) (1) (hb hby at_124) (by decide) ?_
  refine Ow.goto X hx (pc := 125) (pc' := 129) (hb hby at_125) (by decide) (by decide) ?_
  exact Ow.nreturnW X hx eT D hEL hlk hret (Or.inl rfl) (hb hby at_129) ⟨rfl, by rw [eT]; exact F⟩ (by decide) (by decide)
set_option maxRecDepth 65536 in
set_option maxHeartbeats 40000000 in
theorem law_1 (l : Launch) (Z : State) (a0 : Array Value) (hw : ∀ d ∈ tables_1, d.before a0 Z = true) (hEL : EW Z a0 EL) (h0 : Heap) (z p0 p1 p2 p3 p4 : Int32) (fm : Value) (S : Sta Z h0 "java/lang/String" "COMPACT_STRINGS" "Z" (.int z)) (hz : ¬ z = 0) (Sf : Sta Z h0 "jdk/internal/util/Preconditions" "SIOOBE_FORMATTER" "Ljava/util/function/BiFunction;" fm) (hfm : fm.isRef = true) (Sa : Sta Z h0 "java/lang/StringUTF16" "$assertionsDisabled" "Z" (.int 1)) (Sh : Sta Z h0 "java/lang/StringUTF16" "HI_BYTE_SHIFT" "I" (.int 0)) (Sl : Sta Z h0 "java/lang/StringUTF16" "LO_BYTE_SHIFT" "I" (.int 8)) (hlen : (p0 &&& 2147483647) % 5 = 1) : Ow.PayW l Z EL [] x code maxLocals ret room_1 #[(.int p0), (.int p1), (.int p2), (.int p3), (.int p4)] h0 (fun v h L => v = some (.int 1) ∧ Ow.Eff h0 h [] L) := by
  refine Ow.PayW.of (Ls := #[.val (.int p0), .val (.int p1), .val (.int p2), .val (.int p3), .val (.int p4), .unset, .unset, .unset, .unset, .unset, .unset, .unset]) (plainFor_of_name pn4) (fun m => by first | rfl | (simp [entryFrame, mkF, argsToLocals, Value.category, maxLocals]; done)) ?_
  intro p e s m below meth c T vm0 hx hby hml hown hnm hme hret hlk X eT D hsf
  have F := Ow.Eff.refl h0 []
  have hy5 : (5 : Int32) ≠ 0 := by decide
  obtain ⟨c0, hc0⟩ : ∃ q, q = (p1 &&& 65535).toUInt32.toUInt16.toUInt32.toInt32 := ⟨_, rfl⟩
  obtain ⟨c1, hc1⟩ : ∃ q, q = (p2 &&& 65535).toUInt32.toUInt16.toUInt32.toInt32 := ⟨_, rfl⟩
  obtain ⟨c2, hc2⟩ : ∃ q, q = (p3 &&& 65535).toUInt32.toUInt16.toUInt32.toInt32 := ⟨_, rfl⟩
  obtain ⟨c3, hc3⟩ : ∃ q, q = (p4 &&& 65535).toUInt32.toUInt16.toUInt32.toInt32 := ⟨_, rfl⟩
  have hr : ∀ ch ∈ ([c0] : List Int32), own_ok ch := fun ch hc => by
    simp only [List.mem_cons, List.not_mem_nil, or_false] at hc
    rcases hc with rfl
    · rw [hc0]; exact own_okc _
  refine Ow.iloadN X hx (pc := 0) (hb hby at_0) rfl ?_
  refine Ow.ldcI X hx (pc := 1) (2147483647) (hb hby at_1) hown (mvT D.hZ (ww hw 0 rfl)) ?_
  refine Ow.iand X hx (pc := 3) (hb hby at_3) ?_
  refine Ow.iconst X hx (pc := 4) (5) (hb hby at_4) (by decide) ?_
  refine Ow.irem X hx (pc := 5) (hb hby at_5) hy5 ?_
  rw [hlen]
  refine Ow.istore X hx (pc := 6) #[_, _, _, _, _, _, _, _, _, _, _, _] (hb hby at_6) rfl ?_
  refine Ow.iloadN X hx (pc := 8) (hb hby at_8) rfl ?_
  refine Ow.ldcI X hx (pc := 9) (65535) (hb hby at_9) hown (mvT D.hZ (ww hw 1 rfl)) ?_
  refine Ow.iand X hx (pc := 11) (hb hby at_11) ?_
  refine Ow.i2c X hx (pc := 12) (hb hby at_12) ?_
  rw [← hc0]
  refine Ow.istore X hx (pc := 13) #[_, _, _, _, _, _, _, _, _, _, _, _] (hb hby at_13) rfl ?_
  refine Ow.iloadN X hx (pc := 15) (hb hby at_15) rfl ?_
  refine Ow.ldcI X hx (pc := 16) (65535) (hb hby at_16) hown (mvT D.hZ (ww hw 1 rfl)) ?_
  refine Ow.iand X hx (pc := 18) (hb hby at_18) ?_
  refine Ow.i2c X hx (pc := 19) (hb hby at_19) ?_
  rw [← hc1]
  refine Ow.istore X hx (pc := 20) #[_, _, _, _, _, _, _, _, _, _, _, _] (hb hby at_20) rfl ?_
  refine Ow.iloadN X hx (pc := 22) (hb hby at_22) rfl ?_
  refine Ow.ldcI X hx (pc := 23) (65535) (hb hby at_23) hown (mvT D.hZ (ww hw 1 rfl)) ?_
  refine Ow.iand X hx (pc := 25) (hb hby at_25) ?_
  refine Ow.i2c X hx (pc := 26) (hb hby at_26) ?_
  rw [← hc2]
  refine Ow.istore X hx (pc := 27) #[_, _, _, _, _, _, _, _, _, _, _, _] (hb hby at_27) rfl ?_
  refine Ow.iload X hx (pc := 29) (hb hby at_29) rfl ?_
  refine Ow.ldcI X hx (pc := 31) (65535) (hb hby at_31) hown (mvT D.hZ (ww hw 1 rfl)) ?_
  refine Ow.iand X hx (pc := 33) (hb hby at_33) ?_
  refine Ow.i2c X hx (pc := 34) (hb hby at_34) ?_
  rw [← hc3]
  refine Ow.istore X hx (pc := 35) #[_, _, _, _, _, _, _, _, _, _, _, _] (hb hby at_35) rfl ?_
  refine Ow.iload X hx (pc := 37) (hb hby at_37) rfl ?_
  refine Ow.iload X hx (pc := 39) (hb hby at_39) rfl ?_
  refine Ow.iload X hx (pc := 41) (hb hby at_41) rfl ?_
  refine Ow.iload X hx (pc := 43) (hb hby at_43) rfl ?_
  refine Ow.iload X hx (pc := 45) (hb hby at_45) rfl ?_
  refine Ow.callS X hx D.hZ (c_make1 l Z a0 hw _ z S hz Sa Sh Sl c0 c1 c2 c3 hr) eT hown (ww hw 2 rfl) (ww hw 3 rfl) (ww hw 4 rfl) (ww hw 5 rfl) (by decide) pd21 (by rw [hml]; rfl) (argsL := [_, _, _, _, _]) rfl rfl rfl (pc := 47) (hb hby at_47) rfl rfl (by decide) (by decide) ?_
  rintro _ T L X ⟨x, t, kb, rfl, F2, St⟩
  dsimp only [Option.toList_some, Option.toList_none, List.cons_append, List.nil_append]
  have D := D.ext (Ow.Keep.ext0 F2.1)
  have F := F.call F2 (fun _ q => nomatch q)
  have S := S.ext (Ow.Keep.ext0 F2.1)
  have Sf := Sf.ext (Ow.Keep.ext0 F2.1)
  have Sa := Sa.ext (Ow.Keep.ext0 F2.1)
  have Sh := Sh.ext (Ow.Keep.ext0 F2.1)
  have Sl := Sl.ext (Ow.Keep.ext0 F2.1)
  obtain ⟨hh, ehh⟩ : ∃ q, q = T.heap := ⟨_, rfl⟩
  rw [← ehh] at F D S Sf Sa Sh Sl St
  have eT : T.heap = hh := ehh.symm
  refine Ow.astore X hx (pc := 50) #[_, _, _, _, _, _, _, _, _, _, _, _] (hb hby at_50) rfl rfl ?_
  refine Ow.joinI X eT (fun v => v = own_exp1 c0) 112 ?_ (fun J => ?_)
  rotate_left
  · refine Ow.iload X hx (pc := 52) (hb hby at_52) rfl ?_
    refine Ow.if_le X hx (pc := 54) (pc' := 111) (hb hby at_54) (by decide) (by decide) (fun q => absurd (by decide) q) (fun h54 => ?_)
    refine Ow.iload X hx (pc := 57) (hb hby at_57) rfl ?_
    refine Ow.callSP X hx D.hZ (c_ial l Z a0 hw hh _) rfl rfl eT hown (ww hw 48 rfl) (ww hw 49 rfl) (ww hw 4 rfl) (ww hw 50 rfl) (by decide) pd10 (by rw [hml]; rfl) (argsL := [_]) rfl rfl rfl (pc := 59) (hb hby at_59) rfl rfl (by decide) (by decide) ?_   -- com/example/eunomia/eunomia/builtin/UrlTextIsSchemePinLaw.isAsciiLetter:(C)Z
    intro T X eT
    dsimp only [Option.toList_some, Option.toList_none, List.cons_append, List.nil_append]
    refine Ow.if_eq X hx (pc := 62) (pc' := 111) (hb hby at_62) (by decide) (by decide) (fun h62 => ?_) (fun h62 => ?_)
    · refine Ow.iconst X hx (pc := 111) (0) (hb hby at_111) (by decide) ?_
      exact J _ T X eT (by unfold own_exp1; rw [if_pos h62])
    · refine Ow.iload X hx (pc := 65) (hb hby at_65) rfl ?_
      refine Ow.iconst X hx (pc := 67) (2) (hb hby at_67) (by decide) ?_
      refine Ow.icmp_lt X hx (pc := 68) (pc' := 79) (hb hby at_68) (by decide) (by decide) (fun h68 => ?_) (fun q => absurd (by decide) q)
      refine Ow.iload X hx (pc := 79) (hb hby at_79) rfl ?_
      refine Ow.iconst X hx (pc := 81) (3) (hb hby at_81) (by decide) ?_
      refine Ow.icmp_lt X hx (pc := 82) (pc' := 93) (hb hby at_82) (by decide) (by decide) (fun h82 => ?_) (fun q => absurd (by decide) q)
      refine Ow.iload X hx (pc := 93) (hb hby at_93) rfl ?_
      refine Ow.iconst X hx (pc := 95) (4) (hb hby at_95) (by decide) ?_
      refine Ow.icmp_lt X hx (pc := 96) (pc' := 107) (hb hby at_96) (by decide) (by decide) (fun h96 => ?_) (fun q => absurd (by decide) q)
      refine Ow.iconst X hx (pc := 107) (1) (hb hby at_107) (by decide) ?_
      refine Ow.goto X hx (pc := 108) (pc' := 112) (hb hby at_108) (by decide) (by decide) ?_
      exact J _ T X eT (by unfold own_exp1; rw [if_neg h62])
  rintro _ T X eT rfl
  refine Ow.istore X hx (pc := 112) #[_, _, _, _, _, _, _, _, _, _, _, _] (hb hby at_112) rfl ?_
  refine Ow.aload X hx (pc := 114) (hb hby at_114) rfl rfl ?_
  refine Ow.callSP X hx D.hZ (c_is l Z a0 hw hh z fm S hz Sf hfm Sa Sh Sl x t kb [c0] St (by simp) hr) rfl rfl eT hown (ww hw 28 rfl) (ww hw 29 rfl) (ww hw 30 rfl) (ww hw 31 rfl) (by decide) pd22 (by rw [hml]; rfl) (argsL := [_]) rfl rfl rfl (pc := 116) (hb hby at_116) rfl rfl (by decide) (by decide) ?_   -- com/example/eunomia/eunomia/builtin/UrlText.isScheme:(Ljava/lang/String;)Z
  intro T X eT
  dsimp only [Option.toList_some, Option.toList_none, List.cons_append, List.nil_append]
  refine Ow.iload X hx (pc := 119) (hb hby at_119) rfl ?_
  refine Ow.icmp_ne X hx (pc := 121) (pc' := 128) (hb hby at_121) (by decide) (by decide) (fun q => absurd (own_pl1 c0) q) (fun h121 => ?_)
  refine Ow.iconst X hx (pc := 124) (1) (hb hby at_124) (by decide) ?_
  refine Ow.goto X hx (pc := 125) (pc' := 129) (hb hby at_125) (by decide) (by decide) ?_
  exact Ow.nreturnW X hx eT D hEL hlk hret (Or.inl rfl) (hb hby at_129) ⟨rfl, by rw [eT]; exact F⟩ (by decide) (by decide)
set_option maxRecDepth 65536 in
set_option maxHeartbeats 40000000 in
theorem law_2 (l : Launch) (Z : State) (a0 : Array Value) (hw : ∀ d ∈ tables_1, d.before a0 Z = true) (hEL : EW Z a0 EL) (h0 : Heap) (z p0 p1 p2 p3 p4 : Int32) (fm : Value) (S : Sta Z h0 "java/lang/String" "COMPACT_STRINGS" "Z" (.int z)) (hz : ¬ z = 0) (Sf : Sta Z h0 "jdk/internal/util/Preconditions" "SIOOBE_FORMATTER" "Ljava/util/function/BiFunction;" fm) (hfm : fm.isRef = true) (Sa : Sta Z h0 "java/lang/StringUTF16" "$assertionsDisabled" "Z" (.int 1)) (Sh : Sta Z h0 "java/lang/StringUTF16" "HI_BYTE_SHIFT" "I" (.int 0)) (Sl : Sta Z h0 "java/lang/StringUTF16" "LO_BYTE_SHIFT" "I" (.int 8)) (hlen : (p0 &&& 2147483647) % 5 = 2) : Ow.PayW l Z EL [] x code maxLocals ret room_1 #[(.int p0), (.int p1), (.int p2), (.int p3), (.int p4)] h0 (fun v h L => v = some (.int 1) ∧ Ow.Eff h0 h [] L) := by
  refine Ow.PayW.of (Ls := #[.val (.int p0), .val (.int p1), .val (.int p2), .val (.int p3), .val (.int p4), .unset, .unset, .unset, .unset, .unset, .unset, .unset]) (plainFor_of_name pn4) (fun m => by first | rfl | (simp [entryFrame, mkF, argsToLocals, Value.category, maxLocals]; done)) ?_
  intro p e s m below meth c T vm0 hx hby hml hown hnm hme hret hlk X eT D hsf
  have F := Ow.Eff.refl h0 []
  have hy5 : (5 : Int32) ≠ 0 := by decide
  obtain ⟨c0, hc0⟩ : ∃ q, q = (p1 &&& 65535).toUInt32.toUInt16.toUInt32.toInt32 := ⟨_, rfl⟩
  obtain ⟨c1, hc1⟩ : ∃ q, q = (p2 &&& 65535).toUInt32.toUInt16.toUInt32.toInt32 := ⟨_, rfl⟩
  obtain ⟨c2, hc2⟩ : ∃ q, q = (p3 &&& 65535).toUInt32.toUInt16.toUInt32.toInt32 := ⟨_, rfl⟩
  obtain ⟨c3, hc3⟩ : ∃ q, q = (p4 &&& 65535).toUInt32.toUInt16.toUInt32.toInt32 := ⟨_, rfl⟩
  have hr : ∀ ch ∈ ([c0, c1] : List Int32), own_ok ch := fun ch hc => by
    simp only [List.mem_cons, List.not_mem_nil, or_false] at hc
    rcases hc with rfl | rfl
    · rw [hc0]; exact own_okc _
    · rw [hc1]; exact own_okc _
  refine Ow.iloadN X hx (pc := 0) (hb hby at_0) rfl ?_
  refine Ow.ldcI X hx (pc := 1) (2147483647) (hb hby at_1) hown (mvT D.hZ (ww hw 0 rfl)) ?_
  refine Ow.iand X hx (pc := 3) (hb hby at_3) ?_
  refine Ow.iconst X hx (pc := 4) (5) (hb hby at_4) (by decide) ?_
  refine Ow.irem X hx (pc := 5) (hb hby at_5) hy5 ?_
  rw [hlen]
  refine Ow.istore X hx (pc := 6) #[_, _, _, _, _, _, _, _, _, _, _, _] (hb hby at_6) rfl ?_
  refine Ow.iloadN X hx (pc := 8) (hb hby at_8) rfl ?_
  refine Ow.ldcI X hx (pc := 9) (65535) (hb hby at_9) hown (mvT D.hZ (ww hw 1 rfl)) ?_
  refine Ow.iand X hx (pc := 11) (hb hby at_11) ?_
  refine Ow.i2c X hx (pc := 12) (hb hby at_12) ?_
  rw [← hc0]
  refine Ow.istore X hx (pc := 13) #[_, _, _, _, _, _, _, _, _, _, _, _] (hb hby at_13) rfl ?_
  refine Ow.iloadN X hx (pc := 15) (hb hby at_15) rfl ?_
  refine Ow.ldcI X hx (pc := 16) (65535) (hb hby at_16) hown (mvT D.hZ (ww hw 1 rfl)) ?_
  refine Ow.iand X hx (pc := 18) (hb hby at_18) ?_
  refine Ow.i2c X hx (pc := 19) (hb hby at_19) ?_
  rw [← hc1]
  refine Ow.istore X hx (pc := 20) #[_, _, _, _, _, _, _, _, _, _, _, _] (hb hby at_20) rfl ?_
  refine Ow.iloadN X hx (pc := 22) (hb hby at_22) rfl ?_
  refine Ow.ldcI X hx (pc := 23) (65535) (hb hby at_23) hown (mvT D.hZ (ww hw 1 rfl)) ?_
  refine Ow.iand X hx (pc := 25) (hb hby at_25) ?_
  refine Ow.i2c X hx (pc := 26) (hb hby at_26) ?_
  rw [← hc2]
  refine Ow.istore X hx (pc := 27) #[_, _, _, _, _, _, _, _, _, _, _, _] (hb hby at_27) rfl ?_
  refine Ow.iload X hx (pc := 29) (hb hby at_29) rfl ?_
  refine Ow.ldcI X hx (pc := 31) (65535) (hb hby at_31) hown (mvT D.hZ (ww hw 1 rfl)) ?_
  refine Ow.iand X hx (pc := 33) (hb hby at_33) ?_
  refine Ow.i2c X hx (pc := 34) (hb hby at_34) ?_
  rw [← hc3]
  refine Ow.istore X hx (pc := 35) #[_, _, _, _, _, _, _, _, _, _, _, _] (hb hby at_35) rfl ?_
  refine Ow.iload X hx (pc := 37) (hb hby at_37) rfl ?_
  refine Ow.iload X hx (pc := 39) (hb hby at_39) rfl ?_
  refine Ow.iload X hx (pc := 41) (hb hby at_41) rfl ?_
  refine Ow.iload X hx (pc := 43) (hb hby at_43) rfl ?_
  refine Ow.iload X hx (pc := 45) (hb hby at_45) rfl ?_
  refine Ow.callS X hx D.hZ (c_make2 l Z a0 hw _ z S hz Sa Sh Sl c0 c1 c2 c3 hr) eT hown (ww hw 2 rfl) (ww hw 3 rfl) (ww hw 4 rfl) (ww hw 5 rfl) (by decide) pd21 (by rw [hml]; rfl) (argsL := [_, _, _, _, _]) rfl rfl rfl (pc := 47) (hb hby at_47) rfl rfl (by decide) (by decide) ?_
  rintro _ T L X ⟨x, t, kb, rfl, F2, St⟩
  dsimp only [Option.toList_some, Option.toList_none, List.cons_append, List.nil_append]
  have D := D.ext (Ow.Keep.ext0 F2.1)
  have F := F.call F2 (fun _ q => nomatch q)
  have S := S.ext (Ow.Keep.ext0 F2.1)
  have Sf := Sf.ext (Ow.Keep.ext0 F2.1)
  have Sa := Sa.ext (Ow.Keep.ext0 F2.1)
  have Sh := Sh.ext (Ow.Keep.ext0 F2.1)
  have Sl := Sl.ext (Ow.Keep.ext0 F2.1)
  obtain ⟨hh, ehh⟩ : ∃ q, q = T.heap := ⟨_, rfl⟩
  rw [← ehh] at F D S Sf Sa Sh Sl St
  have eT : T.heap = hh := ehh.symm
  refine Ow.astore X hx (pc := 50) #[_, _, _, _, _, _, _, _, _, _, _, _] (hb hby at_50) rfl rfl ?_
  refine Ow.joinI X eT (fun v => v = own_exp2 c0 c1) 112 ?_ (fun J => ?_)
  rotate_left
  · refine Ow.iload X hx (pc := 52) (hb hby at_52) rfl ?_
    refine Ow.if_le X hx (pc := 54) (pc' := 111) (hb hby at_54) (by decide) (by decide) (fun q => absurd (by decide) q) (fun h54 => ?_)
    refine Ow.iload X hx (pc := 57) (hb hby at_57) rfl ?_
    refine Ow.callSP X hx D.hZ (c_ial l Z a0 hw hh _) rfl rfl eT hown (ww hw 48 rfl) (ww hw 49 rfl) (ww hw 4 rfl) (ww hw 50 rfl) (by decide) pd10 (by rw [hml]; rfl) (argsL := [_]) rfl rfl rfl (pc := 59) (hb hby at_59) rfl rfl (by decide) (by decide) ?_   -- com/example/eunomia/eunomia/builtin/UrlTextIsSchemePinLaw.isAsciiLetter:(C)Z
    intro T X eT
    dsimp only [Option.toList_some, Option.toList_none, List.cons_append, List.nil_append]
    refine Ow.if_eq X hx (pc := 62) (pc' := 111) (hb hby at_62) (by decide) (by decide) (fun h62 => ?_) (fun h62 => ?_)
    · refine Ow.iconst X hx (pc := 111) (0) (hb hby at_111) (by decide) ?_
      exact J _ T X eT (by unfold own_exp2; rw [if_pos h62])
    · refine Ow.iload X hx (pc := 65) (hb hby at_65) rfl ?_
      refine Ow.iconst X hx (pc := 67) (2) (hb hby at_67) (by decide) ?_
      refine Ow.icmp_lt X hx (pc := 68) (pc' := 79) (hb hby at_68) (by decide) (by decide) (fun q => absurd q (by decide)) (fun h68 => ?_)
      refine Ow.iload X hx (pc := 71) (hb hby at_71) rfl ?_
      refine Ow.callSP X hx D.hZ (c_ils l Z a0 hw hh _) rfl rfl eT hown (ww hw 128 rfl) (ww hw 129 rfl) (ww hw 4 rfl) (ww hw 130 rfl) (by decide) pd10 (by rw [hml]; rfl) (argsL := [_]) rfl rfl rfl (pc := 73) (hb hby at_73) rfl rfl (by decide) (by decide) ?_   -- com/example/eunomia/eunomia/builtin/UrlTextIsSchemePinLaw.isLaterSchemeChar:(C)Z
      intro T X eT
      dsimp only [Option.toList_some, Option.toList_none, List.cons_append, List.nil_append]
      refine Ow.if_eq X hx (pc := 76) (pc' := 111) (hb hby at_76) (by decide) (by decide) (fun h76 => ?_) (fun h76 => ?_)
      · refine Ow.iconst X hx (pc := 111) (0) (hb hby at_111) (by decide) ?_
        exact J _ T X eT (by unfold own_exp2; rw [if_neg h62, if_pos h76])
      · refine Ow.iload X hx (pc := 79) (hb hby at_79) rfl ?_
        refine Ow.iconst X hx (pc := 81) (3) (hb hby at_81) (by decide) ?_
        refine Ow.icmp_lt X hx (pc := 82) (pc' := 93) (hb hby at_82) (by decide) (by decide) (fun h82 => ?_) (fun q => absurd (by decide) q)
        refine Ow.iload X hx (pc := 93) (hb hby at_93) rfl ?_
        refine Ow.iconst X hx (pc := 95) (4) (hb hby at_95) (by decide) ?_
        refine Ow.icmp_lt X hx (pc := 96) (pc' := 107) (hb hby at_96) (by decide) (by decide) (fun h96 => ?_) (fun q => absurd (by decide) q)
        refine Ow.iconst X hx (pc := 107) (1) (hb hby at_107) (by decide) ?_
        refine Ow.goto X hx (pc := 108) (pc' := 112) (hb hby at_108) (by decide) (by decide) ?_
        exact J _ T X eT (by unfold own_exp2; rw [if_neg h62, if_neg h76])
  rintro _ T X eT rfl
  refine Ow.istore X hx (pc := 112) #[_, _, _, _, _, _, _, _, _, _, _, _] (hb hby at_112) rfl ?_
  refine Ow.aload X hx (pc := 114) (hb hby at_114) rfl rfl ?_
  refine Ow.callSP X hx D.hZ (c_is l Z a0 hw hh z fm S hz Sf hfm Sa Sh Sl x t kb [c0, c1] St (by simp) hr) rfl rfl eT hown (ww hw 28 rfl) (ww hw 29 rfl) (ww hw 30 rfl) (ww hw 31 rfl) (by decide) pd22 (by rw [hml]; rfl) (argsL := [_]) rfl rfl rfl (pc := 116) (hb hby at_116) rfl rfl (by decide) (by decide) ?_   -- com/example/eunomia/eunomia/builtin/UrlText.isScheme:(Ljava/lang/String;)Z
  intro T X eT
  dsimp only [Option.toList_some, Option.toList_none, List.cons_append, List.nil_append]
  refine Ow.iload X hx (pc := 119) (hb hby at_119) rfl ?_
  refine Ow.icmp_ne X hx (pc := 121) (pc' := 128) (hb hby at_121) (by decide) (by decide) (fun q => absurd (own_pl2 c0 c1) q) (fun h121 => ?_)
  refine Ow.iconst X hx (pc := 124) (1) (hb hby at_124) (by decide) ?_
  refine Ow.goto X hx (pc := 125) (pc' := 129) (hb hby at_125) (by decide) (by decide) ?_
  exact Ow.nreturnW X hx eT D hEL hlk hret (Or.inl rfl) (hb hby at_129) ⟨rfl, by rw [eT]; exact F⟩ (by decide) (by decide)
set_option maxRecDepth 65536 in
set_option maxHeartbeats 40000000 in
theorem law_3 (l : Launch) (Z : State) (a0 : Array Value) (hw : ∀ d ∈ tables_1, d.before a0 Z = true) (hEL : EW Z a0 EL) (h0 : Heap) (z p0 p1 p2 p3 p4 : Int32) (fm : Value) (S : Sta Z h0 "java/lang/String" "COMPACT_STRINGS" "Z" (.int z)) (hz : ¬ z = 0) (Sf : Sta Z h0 "jdk/internal/util/Preconditions" "SIOOBE_FORMATTER" "Ljava/util/function/BiFunction;" fm) (hfm : fm.isRef = true) (Sa : Sta Z h0 "java/lang/StringUTF16" "$assertionsDisabled" "Z" (.int 1)) (Sh : Sta Z h0 "java/lang/StringUTF16" "HI_BYTE_SHIFT" "I" (.int 0)) (Sl : Sta Z h0 "java/lang/StringUTF16" "LO_BYTE_SHIFT" "I" (.int 8)) (hlen : (p0 &&& 2147483647) % 5 = 3) : Ow.PayW l Z EL [] x code maxLocals ret room_1 #[(.int p0), (.int p1), (.int p2), (.int p3), (.int p4)] h0 (fun v h L => v = some (.int 1) ∧ Ow.Eff h0 h [] L) := by
  refine Ow.PayW.of (Ls := #[.val (.int p0), .val (.int p1), .val (.int p2), .val (.int p3), .val (.int p4), .unset, .unset, .unset, .unset, .unset, .unset, .unset]) (plainFor_of_name pn4) (fun m => by first | rfl | (simp [entryFrame, mkF, argsToLocals, Value.category, maxLocals]; done)) ?_
  intro p e s m below meth c T vm0 hx hby hml hown hnm hme hret hlk X eT D hsf
  have F := Ow.Eff.refl h0 []
  have hy5 : (5 : Int32) ≠ 0 := by decide
  obtain ⟨c0, hc0⟩ : ∃ q, q = (p1 &&& 65535).toUInt32.toUInt16.toUInt32.toInt32 := ⟨_, rfl⟩
  obtain ⟨c1, hc1⟩ : ∃ q, q = (p2 &&& 65535).toUInt32.toUInt16.toUInt32.toInt32 := ⟨_, rfl⟩
  obtain ⟨c2, hc2⟩ : ∃ q, q = (p3 &&& 65535).toUInt32.toUInt16.toUInt32.toInt32 := ⟨_, rfl⟩
  obtain ⟨c3, hc3⟩ : ∃ q, q = (p4 &&& 65535).toUInt32.toUInt16.toUInt32.toInt32 := ⟨_, rfl⟩
  have hr : ∀ ch ∈ ([c0, c1, c2] : List Int32), own_ok ch := fun ch hc => by
    simp only [List.mem_cons, List.not_mem_nil, or_false] at hc
    rcases hc with rfl | rfl | rfl
    · rw [hc0]; exact own_okc _
    · rw [hc1]; exact own_okc _
    · rw [hc2]; exact own_okc _
  refine Ow.iloadN X hx (pc := 0) (hb hby at_0) rfl ?_
  refine Ow.ldcI X hx (pc := 1) (2147483647) (hb hby at_1) hown (mvT D.hZ (ww hw 0 rfl)) ?_
  refine Ow.iand X hx (pc := 3) (hb hby at_3) ?_
  refine Ow.iconst X hx (pc := 4) (5) (hb hby at_4) (by decide) ?_
  refine Ow.irem X hx (pc := 5) (hb hby at_5) hy5 ?_
  rw [hlen]
  refine Ow.istore X hx (pc := 6) #[_, _, _, _, _, _, _, _, _, _, _, _] (hb hby at_6) rfl ?_
  refine Ow.iloadN X hx (pc := 8) (hb hby at_8) rfl ?_
  refine Ow.ldcI X hx (pc := 9) (65535) (hb hby at_9) hown (mvT D.hZ (ww hw 1 rfl)) ?_
  refine Ow.iand X hx (pc := 11) (hb hby at_11) ?_
  refine Ow.i2c X hx (pc := 12) (hb hby at_12) ?_
  rw [← hc0]
  refine Ow.istore X hx (pc := 13) #[_, _, _, _, _, _, _, _, _, _, _, _] (hb hby at_13) rfl ?_
  refine Ow.iloadN X hx (pc := 15) (hb hby at_15) rfl ?_
  refine Ow.ldcI X hx (pc := 16) (65535) (hb hby at_16) hown (mvT D.hZ (ww hw 1 rfl)) ?_
  refine Ow.iand X hx (pc := 18) (hb hby at_18) ?_
  refine Ow.i2c X hx (pc := 19) (hb hby at_19) ?_
  rw [← hc1]
  refine Ow.istore X hx (pc := 20) #[_, _, _, _, _, _, _, _, _, _, _, _] (hb hby at_20) rfl ?_
  refine Ow.iloadN X hx (pc := 22) (hb hby at_22) rfl ?_
  refine Ow.ldcI X hx (pc := 23) (65535) (hb hby at_23) hown (mvT D.hZ (ww hw 1 rfl)) ?_
  refine Ow.iand X hx (pc := 25) (hb hby at_25) ?_
  refine Ow.i2c X hx (pc := 26) (hb hby at_26) ?_
  rw [← hc2]
  refine Ow.istore X hx (pc := 27) #[_, _, _, _, _, _, _, _, _, _, _, _] (hb hby at_27) rfl ?_
  refine Ow.iload X hx (pc := 29) (hb hby at_29) rfl ?_
  refine Ow.ldcI X hx (pc := 31) (65535) (hb hby at_31) hown (mvT D.hZ (ww hw 1 rfl)) ?_
  refine Ow.iand X hx (pc := 33) (hb hby at_33) ?_
  refine Ow.i2c X hx (pc := 34) (hb hby at_34) ?_
  rw [← hc3]
  refine Ow.istore X hx (pc := 35) #[_, _, _, _, _, _, _, _, _, _, _, _] (hb hby at_35) rfl ?_
  refine Ow.iload X hx (pc := 37) (hb hby at_37) rfl ?_
  refine Ow.iload X hx (pc := 39) (hb hby at_39) rfl ?_
  refine Ow.iload X hx (pc := 41) (hb hby at_41) rfl ?_
  refine Ow.iload X hx (pc := 43) (hb hby at_43) rfl ?_
  refine Ow.iload X hx (pc := 45) (hb hby at_45) rfl ?_
  refine Ow.callS X hx D.hZ (c_make3 l Z a0 hw _ z S hz Sa Sh Sl c0 c1 c2 c3 hr) eT hown (ww hw 2 rfl) (ww hw 3 rfl) (ww hw 4 rfl) (ww hw 5 rfl) (by decide) pd21 (by rw [hml]; rfl) (argsL := [_, _, _, _, _]) rfl rfl rfl (pc := 47) (hb hby at_47) rfl rfl (by decide) (by decide) ?_
  rintro _ T L X ⟨x, t, kb, rfl, F2, St⟩
  dsimp only [Option.toList_some, Option.toList_none, List.cons_append, List.nil_append]
  have D := D.ext (Ow.Keep.ext0 F2.1)
  have F := F.call F2 (fun _ q => nomatch q)
  have S := S.ext (Ow.Keep.ext0 F2.1)
  have Sf := Sf.ext (Ow.Keep.ext0 F2.1)
  have Sa := Sa.ext (Ow.Keep.ext0 F2.1)
  have Sh := Sh.ext (Ow.Keep.ext0 F2.1)
  have Sl := Sl.ext (Ow.Keep.ext0 F2.1)
  obtain ⟨hh, ehh⟩ : ∃ q, q = T.heap := ⟨_, rfl⟩
  rw [← ehh] at F D S Sf Sa Sh Sl St
  have eT : T.heap = hh := ehh.symm
  refine Ow.astore X hx (pc := 50) #[_, _, _, _, _, _, _, _, _, _, _, _] (hb hby at_50) rfl rfl ?_
  refine Ow.joinI X eT (fun v => v = own_exp3 c0 c1 c2) 112 ?_ (fun J => ?_)
  rotate_left
  · refine Ow.iload X hx (pc := 52) (hb hby at_52) rfl ?_
    refine Ow.if_le X hx (pc := 54) (pc' := 111) (hb hby at_54) (by decide) (by decide) (fun q => absurd (by decide) q) (fun h54 => ?_)
    refine Ow.iload X hx (pc := 57) (hb hby at_57) rfl ?_
    refine Ow.callSP X hx D.hZ (c_ial l Z a0 hw hh _) rfl rfl eT hown (ww hw 48 rfl) (ww hw 49 rfl) (ww hw 4 rfl) (ww hw 50 rfl) (by decide) pd10 (by rw [hml]; rfl) (argsL := [_]) rfl rfl rfl (pc := 59) (hb hby at_59) rfl rfl (by decide) (by decide) ?_   -- com/example/eunomia/eunomia/builtin/UrlTextIsSchemePinLaw.isAsciiLetter:(C)Z
    intro T X eT
    dsimp only [Option.toList_some, Option.toList_none, List.cons_append, List.nil_append]
    refine Ow.if_eq X hx (pc := 62) (pc' := 111) (hb hby at_62) (by decide) (by decide) (fun h62 => ?_) (fun h62 => ?_)
    · refine Ow.iconst X hx (pc := 111) (0) (hb hby at_111) (by decide) ?_
      exact J _ T X eT (by unfold own_exp3; rw [if_pos h62])
    · refine Ow.iload X hx (pc := 65) (hb hby at_65) rfl ?_
      refine Ow.iconst X hx (pc := 67) (2) (hb hby at_67) (by decide) ?_
      refine Ow.icmp_lt X hx (pc := 68) (pc' := 79) (hb hby at_68) (by decide) (by decide) (fun q => absurd q (by decide)) (fun h68 => ?_)
      refine Ow.iload X hx (pc := 71) (hb hby at_71) rfl ?_
      refine Ow.callSP X hx D.hZ (c_ils l Z a0 hw hh _) rfl rfl eT hown (ww hw 128 rfl) (ww hw 129 rfl) (ww hw 4 rfl) (ww hw 130 rfl) (by decide) pd10 (by rw [hml]; rfl) (argsL := [_]) rfl rfl rfl (pc := 73) (hb hby at_73) rfl rfl (by decide) (by decide) ?_   -- com/example/eunomia/eunomia/builtin/UrlTextIsSchemePinLaw.isLaterSchemeChar:(C)Z
      intro T X eT
      dsimp only [Option.toList_some, Option.toList_none, List.cons_append, List.nil_append]
      refine Ow.if_eq X hx (pc := 76) (pc' := 111) (hb hby at_76) (by decide) (by decide) (fun h76 => ?_) (fun h76 => ?_)
      · refine Ow.iconst X hx (pc := 111) (0) (hb hby at_111) (by decide) ?_
        exact J _ T X eT (by unfold own_exp3; rw [if_neg h62, if_pos h76])
      · refine Ow.iload X hx (pc := 79) (hb hby at_79) rfl ?_
        refine Ow.iconst X hx (pc := 81) (3) (hb hby at_81) (by decide) ?_
        refine Ow.icmp_lt X hx (pc := 82) (pc' := 93) (hb hby at_82) (by decide) (by decide) (fun q => absurd q (by decide)) (fun h82 => ?_)
        refine Ow.iload X hx (pc := 85) (hb hby at_85) rfl ?_
        refine Ow.callSP X hx D.hZ (c_ils l Z a0 hw hh _) rfl rfl eT hown (ww hw 128 rfl) (ww hw 129 rfl) (ww hw 4 rfl) (ww hw 130 rfl) (by decide) pd10 (by rw [hml]; rfl) (argsL := [_]) rfl rfl rfl (pc := 87) (hb hby at_87) rfl rfl (by decide) (by decide) ?_   -- com/example/eunomia/eunomia/builtin/UrlTextIsSchemePinLaw.isLaterSchemeChar:(C)Z
        intro T X eT
        dsimp only [Option.toList_some, Option.toList_none, List.cons_append, List.nil_append]
        refine Ow.if_eq X hx (pc := 90) (pc' := 111) (hb hby at_90) (by decide) (by decide) (fun h90 => ?_) (fun h90 => ?_)
        · refine Ow.iconst X hx (pc := 111) (0) (hb hby at_111) (by decide) ?_
          exact J _ T X eT (by unfold own_exp3; rw [if_neg h62, if_neg h76, if_pos h90])
        · refine Ow.iload X hx (pc := 93) (hb hby at_93) rfl ?_
          refine Ow.iconst X hx (pc := 95) (4) (hb hby at_95) (by decide) ?_
          refine Ow.icmp_lt X hx (pc := 96) (pc' := 107) (hb hby at_96) (by decide) (by decide) (fun h96 => ?_) (fun q => absurd (by decide) q)
          refine Ow.iconst X hx (pc := 107) (1) (hb hby at_107) (by decide) ?_
          refine Ow.goto X hx (pc := 108) (pc' := 112) (hb hby at_108) (by decide) (by decide) ?_
          exact J _ T X eT (by unfold own_exp3; rw [if_neg h62, if_neg h76, if_neg h90])
  rintro _ T X eT rfl
  refine Ow.istore X hx (pc := 112) #[_, _, _, _, _, _, _, _, _, _, _, _] (hb hby at_112) rfl ?_
  refine Ow.aload X hx (pc := 114) (hb hby at_114) rfl rfl ?_
  refine Ow.callSP X hx D.hZ (c_is l Z a0 hw hh z fm S hz Sf hfm Sa Sh Sl x t kb [c0, c1, c2] St (by simp) hr) rfl rfl eT hown (ww hw 28 rfl) (ww hw 29 rfl) (ww hw 30 rfl) (ww hw 31 rfl) (by decide) pd22 (by rw [hml]; rfl) (argsL := [_]) rfl rfl rfl (pc := 116) (hb hby at_116) rfl rfl (by decide) (by decide) ?_   -- com/example/eunomia/eunomia/builtin/UrlText.isScheme:(Ljava/lang/String;)Z
  intro T X eT
  dsimp only [Option.toList_some, Option.toList_none, List.cons_append, List.nil_append]
  refine Ow.iload X hx (pc := 119) (hb hby at_119) rfl ?_
  refine Ow.icmp_ne X hx (pc := 121) (pc' := 128) (hb hby at_121) (by decide) (by decide) (fun q => absurd (own_pl3 c0 c1 c2) q) (fun h121 => ?_)
  refine Ow.iconst X hx (pc := 124) (1) (hb hby at_124) (by decide) ?_
  refine Ow.goto X hx (pc := 125) (pc' := 129) (hb hby at_125) (by decide) (by decide) ?_
  exact Ow.nreturnW X hx eT D hEL hlk hret (Or.inl rfl) (hb hby at_129) ⟨rfl, by rw [eT]; exact F⟩ (by decide) (by decide)
set_option maxRecDepth 65536 in
set_option maxHeartbeats 40000000 in
theorem law_4 (l : Launch) (Z : State) (a0 : Array Value) (hw : ∀ d ∈ tables_1, d.before a0 Z = true) (hEL : EW Z a0 EL) (h0 : Heap) (z p0 p1 p2 p3 p4 : Int32) (fm : Value) (S : Sta Z h0 "java/lang/String" "COMPACT_STRINGS" "Z" (.int z)) (hz : ¬ z = 0) (Sf : Sta Z h0 "jdk/internal/util/Preconditions" "SIOOBE_FORMATTER" "Ljava/util/function/BiFunction;" fm) (hfm : fm.isRef = true) (Sa : Sta Z h0 "java/lang/StringUTF16" "$assertionsDisabled" "Z" (.int 1)) (Sh : Sta Z h0 "java/lang/StringUTF16" "HI_BYTE_SHIFT" "I" (.int 0)) (Sl : Sta Z h0 "java/lang/StringUTF16" "LO_BYTE_SHIFT" "I" (.int 8)) (hlen : (p0 &&& 2147483647) % 5 = 4) : Ow.PayW l Z EL [] x code maxLocals ret room_1 #[(.int p0), (.int p1), (.int p2), (.int p3), (.int p4)] h0 (fun v h L => v = some (.int 1) ∧ Ow.Eff h0 h [] L) := by
  refine Ow.PayW.of (Ls := #[.val (.int p0), .val (.int p1), .val (.int p2), .val (.int p3), .val (.int p4), .unset, .unset, .unset, .unset, .unset, .unset, .unset]) (plainFor_of_name pn4) (fun m => by first | rfl | (simp [entryFrame, mkF, argsToLocals, Value.category, maxLocals]; done)) ?_
  intro p e s m below meth c T vm0 hx hby hml hown hnm hme hret hlk X eT D hsf
  have F := Ow.Eff.refl h0 []
  have hy5 : (5 : Int32) ≠ 0 := by decide
  obtain ⟨c0, hc0⟩ : ∃ q, q = (p1 &&& 65535).toUInt32.toUInt16.toUInt32.toInt32 := ⟨_, rfl⟩
  obtain ⟨c1, hc1⟩ : ∃ q, q = (p2 &&& 65535).toUInt32.toUInt16.toUInt32.toInt32 := ⟨_, rfl⟩
  obtain ⟨c2, hc2⟩ : ∃ q, q = (p3 &&& 65535).toUInt32.toUInt16.toUInt32.toInt32 := ⟨_, rfl⟩
  obtain ⟨c3, hc3⟩ : ∃ q, q = (p4 &&& 65535).toUInt32.toUInt16.toUInt32.toInt32 := ⟨_, rfl⟩
  have hr : ∀ ch ∈ ([c0, c1, c2, c3] : List Int32), own_ok ch := fun ch hc => by
    simp only [List.mem_cons, List.not_mem_nil, or_false] at hc
    rcases hc with rfl | rfl | rfl | rfl
    · rw [hc0]; exact own_okc _
    · rw [hc1]; exact own_okc _
    · rw [hc2]; exact own_okc _
    · rw [hc3]; exact own_okc _
  refine Ow.iloadN X hx (pc := 0) (hb hby at_0) rfl ?_
  refine Ow.ldcI X hx (pc := 1) (2147483647) (hb hby at_1) hown (mvT D.hZ (ww hw 0 rfl)) ?_
  refine Ow.iand X hx (pc := 3) (hb hby at_3) ?_
  refine Ow.iconst X hx (pc := 4) (5) (hb hby at_4) (by decide) ?_
  refine Ow.irem X hx (pc := 5) (hb hby at_5) hy5 ?_
  rw [hlen]
  refine Ow.istore X hx (pc := 6) #[_, _, _, _, _, _, _, _, _, _, _, _] (hb hby at_6) rfl ?_
  refine Ow.iloadN X hx (pc := 8) (hb hby at_8) rfl ?_
  refine Ow.ldcI X hx (pc := 9) (65535) (hb hby at_9) hown (mvT D.hZ (ww hw 1 rfl)) ?_
  refine Ow.iand X hx (pc := 11) (hb hby at_11) ?_
  refine Ow.i2c X hx (pc := 12) (hb hby at_12) ?_
  rw [← hc0]
  refine Ow.istore X hx (pc := 13) #[_, _, _, _, _, _, _, _, _, _, _, _] (hb hby at_13) rfl ?_
  refine Ow.iloadN X hx (pc := 15) (hb hby at_15) rfl ?_
  refine Ow.ldcI X hx (pc := 16) (65535) (hb hby at_16) hown (mvT D.hZ (ww hw 1 rfl)) ?_
  refine Ow.iand X hx (pc := 18) (hb hby at_18) ?_
  refine Ow.i2c X hx (pc := 19) (hb hby at_19) ?_
  rw [← hc1]
  refine Ow.istore X hx (pc := 20) #[_, _, _, _, _, _, _, _, _, _, _, _] (hb hby at_20) rfl ?_
  refine Ow.iloadN X hx (pc := 22) (hb hby at_22) rfl ?_
  refine Ow.ldcI X hx (pc := 23) (65535) (hb hby at_23) hown (mvT D.hZ (ww hw 1 rfl)) ?_
  refine Ow.iand X hx (pc := 25) (hb hby at_25) ?_
  refine Ow.i2c X hx (pc := 26) (hb hby at_26) ?_
  rw [← hc2]
  refine Ow.istore X hx (pc := 27) #[_, _, _, _, _, _, _, _, _, _, _, _] (hb hby at_27) rfl ?_
  refine Ow.iload X hx (pc := 29) (hb hby at_29) rfl ?_
  refine Ow.ldcI X hx (pc := 31) (65535) (hb hby at_31) hown (mvT D.hZ (ww hw 1 rfl)) ?_
  refine Ow.iand X hx (pc := 33) (hb hby at_33) ?_
  refine Ow.i2c X hx (pc := 34) (hb hby at_34) ?_
  rw [← hc3]
  refine Ow.istore X hx (pc := 35) #[_, _, _, _, _, _, _, _, _, _, _, _] (hb hby at_35) rfl ?_
  refine Ow.iload X hx (pc := 37) (hb hby at_37) rfl ?_
  refine Ow.iload X hx (pc := 39) (hb hby at_39) rfl ?_
  refine Ow.iload X hx (pc := 41) (hb hby at_41) rfl ?_
  refine Ow.iload X hx (pc := 43) (hb hby at_43) rfl ?_
  refine Ow.iload X hx (pc := 45) (hb hby at_45) rfl ?_
  refine Ow.callS X hx D.hZ (c_make4 l Z a0 hw _ z S hz Sa Sh Sl c0 c1 c2 c3 hr) eT hown (ww hw 2 rfl) (ww hw 3 rfl) (ww hw 4 rfl) (ww hw 5 rfl) (by decide) pd21 (by rw [hml]; rfl) (argsL := [_, _, _, _, _]) rfl rfl rfl (pc := 47) (hb hby at_47) rfl rfl (by decide) (by decide) ?_
  rintro _ T L X ⟨x, t, kb, rfl, F2, St⟩
  dsimp only [Option.toList_some, Option.toList_none, List.cons_append, List.nil_append]
  have D := D.ext (Ow.Keep.ext0 F2.1)
  have F := F.call F2 (fun _ q => nomatch q)
  have S := S.ext (Ow.Keep.ext0 F2.1)
  have Sf := Sf.ext (Ow.Keep.ext0 F2.1)
  have Sa := Sa.ext (Ow.Keep.ext0 F2.1)
  have Sh := Sh.ext (Ow.Keep.ext0 F2.1)
  have Sl := Sl.ext (Ow.Keep.ext0 F2.1)
  obtain ⟨hh, ehh⟩ : ∃ q, q = T.heap := ⟨_, rfl⟩
  rw [← ehh] at F D S Sf Sa Sh Sl St
  have eT : T.heap = hh := ehh.symm
  refine Ow.astore X hx (pc := 50) #[_, _, _, _, _, _, _, _, _, _, _, _] (hb hby at_50) rfl rfl ?_
  refine Ow.joinI X eT (fun v => v = own_exp4 c0 c1 c2 c3) 112 ?_ (fun J => ?_)
  rotate_left
  · refine Ow.iload X hx (pc := 52) (hb hby at_52) rfl ?_
    refine Ow.if_le X hx (pc := 54) (pc' := 111) (hb hby at_54) (by decide) (by decide) (fun q => absurd (by decide) q) (fun h54 => ?_)
    refine Ow.iload X hx (pc := 57) (hb hby at_57) rfl ?_
    refine Ow.callSP X hx D.hZ (c_ial l Z a0 hw hh _) rfl rfl eT hown (ww hw 48 rfl) (ww hw 49 rfl) (ww hw 4 rfl) (ww hw 50 rfl) (by decide) pd10 (by rw [hml]; rfl) (argsL := [_]) rfl rfl rfl (pc := 59) (hb hby at_59) rfl rfl (by decide) (by decide) ?_   -- com/example/eunomia/eunomia/builtin/UrlTextIsSchemePinLaw.isAsciiLetter:(C)Z
    intro T X eT
    dsimp only [Option.toList_some, Option.toList_none, List.cons_append, List.nil_append]
    refine Ow.if_eq X hx (pc := 62) (pc' := 111) (hb hby at_62) (by decide) (by decide) (fun h62 => ?_) (fun h62 => ?_)
    · refine Ow.iconst X hx (pc := 111) (0) (hb hby at_111) (by decide) ?_
      exact J _ T X eT (by unfold own_exp4; rw [if_pos h62])
    · refine Ow.iload X hx (pc := 65) (hb hby at_65) rfl ?_
      refine Ow.iconst X hx (pc := 67) (2) (hb hby at_67) (by decide) ?_
      refine Ow.icmp_lt X hx (pc := 68) (pc' := 79) (hb hby at_68) (by decide) (by decide) (fun q => absurd q (by decide)) (fun h68 => ?_)
      refine Ow.iload X hx (pc := 71) (hb hby at_71) rfl ?_
      refine Ow.callSP X hx D.hZ (c_ils l Z a0 hw hh _) rfl rfl eT hown (ww hw 128 rfl) (ww hw 129 rfl) (ww hw 4 rfl) (ww hw 130 rfl) (by decide) pd10 (by rw [hml]; rfl) (argsL := [_]) rfl rfl rfl (pc := 73) (hb hby at_73) rfl rfl (by decide) (by decide) ?_   -- com/example/eunomia/eunomia/builtin/UrlTextIsSchemePinLaw.isLaterSchemeChar:(C)Z
      intro T X eT
      dsimp only [Option.toList_some, Option.toList_none, List.cons_append, List.nil_append]
      refine Ow.if_eq X hx (pc := 76) (pc' := 111) (hb hby at_76) (by decide) (by decide) (fun h76 => ?_) (fun h76 => ?_)
      · refine Ow.iconst X hx (pc := 111) (0) (hb hby at_111) (by decide) ?_
        exact J _ T X eT (by unfold own_exp4; rw [if_neg h62, if_pos h76])
      · refine Ow.iload X hx (pc := 79) (hb hby at_79) rfl ?_
        refine Ow.iconst X hx (pc := 81) (3) (hb hby at_81) (by decide) ?_
        refine Ow.icmp_lt X hx (pc := 82) (pc' := 93) (hb hby at_82) (by decide) (by decide) (fun q => absurd q (by decide)) (fun h82 => ?_)
        refine Ow.iload X hx (pc := 85) (hb hby at_85) rfl ?_
        refine Ow.callSP X hx D.hZ (c_ils l Z a0 hw hh _) rfl rfl eT hown (ww hw 128 rfl) (ww hw 129 rfl) (ww hw 4 rfl) (ww hw 130 rfl) (by decide) pd10 (by rw [hml]; rfl) (argsL := [_]) rfl rfl rfl (pc := 87) (hb hby at_87) rfl rfl (by decide) (by decide) ?_   -- com/example/eunomia/eunomia/builtin/UrlTextIsSchemePinLaw.isLaterSchemeChar:(C)Z
        intro T X eT
        dsimp only [Option.toList_some, Option.toList_none, List.cons_append, List.nil_append]
        refine Ow.if_eq X hx (pc := 90) (pc' := 111) (hb hby at_90) (by decide) (by decide) (fun h90 => ?_) (fun h90 => ?_)
        · refine Ow.iconst X hx (pc := 111) (0) (hb hby at_111) (by decide) ?_
          exact J _ T X eT (by unfold own_exp4; rw [if_neg h62, if_neg h76, if_pos h90])
        · refine Ow.iload X hx (pc := 93) (hb hby at_93) rfl ?_
          refine Ow.iconst X hx (pc := 95) (4) (hb hby at_95) (by decide) ?_
          refine Ow.icmp_lt X hx (pc := 96) (pc' := 107) (hb hby at_96) (by decide) (by decide) (fun q => absurd q (by decide)) (fun h96 => ?_)
          refine Ow.iload X hx (pc := 99) (hb hby at_99) rfl ?_
          refine Ow.callSP X hx D.hZ (c_ils l Z a0 hw hh _) rfl rfl eT hown (ww hw 128 rfl) (ww hw 129 rfl) (ww hw 4 rfl) (ww hw 130 rfl) (by decide) pd10 (by rw [hml]; rfl) (argsL := [_]) rfl rfl rfl (pc := 101) (hb hby at_101) rfl rfl (by decide) (by decide) ?_   -- com/example/eunomia/eunomia/builtin/UrlTextIsSchemePinLaw.isLaterSchemeChar:(C)Z
          intro T X eT
          dsimp only [Option.toList_some, Option.toList_none, List.cons_append, List.nil_append]
          refine Ow.if_eq X hx (pc := 104) (pc' := 111) (hb hby at_104) (by decide) (by decide) (fun h104 => ?_) (fun h104 => ?_)
          · refine Ow.iconst X hx (pc := 111) (0) (hb hby at_111) (by decide) ?_
            exact J _ T X eT (by unfold own_exp4; rw [if_neg h62, if_neg h76, if_neg h90, if_pos h104])
          · refine Ow.iconst X hx (pc := 107) (1) (hb hby at_107) (by decide) ?_
            refine Ow.goto X hx (pc := 108) (pc' := 112) (hb hby at_108) (by decide) (by decide) ?_
            exact J _ T X eT (by unfold own_exp4; rw [if_neg h62, if_neg h76, if_neg h90, if_neg h104])
  rintro _ T X eT rfl
  refine Ow.istore X hx (pc := 112) #[_, _, _, _, _, _, _, _, _, _, _, _] (hb hby at_112) rfl ?_
  refine Ow.aload X hx (pc := 114) (hb hby at_114) rfl rfl ?_
  refine Ow.callSP X hx D.hZ (c_is l Z a0 hw hh z fm S hz Sf hfm Sa Sh Sl x t kb [c0, c1, c2, c3] St (by simp) hr) rfl rfl eT hown (ww hw 28 rfl) (ww hw 29 rfl) (ww hw 30 rfl) (ww hw 31 rfl) (by decide) pd22 (by rw [hml]; rfl) (argsL := [_]) rfl rfl rfl (pc := 116) (hb hby at_116) rfl rfl (by decide) (by decide) ?_   -- com/example/eunomia/eunomia/builtin/UrlText.isScheme:(Ljava/lang/String;)Z
  intro T X eT
  dsimp only [Option.toList_some, Option.toList_none, List.cons_append, List.nil_append]
  refine Ow.iload X hx (pc := 119) (hb hby at_119) rfl ?_
  refine Ow.icmp_ne X hx (pc := 121) (pc' := 128) (hb hby at_121) (by decide) (by decide) (fun q => absurd (own_pl4 c0 c1 c2 c3) q) (fun h121 => ?_)
  refine Ow.iconst X hx (pc := 124) (1) (hb hby at_124) (by decide) ?_
  refine Ow.goto X hx (pc := 125) (pc' := 129) (hb hby at_125) (by decide) (by decide) ?_
  exact Ow.nreturnW X hx eT D hEL hlk hret (Or.inl rfl) (hb hby at_129) ⟨rfl, by rw [eT]; exact F⟩ (by decide) (by decide)
theorem law_w (l : Launch) (Z : State) (a0 : Array Value) (hw : ∀ d ∈ tables_1, d.before a0 Z = true) (hEL : EW Z a0 EL) (h0 : Heap) (z p0 p1 p2 p3 p4 : Int32) (fm : Value) (S : Sta Z h0 "java/lang/String" "COMPACT_STRINGS" "Z" (.int z)) (hz : ¬ z = 0) (Sf : Sta Z h0 "jdk/internal/util/Preconditions" "SIOOBE_FORMATTER" "Ljava/util/function/BiFunction;" fm) (hfm : fm.isRef = true) (Sa : Sta Z h0 "java/lang/StringUTF16" "$assertionsDisabled" "Z" (.int 1)) (Sh : Sta Z h0 "java/lang/StringUTF16" "HI_BYTE_SHIFT" "I" (.int 0)) (Sl : Sta Z h0 "java/lang/StringUTF16" "LO_BYTE_SHIFT" "I" (.int 8)) : Ow.PayW l Z EL [] x code maxLocals ret room_1 #[(.int p0), (.int p1), (.int p2), (.int p3), (.int p4)] h0 (fun v h L => v = some (.int 1) ∧ Ow.Eff h0 h [] L) := by
  obtain ⟨n, hn4, hlen⟩ := own_len5 p0
  have h5 : n = 0 ∨ n = 1 ∨ n = 2 ∨ n = 3 ∨ n = 4 := by omega
  rcases h5 with rfl | rfl | rfl | rfl | rfl
  · exact law_0 l Z a0 hw hEL h0 z p0 p1 p2 p3 p4 fm S hz Sf hfm Sa Sh Sl hlen
  · exact law_1 l Z a0 hw hEL h0 z p0 p1 p2 p3 p4 fm S hz Sf hfm Sa Sh Sl hlen
  · exact law_2 l Z a0 hw hEL h0 z p0 p1 p2 p3 p4 fm S hz Sf hfm Sa Sh Sl hlen
  · exact law_3 l Z a0 hw hEL h0 z p0 p1 p2 p3 p4 fm S hz Sf hfm Sa Sh Sl hlen
  · exact law_4 l Z a0 hw hEL h0 z p0 p1 p2 p3 p4 fm S hz Sf hfm Sa Sh Sl hlen
set_option maxRecDepth 65536 in
set_option maxHeartbeats 40000000 in
theorem comes_1 {Post : Tables → Env → Array Value → State → Outcome → State → Prop} (hpost : ∀ tb e args s v u, (limb_1_1.after args s (.returned v) u = true ∧ limb_1_2.after args s (.returned v) u = true ∧ True) → ReturnedEndW s (.returned v) u (Jvm.fieldLocs frame_1_writes args s ++ Jvm.arrayLocs frame_1_arrays args s ++ Jvm.staticLocs frame_1_statics s) 24 1152 → Post tb e args s (.returned v) u) :
    ArmFor flags0 classFile x code maxLocals ret World_1 tables_1 room_1 Calls_1 rest_1 Pre_1 Post := by
  intro l hfl _ _ p e ha hc hk s m args below hf hA hF happ hP
  obtain ⟨hcalls, hrest, hpre⟩ := hP
  obtain ⟨-, -, -, hnamed, -, -, -, hat⟩ := (Spec.applies_iff hf).mp happ
  obtain ⟨hg, hnar⟩ := and_e (Cond.before_iff.mp (show (Jvm.Cond.and given_1 narrow_1).before args s = true from hpre))
  obtain ⟨g0, g1⟩ := and_e hg
  obtain ⟨q0, g2⟩ := and_e g1
  obtain ⟨q1, g3⟩ := and_e g2
  obtain ⟨q2, g4⟩ := and_e g3
  obtain ⟨q3, g5⟩ := and_e g4
  have q4 := g5
  obtain ⟨w0, w1, w2, w3, w4, rfl⟩ : ∃ w0 w1 w2 w3 w4 : Value, args = #[w0, w1, w2, w3, w4] := by
    have hs : args.size = 5 := by simpa [Cond.value, given_1] using g0
    obtain ⟨L⟩ := args
    match L, hs with
    | [w0, w1, w2, w3, w4], _ => exact ⟨w0, w1, w2, w3, w4, rfl⟩
  have hw := fun d (hd : d ∈ tables_1) => atoms_spec (ws := Jvm.Cond.code x code maxLocals ret :: tables_1) hat d (List.mem_cons_of_mem _ hd)
  obtain ⟨hsets, hown0⟩ := atoms_of _ (rest_1_c_eq ▸ (show rest_1_c.before _ s = true from hrest))
  have hfit : Fit s := fun {y c} hc i hi => by
    obtain ⟨ha, rfl⟩ := Array.getElem?_eq_some_iff.mp hc
    have q := List.all_eq_true.mp ((Array.all_eq_true_iff_forall_mem.mp hF) _ (Array.getElem_mem ha)) i (List.mem_range.mpr hi)
    simpa [Array.getElem?_eq_getElem hi] using q
  obtain ⟨i0, e0⟩ := is_v q0
  obtain rfl : w0 = (.int i0) := Option.some.inj e0
  obtain ⟨i1, e1⟩ := is_v q1
  obtain rfl : w1 = (.int i1) := Option.some.inj e1
  obtain ⟨i2, e2⟩ := is_v q2
  obtain rfl : w2 = (.int i2) := Option.some.inj e2
  obtain ⟨i3, e3⟩ := is_v q3
  obtain rfl : w3 = (.int i3) := Option.some.inj e3
  obtain ⟨i4, e4⟩ := is_v q4
  obtain rfl : w4 = (.int i4) := Option.some.inj e4
  have n5 := not_v (Cond.before_iff.mp (hsets _ (List.mem_of_getElem? (i := 2) rfl)))
  obtain ⟨z, ez⟩ := is_v (Cond.before_iff.mp (hsets _ (List.mem_of_getElem? (i := 1) rfl)))
  have S : Sta s s.heap "java/lang/String" "COMPACT_STRINGS" "Z" (.int z) := Sta.start ez (Or.inl (hsets _ (List.mem_of_getElem? (i := 0) rfl)))
  have hz : ¬ (z = (0 : Int32)) := gotF (Cond.eq_ints ez (Term.int_eval (0))) n5
  obtain ⟨fm, efm, hfm⟩ := isR_v (Cond.before_iff.mp (hsets _ (List.mem_of_getElem? (i := 8) rfl)))
  have Sf : Sta s s.heap "jdk/internal/util/Preconditions" "SIOOBE_FORMATTER" "Ljava/util/function/BiFunction;" fm := Sta.start efm (Or.inl (hsets _ (List.mem_of_getElem? (i := 7) rfl)))
  have Sa : Sta s s.heap "java/lang/StringUTF16" "$assertionsDisabled" "Z" (.int 1) := Sta.start (Ow.eqI_at (Cond.before_iff.mp (hsets _ (List.mem_of_getElem? (i := 12) rfl)))) (Or.inl (hsets _ (List.mem_of_getElem? (i := 11) rfl)))
  have Sh : Sta s s.heap "java/lang/StringUTF16" "HI_BYTE_SHIFT" "I" (.int 0) := Sta.start (Ow.eqI_at (Cond.before_iff.mp (hsets _ (List.mem_of_getElem? (i := 15) rfl)))) (Or.inl (hsets _ (List.mem_of_getElem? (i := 14) rfl)))
  have Sl : Sta s s.heap "java/lang/StringUTF16" "LO_BYTE_SHIFT" "I" (.int 8) := Sta.start (Ow.eqI_at (Cond.before_iff.mp (hsets _ (List.mem_of_getElem? (i := 18) rfl)))) (Or.inl (hsets _ (List.mem_of_getElem? (i := 17) rfl)))
  have hEL : EW s _ EL := EW.cons (ww hw 20 rfl) (by decide) (EW.nil)
  have H : CHv s EL s.vm s.heap := CHv.start hEL hcalls.1 (hsets _ (List.mem_of_getElem? (i := 2) rfl)) (ww hw 21 rfl) (ww hw 7 rfl)
  obtain ⟨n, o, h1, h2, h3, _, L, rfl, ⟨rfl, F⟩, -, hq⟩ := law_w l s _ hw hEL s.heap z i0 i1 i2 i3 i4 fm S hz Sf hfm Sa Sh Sl tables_1 p e ha hc hk s m _ below hf ((Spec.applies_iff_loose hf).mp happ).1 ⟨rfl, State.Warmed39.refl s, rfl, H, fun _ q => nomatch q⟩ trivial
  refine ⟨n, _, h1, h2, h3, hpost _ _ _ _ _ _ ⟨Cond.after_iff.mpr rfl, Cond.after_iff.mpr (eq_i res_at (Term.int_eval (1)) rfl), trivial⟩ ⟨hq.1, hq.2.1, hq.2.2.1, (hq.2.2.2.sift fun y hy => Or.inr (F.fr y hy)).mono (by decide) (by decide)⟩⟩
theorem main_1_1 : Claimed_1_1 := comes_1 fun _ _ _ _ _ _ h hF => ⟨h.1, hF⟩
theorem main_1_2 : Claimed_1_2 := comes_1 fun _ _ _ _ _ _ h hF => ⟨h.2.1, hF⟩
end Jvm.Pilot.@@N@@
namespace Jvm.Pilot.@@N@@
open Jvm Jvm.ClassFile Sem Op Lib Jvm.Free Jvm.Stand Jvm.Pilot.@@N@@.Jvm.D
/-! MADE BY PROGRAM (witnessworld.py) out of the Statement's table words and the real class files: 20 classes; the members and pool entries that the words name. The judged class is class 1, her method 4. -/
namespace start1
open Jvm.ClassFile
def u (s : String) : CpInfo := .utf8 (stringToUtf16 s)
/-- a pool by its gaps: so many unusable entries, then the entry; so many at the end -/
def gap : Nat → List CpInfo → List CpInfo
  | 0, r => r
  | n + 1, r => .unusable :: gap n r
def poolList (es : List (Nat × CpInfo)) (last : Nat) : List CpInfo := es.foldr (fun e r => gap e.1 (e.2 :: r)) (gap last [])
def pool (es : List (Nat × CpInfo)) (last : Nat) : Array CpInfo := ⟨poolList es last⟩
def fileOf (pool : Array CpInfo) (this : Nat) (attrs : Array Attribute := #[]) (ms : Array MethodInfo := #[]) (fl : Nat := 33) (sup : Nat := 0) (ifs : Array Nat := #[]) (fds : Array FieldInfo := #[]) : ClassFile where
  minorVersion := 0
  majorVersion := 65
  constantPool := pool
  accessFlags := fl
  thisClass := this
  superClass := sup
  interfaces := ifs
  fields := fds
  methods := ms
  attributes := attrs
def plain (name : String) (sup : Option ClassId) : Class where
  name := name
  kind := .ordinary
  loader := none
  accessFlags := 33
  super := sup
  interfaces := #[]
  cf := none
  fields := #[]
  methods := #[]
  instanceTypes := #[]
  staticTypes := #[]
  resolved := #[]
  callSites := []
  init := .initialized
  statics := none
  mirror := none

def pool0 : Array CpInfo := pool [(5, u "<init>"), (0, u "()V"), (1, .class_ 10), (1, u "java/lang/Object")] 113

def k0c0 : Code := { maxStack := 0, maxLocals := 1, code := object_method_1_code, exceptionTable := #[], attributes := #[] }
def k0m0 : Method := { name := "<init>", desc := "()V", sig := { parameters := [], returnType := none }, accessFlags := 1, code := some k0c0 }
/-- java/lang/Object -/
def k0 : Class := { plain "java/lang/Object" none with
  accessFlags := 33
  interfaces := #[]
  cf := some (fileOf pool0 8 #[] #[{ accessFlags := 1, nameIndex := 5, descriptorIndex := 6, attributes := #[] }] 33 0 #[] #[])
  fields := #[]
  methods := #[k0m0]
  instanceTypes := #[]
  staticTypes := #[]
  resolved := Array.replicate 124 none
  statics := none }

def pool1 : Array CpInfo := pool [(2, .class_ 4), (1, u "java/lang/Object"), (0, u "<init>"), (0, u "()V"), (0, .methodref 8 9), (0, .class_ 10), (0, .nameAndType 11 12), (0, u "com/example/eunomia/eunomia/builtin/UrlTextIsSchemePinLaw"), (0, u "isAsciiLetter"), (0, u "(C)Z"), (0, .class_ 14), (0, u "java/lang/String"), (0, .methodref 13 16), (0, .nameAndType 5 17), (0, u "([C)V"), (0, .integer 2147483647), (0, .integer 65535), (0, .methodref 8 21), (0, .nameAndType 22 23), (0, u "make"), (0, u "(ICCCC)Ljava/lang/String;"), (0, .methodref 8 25), (0, .nameAndType 26 12), (0, u "isLaterSchemeChar"), (0, .methodref 28 29), (0, .class_ 30), (0, .nameAndType 31 32), (0, u "com/example/eunomia/eunomia/builtin/UrlText"), (0, u "isScheme"), (0, u "(Ljava/lang/String;)Z"), (3, u "law"), (0, u "(IIIII)Z")] 2

def k1m0 : Method := { name := "<init>", desc := "()V", sig := { parameters := [], returnType := none }, accessFlags := 1, code := none }
def k1c1 : Code := { maxStack := 2, maxLocals := 1, code := method_2_code, exceptionTable := #[], attributes := #[] }
def k1m1 : Method := { name := "isAsciiLetter", desc := "(C)Z", sig := { parameters := [.char], returnType := some .boolean }, accessFlags := 10, code := some k1c1 }
def k1c2 : Code := { maxStack := 2, maxLocals := 1, code := method_3_code, exceptionTable := #[], attributes := #[] }
def k1m2 : Method := { name := "isLaterSchemeChar", desc := "(C)Z", sig := { parameters := [.char], returnType := some .boolean }, accessFlags := 10, code := some k1c2 }
def k1c3 : Code := { maxStack := 3, maxLocals := 6, code := method_4_code, exceptionTable := #[], attributes := #[] }
def k1m3 : Method := { name := "make", desc := "(ICCCC)Ljava/lang/String;", sig := { parameters := [.int, .char, .char, .char, .char], returnType := some (.object "java/lang/String") }, accessFlags := 10, code := some k1c3 }
def k1c4 : Code := { maxStack := 5, maxLocals := 12, code := code, exceptionTable := #[], attributes := #[] }
def k1m4 : Method := { name := "law", desc := "(IIIII)Z", sig := { parameters := [.int, .int, .int, .int, .int], returnType := some .boolean }, accessFlags := 9, code := some k1c4 }
/-- com/example/eunomia/eunomia/builtin/UrlTextIsSchemePinLaw -/
def k1 : Class := { plain "com/example/eunomia/eunomia/builtin/UrlTextIsSchemePinLaw" (some 0) with
  accessFlags := 49
  interfaces := #[]
  cf := some (fileOf pool1 8 #[] #[{ accessFlags := 1, nameIndex := 5, descriptorIndex := 6, attributes := #[] }, { accessFlags := 10, nameIndex := 11, descriptorIndex := 12, attributes := #[] }, { accessFlags := 10, nameIndex := 26, descriptorIndex := 12, attributes := #[] }, { accessFlags := 10, nameIndex := 22, descriptorIndex := 23, attributes := #[] }, { accessFlags := 9, nameIndex := 36, descriptorIndex := 37, attributes := #[] }] 49 2 #[] #[])
  fields := #[]
  methods := #[k1m0, k1m1, k1m2, k1m3, k1m4]
  instanceTypes := #[]
  staticTypes := #[]
  resolved := Array.replicate 40 none
  statics := none }

def pool2 : Array CpInfo := pool [(1, .class_ 2), (0, u "java/io/Serializable"), (0, .class_ 4), (0, u "java/lang/Object")] 2

/-- java/io/Serializable -/
def k2 : Class := { plain "java/io/Serializable" (some 0) with
  accessFlags := 1537
  interfaces := #[]
  cf := some (fileOf pool2 1 #[] #[] 1537 3 #[] #[])
  fields := #[]
  methods := #[]
  instanceTypes := #[]
  staticTypes := #[]
  resolved := Array.replicate 7 none
  statics := none }

def pool3 : Array CpInfo := pool [(1, .class_ 2), (0, u "java/lang/Comparable"), (0, .class_ 4), (0, u "java/lang/Object")] 7

/-- java/lang/Comparable -/
def k3 : Class := { plain "java/lang/Comparable" (some 0) with
  accessFlags := 1537
  interfaces := #[]
  cf := some (fileOf pool3 1 #[] #[] 1537 3 #[] #[])
  fields := #[]
  methods := #[]
  instanceTypes := #[]
  staticTypes := #[]
  resolved := Array.replicate 12 none
  statics := none }

def pool4 : Array CpInfo := pool [(2, .class_ 4), (1, u "java/lang/CharSequence"), (0, u "length"), (0, u "()I"), (38, u "charAt"), (0, u "(I)C"), (0, .class_ 48), (0, u "java/lang/CharSequence$1CodePointIterator"), (10, .class_ 60), (0, u "java/lang/CharSequence$1CharIterator"), (5, .class_ 67), (0, u "java/lang/Object")] 63

def k4m0 : Method := { name := "length", desc := "()I", sig := { parameters := [], returnType := some .int }, accessFlags := 1025, code := none }
def k4m1 : Method := { name := "charAt", desc := "(I)C", sig := { parameters := [.int], returnType := some .char }, accessFlags := 1025, code := none }
/-- java/lang/CharSequence -/
def k4 : Class := { plain "java/lang/CharSequence" (some 0) with
  accessFlags := 1537
  interfaces := #[]
  cf := some (fileOf pool4 2 #[.nestMembers #[47, 59]] #[{ accessFlags := 1025, nameIndex := 5, descriptorIndex := 6, attributes := #[] }, { accessFlags := 1025, nameIndex := 45, descriptorIndex := 46, attributes := #[] }] 1537 66 #[] #[])
  fields := #[]
  methods := #[k4m0, k4m1]
  instanceTypes := #[]
  staticTypes := #[]
  resolved := Array.replicate 131 none
  statics := none }

def pool5 : Array CpInfo := pool [(1, .class_ 2), (0, u "java/lang/constant/Constable"), (0, .class_ 4), (0, u "java/lang/Object")] 6

/-- java/lang/constant/Constable -/
def k5 : Class := { plain "java/lang/constant/Constable" (some 0) with
  accessFlags := 1537
  interfaces := #[]
  cf := some (fileOf pool5 1 #[] #[] 1537 3 #[] #[])
  fields := #[]
  methods := #[]
  instanceTypes := #[]
  staticTypes := #[]
  resolved := Array.replicate 11 none
  statics := none }

def pool6 : Array CpInfo := pool [(1, .class_ 2), (0, u "java/lang/constant/ConstantDesc"), (0, .class_ 4), (0, u "java/lang/Object")] 32

/-- java/lang/constant/ConstantDesc -/
def k6 : Class := { plain "java/lang/constant/ConstantDesc" (some 0) with
  accessFlags := 1537
  interfaces := #[]
  cf := some (fileOf pool6 1 #[] #[] 1537 3 #[] #[])
  fields := #[]
  methods := #[]
  instanceTypes := #[]
  staticTypes := #[]
  resolved := Array.replicate 37 none
  statics := none }

def pool7 : Array CpInfo := pool [(1, .methodref 2 3), (0, .class_ 4), (0, .nameAndType 5 6), (0, u "java/lang/Object"), (0, u "<init>"), (0, u "()V"), (0, .string 8), (0, u ""), (0, .fieldref 10 11), (0, .class_ 12), (0, .nameAndType 13 14), (0, u "java/lang/String"), (0, u "value"), (0, u "[B"), (0, .fieldref 10 16), (0, .nameAndType 17 18), (0, u "coder"), (0, u "B"), (2, u "hash"), (0, u "I"), (2, u "hashIsZero"), (0, u "Z"), (0, .methodref 10 28), (0, .nameAndType 5 29), (0, u "([CIILjava/lang/Void;)V"), (8, .fieldref 10 39), (0, .nameAndType 40 26), (0, u "COMPACT_STRINGS"), (1, .class_ 44), (1, u "java/lang/StringUTF16"), (0, u "compress"), (1, .methodref 42 48), (0, .nameAndType 49 50), (0, u "coderFromArrayLen"), (0, u "([BI)B"), (56, .class_ 109), (1, u "java/lang/StringLatin1"), (32, u "()Z"), (34, .methodref 42 178), (0, .nameAndType 45 179), (0, u "([CII)[B"), (154, u "()I"), (0, .methodref 10 336), (0, .nameAndType 17 337), (0, u "()B"), (25, u "([BI)C"), (27, u "(II)V"), (35, u "(I)C"), (64, .methodref 10 493), (0, .nameAndType 494 142), (0, u "isLatin1"), (0, .methodref 107 496), (0, .nameAndType 497 363), (0, u "charAt"), (0, .methodref 42 496), (2, u "checkIndex"), (5, u "length"), (67, .class_ 576), (0, u "java/lang/CharSequence"), (22, u "CASE_INSENSITIVE_ORDER"), (0, u "Ljava/util/Comparator;"), (91, u "isEmpty"), (317, u "([C)V"), (42, .fieldref 1054 1055), (0, .class_ 1056), (0, .nameAndType 1057 1058), (0, u "jdk/internal/util/Preconditions"), (0, u "SIOOBE_FORMATTER"), (0, u "Ljava/util/function/BiFunction;"), (0, .methodref 1054 1060), (0, .nameAndType 501 1061), (0, u "(IILjava/util/function/BiFunction;)I"), (39, u "serialPersistentFields"), (0, u "[Ljava/io/ObjectStreamField;"), (0, .class_ 1104), (0, u "java/lang/String$CaseInsensitiveComparator"), (1, .class_ 1107), (0, u "java/io/Serializable"), (0, .class_ 1109), (0, u "java/lang/Comparable"), (0, .class_ 1111), (0, u "java/lang/constant/Constable"), (0, .class_ 1113), (0, u "java/lang/constant/ConstantDesc"), (2, u "serialVersionUID"), (0, u "J"), (3, u "REPL"), (0, u "C"), (2, u "LATIN1"), (1, u "UTF16")] 323

def k7m0 : Method := { name := "<init>", desc := "()V", sig := { parameters := [], returnType := none }, accessFlags := 1, code := none }
def k7c1 : Code := { maxStack := 5, maxLocals := 2, code := jdk_42_method_3_code, exceptionTable := #[], attributes := #[] }
def k7m1 : Method := { name := "<init>", desc := "([C)V", sig := { parameters := [(.array .char)], returnType := none }, accessFlags := 1, code := some k7c1 }
def k7c2 : Code := { maxStack := 2, maxLocals := 1, code := jdk_42_method_54_code, exceptionTable := #[], attributes := #[] }
def k7m2 : Method := { name := "length", desc := "()I", sig := { parameters := [], returnType := some .int }, accessFlags := 1, code := some k7c2 }
def k7c3 : Code := { maxStack := 1, maxLocals := 1, code := jdk_42_method_55_code, exceptionTable := #[], attributes := #[] }
def k7m3 : Method := { name := "isEmpty", desc := "()Z", sig := { parameters := [], returnType := some .boolean }, accessFlags := 1, code := some k7c3 }
def k7c4 : Code := { maxStack := 2, maxLocals := 2, code := jdk_42_method_56_code, exceptionTable := #[], attributes := #[] }
def k7m4 : Method := { name := "charAt", desc := "(I)C", sig := { parameters := [.int], returnType := some .char }, accessFlags := 1, code := some k7c4 }
def k7c5 : Code := { maxStack := 4, maxLocals := 6, code := jdk_42_method_149_code, exceptionTable := #[], attributes := #[] }
def k7m5 : Method := { name := "<init>", desc := "([CIILjava/lang/Void;)V", sig := { parameters := [(.array .char), .int, .int, (.object "java/lang/Void")], returnType := none }, accessFlags := 2, code := some k7c5 }
def k7c6 : Code := { maxStack := 1, maxLocals := 1, code := jdk_42_method_152_code, exceptionTable := #[], attributes := #[] }
def k7m6 : Method := { name := "coder", desc := "()B", sig := { parameters := [], returnType := some .byte }, accessFlags := 0, code := some k7c6 }
def k7c7 : Code := { maxStack := 1, maxLocals := 1, code := jdk_42_method_154_code, exceptionTable := #[], attributes := #[] }
def k7m7 : Method := { name := "isLatin1", desc := "()Z", sig := { parameters := [], returnType := some .boolean }, accessFlags := 0, code := some k7c7 }
def k7c8 : Code := { maxStack := 3, maxLocals := 2, code := jdk_42_method_155_code, exceptionTable := #[], attributes := #[] }
def k7m8 : Method := { name := "checkIndex", desc := "(II)V", sig := { parameters := [.int, .int], returnType := none }, accessFlags := 8, code := some k7c8 }
/-- java/lang/String -/
def k7 : Class := { plain "java/lang/String" (some 0) with
  accessFlags := 49
  interfaces := #[2, 3, 4, 5, 6]
  cf := some (fileOf pool7 10 #[.nestMembers #[1103]] #[{ accessFlags := 1, nameIndex := 5, descriptorIndex := 6, attributes := #[] }, { accessFlags := 1, nameIndex := 5, descriptorIndex := 1010, attributes := #[] }, { accessFlags := 1, nameIndex := 507, descriptorIndex := 334, attributes := #[] }, { accessFlags := 1, nameIndex := 692, descriptorIndex := 142, attributes := #[] }, { accessFlags := 1, nameIndex := 497, descriptorIndex := 427, attributes := #[] }, { accessFlags := 2, nameIndex := 5, descriptorIndex := 29, attributes := #[] }, { accessFlags := 0, nameIndex := 17, descriptorIndex := 337, attributes := #[] }, { accessFlags := 0, nameIndex := 494, descriptorIndex := 142, attributes := #[] }, { accessFlags := 8, nameIndex := 501, descriptorIndex := 391, attributes := #[] }] 49 2 #[1106, 1108, 575, 1110, 1112] #[{ accessFlags := 18, nameIndex := 13, descriptorIndex := 14, attributes := #[] }, { accessFlags := 18, nameIndex := 17, descriptorIndex := 18, attributes := #[] }, { accessFlags := 2, nameIndex := 21, descriptorIndex := 22, attributes := #[] }, { accessFlags := 2, nameIndex := 25, descriptorIndex := 26, attributes := #[] }, { accessFlags := 26, nameIndex := 1116, descriptorIndex := 1117, attributes := #[] }, { accessFlags := 24, nameIndex := 40, descriptorIndex := 26, attributes := #[] }, { accessFlags := 26, nameIndex := 1101, descriptorIndex := 1102, attributes := #[] }, { accessFlags := 26, nameIndex := 1121, descriptorIndex := 1122, attributes := #[] }, { accessFlags := 25, nameIndex := 599, descriptorIndex := 600, attributes := #[] }, { accessFlags := 24, nameIndex := 1125, descriptorIndex := 18, attributes := #[] }, { accessFlags := 24, nameIndex := 1127, descriptorIndex := 18, attributes := #[] }])
  fields := #[{ name := "value", type := (.array .byte), accessFlags := 18, slot := 0, constantValue := 0 }, { name := "coder", type := .byte, accessFlags := 18, slot := 1, constantValue := 0 }, { name := "hash", type := .int, accessFlags := 2, slot := 2, constantValue := 0 }, { name := "hashIsZero", type := .boolean, accessFlags := 2, slot := 3, constantValue := 0 }, { name := "serialVersionUID", type := .long, accessFlags := 26, slot := 0, constantValue := 0 }, { name := "COMPACT_STRINGS", type := .boolean, accessFlags := 24, slot := 1, constantValue := 0 }, { name := "serialPersistentFields", type := (.array (.object "java/io/ObjectStreamField")), accessFlags := 26, slot := 2, constantValue := 0 }, { name := "REPL", type := .char, accessFlags := 26, slot := 3, constantValue := 0 }, { name := "CASE_INSENSITIVE_ORDER", type := (.object "java/util/Comparator"), accessFlags := 25, slot := 4, constantValue := 0 }, { name := "LATIN1", type := .byte, accessFlags := 24, slot := 5, constantValue := 0 }, { name := "UTF16", type := .byte, accessFlags := 24, slot := 6, constantValue := 0 }]
  methods := #[k7m0, k7m1, k7m2, k7m3, k7m4, k7m5, k7m6, k7m7, k7m8]
  instanceTypes := #[(.array .byte), .byte, .int, .boolean]
  staticTypes := #[.long, .boolean, (.array (.object "java/io/ObjectStreamField")), .char, (.object "java/util/Comparator"), .byte, .byte]
  resolved := Array.replicate 1451 none
  statics := some 0 }

def pool8 : Array CpInfo := pool [(2, .class_ 4), (1, u "java/lang/Object"), (3, .class_ 10), (1, u "com/example/eunomia/eunomia/builtin/UrlText"), (0, u "scheme"), (0, u "Ljava/lang/String;"), (2, u "host"), (2, u "port"), (0, u "I"), (0, .interfaceMethodref 21 22), (0, .class_ 23), (0, .nameAndType 24 25), (0, u "java/lang/CharSequence"), (0, u "length"), (0, u "()I"), (0, .methodref 8 27), (0, .nameAndType 28 29), (0, u "schemeLength"), (0, u "(Ljava/lang/CharSequence;)I"), (0, .interfaceMethodref 21 31), (0, .nameAndType 32 33), (0, u "charAt"), (0, u "(I)C"), (13, .class_ 49), (1, u "com/example/eunomia/eunomia/builtin/UrlText$Authority"), (7, u "HOST_REQUIRED"), (0, u "Ljava/util/Set;"), (7, .class_ 68), (1, u "java/lang/String"), (8, .methodref 66 78), (0, .nameAndType 79 80), (0, u "isEmpty"), (0, u "()Z"), (1, .class_ 84), (1, u "com/example/eunomia/eunomia/builtin/UrlText$Part"), (14, .methodref 66 22), (10, u "DEFAULT_PORTS"), (0, u "Ljava/util/Map;"), (15, .methodref 8 128), (0, .nameAndType 129 130), (0, u "isSchemeCharacter"), (0, u "(CZ)Z"), (28, u "(Ljava/lang/String;)Z"), (79, u "UNRESERVED_SYMBOLS"), (1, u "SUB_DELIMITERS"), (0, u "PORT_MAX"), (8, u "isScheme")] 9

def k8c0 : Code := { maxStack := 2, maxLocals := 1, code := prog_4_method_3_code, exceptionTable := #[], attributes := #[] }
def k8m0 : Method := { name := "isScheme", desc := "(Ljava/lang/String;)Z", sig := { parameters := [(.object "java/lang/String")], returnType := some .boolean }, accessFlags := 8, code := some k8c0 }
def k8c1 : Code := { maxStack := 2, maxLocals := 2, code := prog_4_method_8_code, exceptionTable := #[], attributes := #[] }
def k8m1 : Method := { name := "schemeLength", desc := "(Ljava/lang/CharSequence;)I", sig := { parameters := [(.object "java/lang/CharSequence")], returnType := some .int }, accessFlags := 10, code := some k8c1 }
def k8c2 : Code := { maxStack := 2, maxLocals := 3, code := prog_4_method_9_code, exceptionTable := #[], attributes := #[] }
def k8m2 : Method := { name := "isSchemeCharacter", desc := "(CZ)Z", sig := { parameters := [.char, .boolean], returnType := some .boolean }, accessFlags := 10, code := some k8c2 }
/-- com/example/eunomia/eunomia/builtin/UrlText -/
def k8 : Class := { plain "com/example/eunomia/eunomia/builtin/UrlText" (some 0) with
  accessFlags := 32
  interfaces := #[]
  cf := some (fileOf pool8 8 #[.nestMembers #[47, 82]] #[{ accessFlags := 8, nameIndex := 251, descriptorIndex := 159, attributes := #[] }, { accessFlags := 10, nameIndex := 28, descriptorIndex := 29, attributes := #[] }, { accessFlags := 10, nameIndex := 129, descriptorIndex := 130, attributes := #[] }] 32 2 #[] #[{ accessFlags := 26, nameIndex := 239, descriptorIndex := 12, attributes := #[] }, { accessFlags := 26, nameIndex := 241, descriptorIndex := 12, attributes := #[] }, { accessFlags := 24, nameIndex := 242, descriptorIndex := 19, attributes := #[] }, { accessFlags := 26, nameIndex := 57, descriptorIndex := 58, attributes := #[] }, { accessFlags := 26, nameIndex := 110, descriptorIndex := 111, attributes := #[] }, { accessFlags := 18, nameIndex := 11, descriptorIndex := 12, attributes := #[] }, { accessFlags := 18, nameIndex := 15, descriptorIndex := 12, attributes := #[] }, { accessFlags := 18, nameIndex := 18, descriptorIndex := 19, attributes := #[] }])
  fields := #[{ name := "UNRESERVED_SYMBOLS", type := (.object "java/lang/String"), accessFlags := 26, slot := 0, constantValue := 0 }, { name := "SUB_DELIMITERS", type := (.object "java/lang/String"), accessFlags := 26, slot := 1, constantValue := 0 }, { name := "PORT_MAX", type := .int, accessFlags := 24, slot := 2, constantValue := 0 }, { name := "HOST_REQUIRED", type := (.object "java/util/Set"), accessFlags := 26, slot := 3, constantValue := 0 }, { name := "DEFAULT_PORTS", type := (.object "java/util/Map"), accessFlags := 26, slot := 4, constantValue := 0 }, { name := "scheme", type := (.object "java/lang/String"), accessFlags := 18, slot := 0, constantValue := 0 }, { name := "host", type := (.object "java/lang/String"), accessFlags := 18, slot := 1, constantValue := 0 }, { name := "port", type := .int, accessFlags := 18, slot := 2, constantValue := 0 }]
  methods := #[k8m0, k8m1, k8m2]
  instanceTypes := #[(.object "java/lang/String"), (.object "java/lang/String"), .int]
  staticTypes := #[(.object "java/lang/String"), (.object "java/lang/String"), .int, (.object "java/util/Set"), (.object "java/util/Map")]
  resolved := Array.replicate 261 none
  statics := none }

def pool9 : Array CpInfo := pool [(3, .class_ 4), (0, u "java/lang/String"), (1, .class_ 8), (1, u "java/lang/Object"), (0, u "<init>"), (0, u "()V"), (0, .methodref 12 13), (0, .class_ 14), (0, .nameAndType 15 16), (0, u "java/lang/StringUTF16"), (0, u "newBytesLength"), (0, u "(I)I"), (3, .integer 1073741823), (23, .fieldref 12 45), (0, .nameAndType 46 47), (0, u "$assertionsDisabled"), (0, u "Z"), (0, .methodref 12 49), (0, .nameAndType 50 51), (0, u "length"), (0, u "([B)I"), (7, .fieldref 12 60), (0, .nameAndType 61 62), (0, u "HI_BYTE_SHIFT"), (0, u "I"), (0, .fieldref 12 64), (0, .nameAndType 65 62), (0, u "LO_BYTE_SHIFT"), (1, .methodref 12 68), (0, .nameAndType 69 70), (0, u "checkIndex"), (0, u "(I[B)V"), (0, .methodref 12 72), (0, .nameAndType 73 74), (0, u "getChar"), (0, u "([BI)C"), (32, .methodref 12 108), (0, .nameAndType 109 110), (0, u "newBytesFor"), (0, u "(I)[B"), (0, .methodref 12 112), (0, .nameAndType 113 114), (0, u "putChar"), (0, u "([BII)V"), (0, .methodref 12 116), (0, .nameAndType 117 118), (0, u "compress"), (0, u "([CI[BII)I"), (0, .methodref 12 120), (0, .nameAndType 121 122), (0, u "toBytes"), (0, u "([CII)[B"), (138, u "coderFromArrayLen"), (0, u "([BI)B"), (106, .class_ 371), (1, u "java/lang/StringUTF16$LinesSpliterator"), (20, u "charAt"), (21, .methodref 3 415), (0, .nameAndType 69 416), (0, u "(II)V"), (13, u "MAX_LENGTH"), (196, .class_ 628), (0, u "java/lang/StringUTF16$CodePointsSpliterator"), (0, .class_ 630), (0, u "java/lang/StringUTF16$CharsSpliterator")] 4

def k9m0 : Method := { name := "<init>", desc := "()V", sig := { parameters := [], returnType := none }, accessFlags := 0, code := none }
def k9c1 : Code := { maxStack := 1, maxLocals := 1, code := jdk_52_method_2_code, exceptionTable := #[], attributes := #[] }
def k9m1 : Method := { name := "newBytesFor", desc := "(I)[B", sig := { parameters := [.int], returnType := some (.array .byte) }, accessFlags := 9, code := some k9c1 }
def k9c2 : Code := { maxStack := 4, maxLocals := 1, code := jdk_52_method_3_code, exceptionTable := #[], attributes := #[] }
def k9m2 : Method := { name := "newBytesLength", desc := "(I)I", sig := { parameters := [.int], returnType := some .int }, accessFlags := 9, code := some k9c2 }
def k9c3 : Code := { maxStack := 4, maxLocals := 3, code := jdk_52_method_4_code, exceptionTable := #[], attributes := #[] }
def k9m3 : Method := { name := "putChar", desc := "([BII)V", sig := { parameters := [(.array .byte), .int, .int], returnType := none }, accessFlags := 8, code := some k9c3 }
def k9c4 : Code := { maxStack := 3, maxLocals := 2, code := jdk_52_method_5_code, exceptionTable := #[], attributes := #[] }
def k9m4 : Method := { name := "getChar", desc := "([BI)C", sig := { parameters := [(.array .byte), .int], returnType := some .char }, accessFlags := 8, code := some k9c4 }
def k9c5 : Code := { maxStack := 2, maxLocals := 1, code := jdk_52_method_6_code, exceptionTable := #[], attributes := #[] }
def k9m5 : Method := { name := "length", desc := "([B)I", sig := { parameters := [(.array .byte)], returnType := some .int }, accessFlags := 9, code := some k9c5 }
def k9c6 : Code := { maxStack := 4, maxLocals := 5, code := jdk_52_method_14_code, exceptionTable := #[], attributes := #[] }
def k9m6 : Method := { name := "toBytes", desc := "([CII)[B", sig := { parameters := [(.array .char), .int, .int], returnType := some (.array .byte) }, accessFlags := 9, code := some k9c6 }
def k9c7 : Code := { maxStack := 2, maxLocals := 2, code := jdk_52_method_15_code, exceptionTable := #[], attributes := #[] }
def k9m7 : Method := { name := "coderFromArrayLen", desc := "([BI)B", sig := { parameters := [(.array .byte), .int], returnType := some .byte }, accessFlags := 8, code := some k9c7 }
def k9c8 : Code := { maxStack := 5, maxLocals := 6, code := jdk_52_method_16_code, exceptionTable := #[], attributes := #[] }
def k9m8 : Method := { name := "compress", desc := "([CII)[B", sig := { parameters := [(.array .char), .int, .int], returnType := some (.array .byte) }, accessFlags := 9, code := some k9c8 }
def k9c9 : Code := { maxStack := 3, maxLocals := 7, code := jdk_52_method_21_code, exceptionTable := #[], attributes := #[] }
def k9m9 : Method := { name := "compress", desc := "([CI[BII)I", sig := { parameters := [(.array .char), .int, (.array .byte), .int, .int], returnType := some .int }, accessFlags := 9, code := some k9c9 }
def k9c10 : Code := { maxStack := 2, maxLocals := 2, code := jdk_52_method_83_code, exceptionTable := #[], attributes := #[] }
def k9m10 : Method := { name := "charAt", desc := "([BI)C", sig := { parameters := [(.array .byte), .int], returnType := some .char }, accessFlags := 9, code := some k9c10 }
def k9c11 : Code := { maxStack := 2, maxLocals := 2, code := jdk_52_method_91_code, exceptionTable := #[], attributes := #[] }
def k9m11 : Method := { name := "checkIndex", desc := "(I[B)V", sig := { parameters := [.int, (.array .byte)], returnType := none }, accessFlags := 9, code := some k9c11 }
/-- java/lang/StringUTF16 -/
def k9 : Class := { plain "java/lang/StringUTF16" (some 0) with
  accessFlags := 48
  interfaces := #[]
  cf := some (fileOf pool9 12 #[.nestMembers #[627, 629, 369]] #[{ accessFlags := 0, nameIndex := 9, descriptorIndex := 10, attributes := #[] }, { accessFlags := 9, nameIndex := 109, descriptorIndex := 110, attributes := #[] }, { accessFlags := 9, nameIndex := 15, descriptorIndex := 16, attributes := #[] }, { accessFlags := 8, nameIndex := 113, descriptorIndex := 114, attributes := #[] }, { accessFlags := 8, nameIndex := 73, descriptorIndex := 74, attributes := #[] }, { accessFlags := 9, nameIndex := 50, descriptorIndex := 51, attributes := #[] }, { accessFlags := 9, nameIndex := 121, descriptorIndex := 122, attributes := #[] }, { accessFlags := 8, nameIndex := 261, descriptorIndex := 262, attributes := #[] }, { accessFlags := 9, nameIndex := 117, descriptorIndex := 122, attributes := #[] }, { accessFlags := 9, nameIndex := 117, descriptorIndex := 118, attributes := #[] }, { accessFlags := 9, nameIndex := 392, descriptorIndex := 74, attributes := #[] }, { accessFlags := 9, nameIndex := 69, descriptorIndex := 70, attributes := #[] }] 48 6 #[] #[{ accessFlags := 26, nameIndex := 61, descriptorIndex := 62, attributes := #[] }, { accessFlags := 26, nameIndex := 65, descriptorIndex := 62, attributes := #[] }, { accessFlags := 24, nameIndex := 430, descriptorIndex := 62, attributes := #[] }, { accessFlags := 4120, nameIndex := 46, descriptorIndex := 47, attributes := #[] }])
  fields := #[{ name := "HI_BYTE_SHIFT", type := .int, accessFlags := 26, slot := 0, constantValue := 0 }, { name := "LO_BYTE_SHIFT", type := .int, accessFlags := 26, slot := 1, constantValue := 0 }, { name := "MAX_LENGTH", type := .int, accessFlags := 24, slot := 2, constantValue := 0 }, { name := "$assertionsDisabled", type := .boolean, accessFlags := 4120, slot := 3, constantValue := 0 }]
  methods := #[k9m0, k9m1, k9m2, k9m3, k9m4, k9m5, k9m6, k9m7, k9m8, k9m9, k9m10, k9m11]
  instanceTypes := #[]
  staticTypes := #[.int, .int, .int, .boolean]
  resolved := Array.replicate 635 none
  statics := some 1 }

def pool10 : Array CpInfo := pool [(1, .class_ 2), (0, u "java/lang/String"), (1, .class_ 6), (1, u "java/lang/Object"), (0, u "<init>"), (0, u "()V"), (0, .methodref 1 10), (0, .nameAndType 11 12), (0, u "checkIndex"), (0, u "(II)V"), (1, .class_ 16), (1, u "java/lang/StringLatin1"), (36, u "([BI)C"), (67, u "$assertionsDisabled"), (0, u "Z"), (98, .class_ 223), (1, u "java/lang/StringLatin1$LinesSpliterator"), (28, u "charAt"), (137, .class_ 391), (0, u "java/lang/StringLatin1$CharsSpliterator")] 3

def k10m0 : Method := { name := "<init>", desc := "()V", sig := { parameters := [], returnType := none }, accessFlags := 0, code := none }
def k10c1 : Code := { maxStack := 2, maxLocals := 2, code := jdk_43_method_2_code, exceptionTable := #[], attributes := #[] }
def k10m1 : Method := { name := "charAt", desc := "([BI)C", sig := { parameters := [(.array .byte), .int], returnType := some .char }, accessFlags := 9, code := some k10c1 }
/-- java/lang/StringLatin1 -/
def k10 : Class := { plain "java/lang/StringLatin1" (some 0) with
  accessFlags := 48
  interfaces := #[]
  cf := some (fileOf pool10 14 #[.nestMembers #[390, 221]] #[{ accessFlags := 0, nameIndex := 7, descriptorIndex := 8, attributes := #[] }, { accessFlags := 9, nameIndex := 252, descriptorIndex := 53, attributes := #[] }] 48 4 #[] #[{ accessFlags := 4120, nameIndex := 121, descriptorIndex := 122, attributes := #[] }])
  fields := #[{ name := "$assertionsDisabled", type := .boolean, accessFlags := 4120, slot := 0, constantValue := 0 }]
  methods := #[k10m0, k10m1]
  instanceTypes := #[]
  staticTypes := #[.boolean]
  resolved := Array.replicate 395 none
  statics := none }

def pool11 : Array CpInfo := pool [(2, .class_ 4), (1, u "java/lang/Object"), (0, u "<init>"), (0, u "()V"), (17, .class_ 26), (1, u "jdk/internal/util/Preconditions"), (6, u "checkIndex"), (21, .class_ 56), (0, u "jdk/internal/util/Preconditions$4"), (57, .class_ 115), (0, u "jdk/internal/util/Preconditions$1"), (7, u "SIOOBE_FORMATTER"), (0, u "Ljava/util/function/BiFunction;"), (0, .class_ 126), (0, u "jdk/internal/util/Preconditions$2"), (3, u "AIOOBE_FORMATTER"), (0, .class_ 132), (0, u "jdk/internal/util/Preconditions$3"), (3, u "IOOBE_FORMATTER"), (41, u "(IILjava/util/function/BiFunction;)I")] 15

def k11m0 : Method := { name := "<init>", desc := "()V", sig := { parameters := [], returnType := none }, accessFlags := 1, code := none }
def k11c1 : Code := { maxStack := 3, maxLocals := 3, code := jdk_41_method_11_code, exceptionTable := #[], attributes := #[] }
def k11m1 : Method := { name := "checkIndex", desc := "(IILjava/util/function/BiFunction;)I", sig := { parameters := [.int, .int, (.object "java/util/function/BiFunction")], returnType := some .int }, accessFlags := 9, code := some k11c1 }
/-- jdk/internal/util/Preconditions -/
def k11 : Class := { plain "jdk/internal/util/Preconditions" (some 0) with
  accessFlags := 33
  interfaces := #[]
  cf := some (fileOf pool11 24 #[.nestMembers #[55, 131, 125, 114]] #[{ accessFlags := 1, nameIndex := 5, descriptorIndex := 6, attributes := #[] }, { accessFlags := 9, nameIndex := 33, descriptorIndex := 178, attributes := #[] }] 33 2 #[] #[{ accessFlags := 25, nameIndex := 123, descriptorIndex := 124, attributes := #[] }, { accessFlags := 25, nameIndex := 130, descriptorIndex := 124, attributes := #[] }, { accessFlags := 25, nameIndex := 136, descriptorIndex := 124, attributes := #[] }])
  fields := #[{ name := "SIOOBE_FORMATTER", type := (.object "java/util/function/BiFunction"), accessFlags := 25, slot := 0, constantValue := 0 }, { name := "AIOOBE_FORMATTER", type := (.object "java/util/function/BiFunction"), accessFlags := 25, slot := 1, constantValue := 0 }, { name := "IOOBE_FORMATTER", type := (.object "java/util/function/BiFunction"), accessFlags := 25, slot := 2, constantValue := 0 }]
  methods := #[k11m0, k11m1]
  instanceTypes := #[]
  staticTypes := #[(.object "java/util/function/BiFunction"), (.object "java/util/function/BiFunction"), (.object "java/util/function/BiFunction")]
  resolved := Array.replicate 194 none
  statics := some 2 }

def pool12 : Array CpInfo := pool [(9, u "<init>"), (6, .class_ 18), (1, u "java/lang/Object"), (0, u "()V"), (1, .class_ 23), (1, u "jdk/internal/util/ArraysSupport"), (0, u "LOG2_ARRAY_LONG_INDEX_SCALE"), (0, u "I"), (2, u "U"), (0, u "Ljdk/internal/misc/Unsafe;"), (8, u "BIG_ENDIAN"), (0, u "Z"), (8, u "LOG2_BYTE_BIT_SIZE"), (4, u "LOG2_ARRAY_INT_INDEX_SCALE"), (54, u "JLA"), (0, u "Ljdk/internal/access/JavaLangAccess;"), (11, u "LOG2_ARRAY_BOOLEAN_INDEX_SCALE"), (9, u "LOG2_ARRAY_BYTE_INDEX_SCALE"), (5, u "LOG2_ARRAY_CHAR_INDEX_SCALE"), (5, u "LOG2_ARRAY_SHORT_INDEX_SCALE"), (18, u "LOG2_ARRAY_FLOAT_INDEX_SCALE"), (24, u "LOG2_ARRAY_DOUBLE_INDEX_SCALE"), (89, u "T_BOOLEAN"), (2, u "T_CHAR"), (1, u "T_FLOAT"), (1, u "T_DOUBLE"), (1, u "T_BYTE"), (1, u "T_SHORT"), (1, u "T_INT"), (1, u "T_LONG"), (1, u "SOFT_MAX_ARRAY_LENGTH")] 83

def k12m0 : Method := { name := "<init>", desc := "()V", sig := { parameters := [], returnType := none }, accessFlags := 2, code := none }
/-- jdk/internal/util/ArraysSupport -/
def k12 : Class := { plain "jdk/internal/util/ArraysSupport" (some 0) with
  accessFlags := 33
  interfaces := #[]
  cf := some (fileOf pool12 21 #[] #[{ accessFlags := 2, nameIndex := 9, descriptorIndex := 19, attributes := #[] }] 33 16 #[] #[{ accessFlags := 24, nameIndex := 28, descriptorIndex := 29, attributes := #[] }, { accessFlags := 26, nameIndex := 38, descriptorIndex := 39, attributes := #[] }, { accessFlags := 25, nameIndex := 121, descriptorIndex := 25, attributes := #[] }, { accessFlags := 25, nameIndex := 131, descriptorIndex := 25, attributes := #[] }, { accessFlags := 25, nameIndex := 137, descriptorIndex := 25, attributes := #[] }, { accessFlags := 25, nameIndex := 143, descriptorIndex := 25, attributes := #[] }, { accessFlags := 25, nameIndex := 53, descriptorIndex := 25, attributes := #[] }, { accessFlags := 25, nameIndex := 24, descriptorIndex := 25, attributes := #[] }, { accessFlags := 25, nameIndex := 162, descriptorIndex := 25, attributes := #[] }, { accessFlags := 25, nameIndex := 187, descriptorIndex := 25, attributes := #[] }, { accessFlags := 26, nameIndex := 48, descriptorIndex := 25, attributes := #[] }, { accessFlags := 25, nameIndex := 277, descriptorIndex := 25, attributes := #[] }, { accessFlags := 25, nameIndex := 280, descriptorIndex := 25, attributes := #[] }, { accessFlags := 25, nameIndex := 282, descriptorIndex := 25, attributes := #[] }, { accessFlags := 25, nameIndex := 284, descriptorIndex := 25, attributes := #[] }, { accessFlags := 25, nameIndex := 286, descriptorIndex := 25, attributes := #[] }, { accessFlags := 25, nameIndex := 288, descriptorIndex := 25, attributes := #[] }, { accessFlags := 25, nameIndex := 290, descriptorIndex := 25, attributes := #[] }, { accessFlags := 25, nameIndex := 292, descriptorIndex := 25, attributes := #[] }, { accessFlags := 26, nameIndex := 108, descriptorIndex := 109, attributes := #[] }, { accessFlags := 25, nameIndex := 294, descriptorIndex := 25, attributes := #[] }])
  fields := #[{ name := "U", type := (.object "jdk/internal/misc/Unsafe"), accessFlags := 24, slot := 0, constantValue := 0 }, { name := "BIG_ENDIAN", type := .boolean, accessFlags := 26, slot := 1, constantValue := 0 }, { name := "LOG2_ARRAY_BOOLEAN_INDEX_SCALE", type := .int, accessFlags := 25, slot := 2, constantValue := 0 }, { name := "LOG2_ARRAY_BYTE_INDEX_SCALE", type := .int, accessFlags := 25, slot := 3, constantValue := 0 }, { name := "LOG2_ARRAY_CHAR_INDEX_SCALE", type := .int, accessFlags := 25, slot := 4, constantValue := 0 }, { name := "LOG2_ARRAY_SHORT_INDEX_SCALE", type := .int, accessFlags := 25, slot := 5, constantValue := 0 }, { name := "LOG2_ARRAY_INT_INDEX_SCALE", type := .int, accessFlags := 25, slot := 6, constantValue := 0 }, { name := "LOG2_ARRAY_LONG_INDEX_SCALE", type := .int, accessFlags := 25, slot := 7, constantValue := 0 }, { name := "LOG2_ARRAY_FLOAT_INDEX_SCALE", type := .int, accessFlags := 25, slot := 8, constantValue := 0 }, { name := "LOG2_ARRAY_DOUBLE_INDEX_SCALE", type := .int, accessFlags := 25, slot := 9, constantValue := 0 }, { name := "LOG2_BYTE_BIT_SIZE", type := .int, accessFlags := 26, slot := 10, constantValue := 0 }, { name := "T_BOOLEAN", type := .int, accessFlags := 25, slot := 11, constantValue := 0 }, { name := "T_CHAR", type := .int, accessFlags := 25, slot := 12, constantValue := 0 }, { name := "T_FLOAT", type := .int, accessFlags := 25, slot := 13, constantValue := 0 }, { name := "T_DOUBLE", type := .int, accessFlags := 25, slot := 14, constantValue := 0 }, { name := "T_BYTE", type := .int, accessFlags := 25, slot := 15, constantValue := 0 }, { name := "T_SHORT", type := .int, accessFlags := 25, slot := 16, constantValue := 0 }, { name := "T_INT", type := .int, accessFlags := 25, slot := 17, constantValue := 0 }, { name := "T_LONG", type := .int, accessFlags := 25, slot := 18, constantValue := 0 }, { name := "JLA", type := (.object "jdk/internal/access/JavaLangAccess"), accessFlags := 26, slot := 19, constantValue := 0 }, { name := "SOFT_MAX_ARRAY_LENGTH", type := .int, accessFlags := 25, slot := 20, constantValue := 0 }]
  methods := #[k12m0]
  instanceTypes := #[]
  staticTypes := #[(.object "jdk/internal/misc/Unsafe"), .boolean, .int, .int, .int, .int, .int, .int, .int, .int, .int, .int, .int, .int, .int, .int, .int, .int, .int, (.object "jdk/internal/access/JavaLangAccess"), .int]
  resolved := Array.replicate 378 none
  statics := none }

def pool13 : Array CpInfo := pool [(1, u "java/lang/Cloneable"), (0, .class_ 1), (0, u "java/lang/Object"), (0, .class_ 3)] 3

/-- java/lang/Cloneable -/
def k13 : Class := { plain "java/lang/Cloneable" (some 0) with
  accessFlags := 1537
  interfaces := #[]
  cf := some (fileOf pool13 2 #[] #[] 1537 4 #[] #[])
  fields := #[]
  methods := #[]
  instanceTypes := #[]
  staticTypes := #[]
  resolved := Array.replicate 8 none
  statics := none }

/-- the primitive byte -/
def k14 : Class := { plain "byte" none with kind := .primitive 'B', accessFlags := 0x411 }
/-- [B -/
def k15 : Class := { plain "[B" (some 0) with kind := .array 14 .byte, interfaces := #[13, 2], accessFlags := 1041 }

/-- the primitive char -/
def k16 : Class := { plain "char" none with kind := .primitive 'C', accessFlags := 0x411 }
/-- [C -/
def k17 : Class := { plain "[C" (some 0) with kind := .array 16 .char, interfaces := #[13, 2], accessFlags := 1041 }

/-- the primitive int -/
def k18 : Class := { plain "int" none with kind := .primitive 'I', accessFlags := 0x411 }
/-- [I -/
def k19 : Class := { plain "[I" (some 0) with kind := .array 18 .int, interfaces := #[13, 2], accessFlags := 1041 }

def heap : Heap := #[{ cls := 7, slots := #[.long 0, .int 1, .null, .int 0, .null, .int 0, .int 0], vm := .statics 7 },
  { cls := 9, slots := #[.int 0, .int 8, .int 0, .int 1], vm := .statics 9 },
  { cls := 11, slots := #[.null, .null, .null], vm := .statics 11 }]
def classes : Array Class := #[k0, k1, k2, k3, k4, k5, k6, k7, k8, k9, k10, k11, k12, k13, k14, k15, k16, k17, k18, k19]
def interned : List (Array UInt16 × Addr) := []
def slotsUsed : Nat := 14
def theMethod : MethodId := ⟨1, 4⟩
def args0 : Array Value := #[.int 5, .int 6, .int 7, .int 8, .int 9]
def aboutOver (below : List Frame) : State where
  vm := { classes := classes, interned := interned.toArray }
  heap := heap
  slotsUsed := slotsUsed
  threads := #[{ frames := .invoking theMethod args0 :: below }]
def below0 : List Frame := [.native { method := ⟨0, 0⟩, args := #[] }]
def about1 : State := aboutOver below0
def p0 : Program := .bare "" "" ""
def e0 : Env := launch0.env 0 0 0
theorem w_frames : about1.frames = Frame.invoking theMethod args0 :: below0 := rfl
set_option maxRecDepth 65536 in
theorem w_args : argsFit about1.vm theMethod args0 = true := by decide +kernel
set_option maxRecDepth 65536 in
theorem w_heap : heapFits about1 = true := by decide +kernel
set_option maxRecDepth 65536 in
theorem w_runnable : about1.curStatus? = some .runnable := by decide +kernel
set_option maxRecDepth 65536 in
theorem w_alone : about1.alone = true := by decide +kernel
set_option maxRecDepth 65536 in
theorem w_named : about1.methodNamed? x = some theMethod := by decide +kernel
set_option maxRecDepth 65536 in
theorem w_hears : about1.hears theMethod below0 = true := by decide +kernel
set_option maxRecDepth 65536 in
theorem w_ripe : about1.ripe theMethod args0 below0 = true := by decide +kernel
theorem w_running : about1.status = .running := rfl
set_option maxRecDepth 65536 in
theorem w_room : about1.hasRoom e0.platform room_1 = true :=
  launch0.hasRoom_least _ room_1 (by decide +kernel) (by decide +kernel) (by decide +kernel) (by decide +kernel) (by decide +kernel) (by decide +kernel)
theorem allAtoms_all (ts : List Jvm.Cond) (a : Array Jvm.Value) (st : Jvm.State) : (allAtoms ts).before a st = ts.all (fun c => c.before a st) := by
  induction ts with
  | nil => rfl
  | cons c t ih =>
    show (Jvm.Cond.and c (allAtoms t)).before a st = _
    rw [Jvm.Cond.before_and, ih, List.all_cons]
def words1 : List Jvm.Cond := Jvm.Cond.code x code maxLocals ret :: tables_1
/-- a 'code' word, met by the world's own term for the bytes: nothing is compared byte by byte -/
theorem code_word {y : MethodName} {bytes : ByteArray} {mx : Nat} {rt : Option FieldType} {a : Array Value} {s : State} {m : MethodId} {meth : Method} {c : Code} (h1 : s.methodNamed? y = some m) (h2 : s.vm.method? m = some meth) (h3 : meth.code = some c) (h4 : c.code = bytes)
    (h5 : (c.maxLocals == mx && c.exceptionTable.isEmpty && decide (c.maxStack ≤ mostOperands) && decide (meth.sig.returnType = rt) && !meth.locks && decide (parseMethodDescriptor y.desc = some meth.sig)) = true) : (Jvm.Cond.code y bytes mx rt).before a s = true := by
  simp only [Bool.and_eq_true, beq_iff_eq, Bool.not_eq_true', decide_eq_true_eq] at h5
  obtain ⟨⟨⟨⟨⟨g1, g2⟩, g3⟩, g4⟩, g5⟩, g6⟩ := h5
  simp [Cond.before, Cond.holds, Cond.value, h1, h2, h3, h4, g1, g2, g3, g4, g5, g6]
def isCode : Jvm.Cond → Bool
  | .code _ _ _ _ => true
  | _ => false
theorem all_split {L : List Jvm.Cond} {P : Jvm.Cond → Bool} (h1 : L.all (fun c => isCode c || P c) = true) (h2 : ∀ c ∈ L.filter isCode, P c = true) : L.all P = true := by
  refine List.all_eq_true.mpr fun c hc => ?_
  have h := List.all_eq_true.mp h1 c hc
  rcases Bool.eq_false_or_eq_true (isCode c) with hi | hi
  · exact h2 c (List.mem_filter.mpr ⟨hc, hi⟩)
  · simpa [hi] using h
set_option maxRecDepth 65536 in
theorem w_c0 : (Jvm.Cond.code x code maxLocals ret).before args0 about1 = true := code_word (m := ⟨1, 4⟩) (meth := k1m4) (c := k1c4) (by decide +kernel) rfl rfl rfl (by decide +kernel)
set_option maxRecDepth 65536 in
theorem w_c1 : (Jvm.Cond.code ({ cls := "com/example/eunomia/eunomia/builtin/UrlTextIsSchemePinLaw", name := "make", desc := "(ICCCC)Ljava/lang/String;" } : Jvm.MethodName) method_4_code (6 : Nat) (Option.some (Jvm.ClassFile.FieldType.object "java/lang/String"))).before args0 about1 = true := code_word (m := ⟨1, 3⟩) (meth := k1m3) (c := k1c3) (by decide +kernel) rfl rfl rfl (by decide +kernel)
set_option maxRecDepth 65536 in
theorem w_c2 : (Jvm.Cond.code ({ cls := "java/lang/String", name := "<init>", desc := "([C)V" } : Jvm.MethodName) jdk_42_method_3_code (2 : Nat) (Option.none : Option Jvm.ClassFile.FieldType)).before args0 about1 = true := code_word (m := ⟨7, 1⟩) (meth := k7m1) (c := k7c1) (by decide +kernel) rfl rfl rfl (by decide +kernel)
set_option maxRecDepth 65536 in
theorem w_c3 : (Jvm.Cond.code ({ cls := "java/lang/String", name := "<init>", desc := "([CIILjava/lang/Void;)V" } : Jvm.MethodName) jdk_42_method_149_code (6 : Nat) (Option.none : Option Jvm.ClassFile.FieldType)).before args0 about1 = true := code_word (m := ⟨7, 5⟩) (meth := k7m5) (c := k7c5) (by decide +kernel) rfl rfl rfl (by decide +kernel)
set_option maxRecDepth 65536 in
theorem w_c4 : (Jvm.Cond.code ({ cls := "java/lang/Object", name := "<init>", desc := "()V" } : Jvm.MethodName) object_method_1_code (1 : Nat) (Option.none : Option Jvm.ClassFile.FieldType)).before args0 about1 = true := code_word (m := ⟨0, 0⟩) (meth := k0m0) (c := k0c0) (by decide +kernel) rfl rfl rfl (by decide +kernel)
set_option maxRecDepth 65536 in
theorem w_c5 : (Jvm.Cond.code ({ cls := "com/example/eunomia/eunomia/builtin/UrlText", name := "isScheme", desc := "(Ljava/lang/String;)Z" } : Jvm.MethodName) prog_4_method_3_code (1 : Nat) (Option.some Jvm.ClassFile.FieldType.boolean)).before args0 about1 = true := code_word (m := ⟨8, 0⟩) (meth := k8m0) (c := k8c0) (by decide +kernel) rfl rfl rfl (by decide +kernel)
set_option maxRecDepth 65536 in
theorem w_c6 : (Jvm.Cond.code ({ cls := "java/lang/String", name := "isEmpty", desc := "()Z" } : Jvm.MethodName) jdk_42_method_55_code (1 : Nat) (Option.some Jvm.ClassFile.FieldType.boolean)).before args0 about1 = true := code_word (m := ⟨7, 3⟩) (meth := k7m3) (c := k7c3) (by decide +kernel) rfl rfl rfl (by decide +kernel)
set_option maxRecDepth 65536 in
theorem w_c7 : (Jvm.Cond.code ({ cls := "java/lang/StringUTF16", name := "compress", desc := "([CII)[B" } : Jvm.MethodName) jdk_52_method_16_code (6 : Nat) (Option.some (Jvm.ClassFile.FieldType.array Jvm.ClassFile.FieldType.byte))).before args0 about1 = true := code_word (m := ⟨9, 8⟩) (meth := k9m8) (c := k9c8) (by decide +kernel) rfl rfl rfl (by decide +kernel)
set_option maxRecDepth 65536 in
theorem w_c8 : (Jvm.Cond.code ({ cls := "java/lang/StringUTF16", name := "compress", desc := "([CI[BII)I" } : Jvm.MethodName) jdk_52_method_21_code (7 : Nat) (Option.some Jvm.ClassFile.FieldType.int)).before args0 about1 = true := code_word (m := ⟨9, 9⟩) (meth := k9m9) (c := k9c9) (by decide +kernel) rfl rfl rfl (by decide +kernel)
set_option maxRecDepth 65536 in
theorem w_c9 : (Jvm.Cond.code ({ cls := "java/lang/StringUTF16", name := "coderFromArrayLen", desc := "([BI)B" } : Jvm.MethodName) jdk_52_method_15_code (2 : Nat) (Option.some Jvm.ClassFile.FieldType.byte)).before args0 about1 = true := code_word (m := ⟨9, 7⟩) (meth := k9m7) (c := k9c7) (by decide +kernel) rfl rfl rfl (by decide +kernel)
set_option maxRecDepth 65536 in
theorem w_c10 : (Jvm.Cond.code ({ cls := "com/example/eunomia/eunomia/builtin/UrlTextIsSchemePinLaw", name := "isAsciiLetter", desc := "(C)Z" } : Jvm.MethodName) method_2_code (1 : Nat) (Option.some Jvm.ClassFile.FieldType.boolean)).before args0 about1 = true := code_word (m := ⟨1, 1⟩) (meth := k1m1) (c := k1c1) (by decide +kernel) rfl rfl rfl (by decide +kernel)
set_option maxRecDepth 65536 in
theorem w_c11 : (Jvm.Cond.code ({ cls := "com/example/eunomia/eunomia/builtin/UrlText", name := "schemeLength", desc := "(Ljava/lang/CharSequence;)I" } : Jvm.MethodName) prog_4_method_8_code (2 : Nat) (Option.some Jvm.ClassFile.FieldType.int)).before args0 about1 = true := code_word (m := ⟨8, 1⟩) (meth := k8m1) (c := k8c1) (by decide +kernel) rfl rfl rfl (by decide +kernel)
set_option maxRecDepth 65536 in
theorem w_c12 : (Jvm.Cond.code ({ cls := "java/lang/String", name := "length", desc := "()I" } : Jvm.MethodName) jdk_42_method_54_code (1 : Nat) (Option.some Jvm.ClassFile.FieldType.int)).before args0 about1 = true := code_word (m := ⟨7, 2⟩) (meth := k7m2) (c := k7c2) (by decide +kernel) rfl rfl rfl (by decide +kernel)
set_option maxRecDepth 65536 in
theorem w_c13 : (Jvm.Cond.code ({ cls := "java/lang/String", name := "coder", desc := "()B" } : Jvm.MethodName) jdk_42_method_152_code (1 : Nat) (Option.some Jvm.ClassFile.FieldType.byte)).before args0 about1 = true := code_word (m := ⟨7, 6⟩) (meth := k7m6) (c := k7c6) (by decide +kernel) rfl rfl rfl (by decide +kernel)
set_option maxRecDepth 65536 in
theorem w_c14 : (Jvm.Cond.code ({ cls := "java/lang/String", name := "charAt", desc := "(I)C" } : Jvm.MethodName) jdk_42_method_56_code (2 : Nat) (Option.some Jvm.ClassFile.FieldType.char)).before args0 about1 = true := code_word (m := ⟨7, 4⟩) (meth := k7m4) (c := k7c4) (by decide +kernel) rfl rfl rfl (by decide +kernel)
set_option maxRecDepth 65536 in
theorem w_c15 : (Jvm.Cond.code ({ cls := "java/lang/String", name := "isLatin1", desc := "()Z" } : Jvm.MethodName) jdk_42_method_154_code (1 : Nat) (Option.some Jvm.ClassFile.FieldType.boolean)).before args0 about1 = true := code_word (m := ⟨7, 7⟩) (meth := k7m7) (c := k7c7) (by decide +kernel) rfl rfl rfl (by decide +kernel)
set_option maxRecDepth 65536 in
theorem w_c16 : (Jvm.Cond.code ({ cls := "java/lang/StringLatin1", name := "charAt", desc := "([BI)C" } : Jvm.MethodName) jdk_43_method_2_code (2 : Nat) (Option.some Jvm.ClassFile.FieldType.char)).before args0 about1 = true := code_word (m := ⟨10, 1⟩) (meth := k10m1) (c := k10c1) (by decide +kernel) rfl rfl rfl (by decide +kernel)
set_option maxRecDepth 65536 in
theorem w_c17 : (Jvm.Cond.code ({ cls := "java/lang/String", name := "checkIndex", desc := "(II)V" } : Jvm.MethodName) jdk_42_method_155_code (2 : Nat) (Option.none : Option Jvm.ClassFile.FieldType)).before args0 about1 = true := code_word (m := ⟨7, 8⟩) (meth := k7m8) (c := k7c8) (by decide +kernel) rfl rfl rfl (by decide +kernel)
set_option maxRecDepth 65536 in
theorem w_c18 : (Jvm.Cond.code ({ cls := "jdk/internal/util/Preconditions", name := "checkIndex", desc := "(IILjava/util/function/BiFunction;)I" } : Jvm.MethodName) jdk_41_method_11_code (3 : Nat) (Option.some Jvm.ClassFile.FieldType.int)).before args0 about1 = true := code_word (m := ⟨11, 1⟩) (meth := k11m1) (c := k11c1) (by decide +kernel) rfl rfl rfl (by decide +kernel)
set_option maxRecDepth 65536 in
theorem w_c19 : (Jvm.Cond.code ({ cls := "com/example/eunomia/eunomia/builtin/UrlText", name := "isSchemeCharacter", desc := "(CZ)Z" } : Jvm.MethodName) prog_4_method_9_code (3 : Nat) (Option.some Jvm.ClassFile.FieldType.boolean)).before args0 about1 = true := code_word (m := ⟨8, 2⟩) (meth := k8m2) (c := k8c2) (by decide +kernel) rfl rfl rfl (by decide +kernel)
set_option maxRecDepth 65536 in
theorem w_c20 : (Jvm.Cond.code ({ cls := "java/lang/StringUTF16", name := "toBytes", desc := "([CII)[B" } : Jvm.MethodName) jdk_52_method_14_code (5 : Nat) (Option.some (Jvm.ClassFile.FieldType.array Jvm.ClassFile.FieldType.byte))).before args0 about1 = true := code_word (m := ⟨9, 6⟩) (meth := k9m6) (c := k9c6) (by decide +kernel) rfl rfl rfl (by decide +kernel)
set_option maxRecDepth 65536 in
theorem w_c21 : (Jvm.Cond.code ({ cls := "java/lang/StringUTF16", name := "newBytesFor", desc := "(I)[B" } : Jvm.MethodName) jdk_52_method_2_code (1 : Nat) (Option.some (Jvm.ClassFile.FieldType.array Jvm.ClassFile.FieldType.byte))).before args0 about1 = true := code_word (m := ⟨9, 1⟩) (meth := k9m1) (c := k9c1) (by decide +kernel) rfl rfl rfl (by decide +kernel)
set_option maxRecDepth 65536 in
theorem w_c22 : (Jvm.Cond.code ({ cls := "java/lang/StringUTF16", name := "newBytesLength", desc := "(I)I" } : Jvm.MethodName) jdk_52_method_3_code (1 : Nat) (Option.some Jvm.ClassFile.FieldType.int)).before args0 about1 = true := code_word (m := ⟨9, 2⟩) (meth := k9m2) (c := k9c2) (by decide +kernel) rfl rfl rfl (by decide +kernel)
set_option maxRecDepth 65536 in
theorem w_c23 : (Jvm.Cond.code ({ cls := "java/lang/StringUTF16", name := "putChar", desc := "([BII)V" } : Jvm.MethodName) jdk_52_method_4_code (3 : Nat) (Option.none : Option Jvm.ClassFile.FieldType)).before args0 about1 = true := code_word (m := ⟨9, 3⟩) (meth := k9m3) (c := k9c3) (by decide +kernel) rfl rfl rfl (by decide +kernel)
set_option maxRecDepth 65536 in
theorem w_c24 : (Jvm.Cond.code ({ cls := "java/lang/StringUTF16", name := "getChar", desc := "([BI)C" } : Jvm.MethodName) jdk_52_method_5_code (2 : Nat) (Option.some Jvm.ClassFile.FieldType.char)).before args0 about1 = true := code_word (m := ⟨9, 4⟩) (meth := k9m4) (c := k9c4) (by decide +kernel) rfl rfl rfl (by decide +kernel)
set_option maxRecDepth 65536 in
theorem w_c25 : (Jvm.Cond.code ({ cls := "java/lang/StringUTF16", name := "charAt", desc := "([BI)C" } : Jvm.MethodName) jdk_52_method_83_code (2 : Nat) (Option.some Jvm.ClassFile.FieldType.char)).before args0 about1 = true := code_word (m := ⟨9, 10⟩) (meth := k9m10) (c := k9c10) (by decide +kernel) rfl rfl rfl (by decide +kernel)
set_option maxRecDepth 65536 in
theorem w_c26 : (Jvm.Cond.code ({ cls := "java/lang/StringUTF16", name := "checkIndex", desc := "(I[B)V" } : Jvm.MethodName) jdk_52_method_91_code (2 : Nat) (Option.none : Option Jvm.ClassFile.FieldType)).before args0 about1 = true := code_word (m := ⟨9, 11⟩) (meth := k9m11) (c := k9c11) (by decide +kernel) rfl rfl rfl (by decide +kernel)
set_option maxRecDepth 65536 in
theorem w_c27 : (Jvm.Cond.code ({ cls := "java/lang/StringUTF16", name := "length", desc := "([B)I" } : Jvm.MethodName) jdk_52_method_6_code (1 : Nat) (Option.some Jvm.ClassFile.FieldType.int)).before args0 about1 = true := code_word (m := ⟨9, 5⟩) (meth := k9m5) (c := k9c5) (by decide +kernel) rfl rfl rfl (by decide +kernel)
set_option maxRecDepth 65536 in
theorem w_c28 : (Jvm.Cond.code ({ cls := "com/example/eunomia/eunomia/builtin/UrlTextIsSchemePinLaw", name := "isLaterSchemeChar", desc := "(C)Z" } : Jvm.MethodName) method_3_code (1 : Nat) (Option.some Jvm.ClassFile.FieldType.boolean)).before args0 about1 = true := code_word (m := ⟨1, 2⟩) (meth := k1m2) (c := k1c2) (by decide +kernel) rfl rfl rfl (by decide +kernel)
def codes1 : List Jvm.Cond := [Jvm.Cond.code x code maxLocals ret, Jvm.Cond.code ({ cls := "com/example/eunomia/eunomia/builtin/UrlTextIsSchemePinLaw", name := "make", desc := "(ICCCC)Ljava/lang/String;" } : Jvm.MethodName) method_4_code (6 : Nat) (Option.some (Jvm.ClassFile.FieldType.object "java/lang/String")), Jvm.Cond.code ({ cls := "java/lang/String", name := "<init>", desc := "([C)V" } : Jvm.MethodName) jdk_42_method_3_code (2 : Nat) (Option.none : Option Jvm.ClassFile.FieldType), Jvm.Cond.code ({ cls := "java/lang/String", name := "<init>", desc := "([CIILjava/lang/Void;)V" } : Jvm.MethodName) jdk_42_method_149_code (6 : Nat) (Option.none : Option Jvm.ClassFile.FieldType), Jvm.Cond.code ({ cls := "java/lang/Object", name := "<init>", desc := "()V" } : Jvm.MethodName) object_method_1_code (1 : Nat) (Option.none : Option Jvm.ClassFile.FieldType), Jvm.Cond.code ({ cls := "com/example/eunomia/eunomia/builtin/UrlText", name := "isScheme", desc := "(Ljava/lang/String;)Z" } : Jvm.MethodName) prog_4_method_3_code (1 : Nat) (Option.some Jvm.ClassFile.FieldType.boolean), Jvm.Cond.code ({ cls := "java/lang/String", name := "isEmpty", desc := "()Z" } : Jvm.MethodName) jdk_42_method_55_code (1 : Nat) (Option.some Jvm.ClassFile.FieldType.boolean), Jvm.Cond.code ({ cls := "java/lang/StringUTF16", name := "compress", desc := "([CII)[B" } : Jvm.MethodName) jdk_52_method_16_code (6 : Nat) (Option.some (Jvm.ClassFile.FieldType.array Jvm.ClassFile.FieldType.byte)), Jvm.Cond.code ({ cls := "java/lang/StringUTF16", name := "compress", desc := "([CI[BII)I" } : Jvm.MethodName) jdk_52_method_21_code (7 : Nat) (Option.some Jvm.ClassFile.FieldType.int), Jvm.Cond.code ({ cls := "java/lang/StringUTF16", name := "coderFromArrayLen", desc := "([BI)B" } : Jvm.MethodName) jdk_52_method_15_code (2 : Nat) (Option.some Jvm.ClassFile.FieldType.byte), Jvm.Cond.code ({ cls := "com/example/eunomia/eunomia/builtin/UrlTextIsSchemePinLaw", name := "isAsciiLetter", desc := "(C)Z" } : Jvm.MethodName) method_2_code (1 : Nat) (Option.some Jvm.ClassFile.FieldType.boolean), Jvm.Cond.code ({ cls := "com/example/eunomia/eunomia/builtin/UrlText", name := "schemeLength", desc := "(Ljava/lang/CharSequence;)I" } : Jvm.MethodName) prog_4_method_8_code (2 : Nat) (Option.some Jvm.ClassFile.FieldType.int), Jvm.Cond.code ({ cls := "java/lang/String", name := "length", desc := "()I" } : Jvm.MethodName) jdk_42_method_54_code (1 : Nat) (Option.some Jvm.ClassFile.FieldType.int), Jvm.Cond.code ({ cls := "java/lang/String", name := "coder", desc := "()B" } : Jvm.MethodName) jdk_42_method_152_code (1 : Nat) (Option.some Jvm.ClassFile.FieldType.byte), Jvm.Cond.code ({ cls := "java/lang/String", name := "charAt", desc := "(I)C" } : Jvm.MethodName) jdk_42_method_56_code (2 : Nat) (Option.some Jvm.ClassFile.FieldType.char), Jvm.Cond.code ({ cls := "java/lang/String", name := "isLatin1", desc := "()Z" } : Jvm.MethodName) jdk_42_method_154_code (1 : Nat) (Option.some Jvm.ClassFile.FieldType.boolean), Jvm.Cond.code ({ cls := "java/lang/StringLatin1", name := "charAt", desc := "([BI)C" } : Jvm.MethodName) jdk_43_method_2_code (2 : Nat) (Option.some Jvm.ClassFile.FieldType.char), Jvm.Cond.code ({ cls := "java/lang/String", name := "checkIndex", desc := "(II)V" } : Jvm.MethodName) jdk_42_method_155_code (2 : Nat) (Option.none : Option Jvm.ClassFile.FieldType), Jvm.Cond.code ({ cls := "jdk/internal/util/Preconditions", name := "checkIndex", desc := "(IILjava/util/function/BiFunction;)I" } : Jvm.MethodName) jdk_41_method_11_code (3 : Nat) (Option.some Jvm.ClassFile.FieldType.int), Jvm.Cond.code ({ cls := "com/example/eunomia/eunomia/builtin/UrlText", name := "isSchemeCharacter", desc := "(CZ)Z" } : Jvm.MethodName) prog_4_method_9_code (3 : Nat) (Option.some Jvm.ClassFile.FieldType.boolean), Jvm.Cond.code ({ cls := "java/lang/StringUTF16", name := "toBytes", desc := "([CII)[B" } : Jvm.MethodName) jdk_52_method_14_code (5 : Nat) (Option.some (Jvm.ClassFile.FieldType.array Jvm.ClassFile.FieldType.byte)), Jvm.Cond.code ({ cls := "java/lang/StringUTF16", name := "newBytesFor", desc := "(I)[B" } : Jvm.MethodName) jdk_52_method_2_code (1 : Nat) (Option.some (Jvm.ClassFile.FieldType.array Jvm.ClassFile.FieldType.byte)), Jvm.Cond.code ({ cls := "java/lang/StringUTF16", name := "newBytesLength", desc := "(I)I" } : Jvm.MethodName) jdk_52_method_3_code (1 : Nat) (Option.some Jvm.ClassFile.FieldType.int), Jvm.Cond.code ({ cls := "java/lang/StringUTF16", name := "putChar", desc := "([BII)V" } : Jvm.MethodName) jdk_52_method_4_code (3 : Nat) (Option.none : Option Jvm.ClassFile.FieldType), Jvm.Cond.code ({ cls := "java/lang/StringUTF16", name := "getChar", desc := "([BI)C" } : Jvm.MethodName) jdk_52_method_5_code (2 : Nat) (Option.some Jvm.ClassFile.FieldType.char), Jvm.Cond.code ({ cls := "java/lang/StringUTF16", name := "charAt", desc := "([BI)C" } : Jvm.MethodName) jdk_52_method_83_code (2 : Nat) (Option.some Jvm.ClassFile.FieldType.char), Jvm.Cond.code ({ cls := "java/lang/StringUTF16", name := "checkIndex", desc := "(I[B)V" } : Jvm.MethodName) jdk_52_method_91_code (2 : Nat) (Option.none : Option Jvm.ClassFile.FieldType), Jvm.Cond.code ({ cls := "java/lang/StringUTF16", name := "length", desc := "([B)I" } : Jvm.MethodName) jdk_52_method_6_code (1 : Nat) (Option.some Jvm.ClassFile.FieldType.int), Jvm.Cond.code ({ cls := "com/example/eunomia/eunomia/builtin/UrlTextIsSchemePinLaw", name := "isLaterSchemeChar", desc := "(C)Z" } : Jvm.MethodName) method_3_code (1 : Nat) (Option.some Jvm.ClassFile.FieldType.boolean)]
set_option maxRecDepth 65536 in
theorem codes_eq : words1.filter isCode = codes1 := rfl
theorem w_codes : ∀ c ∈ words1.filter isCode, c.before args0 about1 = true := by
  rw [codes_eq]
  intro c hc
  simp only [codes1, List.mem_cons, List.not_mem_nil, or_false] at hc
  rcases hc with rfl | rfl | rfl | rfl | rfl | rfl | rfl | rfl | rfl | rfl | rfl | rfl | rfl | rfl | rfl | rfl | rfl | rfl | rfl | rfl | rfl | rfl | rfl | rfl | rfl | rfl | rfl | rfl | rfl
  · exact w_c0
  · exact w_c1
  · exact w_c2
  · exact w_c3
  · exact w_c4
  · exact w_c5
  · exact w_c6
  · exact w_c7
  · exact w_c8
  · exact w_c9
  · exact w_c10
  · exact w_c11
  · exact w_c12
  · exact w_c13
  · exact w_c14
  · exact w_c15
  · exact w_c16
  · exact w_c17
  · exact w_c18
  · exact w_c19
  · exact w_c20
  · exact w_c21
  · exact w_c22
  · exact w_c23
  · exact w_c24
  · exact w_c25
  · exact w_c26
  · exact w_c27
  · exact w_c28
set_option maxRecDepth 65536 in
theorem w_t1 : (words1.take 24).all (fun c => isCode c || c.before args0 about1) = true := by decide +kernel
set_option maxRecDepth 65536 in
theorem w_t2 : ((words1.drop 24).take 24).all (fun c => isCode c || c.before args0 about1) = true := by decide +kernel
set_option maxRecDepth 65536 in
theorem w_t3 : (((words1.drop 24).drop 24).take 24).all (fun c => isCode c || c.before args0 about1) = true := by decide +kernel
set_option maxRecDepth 65536 in
theorem w_t4 : ((((words1.drop 24).drop 24).drop 24).take 24).all (fun c => isCode c || c.before args0 about1) = true := by decide +kernel
set_option maxRecDepth 65536 in
theorem w_t5 : (((((words1.drop 24).drop 24).drop 24).drop 24).take 24).all (fun c => isCode c || c.before args0 about1) = true := by decide +kernel
set_option maxRecDepth 65536 in
theorem w_t6 : (((((words1.drop 24).drop 24).drop 24).drop 24).drop 24).all (fun c => isCode c || c.before args0 about1) = true := by decide +kernel
theorem w_tables : (allAtoms (Jvm.Cond.code x code maxLocals ret :: tables_1)).before args0 about1 = true := by
  rw [allAtoms_all]
  show words1.all (fun c => c.before args0 about1) = true
  refine all_split ?_ w_codes
  rw [← List.take_append_drop 24 words1, List.all_append, w_t1, ← List.take_append_drop 24 (words1.drop 24), List.all_append, w_t2, ← List.take_append_drop 24 ((words1.drop 24).drop 24), List.all_append, w_t3, ← List.take_append_drop 24 (((words1.drop 24).drop 24).drop 24), List.all_append, w_t4, ← List.take_append_drop 24 ((((words1.drop 24).drop 24).drop 24).drop 24), List.all_append, w_t5, w_t6]
  rfl
set_option maxRecDepth 65536 in
theorem w_rest : rest_1_c.before args0 about1 = true := by decide +kernel
set_option maxRecDepth 65536 in
theorem w_case : (Jvm.Cond.and given_1 narrow_1).before args0 about1 = true := by decide +kernel
set_option maxRecDepth 65536 in
theorem w_consts : constsHeld consts_1 about1 := Jvm.Lit.constsHeldB_iff.mp (by decide +kernel)
theorem w_applies : (headSpec (Jvm.Cond.code x code maxLocals ret :: tables_1) room_1).applies x e0.platform about1 = true :=
  (Spec.applies_iff w_frames).mpr ⟨w_running, w_runnable, w_alone, w_named, w_hears, w_ripe, w_room, w_tables⟩
theorem atStart : AtStart classFile x code maxLocals ret World_1 tables_1 room_1 Calls_1 rest_1 Pre_1 launch0 p0 e0 about1 theMethod args0 below0 :=
  ⟨lists_1, trivial, launch0.admits_env _ _ _, launch0.least_env, fairChoices_fair.cas, fairChoices_fair.clock, w_frames, w_args, w_heap, w_applies, ⟨w_consts, trivial⟩, w_rest, w_case⟩
end start1
theorem witness_1 : WitnessClaimed_1 := ⟨start1.p0, start1.e0, start1.about1, start1.theMethod, start1.args0, start1.below0, start1.atStart⟩
end Jvm.Pilot.@@N@@
