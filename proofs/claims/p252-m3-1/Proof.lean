import JvmDerived
import JvmDerived.Pilot.@@N@@Statement
import JvmDerived.Pilot.@@N@@Code
set_option linter.unusedVariables false
set_option linter.unusedSimpArgs false
namespace Jvm.Ow
open Sem ClassFile Op Lib Jvm.Stand Jvm.Free Jvm.LawKit Jvm.RoadKit
/-- from S the run goes on to an end that G accepts -/
def Go (tb : Tables) (e : Env) (below : List Frame) (G : Outcome → State → Prop) (S : State) : Prop := ∃ t o, Steps tb e below S t ∧ t.status = .running ∧ Ended t below o ∧ G o t
theorem Go.via {tb : Tables} {e : Env} {below : List Frame} {G : Outcome → State → Prop} {S S' : State} (st : ∀ target, Steps tb e below S' target → Steps tb e below S target) (K : Go tb e below G S') : Go tb e below G S := by
  obtain ⟨t, o, h1, h2⟩ := K
  exact ⟨t, o, st t h1, h2⟩
theorem Go.thru {tb : Tables} {e : Env} {below : List Frame} {G : Outcome → State → Prop} {S S' : State} (st : Steps tb e below S S') (K : Go tb e below G S') : Go tb e below G S := by
  obtain ⟨t, o, h1, h2⟩ := K
  exact ⟨t, o, st.trans h1, h2⟩
section Steps1
variable {p : Program} {l : Launch} {e : Env} {R : Room} {s : State} {m : MethodId} {args : Array Value} {below : List Frame} {meth : Method} {c : Code} {T : State} {locs : List Loc} {cells slots : Nat} {G : Outcome → State → Prop} {pc pc' : Nat} {Ls : Array Slot} {rest : List Value}
theorem aloadN (X : Stand p l e R s m args below meth c T locs cells slots) (hx : p.tables.exec = Jvm.exec) {k : Fin 4} {v : Value} (hd : decode c.code pc = .ok (.aload_n k, 1)) (hl : Ls[k.val]? = some (.val v)) (hv : v.isRef = true) (K : Go p.tables e below G (T.setTop (mkF m (pc + 1) Ls (v :: rest)))) : Go p.tables e below G (T.setTop (mkF m (pc) Ls rest)) := K.via fun _ r => XS.aloadN X.here hx rfl hd hl hv r
theorem aload (X : Stand p l e R s m args below meth c T locs cells slots) (hx : p.tables.exec = Jvm.exec) {k : Nat} {v : Value} (hd : decode c.code pc = .ok (.aload k, 2)) (hl : Ls[k]? = some (.val v)) (hv : v.isRef = true) (K : Go p.tables e below G (T.setTop (mkF m (pc + 2) Ls (v :: rest)))) : Go p.tables e below G (T.setTop (mkF m (pc) Ls rest)) := K.via fun _ r => XS.aload X.here hx rfl hd hl hv r
theorem iloadN (X : Stand p l e R s m args below meth c T locs cells slots) (hx : p.tables.exec = Jvm.exec) {k : Fin 4} {v : Int32} (hd : decode c.code pc = .ok (.iload_n k, 1)) (hl : Ls[k.val]? = some (.val (.int v))) (K : Go p.tables e below G (T.setTop (mkF m (pc + 1) Ls (.int v :: rest)))) : Go p.tables e below G (T.setTop (mkF m (pc) Ls rest)) := K.via fun _ r => XS.iloadN X.here hx rfl hd hl r
theorem iload (X : Stand p l e R s m args below meth c T locs cells slots) (hx : p.tables.exec = Jvm.exec) {k : Nat} {v : Int32} (hd : decode c.code pc = .ok (.iload k, 2)) (hl : Ls[k]? = some (.val (.int v))) (K : Go p.tables e below G (T.setTop (mkF m (pc + 2) Ls (.int v :: rest)))) : Go p.tables e below G (T.setTop (mkF m (pc) Ls rest)) := K.via fun _ r => XS.iload X.here hx rfl hd hl r
theorem lloadN (X : Stand p l e R s m args below meth c T locs cells slots) (hx : p.tables.exec = Jvm.exec) {k : Fin 4} {v : Int64} (hd : decode c.code pc = .ok (.lload_n k, 1)) (hl : Ls[k.val]? = some (.val (.long v))) (K : Go p.tables e below G (T.setTop (mkF m (pc + 1) Ls (.long v :: rest)))) : Go p.tables e below G (T.setTop (mkF m (pc) Ls rest)) := K.via fun _ r => XT.lloadN X.here hx rfl hd hl r
theorem lload (X : Stand p l e R s m args below meth c T locs cells slots) (hx : p.tables.exec = Jvm.exec) {k : Nat} {v : Int64} (hd : decode c.code pc = .ok (.lload k, 2)) (hl : Ls[k]? = some (.val (.long v))) (K : Go p.tables e below G (T.setTop (mkF m (pc + 2) Ls (.long v :: rest)))) : Go p.tables e below G (T.setTop (mkF m (pc) Ls rest)) := K.via fun _ r => XT.lload X.here hx rfl hd hl r
theorem iconst (X : Stand p l e R s m args below meth c T locs cells slots) (hx : p.tables.exec = Jvm.exec) {i : Int} (v : Int32) (hd : decode c.code pc = .ok (.iconst i, 1)) (hv : Int32.ofInt i = v) (K : Go p.tables e below G (T.setTop (mkF m (pc + 1) Ls (.int v :: rest)))) : Go p.tables e below G (T.setTop (mkF m (pc) Ls rest)) := K.via fun _ r => XT.iconstV X.here hx rfl v hd hv r
theorem bipush (X : Stand p l e R s m args below meth c T locs cells slots) (hx : p.tables.exec = Jvm.exec) {i : Int} (v : Int32) (hd : decode c.code pc = .ok (.bipush i, 2)) (hv : (Int8.ofInt i).toInt32 = v) (K : Go p.tables e below G (T.setTop (mkF m (pc + 2) Ls (.int v :: rest)))) : Go p.tables e below G (T.setTop (mkF m (pc) Ls rest)) := K.via fun _ r => XT.bipushV X.here hx rfl v hd hv r
theorem sipush (X : Stand p l e R s m args below meth c T locs cells slots) (hx : p.tables.exec = Jvm.exec) {i : Int} (v : Int32) (hd : decode c.code pc = .ok (.sipush i, 3)) (hv : (Int16.ofInt i).toInt32 = v) (K : Go p.tables e below G (T.setTop (mkF m (pc + 3) Ls (.int v :: rest)))) : Go p.tables e below G (T.setTop (mkF m (pc) Ls rest)) := K.via fun _ r => XT.sipushV X.here hx rfl v hd hv r
theorem lconst (X : Stand p l e R s m args below meth c T locs cells slots) (hx : p.tables.exec = Jvm.exec) {k : Fin 2} (v : Int64) (hd : decode c.code pc = .ok (.lconst k, 1)) (hv : Int64.ofNat k = v) (K : Go p.tables e below G (T.setTop (mkF m (pc + 1) Ls (.long v :: rest)))) : Go p.tables e below G (T.setTop (mkF m (pc) Ls rest)) := K.via fun _ r => XT.lconstV X.here hx rfl v hd hv r
theorem aconst_null (X : Stand p l e R s m args below meth c T locs cells slots) (hx : p.tables.exec = Jvm.exec)  (hd : decode c.code pc = .ok (.aconst_null, 1))  (K : Go p.tables e below G (T.setTop (mkF m (pc + 1) Ls (.null :: rest)))) : Go p.tables e below G (T.setTop (mkF m (pc) Ls rest)) := K.via fun _ r => XS.aconstNull X.here hx rfl hd r
theorem ldcI (X : Stand p l e R s m args below meth c T locs cells slots) (hx : p.tables.exec = Jvm.exec) {own : String} {index : Nat} (v : Int32) (hd : decode c.code pc = .ok (.ldc index, 2)) (hown : s.vm.findClass own = some m.cls) (hc : (Cond.constant own index v).before args s = true) (K : Go p.tables e below G (T.setTop (mkF m (pc + 2) Ls (.int v :: rest)))) : Go p.tables e below G (T.setTop (mkF m (pc) Ls rest)) := K.via fun _ r => X.ldcI hx hown hc rfl hd r
theorem ldcWI (X : Stand p l e R s m args below meth c T locs cells slots) (hx : p.tables.exec = Jvm.exec) {own : String} {index : Nat} (v : Int32) (hd : decode c.code pc = .ok (.ldc_w index, 3)) (hown : s.vm.findClass own = some m.cls) (hc : (Cond.constant own index v).before args s = true) (K : Go p.tables e below G (T.setTop (mkF m (pc + 3) Ls (.int v :: rest)))) : Go p.tables e below G (T.setTop (mkF m (pc) Ls rest)) := K.via fun _ r => X.ldcWI hx hown hc rfl hd r
theorem ldc2J (X : Stand p l e R s m args below meth c T locs cells slots) (hx : p.tables.exec = Jvm.exec) {own : String} {index : Nat} (v : Int64) (hd : decode c.code pc = .ok (.ldc2_w index, 3)) (hown : s.vm.findClass own = some m.cls) (hc : (Cond.constantLong own index v).before args s = true) (K : Go p.tables e below G (T.setTop (mkF m (pc + 3) Ls (.long v :: rest)))) : Go p.tables e below G (T.setTop (mkF m (pc) Ls rest)) := K.via fun _ r => X.ldc2J hx hown hc rfl hd r
theorem iadd (X : Stand p l e R s m args below meth c T locs cells slots) (hx : p.tables.exec = Jvm.exec) {x y : Int32} (hd : decode c.code pc = .ok (.iadd, 1))  (K : Go p.tables e below G (T.setTop (mkF m (pc + 1) Ls (.int (x + y) :: rest)))) : Go p.tables e below G (T.setTop (mkF m (pc) Ls (.int y :: .int x :: rest))) := K.via fun _ r => XS.iadd X.here hx rfl hd rfl r
theorem isub (X : Stand p l e R s m args below meth c T locs cells slots) (hx : p.tables.exec = Jvm.exec) {x y : Int32} (hd : decode c.code pc = .ok (.isub, 1))  (K : Go p.tables e below G (T.setTop (mkF m (pc + 1) Ls (.int (x - y) :: rest)))) : Go p.tables e below G (T.setTop (mkF m (pc) Ls (.int y :: .int x :: rest))) := K.via fun _ r => XS.isub X.here hx rfl hd rfl r
theorem iand (X : Stand p l e R s m args below meth c T locs cells slots) (hx : p.tables.exec = Jvm.exec) {x y : Int32} (hd : decode c.code pc = .ok (.iand, 1))  (K : Go p.tables e below G (T.setTop (mkF m (pc + 1) Ls (.int (x &&& y) :: rest)))) : Go p.tables e below G (T.setTop (mkF m (pc) Ls (.int y :: .int x :: rest))) := K.via fun _ r => XS.iand X.here hx rfl hd rfl r
theorem imul (X : Stand p l e R s m args below meth c T locs cells slots) (hx : p.tables.exec = Jvm.exec) {x y : Int32} (hd : decode c.code pc = .ok (.imul, 1))  (K : Go p.tables e below G (T.setTop (mkF m (pc + 1) Ls (.int (x * y) :: rest)))) : Go p.tables e below G (T.setTop (mkF m (pc) Ls (.int y :: .int x :: rest))) := K.via fun _ r => XS.imul X.here hx rfl hd rfl r
theorem ixor (X : Stand p l e R s m args below meth c T locs cells slots) (hx : p.tables.exec = Jvm.exec) {x y : Int32} (hd : decode c.code pc = .ok (.ixor, 1))  (K : Go p.tables e below G (T.setTop (mkF m (pc + 1) Ls (.int (x ^^^ y) :: rest)))) : Go p.tables e below G (T.setTop (mkF m (pc) Ls (.int y :: .int x :: rest))) := K.via fun _ r => XT.ixor X.here hx rfl hd rfl r
theorem ior (X : Stand p l e R s m args below meth c T locs cells slots) (hx : p.tables.exec = Jvm.exec) {x y : Int32} (hd : decode c.code pc = .ok (.ior, 1))  (K : Go p.tables e below G (T.setTop (mkF m (pc + 1) Ls (.int (x ||| y) :: rest)))) : Go p.tables e below G (T.setTop (mkF m (pc) Ls (.int y :: .int x :: rest))) := K.via fun _ r => XT.ior X.here hx rfl hd rfl r
theorem ishl (X : Stand p l e R s m args below meth c T locs cells slots) (hx : p.tables.exec = Jvm.exec) {x y : Int32} (hd : decode c.code pc = .ok (.ishl, 1))  (K : Go p.tables e below G (T.setTop (mkF m (pc + 1) Ls (.int (x <<< (y &&& 31)) :: rest)))) : Go p.tables e below G (T.setTop (mkF m (pc) Ls (.int y :: .int x :: rest))) := K.via fun _ r => XT.ishl X.here hx rfl hd rfl r
theorem ishr (X : Stand p l e R s m args below meth c T locs cells slots) (hx : p.tables.exec = Jvm.exec) {x y : Int32} (hd : decode c.code pc = .ok (.ishr, 1))  (K : Go p.tables e below G (T.setTop (mkF m (pc + 1) Ls (.int (x >>> (y &&& 31)) :: rest)))) : Go p.tables e below G (T.setTop (mkF m (pc) Ls (.int y :: .int x :: rest))) := K.via fun _ r => XT.ishr X.here hx rfl hd rfl r
theorem iushr (X : Stand p l e R s m args below meth c T locs cells slots) (hx : p.tables.exec = Jvm.exec) {x y : Int32} (hd : decode c.code pc = .ok (.iushr, 1))  (K : Go p.tables e below G (T.setTop (mkF m (pc + 1) Ls (.int (XT.ushr x y) :: rest)))) : Go p.tables e below G (T.setTop (mkF m (pc) Ls (.int y :: .int x :: rest))) := K.via fun _ r => XT.iushr X.here hx rfl hd rfl r
theorem idiv (X : Stand p l e R s m args below meth c T locs cells slots) (hx : p.tables.exec = Jvm.exec) {x y : Int32} (hd : decode c.code pc = .ok (.idiv, 1)) (hy : y ≠ 0) (K : Go p.tables e below G (T.setTop (mkF m (pc + 1) Ls (.int (x / y) :: rest)))) : Go p.tables e below G (T.setTop (mkF m (pc) Ls (.int y :: .int x :: rest))) := K.via fun _ r => XS.idiv X.here hx rfl hd rfl hy r
theorem irem (X : Stand p l e R s m args below meth c T locs cells slots) (hx : p.tables.exec = Jvm.exec) {x y : Int32} (hd : decode c.code pc = .ok (.irem, 1)) (hy : y ≠ 0) (K : Go p.tables e below G (T.setTop (mkF m (pc + 1) Ls (.int (x % y) :: rest)))) : Go p.tables e below G (T.setTop (mkF m (pc) Ls (.int y :: .int x :: rest))) := K.via fun _ r => RoadKit.iremM X hx rfl hd rfl hy r
theorem ineg (X : Stand p l e R s m args below meth c T locs cells slots) (hx : p.tables.exec = Jvm.exec) {x : Int32} (hd : decode c.code pc = .ok (.ineg, 1))  (K : Go p.tables e below G (T.setTop (mkF m (pc + 1) Ls (.int (-x) :: rest)))) : Go p.tables e below G (T.setTop (mkF m (pc) Ls (.int x :: rest))) := K.via fun _ r => XS.ineg X.here hx rfl hd rfl r
theorem ladd (X : Stand p l e R s m args below meth c T locs cells slots) (hx : p.tables.exec = Jvm.exec) {x y : Int64} (hd : decode c.code pc = .ok (.ladd, 1))  (K : Go p.tables e below G (T.setTop (mkF m (pc + 1) Ls (.long (x + y) :: rest)))) : Go p.tables e below G (T.setTop (mkF m (pc) Ls (.long y :: .long x :: rest))) := K.via fun _ r => XT.ladd X.here hx rfl hd rfl r
theorem lsub (X : Stand p l e R s m args below meth c T locs cells slots) (hx : p.tables.exec = Jvm.exec) {x y : Int64} (hd : decode c.code pc = .ok (.lsub, 1))  (K : Go p.tables e below G (T.setTop (mkF m (pc + 1) Ls (.long (x - y) :: rest)))) : Go p.tables e below G (T.setTop (mkF m (pc) Ls (.long y :: .long x :: rest))) := K.via fun _ r => XT.lsub X.here hx rfl hd rfl r
theorem lmul (X : Stand p l e R s m args below meth c T locs cells slots) (hx : p.tables.exec = Jvm.exec) {x y : Int64} (hd : decode c.code pc = .ok (.lmul, 1))  (K : Go p.tables e below G (T.setTop (mkF m (pc + 1) Ls (.long (x * y) :: rest)))) : Go p.tables e below G (T.setTop (mkF m (pc) Ls (.long y :: .long x :: rest))) := K.via fun _ r => XT.lmul X.here hx rfl hd rfl r
theorem land (X : Stand p l e R s m args below meth c T locs cells slots) (hx : p.tables.exec = Jvm.exec) {x y : Int64} (hd : decode c.code pc = .ok (.land, 1))  (K : Go p.tables e below G (T.setTop (mkF m (pc + 1) Ls (.long (x &&& y) :: rest)))) : Go p.tables e below G (T.setTop (mkF m (pc) Ls (.long y :: .long x :: rest))) := K.via fun _ r => XT.land X.here hx rfl hd rfl r
theorem lor (X : Stand p l e R s m args below meth c T locs cells slots) (hx : p.tables.exec = Jvm.exec) {x y : Int64} (hd : decode c.code pc = .ok (.lor, 1))  (K : Go p.tables e below G (T.setTop (mkF m (pc + 1) Ls (.long (x ||| y) :: rest)))) : Go p.tables e below G (T.setTop (mkF m (pc) Ls (.long y :: .long x :: rest))) := K.via fun _ r => XT.lor X.here hx rfl hd rfl r
theorem lxor (X : Stand p l e R s m args below meth c T locs cells slots) (hx : p.tables.exec = Jvm.exec) {x y : Int64} (hd : decode c.code pc = .ok (.lxor, 1))  (K : Go p.tables e below G (T.setTop (mkF m (pc + 1) Ls (.long (x ^^^ y) :: rest)))) : Go p.tables e below G (T.setTop (mkF m (pc) Ls (.long y :: .long x :: rest))) := K.via fun _ r => XT.lxor X.here hx rfl hd rfl r
theorem ldiv (X : Stand p l e R s m args below meth c T locs cells slots) (hx : p.tables.exec = Jvm.exec) {x y : Int64} (hd : decode c.code pc = .ok (.ldiv, 1)) (hy : y ≠ 0) (K : Go p.tables e below G (T.setTop (mkF m (pc + 1) Ls (.long (x / y) :: rest)))) : Go p.tables e below G (T.setTop (mkF m (pc) Ls (.long y :: .long x :: rest))) := K.via fun _ r => XT.ldiv X.here hx rfl hd rfl hy r
theorem lrem (X : Stand p l e R s m args below meth c T locs cells slots) (hx : p.tables.exec = Jvm.exec) {x y : Int64} (hd : decode c.code pc = .ok (.lrem, 1)) (hy : y ≠ 0) (K : Go p.tables e below G (T.setTop (mkF m (pc + 1) Ls (.long (x - (x / y) * y) :: rest)))) : Go p.tables e below G (T.setTop (mkF m (pc) Ls (.long y :: .long x :: rest))) := K.via fun _ r => XT.lrem X.here hx rfl hd rfl hy r
theorem lshl (X : Stand p l e R s m args below meth c T locs cells slots) (hx : p.tables.exec = Jvm.exec) {x : Int64} {y : Int32} (hd : decode c.code pc = .ok (.lshl, 1))  (K : Go p.tables e below G (T.setTop (mkF m (pc + 1) Ls (.long (x <<< (y.toInt64 &&& 63)) :: rest)))) : Go p.tables e below G (T.setTop (mkF m (pc) Ls (.int y :: .long x :: rest))) := K.via fun _ r => XT.lshl X.here hx rfl hd rfl r
theorem lshr (X : Stand p l e R s m args below meth c T locs cells slots) (hx : p.tables.exec = Jvm.exec) {x : Int64} {y : Int32} (hd : decode c.code pc = .ok (.lshr, 1))  (K : Go p.tables e below G (T.setTop (mkF m (pc + 1) Ls (.long (x >>> (y.toInt64 &&& 63)) :: rest)))) : Go p.tables e below G (T.setTop (mkF m (pc) Ls (.int y :: .long x :: rest))) := K.via fun _ r => XT.lshr X.here hx rfl hd rfl r
theorem lushr (X : Stand p l e R s m args below meth c T locs cells slots) (hx : p.tables.exec = Jvm.exec) {x : Int64} {y : Int32} (hd : decode c.code pc = .ok (.lushr, 1))  (K : Go p.tables e below G (T.setTop (mkF m (pc + 1) Ls (.long (XT.ushrL x y) :: rest)))) : Go p.tables e below G (T.setTop (mkF m (pc) Ls (.int y :: .long x :: rest))) := K.via fun _ r => XT.lushr X.here hx rfl hd rfl r
theorem lneg (X : Stand p l e R s m args below meth c T locs cells slots) (hx : p.tables.exec = Jvm.exec) {x : Int64} (hd : decode c.code pc = .ok (.lneg, 1))  (K : Go p.tables e below G (T.setTop (mkF m (pc + 1) Ls (.long (-x) :: rest)))) : Go p.tables e below G (T.setTop (mkF m (pc) Ls (.long x :: rest))) := K.via fun _ r => XT.lneg X.here hx rfl hd rfl r
theorem lcmp (X : Stand p l e R s m args below meth c T locs cells slots) (hx : p.tables.exec = Jvm.exec) {x y : Int64} (hd : decode c.code pc = .ok (.lcmp, 1))  (K : Go p.tables e below G (T.setTop (mkF m (pc + 1) Ls (.int (XT.cmpL x y) :: rest)))) : Go p.tables e below G (T.setTop (mkF m (pc) Ls (.long y :: .long x :: rest))) := K.via fun _ r => XT.lcmp X.here hx rfl hd rfl r
theorem i2l (X : Stand p l e R s m args below meth c T locs cells slots) (hx : p.tables.exec = Jvm.exec) {x : Int32} (hd : decode c.code pc = .ok (.i2l, 1))  (K : Go p.tables e below G (T.setTop (mkF m (pc + 1) Ls (.long (x.toInt64) :: rest)))) : Go p.tables e below G (T.setTop (mkF m (pc) Ls (.int x :: rest))) := K.via fun _ r => XT.i2l X.here hx rfl hd rfl r
theorem l2i (X : Stand p l e R s m args below meth c T locs cells slots) (hx : p.tables.exec = Jvm.exec) {x : Int64} (hd : decode c.code pc = .ok (.l2i, 1))  (K : Go p.tables e below G (T.setTop (mkF m (pc + 1) Ls (.int (x.toInt32) :: rest)))) : Go p.tables e below G (T.setTop (mkF m (pc) Ls (.long x :: rest))) := K.via fun _ r => XT.l2i X.here hx rfl hd rfl r
theorem i2b (X : Stand p l e R s m args below meth c T locs cells slots) (hx : p.tables.exec = Jvm.exec) {x : Int32} (hd : decode c.code pc = .ok (.i2b, 1))  (K : Go p.tables e below G (T.setTop (mkF m (pc + 1) Ls (.int (x.toInt8.toInt32) :: rest)))) : Go p.tables e below G (T.setTop (mkF m (pc) Ls (.int x :: rest))) := K.via fun _ r => XT.i2b X.here hx rfl hd rfl r
theorem i2c (X : Stand p l e R s m args below meth c T locs cells slots) (hx : p.tables.exec = Jvm.exec) {x : Int32} (hd : decode c.code pc = .ok (.i2c, 1))  (K : Go p.tables e below G (T.setTop (mkF m (pc + 1) Ls (.int (x.toUInt32.toUInt16.toUInt32.toInt32) :: rest)))) : Go p.tables e below G (T.setTop (mkF m (pc) Ls (.int x :: rest))) := K.via fun _ r => XT.i2c X.here hx rfl hd rfl r
theorem i2s (X : Stand p l e R s m args below meth c T locs cells slots) (hx : p.tables.exec = Jvm.exec) {x : Int32} (hd : decode c.code pc = .ok (.i2s, 1))  (K : Go p.tables e below G (T.setTop (mkF m (pc + 1) Ls (.int (x.toInt16.toInt32) :: rest)))) : Go p.tables e below G (T.setTop (mkF m (pc) Ls (.int x :: rest))) := K.via fun _ r => XT.i2s X.here hx rfl hd rfl r
theorem dup (X : Stand p l e R s m args below meth c T locs cells slots) (hx : p.tables.exec = Jvm.exec) {v : Value} (hd : decode c.code pc = .ok (.dup, 1)) (hv : v.category = 1) (K : Go p.tables e below G (T.setTop (mkF m (pc + 1) Ls (v :: v :: rest)))) : Go p.tables e below G (T.setTop (mkF m (pc) Ls (v :: rest))) := K.via fun _ r => XS.dup X.here hx rfl hd rfl hv r
theorem pop (X : Stand p l e R s m args below meth c T locs cells slots) (hx : p.tables.exec = Jvm.exec) {v : Value} (hd : decode c.code pc = .ok (.pop, 1)) (hv : v.category = 1) (K : Go p.tables e below G (T.setTop (mkF m (pc + 1) Ls rest))) : Go p.tables e below G (T.setTop (mkF m (pc) Ls (v :: rest))) := K.via fun _ r => XT.pop X.here hx rfl hd rfl hv r
theorem dup_x1 (X : Stand p l e R s m args below meth c T locs cells slots) (hx : p.tables.exec = Jvm.exec) {v w : Value} (hd : decode c.code pc = .ok (.dup_x1, 1)) (hv : v.category = 1) (hw : w.category = 1) (K : Go p.tables e below G (T.setTop (mkF m (pc + 1) Ls (v :: w :: v :: rest)))) : Go p.tables e below G (T.setTop (mkF m (pc) Ls (v :: w :: rest))) := K.via fun _ r => XT.dupX1 X.here hx rfl hd rfl hv hw r
theorem dup2 (X : Stand p l e R s m args below meth c T locs cells slots) (hx : p.tables.exec = Jvm.exec) {v w : Value} (hd : decode c.code pc = .ok (.dup2, 1)) (hv : v.category = 1) (hw : w.category = 1) (K : Go p.tables e below G (T.setTop (mkF m (pc + 1) Ls (v :: w :: v :: w :: rest)))) : Go p.tables e below G (T.setTop (mkF m (pc) Ls (v :: w :: rest))) := K.via fun _ r => XT.dup2 X.here hx rfl hd rfl hv hw r
theorem dup2L (X : Stand p l e R s m args below meth c T locs cells slots) (hx : p.tables.exec = Jvm.exec) {x : Int64} (hd : decode c.code pc = .ok (.dup2, 1))  (K : Go p.tables e below G (T.setTop (mkF m (pc + 1) Ls (.long x :: .long x :: rest)))) : Go p.tables e below G (T.setTop (mkF m (pc) Ls (.long x :: rest))) := K.via fun _ r => XT.dup2L X.here hx rfl hd rfl r
theorem istoreN (X : Stand p l e R s m args below meth c T locs cells slots) (hx : p.tables.exec = Jvm.exec) {k : Fin 4} {x : Int32} (L2 : Array Slot) (hd : decode c.code pc = .ok (.istore_n k, 1))  (hl : storeLocals Ls k.val (.int x) = some L2) (K : Go p.tables e below G (T.setTop (mkF m (pc + 1) L2 rest))) : Go p.tables e below G (T.setTop (mkF m (pc) Ls ((.int x) :: rest))) := K.via fun _ r => XS.istoreN X.here hx rfl hd rfl hl r
theorem istore (X : Stand p l e R s m args below meth c T locs cells slots) (hx : p.tables.exec = Jvm.exec) {k : Nat} {x : Int32} (L2 : Array Slot) (hd : decode c.code pc = .ok (.istore k, 2))  (hl : storeLocals Ls k (.int x) = some L2) (K : Go p.tables e below G (T.setTop (mkF m (pc + 2) L2 rest))) : Go p.tables e below G (T.setTop (mkF m (pc) Ls ((.int x) :: rest))) := K.via fun _ r => XS.istore X.here hx rfl hd rfl hl r
theorem astoreN (X : Stand p l e R s m args below meth c T locs cells slots) (hx : p.tables.exec = Jvm.exec) {k : Fin 4} {v : Value} (L2 : Array Slot) (hd : decode c.code pc = .ok (.astore_n k, 1)) (hv : v.isRef = true) (hl : storeLocals Ls k.val v = some L2) (K : Go p.tables e below G (T.setTop (mkF m (pc + 1) L2 rest))) : Go p.tables e below G (T.setTop (mkF m (pc) Ls (v :: rest))) := K.via fun _ r => XS.astoreN X.here hx rfl hd rfl hv hl r
theorem astore (X : Stand p l e R s m args below meth c T locs cells slots) (hx : p.tables.exec = Jvm.exec) {k : Nat} {v : Value} (L2 : Array Slot) (hd : decode c.code pc = .ok (.astore k, 2)) (hv : v.isRef = true) (hl : storeLocals Ls k v = some L2) (K : Go p.tables e below G (T.setTop (mkF m (pc + 2) L2 rest))) : Go p.tables e below G (T.setTop (mkF m (pc) Ls (v :: rest))) := K.via fun _ r => XS.astore X.here hx rfl hd rfl hv hl r
theorem lstoreN (X : Stand p l e R s m args below meth c T locs cells slots) (hx : p.tables.exec = Jvm.exec) {k : Fin 4} {x : Int64} (L2 : Array Slot) (hd : decode c.code pc = .ok (.lstore_n k, 1))  (hl : storeLocals Ls k.val (.long x) = some L2) (K : Go p.tables e below G (T.setTop (mkF m (pc + 1) L2 rest))) : Go p.tables e below G (T.setTop (mkF m (pc) Ls ((.long x) :: rest))) := K.via fun _ r => XT.lstoreN X.here hx rfl hd rfl hl r
theorem lstore (X : Stand p l e R s m args below meth c T locs cells slots) (hx : p.tables.exec = Jvm.exec) {k : Nat} {x : Int64} (L2 : Array Slot) (hd : decode c.code pc = .ok (.lstore k, 2))  (hl : storeLocals Ls k (.long x) = some L2) (K : Go p.tables e below G (T.setTop (mkF m (pc + 2) L2 rest))) : Go p.tables e below G (T.setTop (mkF m (pc) Ls ((.long x) :: rest))) := K.via fun _ r => XT.lstore X.here hx rfl hd rfl hl r
theorem iinc (X : Stand p l e R s m args below meth c T locs cells slots) (hx : p.tables.exec = Jvm.exec) {k : Nat} {cst : Int} {x : Int32} (v : Int32) (L2 : Array Slot) (hd : decode c.code pc = .ok (.iinc k cst, 3)) (hv : Int32.ofInt cst = v) (hl : Ls[k]? = some (.val (.int x))) (hl' : storeLocals Ls k (.int (x + v)) = some L2) (K : Go p.tables e below G (T.setTop (mkF m (pc + 3) L2 rest))) : Go p.tables e below G (T.setTop (mkF m (pc) Ls rest)) := K.via fun _ r => XT.iincV X.here hx rfl v hd hv hl hl' r
theorem goto (X : Stand p l e R s m args below meth c T locs cells slots) (hx : p.tables.exec = Jvm.exec) {o : Int} (hd : decode c.code pc = .ok (.goto o, 3)) (ho : 0 ≤ (pc : Int) + o) (hp : ((pc : Int) + o).toNat = pc') (K : Go p.tables e below G (T.setTop (mkF m (pc') Ls rest))) : Go p.tables e below G (T.setTop (mkF m (pc) Ls rest)) := K.via fun _ r => XS.goto X.here hx rfl rfl hd ho hp r
theorem if_eq (X : Stand p l e R s m args below meth c T locs cells slots) (hx : p.tables.exec = Jvm.exec) {x : Int32} {o : Int} (hd : decode c.code pc = .ok (.ifCond .eq o, 3)) (ho : 0 ≤ (pc : Int) + o) (hp : ((pc : Int) + o).toNat = pc') (KT : x = 0 → Go p.tables e below G (T.setTop (mkF m (pc') Ls rest))) (KF : ¬ x = 0 → Go p.tables e below G (T.setTop (mkF m (pc + 3) Ls rest))) : Go p.tables e below G (T.setTop (mkF m (pc) Ls (.int x :: rest))) := by
  by_cases h : x = 0
  · exact (KT h).via fun _ r => XS.ifYes X.here hx rfl rfl hd rfl (XT.i0_eq_t h) ho hp r
  · exact (KF h).via fun _ r => XS.ifNo X.here hx rfl hd rfl (XT.i0_eq_f h) r
theorem if_ne (X : Stand p l e R s m args below meth c T locs cells slots) (hx : p.tables.exec = Jvm.exec) {x : Int32} {o : Int} (hd : decode c.code pc = .ok (.ifCond .ne o, 3)) (ho : 0 ≤ (pc : Int) + o) (hp : ((pc : Int) + o).toNat = pc') (KT : ¬ x = 0 → Go p.tables e below G (T.setTop (mkF m (pc') Ls rest))) (KF : x = 0 → Go p.tables e below G (T.setTop (mkF m (pc + 3) Ls rest))) : Go p.tables e below G (T.setTop (mkF m (pc) Ls (.int x :: rest))) := by
  by_cases h : x = 0
  · exact (KF h).via fun _ r => XS.ifNo X.here hx rfl hd rfl (XT.i0_ne_f h) r
  · exact (KT h).via fun _ r => XS.ifYes X.here hx rfl rfl hd rfl (XT.i0_ne_t h) ho hp r
theorem if_lt (X : Stand p l e R s m args below meth c T locs cells slots) (hx : p.tables.exec = Jvm.exec) {x : Int32} {o : Int} (hd : decode c.code pc = .ok (.ifCond .lt o, 3)) (ho : 0 ≤ (pc : Int) + o) (hp : ((pc : Int) + o).toNat = pc') (KT : x < 0 → Go p.tables e below G (T.setTop (mkF m (pc') Ls rest))) (KF : ¬ x < 0 → Go p.tables e below G (T.setTop (mkF m (pc + 3) Ls rest))) : Go p.tables e below G (T.setTop (mkF m (pc) Ls (.int x :: rest))) := by
  by_cases h : x < 0
  · exact (KT h).via fun _ r => XS.ifYes X.here hx rfl rfl hd rfl (XT.i0_lt_t h) ho hp r
  · exact (KF h).via fun _ r => XS.ifNo X.here hx rfl hd rfl (XT.i0_lt_f h) r
theorem if_ge (X : Stand p l e R s m args below meth c T locs cells slots) (hx : p.tables.exec = Jvm.exec) {x : Int32} {o : Int} (hd : decode c.code pc = .ok (.ifCond .ge o, 3)) (ho : 0 ≤ (pc : Int) + o) (hp : ((pc : Int) + o).toNat = pc') (KT : ¬ x < 0 → Go p.tables e below G (T.setTop (mkF m (pc') Ls rest))) (KF : x < 0 → Go p.tables e below G (T.setTop (mkF m (pc + 3) Ls rest))) : Go p.tables e below G (T.setTop (mkF m (pc) Ls (.int x :: rest))) := by
  by_cases h : x < 0
  · exact (KF h).via fun _ r => XS.ifNo X.here hx rfl hd rfl (XT.i0_ge_f h) r
  · exact (KT h).via fun _ r => XS.ifYes X.here hx rfl rfl hd rfl (XT.i0_ge_t h) ho hp r
theorem if_gt (X : Stand p l e R s m args below meth c T locs cells slots) (hx : p.tables.exec = Jvm.exec) {x : Int32} {o : Int} (hd : decode c.code pc = .ok (.ifCond .gt o, 3)) (ho : 0 ≤ (pc : Int) + o) (hp : ((pc : Int) + o).toNat = pc') (KT : 0 < x → Go p.tables e below G (T.setTop (mkF m (pc') Ls rest))) (KF : ¬ 0 < x → Go p.tables e below G (T.setTop (mkF m (pc + 3) Ls rest))) : Go p.tables e below G (T.setTop (mkF m (pc) Ls (.int x :: rest))) := by
  by_cases h : 0 < x
  · exact (KT h).via fun _ r => XS.ifYes X.here hx rfl rfl hd rfl (XT.i0_gt_t h) ho hp r
  · exact (KF h).via fun _ r => XS.ifNo X.here hx rfl hd rfl (XT.i0_gt_f h) r
theorem if_le (X : Stand p l e R s m args below meth c T locs cells slots) (hx : p.tables.exec = Jvm.exec) {x : Int32} {o : Int} (hd : decode c.code pc = .ok (.ifCond .le o, 3)) (ho : 0 ≤ (pc : Int) + o) (hp : ((pc : Int) + o).toNat = pc') (KT : ¬ 0 < x → Go p.tables e below G (T.setTop (mkF m (pc') Ls rest))) (KF : 0 < x → Go p.tables e below G (T.setTop (mkF m (pc + 3) Ls rest))) : Go p.tables e below G (T.setTop (mkF m (pc) Ls (.int x :: rest))) := by
  by_cases h : 0 < x
  · exact (KF h).via fun _ r => XS.ifNo X.here hx rfl hd rfl (XT.i0_le_f h) r
  · exact (KT h).via fun _ r => XS.ifYes X.here hx rfl rfl hd rfl (XT.i0_le_t h) ho hp r
theorem icmp_eq (X : Stand p l e R s m args below meth c T locs cells slots) (hx : p.tables.exec = Jvm.exec) {x y : Int32} {o : Int} (hd : decode c.code pc = .ok (.if_icmp .eq o, 3)) (ho : 0 ≤ (pc : Int) + o) (hp : ((pc : Int) + o).toNat = pc') (KT : x = y → Go p.tables e below G (T.setTop (mkF m (pc') Ls rest))) (KF : ¬ x = y → Go p.tables e below G (T.setTop (mkF m (pc + 3) Ls rest))) : Go p.tables e below G (T.setTop (mkF m (pc) Ls (.int y :: .int x :: rest))) := by
  by_cases h : x = y
  · exact (KT h).via fun _ r => XS.icmpYes X.here hx rfl rfl hd rfl (XT.ii_eq_t h) ho hp r
  · exact (KF h).via fun _ r => XS.icmpNo X.here hx rfl hd rfl (XT.ii_eq_f h) r
theorem icmp_ne (X : Stand p l e R s m args below meth c T locs cells slots) (hx : p.tables.exec = Jvm.exec) {x y : Int32} {o : Int} (hd : decode c.code pc = .ok (.if_icmp .ne o, 3)) (ho : 0 ≤ (pc : Int) + o) (hp : ((pc : Int) + o).toNat = pc') (KT : ¬ x = y → Go p.tables e below G (T.setTop (mkF m (pc') Ls rest))) (KF : x = y → Go p.tables e below G (T.setTop (mkF m (pc + 3) Ls rest))) : Go p.tables e below G (T.setTop (mkF m (pc) Ls (.int y :: .int x :: rest))) := by
  by_cases h : x = y
  · exact (KF h).via fun _ r => XS.icmpNo X.here hx rfl hd rfl (XT.ii_ne_f h) r
  · exact (KT h).via fun _ r => XS.icmpYes X.here hx rfl rfl hd rfl (XT.ii_ne_t h) ho hp r
theorem icmp_lt (X : Stand p l e R s m args below meth c T locs cells slots) (hx : p.tables.exec = Jvm.exec) {x y : Int32} {o : Int} (hd : decode c.code pc = .ok (.if_icmp .lt o, 3)) (ho : 0 ≤ (pc : Int) + o) (hp : ((pc : Int) + o).toNat = pc') (KT : x < y → Go p.tables e below G (T.setTop (mkF m (pc') Ls rest))) (KF : ¬ x < y → Go p.tables e below G (T.setTop (mkF m (pc + 3) Ls rest))) : Go p.tables e below G (T.setTop (mkF m (pc) Ls (.int y :: .int x :: rest))) := by
  by_cases h : x < y
  · exact (KT h).via fun _ r => XS.icmpYes X.here hx rfl rfl hd rfl (XT.ii_lt_t h) ho hp r
  · exact (KF h).via fun _ r => XS.icmpNo X.here hx rfl hd rfl (XT.ii_lt_f h) r
theorem icmp_ge (X : Stand p l e R s m args below meth c T locs cells slots) (hx : p.tables.exec = Jvm.exec) {x y : Int32} {o : Int} (hd : decode c.code pc = .ok (.if_icmp .ge o, 3)) (ho : 0 ≤ (pc : Int) + o) (hp : ((pc : Int) + o).toNat = pc') (KT : ¬ x < y → Go p.tables e below G (T.setTop (mkF m (pc') Ls rest))) (KF : x < y → Go p.tables e below G (T.setTop (mkF m (pc + 3) Ls rest))) : Go p.tables e below G (T.setTop (mkF m (pc) Ls (.int y :: .int x :: rest))) := by
  by_cases h : x < y
  · exact (KF h).via fun _ r => XS.icmpNo X.here hx rfl hd rfl (XT.ii_ge_f h) r
  · exact (KT h).via fun _ r => XS.icmpYes X.here hx rfl rfl hd rfl (XT.ii_ge_t h) ho hp r
theorem icmp_gt (X : Stand p l e R s m args below meth c T locs cells slots) (hx : p.tables.exec = Jvm.exec) {x y : Int32} {o : Int} (hd : decode c.code pc = .ok (.if_icmp .gt o, 3)) (ho : 0 ≤ (pc : Int) + o) (hp : ((pc : Int) + o).toNat = pc') (KT : y < x → Go p.tables e below G (T.setTop (mkF m (pc') Ls rest))) (KF : ¬ y < x → Go p.tables e below G (T.setTop (mkF m (pc + 3) Ls rest))) : Go p.tables e below G (T.setTop (mkF m (pc) Ls (.int y :: .int x :: rest))) := by
  by_cases h : y < x
  · exact (KT h).via fun _ r => XS.icmpYes X.here hx rfl rfl hd rfl (XT.ii_gt_t h) ho hp r
  · exact (KF h).via fun _ r => XS.icmpNo X.here hx rfl hd rfl (XT.ii_gt_f h) r
theorem icmp_le (X : Stand p l e R s m args below meth c T locs cells slots) (hx : p.tables.exec = Jvm.exec) {x y : Int32} {o : Int} (hd : decode c.code pc = .ok (.if_icmp .le o, 3)) (ho : 0 ≤ (pc : Int) + o) (hp : ((pc : Int) + o).toNat = pc') (KT : ¬ y < x → Go p.tables e below G (T.setTop (mkF m (pc') Ls rest))) (KF : y < x → Go p.tables e below G (T.setTop (mkF m (pc + 3) Ls rest))) : Go p.tables e below G (T.setTop (mkF m (pc) Ls (.int y :: .int x :: rest))) := by
  by_cases h : y < x
  · exact (KF h).via fun _ r => XS.icmpNo X.here hx rfl hd rfl (XT.ii_le_f h) r
  · exact (KT h).via fun _ r => XS.icmpYes X.here hx rfl rfl hd rfl (XT.ii_le_t h) ho hp r
theorem ifnull_n (X : Stand p l e R s m args below meth c T locs cells slots) (hx : p.tables.exec = Jvm.exec) {o : Int} (hd : decode c.code pc = .ok (.ifnull o, 3)) (ho : 0 ≤ (pc : Int) + o) (hp : ((pc : Int) + o).toNat = pc') (K : Go p.tables e below G (T.setTop (mkF m (pc') Ls rest))) : Go p.tables e below G (T.setTop (mkF m (pc) Ls (.null :: rest))) := K.via fun _ r => XS.ifnullYes X.here hx rfl rfl hd rfl ho hp r
theorem ifnull_r (X : Stand p l e R s m args below meth c T locs cells slots) (hx : p.tables.exec = Jvm.exec) {o : Int} {b : Addr} (hd : decode c.code pc = .ok (.ifnull o, 3)) (K : Go p.tables e below G (T.setTop (mkF m (pc + 3) Ls rest))) : Go p.tables e below G (T.setTop (mkF m (pc) Ls (.ref b :: rest))) := K.via fun _ r => XS.ifnullNo X.here hx rfl hd rfl r
theorem ifnonnull_r (X : Stand p l e R s m args below meth c T locs cells slots) (hx : p.tables.exec = Jvm.exec) {o : Int} {b : Addr} (hd : decode c.code pc = .ok (.ifnonnull o, 3)) (ho : 0 ≤ (pc : Int) + o) (hp : ((pc : Int) + o).toNat = pc') (K : Go p.tables e below G (T.setTop (mkF m (pc') Ls rest))) : Go p.tables e below G (T.setTop (mkF m (pc) Ls (.ref b :: rest))) := K.via fun _ r => XT.ifnonnullYes X.here hx rfl rfl hd rfl ho hp r
theorem ifnonnull_n (X : Stand p l e R s m args below meth c T locs cells slots) (hx : p.tables.exec = Jvm.exec) {o : Int} (hd : decode c.code pc = .ok (.ifnonnull o, 3)) (K : Go p.tables e below G (T.setTop (mkF m (pc + 3) Ls rest))) : Go p.tables e below G (T.setTop (mkF m (pc) Ls (.null :: rest))) := K.via fun _ r => XT.ifnonnullNo X.here hx rfl hd rfl r
theorem acmp_eq (X : Stand p l e R s m args below meth c T locs cells slots) (hx : p.tables.exec = Jvm.exec) {v w : Value} {o : Int} (hd : decode c.code pc = .ok (.if_acmp .eq o, 3)) (h1 : v.isRef = true) (h2 : w.isRef = true) (ho : 0 ≤ (pc : Int) + o) (hp : ((pc : Int) + o).toNat = pc') (KT : v = w → Go p.tables e below G (T.setTop (mkF m (pc') Ls rest))) (KF : ¬ v = w → Go p.tables e below G (T.setTop (mkF m (pc + 3) Ls rest))) : Go p.tables e below G (T.setTop (mkF m (pc) Ls (w :: v :: rest))) := by
  by_cases h : v = w
  · exact (KT h).via fun _ r => XT.acmpYes X.here hx rfl rfl hd rfl h1 h2 (XT.aa_eq_t h) ho hp r
  · exact (KF h).via fun _ r => XT.acmpNo X.here hx rfl hd rfl h1 h2 (XT.aa_eq_f h) r
theorem acmp_ne (X : Stand p l e R s m args below meth c T locs cells slots) (hx : p.tables.exec = Jvm.exec) {v w : Value} {o : Int} (hd : decode c.code pc = .ok (.if_acmp .ne o, 3)) (h1 : v.isRef = true) (h2 : w.isRef = true) (ho : 0 ≤ (pc : Int) + o) (hp : ((pc : Int) + o).toNat = pc') (KT : ¬ v = w → Go p.tables e below G (T.setTop (mkF m (pc') Ls rest))) (KF : v = w → Go p.tables e below G (T.setTop (mkF m (pc + 3) Ls rest))) : Go p.tables e below G (T.setTop (mkF m (pc) Ls (w :: v :: rest))) := by
  by_cases h : v = w
  · exact (KF h).via fun _ r => XT.acmpNo X.here hx rfl hd rfl h1 h2 (XT.aa_ne_f h) r
  · exact (KT h).via fun _ r => XT.acmpYes X.here hx rfl rfl hd rfl h1 h2 (XT.aa_ne_t h) ho hp r
theorem iaload (X : Stand p l e R s m args below meth c T locs cells slots) (hx : p.tables.exec = Jvm.exec) {Z : State} {h : Heap} (hZ : Z.Warmed39 s.vm) (eT : T.heap = h) {a : Addr} {cell : Cell} {j : Int32} (v : Value) (A : Arr Z h a cell .int) (hin : ¬ (j < 0 ∨ cell.slots.size ≤ j.toNatClampNeg)) (hv : cell.slots[j.toNatClampNeg]? = some v) (hd : decode c.code pc = .ok (.iaload, 1)) (K : Go p.tables e below G (T.setTop (mkF m (pc + 1) Ls (v :: rest)))) : Go p.tables e below G (T.setTop (mkF m (pc) Ls (.int j :: .ref a :: rest))) := K.via fun t r => X.iaload hx (g := mkF m pc Ls (.int j :: .ref a :: rest)) (by rw [eT]; exact A.1) (State.isArrayOf_alike hZ.alike A.2.1) A.2.2 hin hv rfl rfl hd t r
theorem caload (X : Stand p l e R s m args below meth c T locs cells slots) (hx : p.tables.exec = Jvm.exec) {Z : State} {h : Heap} (hZ : Z.Warmed39 s.vm) (eT : T.heap = h) {a : Addr} {cell : Cell} {j : Int32} (v : Value) (A : Arr Z h a cell .char) (hin : ¬ (j < 0 ∨ cell.slots.size ≤ j.toNatClampNeg)) (hv : cell.slots[j.toNatClampNeg]? = some v) (hd : decode c.code pc = .ok (.caload, 1)) (K : Go p.tables e below G (T.setTop (mkF m (pc + 1) Ls (v :: rest)))) : Go p.tables e below G (T.setTop (mkF m (pc) Ls (.int j :: .ref a :: rest))) := K.via fun t r => X.caload hx (g := mkF m pc Ls (.int j :: .ref a :: rest)) (by rw [eT]; exact A.1) (State.isArrayOf_alike hZ.alike A.2.1) A.2.2 hin hv rfl rfl hd t r
theorem laload (X : Stand p l e R s m args below meth c T locs cells slots) (hx : p.tables.exec = Jvm.exec) {Z : State} {h : Heap} (hZ : Z.Warmed39 s.vm) (eT : T.heap = h) {a : Addr} {cell : Cell} {j : Int32} (v : Value) (A : Arr Z h a cell .long) (hin : ¬ (j < 0 ∨ cell.slots.size ≤ j.toNatClampNeg)) (hv : cell.slots[j.toNatClampNeg]? = some v) (hd : decode c.code pc = .ok (.laload, 1)) (K : Go p.tables e below G (T.setTop (mkF m (pc + 1) Ls (v :: rest)))) : Go p.tables e below G (T.setTop (mkF m (pc) Ls (.int j :: .ref a :: rest))) := K.via fun t r => X.laload hx (g := mkF m pc Ls (.int j :: .ref a :: rest)) (by rw [eT]; exact A.1) (State.isArrayOf_alike hZ.alike A.2.1) A.2.2 hin hv rfl rfl hd t r
theorem baload (X : Stand p l e R s m args below meth c T locs cells slots) (hx : p.tables.exec = Jvm.exec) {Z : State} {h : Heap} (hZ : Z.Warmed39 s.vm) (eT : T.heap = h) {a : Addr} {cell : Cell} {j : Int32} (v : Value) (A : Arr Z h a cell .byte) (hin : ¬ (j < 0 ∨ cell.slots.size ≤ j.toNatClampNeg)) (hv : cell.slots[j.toNatClampNeg]? = some v) (hd : decode c.code pc = .ok (.baload, 1)) (K : Go p.tables e below G (T.setTop (mkF m (pc + 1) Ls (v :: rest)))) : Go p.tables e below G (T.setTop (mkF m (pc) Ls (.int j :: .ref a :: rest))) := K.via fun t r => X.baloadBytes hx (g := mkF m pc Ls (.int j :: .ref a :: rest)) (by rw [eT]; exact A.1) (State.isArrayOf_alike hZ.alike A.2.1) A.2.2 hin hv rfl rfl hd t r
theorem zaload (X : Stand p l e R s m args below meth c T locs cells slots) (hx : p.tables.exec = Jvm.exec) {Z : State} {h : Heap} (hZ : Z.Warmed39 s.vm) (eT : T.heap = h) {a : Addr} {cell : Cell} {j : Int32} (v : Value) (A : Arr Z h a cell .boolean) (hin : ¬ (j < 0 ∨ cell.slots.size ≤ j.toNatClampNeg)) (hv : cell.slots[j.toNatClampNeg]? = some v) (hd : decode c.code pc = .ok (.baload, 1)) (K : Go p.tables e below G (T.setTop (mkF m (pc + 1) Ls (v :: rest)))) : Go p.tables e below G (T.setTop (mkF m (pc) Ls (.int j :: .ref a :: rest))) := K.via fun t r => X.baloadBooleans hx (g := mkF m pc Ls (.int j :: .ref a :: rest)) (by rw [eT]; exact A.1) (State.isArrayOf_alike hZ.alike A.2.1) A.2.2 hin hv rfl rfl hd t r
theorem aaload (X : Stand p l e R s m args below meth c T locs cells slots) (hx : p.tables.exec = Jvm.exec) {Z : State} {h : Heap} (hZ : Z.Warmed39 s.vm) (eT : T.heap = h) {a : Addr} {cell : Cell} {ty : FieldType} {j : Int32} (v : Value) (A : Arr Z h a cell ty) (hty : ty.isReference = true) (hin : ¬ (j < 0 ∨ cell.slots.size ≤ j.toNatClampNeg)) (hv : cell.slots[j.toNatClampNeg]? = some v) (hd : decode c.code pc = .ok (.aaload, 1)) (K : Go p.tables e below G (T.setTop (mkF m (pc + 1) Ls (v :: rest)))) : Go p.tables e below G (T.setTop (mkF m (pc) Ls (.int j :: .ref a :: rest))) := K.via fun t r => X.aaload hx (g := mkF m pc Ls (.int j :: .ref a :: rest)) (by rw [eT]; exact A.1) (State.isArrayOf_alike hZ.alike A.2.1) hty A.2.2 hin hv rfl rfl hd t r
theorem arraylength (X : Stand p l e R s m args below meth c T locs cells slots) (hx : p.tables.exec = Jvm.exec) {Z : State} {h : Heap} (hZ : Z.Warmed39 s.vm) (eT : T.heap = h) {a : Addr} {cell : Cell} {ty : FieldType} (N : Int32) (A : Arr Z h a cell ty) (hN : cell.slots.size.toInt32 = N) (hd : decode c.code pc = .ok (.arraylength, 1)) (K : Go p.tables e below G (T.setTop (mkF m (pc + 1) Ls (.int N :: rest)))) : Go p.tables e below G (T.setTop (mkF m (pc) Ls (.ref a :: rest))) := K.via fun t r => X.arraylength hx (g := mkF m pc Ls (.ref a :: rest)) (by rw [eT]; exact A.1) (State.isArrayOf_alike hZ.alike A.2.1) rfl rfl hd t (by rw [hN]; exact r)
end Steps1
section Ends
variable {p : Program} {l : Launch} {e : Env} {R : Room} {s : State} {m : MethodId} {args : Array Value} {below : List Frame} {meth : Method} {c : Code} {T : State} {locs : List Loc} {cells slots : Nat} {pc pc' : Nat} {Ls : Array Slot} {rest : List Value} {Q : Option Value → Heap → List Loc → Prop} {k n : Nat}
/-- what a narrow contract says of its end -/
abbrev EndN (s : State) (Q : Option Value → Heap → List Loc → Prop) (k n : Nat) : Outcome → State → Prop := fun o t => ∃ v L, o = .returned v ∧ Q v t.heap L ∧ FrameEnd s o t L k n
theorem fin_of (X : Stand p l e R s m args below meth c T locs cells slots) (hlk : meth.locks = false) {v : Option Value} (hv : meth.sig.returnType = none → v = none) {g : JFrame} (st : ∀ fs, (∀ (f : JFrame) (acts : List Action), f.method = m → f.locked = none → f.entered = [] → (doReturn e (T.setTop f) acts v).1 = T.setFrames fs) → Steps p.tables e below (T.setTop g) (T.setFrames fs)) (hQ : Q v T.heap locs) (hk : cells ≤ k) (hn : slots ≤ n) : Go p.tables e below (EndN s Q k n) (T.setTop g) := by
  obtain ⟨fs, hr, hrun, hended, hW, hsame⟩ := X.leave (v := v) hv hlk
  exact ⟨_, _, st fs hr, hrun, hended, _, _, rfl, hQ, ⟨_, rfl⟩, hW, hsame.mono hk hn⟩
theorem ireturn (X : Stand p l e R s m args below meth c T locs cells slots) (hx : p.tables.exec = Jvm.exec) (hlk : meth.locks = false) {z : Int32} (hret : meth.sig.returnType = some .int) (hd : decode c.code pc = .ok (.ireturn, 1)) (hQ : Q (some (.int z)) T.heap locs) (hk : cells ≤ k) (hn : slots ≤ n) : Go p.tables e below (EndN s Q k n) (T.setTop (mkF m pc Ls (.int z :: rest))) :=
  fin_of X hlk (v := some (.int z)) (fun h => by rw [hret] at h; cases h) (fun fs hr => retOut X hx hret rfl (Or.inl ⟨rfl, Or.inl rfl, z, rfl⟩) hd hr) hQ hk hn
theorem nreturn (X : Stand p l e R s m args below meth c T locs cells slots) (hx : p.tables.exec = Jvm.exec) (hlk : meth.locks = false) {z : Int32} {t : FieldType} (hret : meth.sig.returnType = some t) (ht : t = .boolean ∨ t = .byte ∨ t = .char ∨ t = .short) (hd : decode c.code pc = .ok (.ireturn, 1)) (hQ : Q (some (.int (nar t z))) T.heap locs) (hk : cells ≤ k) (hn : slots ≤ n) : Go p.tables e below (EndN s Q k n) (T.setTop (mkF m pc Ls (.int z :: rest))) :=
  fin_of X hlk (v := some (.int (nar t z))) (fun h => by rw [hret] at h; cases h) (fun fs hr => retN X hx hret ht hd hr) hQ hk hn
theorem areturn (X : Stand p l e R s m args below meth c T locs cells slots) (hx : p.tables.exec = Jvm.exec) (hlk : meth.locks = false) {w : Value} {t : FieldType} (hret : meth.sig.returnType = some t) (ht : t.isReference = true) (hw : w.isRef = true) (hna : narrow t w = w) (hd : decode c.code pc = .ok (.areturn, 1)) (hQ : Q (some w) T.heap locs) (hk : cells ≤ k) (hn : slots ≤ n) : Go p.tables e below (EndN s Q k n) (T.setTop (mkF m pc Ls (w :: rest))) :=
  fin_of X hlk (v := some w) (fun h => by rw [hret] at h; cases h) (fun fs hr => retOut X hx hret hna (Or.inr (Or.inr (Or.inr (Or.inr ⟨rfl, ht, hw⟩)))) hd hr) hQ hk hn
theorem lreturn (X : Stand p l e R s m args below meth c T locs cells slots) (hx : p.tables.exec = Jvm.exec) (hlk : meth.locks = false) {z : Int64} (hret : meth.sig.returnType = some .long) (hd : decode c.code pc = .ok (.lreturn, 1)) (hQ : Q (some (.long z)) T.heap locs) (hk : cells ≤ k) (hn : slots ≤ n) : Go p.tables e below (EndN s Q k n) (T.setTop (mkF m pc Ls (.long z :: rest))) :=
  fin_of X hlk (v := some (.long z)) (fun h => by rw [hret] at h; cases h) (fun fs hr => retOut X hx hret rfl (Or.inr (Or.inl ⟨rfl, rfl, z, rfl⟩)) hd hr) hQ hk hn
theorem vreturn (X : Stand p l e R s m args below meth c T locs cells slots) (hx : p.tables.exec = Jvm.exec) (hlk : meth.locks = false) (hret : meth.sig.returnType = none) (hd : decode c.code pc = .ok (.return_, 1)) (hQ : Q none T.heap locs) (hk : cells ≤ k) (hn : slots ≤ n) : Go p.tables e below (EndN s Q k n) (T.setTop (mkF m pc Ls [])) :=
  fin_of X hlk (v := none) (fun _ => rfl) (fun fs hr => X.returnOut hx hret hd hr) hQ hk hn
end Ends
section Pays
/-- a narrow contract: called with as' at a heap h0 the method returns v, Q v says of the heap behind -/
def Pay (l : Launch) (Z : State) (y : MethodName) (bytes : ByteArray) (maxL : Nat) (ret : Option FieldType) (rm : Room) (as' : Array Value) (h0 : Heap) (Q : Option Value → Heap → List Loc → Prop) : Prop :=
  ∀ ws : List Jvm.Cond, MetFree l y (head1 (Jvm.Cond.code y bytes maxL ret :: ws) rm) (fun a U => a = as' ∧ Z.Warmed39 U.vm ∧ U.heap = h0) (fun _ _ _ _ _ => True) (fun _ U o U' => ∃ v L, o = .returned v ∧ Q v U'.heap L ∧ FrameEnd U o U' L rm.cells rm.slots)
variable {l : Launch} {Z : State} {y : MethodName} {bytes : ByteArray} {maxL : Nat} {ret : Option FieldType} {rm : Room} {as' : Array Value} {h0 : Heap} {Q : Option Value → Heap → List Loc → Prop}
theorem Pay.of {Ls : Array Slot} (hpn : plainFor y = true) (hef : ∀ m, entryFrame m as' maxL = mkF m 0 Ls [])
    (body : ∀ (p : Program) (e : Env) (s : State) (m : MethodId) (below : List Frame) (meth : Method) (c : Code) (T : State), p.tables.exec = Jvm.exec → c.code = bytes → c.maxLocals = maxL → s.vm.findClass y.cls = some m.cls → s.methodNamed? y = some m → s.vm.method? m = some meth → Z.Warmed39 s.vm → meth.sig.returnType = ret → meth.locks = false → Stand p l e rm s m as' below meth c T [] 0 0 → T.heap = h0 →
      Go p.tables e below (EndN s Q rm.cells rm.slots) (T.setTop (mkF m 0 Ls []))) : Pay l Z y bytes maxL ret rm as' h0 Q := by
  intro ws
  refine MetFree.of_bodySF hpn hisR ?_
  intro p e s m args below meth c s₁ Bd hml0 hP hK
  obtain ⟨rfl, hZ, hh⟩ := hP
  rw [hef m]
  exact body p e s m below meth c s₁ Bd.exec Bd.bytes hml0 (findClass_of_methodNamed Bd.named) Bd.named Bd.method hZ Bd.returns Bd.notSynchronized (Stand.of_body Bd) (by rw [← hh, Bd.state]; rfl)
theorem Pay.mono {Q' : Option Value → Heap → List Loc → Prop} (P : Pay l Z y bytes maxL ret rm as' h0 Q) (h : ∀ v h L, Q v h L → Q' v h L) : Pay l Z y bytes maxL ret rm as' h0 Q' := fun ws =>
  (P ws).mono (fun _ _ q => q) (fun _ _ _ _ _ q => q) fun _ _ _ _ _ ⟨v, L, h1, h2, h3⟩ => ⟨v, L, h1, h _ _ _ h2, h3⟩
variable {p : Program} {e : Env} {R : Room} {s : State} {m : MethodId} {args : Array Value} {below : List Frame} {meth : Method} {c : Code} {T : State} {locs : List Loc} {cells slots : Nat} {G : Outcome → State → Prop} {pc : Nat} {Ls : Array Slot} {a0 : Array Value}
/-- invokestatic, by whoever pays it -/
theorem callSB (X : Stand p l e R s m args below meth c T locs cells slots) (hx : p.tables.exec = Jvm.exec) (hZ : Z.Warmed39 s.vm) {argsL rest st : List Value} {kc ks : Nat}
    (hK : Back l R p e below s args y 3 ((rest.map fun v => v.category).sum) (fun A a => a = as' ∧ A.U.heap = h0 ∧ A.cells + kc ≤ R.cells ∧ A.slots + ks ≤ R.slots) (fun A _ v B => ∃ L, Q v B.U.heap L ∧ B.locs = A.locs ++ L ∧ B.cells = A.cells + kc ∧ B.slots = A.slots + ks)) (eT : T.heap = h0) {own : String} {index : Nat} (hown : s.vm.findClass own = some m.cls)
    (wl : (Cond.methodLink own index y).before a0 Z = true) (wst : (Cond.static y).before a0 Z = true) (wz : (Cond.initialized y.cls).before a0 Z = true) (wc : (Cond.code y bytes maxL ret).before a0 Z = true)
    (hy : y.cls ≠ "java/lang/invoke/MethodHandle" ∧ y.cls ≠ "java/lang/invoke/VarHandle") {ps : List FieldType} {rt : Option FieldType} (hpd : parseMethodDescriptor y.desc = some ⟨ps, rt⟩) (hsz : Ls.size = c.maxLocals)
    (has : argsL.toArray = as') (hlen : argsL.length = ps.length) (hst : st = argsL.reverse ++ rest) (hd : decode c.code pc = .ok (.invokestatic index, 3)) (hce : cells + kc ≤ R.cells) (hsl : slots + ks ≤ R.slots)
    (K : ∀ (v : Option Value) (T' : State) (L : List Loc), Stand p l e R s m args below meth c T' (locs ++ L) (cells + kc) (slots + ks) → Q v T'.heap L → Go p.tables e below G (T'.setTop (mkF m (pc + 3) Ls (v.toList ++ rest)))) :
    Go p.tables e below G (T.setTop (mkF m pc Ls st)) := by
  obtain ⟨_, _, ⟨T1, L1, k1, n1⟩, -, X1, ⟨Lc, hQ, l1, y1, z1⟩, st1⟩ := Jvm.LawKit.callS X hx (y := y) hown (mvT hZ wl) (mvT hZ wst) (mvT hZ wz) (mvT hZ wc) hy hK (g := mkF m pc Ls st) rfl hsz (argsL := argsL) (rest := rest) (lenOf hpd hlen) hst (by show 2 * 0 + _ ≤ _; omega) hd (fun _ _ => ⟨has, eT, hce, hsl⟩)
  dsimp only [Pt.U, Pt.locs, Pt.cells, Pt.slots] at X1 l1 y1 z1 st1 hQ
  subst l1 y1 z1
  exact (K _ _ _ X1 hQ).via st1
/-- invokestatic by a narrow contract -/
theorem callS (X : Stand p l e R s m args below meth c T locs cells slots) (hx : p.tables.exec = Jvm.exec) (hZ : Z.Warmed39 s.vm) (hP : Pay l Z y bytes maxL ret rm as' h0 Q) (eT : T.heap = h0) {own : String} {index : Nat} (hown : s.vm.findClass own = some m.cls)
    (wl : (Cond.methodLink own index y).before a0 Z = true) (wst : (Cond.static y).before a0 Z = true) (wz : (Cond.initialized y.cls).before a0 Z = true) (wc : (Cond.code y bytes maxL ret).before a0 Z = true)
    (hy : y.cls ≠ "java/lang/invoke/MethodHandle" ∧ y.cls ≠ "java/lang/invoke/VarHandle") {ps : List FieldType} {rt : Option FieldType} (hpd : parseMethodDescriptor y.desc = some ⟨ps, rt⟩) (hsz : Ls.size = c.maxLocals)
    {argsL rest st : List Value} (has : argsL.toArray = as') (hlen : argsL.length = ps.length) (hst : st = argsL.reverse ++ rest) (hd : decode c.code pc = .ok (.invokestatic index, 3))
    (hf : (rm.frames + 1).ble R.frames = true) (hlo : ((rest.map fun v => v.category).sum + (maxL + 11) + rm.locals).ble R.locals = true) (hce : cells + rm.cells ≤ R.cells) (hsl : slots + rm.slots ≤ R.slots)
    (K : ∀ (v : Option Value) (T' : State) (L : List Loc), Stand p l e R s m args below meth c T' (locs ++ L) (cells + rm.cells) (slots + rm.slots) → Q v T'.heap L → Go p.tables e below G (T'.setTop (mkF m (pc + 3) Ls (v.toList ++ rest)))) :
    Go p.tables e below G (T.setTop (mkF m pc Ls st)) :=
  callSB X hx hZ (backOf (W := (rest.map fun v => v.category).sum) (hP []) hZ wc wz (Nat.le_of_ble_eq_true hf) (Nat.le_of_ble_eq_true hlo)) eT hown wl wst wz wc hy hpd hsz has hlen hst hd hce hsl K
/-- .. that moves nothing -/
theorem callSP (X : Stand p l e R s m args below meth c T locs cells slots) (hx : p.tables.exec = Jvm.exec) (hZ : Z.Warmed39 s.vm) {r : Option Value} (hP : Pay l Z y bytes maxL ret rm as' h0 (fun v h L => v = r ∧ h = h0 ∧ L = [])) (h0c : rm.cells = 0) (h0s : rm.slots = 0) (eT : T.heap = h0) {own : String} {index : Nat} (hown : s.vm.findClass own = some m.cls)
    (wl : (Cond.methodLink own index y).before a0 Z = true) (wst : (Cond.static y).before a0 Z = true) (wz : (Cond.initialized y.cls).before a0 Z = true) (wc : (Cond.code y bytes maxL ret).before a0 Z = true)
    (hy : y.cls ≠ "java/lang/invoke/MethodHandle" ∧ y.cls ≠ "java/lang/invoke/VarHandle") {ps : List FieldType} {rt : Option FieldType} (hpd : parseMethodDescriptor y.desc = some ⟨ps, rt⟩) (hsz : Ls.size = c.maxLocals)
    {argsL rest st : List Value} (has : argsL.toArray = as') (hlen : argsL.length = ps.length) (hst : st = argsL.reverse ++ rest) (hd : decode c.code pc = .ok (.invokestatic index, 3))
    (hf : (rm.frames + 1).ble R.frames = true) (hlo : ((rest.map fun v => v.category).sum + (maxL + 11) + rm.locals).ble R.locals = true) (hce : cells ≤ R.cells) (hsl : slots ≤ R.slots)
    (K : ∀ (T' : State), Stand p l e R s m args below meth c T' locs cells slots → T'.heap = h0 → Go p.tables e below G (T'.setTop (mkF m (pc + 3) Ls (r.toList ++ rest)))) :
    Go p.tables e below G (T.setTop (mkF m pc Ls st)) := by
  refine callS X hx hZ hP eT hown wl wst wz wc hy hpd hsz has hlen hst hd hf hlo (by rw [h0c]; exact hce) (by rw [h0s]; exact hsl) ?_
  rintro v T' L X' ⟨rfl, hh, rfl⟩
  rw [h0c, h0s, List.append_nil] at X'
  exact K T' X' hh
end Pays
end Jvm.Ow
namespace Jvm.Ow
open Sem ClassFile Op Lib Jvm.Stand Jvm.Free Jvm.LawKit Jvm.RoadKit
section Heaps
variable {p : Program} {l : Launch} {e : Env} {R : Room} {s : State} {m : MethodId} {args : Array Value} {below : List Frame} {meth : Method} {c : Code} {T : State} {locs : List Loc} {cells slots : Nat} {G : Outcome → State → Prop} {pc pc' : Nat} {Ls : Array Slot} {rest : List Value} {Z : State} {a0 : Array Value} {h : Heap}
theorem new_ (X : Stand p l e R s m args below meth c T locs cells slots) (hx : p.tables.exec = Jvm.exec) (hZ : Z.Warmed39 s.vm) {own C : String} {index n : Nat} (hown : s.vm.findClass own = some m.cls) (w : (Cond.classLink own index C).before a0 Z = true) (wi : (Cond.instantiable C n).before a0 Z = true) (wz : (Cond.initialized C).before a0 Z = true) (eT : T.heap = h)
    (hd : decode c.code pc = .ok (.new index, 3)) (hc : cells + 1 ≤ R.cells) (hl : slots + n ≤ R.slots)
    (K : ∀ T' h' (a : Addr), a = h.size → Stand p l e R s m args below meth c T' locs (cells + 1) (slots + n) → T'.heap = h' → Ext h h' → Exa Z h' a C → (∀ {O nm d : String} {ty : FieldType}, Laid Z a0 C O nm d → parseFieldDescriptor d = some ty → Fld Z h' a O nm d (defaultValue ty)) → (∃ cell : Cell, h'[a]? = some cell ∧ cell.vm = .none ∧ cell.monitor = {}) →
      Go p.tables e below G (T'.setTop (mkF m (pc + 3) Ls (.ref a :: rest)))) : Go p.tables e below G (T.setTop (mkF m pc Ls rest)) := by
  obtain ⟨T', h', X', e', E, A, D, U, st⟩ := newO X hx hZ hown w wi wz eT (g := mkF m pc Ls rest) rfl hd hc hl
  exact (K T' h' _ rfl X' e' E A D U).via st
theorem newarray (X : Stand p l e R s m args below meth c T locs cells slots) (hx : p.tables.exec = Jvm.exec) (hZ : Z.Warmed39 s.vm) {aty : ArrayType} (w : (Cond.arrayClass (newarray.typeOf aty)).before a0 Z = true) (eT : T.heap = h) (cap : Nat) {n : Int32}
    (hd : decode c.code pc = .ok (.newarray aty, 2)) (hn : ¬ n < 0) (hcap : n.toNatClampNeg ≤ cap) (hb : cap * 8 ≤ 536870912) (hc : cells + 1 ≤ R.cells) (hl : slots + cap ≤ R.slots)
    (K : ∀ T' h' cA (a : Addr), a = h.size → Stand p l e R s m args below meth c T' locs (cells + 1) (slots + cap) → T'.heap = h' → Ext h h' → Arr Z h' a (newA cA (newarray.typeOf aty) n) (newarray.typeOf aty) →
      Go p.tables e below G (T'.setTop (mkF m (pc + 2) Ls (.ref a :: rest)))) : Go p.tables e below G (T.setTop (mkF m pc Ls (.int n :: rest))) := by
  obtain ⟨T', h', cA, X', e', E, A, st⟩ := newP X hx hZ w eT (g := mkF m pc Ls (.int n :: rest)) rfl hd rfl hn hcap hb hc hl
  exact (K T' h' cA _ rfl X' e' E A).via st
theorem getfield (X : Stand p l e R s m args below meth c T locs cells slots) (hx : p.tables.exec = Jvm.exec) (hZ : Z.Warmed39 s.vm) {own R0 O n d : String} {index : Nat} (hown : s.vm.findClass own = some m.cls) (w : (Cond.fieldLink own index R0 n d).before a0 Z = true) (via : Via Z R0 O n d) (eT : T.heap = h) {a : Addr} {v : Value} (F : Fld Z h a O n d v)
    (hd : decode c.code pc = .ok (.getfield index, 3)) (K : ∀ T', Stand p l e R s m args below meth c T' locs cells slots → T'.heap = h → Go p.tables e below G (T'.setTop (mkF m (pc + 3) Ls (v :: rest)))) : Go p.tables e below G (T.setTop (mkF m pc Ls (.ref a :: rest))) := by
  obtain ⟨T', X', e', st⟩ := getF X hx hZ hown (host := "") (Or.inl w) via eT F (g := mkF m pc Ls (.ref a :: rest)) rfl rfl hd
  exact (K T' X' e').via st
theorem putfield (X : Stand p l e R s m args below meth c T locs cells slots) (hx : p.tables.exec = Jvm.exec) (hZ : Z.Warmed39 s.vm) {own R0 O n d C : String} {index kk : Nat} {ty : FieldType} (hown : s.vm.findClass own = some m.cls) (w : (Cond.fieldLink own index R0 n d).before a0 Z = true) (via : Via Z R0 O n d)
    (eT : T.heap = h) {a : Addr} {v old : Value} (F : Fld Z h a O n d old) (E : Exa Z h a C) (L : (Cond.lays C O n d).before a0 Z = true ∨ ((Cond.laysFinal C O n d).before a0 Z = true ∧ own = O ∧ meth.name = "<init>")) (wi : (Cond.instantiable C kk).before a0 Z = true)
    (hty : parseFieldDescriptor d = some ty) (hn : narrow ty v = v) (hf : fits ty v = true) (hd : decode c.code pc = .ok (.putfield index, 3))
    (K : ∀ T' h', Stand p l e R s m args below meth c T' (locs ++ [⟨a, RoadKit.slotOf Z O n d⟩]) cells slots → T'.heap = h' → Wr h h' a (RoadKit.slotOf Z O n d) v → Go p.tables e below G (T'.setTop (mkF m (pc + 3) Ls rest))) : Go p.tables e below G (T.setTop (mkF m pc Ls (v :: .ref a :: rest))) := by
  obtain ⟨T', h', X', e', W, st⟩ := putF X hx hZ hown (host := "") (Or.inl w) via eT F E L wi hty hn hf (g := mkF m pc Ls (v :: .ref a :: rest)) rfl rfl hd
  exact (K T' h' X' e' W).via st
theorem getstatic (X : Stand p l e R s m args below meth c T locs cells slots) (hx : p.tables.exec = Jvm.exec) (hZ : Z.Warmed39 s.vm) {own R0 O n d : String} {index : Nat} (hown : s.vm.findClass own = some m.cls) (w : (Cond.fieldLink own index R0 n d).before a0 Z = true) (via : Via Z R0 O n d) (eT : T.heap = h) {v : Value} (F : Sta Z h O n d v)
    (hd : decode c.code pc = .ok (.getstatic index, 3)) (K : ∀ T', Stand p l e R s m args below meth c T' locs cells slots → T'.heap = h → Go p.tables e below G (T'.setTop (mkF m (pc + 3) Ls (v :: rest)))) : Go p.tables e below G (T.setTop (mkF m pc Ls rest)) := by
  obtain ⟨T', X', e', st⟩ := getS (host := "") X hx hZ hown w via eT F (g := mkF m pc Ls rest) rfl hd
  exact (K T' X' e').via st
theorem objinit (X : Stand p l e R s m args below meth c T locs cells slots) (hx : p.tables.exec = Jvm.exec) (hZ : Z.Warmed39 s.vm) {own : String} {idx : Nat} (hown : s.vm.findClass own = some m.cls) (w1 : (Cond.methodLink own idx Lib.objectInit).before a0 Z = true) (w2 : (Cond.instanceMethod Lib.objectInit).before a0 Z = true)
    (w3 : (Cond.code Lib.objectInit ⟨#[0xb1]⟩ 1 none).before a0 Z = true) (eT : T.heap = h) (hsz : Ls.size = c.maxLocals) {a : Addr} (hd : decode c.code pc = .ok (.invokespecial idx, 3)) (hf : (1 : Nat).ble R.frames = true) (hl : ((rest.map fun v => v.category).sum + 12).ble R.locals = true)
    (K : ∀ T', Stand p l e R s m args below meth c T' locs cells slots → T'.heap = h → Go p.tables e below G (T'.setTop (mkF m (pc + 3) Ls rest))) : Go p.tables e below G (T.setTop (mkF m pc Ls (.ref a :: rest))) := by
  obtain ⟨T', X', e', st⟩ := initO X hx hZ hown w1 w2 w3 eT (g := mkF m pc Ls (.ref a :: rest)) rfl hsz rfl hd (Nat.le_of_ble_eq_true hf) (W := (rest.map fun v => v.category).sum) (by show 2 * 0 + _ ≤ _; omega) (Nat.le_of_ble_eq_true hl)
  exact (K T' X' e').via st
theorem castore (X : Stand p l e R s m args below meth c T locs cells slots) (hx : p.tables.exec = Jvm.exec) (hZ : Z.Warmed39 s.vm) (eT : T.heap = h) {a : Addr} {cl : Cell} (A : Arr Z h a cl .char) {j x : Int32} (hj : ¬ (j < 0 ∨ cl.slots.size ≤ j.toNatClampNeg)) (hd : decode c.code pc = .ok (.castore, 1))
    (K : ∀ T' h', Stand p l e R s m args below meth c T' (locs ++ [⟨a, j.toNatClampNeg⟩]) cells slots → T'.heap = h' → Wr h h' a j.toNatClampNeg (.int (nar .char x)) → Go p.tables e below G (T'.setTop (mkF m (pc + 1) Ls rest))) : Go p.tables e below G (T.setTop (mkF m pc Ls (.int x :: .int j :: .ref a :: rest))) := by
  obtain ⟨T', h', X', e', W, st⟩ := stC X hx hZ eT A hj (g := mkF m pc Ls (.int x :: .int j :: .ref a :: rest)) rfl rfl hd
  exact (K T' h' X' e' W).via st
theorem bastore (X : Stand p l e R s m args below meth c T locs cells slots) (hx : p.tables.exec = Jvm.exec) (hZ : Z.Warmed39 s.vm) (eT : T.heap = h) {a : Addr} {cl : Cell} (A : Arr Z h a cl .byte) {j x : Int32} (hj : ¬ (j < 0 ∨ cl.slots.size ≤ j.toNatClampNeg)) (hd : decode c.code pc = .ok (.bastore, 1))
    (K : ∀ T' h', Stand p l e R s m args below meth c T' (locs ++ [⟨a, j.toNatClampNeg⟩]) cells slots → T'.heap = h' → Wr h h' a j.toNatClampNeg (.int (nar .byte x)) → Go p.tables e below G (T'.setTop (mkF m (pc + 1) Ls rest))) : Go p.tables e below G (T.setTop (mkF m pc Ls (.int x :: .int j :: .ref a :: rest))) := by
  obtain ⟨T', h', X', e', W, st⟩ := stB X hx hZ eT A hj (g := mkF m pc Ls (.int x :: .int j :: .ref a :: rest)) rfl rfl hd
  exact (K T' h' X' e' W).via st
theorem zastore (X : Stand p l e R s m args below meth c T locs cells slots) (hx : p.tables.exec = Jvm.exec) (hZ : Z.Warmed39 s.vm) (eT : T.heap = h) {a : Addr} {cl : Cell} (A : Arr Z h a cl .boolean) {j x : Int32} (hj : ¬ (j < 0 ∨ cl.slots.size ≤ j.toNatClampNeg)) (hd : decode c.code pc = .ok (.bastore, 1))
    (K : ∀ T' h', Stand p l e R s m args below meth c T' (locs ++ [⟨a, j.toNatClampNeg⟩]) cells slots → T'.heap = h' → Wr h h' a j.toNatClampNeg (.int (nar .boolean x)) → Go p.tables e below G (T'.setTop (mkF m (pc + 1) Ls rest))) : Go p.tables e below G (T.setTop (mkF m pc Ls (.int x :: .int j :: .ref a :: rest))) := by
  obtain ⟨T', h', X', e', W, st⟩ := stZ X hx hZ eT A hj (g := mkF m pc Ls (.int x :: .int j :: .ref a :: rest)) rfl rfl hd
  exact (K T' h' X' e' W).via st
theorem iastore (X : Stand p l e R s m args below meth c T locs cells slots) (hx : p.tables.exec = Jvm.exec) (hZ : Z.Warmed39 s.vm) (eT : T.heap = h) {a : Addr} {cl : Cell} (A : Arr Z h a cl .int) {j x : Int32} (hj : ¬ (j < 0 ∨ cl.slots.size ≤ j.toNatClampNeg)) (hd : decode c.code pc = .ok (.iastore, 1))
    (K : ∀ T' h', Stand p l e R s m args below meth c T' (locs ++ [⟨a, j.toNatClampNeg⟩]) cells slots → T'.heap = h' → Wr h h' a j.toNatClampNeg (.int x) → Go p.tables e below G (T'.setTop (mkF m (pc + 1) Ls rest))) : Go p.tables e below G (T.setTop (mkF m pc Ls (.int x :: .int j :: .ref a :: rest))) := by
  obtain ⟨T', h', X', e', W, st⟩ := stI X hx hZ eT A hj (g := mkF m pc Ls (.int x :: .int j :: .ref a :: rest)) rfl rfl hd
  exact (K T' h' X' e' W).via st
theorem checkcast (X : Stand p l e R s m args below meth c T locs cells slots) (hx : p.tables.exec = Jvm.exec) (hZ : Z.Warmed39 s.vm) {own K0 : String} {index : Nat} (hown : s.vm.findClass own = some m.cls) (w : (Cond.classLink own index K0).before a0 Z = true) (eT : T.heap = h) {a : Addr} (F : Ins Z h a K0 true) (hd : decode c.code pc = .ok (.checkcast index, 3))
    (K : ∀ T', Stand p l e R s m args below meth c T' locs cells slots → T'.heap = h → Go p.tables e below G (T'.setTop (mkF m (pc + 3) Ls (.ref a :: rest)))) : Go p.tables e below G (T.setTop (mkF m pc Ls (.ref a :: rest))) := by
  obtain ⟨T', X', e', st⟩ := castY X hx hZ hown w eT F (g := mkF m pc Ls (.ref a :: rest)) rfl rfl hd
  exact (K T' X' e').via st
theorem instanceofY (X : Stand p l e R s m args below meth c T locs cells slots) (hx : p.tables.exec = Jvm.exec) (hZ : Z.Warmed39 s.vm) {own K0 : String} {index : Nat} (hown : s.vm.findClass own = some m.cls) (w : (Cond.classLink own index K0).before a0 Z = true) (eT : T.heap = h) {a : Addr} (F : Ins Z h a K0 true) (hd : decode c.code pc = .ok (.instanceof index, 3))
    (K : ∀ T', Stand p l e R s m args below meth c T' locs cells slots → T'.heap = h → Go p.tables e below G (T'.setTop (mkF m (pc + 3) Ls (.int 1 :: rest)))) : Go p.tables e below G (T.setTop (mkF m pc Ls (.ref a :: rest))) := by
  obtain ⟨T', X', e', st⟩ := instY X hx hZ hown w eT F (g := mkF m pc Ls (.ref a :: rest)) rfl rfl hd
  exact (K T' X' e').via st
end Heaps
section Calls
variable {l : Launch} {Z : State} {y : MethodName} {bytes : ByteArray} {maxL : Nat} {ret : Option FieldType} {rm : Room} {as' : Array Value} {h0 : Heap} {Q : Option Value → Heap → List Loc → Prop}
variable {p : Program} {e : Env} {R : Room} {s : State} {m : MethodId} {args : Array Value} {below : List Frame} {meth : Method} {c : Code} {T : State} {locs : List Loc} {cells slots : Nat} {G : Outcome → State → Prop} {pc : Nat} {Ls : Array Slot} {a0 : Array Value}
/-- invokespecial of a constructor, by whoever pays it -/
theorem callIB (X : Stand p l e R s m args below meth c T locs cells slots) (hx : p.tables.exec = Jvm.exec) (hZ : Z.Warmed39 s.vm) {a : Addr} {argsL rest st : List Value} {kc ks : Nat}
    (hK : Back l R p e below s args y 3 ((rest.map fun v => v.category).sum) (fun A a => a = as' ∧ A.U.heap = h0 ∧ A.cells + kc ≤ R.cells ∧ A.slots + ks ≤ R.slots) (fun A _ v B => ∃ L, Q v B.U.heap L ∧ B.locs = A.locs ++ L ∧ B.cells = A.cells + kc ∧ B.slots = A.slots + ks)) (eT : T.heap = h0) (hni : y.name = "<init>") {own : String} {index : Nat} (hown : s.vm.findClass own = some m.cls)
    (wl : (Cond.methodLink own index y).before a0 Z = true) (win : (Cond.instanceMethod y).before a0 Z = true) (wc : (Cond.code y bytes maxL none).before a0 Z = true)
    (hy : y.cls ≠ "java/lang/invoke/MethodHandle" ∧ y.cls ≠ "java/lang/invoke/VarHandle") {ps : List FieldType} {rt : Option FieldType} (hpd : parseMethodDescriptor y.desc = some ⟨ps, rt⟩) (hsz : Ls.size = c.maxLocals)
    (has : (.ref a :: argsL).toArray = as') (hlen : argsL.length = ps.length) (hst : st = argsL.reverse ++ .ref a :: rest) (hd : decode c.code pc = .ok (.invokespecial index, 3)) (hce : cells + kc ≤ R.cells) (hsl : slots + ks ≤ R.slots)
    (K : ∀ (v : Option Value) (T' : State) (L : List Loc), Stand p l e R s m args below meth c T' (locs ++ L) (cells + kc) (slots + ks) → Q v T'.heap L → Go p.tables e below G (T'.setTop (mkF m (pc + 3) Ls (v.toList ++ rest)))) :
    Go p.tables e below G (T.setTop (mkF m pc Ls st)) := by
  obtain ⟨_, _, ⟨T1, L1, k1, n1⟩, -, X1, ⟨Lc, hQ, l1, y1, z1⟩, st1⟩ := X.specialBack hx (y := y) hni hown (mvT hZ wl) (mvT hZ win) (mvT hZ wc) hy hK (g := mkF m pc Ls st) rfl hsz (Steps.refl _) (a := a) (argsL := argsL) (rest := rest) (lenOf hpd hlen) hst (by show 2 * 0 + _ ≤ _; omega) hd (fun _ _ => ⟨has, eT, hce, hsl⟩)
  dsimp only [Pt.U, Pt.locs, Pt.cells, Pt.slots] at X1 l1 y1 z1 st1 hQ
  subst l1 y1 z1
  exact (K _ _ _ X1 hQ).thru st1
/-- invokespecial of a constructor by a narrow contract -/
theorem callI (X : Stand p l e R s m args below meth c T locs cells slots) (hx : p.tables.exec = Jvm.exec) (hZ : Z.Warmed39 s.vm) (hP : Pay l Z y bytes maxL none rm as' h0 Q) (eT : T.heap = h0) (hni : y.name = "<init>") {own : String} {index : Nat} (hown : s.vm.findClass own = some m.cls)
    (wl : (Cond.methodLink own index y).before a0 Z = true) (win : (Cond.instanceMethod y).before a0 Z = true) (wz : (Cond.initialized y.cls).before a0 Z = true) (wc : (Cond.code y bytes maxL none).before a0 Z = true)
    (hy : y.cls ≠ "java/lang/invoke/MethodHandle" ∧ y.cls ≠ "java/lang/invoke/VarHandle") {ps : List FieldType} {rt : Option FieldType} (hpd : parseMethodDescriptor y.desc = some ⟨ps, rt⟩) (hsz : Ls.size = c.maxLocals)
    {a : Addr} {argsL rest st : List Value} (has : (.ref a :: argsL).toArray = as') (hlen : argsL.length = ps.length) (hst : st = argsL.reverse ++ .ref a :: rest) (hd : decode c.code pc = .ok (.invokespecial index, 3))
    (hf : (rm.frames + 1).ble R.frames = true) (hlo : ((rest.map fun v => v.category).sum + (maxL + 11) + rm.locals).ble R.locals = true) (hce : cells + rm.cells ≤ R.cells) (hsl : slots + rm.slots ≤ R.slots)
    (K : ∀ (v : Option Value) (T' : State) (L : List Loc), Stand p l e R s m args below meth c T' (locs ++ L) (cells + rm.cells) (slots + rm.slots) → Q v T'.heap L → Go p.tables e below G (T'.setTop (mkF m (pc + 3) Ls (v.toList ++ rest)))) :
    Go p.tables e below G (T.setTop (mkF m pc Ls st)) :=
  callIB X hx hZ (backOf (W := (rest.map fun v => v.category).sum) (hP []) hZ wc wz (Nat.le_of_ble_eq_true hf) (Nat.le_of_ble_eq_true hlo)) eT hni hown wl win wc hy hpd hsz has hlen hst hd hce hsl K
/-- invokevirtual, by whoever pays it: x is named, y is selected -/
theorem callVB (X : Stand p l e R s m args below meth c T locs cells slots) (hx : p.tables.exec = Jvm.exec) (hZ : Z.Warmed39 s.vm) {a : Addr} {argsL rest st : List Value} {kc ks : Nat}
    (hK : Back l R p e below s args y 3 ((rest.map fun v => v.category).sum) (fun A a => a = as' ∧ A.U.heap = h0 ∧ A.cells + kc ≤ R.cells ∧ A.slots + ks ≤ R.slots) (fun A _ v B => ∃ L, Q v B.U.heap L ∧ B.locs = A.locs ++ L ∧ B.cells = A.cells + kc ∧ B.slots = A.slots + ks)) (eT : T.heap = h0) {C : String} {own : String} {index : Nat} (hown : s.vm.findClass own = some m.cls)
    (wl : (Cond.methodLink own index y).before a0 Z = true) (wd : (Cond.declares y).before a0 Z = true) (wse : (Cond.selects C y y).before a0 Z = true) (win : (Cond.instanceMethod y).before a0 Z = true)
    (hy : y.cls ≠ "java/lang/invoke/MethodHandle" ∧ y.cls ≠ "java/lang/invoke/VarHandle") {ps : List FieldType} {rt : Option FieldType} (hpd : parseMethodDescriptor y.desc = some ⟨ps, rt⟩) (hsz : Ls.size = c.maxLocals)
    (E : Exa Z h0 a C) (has : (.ref a :: argsL).toArray = as') (hlen : argsL.length = ps.length) (hst : st = argsL.reverse ++ .ref a :: rest) (hd : decode c.code pc = .ok (.invokevirtual index, 3)) (hce : cells + kc ≤ R.cells) (hsl : slots + ks ≤ R.slots)
    (K : ∀ (v : Option Value) (T' : State) (L : List Loc), Stand p l e R s m args below meth c T' (locs ++ L) (cells + kc) (slots + ks) → Q v T'.heap L → Go p.tables e below G (T'.setTop (mkF m (pc + 3) Ls (v.toList ++ rest)))) :
    Go p.tables e below G (T.setTop (mkF m pc Ls st)) := by
  obtain ⟨cq, kq, qa, qb, qc⟩ := isOf hZ eT E
  obtain ⟨_, _, ⟨T1, L1, k1, n1⟩, -, X1, ⟨Lc, hQ, l1, y1, z1⟩, st1⟩ := X.virtualBack hx (y := y) (z := y) hown (mvT hZ wl) (mvT hZ wd) (notFace_of_selects (args := #[]) (mvT hZ wse)) (mvT hZ wse) (mvT hZ win) hy hK qa qc (g := mkF m pc Ls st) rfl hsz (Steps.refl _) (argsL := argsL) (rest := rest) (lenOf hpd hlen) hst (by show 2 * 0 + _ ≤ _; omega) hd (fun _ _ => ⟨has, eT, hce, hsl⟩)
  dsimp only [Pt.U, Pt.locs, Pt.cells, Pt.slots] at X1 l1 y1 z1 st1 hQ
  subst l1 y1 z1
  exact (K _ _ _ X1 hQ).thru st1
/-- invokevirtual by a narrow contract -/
theorem callV (X : Stand p l e R s m args below meth c T locs cells slots) (hx : p.tables.exec = Jvm.exec) (hZ : Z.Warmed39 s.vm) (hP : Pay l Z y bytes maxL ret rm as' h0 Q) (eT : T.heap = h0) {C : String} {own : String} {index : Nat} (hown : s.vm.findClass own = some m.cls)
    (wl : (Cond.methodLink own index y).before a0 Z = true) (wd : (Cond.declares y).before a0 Z = true) (wse : (Cond.selects C y y).before a0 Z = true) (win : (Cond.instanceMethod y).before a0 Z = true) (wz : (Cond.initialized y.cls).before a0 Z = true) (wc : (Cond.code y bytes maxL ret).before a0 Z = true)
    (hy : y.cls ≠ "java/lang/invoke/MethodHandle" ∧ y.cls ≠ "java/lang/invoke/VarHandle") {ps : List FieldType} {rt : Option FieldType} (hpd : parseMethodDescriptor y.desc = some ⟨ps, rt⟩) (hsz : Ls.size = c.maxLocals)
    {a : Addr} (E : Exa Z h0 a C) {argsL rest st : List Value} (has : (.ref a :: argsL).toArray = as') (hlen : argsL.length = ps.length) (hst : st = argsL.reverse ++ .ref a :: rest) (hd : decode c.code pc = .ok (.invokevirtual index, 3))
    (hf : (rm.frames + 1).ble R.frames = true) (hlo : ((rest.map fun v => v.category).sum + (maxL + 11) + rm.locals).ble R.locals = true) (hce : cells + rm.cells ≤ R.cells) (hsl : slots + rm.slots ≤ R.slots)
    (K : ∀ (v : Option Value) (T' : State) (L : List Loc), Stand p l e R s m args below meth c T' (locs ++ L) (cells + rm.cells) (slots + rm.slots) → Q v T'.heap L → Go p.tables e below G (T'.setTop (mkF m (pc + 3) Ls (v.toList ++ rest)))) :
    Go p.tables e below G (T.setTop (mkF m pc Ls st)) :=
  callVB X hx hZ (backOf (W := (rest.map fun v => v.category).sum) (hP []) hZ wc wz (Nat.le_of_ble_eq_true hf) (Nat.le_of_ble_eq_true hlo)) eT hown wl wd wse win hy hpd hsz E has hlen hst hd hce hsl K
/-- .. that moves nothing -/
theorem callVP (X : Stand p l e R s m args below meth c T locs cells slots) (hx : p.tables.exec = Jvm.exec) (hZ : Z.Warmed39 s.vm) {r : Option Value} (hP : Pay l Z y bytes maxL ret rm as' h0 (fun v h L => v = r ∧ h = h0 ∧ L = [])) (h0c : rm.cells = 0) (h0s : rm.slots = 0) (eT : T.heap = h0) {C : String} {own : String} {index : Nat} (hown : s.vm.findClass own = some m.cls)
    (wl : (Cond.methodLink own index y).before a0 Z = true) (wd : (Cond.declares y).before a0 Z = true) (wse : (Cond.selects C y y).before a0 Z = true) (win : (Cond.instanceMethod y).before a0 Z = true) (wz : (Cond.initialized y.cls).before a0 Z = true) (wc : (Cond.code y bytes maxL ret).before a0 Z = true)
    (hy : y.cls ≠ "java/lang/invoke/MethodHandle" ∧ y.cls ≠ "java/lang/invoke/VarHandle") {ps : List FieldType} {rt : Option FieldType} (hpd : parseMethodDescriptor y.desc = some ⟨ps, rt⟩) (hsz : Ls.size = c.maxLocals)
    {a : Addr} (E : Exa Z h0 a C) {argsL rest st : List Value} (has : (.ref a :: argsL).toArray = as') (hlen : argsL.length = ps.length) (hst : st = argsL.reverse ++ .ref a :: rest) (hd : decode c.code pc = .ok (.invokevirtual index, 3))
    (hf : (rm.frames + 1).ble R.frames = true) (hlo : ((rest.map fun v => v.category).sum + (maxL + 11) + rm.locals).ble R.locals = true) (hce : cells ≤ R.cells) (hsl : slots ≤ R.slots)
    (K : ∀ (T' : State), Stand p l e R s m args below meth c T' locs cells slots → T'.heap = h0 → Go p.tables e below G (T'.setTop (mkF m (pc + 3) Ls (r.toList ++ rest)))) :
    Go p.tables e below G (T.setTop (mkF m pc Ls st)) := by
  refine callV X hx hZ hP eT hown wl wd wse win wz wc hy hpd hsz E has hlen hst hd hf hlo (by rw [h0c]; exact hce) (by rw [h0s]; exact hsl) ?_
  rintro v T' L X' ⟨rfl, hh, rfl⟩
  rw [h0c, h0s, List.append_nil] at X'
  exact K T' X' hh
end Calls
end Jvm.Ow
namespace Jvm.Ow
open Sem ClassFile Op Lib Jvm.Stand Jvm.Free Jvm.LawKit Jvm.RoadKit
/-- an array whose slots are known, one by one -/
def AL (Z : State) (h : Heap) (a : Addr) (k : ClassId) (ty : FieldType) (vs : List Value) : Prop := ∃ c : Cell, Arr Z h a c ty ∧ c.cls = k ∧ c.slots = vs.toArray
/-- what has moved from h0 to h: the cells ws and new ones -/
def Eff (h0 h : Heap) (ws : List Addr) (L : List Loc) : Prop := Keep h0 h ws ∧ ∀ y ∈ L, y.base ∈ ws ∨ h0.size ≤ y.base
section ALs
variable {Z : State} {h h' h0 : Heap} {a b : Addr} {k : ClassId} {ty : FieldType} {vs : List Value} {v : Value} {ws ws' : List Addr} {L L' : List Loc} {sl : Nat} {C n d : String}
theorem AL.lt (A : AL Z h a k ty vs) : a < h.size := by obtain ⟨c, A, -⟩ := A; exact A.lt
theorem AL.ext (A : AL Z h a k ty vs) (E : Ext h h') : AL Z h' a k ty vs := by obtain ⟨c, A, r⟩ := A; exact ⟨c, A.ext E, r⟩
theorem AL.other (A : AL Z h b k ty vs) (W : Wr h h' a sl v) (q : b ≠ a) : AL Z h' b k ty vs := by obtain ⟨c, A, r⟩ := A; exact ⟨c, A.other W q, r⟩
theorem AL.keep (A : AL Z h a k ty vs) (K : Keep h h' ws) (q : a ∉ ws) : AL Z h' a k ty vs := by obtain ⟨c, A, r⟩ := A; exact ⟨c, ⟨K.2.1 a c A.1 q, A.2⟩, r⟩
theorem AL.new {z : Int32} (A : Arr Z h a (newA k ty z) ty) (vs : List Value) (q : List.replicate z.toNatClampNeg (defaultValue ty) = vs) : AL Z h a k ty vs := ⟨_, A, rfl, by rw [← q]; simp [newA]⟩
theorem AL.set (A : AL Z h a k ty vs) {i : Nat} (W : Wr h h' a i v) (vs' : List Value) (q : vs.set i v = vs') : AL Z h' a k ty vs' := by
  obtain ⟨c, A, r1, r2⟩ := A
  refine ⟨_, A.same W, r1, ?_⟩
  show c.slots.setIfInBounds i v = _
  rw [r2, ← q]; simp
theorem AL.arr (A : AL Z h a k ty vs) : ∃ c : Cell, Arr Z h a c ty ∧ c.cls = k ∧ c.slots.size = vs.length ∧ ∀ i : Nat, c.slots[i]? = vs[i]? := by
  obtain ⟨c, A, r1, r2⟩ := A
  exact ⟨c, A, r1, by rw [r2]; simp, fun i => by rw [r2]; simp⟩
theorem AL.arv (A : AL Z h a k ty vs) {z : Int32} {dv : Value} (hz : ¬ z < 0) (hl : z.toNatClampNeg = vs.length) (hf : ∀ v ∈ vs, fits ty v = true) : Arv Z h a k ty z vs dv := by
  obtain ⟨c, A, r1, r2, r3⟩ := A.arr
  refine ⟨c, A, r1, by rw [r2, hl], hz, fun i hi => ?_, fun i hi => ?_⟩
  · rw [r3, List.getD_eq_getElem?_getD, List.getElem?_eq_getElem (by omega)]; rfl
  · rw [List.getD_eq_getElem?_getD, List.getElem?_eq_getElem (by omega)]; exact hf _ (List.getElem_mem _)
theorem AL.of_arv {z : Int32} {dv : Value} (A : Arv Z h a k ty z vs dv) (hl : z.toNatClampNeg = vs.length) : AL Z h a k ty vs := by
  obtain ⟨c, A, r1, r2, r3, H, -⟩ := A
  refine ⟨c, A, r1, Array.ext_getElem? fun i => ?_⟩
  by_cases q : i < c.slots.size
  · rw [H i q, List.getD_eq_getElem?_getD]
    have : i < vs.length := by omega
    simp [this]
  · rw [Array.getElem?_eq_none (by omega)]
    have : vs.length ≤ i := by omega
    simp [this]
theorem Eff.refl (h : Heap) (ws : List Addr) : Eff h h ws [] := ⟨Keep.refl h ws, fun _ q => nomatch q⟩
theorem Eff.size (F : Eff h0 h ws L) : h0.size ≤ h.size := F.1.1
theorem Eff.ext (F : Eff h0 h ws L) (E : Ext h h') : Eff h0 h' ws L := ⟨F.1.ext E, F.2⟩
theorem Eff.wr (F : Eff h0 h ws L) (W : Wr h h' a sl v) (q : a ∈ ws ∨ h0.size ≤ a) : Eff h0 h' ws (L ++ [⟨a, sl⟩]) := ⟨F.1.wr W q, fun y hy => by
  rcases List.mem_append.mp hy with hy | hy
  · exact F.2 y hy
  · cases List.mem_singleton.mp hy; exact q⟩
theorem Eff.call (F : Eff h0 h ws L) (F' : Eff h h' ws' L') (q : ∀ x ∈ ws', x ∈ ws ∨ h0.size ≤ x) : Eff h0 h' ws (L ++ L') := ⟨F.1.trans F'.1 q, fun y hy => by
  rcases List.mem_append.mp hy with hy | hy
  · exact F.2 y hy
  · rcases F'.2 y hy with r | r
    · exact q _ r
    · exact Or.inr (Nat.le_trans F.1.1 r)⟩
theorem Eff.app0 (F : Eff h0 h ws L) : Eff h0 h ws (L ++ []) := by rw [List.append_nil]; exact F
theorem Eff.fr (F : Eff h0 h [] L) : Fr h0.size L := fun y hy => (F.2 y hy).elim (fun q => nomatch q) id
theorem Eff.keep (F : Eff h0 h ws L) : Keep h0 h ws := F.1
theorem ext_ne (q : a < h.size) : a ≠ h.size := Nat.ne_of_lt q
theorem Keep.ext0 (K : Keep h h' []) : Ext h h' := ⟨K.1, fun x c q => K.2.1 x c q nin0⟩
end ALs
section ALsteps
variable {p : Program} {l : Launch} {e : Env} {R : Room} {s : State} {m : MethodId} {args : Array Value} {below : List Frame} {meth : Method} {c : Code} {T : State} {locs : List Loc} {cells slots : Nat} {G : Outcome → State → Prop} {pc pc' : Nat} {Ls : Array Slot} {rest : List Value} {Z : State} {a0 : Array Value} {h : Heap} {a : Addr} {kc : ClassId} {vs : List Value}
theorem inb {c : Cell} {j : Int32} (hs : c.slots.size = vs.length) (h0 : ¬ j < 0) {i : Nat} (hi : j.toNatClampNeg = i) (hl : i < vs.length) : ¬ (j < 0 ∨ c.slots.size ≤ j.toNatClampNeg) := by
  rw [hi, hs]; exact fun q => q.elim h0 (Nat.not_le.mpr hl)
/-- newarray: all slots at their first value -/
theorem newarrayL (X : Stand p l e R s m args below meth c T locs cells slots) (hx : p.tables.exec = Jvm.exec) (hZ : Z.Warmed39 s.vm) {aty : ArrayType} (w : (Cond.arrayClass (newarray.typeOf aty)).before a0 Z = true) (eT : T.heap = h) (cap : Nat) {n : Int32} (vs : List Value) (hvs : List.replicate n.toNatClampNeg (defaultValue (newarray.typeOf aty)) = vs)
    (hd : decode c.code pc = .ok (.newarray aty, 2)) (hn : ¬ n < 0) (hcap : n.toNatClampNeg ≤ cap) (hb : cap * 8 ≤ 536870912) (hc : cells + 1 ≤ R.cells) (hl : slots + cap ≤ R.slots)
    (K : ∀ T' h' cA (a : Addr), a = h.size → Stand p l e R s m args below meth c T' locs (cells + 1) (slots + cap) → T'.heap = h' → Ext h h' → AL Z h' a cA (newarray.typeOf aty) vs →
      Go p.tables e below G (T'.setTop (mkF m (pc + 2) Ls (.ref a :: rest)))) : Go p.tables e below G (T.setTop (mkF m pc Ls (.int n :: rest))) :=
  newarray X hx hZ w eT cap hd hn hcap hb hc hl fun T' h' cA a ha X' e' E A => K T' h' cA a ha X' e' E (AL.new A vs hvs)
theorem castoreL (X : Stand p l e R s m args below meth c T locs cells slots) (hx : p.tables.exec = Jvm.exec) (hZ : Z.Warmed39 s.vm) (eT : T.heap = h) (A : AL Z h a kc .char vs) {j x : Int32} (i : Nat) (vs' : List Value) (hj0 : ¬ j < 0) (hj : j.toNatClampNeg = i) (hi : i.blt vs.length = true) (hvs : vs.set i (.int (nar .char x)) = vs') (hd : decode c.code pc = .ok (.castore, 1))
    (K : ∀ T' h', Stand p l e R s m args below meth c T' (locs ++ [⟨a, i⟩]) cells slots → T'.heap = h' → Wr h h' a i (.int (nar .char x)) → AL Z h' a kc .char vs' → Go p.tables e below G (T'.setTop (mkF m (pc + 1) Ls rest))) : Go p.tables e below G (T.setTop (mkF m pc Ls (.int x :: .int j :: .ref a :: rest))) := by
  obtain ⟨cl, Ar, -, q2, -⟩ := A.arr
  have hi' : i < vs.length := by simpa [Nat.blt_eq] using hi
  refine castore X hx hZ eT Ar (inb q2 hj0 hj hi') hd ?_
  rw [hj]
  exact fun T' h' X' e' W => K T' h' X' e' W (A.set W vs' hvs)
theorem bastoreL (X : Stand p l e R s m args below meth c T locs cells slots) (hx : p.tables.exec = Jvm.exec) (hZ : Z.Warmed39 s.vm) (eT : T.heap = h) (A : AL Z h a kc .byte vs) {j x : Int32} (i : Nat) (vs' : List Value) (hj0 : ¬ j < 0) (hj : j.toNatClampNeg = i) (hi : i.blt vs.length = true) (hvs : vs.set i (.int (nar .byte x)) = vs') (hd : decode c.code pc = .ok (.bastore, 1))
    (K : ∀ T' h', Stand p l e R s m args below meth c T' (locs ++ [⟨a, i⟩]) cells slots → T'.heap = h' → Wr h h' a i (.int (nar .byte x)) → AL Z h' a kc .byte vs' → Go p.tables e below G (T'.setTop (mkF m (pc + 1) Ls rest))) : Go p.tables e below G (T.setTop (mkF m pc Ls (.int x :: .int j :: .ref a :: rest))) := by
  obtain ⟨cl, Ar, -, q2, -⟩ := A.arr
  have hi' : i < vs.length := by simpa [Nat.blt_eq] using hi
  refine bastore X hx hZ eT Ar (inb q2 hj0 hj hi') hd ?_
  rw [hj]
  exact fun T' h' X' e' W => K T' h' X' e' W (A.set W vs' hvs)
theorem zastoreL (X : Stand p l e R s m args below meth c T locs cells slots) (hx : p.tables.exec = Jvm.exec) (hZ : Z.Warmed39 s.vm) (eT : T.heap = h) (A : AL Z h a kc .boolean vs) {j x : Int32} (i : Nat) (vs' : List Value) (hj0 : ¬ j < 0) (hj : j.toNatClampNeg = i) (hi : i.blt vs.length = true) (hvs : vs.set i (.int (nar .boolean x)) = vs') (hd : decode c.code pc = .ok (.bastore, 1))
    (K : ∀ T' h', Stand p l e R s m args below meth c T' (locs ++ [⟨a, i⟩]) cells slots → T'.heap = h' → Wr h h' a i (.int (nar .boolean x)) → AL Z h' a kc .boolean vs' → Go p.tables e below G (T'.setTop (mkF m (pc + 1) Ls rest))) : Go p.tables e below G (T.setTop (mkF m pc Ls (.int x :: .int j :: .ref a :: rest))) := by
  obtain ⟨cl, Ar, -, q2, -⟩ := A.arr
  have hi' : i < vs.length := by simpa [Nat.blt_eq] using hi
  refine zastore X hx hZ eT Ar (inb q2 hj0 hj hi') hd ?_
  rw [hj]
  exact fun T' h' X' e' W => K T' h' X' e' W (A.set W vs' hvs)
theorem caloadL (X : Stand p l e R s m args below meth c T locs cells slots) (hx : p.tables.exec = Jvm.exec) (hZ : Z.Warmed39 s.vm) (eT : T.heap = h) (A : AL Z h a kc .char vs) {j : Int32} (i : Nat) (v : Value) (hj0 : ¬ j < 0) (hj : j.toNatClampNeg = i) (hv : vs[i]? = some v) (hd : decode c.code pc = .ok (.caload, 1)) (K : Go p.tables e below G (T.setTop (mkF m (pc + 1) Ls (v :: rest)))) : Go p.tables e below G (T.setTop (mkF m pc Ls (.int j :: .ref a :: rest))) := by
  obtain ⟨cl, Ar, -, q2, q3⟩ := A.arr
  exact caload X hx hZ eT v Ar (inb q2 hj0 hj (List.getElem?_eq_some_iff.mp hv).1) (by rw [hj, q3]; exact hv) hd K
theorem baloadL (X : Stand p l e R s m args below meth c T locs cells slots) (hx : p.tables.exec = Jvm.exec) (hZ : Z.Warmed39 s.vm) (eT : T.heap = h) (A : AL Z h a kc .byte vs) {j : Int32} (i : Nat) (v : Value) (hj0 : ¬ j < 0) (hj : j.toNatClampNeg = i) (hv : vs[i]? = some v) (hd : decode c.code pc = .ok (.baload, 1)) (K : Go p.tables e below G (T.setTop (mkF m (pc + 1) Ls (v :: rest)))) : Go p.tables e below G (T.setTop (mkF m pc Ls (.int j :: .ref a :: rest))) := by
  obtain ⟨cl, Ar, -, q2, q3⟩ := A.arr
  exact baload X hx hZ eT v Ar (inb q2 hj0 hj (List.getElem?_eq_some_iff.mp hv).1) (by rw [hj, q3]; exact hv) hd K
theorem zaloadL (X : Stand p l e R s m args below meth c T locs cells slots) (hx : p.tables.exec = Jvm.exec) (hZ : Z.Warmed39 s.vm) (eT : T.heap = h) (A : AL Z h a kc .boolean vs) {j : Int32} (i : Nat) (v : Value) (hj0 : ¬ j < 0) (hj : j.toNatClampNeg = i) (hv : vs[i]? = some v) (hd : decode c.code pc = .ok (.baload, 1)) (K : Go p.tables e below G (T.setTop (mkF m (pc + 1) Ls (v :: rest)))) : Go p.tables e below G (T.setTop (mkF m pc Ls (.int j :: .ref a :: rest))) := by
  obtain ⟨cl, Ar, -, q2, q3⟩ := A.arr
  exact zaload X hx hZ eT v Ar (inb q2 hj0 hj (List.getElem?_eq_some_iff.mp hv).1) (by rw [hj, q3]; exact hv) hd K
theorem aaloadL (X : Stand p l e R s m args below meth c T locs cells slots) (hx : p.tables.exec = Jvm.exec) (hZ : Z.Warmed39 s.vm) (eT : T.heap = h) {ty : FieldType} (A : AL Z h a kc ty vs) (hty : ty.isReference = true) {j : Int32} (i : Nat) (v : Value) (hj0 : ¬ j < 0) (hj : j.toNatClampNeg = i) (hv : vs[i]? = some v) (hd : decode c.code pc = .ok (.aaload, 1)) (K : Go p.tables e below G (T.setTop (mkF m (pc + 1) Ls (v :: rest)))) : Go p.tables e below G (T.setTop (mkF m pc Ls (.int j :: .ref a :: rest))) := by
  obtain ⟨cl, Ar, -, q2, q3⟩ := A.arr
  exact aaload X hx hZ eT v Ar hty (inb q2 hj0 hj (List.getElem?_eq_some_iff.mp hv).1) (by rw [hj, q3]; exact hv) hd K
theorem lengthL (X : Stand p l e R s m args below meth c T locs cells slots) (hx : p.tables.exec = Jvm.exec) (hZ : Z.Warmed39 s.vm) (eT : T.heap = h) {ty : FieldType} (A : AL Z h a kc ty vs) (N : Int32) (hN : vs.length.toInt32 = N) (hd : decode c.code pc = .ok (.arraylength, 1)) (K : Go p.tables e below G (T.setTop (mkF m (pc + 1) Ls (.int N :: rest)))) : Go p.tables e below G (T.setTop (mkF m pc Ls (.ref a :: rest))) := by
  obtain ⟨cl, Ar, -, q2, -⟩ := A.arr
  exact arraylength X hx hZ eT N Ar (by rw [q2]; exact hN) hd K
/-- a place where roads meet with an int on the stack: first what lies behind it, then the roads -/
theorem joinI (X : Stand p l e R s m args below meth c T locs cells slots) (eT : T.heap = h) (P : Int32 → Prop) (pcJ : Nat) {st : List Value}
    (J : ∀ v T', Stand p l e R s m args below meth c T' locs cells slots → T'.heap = h → P v → Go p.tables e below G (T'.setTop (mkF m pcJ Ls (.int v :: st))))
    (K : (∀ v T', Stand p l e R s m args below meth c T' locs cells slots → T'.heap = h → P v → Go p.tables e below G (T'.setTop (mkF m pcJ Ls (.int v :: st)))) → Go p.tables e below G (T.setTop (mkF m pc Ls st))) : Go p.tables e below G (T.setTop (mkF m pc Ls st)) := K J
/-- .. with other locals and nothing new on the stack -/
theorem join0 (X : Stand p l e R s m args below meth c T locs cells slots) (eT : T.heap = h) (P : Array Slot → Prop) (pcJ : Nat) {st : List Value}
    (J : ∀ L2 T', Stand p l e R s m args below meth c T' locs cells slots → T'.heap = h → P L2 → Go p.tables e below G (T'.setTop (mkF m pcJ L2 st)))
    (K : (∀ L2 T', Stand p l e R s m args below meth c T' locs cells slots → T'.heap = h → P L2 → Go p.tables e below G (T'.setTop (mkF m pcJ L2 st))) → Go p.tables e below G (T.setTop (mkF m pc Ls st))) : Go p.tables e below G (T.setTop (mkF m pc Ls st)) := K J
end ALsteps
end Jvm.Ow
namespace Jvm.Ow
open Sem ClassFile Op Lib Jvm.Stand Jvm.Free Jvm.LawKit Jvm.RoadKit
/-- what a walk that may load literals bears besides its Stand over (s.setVm vm0): s is the method's start, h the heap at hand -/
def Wd (s Z : State) (EL : List (String × Nat)) (vm0 : Vm) (h : Heap) : Prop := (∃ k0, s.Since vm0 k0 ∧ k0 ≤ h.size) ∧ Z.Warmed39 vm0 ∧ CHr Z EL s.vm s.heap vm0 h
section Wides
variable {s Z : State} {EL : List (String × Nat)} {vm0 vm1 : Vm} {h h' : Heap}
theorem Wd.hZ (D : Wd s Z EL vm0 h) : Z.Warmed39 vm0 := D.2.1
theorem Wd.ch (D : Wd s Z EL vm0 h) : CHv Z EL vm0 h := D.2.2.1
theorem Wd.start (hZ : Z.Warmed39 s.vm) (H : CHv Z EL s.vm s.heap) : Wd s Z EL s.vm s.heap := ⟨⟨_, (State.WarmedH.refl s).since s.heap.size, Nat.le_refl _⟩, hZ, CHr.refl H⟩
theorem Wd.to (D : Wd s Z EL vm0 h) (C : CHr Z EL vm0 h vm0 h') : Wd s Z EL vm0 h' := by
  obtain ⟨⟨k0, h1, h2⟩, h3, h4⟩ := D
  exact ⟨⟨k0, h1, Nat.le_trans h2 C.2.1⟩, h3, h4.trans C⟩
theorem Wd.ext (D : Wd s Z EL vm0 h) (E : Ext h h') : Wd s Z EL vm0 h' := D.to (CHr.ext E D.ch)
theorem Wd.wr (D : Wd s Z EL vm0 h) {a : Addr} {sl : Nat} {v : Value} (W : Wr h h' a sl v) (S : Safe Z EL vm0 h a) : Wd s Z EL vm0 h' := D.to (CHr.wr W S D.ch)
theorem Wd.keep (D : Wd s Z EL vm0 h) {ws : List Addr} (K : Keep h h' ws) (S : ∀ x ∈ ws, Safe Z EL vm0 h x) : Wd s Z EL vm0 h' := D.to (CHr.keep K S D.ch)
theorem Wd.safeExt (D : Wd s Z EL vm0 h) (E : Ext h h') {x : Addr} (S : Safe Z EL vm0 h x) : Safe Z EL vm0 h' x := S.ext E D.ch
theorem Wd.safeNew (D : Wd s Z EL vm0 h) (E : Ext h h') : Safe Z EL vm0 h' h.size := (Safe.new (Nat.le_refl _)).ext E D.ch
theorem Wd.safeWr (D : Wd s Z EL vm0 h) {a : Addr} {sl : Nat} {v : Value} (W : Wr h h' a sl v) (S : Safe Z EL vm0 h a) {x : Addr} (Sx : Safe Z EL vm0 h x) : Safe Z EL vm0 h' x := Safe.wr W S D.ch Sx
theorem Wd.safeKeep (D : Wd s Z EL vm0 h) {ws : List Addr} (K : Keep h h' ws) (S : ∀ x ∈ ws, Safe Z EL vm0 h x) {x : Addr} (Sx : Safe Z EL vm0 h x) : Safe Z EL vm0 h' x := Sx.keep K S D.ch
/-- what a wide contract says of its end -/
abbrev EndW (Z : State) (EL : List (String × Nat)) (s : State) (Q : Option Value → Heap → List Loc → Prop) (k n : Nat) : Outcome → State → Prop := fun o t => ∃ v L, o = .returned v ∧ Q v t.heap L ∧ CHr Z EL s.vm s.heap t.vm t.heap ∧ ReturnedEndW s o t L k n
variable {p : Program} {l : Launch} {e : Env} {R : Room} {m : MethodId} {args : Array Value} {below : List Frame} {meth : Method} {c : Code} {T : State} {locs : List Loc} {cells slots : Nat} {pc pc' : Nat} {Ls : Array Slot} {rest : List Value} {Q : Option Value → Heap → List Loc → Prop} {k n : Nat} {a0 : Array Value}
theorem sbn_mono {s t : State} {o : Outcome} {L : List Loc} {k n k' n' : Nat} (h : ReturnedEndW s o t L k n) (hk : k ≤ k') (hn : n ≤ n') : ReturnedEndW s o t L k' n' := ⟨h.1, h.2.1, h.2.2.1, h.2.2.2.mono hk hn⟩
theorem fin_ofW (X : Stand p l e R (s.setVm vm0) m args below meth c T locs cells slots) (eT : T.heap = h) (D : Wd s Z EL vm0 h) (hEL : EW Z a0 EL) (hlk : meth.locks = false) {v : Option Value} (hv : meth.sig.returnType = none → v = none) {g : JFrame} (st : ∀ fs, (∀ (f : JFrame) (acts : List Action), f.method = m → f.locked = none → f.entered = [] → (doReturn e (T.setTop f) acts v).1 = T.setFrames fs) → Steps p.tables e below (T.setTop g) (T.setFrames fs)) (hQ : Q v T.heap locs) (hk : cells ≤ k) (hn : slots ≤ n) : Go p.tables e below (EndW Z EL s Q k n) (T.setTop g) := by
  subst eT
  obtain ⟨⟨k0, hS, hk0⟩, hZ, C⟩ := D
  have A : CHr Z EL s.vm s.heap T.vm T.heap := C.trans (CHv.at X hZ hEL C.1)
  obtain ⟨fs, hr, hrun, hended, hE⟩ := X.leaveW hS hk0 (v := v) hv hlk
  exact ⟨_, _, st fs hr, hrun, hended, _, _, rfl, hQ, A, sbn_mono hE hk hn⟩
theorem ireturnW (X : Stand p l e R (s.setVm vm0) m args below meth c T locs cells slots) (hx : p.tables.exec = Jvm.exec) (eT : T.heap = h) (D : Wd s Z EL vm0 h) (hEL : EW Z a0 EL) (hlk : meth.locks = false) {z : Int32} (hret : meth.sig.returnType = some .int) (hd : decode c.code pc = .ok (.ireturn, 1)) (hQ : Q (some (.int z)) T.heap locs) (hk : cells ≤ k) (hn : slots ≤ n) : Go p.tables e below (EndW Z EL s Q k n) (T.setTop (mkF m pc Ls (.int z :: rest))) :=
  fin_ofW X eT D hEL hlk (v := some (.int z)) (fun h => by rw [hret] at h; cases h) (fun fs hr => retOut X hx hret rfl (Or.inl ⟨rfl, Or.inl rfl, z, rfl⟩) hd hr) hQ hk hn
theorem nreturnW (X : Stand p l e R (s.setVm vm0) m args below meth c T locs cells slots) (hx : p.tables.exec = Jvm.exec) (eT : T.heap = h) (D : Wd s Z EL vm0 h) (hEL : EW Z a0 EL) (hlk : meth.locks = false) {z : Int32} {t : FieldType} (hret : meth.sig.returnType = some t) (ht : t = .boolean ∨ t = .byte ∨ t = .char ∨ t = .short) (hd : decode c.code pc = .ok (.ireturn, 1)) (hQ : Q (some (.int (nar t z))) T.heap locs) (hk : cells ≤ k) (hn : slots ≤ n) : Go p.tables e below (EndW Z EL s Q k n) (T.setTop (mkF m pc Ls (.int z :: rest))) :=
  fin_ofW X eT D hEL hlk (v := some (.int (nar t z))) (fun h => by rw [hret] at h; cases h) (fun fs hr => retN X hx hret ht hd hr) hQ hk hn
theorem areturnW (X : Stand p l e R (s.setVm vm0) m args below meth c T locs cells slots) (hx : p.tables.exec = Jvm.exec) (eT : T.heap = h) (D : Wd s Z EL vm0 h) (hEL : EW Z a0 EL) (hlk : meth.locks = false) {w : Value} {t : FieldType} (hret : meth.sig.returnType = some t) (ht : t.isReference = true) (hw : w.isRef = true) (hna : narrow t w = w) (hd : decode c.code pc = .ok (.areturn, 1)) (hQ : Q (some w) T.heap locs) (hk : cells ≤ k) (hn : slots ≤ n) : Go p.tables e below (EndW Z EL s Q k n) (T.setTop (mkF m pc Ls (w :: rest))) :=
  fin_ofW X eT D hEL hlk (v := some w) (fun h => by rw [hret] at h; cases h) (fun fs hr => retOut X hx hret hna (Or.inr (Or.inr (Or.inr (Or.inr ⟨rfl, ht, hw⟩)))) hd hr) hQ hk hn
theorem vreturnW (X : Stand p l e R (s.setVm vm0) m args below meth c T locs cells slots) (hx : p.tables.exec = Jvm.exec) (eT : T.heap = h) (D : Wd s Z EL vm0 h) (hEL : EW Z a0 EL) (hlk : meth.locks = false) (hret : meth.sig.returnType = none) (hd : decode c.code pc = .ok (.return_, 1)) (hQ : Q none T.heap locs) (hk : cells ≤ k) (hn : slots ≤ n) : Go p.tables e below (EndW Z EL s Q k n) (T.setTop (mkF m pc Ls [])) :=
  fin_ofW X eT D hEL hlk (v := none) (fun _ => rfl) (fun fs hr => X.returnOut hx hret hd hr) hQ hk hn
/-- ldc of a literal whose text is held -/
theorem ldcS {G : Outcome → State → Prop} (X : Stand p l e R (s.setVm vm0) m args below meth c T locs cells slots) (hx : p.tables.exec = Jvm.exec) (eT : T.heap = h) (D : Wd s Z EL vm0 h) (hEL : EW Z a0 EL) {own text : String} {index : Nat} (hown : vm0.findClass own = some m.cls) (w : (Cond.stringLink own index text).before a0 Z = true) (wS : ∀ a ∈ Bundle.stringAtoms, a.before a0 Z = true) (hmem : (own, index) ∈ EL)
    {vs : List Value} {z : Int32} (ht : (∀ c ∈ text.toList, c.toNat < 256) ∧ text.toList.map (fun c => Value.int (Jvm.Lit.byteI c.toNat.toUInt16)) = vs) (hz : ¬ z < 0) (hl : z.toNatClampNeg = vs.length) (hd : decode c.code pc = .ok (.ldc index, 2)) (n : Nat) (hn : 4 * text.toList.length ≤ n) (hbig : n ≤ 536870912) (hc : cells + 2 ≤ R.cells) (hl' : slots + (n + 4) ≤ R.slots)
    (K : ∀ (vm1 : Vm) (a : Addr) (T' : State) (h' : Heap) (b : Addr) (kc : ClassId), Stand p l e R (s.setVm vm1) m args below meth c T' locs (cells + 2) (slots + (n + 4)) → T'.heap = h' → Ext h h' → Wd s Z EL vm1 h' → vm1.findClass own = some m.cls → CHr Z EL vm0 h vm1 h' →
      Exa Z h' a "java/lang/String" → Fld Z h' a "java/lang/String" "coder" "B" (.int 0) → Fld Z h' a "java/lang/String" "value" "[B" (.ref b) → Arv Z h' b kc .byte z vs (.int 0) → (∀ x, Safe Z EL vm1 h' x → x ≠ a ∧ x ≠ b) → Go p.tables e below G (T'.setTop (mkF m (pc + 2) Ls (.ref a :: rest)))) : Go p.tables e below G (T.setTop (mkF m pc Ls rest)) := by
  obtain ⟨⟨k0, hS, hk0⟩, hZ, C⟩ := D
  obtain ⟨a, T', h', k1, b, kc, X', e', E, hS', hk1, hW, hf, A, F1, F2, V, -, -, C', -, hne, st⟩ := ldcCH X hx hZ hown w wS eT hS hk0 hEL hmem C.1 ht hz hl (g := mkF m pc Ls rest) rfl hd hn hbig hc hl'
  exact (K T'.vm a T' h' b kc X' e' E ⟨⟨k1, hS', hk1⟩, hW, C.trans C'⟩ hf C' A F1 F2 V hne).via st
/-- ldc of any literal, its text unread -/
theorem ldcO {G : Outcome → State → Prop} (X : Stand p l e R (s.setVm vm0) m args below meth c T locs cells slots) (hx : p.tables.exec = Jvm.exec) (eT : T.heap = h) (D : Wd s Z EL vm0 h) (hEL : EW Z a0 EL) {own text : String} {index : Nat} (hown : vm0.findClass own = some m.cls) (w : (Cond.stringLink own index text).before a0 Z = true) (wS : ∀ a ∈ Bundle.stringAtoms, a.before a0 Z = true)
    (hd : decode c.code pc = .ok (.ldc index, 2)) (n : Nat) (hn : 4 * text.toList.length ≤ n) (hbig : n ≤ 536870912) (hc : cells + 2 ≤ R.cells) (hl' : slots + (n + 4) ≤ R.slots)
    (K : ∀ (vm1 : Vm) (a : Addr) (T' : State) (h' : Heap), Stand p l e R (s.setVm vm1) m args below meth c T' locs (cells + 2) (slots + (n + 4)) → T'.heap = h' → Ext h h' → Wd s Z EL vm1 h' → vm1.findClass own = some m.cls → CHr Z EL vm0 h vm1 h' → Go p.tables e below G (T'.setTop (mkF m (pc + 2) Ls (.ref a :: rest)))) : Go p.tables e below G (T.setTop (mkF m pc Ls rest)) := by
  obtain ⟨⟨k0, hS, hk0⟩, hZ, C⟩ := D
  obtain ⟨a, T', h', k1, X', e', E, hS', hk1, hW, hf, C', -, st⟩ := ldcOH X hx hZ hown w wS eT hS hk0 hEL C.1 (g := mkF m pc Ls rest) rfl hd hn hbig hc hl'
  exact (K T'.vm a T' h' X' e' E ⟨⟨k1, hS', hk1⟩, hW, C.trans C'⟩ hf C').via st
end Wides
section PaysW
/-- a wide contract; the cells sf are none of a booked literal's -/
def PayW (l : Launch) (Z : State) (EL : List (String × Nat)) (sf : List Addr) (y : MethodName) (bytes : ByteArray) (maxL : Nat) (ret : Option FieldType) (rm : Room) (as' : Array Value) (h0 : Heap) (Q : Option Value → Heap → List Loc → Prop) : Prop :=
  ∀ ws : List Jvm.Cond, MetFree l y (head1 (Jvm.Cond.code y bytes maxL ret :: ws) rm) (fun a U => a = as' ∧ Z.Warmed39 U.vm ∧ U.heap = h0 ∧ CHv Z EL U.vm h0 ∧ ∀ x ∈ sf, Safe Z EL U.vm h0 x) (fun _ _ _ _ _ => True) (fun _ U o U' => ∃ v L, o = .returned v ∧ Q v U'.heap L ∧ CHr Z EL U.vm U.heap U'.vm U'.heap ∧ ReturnedEndW U o U' L rm.cells rm.slots)
variable {l : Launch} {Z : State} {EL : List (String × Nat)} {sf : List Addr} {y : MethodName} {bytes : ByteArray} {maxL : Nat} {ret : Option FieldType} {rm : Room} {as' : Array Value} {h0 : Heap} {Q : Option Value → Heap → List Loc → Prop}
theorem PayW.of {Ls : Array Slot} (hpn : plainFor y = true) (hef : ∀ m, entryFrame m as' maxL = mkF m 0 Ls [])
    (body : ∀ (p : Program) (e : Env) (s : State) (m : MethodId) (below : List Frame) (meth : Method) (c : Code) (T : State) (vm0 : Vm), p.tables.exec = Jvm.exec → c.code = bytes → c.maxLocals = maxL → vm0.findClass y.cls = some m.cls → s.methodNamed? y = some m → s.vm.method? m = some meth → meth.sig.returnType = ret → meth.locks = false → Stand p l e rm (s.setVm vm0) m as' below meth c T [] 0 0 → T.heap = h0 → Wd s Z EL vm0 h0 → (∀ x ∈ sf, Safe Z EL vm0 h0 x) →
      Go p.tables e below (EndW Z EL s Q rm.cells rm.slots) (T.setTop (mkF m 0 Ls []))) : PayW l Z EL sf y bytes maxL ret rm as' h0 Q := by
  intro ws
  refine MetFree.of_bodySF hpn hisR ?_
  intro p e s m args below meth c s₁ Bd hml0 hP hK
  obtain ⟨rfl, hZ, hh, H, hsf⟩ := hP
  rw [hef m]
  subst hh
  exact body p e s m below meth c s₁ s.vm Bd.exec Bd.bytes hml0 (findClass_of_methodNamed Bd.named) Bd.named Bd.method Bd.returns Bd.notSynchronized (Stand.of_body Bd) (by rw [Bd.state]; rfl) (Wd.start hZ H) hsf
variable {p : Program} {e : Env} {R : Room} {s : State} {vm0 : Vm} {m : MethodId} {args : Array Value} {below : List Frame} {meth : Method} {c : Code} {T : State} {locs : List Loc} {cells slots : Nat} {G : Outcome → State → Prop} {pc : Nat} {Ls : Array Slot} {a0 : Array Value}
/-- its payer -/
theorem backW {len W : Nat} (hP : PayW l Z EL sf y bytes maxL ret rm as' h0 Q) (hZ : Z.Warmed39 vm0) (wc : (Cond.code y bytes maxL ret).before a0 Z = true) (wz : (Cond.initialized y.cls).before a0 Z = true) (hf : rm.frames + 1 ≤ R.frames) (hl : W + (maxL + 11) + rm.locals ≤ R.locals) (hEL : EW Z a0 EL) (H : CHv Z EL vm0 h0) (hsf : ∀ x ∈ sf, x < h0.size ∧ Safe Z EL vm0 h0 x) :
    BackS l R p e below (s.setVm vm0) args y len W (fun A a => a = as' ∧ A.U.heap = h0 ∧ A.cells + rm.cells ≤ R.cells ∧ A.slots + rm.slots ≤ R.slots)
      (fun A _ v B => ∃ L, Q v B.U.heap L ∧ B.locs = A.locs ++ L ∧ B.cells = A.cells + rm.cells ∧ B.slots = A.slots + rm.slots ∧ CHr Z EL vm0 h0 B.U.vm B.U.heap) := by
  have at' : ∀ (m : MethodId) (meth : Method) (c : Code) (A : Pt), Stand p l e R (s.setVm vm0) m args below meth c A.U A.locs A.cells A.slots → Z.Warmed39 A.U.vm ∧ CHr Z EL vm0 h0 A.U.vm h0 := fun m meth c A Y => ⟨wtrans (s := s.setVm vm0) hZ Y.warmed, CHv.at Y hZ hEL H⟩
  refine BackS.of_freeW (bytes := bytes) (maxL := maxL) (ret := ret) (E := fun _ first o t L k n => k = rm.cells ∧ n = rm.slots ∧ (∃ v, o = .returned v ∧ Q v t.heap L) ∧ CHr Z EL first.vm first.heap t.vm t.heap) (hP []) hf hl ?_ ?_ (fun _ _ _ _ _ _ _ _ _ => trivial) ?_ ?_
  · intro m meth c A a Y hp
    have hU := (at' m meth c A Y).1
    refine ⟨?_, mv hU wc, mv hU wz, hp.2.2.1, hp.2.2.2⟩
    show (Cond.and _ .tt).before a A.U = true
    rw [Cond.before_and, mv hU wc]; rfl
  · intro m meth c A a g mk Y hp
    obtain ⟨hU, hC⟩ := at' m meth c A Y
    exact ⟨hp.1, hU, hp.2.1, hC.1, fun x hx => hC.safe (hsf x hx).1 (hsf x hx).2⟩
  · rintro _ _ _ _ ⟨v, L, h1, h2, h3, h4⟩
    exact ⟨L, _, _, h4, rfl, rfl, ⟨v, h1, h2⟩, h3⟩
  · rintro m meth c A a g mk v t L k n Y hp _ _ ⟨e1, e2, ⟨v', e3, e4⟩, e5⟩
    cases e3; subst e1 e2
    refine ⟨L, e4, rfl, rfl, rfl, (at' m meth c A Y).2.trans ?_⟩
    rw [← hp.2.1]; exact e5
/-- invokestatic by a wide contract -/
theorem callSW (X : Stand p l e R (s.setVm vm0) m args below meth c T locs cells slots) (hx : p.tables.exec = Jvm.exec) (hP : PayW l Z EL sf y bytes maxL ret rm as' h0 Q) (eT : T.heap = h0) (D : Wd s Z EL vm0 h0) (hEL : EW Z a0 EL) (hsf : ∀ x ∈ sf, x < h0.size ∧ Safe Z EL vm0 h0 x) {own : String} {index : Nat} (hown : vm0.findClass own = some m.cls)
    (wl : (Cond.methodLink own index y).before a0 Z = true) (wst : (Cond.static y).before a0 Z = true) (wz : (Cond.initialized y.cls).before a0 Z = true) (wc : (Cond.code y bytes maxL ret).before a0 Z = true)
    (hy : y.cls ≠ "java/lang/invoke/MethodHandle" ∧ y.cls ≠ "java/lang/invoke/VarHandle") {ps : List FieldType} {rt : Option FieldType} (hpd : parseMethodDescriptor y.desc = some ⟨ps, rt⟩) (hsz : Ls.size = c.maxLocals)
    {argsL rest st : List Value} (has : argsL.toArray = as') (hlen : argsL.length = ps.length) (hst : st = argsL.reverse ++ rest) (hd : decode c.code pc = .ok (.invokestatic index, 3))
    (hf : (rm.frames + 1).ble R.frames = true) (hlo : ((rest.map fun v => v.category).sum + (maxL + 11) + rm.locals).ble R.locals = true) (hce : cells + rm.cells ≤ R.cells) (hsl : slots + rm.slots ≤ R.slots)
    (K : ∀ (v : Option Value) (vm1 : Vm) (T' : State) (L : List Loc), Stand p l e R (s.setVm vm1) m args below meth c T' (locs ++ L) (cells + rm.cells) (slots + rm.slots) → Q v T'.heap L → Wd s Z EL vm1 T'.heap → vm1.findClass own = some m.cls → CHr Z EL vm0 h0 vm1 T'.heap → Go p.tables e below G (T'.setTop (mkF m (pc + 3) Ls (v.toList ++ rest)))) :
    Go p.tables e below G (T.setTop (mkF m pc Ls st)) := by
  have hy' := hy
  obtain ⟨⟨k0, hS, hk0⟩, hZ, C⟩ := D
  have hZ' : Z.Warmed39 (s.setVm vm0).vm := hZ
  have hown' : (s.setVm vm0).vm.findClass own = some m.cls := hown
  obtain ⟨_, _, ⟨T1, L1, k1, n1⟩, -, X1, S1, g1, ⟨Lc, hQ, l1, y1, z1, C1⟩, st1⟩ := callSS X hx (y := y) hown' (mvT hZ' wl) (mvT hZ' wst) (mvT hZ' wz) (mvT hZ' wc) hy' (backW (W := (rest.map fun v => v.category).sum) hP hZ wc wz (Nat.le_of_ble_eq_true hf) (Nat.le_of_ble_eq_true hlo) hEL C.1 hsf) (g := mkF m pc Ls st) rfl hsz (argsL := argsL) (rest := rest) (lenOf hpd hlen) hst (by show 2 * 0 + _ ≤ _; omega) hd (fun _ _ => ⟨has, eT, hce, hsl⟩)
  dsimp only [Pt.U, Pt.locs, Pt.cells, Pt.slots] at X1 l1 y1 z1 st1 hQ S1 g1 C1
  subst l1 y1 z1
  obtain ⟨X2, S2, Z2, O2⟩ := rebS hS (by rw [← eT] at hk0; exact hk0) X1 S1 g1 hZ' hown'
  exact (K _ T1.vm _ _ X2 hQ ⟨⟨_, S2, Nat.le_refl _⟩, Z2, C.trans C1⟩ O2 C1).thru st1
/-- invokespecial of a constructor by a wide contract -/
theorem callIW (X : Stand p l e R (s.setVm vm0) m args below meth c T locs cells slots) (hx : p.tables.exec = Jvm.exec) (hP : PayW l Z EL sf y bytes maxL none rm as' h0 Q) (eT : T.heap = h0) (D : Wd s Z EL vm0 h0) (hEL : EW Z a0 EL) (hsf : ∀ x ∈ sf, x < h0.size ∧ Safe Z EL vm0 h0 x) (hni : y.name = "<init>") {own : String} {index : Nat} (hown : vm0.findClass own = some m.cls)
    (wl : (Cond.methodLink own index y).before a0 Z = true) (win : (Cond.instanceMethod y).before a0 Z = true) (wz : (Cond.initialized y.cls).before a0 Z = true) (wc : (Cond.code y bytes maxL none).before a0 Z = true)
    (hy : y.cls ≠ "java/lang/invoke/MethodHandle" ∧ y.cls ≠ "java/lang/invoke/VarHandle") {ps : List FieldType} {rt : Option FieldType} (hpd : parseMethodDescriptor y.desc = some ⟨ps, rt⟩) (hsz : Ls.size = c.maxLocals)
    {a : Addr} {argsL rest st : List Value} (has : (.ref a :: argsL).toArray = as') (hlen : argsL.length = ps.length) (hst : st = argsL.reverse ++ .ref a :: rest) (hd : decode c.code pc = .ok (.invokespecial index, 3))
    (hf : (rm.frames + 1).ble R.frames = true) (hlo : ((rest.map fun v => v.category).sum + (maxL + 11) + rm.locals).ble R.locals = true) (hce : cells + rm.cells ≤ R.cells) (hsl : slots + rm.slots ≤ R.slots)
    (K : ∀ (v : Option Value) (vm1 : Vm) (T' : State) (L : List Loc), Stand p l e R (s.setVm vm1) m args below meth c T' (locs ++ L) (cells + rm.cells) (slots + rm.slots) → Q v T'.heap L → Wd s Z EL vm1 T'.heap → vm1.findClass own = some m.cls → CHr Z EL vm0 h0 vm1 T'.heap → Go p.tables e below G (T'.setTop (mkF m (pc + 3) Ls (v.toList ++ rest)))) :
    Go p.tables e below G (T.setTop (mkF m pc Ls st)) := by
  have hy' := hy
  obtain ⟨⟨k0, hS, hk0⟩, hZ, C⟩ := D
  have hZ' : Z.Warmed39 (s.setVm vm0).vm := hZ
  have hown' : (s.setVm vm0).vm.findClass own = some m.cls := hown
  obtain ⟨_, _, ⟨T1, L1, k1, n1⟩, -, X1, S1, g1, ⟨Lc, hQ, l1, y1, z1, C1⟩, st1⟩ := X.specialBackS hx (y := y) hni hown' (mvT hZ' wl) (mvT hZ' win) (mvT hZ' wc) hy' (backW (W := (rest.map fun v => v.category).sum) hP hZ wc wz (Nat.le_of_ble_eq_true hf) (Nat.le_of_ble_eq_true hlo) hEL C.1 hsf) (g := mkF m pc Ls st) rfl hsz (Steps.refl _) (a := a) (argsL := argsL) (rest := rest) (lenOf hpd hlen) hst (by show 2 * 0 + _ ≤ _; omega) hd (fun _ _ => ⟨has, eT, hce, hsl⟩)
  dsimp only [Pt.U, Pt.locs, Pt.cells, Pt.slots] at X1 l1 y1 z1 st1 hQ S1 g1 C1
  subst l1 y1 z1
  obtain ⟨X2, S2, Z2, O2⟩ := rebS hS (by rw [← eT] at hk0; exact hk0) X1 S1 g1 hZ' hown'
  exact (K _ T1.vm _ _ X2 hQ ⟨⟨_, S2, Nat.le_refl _⟩, Z2, C.trans C1⟩ O2 C1).thru st1
/-- invokevirtual by a wide contract -/
theorem callVW (X : Stand p l e R (s.setVm vm0) m args below meth c T locs cells slots) (hx : p.tables.exec = Jvm.exec) (hP : PayW l Z EL sf y bytes maxL ret rm as' h0 Q) (eT : T.heap = h0) (D : Wd s Z EL vm0 h0) (hEL : EW Z a0 EL) (hsf : ∀ x ∈ sf, x < h0.size ∧ Safe Z EL vm0 h0 x) {C : String} {own : String} {index : Nat} (hown : vm0.findClass own = some m.cls)
    (wl : (Cond.methodLink own index y).before a0 Z = true) (wd : (Cond.declares y).before a0 Z = true) (wse : (Cond.selects C y y).before a0 Z = true) (win : (Cond.instanceMethod y).before a0 Z = true) (wz : (Cond.initialized y.cls).before a0 Z = true) (wc : (Cond.code y bytes maxL ret).before a0 Z = true)
    (hy : y.cls ≠ "java/lang/invoke/MethodHandle" ∧ y.cls ≠ "java/lang/invoke/VarHandle") {ps : List FieldType} {rt : Option FieldType} (hpd : parseMethodDescriptor y.desc = some ⟨ps, rt⟩) (hsz : Ls.size = c.maxLocals)
    {a : Addr} (E : Exa Z h0 a C) {argsL rest st : List Value} (has : (.ref a :: argsL).toArray = as') (hlen : argsL.length = ps.length) (hst : st = argsL.reverse ++ .ref a :: rest) (hd : decode c.code pc = .ok (.invokevirtual index, 3))
    (hf : (rm.frames + 1).ble R.frames = true) (hlo : ((rest.map fun v => v.category).sum + (maxL + 11) + rm.locals).ble R.locals = true) (hce : cells + rm.cells ≤ R.cells) (hsl : slots + rm.slots ≤ R.slots)
    (K : ∀ (v : Option Value) (vm1 : Vm) (T' : State) (L : List Loc), Stand p l e R (s.setVm vm1) m args below meth c T' (locs ++ L) (cells + rm.cells) (slots + rm.slots) → Q v T'.heap L → Wd s Z EL vm1 T'.heap → vm1.findClass own = some m.cls → CHr Z EL vm0 h0 vm1 T'.heap → Go p.tables e below G (T'.setTop (mkF m (pc + 3) Ls (v.toList ++ rest)))) :
    Go p.tables e below G (T.setTop (mkF m pc Ls st)) := by
  have hy' := hy
  obtain ⟨⟨k0, hS, hk0⟩, hZ, C2⟩ := D
  have hZ' : Z.Warmed39 (s.setVm vm0).vm := hZ
  have hown' : (s.setVm vm0).vm.findClass own = some m.cls := hown
  obtain ⟨cq, kq, qa, qb, qc⟩ := isOf hZ' eT E
  obtain ⟨_, _, ⟨T1, L1, k1, n1⟩, -, X1, S1, g1, ⟨Lc, hQ, l1, y1, z1, C1⟩, st1⟩ := X.virtualBackS hx (y := y) (z := y) hown' (mvT hZ' wl) (mvT hZ' wd) (notFace_of_selects (args := #[]) (mvT hZ' wse)) (mvT hZ' wse) (mvT hZ' win) hy' (backW (W := (rest.map fun v => v.category).sum) hP hZ wc wz (Nat.le_of_ble_eq_true hf) (Nat.le_of_ble_eq_true hlo) hEL C2.1 hsf) qa qc (g := mkF m pc Ls st) rfl hsz (Steps.refl _) (argsL := argsL) (rest := rest) (lenOf hpd hlen) hst (by show 2 * 0 + _ ≤ _; omega) hd (fun _ _ => ⟨has, eT, hce, hsl⟩)
  dsimp only [Pt.U, Pt.locs, Pt.cells, Pt.slots] at X1 l1 y1 z1 st1 hQ S1 g1 C1
  subst l1 y1 z1
  obtain ⟨X2, S2, Z2, O2⟩ := rebS hS (by rw [← eT] at hk0; exact hk0) X1 S1 g1 hZ' hown'
  exact (K _ T1.vm _ _ X2 hQ ⟨⟨_, S2, Nat.le_refl _⟩, Z2, C2.trans C1⟩ O2 C1).thru st1
end PaysW
end Jvm.Ow
namespace Jvm.Ow
open Sem ClassFile Op Lib Jvm.Stand Jvm.Free Jvm.LawKit Jvm.RoadKit
/-- a compact String at x, its bytes bs at t -/
def Str (Z : State) (h : Heap) (x t : Addr) (kb : ClassId) (bs : List Int32) : Prop := Exa Z h x "java/lang/String" ∧ Fld Z h x "java/lang/String" "coder" "B" (.int 0) ∧ Fld Z h x "java/lang/String" "value" "[B" (.ref t) ∧ AL Z h t kb .byte (bs.map Value.int)
section Strs
variable {Z : State} {h h' : Heap} {x t : Addr} {kb : ClassId} {bs : List Int32} {ws : List Addr}
theorem Str.ext (S : Str Z h x t kb bs) (E : Ext h h') : Str Z h' x t kb bs := ⟨S.1.ext E, S.2.1.ext E, S.2.2.1.ext E, S.2.2.2.ext E⟩
theorem Str.keep (S : Str Z h x t kb bs) (K : Keep h h' ws) (q1 : x ∉ ws) (q2 : t ∉ ws) : Str Z h' x t kb bs := ⟨S.1.keep K, S.2.1.keep K q1, S.2.2.1.keep K q1, S.2.2.2.keep K q2⟩
theorem Str.lt (S : Str Z h x t kb bs) : x < h.size := S.1.lt
theorem Str.ltB (S : Str Z h x t kb bs) : t < h.size := S.2.2.2.lt
theorem shr0 (c : Int32) : c >>> ((0 : Int32) &&& 31) = c := by
  have h : ((0 : Int32) &&& 31) = 0 := by decide
  rw [h]
  apply Int32.toBitVec_inj.mp
  simp
theorem n_cl {n : Nat} (hn : n < 2147483648) : (Int32.ofNat n).toNatClampNeg = n := by
  rw [Int32.toNatClampNeg, Int32.toInt_ofNat_of_lt hn]; rfl
theorem n_nn {n : Nat} (hn : n < 2147483648) : ¬ Int32.ofNat n < 0 := by
  rw [Int32.lt_iff_toInt_lt, Int32.toInt_ofNat_of_lt hn, show (0 : Int32).toInt = 0 from rfl]; omega
theorem n_lt {i n : Nat} (hi : i < 2147483648) (hn : n < 2147483648) : Int32.ofNat i < Int32.ofNat n ↔ i < n := by
  rw [Int32.lt_iff_toInt_lt, Int32.toInt_ofNat_of_lt hi, Int32.toInt_ofNat_of_lt hn]; omega
theorem n_one (i : Nat) : Int32.ofNat i + (1 : Int32) = Int32.ofNat (i + 1) := (Int32.ofNat_add i 1).symm
theorem n_eq {i n : Nat} (hi : i < 2147483648) (hn : n < 2147483648) : Int32.ofNat i = Int32.ofNat n ↔ i = n := by
  refine ⟨fun h => ?_, fun h => by rw [h]⟩
  have := congrArg Int32.toNatClampNeg h
  rwa [n_cl hi, n_cl hn] at this
end Strs
end Jvm.Ow
namespace Jvm.Ow
open Sem ClassFile Op Lib Jvm.Stand Jvm.Free Jvm.LawKit Jvm.RoadKit
theorem staKeep {Z : State} {h h' : Heap} {C n d : String} {v : Value} {ws : List Addr} (S : Sta Z h C n d v) (K : Keep h h' ws) (q : ∀ x ∈ ws, ∃ c : Cell, h[x]? = some c ∧ c.vm.isStatics = false) : Sta Z h' C n d v := by
  obtain ⟨cf, i, k, f, st, cell, h1, h2, h3, h4, h5, h6, h7⟩ := S
  refine ⟨cf, i, k, f, st, cell, h1, h2, h3, h4, K.2.1 st cell h5 fun hm => ?_, h6, h7⟩
  obtain ⟨c, hc, hs⟩ := q st hm
  cases h5.symm.trans hc
  rw [hs] at h6; cases h6
theorem Exa.plain {Z : State} {h : Heap} {a : Addr} {C : String} (A : Exa Z h a C) : ∃ c : Cell, h[a]? = some c ∧ c.vm.isStatics = false := by
  obtain ⟨c, _, h1, -, -, h4, -⟩ := A; exact ⟨c, h1, h4⟩
theorem AL.plain {Z : State} {h : Heap} {a : Addr} {k : ClassId} {ty : FieldType} {vs : List Value} (A : AL Z h a k ty vs) : ∃ c : Cell, h[a]? = some c ∧ c.vm.isStatics = false := by
  obtain ⟨c, A, -⟩ := A; exact ⟨c, A.1, A.plain⟩
theorem AL.safe {Z : State} {EL : List (String × Nat)} {vm : Vm} {h : Heap} {a : Addr} {k : ClassId} {ty : FieldType} {vs : List Value} (A : AL Z h a k ty vs) (hal : Z.vm.Alike vm) (ht : ty ≠ .byte) : Safe Z EL vm h a := by
  obtain ⟨c, A, -⟩ := A; exact Safe.arr hal A ht
theorem nin1 {x y : Addr} (q : x ≠ y) : x ∉ [y] := fun z => q (List.mem_singleton.mp z)
end Jvm.Ow
namespace Jvm.Ow
open Sem ClassFile Op Lib Jvm.Stand Jvm.Free Jvm.LawKit Jvm.RoadKit
section Starts
variable {args : Array Value} {s : State} {t u : Term} {x : Addr} {C n d : String} {cl : Cell} {ty : FieldType}
theorem eqI_at {k : Int32} (h : (Cond.eq t (.int k)).value args s none s [] = some true) : t.eval args s none [] s = some (.int k) := by
  simp only [Cond.value, Term.eval] at h
  cases ht : t.eval args s none [] s with
  | none => simp [ht] at h
  | some v => cases v <;> simp [ht] at h ⊢ <;> exact h
theorem eqJ_at {k : Int64} (h : (Cond.eq t (.long k)).value args s none s [] = some true) : t.eval args s none [] s = some (.long k) := by
  simp only [Cond.value, Term.eval] at h
  cases ht : t.eval args s none [] s with
  | none => simp [ht] at h
  | some v => cases v <;> simp [ht] at h ⊢ <;> exact h
theorem eqR_at (h : (Cond.eq t u).value args s none s [] = some true) (hu : u.eval args s none [] s = some (.ref x)) : t.eval args s none [] s = some (.ref x) := by
  simp only [Cond.value, hu] at h
  cases ht : t.eval args s none [] s with
  | none => simp [ht] at h
  | some v => cases v <;> simp [ht] at h ⊢ <;> exact h
theorem fldI {k : Int32} (h : (Cond.eq (.field t C n d) (.int k)).value args s none s [] = some true) (ht : t.eval args s none [] s = some (.ref x)) : Fld s s.heap x C n d (.int k) := Fld.start (by rw [← fld_at ht]; exact eqI_at h)
theorem fldJ {k : Int64} (h : (Cond.eq (.field t C n d) (.long k)).value args s none s [] = some true) (ht : t.eval args s none [] s = some (.ref x)) : Fld s s.heap x C n d (.long k) := Fld.start (by rw [← fld_at ht]; exact eqJ_at h)
theorem fldR {y : Addr} (h : (Term.field t C n d).eval args s none [] s = some (.ref y)) (ht : t.eval args s none [] s = some (.ref x)) : Fld s s.heap x C n d (.ref y) := Fld.start (by rw [← fld_at ht]; exact h)
theorem lenAt {k : Int32} (h : (Cond.eq (.length t) (.int k)).value args s none s [] = some true) (ht : t.eval args s none [] s = some (.ref x)) (A : Arr s s.heap x cl ty) : cl.slots.size < 2147483648 ∧ cl.slots.size.toInt32 = k := by
  have q := eqI_at h
  have ha : s.arrayAt? x = some cl := A.fin (Vm.Alike.refl _)
  simp only [Term.eval, ht, ha, Option.bind_eq_bind, Option.bind_some] at q
  split at q
  · rename_i hl
    exact ⟨hl, by simpa using q⟩
  · cases q
theorem elemAt {k : Int32} {v : Value} (h : (Term.elem t (.int k)).eval args s none [] s = some v) (ht : t.eval args s none [] s = some (.ref x)) (A : Arr s s.heap x cl ty) : cl.slots[k.toNatClampNeg]? = some v := (elem_in h ht rfl A.1).2
end Starts
end Jvm.Ow
namespace Jvm.Ow
open Sem ClassFile Op Lib Jvm.Stand Jvm.Free Jvm.LawKit Jvm.RoadKit
section Copies
variable {p : Program} {l : Launch} {e : Env} {R : Room} {s : State} {m : MethodId} {args : Array Value} {below : List Frame} {meth : Method} {c : Code} {T : State} {locs : List Loc} {cells slots : Nat} {G : Outcome → State → Prop} {pc : Nat} {Ls : Array Slot} {rest : List Value} {Z : State} {a0 : Array Value} {h : Heap}
theorem setKeep {h : Heap} {a : Addr} {c c' : Cell} (hc : h[a]? = some c) (q1 : c'.cls = c.cls) (q2 : c'.vm = c.vm) (q3 : c'.slots.size = c.slots.size) : Keep h (h.setIfInBounds a c') [a] := by
  refine ⟨by simp, fun x d q r => ?_, fun x d q => ?_⟩
  · have : a ≠ x := fun z => r (by simp [z])
    rw [Array.getElem?_setIfInBounds_ne this]; exact q
  · by_cases z : a = x
    · subst z; cases hc.symm.trans q
      exact ⟨c', by rw [Array.getElem?_setIfInBounds_self_of_lt (Array.getElem?_eq_some_iff.mp hc).1], q1, q2, q3⟩
    · exact ⟨d, by rw [Array.getElem?_setIfInBounds_ne z]; exact q, rfl, rfl, rfl⟩
theorem fitsByte_int {v : Value} (h : fits .byte v = true) : ∃ z, v = .int z := by
  cases v <;> simp [fits] at h ⊢
/-- System.arraycopy of bytes -/
theorem arraycopyB (X : Stand p l e R s m args below meth c T locs cells slots) (hx : p.tables.exec = Jvm.exec) (hZ : Z.Warmed39 s.vm) (eT : T.heap = h) {own : String} {index : Nat} (hown : s.vm.findClass own = some m.cls)
    (wl : (Cond.methodLink own index arraycopyName).before a0 Z = true) (wn : (Cond.native arraycopyName).before a0 Z = true) (wst : (Cond.static arraycopyName).before a0 Z = true) (wz : (Cond.initialized "java/lang/System").before a0 Z = true)
    {src dst : Addr} {k1 k2 : ClassId} {vs ds : List Value} (As : AL Z h src k1 .byte vs) (Ad : AL Z h dst k2 .byte ds) (hfit : ∀ v ∈ vs, fits .byte v = true) (sp dp n : Nat) (h1 : sp + n ≤ vs.length) (h2 : dp + n ≤ ds.length) (hb1 : vs.length < 2147483648) (hb2 : ds.length < 2147483648) (vs' : List Value) (hvs : ds.take dp ++ ((vs.drop sp).take n ++ ds.drop (dp + n)) = vs')
    (hsz : Ls.size = c.maxLocals) (hd : decode c.code pc = .ok (.invokestatic index, 3)) (hf : (1 : Nat).ble R.frames = true) (hlo : ((rest.map fun v => v.category).sum + 18).ble R.locals = true)
    (K : ∀ T' h' L, Stand p l e R s m args below meth c T' (locs ++ L) cells slots → T'.heap = h' → Eff h h' [dst] L → AL Z h' dst k2 .byte vs' → Go p.tables e below G (T'.setTop (mkF m (pc + 3) Ls rest))) :
    Go p.tables e below G (T.setTop (mkF m pc Ls (.int (Int32.ofNat n) :: .int (Int32.ofNat dp) :: .ref dst :: .int (Int32.ofNat sp) :: .ref src :: rest))) := by
  obtain ⟨cs, A1, r1, r2⟩ := As
  obtain ⟨cd, A2, q1, q2⟩ := Ad
  obtain ⟨o1, kS, hkS, cpS, hkindS⟩ := A1.2.1
  obtain ⟨o2, kD, hkD, cpD, hkindD⟩ := A2.2.1
  obtain ⟨kS', hkS', eS⟩ := hZ.alike.2.2 _ _ hkS
  obtain ⟨kD', hkD', eD⟩ := hZ.alike.2.2 _ _ hkD
  have z1 : cs.slots.size = vs.length := by rw [r2]; simp
  have z2 : cd.slots.size = ds.length := by rw [q2]; simp
  have t1 : (Int32.ofNat sp).toInt = sp := Int32.toInt_ofNat_of_lt (by omega)
  have t2 : (Int32.ofNat dp).toInt = dp := Int32.toInt_ofNat_of_lt (by omega)
  have t3 : (Int32.ofNat n).toInt = n := Int32.toInt_ofNat_of_lt (by omega)
  have c1 : (Int32.ofNat sp).toNatClampNeg = sp := by rw [Int32.toNatClampNeg, t1]; rfl
  have c2 : (Int32.ofNat dp).toNatClampNeg = dp := by rw [Int32.toNatClampNeg, t2]; rfl
  have c3 : (Int32.ofNat n).toNatClampNeg = n := by rw [Int32.toNatClampNeg, t3]; rfl
  have n0 : ∀ k : Nat, k < 2147483648 → ¬ Int32.ofNat k < 0 := fun k hk => by
    rw [Int32.lt_iff_toInt_lt, Int32.toInt_ofNat_of_lt hk, show (0 : Int32).toInt = 0 from rfl]; omega
  have hget : ∀ i, i < n → ∃ z, cs.slots.getD (sp + i) .null = .int z ∧ fits .byte (.int z) = true ∧ vs[sp + i]? = some (.int z) := fun i hi => by
    have hl : sp + i < vs.length := by omega
    have hv := hfit vs[sp + i] (List.getElem_mem _)
    obtain ⟨z, hz⟩ := fitsByte_int hv
    refine ⟨z, ?_, by rw [← hz]; exact hv, by rw [List.getElem?_eq_getElem hl, hz]⟩
    rw [r2]; simp [Array.getD, hl, hz]
  have e7 : nativeFrameWords "java/lang/System" "arraycopy" 5 = 7 := by decide
  have hl9 : 2 * 0 + (rest.map fun v => v.category).sum + (nativeFrameWords "java/lang/System" "arraycopy" 5 + 11) ≤ R.locals := by
    have := Nat.le_of_ble_eq_true hlo
    rw [e7]; omega
  obtain ⟨vm', X', st⟩ := X.arraycopy hx hown (mvT hZ wl) (mvT hZ wn) (mvT hZ wst) (mvT hZ wz) (srcPos := Int32.ofNat sp) (destPos := Int32.ofNat dp) (n := Int32.ofNat n) (cs := cs) (cd := cd) (by rw [eT]; exact A1.1) (by rw [eT]; exact A2.1) o1 o2 A1.2.2 A2.2.2 hkS' hkD' (sComp := cpS) (dComp := cpD) (sType := .byte) (dType := .byte) (by rw [eS]; exact hkindS) (by rw [eD]; exact hkindD) rfl (n0 _ (by omega)) (n0 _ (by omega)) (n0 _ (by omega)) (by rw [t1, t3, z1]; omega) (by rw [t2, t3, z2]; omega)
    (fun vm' _ i hi => by
      rw [c3] at hi
      obtain ⟨z, e1, e2, -⟩ := hget i hi
      rw [c1, e1]; exact ⟨e2, trivial⟩)
    (g := mkF m pc Ls (.int (Int32.ofNat n) :: .int (Int32.ofNat dp) :: .ref dst :: .int (Int32.ofNat sp) :: .ref src :: rest)) rfl hsz (rest := rest) rfl hd (Nat.le_of_ble_eq_true hf) hl9
  refine (K _ _ _ X' rfl ?_ ?_).via st
  · refine ⟨?_, fun y hy => ?_⟩
    · have f := Cell.storeRun_facts cd (Int32.ofNat dp).toNatClampNeg (cs.stretch (Int32.ofNat sp).toNatClampNeg (Int32.ofNat n).toNatClampNeg)
      rw [← eT]
      exact setKeep (by rw [eT]; exact A2.1) f.1 f.2.1 f.2.2.1
    · obtain ⟨q, -, rfl⟩ := List.mem_map.mp hy
      exact Or.inl (by simp)
  · have f := Cell.storeRun_facts cd (Int32.ofNat dp).toNatClampNeg (cs.stretch (Int32.ofNat sp).toNatClampNeg (Int32.ofNat n).toNatClampNeg)
    have hlt : dst < T.heap.size := by rw [eT]; exact A2.lt
    refine ⟨copied cs cd (Int32.ofNat sp) (Int32.ofNat dp) (Int32.ofNat n), ⟨?_, ?_, ?_⟩, ?_, ?_⟩
    · show (T.heap.setIfInBounds dst _)[dst]? = _
      simp [hlt]
    · obtain ⟨i1, i2⟩ := A2.2.1
      refine ⟨fun k => ?_, ?_⟩
      · show (Cell.storeRun cd _ _).vm ≠ _
        rw [f.2.1]; exact i1 k
      · show ∃ k, Z.vm.classes[(Cell.storeRun cd _ _).cls]? = some k ∧ _
        rw [f.1]; exact i2
    · show (Cell.storeRun cd _ _).vm ≠ _
      rw [f.2.1]; exact A2.2.2
    · show (Cell.storeRun cd _ _).cls = _
      rw [f.1]; exact q1
    · show (Cell.storeRun cd _ _).slots = _
      have hsl : (cs.stretch (Int32.ofNat sp).toNatClampNeg (Int32.ofNat n).toNatClampNeg).length = n := by rw [c3]; simp [Cell.stretch]
      refine Array.ext_getElem? fun j => ?_
      rw [Cell.storeRun_get _ _ _ _ (by rw [hsl, c2, z2]; omega), hsl, c2, ← hvs]
      rw [show ((ds.take dp ++ ((vs.drop sp).take n ++ ds.drop (dp + n))).toArray)[j]? = (ds.take dp ++ ((vs.drop sp).take n ++ ds.drop (dp + n)))[j]? from List.getElem?_toArray]
      by_cases j1 : j < dp
      · rw [if_neg (by omega), List.getElem?_append_left (by simp; omega), q2]
        simp [List.getElem?_take, j1]
      · by_cases j2 : j < dp + n
        · rw [if_pos ⟨by omega, j2⟩, List.getElem?_append_right (by simp; omega)]
          have ht : (ds.take dp).length = dp := by simp; omega
          rw [ht, List.getElem?_append_left (by simp; omega)]
          obtain ⟨z, e1, -, e3⟩ := hget (j - dp) (by omega)
          have hl : j - dp < n := by omega
          rw [List.getElem?_take, if_pos hl, List.getElem?_drop, e3]
          rw [c1, c3]
          simp only [Cell.stretch, List.getElem?_map, List.getElem?_range hl, Option.map_some, e1]
        · rw [if_neg (by omega), List.getElem?_append_right (by simp; omega)]
          have ht : (ds.take dp).length = dp := by simp; omega
          have hm : ((vs.drop sp).take n).length = n := by simp; omega
          rw [ht, List.getElem?_append_right (by omega), hm, List.getElem?_drop, q2]
          simp
          congr 1; omega
end Copies
end Jvm.Ow
namespace Jvm.Owl
open Sem ClassFile Op Lib Jvm.Stand Jvm.Free Jvm.LawKit Jvm.RoadKit
theorem monAL {Z : State} {h h' : Heap} {a : Addr} {k : ClassId} {ty : FieldType} {vs : List Value} (A : Jvm.Ow.AL Z h a k ty vs) (M : Mon h h') : Jvm.Ow.AL Z h' a k ty vs := by
  obtain ⟨c, A, r1, r2⟩ := A
  obtain ⟨mo, q⟩ := M.2 _ _ A.1
  exact ⟨_, ⟨q, A.2⟩, r1, r2⟩
end Jvm.Owl
namespace Jvm.Owl
open Sem ClassFile Op Lib Jvm.Stand Jvm.Free Jvm.LawKit Jvm.RoadKit
open Jvm.Ow (Go AL EndN Pay Eff)
section Steps1
variable {p : Program} {l : Launch} {e : Env} {R : Room} {s : State} {m : MethodId} {args : Array Value} {below : List Frame} {meth : Method} {c : Code} {T : State} {locs : List Loc} {cells slots : Nat} {G : Outcome → State → Prop} {pc pc' : Nat} {Ls : Array Slot} {rest : List Value} {lk : Addr}
theorem aloadN (X : Stand p l e R s m args below meth c T locs cells slots) (hx : p.tables.exec = Jvm.exec) {k : Fin 4} {v : Value} (hd : decode c.code pc = .ok (.aload_n k, 1)) (hl : Ls[k.val]? = some (.val v)) (hv : v.isRef = true) (K : Go p.tables e below G (T.setTop (mkL lk m (pc + 1) Ls (v :: rest)))) : Go p.tables e below G (T.setTop (mkL lk m (pc) Ls rest)) := K.via fun _ r => XS.aloadN X.here hx rfl hd hl hv r
theorem aload (X : Stand p l e R s m args below meth c T locs cells slots) (hx : p.tables.exec = Jvm.exec) {k : Nat} {v : Value} (hd : decode c.code pc = .ok (.aload k, 2)) (hl : Ls[k]? = some (.val v)) (hv : v.isRef = true) (K : Go p.tables e below G (T.setTop (mkL lk m (pc + 2) Ls (v :: rest)))) : Go p.tables e below G (T.setTop (mkL lk m (pc) Ls rest)) := K.via fun _ r => XS.aload X.here hx rfl hd hl hv r
theorem iloadN (X : Stand p l e R s m args below meth c T locs cells slots) (hx : p.tables.exec = Jvm.exec) {k : Fin 4} {v : Int32} (hd : decode c.code pc = .ok (.iload_n k, 1)) (hl : Ls[k.val]? = some (.val (.int v))) (K : Go p.tables e below G (T.setTop (mkL lk m (pc + 1) Ls (.int v :: rest)))) : Go p.tables e below G (T.setTop (mkL lk m (pc) Ls rest)) := K.via fun _ r => XS.iloadN X.here hx rfl hd hl r
theorem iload (X : Stand p l e R s m args below meth c T locs cells slots) (hx : p.tables.exec = Jvm.exec) {k : Nat} {v : Int32} (hd : decode c.code pc = .ok (.iload k, 2)) (hl : Ls[k]? = some (.val (.int v))) (K : Go p.tables e below G (T.setTop (mkL lk m (pc + 2) Ls (.int v :: rest)))) : Go p.tables e below G (T.setTop (mkL lk m (pc) Ls rest)) := K.via fun _ r => XS.iload X.here hx rfl hd hl r
theorem lloadN (X : Stand p l e R s m args below meth c T locs cells slots) (hx : p.tables.exec = Jvm.exec) {k : Fin 4} {v : Int64} (hd : decode c.code pc = .ok (.lload_n k, 1)) (hl : Ls[k.val]? = some (.val (.long v))) (K : Go p.tables e below G (T.setTop (mkL lk m (pc + 1) Ls (.long v :: rest)))) : Go p.tables e below G (T.setTop (mkL lk m (pc) Ls rest)) := K.via fun _ r => XT.lloadN X.here hx rfl hd hl r
theorem iconst (X : Stand p l e R s m args below meth c T locs cells slots) (hx : p.tables.exec = Jvm.exec) {i : Int} (v : Int32) (hd : decode c.code pc = .ok (.iconst i, 1)) (hv : Int32.ofInt i = v) (K : Go p.tables e below G (T.setTop (mkL lk m (pc + 1) Ls (.int v :: rest)))) : Go p.tables e below G (T.setTop (mkL lk m (pc) Ls rest)) := K.via fun _ r => XT.iconstV X.here hx rfl v hd hv r
theorem lconst (X : Stand p l e R s m args below meth c T locs cells slots) (hx : p.tables.exec = Jvm.exec) {k : Fin 2} (v : Int64) (hd : decode c.code pc = .ok (.lconst k, 1)) (hv : Int64.ofNat k = v) (K : Go p.tables e below G (T.setTop (mkL lk m (pc + 1) Ls (.long v :: rest)))) : Go p.tables e below G (T.setTop (mkL lk m (pc) Ls rest)) := K.via fun _ r => XT.lconstV X.here hx rfl v hd hv r
theorem iadd (X : Stand p l e R s m args below meth c T locs cells slots) (hx : p.tables.exec = Jvm.exec) {x y : Int32} (hd : decode c.code pc = .ok (.iadd, 1))  (K : Go p.tables e below G (T.setTop (mkL lk m (pc + 1) Ls (.int (x + y) :: rest)))) : Go p.tables e below G (T.setTop (mkL lk m (pc) Ls (.int y :: .int x :: rest))) := K.via fun _ r => XS.iadd X.here hx rfl hd rfl r
theorem isub (X : Stand p l e R s m args below meth c T locs cells slots) (hx : p.tables.exec = Jvm.exec) {x y : Int32} (hd : decode c.code pc = .ok (.isub, 1))  (K : Go p.tables e below G (T.setTop (mkL lk m (pc + 1) Ls (.int (x - y) :: rest)))) : Go p.tables e below G (T.setTop (mkL lk m (pc) Ls (.int y :: .int x :: rest))) := K.via fun _ r => XS.isub X.here hx rfl hd rfl r
theorem i2l (X : Stand p l e R s m args below meth c T locs cells slots) (hx : p.tables.exec = Jvm.exec) {x : Int32} (hd : decode c.code pc = .ok (.i2l, 1))  (K : Go p.tables e below G (T.setTop (mkL lk m (pc + 1) Ls (.long (x.toInt64) :: rest)))) : Go p.tables e below G (T.setTop (mkL lk m (pc) Ls (.int x :: rest))) := K.via fun _ r => XT.i2l X.here hx rfl hd rfl r
theorem l2i (X : Stand p l e R s m args below meth c T locs cells slots) (hx : p.tables.exec = Jvm.exec) {x : Int64} (hd : decode c.code pc = .ok (.l2i, 1))  (K : Go p.tables e below G (T.setTop (mkL lk m (pc + 1) Ls (.int (x.toInt32) :: rest)))) : Go p.tables e below G (T.setTop (mkL lk m (pc) Ls (.long x :: rest))) := K.via fun _ r => XT.l2i X.here hx rfl hd rfl r
theorem lcmp (X : Stand p l e R s m args below meth c T locs cells slots) (hx : p.tables.exec = Jvm.exec) {x y : Int64} (hd : decode c.code pc = .ok (.lcmp, 1))  (K : Go p.tables e below G (T.setTop (mkL lk m (pc + 1) Ls (.int (XT.cmpL x y) :: rest)))) : Go p.tables e below G (T.setTop (mkL lk m (pc) Ls (.long y :: .long x :: rest))) := K.via fun _ r => XT.lcmp X.here hx rfl hd rfl r
theorem dup (X : Stand p l e R s m args below meth c T locs cells slots) (hx : p.tables.exec = Jvm.exec) {v : Value} (hd : decode c.code pc = .ok (.dup, 1)) (hv : v.category = 1) (K : Go p.tables e below G (T.setTop (mkL lk m (pc + 1) Ls (v :: v :: rest)))) : Go p.tables e below G (T.setTop (mkL lk m (pc) Ls (v :: rest))) := K.via fun _ r => XS.dup X.here hx rfl hd rfl hv r
theorem pop (X : Stand p l e R s m args below meth c T locs cells slots) (hx : p.tables.exec = Jvm.exec) {v : Value} (hd : decode c.code pc = .ok (.pop, 1)) (hv : v.category = 1) (K : Go p.tables e below G (T.setTop (mkL lk m (pc + 1) Ls rest))) : Go p.tables e below G (T.setTop (mkL lk m (pc) Ls (v :: rest))) := K.via fun _ r => XT.pop X.here hx rfl hd rfl hv r
theorem istoreN (X : Stand p l e R s m args below meth c T locs cells slots) (hx : p.tables.exec = Jvm.exec) {k : Fin 4} {x : Int32} (L2 : Array Slot) (hd : decode c.code pc = .ok (.istore_n k, 1))  (hl : storeLocals Ls k.val (.int x) = some L2) (K : Go p.tables e below G (T.setTop (mkL lk m (pc + 1) L2 rest))) : Go p.tables e below G (T.setTop (mkL lk m (pc) Ls ((.int x) :: rest))) := K.via fun _ r => XS.istoreN X.here hx rfl hd rfl hl r
theorem istore (X : Stand p l e R s m args below meth c T locs cells slots) (hx : p.tables.exec = Jvm.exec) {k : Nat} {x : Int32} (L2 : Array Slot) (hd : decode c.code pc = .ok (.istore k, 2))  (hl : storeLocals Ls k (.int x) = some L2) (K : Go p.tables e below G (T.setTop (mkL lk m (pc + 2) L2 rest))) : Go p.tables e below G (T.setTop (mkL lk m (pc) Ls ((.int x) :: rest))) := K.via fun _ r => XS.istore X.here hx rfl hd rfl hl r
theorem lstoreN (X : Stand p l e R s m args below meth c T locs cells slots) (hx : p.tables.exec = Jvm.exec) {k : Fin 4} {x : Int64} (L2 : Array Slot) (hd : decode c.code pc = .ok (.lstore_n k, 1))  (hl : storeLocals Ls k.val (.long x) = some L2) (K : Go p.tables e below G (T.setTop (mkL lk m (pc + 1) L2 rest))) : Go p.tables e below G (T.setTop (mkL lk m (pc) Ls ((.long x) :: rest))) := K.via fun _ r => XT.lstoreN X.here hx rfl hd rfl hl r
theorem goto (X : Stand p l e R s m args below meth c T locs cells slots) (hx : p.tables.exec = Jvm.exec) {o : Int} (hd : decode c.code pc = .ok (.goto o, 3)) (ho : 0 ≤ (pc : Int) + o) (hp : ((pc : Int) + o).toNat = pc') (K : Go p.tables e below G (T.setTop (mkL lk m (pc') Ls rest))) : Go p.tables e below G (T.setTop (mkL lk m (pc) Ls rest)) := K.via fun _ r => XS.goto X.here hx rfl rfl hd ho hp r
theorem if_lt (X : Stand p l e R s m args below meth c T locs cells slots) (hx : p.tables.exec = Jvm.exec) {x : Int32} {o : Int} (hd : decode c.code pc = .ok (.ifCond .lt o, 3)) (ho : 0 ≤ (pc : Int) + o) (hp : ((pc : Int) + o).toNat = pc') (KT : x < 0 → Go p.tables e below G (T.setTop (mkL lk m (pc') Ls rest))) (KF : ¬ x < 0 → Go p.tables e below G (T.setTop (mkL lk m (pc + 3) Ls rest))) : Go p.tables e below G (T.setTop (mkL lk m (pc) Ls (.int x :: rest))) := by
  by_cases h : x < 0
  · exact (KT h).via fun _ r => XS.ifYes X.here hx rfl rfl hd rfl (XT.i0_lt_t h) ho hp r
  · exact (KF h).via fun _ r => XS.ifNo X.here hx rfl hd rfl (XT.i0_lt_f h) r
theorem if_ge (X : Stand p l e R s m args below meth c T locs cells slots) (hx : p.tables.exec = Jvm.exec) {x : Int32} {o : Int} (hd : decode c.code pc = .ok (.ifCond .ge o, 3)) (ho : 0 ≤ (pc : Int) + o) (hp : ((pc : Int) + o).toNat = pc') (KT : ¬ x < 0 → Go p.tables e below G (T.setTop (mkL lk m (pc') Ls rest))) (KF : x < 0 → Go p.tables e below G (T.setTop (mkL lk m (pc + 3) Ls rest))) : Go p.tables e below G (T.setTop (mkL lk m (pc) Ls (.int x :: rest))) := by
  by_cases h : x < 0
  · exact (KF h).via fun _ r => XS.ifNo X.here hx rfl hd rfl (XT.i0_ge_f h) r
  · exact (KT h).via fun _ r => XS.ifYes X.here hx rfl rfl hd rfl (XT.i0_ge_t h) ho hp r
theorem if_gt (X : Stand p l e R s m args below meth c T locs cells slots) (hx : p.tables.exec = Jvm.exec) {x : Int32} {o : Int} (hd : decode c.code pc = .ok (.ifCond .gt o, 3)) (ho : 0 ≤ (pc : Int) + o) (hp : ((pc : Int) + o).toNat = pc') (KT : 0 < x → Go p.tables e below G (T.setTop (mkL lk m (pc') Ls rest))) (KF : ¬ 0 < x → Go p.tables e below G (T.setTop (mkL lk m (pc + 3) Ls rest))) : Go p.tables e below G (T.setTop (mkL lk m (pc) Ls (.int x :: rest))) := by
  by_cases h : 0 < x
  · exact (KT h).via fun _ r => XS.ifYes X.here hx rfl rfl hd rfl (XT.i0_gt_t h) ho hp r
  · exact (KF h).via fun _ r => XS.ifNo X.here hx rfl hd rfl (XT.i0_gt_f h) r
theorem if_le (X : Stand p l e R s m args below meth c T locs cells slots) (hx : p.tables.exec = Jvm.exec) {x : Int32} {o : Int} (hd : decode c.code pc = .ok (.ifCond .le o, 3)) (ho : 0 ≤ (pc : Int) + o) (hp : ((pc : Int) + o).toNat = pc') (KT : ¬ 0 < x → Go p.tables e below G (T.setTop (mkL lk m (pc') Ls rest))) (KF : 0 < x → Go p.tables e below G (T.setTop (mkL lk m (pc + 3) Ls rest))) : Go p.tables e below G (T.setTop (mkL lk m (pc) Ls (.int x :: rest))) := by
  by_cases h : 0 < x
  · exact (KF h).via fun _ r => XS.ifNo X.here hx rfl hd rfl (XT.i0_le_f h) r
  · exact (KT h).via fun _ r => XS.ifYes X.here hx rfl rfl hd rfl (XT.i0_le_t h) ho hp r
theorem icmp_lt (X : Stand p l e R s m args below meth c T locs cells slots) (hx : p.tables.exec = Jvm.exec) {x y : Int32} {o : Int} (hd : decode c.code pc = .ok (.if_icmp .lt o, 3)) (ho : 0 ≤ (pc : Int) + o) (hp : ((pc : Int) + o).toNat = pc') (KT : x < y → Go p.tables e below G (T.setTop (mkL lk m (pc') Ls rest))) (KF : ¬ x < y → Go p.tables e below G (T.setTop (mkL lk m (pc + 3) Ls rest))) : Go p.tables e below G (T.setTop (mkL lk m (pc) Ls (.int y :: .int x :: rest))) := by
  by_cases h : x < y
  · exact (KT h).via fun _ r => XS.icmpYes X.here hx rfl rfl hd rfl (XT.ii_lt_t h) ho hp r
  · exact (KF h).via fun _ r => XS.icmpNo X.here hx rfl hd rfl (XT.ii_lt_f h) r
theorem icmp_ge (X : Stand p l e R s m args below meth c T locs cells slots) (hx : p.tables.exec = Jvm.exec) {x y : Int32} {o : Int} (hd : decode c.code pc = .ok (.if_icmp .ge o, 3)) (ho : 0 ≤ (pc : Int) + o) (hp : ((pc : Int) + o).toNat = pc') (KT : ¬ x < y → Go p.tables e below G (T.setTop (mkL lk m (pc') Ls rest))) (KF : x < y → Go p.tables e below G (T.setTop (mkL lk m (pc + 3) Ls rest))) : Go p.tables e below G (T.setTop (mkL lk m (pc) Ls (.int y :: .int x :: rest))) := by
  by_cases h : x < y
  · exact (KF h).via fun _ r => XS.icmpNo X.here hx rfl hd rfl (XT.ii_ge_f h) r
  · exact (KT h).via fun _ r => XS.icmpYes X.here hx rfl rfl hd rfl (XT.ii_ge_t h) ho hp r
theorem icmp_gt (X : Stand p l e R s m args below meth c T locs cells slots) (hx : p.tables.exec = Jvm.exec) {x y : Int32} {o : Int} (hd : decode c.code pc = .ok (.if_icmp .gt o, 3)) (ho : 0 ≤ (pc : Int) + o) (hp : ((pc : Int) + o).toNat = pc') (KT : y < x → Go p.tables e below G (T.setTop (mkL lk m (pc') Ls rest))) (KF : ¬ y < x → Go p.tables e below G (T.setTop (mkL lk m (pc + 3) Ls rest))) : Go p.tables e below G (T.setTop (mkL lk m (pc) Ls (.int y :: .int x :: rest))) := by
  by_cases h : y < x
  · exact (KT h).via fun _ r => XS.icmpYes X.here hx rfl rfl hd rfl (XT.ii_gt_t h) ho hp r
  · exact (KF h).via fun _ r => XS.icmpNo X.here hx rfl hd rfl (XT.ii_gt_f h) r
theorem icmp_le (X : Stand p l e R s m args below meth c T locs cells slots) (hx : p.tables.exec = Jvm.exec) {x y : Int32} {o : Int} (hd : decode c.code pc = .ok (.if_icmp .le o, 3)) (ho : 0 ≤ (pc : Int) + o) (hp : ((pc : Int) + o).toNat = pc') (KT : ¬ y < x → Go p.tables e below G (T.setTop (mkL lk m (pc') Ls rest))) (KF : y < x → Go p.tables e below G (T.setTop (mkL lk m (pc + 3) Ls rest))) : Go p.tables e below G (T.setTop (mkL lk m (pc) Ls (.int y :: .int x :: rest))) := by
  by_cases h : y < x
  · exact (KF h).via fun _ r => XS.icmpNo X.here hx rfl hd rfl (XT.ii_le_f h) r
  · exact (KT h).via fun _ r => XS.icmpYes X.here hx rfl rfl hd rfl (XT.ii_le_t h) ho hp r
theorem arraylength (X : Stand p l e R s m args below meth c T locs cells slots) (hx : p.tables.exec = Jvm.exec) {Z : State} {h : Heap} (hZ : Z.Warmed39 s.vm) (eT : T.heap = h) {a : Addr} {cell : Cell} {ty : FieldType} (N : Int32) (A : Arr Z h a cell ty) (hN : cell.slots.size.toInt32 = N) (hd : decode c.code pc = .ok (.arraylength, 1)) (K : Go p.tables e below G (T.setTop (mkL lk m (pc + 1) Ls (.int N :: rest)))) : Go p.tables e below G (T.setTop (mkL lk m (pc) Ls (.ref a :: rest))) := K.via fun t r => X.arraylength hx (g := mkL lk m pc Ls (.ref a :: rest)) (by rw [eT]; exact A.1) (State.isArrayOf_alike hZ.alike A.2.1) rfl rfl hd t (by rw [hN]; exact r)
end Steps1
section Heaps
variable {p : Program} {l : Launch} {e : Env} {R : Room} {s : State} {m : MethodId} {args : Array Value} {below : List Frame} {meth : Method} {c : Code} {T : State} {locs : List Loc} {cells slots : Nat} {G : Outcome → State → Prop} {pc pc' : Nat} {Ls : Array Slot} {rest : List Value} {Z : State} {a0 : Array Value} {h : Heap} {lk : Addr}
theorem getfield (X : Stand p l e R s m args below meth c T locs cells slots) (hx : p.tables.exec = Jvm.exec) (hZ : Z.Warmed39 s.vm) {own R0 O n d : String} {index : Nat} (hown : s.vm.findClass own = some m.cls) (w : (Cond.fieldLink own index R0 n d).before a0 Z = true) (via : Via Z R0 O n d) (eT : T.heap = h) {a : Addr} {v : Value} (F : Fld Z h a O n d v)
    (hd : decode c.code pc = .ok (.getfield index, 3)) (K : ∀ T', Stand p l e R s m args below meth c T' locs cells slots → T'.heap = h → Go p.tables e below G (T'.setTop (mkL lk m (pc + 3) Ls (v :: rest)))) : Go p.tables e below G (T.setTop (mkL lk m pc Ls (.ref a :: rest))) := by
  obtain ⟨T', X', e', st⟩ := getF X hx hZ hown (host := "") (Or.inl w) via eT F (g := mkL lk m pc Ls (.ref a :: rest)) rfl rfl hd
  exact (K T' X' e').via st
theorem putfield (X : Stand p l e R s m args below meth c T locs cells slots) (hx : p.tables.exec = Jvm.exec) (hZ : Z.Warmed39 s.vm) {own R0 O n d C : String} {index kk : Nat} {ty : FieldType} (hown : s.vm.findClass own = some m.cls) (w : (Cond.fieldLink own index R0 n d).before a0 Z = true) (via : Via Z R0 O n d)
    (eT : T.heap = h) {a : Addr} {v old : Value} (F : Fld Z h a O n d old) (E : Exa Z h a C) (L : (Cond.lays C O n d).before a0 Z = true ∨ ((Cond.laysFinal C O n d).before a0 Z = true ∧ own = O ∧ meth.name = "<init>")) (wi : (Cond.instantiable C kk).before a0 Z = true)
    (hty : parseFieldDescriptor d = some ty) (hn : narrow ty v = v) (hf : fits ty v = true) (hd : decode c.code pc = .ok (.putfield index, 3))
    (K : ∀ T' h', Stand p l e R s m args below meth c T' (locs ++ [⟨a, RoadKit.slotOf Z O n d⟩]) cells slots → T'.heap = h' → Wr h h' a (RoadKit.slotOf Z O n d) v → Go p.tables e below G (T'.setTop (mkL lk m (pc + 3) Ls rest))) : Go p.tables e below G (T.setTop (mkL lk m pc Ls (v :: .ref a :: rest))) := by
  obtain ⟨T', h', X', e', W, st⟩ := putF X hx hZ hown (host := "") (Or.inl w) via eT F E L wi hty hn hf (g := mkL lk m pc Ls (v :: .ref a :: rest)) rfl rfl hd
  exact (K T' h' X' e' W).via st
end Heaps
section AL4
variable {p : Program} {l : Launch} {e : Env} {R : Room} {s : State} {m : MethodId} {args : Array Value} {below : List Frame} {meth : Method} {c : Code} {T : State} {locs : List Loc} {cells slots : Nat} {G : Outcome → State → Prop} {pc pc' : Nat} {Ls : Array Slot} {rest : List Value} {Z : State} {a0 : Array Value} {h : Heap} {a : Addr} {kc : ClassId} {vs : List Value} {lk : Addr}
theorem lengthL (X : Stand p l e R s m args below meth c T locs cells slots) (hx : p.tables.exec = Jvm.exec) (hZ : Z.Warmed39 s.vm) (eT : T.heap = h) {ty : FieldType} (A : AL Z h a kc ty vs) (N : Int32) (hN : vs.length.toInt32 = N) (hd : decode c.code pc = .ok (.arraylength, 1)) (K : Go p.tables e below G (T.setTop (mkL lk m (pc + 1) Ls (.int N :: rest)))) : Go p.tables e below G (T.setTop (mkL lk m pc Ls (.ref a :: rest))) := by
  obtain ⟨cl, Ar, -, q2, -⟩ := A.arr
  exact arraylength X hx hZ eT N Ar (by rw [q2]; exact hN) hd K
end AL4
section Pays
variable {l : Launch} {Z : State} {y : MethodName} {bytes : ByteArray} {maxL : Nat} {ret : Option FieldType} {rm : Room} {as' : Array Value} {h0 : Heap} {Q : Option Value → Heap → List Loc → Prop} {lk : Addr}
variable {p : Program} {e : Env} {R : Room} {s : State} {m : MethodId} {args : Array Value} {below : List Frame} {meth : Method} {c : Code} {T : State} {locs : List Loc} {cells slots : Nat} {G : Outcome → State → Prop} {pc : Nat} {Ls : Array Slot} {a0 : Array Value}
theorem callSB (X : Stand p l e R s m args below meth c T locs cells slots) (hx : p.tables.exec = Jvm.exec) (hZ : Z.Warmed39 s.vm) {argsL rest st : List Value} {kc ks : Nat}
    (hK : Back l R p e below s args y 3 (2 + (rest.map fun v => v.category).sum) (fun A a => a = as' ∧ A.U.heap = h0 ∧ A.cells + kc ≤ R.cells ∧ A.slots + ks ≤ R.slots) (fun A _ v B => ∃ L, Q v B.U.heap L ∧ B.locs = A.locs ++ L ∧ B.cells = A.cells + kc ∧ B.slots = A.slots + ks)) (eT : T.heap = h0) {own : String} {index : Nat} (hown : s.vm.findClass own = some m.cls)
    (wl : (Cond.methodLink own index y).before a0 Z = true) (wst : (Cond.static y).before a0 Z = true) (wz : (Cond.initialized y.cls).before a0 Z = true) (wc : (Cond.code y bytes maxL ret).before a0 Z = true)
    (hy : y.cls ≠ "java/lang/invoke/MethodHandle" ∧ y.cls ≠ "java/lang/invoke/VarHandle") {ps : List FieldType} {rt : Option FieldType} (hpd : parseMethodDescriptor y.desc = some ⟨ps, rt⟩) (hsz : Ls.size = c.maxLocals)
    (has : argsL.toArray = as') (hlen : argsL.length = ps.length) (hst : st = argsL.reverse ++ rest) (hd : decode c.code pc = .ok (.invokestatic index, 3)) (hce : cells + kc ≤ R.cells) (hsl : slots + ks ≤ R.slots)
    (K : ∀ (v : Option Value) (T' : State) (L : List Loc), Stand p l e R s m args below meth c T' (locs ++ L) (cells + kc) (slots + ks) → Q v T'.heap L → Go p.tables e below G (T'.setTop (mkL lk m (pc + 3) Ls (v.toList ++ rest)))) :
    Go p.tables e below G (T.setTop (mkL lk m pc Ls st)) := by
  obtain ⟨_, _, ⟨T1, L1, k1, n1⟩, -, X1, ⟨Lc, hQ, l1, y1, z1⟩, st1⟩ := Jvm.LawKit.callS X hx (y := y) hown (mvT hZ wl) (mvT hZ wst) (mvT hZ wz) (mvT hZ wc) hy hK (g := mkL lk m pc Ls st) rfl hsz (argsL := argsL) (rest := rest) (lenOf hpd hlen) hst (by show 2 * 1 + _ ≤ _; omega) hd (fun _ _ => ⟨has, eT, hce, hsl⟩)
  dsimp only [Pt.U, Pt.locs, Pt.cells, Pt.slots] at X1 l1 y1 z1 st1 hQ
  subst l1 y1 z1
  exact (K _ _ _ X1 hQ).via st1
theorem callS (X : Stand p l e R s m args below meth c T locs cells slots) (hx : p.tables.exec = Jvm.exec) (hZ : Z.Warmed39 s.vm) (hP : Pay l Z y bytes maxL ret rm as' h0 Q) (eT : T.heap = h0) {own : String} {index : Nat} (hown : s.vm.findClass own = some m.cls)
    (wl : (Cond.methodLink own index y).before a0 Z = true) (wst : (Cond.static y).before a0 Z = true) (wz : (Cond.initialized y.cls).before a0 Z = true) (wc : (Cond.code y bytes maxL ret).before a0 Z = true)
    (hy : y.cls ≠ "java/lang/invoke/MethodHandle" ∧ y.cls ≠ "java/lang/invoke/VarHandle") {ps : List FieldType} {rt : Option FieldType} (hpd : parseMethodDescriptor y.desc = some ⟨ps, rt⟩) (hsz : Ls.size = c.maxLocals)
    {argsL rest st : List Value} (has : argsL.toArray = as') (hlen : argsL.length = ps.length) (hst : st = argsL.reverse ++ rest) (hd : decode c.code pc = .ok (.invokestatic index, 3))
    (hf : (rm.frames + 1).ble R.frames = true) (hlo : (2 + (rest.map fun v => v.category).sum + (maxL + 11) + rm.locals).ble R.locals = true) (hce : cells + rm.cells ≤ R.cells) (hsl : slots + rm.slots ≤ R.slots)
    (K : ∀ (v : Option Value) (T' : State) (L : List Loc), Stand p l e R s m args below meth c T' (locs ++ L) (cells + rm.cells) (slots + rm.slots) → Q v T'.heap L → Go p.tables e below G (T'.setTop (mkL lk m (pc + 3) Ls (v.toList ++ rest)))) :
    Go p.tables e below G (T.setTop (mkL lk m pc Ls st)) :=
  callSB X hx hZ (backOf (W := 2 + (rest.map fun v => v.category).sum) (hP []) hZ wc wz (Nat.le_of_ble_eq_true hf) (Nat.le_of_ble_eq_true hlo)) eT hown wl wst wz wc hy hpd hsz has hlen hst hd hce hsl K
theorem callSP (X : Stand p l e R s m args below meth c T locs cells slots) (hx : p.tables.exec = Jvm.exec) (hZ : Z.Warmed39 s.vm) {r : Option Value} (hP : Pay l Z y bytes maxL ret rm as' h0 (fun v h L => v = r ∧ h = h0 ∧ L = [])) (h0c : rm.cells = 0) (h0s : rm.slots = 0) (eT : T.heap = h0) {own : String} {index : Nat} (hown : s.vm.findClass own = some m.cls)
    (wl : (Cond.methodLink own index y).before a0 Z = true) (wst : (Cond.static y).before a0 Z = true) (wz : (Cond.initialized y.cls).before a0 Z = true) (wc : (Cond.code y bytes maxL ret).before a0 Z = true)
    (hy : y.cls ≠ "java/lang/invoke/MethodHandle" ∧ y.cls ≠ "java/lang/invoke/VarHandle") {ps : List FieldType} {rt : Option FieldType} (hpd : parseMethodDescriptor y.desc = some ⟨ps, rt⟩) (hsz : Ls.size = c.maxLocals)
    {argsL rest st : List Value} (has : argsL.toArray = as') (hlen : argsL.length = ps.length) (hst : st = argsL.reverse ++ rest) (hd : decode c.code pc = .ok (.invokestatic index, 3))
    (hf : (rm.frames + 1).ble R.frames = true) (hlo : (2 + (rest.map fun v => v.category).sum + (maxL + 11) + rm.locals).ble R.locals = true) (hce : cells ≤ R.cells) (hsl : slots ≤ R.slots)
    (K : ∀ (T' : State), Stand p l e R s m args below meth c T' locs cells slots → T'.heap = h0 → Go p.tables e below G (T'.setTop (mkL lk m (pc + 3) Ls (r.toList ++ rest)))) :
    Go p.tables e below G (T.setTop (mkL lk m pc Ls st)) := by
  refine callS X hx hZ hP eT hown wl wst wz wc hy hpd hsz has hlen hst hd hf hlo (by rw [h0c]; exact hce) (by rw [h0s]; exact hsl) ?_
  rintro v T' L X' ⟨rfl, hh, rfl⟩
  rw [h0c, h0s, List.append_nil] at X'
  exact K T' X' hh
end Pays
open Jvm.Ow (setKeep fitsByte_int)
section Copies
variable {p : Program} {l : Launch} {e : Env} {R : Room} {s : State} {m : MethodId} {args : Array Value} {below : List Frame} {meth : Method} {c : Code} {T : State} {locs : List Loc} {cells slots : Nat} {G : Outcome → State → Prop} {pc : Nat} {Ls : Array Slot} {rest : List Value} {Z : State} {a0 : Array Value} {h : Heap} {lk : Addr}
/-- System.arraycopy of bytes -/
theorem arraycopyB (X : Stand p l e R s m args below meth c T locs cells slots) (hx : p.tables.exec = Jvm.exec) (hZ : Z.Warmed39 s.vm) (eT : T.heap = h) {own : String} {index : Nat} (hown : s.vm.findClass own = some m.cls)
    (wl : (Cond.methodLink own index arraycopyName).before a0 Z = true) (wn : (Cond.native arraycopyName).before a0 Z = true) (wst : (Cond.static arraycopyName).before a0 Z = true) (wz : (Cond.initialized "java/lang/System").before a0 Z = true)
    {src dst : Addr} {k1 k2 : ClassId} {vs ds : List Value} (As : AL Z h src k1 .byte vs) (Ad : AL Z h dst k2 .byte ds) (hfit : ∀ v ∈ vs, fits .byte v = true) (sp dp n : Nat) (h1 : sp + n ≤ vs.length) (h2 : dp + n ≤ ds.length) (hb1 : vs.length < 2147483648) (hb2 : ds.length < 2147483648) (vs' : List Value) (hvs : ds.take dp ++ ((vs.drop sp).take n ++ ds.drop (dp + n)) = vs')
    (hsz : Ls.size = c.maxLocals) (hd : decode c.code pc = .ok (.invokestatic index, 3)) (hf : (1 : Nat).ble R.frames = true) (hlo : (2 + (rest.map fun v => v.category).sum + 18).ble R.locals = true)
    (K : ∀ T' h' L, Stand p l e R s m args below meth c T' (locs ++ L) cells slots → T'.heap = h' → Eff h h' [dst] L → AL Z h' dst k2 .byte vs' → Go p.tables e below G (T'.setTop (mkL lk m (pc + 3) Ls rest))) :
    Go p.tables e below G (T.setTop (mkL lk m pc Ls (.int (Int32.ofNat n) :: .int (Int32.ofNat dp) :: .ref dst :: .int (Int32.ofNat sp) :: .ref src :: rest))) := by
  obtain ⟨cs, A1, r1, r2⟩ := As
  obtain ⟨cd, A2, q1, q2⟩ := Ad
  obtain ⟨o1, kS, hkS, cpS, hkindS⟩ := A1.2.1
  obtain ⟨o2, kD, hkD, cpD, hkindD⟩ := A2.2.1
  obtain ⟨kS', hkS', eS⟩ := hZ.alike.2.2 _ _ hkS
  obtain ⟨kD', hkD', eD⟩ := hZ.alike.2.2 _ _ hkD
  have z1 : cs.slots.size = vs.length := by rw [r2]; simp
  have z2 : cd.slots.size = ds.length := by rw [q2]; simp
  have t1 : (Int32.ofNat sp).toInt = sp := Int32.toInt_ofNat_of_lt (by omega)
  have t2 : (Int32.ofNat dp).toInt = dp := Int32.toInt_ofNat_of_lt (by omega)
  have t3 : (Int32.ofNat n).toInt = n := Int32.toInt_ofNat_of_lt (by omega)
  have c1 : (Int32.ofNat sp).toNatClampNeg = sp := by rw [Int32.toNatClampNeg, t1]; rfl
  have c2 : (Int32.ofNat dp).toNatClampNeg = dp := by rw [Int32.toNatClampNeg, t2]; rfl
  have c3 : (Int32.ofNat n).toNatClampNeg = n := by rw [Int32.toNatClampNeg, t3]; rfl
  have n0 : ∀ k : Nat, k < 2147483648 → ¬ Int32.ofNat k < 0 := fun k hk => by
    rw [Int32.lt_iff_toInt_lt, Int32.toInt_ofNat_of_lt hk, show (0 : Int32).toInt = 0 from rfl]; omega
  have hget : ∀ i, i < n → ∃ z, cs.slots.getD (sp + i) .null = .int z ∧ fits .byte (.int z) = true ∧ vs[sp + i]? = some (.int z) := fun i hi => by
    have hl : sp + i < vs.length := by omega
    have hv := hfit vs[sp + i] (List.getElem_mem _)
    obtain ⟨z, hz⟩ := fitsByte_int hv
    refine ⟨z, ?_, by rw [← hz]; exact hv, by rw [List.getElem?_eq_getElem hl, hz]⟩
    rw [r2]; simp [Array.getD, hl, hz]
  have e7 : nativeFrameWords "java/lang/System" "arraycopy" 5 = 7 := by decide
  have hl9 : 2 * 1 + (rest.map fun v => v.category).sum + (nativeFrameWords "java/lang/System" "arraycopy" 5 + 11) ≤ R.locals := by
    have := Nat.le_of_ble_eq_true hlo
    rw [e7]; omega
  obtain ⟨vm', X', st⟩ := X.arraycopy hx hown (mvT hZ wl) (mvT hZ wn) (mvT hZ wst) (mvT hZ wz) (srcPos := Int32.ofNat sp) (destPos := Int32.ofNat dp) (n := Int32.ofNat n) (cs := cs) (cd := cd) (by rw [eT]; exact A1.1) (by rw [eT]; exact A2.1) o1 o2 A1.2.2 A2.2.2 hkS' hkD' (sComp := cpS) (dComp := cpD) (sType := .byte) (dType := .byte) (by rw [eS]; exact hkindS) (by rw [eD]; exact hkindD) rfl (n0 _ (by omega)) (n0 _ (by omega)) (n0 _ (by omega)) (by rw [t1, t3, z1]; omega) (by rw [t2, t3, z2]; omega)
    (fun vm' _ i hi => by
      rw [c3] at hi
      obtain ⟨z, e1, e2, -⟩ := hget i hi
      rw [c1, e1]; exact ⟨e2, trivial⟩)
    (g := mkL lk m pc Ls (.int (Int32.ofNat n) :: .int (Int32.ofNat dp) :: .ref dst :: .int (Int32.ofNat sp) :: .ref src :: rest)) rfl hsz (rest := rest) rfl hd (Nat.le_of_ble_eq_true hf) hl9
  refine (K _ _ _ X' rfl ?_ ?_).via st
  · refine ⟨?_, fun y hy => ?_⟩
    · have f := Cell.storeRun_facts cd (Int32.ofNat dp).toNatClampNeg (cs.stretch (Int32.ofNat sp).toNatClampNeg (Int32.ofNat n).toNatClampNeg)
      rw [← eT]
      exact setKeep (by rw [eT]; exact A2.1) f.1 f.2.1 f.2.2.1
    · obtain ⟨q, -, rfl⟩ := List.mem_map.mp hy
      exact Or.inl (by simp)
  · have f := Cell.storeRun_facts cd (Int32.ofNat dp).toNatClampNeg (cs.stretch (Int32.ofNat sp).toNatClampNeg (Int32.ofNat n).toNatClampNeg)
    have hlt : dst < T.heap.size := by rw [eT]; exact A2.lt
    refine ⟨copied cs cd (Int32.ofNat sp) (Int32.ofNat dp) (Int32.ofNat n), ⟨?_, ?_, ?_⟩, ?_, ?_⟩
    · show (T.heap.setIfInBounds dst _)[dst]? = _
      simp [hlt]
    · obtain ⟨i1, i2⟩ := A2.2.1
      refine ⟨fun k => ?_, ?_⟩
      · show (Cell.storeRun cd _ _).vm ≠ _
        rw [f.2.1]; exact i1 k
      · show ∃ k, Z.vm.classes[(Cell.storeRun cd _ _).cls]? = some k ∧ _
        rw [f.1]; exact i2
    · show (Cell.storeRun cd _ _).vm ≠ _
      rw [f.2.1]; exact A2.2.2
    · show (Cell.storeRun cd _ _).cls = _
      rw [f.1]; exact q1
    · show (Cell.storeRun cd _ _).slots = _
      have hsl : (cs.stretch (Int32.ofNat sp).toNatClampNeg (Int32.ofNat n).toNatClampNeg).length = n := by rw [c3]; simp [Cell.stretch]
      refine Array.ext_getElem? fun j => ?_
      rw [Cell.storeRun_get _ _ _ _ (by rw [hsl, c2, z2]; omega), hsl, c2, ← hvs]
      rw [show ((ds.take dp ++ ((vs.drop sp).take n ++ ds.drop (dp + n))).toArray)[j]? = (ds.take dp ++ ((vs.drop sp).take n ++ ds.drop (dp + n)))[j]? from List.getElem?_toArray]
      by_cases j1 : j < dp
      · rw [if_neg (by omega), List.getElem?_append_left (by simp; omega), q2]
        simp [List.getElem?_take, j1]
      · by_cases j2 : j < dp + n
        · rw [if_pos ⟨by omega, j2⟩, List.getElem?_append_right (by simp; omega)]
          have ht : (ds.take dp).length = dp := by simp; omega
          rw [ht, List.getElem?_append_left (by simp; omega)]
          obtain ⟨z, e1, -, e3⟩ := hget (j - dp) (by omega)
          have hl : j - dp < n := by omega
          rw [List.getElem?_take, if_pos hl, List.getElem?_drop, e3]
          rw [c1, c3]
          simp only [Cell.stretch, List.getElem?_map, List.getElem?_range hl, Option.map_some, e1]
        · rw [if_neg (by omega), List.getElem?_append_right (by simp; omega)]
          have ht : (ds.take dp).length = dp := by simp; omega
          have hm : ((vs.drop sp).take n).length = n := by simp; omega
          rw [ht, List.getElem?_append_right (by omega), hm, List.getElem?_drop, q2]
          simp
          congr 1; omega
end Copies
section Ends
variable {p : Program} {l : Launch} {e : Env} {R : Room} {s : State} {m : MethodId} {args : Array Value} {below : List Frame} {meth : Method} {c : Code} {T : State} {locs : List Loc} {cells slots : Nat} {pc pc' : Nat} {Ls : Array Slot} {rest : List Value} {Q : Option Value → Heap → List Loc → Prop} {k n : Nat} {lk : Addr} {cell : Cell}
theorem finS (X : Stand p l e R (s.setCell lk (cell.withEntry s.cur)) m args below meth c T locs cells slots) (hc : s.heap[lk]? = some cell) (ho : cell.enterable s.cur) (hl : meth.locks = true) {v : Option Value} (hv : meth.sig.returnType = none → v = none) {g : JFrame}
    (st : ∀ V, (∀ (f : JFrame) (acts : List Action), f.method = m → f.locked = some lk → f.entered = [] → (doReturn e (T.setTop f) acts v).1 = V) → Steps p.tables e below (T.setTop g) V) (hk : cells ≤ k) (hn : slots ≤ n) (hQ : ∀ V : State, Mon T.heap V.heap → FrameEnd s (.returned v) V locs k n → Q v V.heap locs) : Go p.tables e below (EndN s Q k n) (T.setTop g) := by
  obtain ⟨V, hr, hrun, hend, M, hW, hsame⟩ := leaveS X hc ho hl (v := v) hv
  have FE : FrameEnd s (.returned v) V locs k n := ⟨⟨_, rfl⟩, hW, hsame.mono hk hn⟩
  exact ⟨V, _, st V hr, hrun, hend, _, _, rfl, hQ V M FE, FE⟩
theorem ireturn (X : Stand p l e R (s.setCell lk (cell.withEntry s.cur)) m args below meth c T locs cells slots) (hx : p.tables.exec = Jvm.exec) (hc : s.heap[lk]? = some cell) (ho : cell.enterable s.cur) (hl : meth.locks = true) {z : Int32} (hret : meth.sig.returnType = some .int) (hd : decode c.code pc = .ok (.ireturn, 1)) (hk : cells ≤ k) (hn : slots ≤ n) (hQ : ∀ V : State, Mon T.heap V.heap → FrameEnd s (.returned (some (.int z))) V locs k n → Q (some (.int z)) V.heap locs) : Go p.tables e below (EndN s Q k n) (T.setTop (mkL lk m pc Ls (.int z :: rest))) :=
  finS X hc ho hl (v := some (.int z)) (fun h => by rw [hret] at h; cases h) (fun V hr => retS X hx hret rfl (Or.inl ⟨rfl, Or.inl rfl, z, rfl⟩) hd hr) hk hn hQ
theorem lreturn (X : Stand p l e R (s.setCell lk (cell.withEntry s.cur)) m args below meth c T locs cells slots) (hx : p.tables.exec = Jvm.exec) (hc : s.heap[lk]? = some cell) (ho : cell.enterable s.cur) (hl : meth.locks = true) {z : Int64} (hret : meth.sig.returnType = some .long) (hd : decode c.code pc = .ok (.lreturn, 1)) (hk : cells ≤ k) (hn : slots ≤ n) (hQ : ∀ V : State, Mon T.heap V.heap → FrameEnd s (.returned (some (.long z))) V locs k n → Q (some (.long z)) V.heap locs) : Go p.tables e below (EndN s Q k n) (T.setTop (mkL lk m pc Ls (.long z :: rest))) :=
  finS X hc ho hl (v := some (.long z)) (fun h => by rw [hret] at h; cases h) (fun V hr => retS X hx hret rfl (Or.inr (Or.inl ⟨rfl, rfl, z, rfl⟩)) hd hr) hk hn hQ
/-- what the end of an invocation says of the cells that were there -/
theorem endKeep {U V : State} {o : Outcome} {L : List Loc} (h : FrameEnd U o V L k n) {ws : List Addr} (q : ∀ y ∈ L, y.base ∈ ws ∨ U.heap.size ≤ y.base) : Keep U.heap V.heap ws := by
  have hs := h.2.2
  refine ⟨hs.2.1, fun x d hx hn => ?_, fun x d hx => ?_⟩
  · obtain ⟨d', h1, h2, -, h4⟩ := hs.2.2.2.2.2 x d hx
    have hb := (Array.getElem?_eq_some_iff.mp hx).1
    have hsl : d'.slots = d.slots := Array.ext_getElem? fun i => h4 i fun hm => (q _ hm).elim hn fun r => absurd hb (Nat.not_lt.mpr r)
    have hcc : d' = d := by rw [h2, hsl]
    rw [← hcc]; exact h1
  · obtain ⟨d', h1, h2, h3, -⟩ := hs.2.2.2.2.2 x d hx
    exact ⟨d', h1, by rw [h2], by rw [h2], h3⟩
theorem endUnt {U V : State} {o : Outcome} {L : List Loc} (h : FrameEnd U o V L k n) {x : Addr} (u : ∃ d : Cell, U.heap[x]? = some d ∧ d.vm = .none ∧ d.monitor = {}) : ∃ d : Cell, V.heap[x]? = some d ∧ d.vm = .none ∧ d.monitor = {} := by
  obtain ⟨d, h0, h1, h2⟩ := u
  obtain ⟨d', g1, g2, -, -⟩ := h.2.2.2.2.2.2.2 x d h0
  exact ⟨d', g1, by rw [g2]; exact h1, by rw [g2]; exact h2⟩
end Ends
section SPays
/-- a synchronized instance method's contract, narrow -/
def SPay (l : Launch) (Z : State) (y : MethodName) (bytes : ByteArray) (maxL : Nat) (ret : Option FieldType) (rm : Room) (as' : Array Value) (a : Addr) (h0 : Heap) (Q : Option Value → Heap → List Loc → Prop) : Prop :=
  ∀ ws : List Jvm.Cond, Jvm.Cond.instanceMethod y ∈ ws → MetFree l y (head1 (Jvm.Cond.codeSync y bytes maxL ret :: ws) rm) (fun as U => as = as' ∧ Z.Warmed39 U.vm ∧ U.heap = h0 ∧ ∃ cell : Cell, h0[a]? = some cell ∧ cell.enterable U.cur) (fun _ _ _ _ _ => True) (fun _ U o U' => ∃ v L, o = .returned v ∧ Q v U'.heap L ∧ FrameEnd U o U' L rm.cells rm.slots)
variable {l : Launch} {Z : State} {y : MethodName} {bytes : ByteArray} {maxL : Nat} {ret : Option FieldType} {rm : Room} {as' : Array Value} {a : Addr} {h0 : Heap} {Q : Option Value → Heap → List Loc → Prop}
theorem SPay.of {Ls : Array Slot} (hpn : plainFor y = true) (hra : as'[0]? = some (.ref a)) (hef : ∀ m, entryFrameSync m as' maxL a = mkL a m 0 Ls [])
    (body : ∀ (p : Program) (e : Env) (s : State) (m : MethodId) (below : List Frame) (meth : Method) (c : Code) (cell : Cell) (T : State), p.tables.exec = Jvm.exec → c.code = bytes → c.maxLocals = maxL → s.vm.findClass y.cls = some m.cls → Z.Warmed39 s.vm → meth.sig.returnType = ret → meth.locks = true → s.heap = h0 → s.heap[a]? = some cell → cell.enterable s.cur → Stand p l e rm (s.setCell a (cell.withEntry s.cur)) m as' below meth c T [] 0 0 → Mon h0 T.heap →
      Go p.tables e below (EndN s Q rm.cells rm.slots) (T.setTop (mkL a m 0 Ls []))) : SPay l Z y bytes maxL ret rm as' a h0 Q := by
  intro ws hin
  refine MetFree.of_bodySync hpn (hisS hin) (fun _ s _ ⟨h1, _, h2, cl, h3, h4⟩ => ⟨a, cl, by rw [h1]; exact hra, by rw [h2]; exact h3, h4⟩) ?_
  intro p e s m args below meth c a' cell s₁ Bd hml0 hP _
  obtain ⟨rfl, hZ, hh, -⟩ := hP
  have ha : a' = a := by have := hra.symm.trans Bd.receiver; simpa using this.symm
  subst ha
  rw [hef m]
  exact body p e s m below meth c cell s₁ Bd.exec Bd.bytes hml0 (findClass_of_methodNamed Bd.named) hZ Bd.returns Bd.synchronized hh Bd.object Bd.enterable (Stand.of_bodySync Bd) (by rw [← hh, Bd.state]; exact mon_set Bd.object _)
variable {p : Program} {e : Env} {R : Room} {s : State} {m : MethodId} {args : Array Value} {below : List Frame} {meth : Method} {c : Code} {T : State} {locs : List Loc} {cells slots : Nat} {G : Outcome → State → Prop} {pc : Nat} {Ls : Array Slot} {a0 : Array Value}
/-- its payer: the receiver's monitor is free -/
theorem backS {len W : Nat} (hP : SPay l Z y bytes maxL ret rm as' a h0 Q) (hZ : Z.Warmed39 s.vm) (wc : (Cond.codeSync y bytes maxL ret).before a0 Z = true) (wi : (Cond.instanceMethod y).before a0 Z = true) (wz : (Cond.initialized y.cls).before a0 Z = true) (N : ∃ d : Cell, h0[a]? = some d ∧ d.vm = .none ∧ d.monitor = {}) (hf : rm.frames + 1 ≤ R.frames) (hl : W + (maxL + 11) + rm.locals ≤ R.locals) :
    Back l R p e below s args y len W (fun A as => as = as' ∧ A.U.heap = h0 ∧ A.cells + rm.cells ≤ R.cells ∧ A.slots + rm.slots ≤ R.slots)
      (fun A _ v B => ∃ L, Q v B.U.heap L ∧ B.locs = A.locs ++ L ∧ B.cells = A.cells + rm.cells ∧ B.slots = A.slots + rm.slots) := by
  refine Jvm.Free.XT.back_of_sync (bytes := bytes) (maxL := maxL) (ret := ret) (E := fun _ _ o t L k n => k = rm.cells ∧ n = rm.slots ∧ ∃ v, o = .returned v ∧ Q v t.heap L) (hP [Cond.instanceMethod y] (List.mem_cons_self ..)) hf hl ?_ ?_ (fun _ _ _ _ _ _ _ _ _ => trivial) ?_ ?_
  · intro m meth c A as Y hp
    have hU : Z.Warmed39 A.U.vm := wtrans hZ Y.warmed
    refine ⟨?_, mv hU wc, mv hU wz, hp.2.2.1, hp.2.2.2⟩
    show (Cond.and _ (Cond.and _ .tt)).before as A.U = true
    rw [Cond.before_and, Cond.before_and, mv hU wc, mv hU wi]; rfl
  · intro m meth c A as g mk Y hp
    obtain ⟨cl, u1, -, u3⟩ := N
    exact ⟨hp.1, wtrans hZ Y.warmed, hp.2.1, cl, u1, by rw [Cell.enterable, u3]; simp⟩
  · rintro _ _ _ _ ⟨v, L, h1, h2, h3⟩
    exact ⟨L, _, _, h3, rfl, rfl, v, h1, h2⟩
  · rintro m meth c A as g mk v t L k n Y hp _ _ ⟨e1, e2, v', e3, e4⟩
    cases e3; subst e1 e2
    exact ⟨L, e4, rfl, rfl, rfl⟩
/-- invokevirtual of a method that a superclass declares (x is named, owner declares it, y is selected), by whoever pays it -/
theorem callUB (X : Stand p l e R s m args below meth c T locs cells slots) (hx : p.tables.exec = Jvm.exec) (hZ : Z.Warmed39 s.vm) {b : Addr} {argsL rest st : List Value} {kc ks : Nat}
    (hK : Back l R p e below s args y 3 ((rest.map fun v => v.category).sum) (fun A a => a = as' ∧ A.U.heap = h0 ∧ A.cells + kc ≤ R.cells ∧ A.slots + ks ≤ R.slots) (fun A _ v B => ∃ L, Q v B.U.heap L ∧ B.locs = A.locs ++ L ∧ B.cells = A.cells + kc ∧ B.slots = A.slots + ks)) (eT : T.heap = h0) {C owner : String} {x : MethodName} {own : String} {index : Nat} (hown : s.vm.findClass own = some m.cls)
    (wl : (Cond.methodLink own index x).before a0 Z = true) (wsm : (Cond.sameMethod x.cls owner x.name x.desc).before a0 Z = true) (wd : (Cond.declares ⟨owner, x.name, x.desc⟩).before a0 Z = true) (wse : (Cond.selects C x y).before a0 Z = true) (win : (Cond.instanceMethod y).before a0 Z = true)
    (hy : owner ≠ "java/lang/invoke/MethodHandle" ∧ owner ≠ "java/lang/invoke/VarHandle") {ps : List FieldType} {rt : Option FieldType} (hpd : parseMethodDescriptor x.desc = some ⟨ps, rt⟩) (hsz : Ls.size = c.maxLocals)
    (E : Exa Z h0 b C) (has : (.ref b :: argsL).toArray = as') (hlen : argsL.length = ps.length) (hst : st = argsL.reverse ++ .ref b :: rest) (hd : decode c.code pc = .ok (.invokevirtual index, 3)) (hce : cells + kc ≤ R.cells) (hsl : slots + ks ≤ R.slots)
    (K : ∀ (v : Option Value) (T' : State) (L : List Loc), Stand p l e R s m args below meth c T' (locs ++ L) (cells + kc) (slots + ks) → Q v T'.heap L → Go p.tables e below G (T'.setTop (mkF m (pc + 3) Ls (v.toList ++ rest)))) :
    Go p.tables e below G (T.setTop (mkF m pc Ls st)) := by
  obtain ⟨cq, kq, qa, qb, qc⟩ := isOf hZ eT E
  obtain ⟨_, _, ⟨T1, L1, k1, n1⟩, -, X1, ⟨Lc, hQ, l1, y1, z1⟩, st1⟩ := X.virtualBackUp hx (x := x) (y := y) hown (mvT hZ wl) (mvT hZ wsm) (mvT hZ wd) hy (mvT hZ wse) (mvT hZ win) hK qa qc (g := mkF m pc Ls st) rfl hsz (Steps.refl _) (argsL := argsL) (rest := rest) (lenOf hpd hlen) hst (by show 2 * 0 + _ ≤ _; omega) hd (fun _ _ => ⟨has, eT, hce, hsl⟩)
  dsimp only [Pt.U, Pt.locs, Pt.cells, Pt.slots] at X1 l1 y1 z1 st1 hQ
  subst l1 y1 z1
  exact (K _ _ _ X1 hQ).thru st1
end SPays
end Jvm.Owl
/- laws to paste: Road.backV (cut by pick.py; bodies as the Statement names them) -/
namespace Jvm.Pilot.@@N@@
namespace StrChars
open Jvm Sem ClassFile Op Lib Jvm.Stand Jvm.Free.XT Jvm.Free.ALB Jvm.Free.JM Jvm.Free
open Jvm.Lib.Cold (StaticIs)
/-- a char array whose places are chars -/
def Ch (a : Addr) (A : Cell) (U : State) : Prop := Arr .char a A U ∧ Typed .char A
theorem Ch.mv {a : Addr} {A : Cell} {U U' : State} (h : Ch a A U) (hal : U.vm.Alike U'.vm) (hh : U'.heap = U.heap) : Ch a A U' := ⟨h.1.mv hal hh, h.2⟩
theorem Ch.keep {a : Addr} {A : Cell} {U U' : State} (h : Ch a A U) (hal : U.vm.Alike U'.vm) (hk : U'.heap[a]? = some A) : Ch a A U' := ⟨h.1.keep hal hk, h.2⟩
/-- what place i of a char[]'s cell holds -/
def cv (A : Cell) (i : Nat) : Int32 := match A.slots[i]? with | some (.int x) => x | _ => 0
theorem Ch.get {a : Addr} {A : Cell} {U : State} (h : Ch a A U) {i : Nat} (hi : i < A.slots.size) : A.slots[i]? = some (.int (cv A i)) := by
  have e := Array.getElem?_eq_getElem hi
  have f := h.2 i _ e
  unfold cv; rw [e]
  generalize A.slots[i] = v at f
  cases v <;> simp [fits] at f ⊢
/-- the byte that i2b leaves of a char -/
def lo8 (x : Int32) : Int32 := x.toInt8.toInt32
theorem fits_lo8 (y : Int32) : fits .byte (.int (lo8 y)) = true := by
  have h1 := y.toInt8.le_toInt
  have h2 := y.toInt8.toInt_lt
  simp only [lo8, fits, Bool.and_eq_true, decide_eq_true_eq, Int32.le_iff_toInt_le, Int8.toInt_toInt32, show (-128 : Int32).toInt = -128 from by decide, show (127 : Int32).toInt = 127 from by decide]
  omega
/-- A' is A but that each place j of lo .. hi - 1 holds f j -/
def Laid (A A' : Cell) (lo hi : Nat) (f : Nat → Value) : Prop := A'.cls = A.cls ∧ A'.vm = A.vm ∧ A'.slots.size = A.slots.size ∧ ∀ i, A'.slots[i]? = if lo ≤ i ∧ i < hi then some (f i) else A.slots[i]?
theorem Laid.zero (A : Cell) (lo : Nat) (f : Nat → Value) : Laid A A lo (lo + 0) f := ⟨rfl, rfl, rfl, fun i => by rw [if_neg (by omega)]⟩
theorem Laid.step {A Ak : Cell} {lo k : Nat} {f : Nat → Value} {v : Value} (h : Laid A Ak lo k f) (hlo : lo ≤ k) (hk : k < Ak.slots.size) (hv : v = f k) : Laid A (Ak.setSlot k v) lo (k + 1) f := by
  refine ⟨h.1, h.2.1, by simpa [Cell.setSlot] using h.2.2.1, fun i => ?_⟩
  by_cases e : k = i
  · subst e; rw [Cell.slots_setSlot_self v hk, if_pos (by omega), hv]
  · rw [Cell.slots_setSlot_ne v e, h.2.2.2 i]
    by_cases q : lo ≤ i ∧ i < k
    · rw [if_pos q, if_pos (by omega)]
    · rw [if_neg q, if_neg (by omega)]
def U16 : String := "java/lang/StringUTF16"
namespace Cmp5
def yN : MethodName := ⟨"java/lang/StringUTF16", "compress", "([CI[BII)I"⟩
abbrev yB : ByteArray := jdk_52_method_21_code
theorem d0 : decode yB 0 = .ok (.iconst 0, 1) := by decide +kernel
theorem d1 : decode yB 1 = .ok (.istore 5, 2) := by decide +kernel
theorem d3 : decode yB 3 = .ok (.iload 5, 2) := by decide +kernel
theorem d5 : decode yB 5 = .ok (.iload 4, 2) := by decide +kernel
theorem d7 : decode yB 7 = .ok (.if_icmp (.ge) 37, 3) := by decide +kernel
theorem d10 : decode yB 10 = .ok (.aload_n 0, 1) := by decide +kernel
theorem d11 : decode yB 11 = .ok (.iload_n 1, 1) := by decide +kernel
theorem d12 : decode yB 12 = .ok (.caload, 1) := by decide +kernel
theorem d13 : decode yB 13 = .ok (.istore 6, 2) := by decide +kernel
theorem d15 : decode yB 15 = .ok (.iload 6, 2) := by decide +kernel
theorem d17 : decode yB 17 = .ok (.sipush 255, 3) := by decide +kernel
theorem d20 : decode yB 20 = .ok (.if_icmp (.le) 6, 3) := by decide +kernel
theorem d26 : decode yB 26 = .ok (.aload_n 2, 1) := by decide +kernel
theorem d27 : decode yB 27 = .ok (.iload_n 3, 1) := by decide +kernel
theorem d28 : decode yB 28 = .ok (.iload 6, 2) := by decide +kernel
theorem d30 : decode yB 30 = .ok (.i2b, 1) := by decide +kernel
theorem d31 : decode yB 31 = .ok (.bastore, 1) := by decide +kernel
theorem d32 : decode yB 32 = .ok (.iinc 1 1, 3) := by decide +kernel
theorem d35 : decode yB 35 = .ok (.iinc 3 1, 3) := by decide +kernel
theorem d38 : decode yB 38 = .ok (.iinc 5 1, 3) := by decide +kernel
theorem d41 : decode yB 41 = .ok (.goto (-38), 3) := by decide +kernel
theorem d44 : decode yB 44 = .ok (.iload 4, 2) := by decide +kernel
theorem d46 : decode yB 46 = .ok (.ireturn, 1) := by decide +kernel
def site : List Cond := []
def tab : Cond := tabOf yN yB 7 (some .int) site
def P (b : Addr) (A : Cell) (d : Addr) (B : Cell) (o q len : Nat) (args : Array Value) (s : State) : Prop := args = #[.ref b, .int (Int32.ofNat o), .ref d, .int (Int32.ofNat q), .int (Int32.ofNat len)] ∧ Ch b A s ∧ Arr .byte d B s ∧ b ≠ d ∧ o + len ≤ A.slots.size ∧ q + len ≤ B.slots.size ∧ ∀ i, i < len → ¬ 255 < cv A (o + i)
def E (b : Addr) (A : Cell) (d : Addr) (B : Cell) (o q len : Nat) (r : Option Value) (s u : State) : Prop := r = some (.int (Int32.ofNat len)) ∧ ∃ B', Put d B' s u ∧ Laid B B' q (q + len) (fun j => Value.int (lo8 (cv A (o + (j - q)))))
/-- no char of the range above 255: len; the places written hold each char's low byte -/
theorem law (l : Launch) (b : Addr) (A : Cell) (d : Addr) (B : Cell) (o q len : Nat) : Law l yN 5 5 0 0 yB 7 (some .int) site (P b A d B o q len) (E b A d B o q len) (copyLocs d q len) 0 0 := by
  refine Law.of_walk (plainFor_of_name (by decide +kernel)) (by decide +kernel) (by decide +kernel) (by decide) (fun _ _ h => by rw [h.1]; rfl) (fun _ U U' hal hh h => ⟨h.1, h.2.1.mv hal hh, h.2.2.1.mv hal hh, h.2.2.2⟩) (fun r U U' V V' h1 hal h2 h => ⟨h.1, h.2.elim fun B' q => ⟨B', q.1.mv h1 h2, q.2⟩⟩) ?_
  intro p e s m args below meth c s₁ X0 hexec hbytes hml hret hlk hnm hown hh0 W hP
  obtain ⟨rfl, hA, hB, hne, l1, l2, hp⟩ := hP
  have c1 : Steps p.tables e below (s₁.setTop (entryFrame m #[.ref b, .int (Int32.ofNat o), .ref d, .int (Int32.ofNat q), .int (Int32.ofNat len)] 7)) (s₁.setTop (mkF m 0 #[.val (.ref b), .val (.int (Int32.ofNat o)), .val (.ref d), .val (.int (Int32.ofNat q)), .val (.int (Int32.ofNat len)), .unset, .unset] [])) := entry rfl
  have hA0 := hA.1.mv X0.warmed.alike hh0
  have hB0 := hB.mv X0.warmed.alike hh0
  have a31 := hA.1.2.2.2
  have c2 : Steps p.tables e below (s₁.setTop (entryFrame m #[.ref b, .int (Int32.ofNat o), .ref d, .int (Int32.ofNat q), .int (Int32.ofNat len)] 7)) (s₁.setTop (mkF m 3 #[.val (.ref b), .val (.int (Int32.ofNat o)), .val (.ref d), .val (.int (Int32.ofNat q)), .val (.int (Int32.ofNat len)), .val (.int 0), .unset] [])) := c1.trans (by
    refine iconstV X0.here hexec rfl 0 (hb hbytes d0) (by decide) ?_
    refine XS.istore X0.here hexec rfl (hb hbytes d1) rfl rfl ?_
    exact Steps.refl _)
  have loop : ∀ (r i : Nat), i + r = len → ∀ (z : Slot), (z = .unset ∨ ∃ w, z = .val w ∧ w.category = 1) → ∀ (Tl : State) (Bk : Cell), Stand p l e { frames := 0, locals := 0, cells := 0, slots := 0 } s m #[.ref b, .int (Int32.ofNat o), .ref d, .int (Int32.ofNat q), .int (Int32.ofNat len)] below meth c Tl ([] ++ copyLocs d q i) 0 0 → Put d Bk s₁ Tl → Laid B Bk q (q + i) (fun j => Value.int (lo8 (cv A (o + (j - q))))) →
      Steps p.tables e below (s₁.setTop (entryFrame m #[.ref b, .int (Int32.ofNat o), .ref d, .int (Int32.ofNat q), .int (Int32.ofNat len)] 7)) (Tl.setTop (mkF m 3 #[.val (.ref b), .val (.int (Int32.ofNat (o + i))), .val (.ref d), .val (.int (Int32.ofNat (q + i))), .val (.int (Int32.ofNat len)), .val (.int (Int32.ofNat i)), z] [])) → ∃ (T' : State) (B' : Cell) (z' : Slot), Stand p l e { frames := 0, locals := 0, cells := 0, slots := 0 } s m #[.ref b, .int (Int32.ofNat o), .ref d, .int (Int32.ofNat q), .int (Int32.ofNat len)] below meth c T' ([] ++ copyLocs d q len) 0 0 ∧ Put d B' s₁ T' ∧ Laid B B' q (q + len) (fun j => Value.int (lo8 (cv A (o + (j - q))))) ∧
      Steps p.tables e below (s₁.setTop (entryFrame m #[.ref b, .int (Int32.ofNat o), .ref d, .int (Int32.ofNat q), .int (Int32.ofNat len)] 7)) (T'.setTop (mkF m 3 #[.val (.ref b), .val (.int (Int32.ofNat (o + len))), .val (.ref d), .val (.int (Int32.ofNat (q + len))), .val (.int (Int32.ofNat len)), .val (.int (Int32.ofNat len)), z'] [])) := by
    intro r
    induction r with
    | zero =>
      intro i hi z hz Tl Bk Xl pl fl cl
      have hil : i = len := by omega
      rw [hil] at Xl fl cl
      exact ⟨Tl, Bk, z, Xl, pl, fl, cl⟩
    | succ r ih =>
      intro i hi z hz Tl Bk Xl pl fl cl
      have all := X0.warmed.alike.symm.trans Xl.warmed.alike
      have hAl := hA0.keep all (pl.other hne hA0.1)
      have hBk := hB0.like all pl.1 fl.1 fl.2.1 fl.2.2.1
      have hlt : q + i < Bk.slots.size := by rw [fl.2.2.1]; omega
      have c3 : Steps p.tables e below (s₁.setTop (entryFrame m #[.ref b, .int (Int32.ofNat o), .ref d, .int (Int32.ofNat q), .int (Int32.ofNat len)] 7)) (Tl.setTop (mkF m 12 #[.val (.ref b), .val (.int (Int32.ofNat (o + i))), .val (.ref d), .val (.int (Int32.ofNat (q + i))), .val (.int (Int32.ofNat len)), .val (.int (Int32.ofNat i)), z] [.int (Int32.ofNat (o + i)), .ref b])) := cl.trans (by
        refine XS.iload Xl.here hexec rfl (hb hbytes d3) rfl ?_
        refine XS.iload Xl.here hexec rfl (hb hbytes d5) rfl ?_
        refine XS.icmpNo Xl.here hexec rfl (hb hbytes d7) rfl (ii_ge_f (lt32 (by omega) (by omega))) ?_
        refine XS.aloadN Xl.here hexec rfl (hb hbytes d10) rfl rfl ?_
        refine XS.iloadN Xl.here hexec rfl (hb hbytes d11) rfl ?_
        exact Steps.refl _)
      have c4 : Steps p.tables e below (s₁.setTop (entryFrame m #[.ref b, .int (Int32.ofNat o), .ref d, .int (Int32.ofNat q), .int (Int32.ofNat len)] 7)) (Tl.setTop (mkF m 13 #[.val (.ref b), .val (.int (Int32.ofNat (o + i))), .val (.ref d), .val (.int (Int32.ofNat (q + i))), .val (.int (Int32.ofNat len)), .val (.int (Int32.ofNat i)), z] [.int (cv A (o + i))])) := c3.trans (by
        refine Xl.aget hexec hAl rfl (hA.get (i := o + i) (by omega)) rfl rfl (hb hbytes d12) ?_
        exact Steps.refl _)
      have c5 : Steps p.tables e below (s₁.setTop (entryFrame m #[.ref b, .int (Int32.ofNat o), .ref d, .int (Int32.ofNat q), .int (Int32.ofNat len)] 7)) (Tl.setTop (mkF m 15 #[.val (.ref b), .val (.int (Int32.ofNat (o + i))), .val (.ref d), .val (.int (Int32.ofNat (q + i))), .val (.int (Int32.ofNat len)), .val (.int (Int32.ofNat i)), .val (.int (cv A (o + i)))] [])) := c4.trans (by
        refine XS.istoreS Xl.here hexec rfl (hb hbytes d13) rfl rfl hz ?_
        exact Steps.refl _)
      have c6 : Steps p.tables e below (s₁.setTop (entryFrame m #[.ref b, .int (Int32.ofNat o), .ref d, .int (Int32.ofNat q), .int (Int32.ofNat len)] 7)) (Tl.setTop (mkF m 31 #[.val (.ref b), .val (.int (Int32.ofNat (o + i))), .val (.ref d), .val (.int (Int32.ofNat (q + i))), .val (.int (Int32.ofNat len)), .val (.int (Int32.ofNat i)), .val (.int (cv A (o + i)))] [.int (lo8 (cv A (o + i))), .int (Int32.ofNat (q + i)), .ref d])) := c5.trans (by
        refine XS.iload Xl.here hexec rfl (hb hbytes d15) rfl ?_
        refine sipushV Xl.here hexec rfl 255 (hb hbytes d17) (by decide) ?_
        refine XS.icmpYes Xl.here hexec rfl (pc0 := 20) rfl (hb hbytes d20) rfl (ii_le_t (hp i (by omega))) (by decide) rfl ?_
        refine XS.aloadN Xl.here hexec rfl (hb hbytes d26) rfl rfl ?_
        refine XS.iloadN Xl.here hexec rfl (hb hbytes d27) rfl ?_
        refine XS.iload Xl.here hexec rfl (hb hbytes d28) rfl ?_
        refine i2b Xl.here hexec rfl (hb hbytes d30) rfl ?_
        exact Steps.refl _)
      obtain ⟨T7, X7, p7, st7⟩ := Xl.aput hexec hBk rfl hlt rfl (fits_lo8 (cv A (o + i))) (g := (mkF m 31 #[.val (.ref b), .val (.int (Int32.ofNat (o + i))), .val (.ref d), .val (.int (Int32.ofNat (q + i))), .val (.int (Int32.ofNat len)), .val (.int (Int32.ofNat i)), .val (.int (cv A (o + i)))] [.int (lo8 (cv A (o + i))), .int (Int32.ofNat (q + i)), .ref d])) rfl (rest := []) rfl (hb hbytes d31)
      have c8 : Steps p.tables e below (s₁.setTop (entryFrame m #[.ref b, .int (Int32.ofNat o), .ref d, .int (Int32.ofNat q), .int (Int32.ofNat len)] 7)) (T7.setTop (mkF m 32 #[.val (.ref b), .val (.int (Int32.ofNat (o + i))), .val (.ref d), .val (.int (Int32.ofNat (q + i))), .val (.int (Int32.ofNat len)), .val (.int (Int32.ofNat i)), .val (.int (cv A (o + i)))] [])) := c6.trans (st7 _ (Steps.refl _))
      have c9 : Steps p.tables e below (s₁.setTop (entryFrame m #[.ref b, .int (Int32.ofNat o), .ref d, .int (Int32.ofNat q), .int (Int32.ofNat len)] 7)) (T7.setTop (mkF m 3 #[.val (.ref b), .val (.int (Int32.ofNat (o + i) + 1)), .val (.ref d), .val (.int (Int32.ofNat (q + i) + 1)), .val (.int (Int32.ofNat len)), .val (.int (Int32.ofNat i + 1)), .val (.int (cv A (o + i)))] [])) := c8.trans (by
        refine iincV X7.here hexec rfl 1 (hb hbytes d32) (by decide) rfl rfl ?_
        refine iincV X7.here hexec rfl 1 (hb hbytes d35) (by decide) rfl rfl ?_
        refine iincV X7.here hexec rfl 1 (hb hbytes d38) (by decide) rfl rfl ?_
        refine XS.goto X7.here hexec rfl (pc0 := 41) rfl (hb hbytes d41) (by decide) rfl ?_
        exact Steps.refl _)
      have c10 : Steps p.tables e below (s₁.setTop (entryFrame m #[.ref b, .int (Int32.ofNat o), .ref d, .int (Int32.ofNat q), .int (Int32.ofNat len)] 7)) (T7.setTop (mkF m 3 #[.val (.ref b), .val (.int (Int32.ofNat (o + (i + 1)))), .val (.ref d), .val (.int (Int32.ofNat (q + (i + 1)))), .val (.int (Int32.ofNat len)), .val (.int (Int32.ofNat (i + 1))), .val (.int (cv A (o + i)))] [])) := by
        have := c9
        rw [succ32, succ32, succ32] at this
        exact this
      exact ih (i + 1) (by omega) _ (Or.inr ⟨_, rfl, rfl⟩) T7 _ (by rw [copyLocs_step, ← List.append_assoc]; exact X7) (pl.trans p7) (fl.step (by omega) hlt (by simp)) c10
  obtain ⟨T9, B9, z9, X9, p9, f9, g9⟩ := loop len 0 (by omega) .unset (Or.inl rfl) s₁ B (by simpa [copyLocs] using X0) ⟨hB0.1, fun _ _ => rfl, rfl⟩ (Laid.zero _ _ _) c2
  have c11 : Steps p.tables e below (s₁.setTop (entryFrame m #[.ref b, .int (Int32.ofNat o), .ref d, .int (Int32.ofNat q), .int (Int32.ofNat len)] 7)) (T9.setTop (mkF m 46 #[.val (.ref b), .val (.int (Int32.ofNat (o + len))), .val (.ref d), .val (.int (Int32.ofNat (q + len))), .val (.int (Int32.ofNat len)), .val (.int (Int32.ofNat len)), z9] [.int (Int32.ofNat len)])) := g9.trans (by
    refine XS.iload X9.here hexec rfl (hb hbytes d3) rfl ?_
    refine XS.iload X9.here hexec rfl (hb hbytes d5) rfl ?_
    refine XS.icmpYes X9.here hexec rfl (pc0 := 7) rfl (hb hbytes d7) rfl (ii_ge_t (nlt32 (by omega) (Nat.le_refl _))) (by decide) rfl ?_
    refine XS.iload X9.here hexec rfl (hb hbytes d44) rfl ?_
    exact Steps.refl _)
  exact ⟨T9, some (.int (Int32.ofNat len)), _, _, _, X9, by simp, rfl, rfl, (fun h => by cases h), ⟨rfl, B9, p9.from hh0, f9⟩, fun fs hl => c11.trans (X9.ireturnOut hexec hret rfl (Or.inl rfl) (hb hbytes d46) hl)⟩
end Cmp5
namespace Cmp3
def yN : MethodName := ⟨"java/lang/StringUTF16", "compress", "([CII)[B"⟩
abbrev yB : ByteArray := jdk_52_method_16_code
theorem d0 : decode yB 0 = .ok (.iload_n 2, 1) := by decide +kernel
theorem d1 : decode yB 1 = .ok (.newarray .byte, 2) := by decide +kernel
theorem d3 : decode yB 3 = .ok (.astore_n 3, 1) := by decide +kernel
theorem d4 : decode yB 4 = .ok (.aload_n 0, 1) := by decide +kernel
theorem d5 : decode yB 5 = .ok (.iload_n 1, 1) := by decide +kernel
theorem d6 : decode yB 6 = .ok (.aload_n 3, 1) := by decide +kernel
theorem d7 : decode yB 7 = .ok (.iconst 0, 1) := by decide +kernel
theorem d8 : decode yB 8 = .ok (.iload_n 2, 1) := by decide +kernel
theorem d9 : decode yB 9 = .ok (.invokestatic 115, 3) := by decide +kernel
theorem d12 : decode yB 12 = .ok (.istore 4, 2) := by decide +kernel
theorem d14 : decode yB 14 = .ok (.iload 4, 2) := by decide +kernel
theorem d16 : decode yB 16 = .ok (.iload_n 2, 1) := by decide +kernel
theorem d17 : decode yB 17 = .ok (.if_icmp (.eq) 40, 3) := by decide +kernel
theorem d57 : decode yB 57 = .ok (.aload_n 3, 1) := by decide +kernel
theorem d58 : decode yB 58 = .ok (.areturn, 1) := by decide +kernel
def site : List Cond := [.arrayClass .byte, Cmp5.tab] ++ staticW U16 115 Cmp5.yN
def tab : Cond := tabOf yN yB 6 (some (.array .byte)) site
def P (b : Addr) (A : Cell) (o len : Nat) (args : Array Value) (s : State) : Prop := args = #[.ref b, .int (Int32.ofNat o), .int (Int32.ofNat len)] ∧ Ch b A s ∧ o + len ≤ A.slots.size ∧ len ≤ 536870912 ∧ ∀ i, i < len → ¬ 255 < cv A (o + i)
def E (b : Addr) (A : Cell) (o len : Nat) (r : Option Value) (s u : State) : Prop := NewArr .byte "[B" len (fun j => .int (lo8 (cv A (o + j)))) r s u ∧ u.heap.size = s.heap.size + 1
/-- no char of the range above 255: a new byte[] of their low bytes -/
theorem law (l : Launch) (b : Addr) (A : Cell) (o len : Nat) : Law l yN 3 3 1 18 yB 6 (some (.array .byte)) site (P b A o len) (E b A o len) [] 1 len := by
  refine Law.of_walk (plainFor_of_name (by decide +kernel)) (by decide +kernel) (by decide +kernel) (by decide) (fun _ _ h => by rw [h.1]; rfl) (fun _ U U' hal hh h => ⟨h.1, h.2.1.mv hal hh, h.2.2⟩) (fun r U U' V V' h1 hal h2 h => ⟨NewArr.mv r U U' V V' h1 hal h2 h.1, by rw [h1, h2]; exact h.2⟩) ?_
  intro p e s m args below meth c s₁ X0 hexec hbytes hml hret hlk hnm hown hh0 W hP
  obtain ⟨rfl, hA, l1, l2, hp⟩ := hP
  have a31 := hA.1.2.2.2
  have c1 : Steps p.tables e below (s₁.setTop (entryFrame m #[.ref b, .int (Int32.ofNat o), .int (Int32.ofNat len)] 6)) (s₁.setTop (mkF m 0 #[.val (.ref b), .val (.int (Int32.ofNat o)), .val (.int (Int32.ofNat len)), .unset, .unset, .unset] [])) := entry rfl
  have c2 : Steps p.tables e below (s₁.setTop (entryFrame m #[.ref b, .int (Int32.ofNat o), .int (Int32.ofNat len)] 6)) (s₁.setTop (mkF m 1 #[.val (.ref b), .val (.int (Int32.ofNat o)), .val (.int (Int32.ofNat len)), .unset, .unset, .unset] [.int (Int32.ofNat len)])) := c1.trans (by
    refine XS.iloadN X0.here hexec rfl (hb hbytes d0) rfl ?_
    exact Steps.refl _)
  obtain ⟨T3, B3, X3, ba3, bs3, bv3, bh3, bf3, st3⟩ := X0.anew hexec (atype := .byte) (wk W (.arrayClass .byte)) rfl (by show len * 1 ≤ _; omega) (by omega) (g := (mkF m 1 #[.val (.ref b), .val (.int (Int32.ofNat o)), .val (.int (Int32.ofNat len)), .unset, .unset, .unset] [.int (Int32.ofNat len)])) rfl (hb hbytes d1) (rest := []) rfl (Nat.le_refl _) (by show 0 + len ≤ len; omega)
  rw [hh0] at ba3 st3
  have kp3 : XT.Kept s T3 := (XT.Kept.of_eq hh0).push bh3
  have hA3 := hA.keep X3.warmed.alike (kp3 _ _ hA.1.1)
  have hne : b ≠ s.heap.size := hA.1.ne
  have c4 : Steps p.tables e below (s₁.setTop (entryFrame m #[.ref b, .int (Int32.ofNat o), .int (Int32.ofNat len)] 6)) (T3.setTop (mkF m 3 #[.val (.ref b), .val (.int (Int32.ofNat o)), .val (.int (Int32.ofNat len)), .unset, .unset, .unset] [.ref s.heap.size])) := c2.trans (st3 _ (Steps.refl _))
  have c5 : Steps p.tables e below (s₁.setTop (entryFrame m #[.ref b, .int (Int32.ofNat o), .int (Int32.ofNat len)] 6)) (T3.setTop (mkF m 9 #[.val (.ref b), .val (.int (Int32.ofNat o)), .val (.int (Int32.ofNat len)), .val (.ref s.heap.size), .unset, .unset] [.int (Int32.ofNat len), .int 0, .ref s.heap.size, .int (Int32.ofNat o), .ref b])) := c4.trans (by
    refine XS.astoreN X3.here hexec rfl (hb hbytes d3) rfl rfl rfl ?_
    refine XS.aloadN X3.here hexec rfl (hb hbytes d4) rfl rfl ?_
    refine XS.iloadN X3.here hexec rfl (hb hbytes d5) rfl ?_
    refine XS.aloadN X3.here hexec rfl (hb hbytes d6) rfl rfl ?_
    refine iconstV X3.here hexec rfl 0 (hb hbytes d7) (by decide) ?_
    refine XS.iloadN X3.here hexec rfl (hb hbytes d8) rfl ?_
    exact Steps.refl _)
  obtain ⟨v6, T6, X6, E6, g6⟩ := X3.callS hexec (Cmp5.law l b A s.heap.size B3 o 0 len) hown (wks W (staticW U16 115 Cmp5.yN)) (wk W Cmp5.tab) (W := 0) (Nat.le_of_ble_eq_true rfl) (Nat.le_of_ble_eq_true rfl) (Nat.le_refl _) (by show 0 + len + 0 ≤ len; omega) (g := (mkF m 9 #[.val (.ref b), .val (.int (Int32.ofNat o)), .val (.int (Int32.ofNat len)), .val (.ref s.heap.size), .unset, .unset] [.int (Int32.ofNat len), .int (Int32.ofNat 0), .ref s.heap.size, .int (Int32.ofNat o), .ref b])) rfl (by rw [hml]; rfl) c5 (argsL := [.ref b, .int (Int32.ofNat o), .ref s.heap.size, .int (Int32.ofNat 0), .int (Int32.ofNat len)]) (rest := []) rfl rfl (by show 2 * 0 + 0 ≤ _; decide) (hb hbytes d9) (⟨rfl, hA3, ba3, hne, l1, by rw [bs3]; simp, hp⟩)
  obtain ⟨rfl, B6, p6, f6⟩ := E6
  have c7 : Steps p.tables e below (s₁.setTop (entryFrame m #[.ref b, .int (Int32.ofNat o), .int (Int32.ofNat len)] 6)) (T6.setTop (mkF m 12 #[.val (.ref b), .val (.int (Int32.ofNat o)), .val (.int (Int32.ofNat len)), .val (.ref s.heap.size), .unset, .unset] [.int (Int32.ofNat len)])) := g6
  have c8 : Steps p.tables e below (s₁.setTop (entryFrame m #[.ref b, .int (Int32.ofNat o), .int (Int32.ofNat len)] 6)) (T6.setTop (mkF m 58 #[.val (.ref b), .val (.int (Int32.ofNat o)), .val (.int (Int32.ofNat len)), .val (.ref s.heap.size), .val (.int (Int32.ofNat len)), .unset] [.ref s.heap.size])) := c7.trans (by
    refine XS.istore X6.here hexec rfl (hb hbytes d12) rfl rfl ?_
    refine XS.iload X6.here hexec rfl (hb hbytes d14) rfl ?_
    refine XS.iloadN X6.here hexec rfl (hb hbytes d16) rfl ?_
    refine XS.icmpYes X6.here hexec rfl (pc0 := 17) rfl (hb hbytes d17) rfl (ii_eq_t rfl) (by decide) rfl ?_
    refine XS.aloadN X6.here hexec rfl (hb hbytes d57) rfl rfl ?_
    exact Steps.refl _)
  have X8 := X6.wide (L' := []) (cells' := 1) (slots' := len) (fun x hx hlt => by
    simp only [List.nil_append, copyLocs, List.mem_map, List.mem_range] at hx
    obtain ⟨i, -, rfl⟩ := hx
    exact absurd hlt (Nat.lt_irrefl _)) (Nat.le_refl _) (by omega)
  exact ⟨T6, some (.ref s.heap.size), _, _, _, X8, rfl, rfl, rfl, (fun h => by cases h), ⟨⟨rfl, B6, ba3.like (X3.warmed.alike.symm.trans X6.warmed.alike) p6.1 f6.1 f6.2.1 f6.2.2.1, f6.2.1.trans bv3, by rw [X6.warmed.alike.findClass, f6.1]; exact bf3, by rw [f6.2.2.1, bs3]; simp, fun j hj => by rw [f6.2.2.2 j, if_pos (by omega)]; rfl, kp3.put p6 (Nat.le_refl _)⟩, by rw [p6.2.2, bh3, hh0]; simp⟩, fun fs hl => c8.trans (X8.areturnOut hexec rfl hret rfl (hb hbytes d58) hl)⟩
end Cmp3
namespace CodL
def yN : MethodName := ⟨"java/lang/StringUTF16", "coderFromArrayLen", "([BI)B"⟩
abbrev yB : ByteArray := jdk_52_method_15_code
theorem d0 : decode yB 0 = .ok (.iload_n 1, 1) := by decide +kernel
theorem d1 : decode yB 1 = .ok (.aload_n 0, 1) := by decide +kernel
theorem d2 : decode yB 2 = .ok (.arraylength, 1) := by decide +kernel
theorem d3 : decode yB 3 = .ok (.isub, 1) := by decide +kernel
theorem d4 : decode yB 4 = .ok (.bipush 31, 2) := by decide +kernel
theorem d6 : decode yB 6 = .ok (.iushr, 1) := by decide +kernel
theorem d7 : decode yB 7 = .ok (.i2b, 1) := by decide +kernel
theorem d8 : decode yB 8 = .ok (.ireturn, 1) := by decide +kernel
def site : List Cond := []
def tab : Cond := tabOf yN yB 2 (some .byte) site
def P (d : Addr) (B : Cell) (args : Array Value) (s : State) : Prop := args = #[.ref d, .int (Int32.ofNat B.slots.size)] ∧ Arr .byte d B s
def E (r : Option Value) (s u : State) : Prop := XT.PureE (some (.int 0)) r s u
/-- an array as long as the number of chars: LATIN1 -/
theorem law (l : Launch) (d : Addr) (B : Cell) : Law l yN 2 2 0 0 yB 2 (some .byte) site (P d B) E [] 0 0 := by
  refine Law.of_walk (plainFor_of_name (by decide +kernel)) (by decide +kernel) (by decide +kernel) (by decide) (fun _ _ h => by rw [h.1]; rfl) (fun _ U U' hal hh h => ⟨h.1, h.2.mv hal hh⟩) (fun r U U' V V' h1 hal h2 h => XT.PureE.mv r U U' V V' h1 hal h2 h) ?_
  intro p e s m args below meth c s₁ X0 hexec hbytes hml hret hlk hnm hown hh0 W hP
  obtain ⟨rfl, hB⟩ := hP
  have hB0 := hB.mv X0.warmed.alike hh0
  have c1 : Steps p.tables e below (s₁.setTop (entryFrame m #[.ref d, .int (Int32.ofNat B.slots.size)] 2)) (s₁.setTop (mkF m 0 #[.val (.ref d), .val (.int (Int32.ofNat B.slots.size))] [])) := entry rfl
  have c2 : Steps p.tables e below (s₁.setTop (entryFrame m #[.ref d, .int (Int32.ofNat B.slots.size)] 2)) (s₁.setTop (mkF m 2 #[.val (.ref d), .val (.int (Int32.ofNat B.slots.size))] [.ref d, .int (Int32.ofNat B.slots.size)])) := c1.trans (by
    refine XS.iloadN X0.here hexec rfl (hb hbytes d0) rfl ?_
    refine XS.aloadN X0.here hexec rfl (hb hbytes d1) rfl rfl ?_
    exact Steps.refl _)
  have c3 : Steps p.tables e below (s₁.setTop (entryFrame m #[.ref d, .int (Int32.ofNat B.slots.size)] 2)) (s₁.setTop (mkF m 8 #[.val (.ref d), .val (.int (Int32.ofNat B.slots.size))] [.int (lo8 (ushr (Int32.ofNat B.slots.size - Int32.ofNat B.slots.size) 31))])) := c2.trans (by
    refine X0.alen hexec hB0 rfl rfl (hb hbytes d2) ?_
    refine XS.isub X0.here hexec rfl (hb hbytes d3) rfl ?_
    refine bipushV X0.here hexec rfl 31 (hb hbytes d4) (by decide) ?_
    refine iushr X0.here hexec rfl (hb hbytes d6) rfl ?_
    refine i2b X0.here hexec rfl (hb hbytes d7) rfl ?_
    exact Steps.refl _)
  have e0 : lo8 (ushr (Int32.ofNat B.slots.size - Int32.ofNat B.slots.size) 31) = 0 := by rw [Int32.sub_self]; decide
  rw [e0] at c3
  exact ⟨s₁, some (.int 0), _, _, _, X0, rfl, rfl, rfl, (fun h => by cases h), ⟨rfl, hh0⟩, fun fs hl => c3.trans (X0.ireturnOut hexec hret rfl (Or.inr (Or.inr (Or.inl rfl))) (hb hbytes d8) hl)⟩
end CodL
/-- the String at a is Latin-1 over a new byte[] (the heap's one new cell): the low bytes of the len chars of A from o on; every cell but a is kept -/
def Got (a : Addr) (D : Cell) (fV fC : Field) (A : Cell) (o len : Nat) (r : Option Value) (s u : State) : Prop := r = none ∧ ∃ D' V : Cell, Blank "java/lang/String" a D' u ∧ Same D D' [fV.slot, fC.slot] ∧ D'.slots[fV.slot]? = some (.ref s.heap.size) ∧ D'.slots[fC.slot]? = some (.int 0) ∧ Arr .byte s.heap.size V u ∧ V.vm = .none ∧ u.vm.findClass "[B" = some V.cls ∧ V.slots.size = len ∧ (∀ j, j < len → V.slots[j]? = some (.int (lo8 (cv A (o + j))))) ∧ (∀ (y : Addr) (c : Cell), y ≠ a → s.heap[y]? = some c → u.heap[y]? = some c) ∧ u.heap.size = s.heap.size + 1
theorem Got.mv {a : Addr} {D A : Cell} {fV fC : Field} {o len : Nat} : ∀ r (U U' V V' : State), U'.heap = U.heap → V.vm.Alike V'.vm → V'.heap = V.heap → Got a D fV fC A o len r U V → Got a D fV fC A o len r U' V' :=
  fun r U U' V V' h1 hal h2 ⟨e0, D', X, a1, a2, a3, a4, a5, a6, a7, a8, a9, a10, a11⟩ => ⟨e0, D', X, a1.mv hal h2, a2, by rw [h1]; exact a3, a4, by rw [h1]; exact a5.mv hal h2, a6, by rw [hal.findClass]; exact a7, a8, a9, by rw [h1, h2]; exact a10, by rw [h1, h2]; exact a11⟩
namespace New4
def yN : MethodName := ⟨"java/lang/String", "<init>", "([CIILjava/lang/Void;)V"⟩
abbrev yB : ByteArray := jdk_42_method_149_code
theorem d0 : decode yB 0 = .ok (.aload_n 0, 1) := by decide +kernel
theorem d1 : decode yB 1 = .ok (.invokespecial 1, 3) := by decide +kernel
theorem d4 : decode yB 4 = .ok (.iload_n 3, 1) := by decide +kernel
theorem d5 : decode yB 5 = .ok (.ifCond (.ne) 22, 3) := by decide +kernel
theorem d27 : decode yB 27 = .ok (.getstatic 38, 3) := by decide +kernel
theorem d30 : decode yB 30 = .ok (.ifCond (.eq) 28, 3) := by decide +kernel
theorem d33 : decode yB 33 = .ok (.aload_n 1, 1) := by decide +kernel
theorem d34 : decode yB 34 = .ok (.iload_n 2, 1) := by decide +kernel
theorem d35 : decode yB 35 = .ok (.iload_n 3, 1) := by decide +kernel
theorem d36 : decode yB 36 = .ok (.invokestatic 177, 3) := by decide +kernel
theorem d39 : decode yB 39 = .ok (.astore 5, 2) := by decide +kernel
theorem d41 : decode yB 41 = .ok (.aload_n 0, 1) := by decide +kernel
theorem d42 : decode yB 42 = .ok (.aload 5, 2) := by decide +kernel
theorem d44 : decode yB 44 = .ok (.iload_n 3, 1) := by decide +kernel
theorem d45 : decode yB 45 = .ok (.invokestatic 47, 3) := by decide +kernel
theorem d48 : decode yB 48 = .ok (.putfield 15, 3) := by decide +kernel
theorem d51 : decode yB 51 = .ok (.aload_n 0, 1) := by decide +kernel
theorem d52 : decode yB 52 = .ok (.aload 5, 2) := by decide +kernel
theorem d54 : decode yB 54 = .ok (.putfield 9, 3) := by decide +kernel
theorem d57 : decode yB 57 = .ok (.return_, 1) := by decide +kernel
def site : List Cond := [.fieldLink "java/lang/String" 38 "java/lang/String" "COMPACT_STRINGS" "Z", Cmp3.tab, CodL.tab, .laysFinal "java/lang/String" "java/lang/String" "value" "[B", .fieldLink "java/lang/String" 9 "java/lang/String" "value" "[B", .laysFinal "java/lang/String" "java/lang/String" "coder" "B", .fieldLink "java/lang/String" 15 "java/lang/String" "coder" "B"] ++ objW "java/lang/String" 1 ++ staticW "java/lang/String" 177 Cmp3.yN ++ staticW "java/lang/String" 47 CodL.yN
def tab : Cond := tabOf yN yB 6 none site
def P (a : Addr) (D : Cell) (fV fC : Field) (b : Addr) (A : Cell) (z : Int32) (o len : Nat) (args : Array Value) (s : State) : Prop := args = #[.ref a, .ref b, .int (Int32.ofNat o), .int (Int32.ofNat len), .null] ∧ Blank "java/lang/String" a D s ∧ Found "java/lang/String" "value" "[B" fV s ∧ Found "java/lang/String" "coder" "B" fC s ∧ Ch b A s ∧ StaticIs s "java/lang/String" "COMPACT_STRINGS" "Z" (.int z) ∧ ¬ z = 0 ∧ 0 < len ∧ o + len ≤ A.slots.size ∧ len ≤ 536870912 ∧ ∀ i, i < len → ¬ 255 < cv A (o + i)
def E (a : Addr) (D : Cell) (fV fC : Field) (A : Cell) (o len : Nat) (r : Option Value) (s u : State) : Prop := Got a D fV fC A o len r s u
/-- len > 0, no char of the range above 255: a Latin-1 String of their low bytes -/
theorem law (l : Launch) (a : Addr) (D : Cell) (fV fC : Field) (b : Addr) (A : Cell) (z : Int32) (o len : Nat) : Law l yN 5 4 2 35 yB 6 none site (P a D fV fC b A z o len) (E a D fV fC A o len) [⟨a, fC.slot⟩, ⟨a, fV.slot⟩] 1 len := by
  refine Law.of_walk (plainFor_of_name (by decide +kernel)) (by decide +kernel) (by decide +kernel) (by decide) (fun _ _ h => by rw [h.1]; rfl) (fun _ U U' hal hh h => ⟨h.1, h.2.1.mv hal hh, h.2.2.1.al hal, h.2.2.2.1.al hal, h.2.2.2.2.1.mv hal hh, h.2.2.2.2.2.1.there hal hh, h.2.2.2.2.2.2⟩) (fun r U U' V V' h1 hal h2 h => Got.mv r U U' V V' h1 hal h2 h) ?_
  intro p e s m args below meth c s₁ X0 hexec hbytes hml hret hlk hnm hown hh0 W hP
  obtain ⟨rfl, hB, f1, f2, hA, s1, hz, l0, l1, l2, hp⟩ := hP
  have a31 := hA.1.2.2.2
  have c1 : Steps p.tables e below (s₁.setTop (entryFrame m #[.ref a, .ref b, .int (Int32.ofNat o), .int (Int32.ofNat len), .null] 6)) (s₁.setTop (mkF m 0 #[.val (.ref a), .val (.ref b), .val (.int (Int32.ofNat o)), .val (.int (Int32.ofNat len)), .val .null, .unset] [])) := entry rfl
  have c2 : Steps p.tables e below (s₁.setTop (entryFrame m #[.ref a, .ref b, .int (Int32.ofNat o), .int (Int32.ofNat len), .null] 6)) (s₁.setTop (mkF m 1 #[.val (.ref a), .val (.ref b), .val (.int (Int32.ofNat o)), .val (.int (Int32.ofNat len)), .val .null, .unset] [.ref a])) := c1.trans (by
    refine XS.aloadN X0.here hexec rfl (hb hbytes d0) rfl rfl ?_
    exact Steps.refl _)
  obtain ⟨T3, X3, q3, st3⟩ := X0.oinit hexec hown (wks W (objW "java/lang/String" 1)) (g := (mkF m 1 #[.val (.ref a), .val (.ref b), .val (.int (Int32.ofNat o)), .val (.int (Int32.ofNat len)), .val .null, .unset] [.ref a])) rfl (by rw [hml]; rfl) (rest := []) rfl (hb hbytes d1) (W := 0) (by show 2 * 0 + 0 ≤ _; decide) (Nat.le_of_ble_eq_true rfl) (Nat.le_of_ble_eq_true rfl)
  have hh3 := q3.trans hh0
  have c4 : Steps p.tables e below (s₁.setTop (entryFrame m #[.ref a, .ref b, .int (Int32.ofNat o), .int (Int32.ofNat len), .null] 6)) (T3.setTop (mkF m 27 #[.val (.ref a), .val (.ref b), .val (.int (Int32.ofNat o)), .val (.int (Int32.ofNat len)), .val .null, .unset] [])) := (c2.trans (st3 _ (Steps.refl _))).trans (by
    refine XS.iloadN X3.here hexec rfl (hb hbytes d4) rfl ?_
    refine XS.ifYes X3.here hexec rfl (pc0 := 5) rfl (hb hbytes d5) rfl (i0_ne_t (nz32 (by omega) l0)) (by decide) rfl ?_
    exact Steps.refl _)
  obtain ⟨T5, X5, q5, st5⟩ := X3.sget hexec hown (wk W (.fieldLink "java/lang/String" 38 "java/lang/String" "COMPACT_STRINGS" "Z")) s1 (fun _ _ h => by rw [hh3]; exact h) (g := (mkF m 27 #[.val (.ref a), .val (.ref b), .val (.int (Int32.ofNat o)), .val (.int (Int32.ofNat len)), .val .null, .unset] [])) rfl (hb hbytes d27)
  have hh5 := q5.trans hh3
  have c6 : Steps p.tables e below (s₁.setTop (entryFrame m #[.ref a, .ref b, .int (Int32.ofNat o), .int (Int32.ofNat len), .null] 6)) (T5.setTop (mkF m 30 #[.val (.ref a), .val (.ref b), .val (.int (Int32.ofNat o)), .val (.int (Int32.ofNat len)), .val .null, .unset] [.int z])) := c4.trans (st5 _ (Steps.refl _))
  have c7 : Steps p.tables e below (s₁.setTop (entryFrame m #[.ref a, .ref b, .int (Int32.ofNat o), .int (Int32.ofNat len), .null] 6)) (T5.setTop (mkF m 36 #[.val (.ref a), .val (.ref b), .val (.int (Int32.ofNat o)), .val (.int (Int32.ofNat len)), .val .null, .unset] [.int (Int32.ofNat len), .int (Int32.ofNat o), .ref b])) := c6.trans (by
    refine XS.ifNo X5.here hexec rfl (hb hbytes d30) rfl (i0_eq_f hz) ?_
    refine XS.aloadN X5.here hexec rfl (hb hbytes d33) rfl rfl ?_
    refine XS.iloadN X5.here hexec rfl (hb hbytes d34) rfl ?_
    refine XS.iloadN X5.here hexec rfl (hb hbytes d35) rfl ?_
    exact Steps.refl _)
  obtain ⟨v8, T8, X8, E8, g8⟩ := X5.callS hexec (Cmp3.law l b A o len) hown (wks W (staticW "java/lang/String" 177 Cmp3.yN)) (wk W Cmp3.tab) (W := 0) (Nat.le_of_ble_eq_true rfl) (Nat.le_of_ble_eq_true rfl) (Nat.le_refl _) (by show 0 + len ≤ len; omega) (g := (mkF m 36 #[.val (.ref a), .val (.ref b), .val (.int (Int32.ofNat o)), .val (.int (Int32.ofNat len)), .val .null, .unset] [.int (Int32.ofNat len), .int (Int32.ofNat o), .ref b])) rfl (by rw [hml]; rfl) c7 (argsL := [.ref b, .int (Int32.ofNat o), .int (Int32.ofNat len)]) (rest := []) rfl rfl (by show 2 * 0 + 0 ≤ _; decide) (hb hbytes d36) (⟨rfl, hA.mv X5.warmed.alike hh5, l1, l2, hp⟩)
  obtain ⟨e8, z8⟩ := E8
  obtain ⟨rfl, N, n1, n2, n3, n4, n5, n6⟩ := NewArr.mv _ T5 s _ _ hh5.symm (Vm.Alike.refl _) rfl e8
  rw [hh5] at z8
  have hB1 := hB.keep X8.warmed.alike (n6 _ _ hB.1)
  have hne : s.heap.size ≠ a := (Nat.ne_of_lt (Array.getElem?_eq_some_iff.mp hB.1).1).symm
  have c9 : Steps p.tables e below (s₁.setTop (entryFrame m #[.ref a, .ref b, .int (Int32.ofNat o), .int (Int32.ofNat len), .null] 6)) (T8.setTop (mkF m 39 #[.val (.ref a), .val (.ref b), .val (.int (Int32.ofNat o)), .val (.int (Int32.ofNat len)), .val .null, .unset] [.ref s.heap.size])) := g8
  have c10 : Steps p.tables e below (s₁.setTop (entryFrame m #[.ref a, .ref b, .int (Int32.ofNat o), .int (Int32.ofNat len), .null] 6)) (T8.setTop (mkF m 45 #[.val (.ref a), .val (.ref b), .val (.int (Int32.ofNat o)), .val (.int (Int32.ofNat len)), .val .null, .val (.ref s.heap.size)] [.int (Int32.ofNat N.slots.size), .ref s.heap.size, .ref a])) := by
    have hc : Steps p.tables e below (s₁.setTop (entryFrame m #[.ref a, .ref b, .int (Int32.ofNat o), .int (Int32.ofNat len), .null] 6)) (T8.setTop (mkF m 45 #[.val (.ref a), .val (.ref b), .val (.int (Int32.ofNat o)), .val (.int (Int32.ofNat len)), .val .null, .val (.ref s.heap.size)] [.int (Int32.ofNat len), .ref s.heap.size, .ref a])) := c9.trans (by
      refine XS.astore X8.here hexec rfl (hb hbytes d39) rfl rfl rfl ?_
      refine XS.aloadN X8.here hexec rfl (hb hbytes d41) rfl rfl ?_
      refine XS.aload X8.here hexec rfl (hb hbytes d42) rfl rfl ?_
      refine XS.iloadN X8.here hexec rfl (hb hbytes d44) rfl ?_
      exact Steps.refl _)
    rw [n4]; exact hc
  obtain ⟨v11, T11, X11, E11, g11⟩ := X8.callS hexec (CodL.law l s.heap.size N) hown (wks W (staticW "java/lang/String" 47 CodL.yN)) (wk W CodL.tab) (W := 1) (Nat.le_of_ble_eq_true rfl) (Nat.le_of_ble_eq_true rfl) (Nat.le_refl _) (by show 0 + len + 0 ≤ len; omega) (g := (mkF m 45 #[.val (.ref a), .val (.ref b), .val (.int (Int32.ofNat o)), .val (.int (Int32.ofNat len)), .val .null, .val (.ref s.heap.size)] [.int (Int32.ofNat N.slots.size), .ref s.heap.size, .ref a])) rfl (by rw [hml]; rfl) c10 (argsL := [.ref s.heap.size, .int (Int32.ofNat N.slots.size)]) (rest := [.ref a]) rfl rfl (by show 2 * 0 + (1 + 0) ≤ _; decide) (hb hbytes d45) (⟨rfl, n1⟩)
  obtain ⟨rfl, q11⟩ := E11
  have hB11 := hB1.mv (X8.warmed.alike.symm.trans X11.warmed.alike) q11
  have c12 : Steps p.tables e below (s₁.setTop (entryFrame m #[.ref a, .ref b, .int (Int32.ofNat o), .int (Int32.ofNat len), .null] 6)) (T11.setTop (mkF m 48 #[.val (.ref a), .val (.ref b), .val (.int (Int32.ofNat o)), .val (.int (Int32.ofNat len)), .val .null, .val (.ref s.heap.size)] [.int 0, .ref a])) := g11
  obtain ⟨T13, X13, p13, bl13, sl13, st13⟩ := X11.finit hexec hown (wk W (.fieldLink "java/lang/String" 15 "java/lang/String" "coder" "B")) (Or.inr ⟨_, (wk W (.laysFinal "java/lang/String" "java/lang/String" "coder" "B"))⟩) (Or.inl ⟨rfl, hnm⟩) f2 (Or.inl rfl) hB11 (t := .byte) (by decide +kernel) rfl (g := (mkF m 48 #[.val (.ref a), .val (.ref b), .val (.int (Int32.ofNat o)), .val (.int (Int32.ofNat len)), .val .null, .val (.ref s.heap.size)] [.int 0, .ref a])) rfl (rest := []) rfl (hb hbytes d48)
  have c14 : Steps p.tables e below (s₁.setTop (entryFrame m #[.ref a, .ref b, .int (Int32.ofNat o), .int (Int32.ofNat len), .null] 6)) (T13.setTop (mkF m 54 #[.val (.ref a), .val (.ref b), .val (.int (Int32.ofNat o)), .val (.int (Int32.ofNat len)), .val .null, .val (.ref s.heap.size)] [.ref s.heap.size, .ref a])) := (c12.trans (st13 _ (Steps.refl _))).trans (by
    refine XS.aloadN X13.here hexec rfl (hb hbytes d51) rfl rfl ?_
    refine XS.aload X13.here hexec rfl (hb hbytes d52) rfl rfl ?_
    exact Steps.refl _)
  obtain ⟨T15, X15, p15, bl15, sl15, st15⟩ := X13.finit hexec hown (wk W (.fieldLink "java/lang/String" 9 "java/lang/String" "value" "[B")) (Or.inr ⟨_, (wk W (.laysFinal "java/lang/String" "java/lang/String" "value" "[B"))⟩) (Or.inl ⟨rfl, hnm⟩) f1 (Or.inl rfl) bl13 (t := (.array .byte)) (by decide +kernel) rfl (g := (mkF m 54 #[.val (.ref a), .val (.ref b), .val (.int (Int32.ofNat o)), .val (.int (Int32.ofNat len)), .val .null, .val (.ref s.heap.size)] [.ref s.heap.size, .ref a])) rfl (rest := []) rfl (hb hbytes d54)
  have c16 : Steps p.tables e below (s₁.setTop (entryFrame m #[.ref a, .ref b, .int (Int32.ofNat o), .int (Int32.ofNat len), .null] 6)) (T15.setTop (mkF m 57 #[.val (.ref a), .val (.ref b), .val (.int (Int32.ofNat o)), .val (.int (Int32.ofNat len)), .val .null, .val (.ref s.heap.size)] [])) := c14.trans (st15 _ (Steps.refl _))
  have ap := apart (Or.inr ⟨_, (wk W (.laysFinal "java/lang/String" "java/lang/String" "value" "[B"))⟩) (Or.inr ⟨_, (wk W (.laysFinal "java/lang/String" "java/lang/String" "coder" "B"))⟩) f1 f2 (t₁ := .array .byte) (t₂ := .byte) (by decide +kernel) (by decide +kernel) (by decide)
  have al := X8.warmed.alike.symm.trans X15.warmed.alike
  have n7 : T11.heap[s.heap.size]? = some N := by rw [q11]; exact n1.1
  exact ⟨T15, none, _, _, _, X15, by simp, rfl, by omega, (fun _ => rfl), ⟨rfl, _, N, bl15, ((Same.refl D _).set _ (by simp)).set _ (by simp), sl15, (Cell.slots_setSlot_ne _ ap).trans sl13, n1.keep al (p15.other hne (p13.other hne n7)), n2, by rw [al.findClass]; exact n3, n4, n5, fun y c h1 h2 => p15.other h1 (p13.other h1 (by rw [q11]; exact n6 y c h2)), by rw [p15.2.2, p13.2.2, q11]; exact z8⟩, fun fs hl => c16.trans (X15.returnOut hexec hret (hb hbytes d57) hl)⟩
end New4
namespace New1
def yN : MethodName := ⟨"java/lang/String", "<init>", "([C)V"⟩
abbrev yB : ByteArray := jdk_42_method_3_code
theorem d0 : decode yB 0 = .ok (.aload_n 0, 1) := by decide +kernel
theorem d1 : decode yB 1 = .ok (.aload_n 1, 1) := by decide +kernel
theorem d2 : decode yB 2 = .ok (.iconst 0, 1) := by decide +kernel
theorem d3 : decode yB 3 = .ok (.aload_n 1, 1) := by decide +kernel
theorem d4 : decode yB 4 = .ok (.arraylength, 1) := by decide +kernel
theorem d5 : decode yB 5 = .ok (.aconst_null, 1) := by decide +kernel
theorem d6 : decode yB 6 = .ok (.invokespecial 27, 3) := by decide +kernel
theorem d9 : decode yB 9 = .ok (.return_, 1) := by decide +kernel
def site : List Cond := [New4.tab] ++ initW "java/lang/String" 27 New4.yN
def tab : Cond := tabOf yN yB 2 none site
def P (a : Addr) (D : Cell) (fV fC : Field) (b : Addr) (A : Cell) (z : Int32) (args : Array Value) (s : State) : Prop := args = #[.ref a, .ref b] ∧ Blank "java/lang/String" a D s ∧ Found "java/lang/String" "value" "[B" fV s ∧ Found "java/lang/String" "coder" "B" fC s ∧ Ch b A s ∧ StaticIs s "java/lang/String" "COMPACT_STRINGS" "Z" (.int z) ∧ ¬ z = 0 ∧ 0 < A.slots.size ∧ A.slots.size ≤ 536870912 ∧ ∀ i, i < A.slots.size → ¬ 255 < cv A i
def E (a : Addr) (D : Cell) (fV fC : Field) (A : Cell) (r : Option Value) (s u : State) : Prop := Got a D fV fC A 0 A.slots.size r s u
/-- new String(chars), not empty, no char above 255: a Latin-1 String of their low bytes -/
theorem law (l : Launch) (a : Addr) (D : Cell) (fV fC : Field) (b : Addr) (A : Cell) (z : Int32) : Law l yN 2 1 3 52 yB 2 none site (P a D fV fC b A z) (E a D fV fC A) [⟨a, fC.slot⟩, ⟨a, fV.slot⟩] 1 A.slots.size := by
  refine Law.of_walk (plainFor_of_name (by decide +kernel)) (by decide +kernel) (by decide +kernel) (by decide) (fun _ _ h => by rw [h.1]; rfl) (fun _ U U' hal hh h => ⟨h.1, h.2.1.mv hal hh, h.2.2.1.al hal, h.2.2.2.1.al hal, h.2.2.2.2.1.mv hal hh, h.2.2.2.2.2.1.there hal hh, h.2.2.2.2.2.2⟩) (fun r U U' V V' h1 hal h2 h => Got.mv r U U' V V' h1 hal h2 h) ?_
  intro p e s m args below meth c s₁ X0 hexec hbytes hml hret hlk hnm hown hh0 W hP
  obtain ⟨rfl, hB, f1, f2, hA, s1, hz, l0, l2, hp⟩ := hP
  have c1 : Steps p.tables e below (s₁.setTop (entryFrame m #[.ref a, .ref b] 2)) (s₁.setTop (mkF m 0 #[.val (.ref a), .val (.ref b)] [])) := entry rfl
  have c2 : Steps p.tables e below (s₁.setTop (entryFrame m #[.ref a, .ref b] 2)) (s₁.setTop (mkF m 6 #[.val (.ref a), .val (.ref b)] [.null, .int (Int32.ofNat A.slots.size), .int 0, .ref b, .ref a])) := c1.trans (by
    refine XS.aloadN X0.here hexec rfl (hb hbytes d0) rfl rfl ?_
    refine XS.aloadN X0.here hexec rfl (hb hbytes d1) rfl rfl ?_
    refine iconstV X0.here hexec rfl 0 (hb hbytes d2) (by decide) ?_
    refine XS.aloadN X0.here hexec rfl (hb hbytes d3) rfl rfl ?_
    refine X0.alen hexec (hA.1.mv X0.warmed.alike hh0) rfl rfl (hb hbytes d4) ?_
    refine XS.aconstNull X0.here hexec rfl (hb hbytes d5) ?_
    exact Steps.refl _)
  obtain ⟨v3, T3, X3, E3, g3⟩ := X0.callN hexec (New4.law l a D fV fC b A z 0 A.slots.size) rfl hown (wks W (initW "java/lang/String" 27 New4.yN)) (W New4.tab (by simp only [site, List.mem_cons, List.mem_append, true_or, or_true])) (W := 0) (Nat.le_of_ble_eq_true rfl) (Nat.le_of_ble_eq_true rfl) (Nat.le_refl _) (by show 0 + A.slots.size ≤ A.slots.size; omega) (g := (mkF m 6 #[.val (.ref a), .val (.ref b)] [.null, .int (Int32.ofNat A.slots.size), .int (Int32.ofNat 0), .ref b, .ref a])) rfl (by rw [hml]; rfl) c2 (argsL := [.ref b, .int (Int32.ofNat 0), .int (Int32.ofNat A.slots.size), .null]) (rest := []) rfl rfl (by show 2 * 0 + 0 ≤ _; decide) (hb hbytes d6) (⟨rfl, hB.mv X0.warmed.alike hh0, f1.al X0.warmed.alike, f2.al X0.warmed.alike, hA.mv X0.warmed.alike hh0, s1.there X0.warmed.alike hh0, hz, l0, by omega, l2, fun i hi => by rw [Nat.zero_add]; exact hp i hi⟩)
  have e0 := Got.mv _ s₁ s _ _ hh0.symm (Vm.Alike.refl _) rfl E3
  obtain rfl := e0.1
  have c4 : Steps p.tables e below (s₁.setTop (entryFrame m #[.ref a, .ref b] 2)) (T3.setTop (mkF m 9 #[.val (.ref a), .val (.ref b)] [])) := g3
  exact ⟨T3, none, _, _, _, X3, by simp, rfl, by omega, (fun _ => rfl), e0, fun fs hl => c4.trans (X3.returnOut hexec hret (hb hbytes d9) hl)⟩
theorem pays {l : Launch} {R : Room} {p : Program} {e : Env} {below : List Frame} {s : State} {sargs : Array Value} {len W : Nat} (a : Addr) (D : Cell) (fV fC : Field) (b : Addr) (A : Cell) (z : Int32) (htab : tab.before sargs s = true) (hfr : 4 ≤ R.frames) (hlo : W + 65 ≤ R.locals) :
    Back l R p e below s sargs yN len W (fun A₁ a₁ => A₁.cells + 1 ≤ R.cells ∧ A₁.slots + A.slots.size ≤ R.slots ∧ P a D fV fC b A z a₁ A₁.U) (fun A₁ _ v₁ B₁ => E a D fV fC A v₁ A₁.U B₁.U ∧ B₁.locs = A₁.locs ++ [⟨a, fC.slot⟩, ⟨a, fV.slot⟩] ∧ B₁.cells = A₁.cells + 1 ∧ B₁.slots = A₁.slots + A.slots.size) :=
  (law l a D fV fC b A z).pays htab hfr (by omega)
end New1
end StrChars
namespace StrChars.Road
open Jvm Sem ClassFile Op Lib Jvm.Stand Jvm.Free Jvm.Free.XT
open Jvm.Lib.Cold (StaticIs)
abbrev ST : String := "java/lang/String"
/-- every table word that New1's law asks, flat -/
abbrev words : List Jvm.Cond := [.code New1.yN New1.yB 2 none, .initialized ST, .methodLink ST 27 New4.yN, .instanceMethod New4.yN,
  .code New4.yN New4.yB 6 none, .fieldLink ST 38 ST "COMPACT_STRINGS" "Z", .laysFinal ST ST "value" "[B", .fieldLink ST 9 ST "value" "[B", .laysFinal ST ST "coder" "B", .fieldLink ST 15 ST "coder" "B",
  .methodLink ST 1 Lib.objectInit, .instanceMethod Lib.objectInit, .code Lib.objectInit ⟨#[0xb1]⟩ 1 none, .methodLink ST 177 Cmp3.yN, .static Cmp3.yN, .methodLink ST 47 CodL.yN, .static CodL.yN,
  .code Cmp3.yN Cmp3.yB 6 (some (.array .byte)), .initialized U16, .arrayClass .byte, .methodLink U16 115 Cmp5.yN, .static Cmp5.yN, .code Cmp5.yN Cmp5.yB 7 (some .int), .code CodL.yN CodL.yB 2 (some .byte)]
theorem tab_of {a : Array Value} {s : State} (h : ∀ w ∈ words, w.before a s = true) : New1.tab.before a s = true := by
  have h5 : Cmp5.tab.before a s = true := unparts (wk h (.code Cmp5.yN Cmp5.yB 7 (some .int))) (wks h (.initialized Cmp5.yN.cls :: Cmp5.site))
  have hc : CodL.tab.before a s = true := unparts (wk h (.code CodL.yN CodL.yB 2 (some .byte))) (wks h (.initialized CodL.yN.cls :: CodL.site))
  have q5 : ∀ w ∈ Cmp5.tab :: words, w.before a s = true := fun w hw => (List.mem_cons.mp hw).elim (fun e => e ▸ h5) (h w)
  have h3 : Cmp3.tab.before a s = true := unparts (wk q5 (.code Cmp3.yN Cmp3.yB 6 (some (.array .byte)))) (wks q5 (.initialized Cmp3.yN.cls :: Cmp3.site))
  have q3 : ∀ w ∈ Cmp3.tab :: CodL.tab :: words, w.before a s = true := fun w hw => (List.mem_cons.mp hw).elim (fun e => e ▸ h3) fun hw => (List.mem_cons.mp hw).elim (fun e => e ▸ hc) (h w)
  have h4 : New4.tab.before a s = true := unparts (wk q3 (.code New4.yN New4.yB 6 none)) (wks q3 (.initialized New4.yN.cls :: New4.site))
  have q4 : ∀ w ∈ New4.tab :: words, w.before a s = true := fun w hw => (List.mem_cons.mp hw).elim (fun e => e ▸ h4) (h w)
  exact unparts (wk q4 (.code New1.yN New1.yB 2 none)) (wks q4 (.initialized New1.yN.cls :: New1.site))
/-- the words ride from the start Z to the walk's own state -/
theorem moved {Z s : State} {a0 args : Array Value} (hZ : Z.Warmed39 s.vm) (hw : ∀ d ∈ words, d.before a0 Z = true) : ∀ d ∈ words, d.before args s = true := fun d hd => by
  have q := hw d hd
  have t : ∀ d ∈ words, d = .arrayClass .byte ∨ (d.onTables && d.keepsFace) = true := by decide +kernel
  rcases t d hd with rfl | t
  · exact RoadKit.mvA hZ q
  · exact RoadKit.mv hZ q t
/-- WHAT COMES BACK, over the tables of the start Z: h the heap at the call, h' behind it -/
def Q (Z : State) (x : Addr) (A : Cell) (h : Heap) (v : Option Value) (h' : Heap) (L : List Loc) : Prop := v = none ∧ (∀ y ∈ L, y.base = x) ∧ RoadKit.Keep h h' [x] ∧ h'.size = h.size + 1 ∧ RoadKit.Exa Z h' x ST ∧ RoadKit.Fld Z h' x ST "value" "[B" (.ref h.size) ∧ RoadKit.Fld Z h' x ST "coder" "B" (.int 0) ∧
  (∃ V : Cell, RoadKit.Arr Z h' h.size V .byte ∧ V.vm = .none ∧ Z.vm.findClass "[B" = some V.cls ∧ V.slots.size = A.slots.size ∧ ∀ j, j < A.slots.size → V.slots[j]? = some (.int (lo8 (cv A j)))) ∧
  ∀ (O n d : String) (w : Value), RoadKit.Fld Z h x O n d w → RoadKit.slotOf Z O n d ≠ RoadKit.slotOf Z ST "value" "[B" → RoadKit.slotOf Z O n d ≠ RoadKit.slotOf Z ST "coder" "B" → RoadKit.Fld Z h' x O n d w
/-- **new String(chars) AT A CALL, IN THE ROAD'S FORM**: for specialBack behind newO: x the fresh String, b the char[] with the cell A -/
theorem back {p : Program} {l : Launch} {e : Env} {R : Room} {s : State} {args : Array Value} {below : List Frame} {len W : Nat} {Z : State} {a0 : Array Value} {h : Heap} (hZ : Z.Warmed39 s.vm) (hw : ∀ d ∈ words, d.before a0 Z = true) {kI : Nat} (wi : (Jvm.Cond.instantiable ST kI).before a0 Z = true)
    {x b : Addr} {A : Cell} {z : Int32} {v0 c0 : Value} (E : RoadKit.Exa Z h x ST) (V : RoadKit.Fld Z h x ST "value" "[B" v0) (C : RoadKit.Fld Z h x ST "coder" "B" c0) (K : RoadKit.Arr Z h b A .char) (hty : Typed .char A) (S : RoadKit.Sta Z h ST "COMPACT_STRINGS" "Z" (.int z)) (hz : ¬ z = 0)
    (l0 : 0 < A.slots.size) (l2 : A.slots.size ≤ 536870912) (hp : ∀ i, i < A.slots.size → ¬ 255 < cv A i) (hfr : 4 ≤ R.frames) (hlo : W + 65 ≤ R.locals) :
    Back l R p e below s args New1.yN len W (fun P a => a = #[.ref x, .ref b] ∧ P.U.heap = h ∧ P.cells + 1 ≤ R.cells ∧ P.slots + A.slots.size ≤ R.slots)
      (fun P _ v B => ∃ L, Q Z x A h v B.U.heap L ∧ B.locs = P.locs ++ L ∧ B.cells = P.cells + 1 ∧ B.slots = P.slots + A.slots.size) := by
  intro m meth c P g ig mk a X hg hsize hdg hW hn hp'
  obtain ⟨rfl, rfl, r1, r2⟩ := hp'
  have al : Z.vm.Alike P.U.vm := hZ.alike.trans X.warmed.alike
  obtain ⟨D, cfV, kV, iV, fV, hD, gV, stV, knV, obV, asV, slV⟩ := id V
  obtain ⟨D', cfC, kC, iC, fC, hD', gC, stC, -, -, asC, slC⟩ := id C
  cases hD.symm.trans hD'
  obtain ⟨D2, kD, e1, e2, e3, e4, e5⟩ := id E
  cases hD.symm.trans e1
  obtain ⟨c2, k2, i1, i2, i3, -⟩ := Cond.instantiable_spec wi
  cases e2.symm.trans i1
  cases e3.symm.trans i2
  obtain ⟨kU, u1, u2⟩ := al.2.2 _ _ e3
  have hB : Blank ST x D P.U := ⟨hD, ⟨knV, fun q hq => by rw [hq] at obV; cases obV⟩, by rw [al.findClass]; exact e2, kU, u1, by rw [u2]; exact i3, by rw [u2]; exact e5 i3⟩
  have F1 : Found ST "value" "[B" fV P.U := ⟨SBG.found_only al ⟨cfV, kV, iV, gV⟩, stV⟩
  have F2 : Found ST "coder" "B" fC P.U := ⟨SBG.found_only al ⟨cfC, kC, iC, gC⟩, stC⟩
  have hA : Ch b A P.U := ⟨⟨K.1, State.isArrayOf_alike al K.2.1, K.2.2, by omega⟩, hty⟩
  have hS : StaticIs P.U ST "COMPACT_STRINGS" "Z" (.int z) := by
    obtain ⟨cfS, iS, kS, fS, st, cS, t1, t2, t3, t4, t5, t6, t7⟩ := S
    exact StaticIs.there (s := { Z with heap := P.U.heap }) ⟨cfS, iS, kS, fS, st, cS, t1, t2, t3, t4, t5, (fun q => by rw [q] at t6; cases t6), t7⟩ al rfl
  obtain ⟨v, B, X', ⟨⟨hv, E', V', q1, q2, q3, q4, q5, q6, q7, q8, q9, q10, q11⟩, hl, hc, hs⟩, st⟩ := New1.pays x D fV fC b A z (tab_of (moved hZ hw)) hfr hlo m meth c P g ig mk _ X hg hsize hdg hW hn ⟨r1, r2, rfl, hB, F1, F2, hA, hS, hz, l0, l2, hp⟩
  have al' : Z.vm.Alike B.U.vm := hZ.alike.trans X'.warmed.alike
  have hsz : E'.slots.size = D.slots.size := by
    obtain ⟨-, -, -, kB, w1, w2, w3⟩ := q1
    obtain ⟨kB', y1, y2⟩ := al'.2.2 _ _ e3
    rw [q2.2.1] at w1
    cases w1.symm.trans y1
    rw [w3, e5 i3, y2]
  refine ⟨v, B, X', ⟨_, ⟨hv, ?_, ⟨by omega, fun y cy hy hn' => q10 y cy (by simpa using hn') hy, fun y cy hy => ?_⟩, q11, ⟨E', _, q1.1, by rw [q2.2.1]; exact e2, by rw [q2.2.1]; exact e3, by rw [q2.1]; exact obV, fun _ => by rw [hsz]; exact e5 i3⟩,
    ⟨E', cfV, kV, iV, fV, q1.1, gV, stV, by rw [q2.1]; exact knV, by rw [q2.1]; exact obV, by rw [q2.2.1]; exact asV, q3⟩, ⟨E', cfC, kC, iC, fC, q1.1, gC, stC, by rw [q2.1]; exact knV, by rw [q2.1]; exact obV, by rw [q2.2.1]; exact asC, q4⟩,
    ⟨V', ⟨q5.1, State.isArrayOf_alike al'.symm q5.2.1, q5.2.2.1⟩, q6, by rw [← al'.findClass]; exact q7, q8, fun j hj => by have := q9 j hj; rwa [Nat.zero_add] at this⟩, fun O n d w F n1 n2 => ?_⟩, hl, hc, hs⟩, st⟩
  · intro y hy
    simp only [List.mem_cons, List.not_mem_nil, or_false] at hy
    rcases hy with rfl | rfl <;> rfl
  · by_cases q : y = x
    · subst q
      cases hD.symm.trans hy
      exact ⟨E', q1.1, q2.2.1, q2.1, hsz⟩
    · exact ⟨cy, q10 y cy q hy, rfl, rfl, rfl⟩
  · obtain ⟨D3, cf, k, i, f, g1, g2, g3, g4, g5, g6, g7⟩ := F
    cases hD.symm.trans g1
    simp only [RoadKit.slotOf, g2, gV, gC, Option.map_some, Option.getD_some] at n1 n2
    exact ⟨E', cf, k, i, f, q1.1, g2, g3, by rw [q2.1]; exact g4, by rw [q2.1]; exact g5, by rw [q2.2.1]; exact g6, by rw [q2.2.2 f.slot (by simp [n1, n2])]; exact g7⟩
end StrChars.Road
namespace StrChars.Road
open Jvm Sem ClassFile Op Lib Jvm.Stand Jvm.Free Jvm.Free.XT
/-- WHAT COMES BACK, the byte[] as a list of values -/
def QA (Z : State) (x : Addr) (zn : Int32) (cs : List Int32) (h : Heap) (v : Option Value) (h' : Heap) (L : List Loc) : Prop := v = none ∧ (∀ y ∈ L, y.base = x) ∧ RoadKit.Keep h h' [x] ∧ h'.size = h.size + 1 ∧ RoadKit.Exa Z h' x ST ∧ RoadKit.Fld Z h' x ST "value" "[B" (.ref h.size) ∧ RoadKit.Fld Z h' x ST "coder" "B" (.int 0) ∧
  (∃ kb, Z.vm.findClass "[B" = some kb ∧ RoadKit.Arv Z h' h.size kb .byte zn (cs.map fun c => .int (lo8 c)) (.int 0)) ∧
  ∀ (O n d : String) (w : Value), RoadKit.Fld Z h x O n d w → RoadKit.slotOf Z O n d ≠ RoadKit.slotOf Z ST "value" "[B" → RoadKit.slotOf Z O n d ≠ RoadKit.slotOf Z ST "coder" "B" → RoadKit.Fld Z h' x O n d w
/-- **new String(chars) AT A CALL, THE ARRAYS AS LISTS**: the char[] at b holds cs, not empty, no char above 255 -/
theorem backArv {p : Program} {l : Launch} {e : Env} {R : Room} {s : State} {args : Array Value} {below : List Frame} {len W : Nat} {Z : State} {a0 : Array Value} {h : Heap} (hZ : Z.Warmed39 s.vm) (hw : ∀ d ∈ words, d.before a0 Z = true) {kI : Nat} (wi : (Jvm.Cond.instantiable ST kI).before a0 Z = true)
    {x b : Addr} {k : ClassId} {zn z : Int32} {cs : List Int32} {dv v0 c0 : Value} (E : RoadKit.Exa Z h x ST) (V : RoadKit.Fld Z h x ST "value" "[B" v0) (C : RoadKit.Fld Z h x ST "coder" "B" c0) (K : RoadKit.Arv Z h b k .char zn (cs.map Value.int) dv) (S : RoadKit.Sta Z h ST "COMPACT_STRINGS" "Z" (.int z)) (hz : ¬ z = 0)
    (hlen : zn.toNatClampNeg = cs.length) (h0 : 0 < cs.length) (hbig : cs.length ≤ 536870912) (hall : ∀ c ∈ cs, ¬ 255 < c) (hfr : 4 ≤ R.frames) (hlo : W + 65 ≤ R.locals) :
    Back l R p e below s args New1.yN len W (fun P a => a = #[.ref x, .ref b] ∧ P.U.heap = h ∧ P.cells + 1 ≤ R.cells ∧ P.slots + cs.length ≤ R.slots)
      (fun P _ v B => ∃ L, QA Z x zn cs h v B.U.heap L ∧ B.locs = P.locs ++ L ∧ B.cells = P.cells + 1 ∧ B.slots = P.slots + cs.length) := by
  obtain ⟨A, K1, K2, K3, K4, K5, K6⟩ := K
  have e : A.slots.size = cs.length := K3.trans hlen
  have hat : ∀ (i : Nat) (hi : i < cs.length), A.slots[i]? = some (.int cs[i]) := fun i hi => by rw [K5 i (by omega)]; simp [List.getD_eq_getElem?_getD, hi]
  have hcv : ∀ (i : Nat) (hi : i < cs.length), cv A i = cs[i] := fun i hi => by unfold cv; rw [hat i hi]
  have hty : Typed .char A := fun i v hv => by
    have hi : i < A.slots.size := (Array.getElem?_eq_some_iff.mp hv).1
    have q := K5 i hi
    rw [hv] at q
    rw [Option.some.inj q]
    exact K6 i hi
  refine Back.mono (back hZ hw wi E V C K1 hty S hz (by omega) (by omega) (fun i hi => by rw [hcv i (by omega)]; exact hall _ (List.getElem_mem _)) hfr hlo) (fun P a hp => ⟨hp.1, hp.2.1, hp.2.2.1, by rw [e]; exact hp.2.2.2⟩) (fun P a v B hp hq => ?_)
  obtain ⟨L, ⟨q1, q2, q3, q4, q5, q6, q7, ⟨V', v1, v2, v3, v4, v5⟩, q9⟩, hl, hc, hs⟩ := hq
  refine ⟨L, ⟨q1, q2, q3, q4, q5, q6, q7, ⟨V'.cls, v3, V', v1, rfl, by rw [v4, e, hlen], K4, fun i hi => ?_, fun i hi => ?_⟩, q9⟩, hl, hc, by rw [hs, e]⟩
  · have hi' : i < cs.length := by omega
    rw [v5 i (by omega), hcv i hi']; simp [List.getD_eq_getElem?_getD, hi']
  · have hi' : i < cs.length := by omega
    simp only [List.getD_eq_getElem?_getD, List.getElem?_map, List.getElem?_eq_getElem hi', Option.map_some, Option.getD_some]
    exact fits_lo8 _
end StrChars.Road
namespace StrChars.Road
open Jvm Sem ClassFile Op Lib Jvm.Stand Jvm.Free Jvm.Free.XT
/-- WHAT COMES BACK, in the writer's own shape -/
def QV (Z : State) (x : Addr) (N : Int32) (bs : List Int32) (h : Heap) (n0 : Nat) (v : Option Value) (h' : Heap) (L : List Loc) : Prop := v = none ∧ RoadKit.Fr n0 L ∧ RoadKit.Keep h h' [x] ∧ RoadKit.Exa Z h' x ST ∧ RoadKit.Fld Z h' x ST "coder" "B" (.int 0) ∧
  ∃ (t : Addr) (kb : ClassId), n0 ≤ t ∧ h.size ≤ t ∧ ¬ t = x ∧ RoadKit.Fld Z h' x ST "value" "[B" (.ref t) ∧ RoadKit.Arv Z h' t kb .byte N (bs.map Value.int) (.int 0)
/-- **new String(chars) AT A CALL, FOR THE WRITER**: a char[] of n known ints, each 0 to 255 -/
theorem backV {p : Program} {l : Launch} {e : Env} {R : Room} {s : State} {args : Array Value} {below : List Frame} {len W : Nat} {Z : State} {a0 : Array Value} {h : Heap} (hZ : Z.Warmed39 s.vm) (hw : ∀ d ∈ words, d.before a0 Z = true) {kI : Nat} (wi : (Jvm.Cond.instantiable ST kI).before a0 Z = true)
    {x b : Addr} {kC : ClassId} {cs bs : List Int32} {d v0 c0 : Value} {z N : Int32} {n n0 : Nat} (hx0 : n0 ≤ x) (hh0 : n0 ≤ h.size) (E : RoadKit.Exa Z h x ST) (V : RoadKit.Fld Z h x ST "value" "[B" v0) (C : RoadKit.Fld Z h x ST "coder" "B" c0) (K : RoadKit.Arv Z h b kC .char N (cs.map Value.int) d) (S : RoadKit.Sta Z h ST "COMPACT_STRINGS" "Z" (.int z)) (hz : ¬ z = 0)
    (hn : cs.length = n) (hN : N = Int32.ofNat n) (l0 : 0 < n) (l2 : n ≤ 4000) (hp : ∀ c ∈ cs, ¬ c < 0 ∧ ¬ (255 : Int32) < c) (hb : bs = cs.map (fun c => c.toInt8.toInt32)) (hfr : 4 ≤ R.frames) (hlo : W + 65 ≤ R.locals) :
    Back l R p e below s args (⟨"java/lang/String", "<init>", "([C)V"⟩ : MethodName) len W (fun P a => a = #[.ref x, .ref b] ∧ P.U.heap = h ∧ P.cells + 1 ≤ R.cells ∧ P.slots + n ≤ R.slots)
      (fun P _ v B => ∃ L, QV Z x N bs h n0 v B.U.heap L ∧ B.locs = P.locs ++ L ∧ B.cells = P.cells + 1 ∧ B.slots = P.slots + n) := by
  subst hn hN hb
  refine Back.mono (backArv hZ hw wi E V C K S hz (n32 (by omega)) l0 (by omega) (fun c hc => (hp c hc).2) hfr hlo) (fun P a hp => hp) (fun P a v B hp hq => ?_)
  obtain ⟨L, ⟨q1, q2, q3, q4, q5, q6, q7, ⟨kb, v1, v2⟩, q9⟩, hl, hc, hs⟩ := hq
  exact ⟨L, ⟨q1, fun y hy => by rw [q2 y hy]; exact hx0, q3, q5, q7, h.size, kb, hh0, Nat.le_refl _, Nat.ne_of_gt E.lt, q6, by rw [List.map_map]; exact v2⟩, hl, hc, hs⟩
end StrChars.Road
end Jvm.Pilot.@@N@@
namespace Jvm.Pilot.@@N@@
open Jvm.Ow (Go Wd)
open Jvm Jvm.ClassFile Sem Op Lib Jvm.Free Jvm.Stand Jvm.LawKit Jvm.RoadKit Bundle Jvm.Pilot.@@N@@.Jvm.D
theorem ww {a0 : Array Value} {Z : State} (hw : ∀ d ∈ tables_1, d.before a0 Z = true) (k : Nat) {d : Jvm.Cond} (h : tables_1[k]? = some d) : d.before a0 Z = true := hw d (List.mem_of_getElem? h)
theorem pd0 : parseMethodDescriptor "([C)V" = some ⟨[(.array .char)], none⟩ := by decide +kernel
theorem pd1 : parseMethodDescriptor "()V" = some ⟨[], none⟩ := by decide +kernel
theorem pd2 : parseMethodDescriptor "([B)V" = some ⟨[(.array .byte)], none⟩ := by decide +kernel
theorem pd3 : parseMethodDescriptor "([BLjava/lang/String;)V" = some ⟨[(.array .byte), (.object "java/lang/String")], none⟩ := by decide +kernel
theorem pd4 : parseMethodDescriptor "(IIILjava/util/function/BiFunction;)I" = some ⟨[.int, .int, .int, (.object "java/util/function/BiFunction")], (some .int)⟩ := by decide +kernel
theorem pd5 : parseMethodDescriptor "(III)I" = some ⟨[.int, .int, .int], (some .int)⟩ := by decide +kernel
theorem pd6 : parseMethodDescriptor "(IBBB)[B" = some ⟨[.int, .byte, .byte, .byte], (some (.array .byte))⟩ := by decide +kernel
theorem pd7 : parseMethodDescriptor "(J)J" = some ⟨[.long], (some .long)⟩ := by decide +kernel
theorem pd8 : parseMethodDescriptor "()Lcom/example/eunomia/eunomia/xml/NamedStream;" = some ⟨[], (some (.object "com/example/eunomia/eunomia/xml/NamedStream"))⟩ := by decide +kernel
theorem pd9 : parseMethodDescriptor "()Ljava/lang/String;" = some ⟨[], (some (.object "java/lang/String"))⟩ := by decide +kernel
theorem pd10 : parseMethodDescriptor "([BII)I" = some ⟨[(.array .byte), .int, .int], (some .int)⟩ := by decide +kernel
theorem pd11 : parseMethodDescriptor "()I" = some ⟨[], (some .int)⟩ := by decide +kernel
theorem pd12 : parseMethodDescriptor "(Ljava/lang/Object;)Z" = some ⟨[(.object "java/lang/Object")], (some .boolean)⟩ := by decide +kernel
theorem pn0 : plainName "com/example/eunomia/eunomia/xml/NamedStreamReopenedPinLaw" = true := by first | (simp [plainName, overriddenIn]; done) | decide +kernel
theorem pn1 : plainName "java/io/InputStream" = true := by first | (simp [plainName, overriddenIn]; done) | decide +kernel
theorem pn2 : plainName "java/io/ByteArrayInputStream" = true := by first | (simp [plainName, overriddenIn]; done) | decide +kernel
theorem pn3 : plainName "com/example/eunomia/eunomia/xml/NamedStream" = true := by first | (simp [plainName, overriddenIn]; done) | decide +kernel
theorem pn4 : plainName "java/lang/String" = true := by first | (simp [plainName, overriddenIn]; done) | decide +kernel
theorem pn5 : plainName "jdk/internal/util/Preconditions" = true := by first | (simp [plainName, overriddenIn]; done) | decide +kernel
theorem pn6 : plainName "java/util/Objects" = true := by first | (simp [plainName, overriddenIn]; done) | decide +kernel
theorem own_ch8 : ∀ n : Fin 256, fits .char (.int (Int32.ofNat n.val)) = true ∧ ¬ (255 : Int32) < Int32.ofNat n.val ∧ nar .char (Int32.ofNat n.val) = Int32.ofNat n.val ∧ (Int32.ofNat n.val).toUInt32.toUInt16.toUInt32.toInt32 = Int32.ofNat n.val := by decide +kernel
/-- new String(cs), cs not empty, each a Latin-1 char: as a step -/
theorem strLat {p : Program} {l : Launch} {e : Env} {R : Room} {s : State} {m : MethodId} {args : Array Value} {below : List Frame} {meth : Method} {c : Code} {T : State} {locs : List Loc} {cells slots : Nat} {G : Outcome → State → Prop} {pc : Nat} {Ls : Array Slot} {rest : List Value} {Z : State} {a0 : Array Value} {h : Heap}
    (X : Stand p l e R s m args below meth c T locs cells slots) (hx : p.tables.exec = Jvm.exec) (hZ : Z.Warmed39 s.vm) (hw : ∀ d ∈ tables_1, d.before a0 Z = true) (eT : T.heap = h) {own : String} {index : Nat} (hown : s.vm.findClass own = some m.cls) (wl : (Cond.methodLink own index (⟨"java/lang/String", "<init>", "([C)V"⟩ : MethodName)).before a0 Z = true)
    {x b : Addr} {kc : ClassId} {cs : List Int32} {v0 c0 : Value} {z : Int32} (E : Exa Z h x "java/lang/String") (V : Fld Z h x "java/lang/String" "value" "[B" v0) (C0 : Fld Z h x "java/lang/String" "coder" "B" c0) (A : Ow.AL Z h b kc .char (cs.map Value.int)) (S : Sta Z h "java/lang/String" "COMPACT_STRINGS" "Z" (.int z)) (hz : ¬ z = 0) (n : Nat) (hn : cs.length = n) (h0 : 0 < n) (hbig : n ≤ 4000) (hall : ∀ c ∈ cs, ∃ k : Fin 256, c = Int32.ofNat k.val) (hsz : Ls.size = c.maxLocals)
    (hd : decode c.code pc = .ok (.invokespecial index, 3)) (hf : (4 : Nat).ble R.frames = true) (hlo : ((rest.map fun v => v.category).sum + 65).ble R.locals = true) (hce : cells + 1 ≤ R.cells) (hsl : slots + n ≤ R.slots)
    (K : ∀ (T' : State) (L : List Loc) (kb : ClassId), Stand p l e R s m args below meth c T' (locs ++ L) (cells + 1) (slots + n) → Ow.Eff h T'.heap [x] L → Ow.Str Z T'.heap x h.size kb (cs.map fun c => c.toInt8.toInt32) → Go p.tables e below G (T'.setTop (mkF m (pc + 3) Ls rest))) :
    Go p.tables e below G (T.setTop (mkF m pc Ls (.ref b :: .ref x :: rest))) := by
  subst hn
  have hws : ∀ d ∈ StrChars.Road.words, d.before a0 Z = true := fun d hd => hw d ((by decide +kernel : ∀ d ∈ StrChars.Road.words, d ∈ tables_1) d hd)
  have hb31 : cs.length < 2147483648 := by omega
  refine Ow.callIB X hx hZ (StrChars.Road.backArv (kI := 4) hZ hws (ww hw 7 rfl) E V C0 (A.arv (z := Int32.ofNat cs.length) (dv := .int 0) (Ow.n_nn hb31) (by rw [Ow.n_cl hb31, List.length_map]) (fun v hv => ?_)) S hz (Ow.n_cl hb31) h0 (by omega) (fun c hc => ?_) (Nat.le_of_ble_eq_true hf) (Nat.le_of_ble_eq_true hlo)) eT rfl hown wl (ww hw 10 rfl) (ww hw 11 rfl) (by decide) pd0 hsz (a := x) (argsL := [.ref b]) rfl rfl rfl hd hce hsl ?_
  · obtain ⟨c, hc, rfl⟩ := List.mem_map.mp hv
    obtain ⟨k, rfl⟩ := hall c hc
    exact (own_ch8 k).1
  · obtain ⟨k, rfl⟩ := hall c hc
    exact (own_ch8 k).2.1
  · rintro _ T' L X' ⟨rfl, q2, q3, q4, q5, q6, q7, ⟨kb, -, q8⟩, -⟩
    refine K T' L kb X' ⟨q3, fun y hy => Or.inl (by rw [q2 y hy]; simp)⟩ ⟨q5, q7, q6, ?_⟩
    have q9 := Ow.AL.of_arv q8 (by rw [Ow.n_cl hb31, List.length_map])
    rw [List.map_map]; exact q9
theorem d0_0 : decode method_2_code 0 = .ok (.iload_n 0, 1) := by decide +kernel
theorem d0_1 : decode method_2_code 1 = .ok (.ifCond .ne 7, 3) := by decide +kernel
theorem d0_4 : decode method_2_code 4 = .ok (.iconst 0, 1) := by decide +kernel
theorem d0_5 : decode method_2_code 5 = .ok (.newarray .byte, 2) := by decide +kernel
theorem d0_7 : decode method_2_code 7 = .ok (.areturn, 1) := by decide +kernel
theorem d0_8 : decode method_2_code 8 = .ok (.iload_n 0, 1) := by decide +kernel
theorem d0_9 : decode method_2_code 9 = .ok (.iconst 1, 1) := by decide +kernel
theorem d0_10 : decode method_2_code 10 = .ok (.if_icmp .ne 11, 3) := by decide +kernel
theorem d0_13 : decode method_2_code 13 = .ok (.iconst 1, 1) := by decide +kernel
theorem d0_14 : decode method_2_code 14 = .ok (.newarray .byte, 2) := by decide +kernel
theorem d0_16 : decode method_2_code 16 = .ok (.dup, 1) := by decide +kernel
theorem d0_17 : decode method_2_code 17 = .ok (.iconst 0, 1) := by decide +kernel
theorem d0_18 : decode method_2_code 18 = .ok (.iload_n 1, 1) := by decide +kernel
theorem d0_19 : decode method_2_code 19 = .ok (.bastore, 1) := by decide +kernel
theorem d0_20 : decode method_2_code 20 = .ok (.areturn, 1) := by decide +kernel
theorem d0_21 : decode method_2_code 21 = .ok (.iload_n 0, 1) := by decide +kernel
theorem d0_22 : decode method_2_code 22 = .ok (.iconst 2, 1) := by decide +kernel
theorem d0_23 : decode method_2_code 23 = .ok (.if_icmp .ne 15, 3) := by decide +kernel
theorem d0_26 : decode method_2_code 26 = .ok (.iconst 2, 1) := by decide +kernel
theorem d0_27 : decode method_2_code 27 = .ok (.newarray .byte, 2) := by decide +kernel
theorem d0_29 : decode method_2_code 29 = .ok (.dup, 1) := by decide +kernel
theorem d0_30 : decode method_2_code 30 = .ok (.iconst 0, 1) := by decide +kernel
theorem d0_31 : decode method_2_code 31 = .ok (.iload_n 1, 1) := by decide +kernel
theorem d0_32 : decode method_2_code 32 = .ok (.bastore, 1) := by decide +kernel
theorem d0_33 : decode method_2_code 33 = .ok (.dup, 1) := by decide +kernel
theorem d0_34 : decode method_2_code 34 = .ok (.iconst 1, 1) := by decide +kernel
theorem d0_35 : decode method_2_code 35 = .ok (.iload_n 2, 1) := by decide +kernel
theorem d0_36 : decode method_2_code 36 = .ok (.bastore, 1) := by decide +kernel
theorem d0_37 : decode method_2_code 37 = .ok (.areturn, 1) := by decide +kernel
theorem d0_38 : decode method_2_code 38 = .ok (.iconst 3, 1) := by decide +kernel
theorem d0_39 : decode method_2_code 39 = .ok (.newarray .byte, 2) := by decide +kernel
theorem d0_41 : decode method_2_code 41 = .ok (.dup, 1) := by decide +kernel
theorem d0_42 : decode method_2_code 42 = .ok (.iconst 0, 1) := by decide +kernel
theorem d0_43 : decode method_2_code 43 = .ok (.iload_n 1, 1) := by decide +kernel
theorem d0_44 : decode method_2_code 44 = .ok (.bastore, 1) := by decide +kernel
theorem d0_45 : decode method_2_code 45 = .ok (.dup, 1) := by decide +kernel
theorem d0_46 : decode method_2_code 46 = .ok (.iconst 1, 1) := by decide +kernel
theorem d0_47 : decode method_2_code 47 = .ok (.iload_n 2, 1) := by decide +kernel
theorem d0_48 : decode method_2_code 48 = .ok (.bastore, 1) := by decide +kernel
theorem d0_49 : decode method_2_code 49 = .ok (.dup, 1) := by decide +kernel
theorem d0_50 : decode method_2_code 50 = .ok (.iconst 2, 1) := by decide +kernel
theorem d0_51 : decode method_2_code 51 = .ok (.iload_n 3, 1) := by decide +kernel
theorem d0_52 : decode method_2_code 52 = .ok (.bastore, 1) := by decide +kernel
theorem d0_53 : decode method_2_code 53 = .ok (.areturn, 1) := by decide +kernel
theorem own_nb (x : Int32) : nar .byte x.toInt8.toInt32 = x.toInt8.toInt32 := by
  show x.toInt8.toInt32.toInt8.toInt32 = _
  simp
theorem own_nb' {x : Int32} (h : ∃ y : Int32, x = y.toInt8.toInt32) : nar .byte x = x := by
  obtain ⟨y, rfl⟩ := h; exact own_nb y
theorem own_mask8 (x : Int32) : ∃ n : Fin 256, (x &&& (255 : Int32)) = Int32.ofNat n.val := by
  refine ⟨⟨(x &&& 255).toBitVec.toNat, ?_⟩, ?_⟩
  · simp only [Int32.toBitVec_and, BitVec.toNat_and]
    exact Nat.lt_of_le_of_lt Nat.and_le_right (by decide)
  · apply Int32.toBitVec_inj.mp
    show _ = BitVec.ofNat 32 _
    rw [BitVec.ofNat_toNat]; simp
theorem own_mask2 (x : Int32) : ∃ n : Fin 4, (x &&& (3 : Int32)) = Int32.ofNat n.val := by
  refine ⟨⟨(x &&& 3).toBitVec.toNat, ?_⟩, ?_⟩
  · simp only [Int32.toBitVec_and, BitVec.toNat_and]
    exact Nat.lt_of_le_of_lt Nat.and_le_right (by decide)
  · apply Int32.toBitVec_inj.mp
    show _ = BitVec.ofNat 32 _
    rw [BitVec.ofNat_toNat]; simp
set_option maxRecDepth 65536 in
set_option maxHeartbeats 4000000 in
theorem c_make0 (l : Launch) (Z : State) (a0 : Array Value) (hw : ∀ d ∈ tables_1, d.before a0 Z = true) (h0 : Heap) (b0 b1 b2 : Int32) (hb0 : nar .byte b0 = b0) (hb1 : nar .byte b1 = b1) (hb2 : nar .byte b2 = b2) : Ow.Pay l Z (⟨"com/example/eunomia/eunomia/xml/NamedStreamReopenedPinLaw", "make", "(IBBB)[B"⟩ : MethodName) method_2_code 4 (some (.array .byte)) ({ frames := 0, cells := 1, slots := 3, locals := 0 } : Room) #[(.int 0), (.int b0), (.int b1), (.int b2)] h0 (fun v h L => ∃ t k, v = some (.ref t) ∧ Ow.Eff h0 h [] L ∧ h0.size ≤ t ∧ Ow.AL Z h t k .byte []) := by
  refine Ow.Pay.of (Ls := #[.val (.int 0), .val (.int b0), .val (.int b1), .val (.int b2)]) (plainFor_of_name pn0) (fun m => by first | rfl | (simp [entryFrame, mkF, argsToLocals, Value.category]; done)) ?_
  intro p e s m below meth c T hx hby hml hown hnm hme hZ hret hlk X eT
  have F := Ow.Eff.refl h0 []
  refine Ow.iloadN X hx (pc := 0) (hb hby d0_0) rfl ?_
  refine Ow.if_ne X hx (pc := 1) (pc' := 8) (hb hby d0_1) (by decide) (by decide) (fun q => absurd (by decide) q) (fun h1 => ?_)
  refine Ow.iconst X hx (pc := 4) (0) (hb hby d0_4) (by decide) ?_
  refine Ow.newarrayL X hx hZ (ww hw 4 rfl) eT 0 (vs := []) rfl (pc := 5) (hb hby d0_5) (by decide) (by decide) (by decide) (by decide) (by decide) ?_
  intro T h_t k_t t ha_t X eT E_t B_t
  have l_t : h0.size ≤ t := by rw [ha_t]; exact F.size
  have F := F.ext E_t
  exact Ow.areturn X hx hlk hret rfl rfl rfl (hb hby d0_7) ⟨t, _, rfl, by rw [eT]; exact F, l_t, by rw [eT]; exact B_t⟩ (by decide) (by decide)
set_option maxRecDepth 65536 in
set_option maxHeartbeats 4000000 in
theorem c_make1 (l : Launch) (Z : State) (a0 : Array Value) (hw : ∀ d ∈ tables_1, d.before a0 Z = true) (h0 : Heap) (b0 b1 b2 : Int32) (hb0 : nar .byte b0 = b0) (hb1 : nar .byte b1 = b1) (hb2 : nar .byte b2 = b2) : Ow.Pay l Z (⟨"com/example/eunomia/eunomia/xml/NamedStreamReopenedPinLaw", "make", "(IBBB)[B"⟩ : MethodName) method_2_code 4 (some (.array .byte)) ({ frames := 0, cells := 1, slots := 3, locals := 0 } : Room) #[(.int 1), (.int b0), (.int b1), (.int b2)] h0 (fun v h L => ∃ t k, v = some (.ref t) ∧ Ow.Eff h0 h [] L ∧ h0.size ≤ t ∧ Ow.AL Z h t k .byte [.int b0]) := by
  refine Ow.Pay.of (Ls := #[.val (.int 1), .val (.int b0), .val (.int b1), .val (.int b2)]) (plainFor_of_name pn0) (fun m => by first | rfl | (simp [entryFrame, mkF, argsToLocals, Value.category]; done)) ?_
  intro p e s m below meth c T hx hby hml hown hnm hme hZ hret hlk X eT
  have F := Ow.Eff.refl h0 []
  refine Ow.iloadN X hx (pc := 0) (hb hby d0_0) rfl ?_
  refine Ow.if_ne X hx (pc := 1) (pc' := 8) (hb hby d0_1) (by decide) (by decide) (fun h1 => ?_) (fun q => absurd q (by decide))
  refine Ow.iloadN X hx (pc := 8) (hb hby d0_8) rfl ?_
  refine Ow.iconst X hx (pc := 9) (1) (hb hby d0_9) (by decide) ?_
  refine Ow.icmp_ne X hx (pc := 10) (pc' := 21) (hb hby d0_10) (by decide) (by decide) (fun q => absurd (by decide) q) (fun h10 => ?_)
  refine Ow.iconst X hx (pc := 13) (1) (hb hby d0_13) (by decide) ?_
  refine Ow.newarrayL X hx hZ (ww hw 4 rfl) eT 1 (vs := [_]) rfl (pc := 14) (hb hby d0_14) (by decide) (by decide) (by decide) (by decide) (by decide) ?_
  intro T h_t k_t t ha_t X eT E_t B_t
  have l_t : h0.size ≤ t := by rw [ha_t]; exact F.size
  have F := F.ext E_t
  refine Ow.dup X hx (pc := 16) (hb hby d0_16) rfl ?_
  refine Ow.iconst X hx (pc := 17) (0) (hb hby d0_17) (by decide) ?_
  refine Ow.iloadN X hx (pc := 18) (hb hby d0_18) rfl ?_
  refine Ow.bastoreL X hx hZ eT B_t 0 [_] (by decide) (by decide) rfl rfl (pc := 19) (hb hby d0_19) ?_
  intro T h_19 X eT W_19 B_t
  rw [hb0] at B_t W_19
  have F := F.wr W_19 (Or.inr l_t)
  exact Ow.areturn X hx hlk hret rfl rfl rfl (hb hby d0_20) ⟨t, _, rfl, by rw [eT]; exact F, l_t, by rw [eT]; exact B_t⟩ (by decide) (by decide)
set_option maxRecDepth 65536 in
set_option maxHeartbeats 4000000 in
theorem c_make2 (l : Launch) (Z : State) (a0 : Array Value) (hw : ∀ d ∈ tables_1, d.before a0 Z = true) (h0 : Heap) (b0 b1 b2 : Int32) (hb0 : nar .byte b0 = b0) (hb1 : nar .byte b1 = b1) (hb2 : nar .byte b2 = b2) : Ow.Pay l Z (⟨"com/example/eunomia/eunomia/xml/NamedStreamReopenedPinLaw", "make", "(IBBB)[B"⟩ : MethodName) method_2_code 4 (some (.array .byte)) ({ frames := 0, cells := 1, slots := 3, locals := 0 } : Room) #[(.int 2), (.int b0), (.int b1), (.int b2)] h0 (fun v h L => ∃ t k, v = some (.ref t) ∧ Ow.Eff h0 h [] L ∧ h0.size ≤ t ∧ Ow.AL Z h t k .byte [.int b0, .int b1]) := by
  refine Ow.Pay.of (Ls := #[.val (.int 2), .val (.int b0), .val (.int b1), .val (.int b2)]) (plainFor_of_name pn0) (fun m => by first | rfl | (simp [entryFrame, mkF, argsToLocals, Value.category]; done)) ?_
  intro p e s m below meth c T hx hby hml hown hnm hme hZ hret hlk X eT
  have F := Ow.Eff.refl h0 []
  refine Ow.iloadN X hx (pc := 0) (hb hby d0_0) rfl ?_
  refine Ow.if_ne X hx (pc := 1) (pc' := 8) (hb hby d0_1) (by decide) (by decide) (fun h1 => ?_) (fun q => absurd q (by decide))
  refine Ow.iloadN X hx (pc := 8) (hb hby d0_8) rfl ?_
  refine Ow.iconst X hx (pc := 9) (1) (hb hby d0_9) (by decide) ?_
  refine Ow.icmp_ne X hx (pc := 10) (pc' := 21) (hb hby d0_10) (by decide) (by decide) (fun h10 => ?_) (fun q => absurd q (by decide))
  refine Ow.iloadN X hx (pc := 21) (hb hby d0_21) rfl ?_
  refine Ow.iconst X hx (pc := 22) (2) (hb hby d0_22) (by decide) ?_
  refine Ow.icmp_ne X hx (pc := 23) (pc' := 38) (hb hby d0_23) (by decide) (by decide) (fun q => absurd (by decide) q) (fun h23 => ?_)
  refine Ow.iconst X hx (pc := 26) (2) (hb hby d0_26) (by decide) ?_
  refine Ow.newarrayL X hx hZ (ww hw 4 rfl) eT 2 (vs := [_, _]) rfl (pc := 27) (hb hby d0_27) (by decide) (by decide) (by decide) (by decide) (by decide) ?_
  intro T h_t k_t t ha_t X eT E_t B_t
  have l_t : h0.size ≤ t := by rw [ha_t]; exact F.size
  have F := F.ext E_t
  refine Ow.dup X hx (pc := 29) (hb hby d0_29) rfl ?_
  refine Ow.iconst X hx (pc := 30) (0) (hb hby d0_30) (by decide) ?_
  refine Ow.iloadN X hx (pc := 31) (hb hby d0_31) rfl ?_
  refine Ow.bastoreL X hx hZ eT B_t 0 [_, _] (by decide) (by decide) rfl rfl (pc := 32) (hb hby d0_32) ?_
  intro T h_32 X eT W_32 B_t
  rw [hb0] at B_t W_32
  have F := F.wr W_32 (Or.inr l_t)
  refine Ow.dup X hx (pc := 33) (hb hby d0_33) rfl ?_
  refine Ow.iconst X hx (pc := 34) (1) (hb hby d0_34) (by decide) ?_
  refine Ow.iloadN X hx (pc := 35) (hb hby d0_35) rfl ?_
  refine Ow.bastoreL X hx hZ eT B_t 1 [_, _] (by decide) (by decide) rfl rfl (pc := 36) (hb hby d0_36) ?_
  intro T h_36 X eT W_36 B_t
  rw [hb1] at B_t W_36
  have F := F.wr W_36 (Or.inr l_t)
  exact Ow.areturn X hx hlk hret rfl rfl rfl (hb hby d0_37) ⟨t, _, rfl, by rw [eT]; exact F, l_t, by rw [eT]; exact B_t⟩ (by decide) (by decide)
set_option maxRecDepth 65536 in
set_option maxHeartbeats 4000000 in
theorem c_make3 (l : Launch) (Z : State) (a0 : Array Value) (hw : ∀ d ∈ tables_1, d.before a0 Z = true) (h0 : Heap) (b0 b1 b2 : Int32) (hb0 : nar .byte b0 = b0) (hb1 : nar .byte b1 = b1) (hb2 : nar .byte b2 = b2) : Ow.Pay l Z (⟨"com/example/eunomia/eunomia/xml/NamedStreamReopenedPinLaw", "make", "(IBBB)[B"⟩ : MethodName) method_2_code 4 (some (.array .byte)) ({ frames := 0, cells := 1, slots := 3, locals := 0 } : Room) #[(.int 3), (.int b0), (.int b1), (.int b2)] h0 (fun v h L => ∃ t k, v = some (.ref t) ∧ Ow.Eff h0 h [] L ∧ h0.size ≤ t ∧ Ow.AL Z h t k .byte [.int b0, .int b1, .int b2]) := by
  refine Ow.Pay.of (Ls := #[.val (.int 3), .val (.int b0), .val (.int b1), .val (.int b2)]) (plainFor_of_name pn0) (fun m => by first | rfl | (simp [entryFrame, mkF, argsToLocals, Value.category]; done)) ?_
  intro p e s m below meth c T hx hby hml hown hnm hme hZ hret hlk X eT
  have F := Ow.Eff.refl h0 []
  refine Ow.iloadN X hx (pc := 0) (hb hby d0_0) rfl ?_
  refine Ow.if_ne X hx (pc := 1) (pc' := 8) (hb hby d0_1) (by decide) (by decide) (fun h1 => ?_) (fun q => absurd q (by decide))
  refine Ow.iloadN X hx (pc := 8) (hb hby d0_8) rfl ?_
  refine Ow.iconst X hx (pc := 9) (1) (hb hby d0_9) (by decide) ?_
  refine Ow.icmp_ne X hx (pc := 10) (pc' := 21) (hb hby d0_10) (by decide) (by decide) (fun h10 => ?_) (fun q => absurd q (by decide))
  refine Ow.iloadN X hx (pc := 21) (hb hby d0_21) rfl ?_
  refine Ow.iconst X hx (pc := 22) (2) (hb hby d0_22) (by decide) ?_
  refine Ow.icmp_ne X hx (pc := 23) (pc' := 38) (hb hby d0_23) (by decide) (by decide) (fun h23 => ?_) (fun q => absurd q (by decide))
  refine Ow.iconst X hx (pc := 38) (3) (hb hby d0_38) (by decide) ?_
  refine Ow.newarrayL X hx hZ (ww hw 4 rfl) eT 3 (vs := [_, _, _]) rfl (pc := 39) (hb hby d0_39) (by decide) (by decide) (by decide) (by decide) (by decide) ?_
  intro T h_t k_t t ha_t X eT E_t B_t
  have l_t : h0.size ≤ t := by rw [ha_t]; exact F.size
  have F := F.ext E_t
  refine Ow.dup X hx (pc := 41) (hb hby d0_41) rfl ?_
  refine Ow.iconst X hx (pc := 42) (0) (hb hby d0_42) (by decide) ?_
  refine Ow.iloadN X hx (pc := 43) (hb hby d0_43) rfl ?_
  refine Ow.bastoreL X hx hZ eT B_t 0 [_, _, _] (by decide) (by decide) rfl rfl (pc := 44) (hb hby d0_44) ?_
  intro T h_44 X eT W_44 B_t
  rw [hb0] at B_t W_44
  have F := F.wr W_44 (Or.inr l_t)
  refine Ow.dup X hx (pc := 45) (hb hby d0_45) rfl ?_
  refine Ow.iconst X hx (pc := 46) (1) (hb hby d0_46) (by decide) ?_
  refine Ow.iloadN X hx (pc := 47) (hb hby d0_47) rfl ?_
  refine Ow.bastoreL X hx hZ eT B_t 1 [_, _, _] (by decide) (by decide) rfl rfl (pc := 48) (hb hby d0_48) ?_
  intro T h_48 X eT W_48 B_t
  rw [hb1] at B_t W_48
  have F := F.wr W_48 (Or.inr l_t)
  refine Ow.dup X hx (pc := 49) (hb hby d0_49) rfl ?_
  refine Ow.iconst X hx (pc := 50) (2) (hb hby d0_50) (by decide) ?_
  refine Ow.iloadN X hx (pc := 51) (hb hby d0_51) rfl ?_
  refine Ow.bastoreL X hx hZ eT B_t 2 [_, _, _] (by decide) (by decide) rfl rfl (pc := 52) (hb hby d0_52) ?_
  intro T h_52 X eT W_52 B_t
  rw [hb2] at B_t W_52
  have F := F.wr W_52 (Or.inr l_t)
  exact Ow.areturn X hx hlk hret rfl rfl rfl (hb hby d0_53) ⟨t, _, rfl, by rw [eT]; exact F, l_t, by rw [eT]; exact B_t⟩ (by decide) (by decide)
theorem d9_0 : decode jdk_2022_method_1_code 0 = .ok (.aload_n 0, 1) := by decide +kernel
theorem d9_1 : decode jdk_2022_method_1_code 1 = .ok (.invokespecial 3, 3) := by decide +kernel
theorem d9_4 : decode jdk_2022_method_1_code 4 = .ok (.return_, 1) := by decide +kernel
set_option maxRecDepth 65536 in
set_option maxHeartbeats 4000000 in
theorem c_isinit (l : Launch) (Z : State) (a0 : Array Value) (hw : ∀ d ∈ tables_1, d.before a0 Z = true) (h0 : Heap) (a : Addr) : Ow.Pay l Z (⟨"java/io/InputStream", "<init>", "()V"⟩ : MethodName) jdk_2022_method_1_code 1 none ({ frames := 1, cells := 0, slots := 0, locals := 12 } : Room) #[(.ref a)] h0 (fun v h L => v = none ∧ h = h0 ∧ L = []) := by
  refine Ow.Pay.of (Ls := #[.val (.ref a)]) (plainFor_of_name pn1) (fun m => by first | rfl | (simp [entryFrame, mkF, argsToLocals, Value.category]; done)) ?_
  intro p e s m below meth c T hx hby hml hown hnm hme hZ hret hlk X eT
  refine Ow.aloadN X hx (pc := 0) (hb hby d9_0) rfl rfl ?_
  refine Ow.objinit X hx hZ hown (ww hw 51 rfl) (ww hw 17 rfl) (ww hw 18 rfl) eT (by rw [hml]; rfl) (pc := 1) (hb hby d9_1) rfl rfl ?_
  intro T X eT
  exact Ow.vreturn X hx hlk hret (hb hby d9_4) ⟨rfl, eT, rfl⟩ (by decide) (by decide)
theorem d8_0 : decode jdk_2004_method_1_code 0 = .ok (.aload_n 0, 1) := by decide +kernel
theorem d8_1 : decode jdk_2004_method_1_code 1 = .ok (.invokespecial 1, 3) := by decide +kernel
theorem d8_4 : decode jdk_2004_method_1_code 4 = .ok (.aload_n 0, 1) := by decide +kernel
theorem d8_5 : decode jdk_2004_method_1_code 5 = .ok (.iconst 0, 1) := by decide +kernel
theorem d8_6 : decode jdk_2004_method_1_code 6 = .ok (.putfield 7, 3) := by decide +kernel
theorem d8_9 : decode jdk_2004_method_1_code 9 = .ok (.aload_n 0, 1) := by decide +kernel
theorem d8_10 : decode jdk_2004_method_1_code 10 = .ok (.aload_n 1, 1) := by decide +kernel
theorem d8_11 : decode jdk_2004_method_1_code 11 = .ok (.putfield 13, 3) := by decide +kernel
theorem d8_14 : decode jdk_2004_method_1_code 14 = .ok (.aload_n 0, 1) := by decide +kernel
theorem d8_15 : decode jdk_2004_method_1_code 15 = .ok (.iconst 0, 1) := by decide +kernel
theorem d8_16 : decode jdk_2004_method_1_code 16 = .ok (.putfield 17, 3) := by decide +kernel
theorem d8_19 : decode jdk_2004_method_1_code 19 = .ok (.aload_n 0, 1) := by decide +kernel
theorem d8_20 : decode jdk_2004_method_1_code 20 = .ok (.aload_n 1, 1) := by decide +kernel
theorem d8_21 : decode jdk_2004_method_1_code 21 = .ok (.arraylength, 1) := by decide +kernel
theorem d8_22 : decode jdk_2004_method_1_code 22 = .ok (.putfield 20, 3) := by decide +kernel
theorem d8_25 : decode jdk_2004_method_1_code 25 = .ok (.return_, 1) := by decide +kernel
set_option maxRecDepth 65536 in
set_option maxHeartbeats 4000000 in
theorem c_bais (l : Launch) (Z : State) (a0 : Array Value) (hw : ∀ d ∈ tables_1, d.before a0 Z = true) (h0 : Heap) (a t : Addr) (kt : ClassId) (vs : List Value) (hne : t ≠ a) (A : Exa Z h0 a "com/example/eunomia/eunomia/xml/NamedStream") (U : Unt h0 a) (F_mark : Fld Z h0 a "java/io/ByteArrayInputStream" "mark" "I" (.int 0)) (F_buf : Fld Z h0 a "java/io/ByteArrayInputStream" "buf" "[B" (.null)) (F_pos : Fld Z h0 a "java/io/ByteArrayInputStream" "pos" "I" (.int 0)) (F_count : Fld Z h0 a "java/io/ByteArrayInputStream" "count" "I" (.int 0)) (F_name : Fld Z h0 a "com/example/eunomia/eunomia/xml/NamedStream" "name" "Ljava/lang/String;" (.null)) (B : Ow.AL Z h0 t kt .byte vs) : Ow.Pay l Z (⟨"java/io/ByteArrayInputStream", "<init>", "([B)V"⟩ : MethodName) jdk_2004_method_1_code 2 none ({ frames := 2, cells := 0, slots := 0, locals := 30 } : Room) #[(.ref a), (.ref t)] h0 (fun v h L => v = none ∧ Ow.Eff h0 h [a] L ∧ Exa Z h a "com/example/eunomia/eunomia/xml/NamedStream" ∧ Unt h a ∧ Fld Z h a "java/io/ByteArrayInputStream" "mark" "I" (.int 0) ∧ Fld Z h a "java/io/ByteArrayInputStream" "buf" "[B" (.ref t) ∧ Fld Z h a "java/io/ByteArrayInputStream" "pos" "I" (.int 0) ∧ Fld Z h a "java/io/ByteArrayInputStream" "count" "I" (.int (Int32.ofNat vs.length)) ∧ Fld Z h a "com/example/eunomia/eunomia/xml/NamedStream" "name" "Ljava/lang/String;" (.null)) := by
  refine Ow.Pay.of (Ls := #[.val (.ref a), .val (.ref t)]) (plainFor_of_name pn2) (fun m => by first | rfl | (simp [entryFrame, mkF, argsToLocals, Value.category]; done)) ?_
  intro p e s m below meth c T hx hby hml hown hnm hme hZ hret hlk X eT
  have F := Ow.Eff.refl h0 [a]
  have sn_mark_buf : RoadKit.slotOf Z "java/io/ByteArrayInputStream" "mark" "I" ≠ RoadKit.slotOf Z "java/io/ByteArrayInputStream" "buf" "[B" := slot_ne (a0 := a0) (C := "com/example/eunomia/eunomia/xml/NamedStream") (Or.inl (ww hw 53 rfl)) (Or.inl (ww hw 55 rfl)) (by decide) (t := .int) (t' := (.array .byte)) (by decide) (by decide)
  have sn_mark_pos : RoadKit.slotOf Z "java/io/ByteArrayInputStream" "mark" "I" ≠ RoadKit.slotOf Z "java/io/ByteArrayInputStream" "pos" "I" := slot_ne (a0 := a0) (C := "com/example/eunomia/eunomia/xml/NamedStream") (Or.inl (ww hw 53 rfl)) (Or.inl (ww hw 57 rfl)) (by decide) (t := .int) (t' := .int) (by decide) (by decide)
  have sn_mark_count : RoadKit.slotOf Z "java/io/ByteArrayInputStream" "mark" "I" ≠ RoadKit.slotOf Z "java/io/ByteArrayInputStream" "count" "I" := slot_ne (a0 := a0) (C := "com/example/eunomia/eunomia/xml/NamedStream") (Or.inl (ww hw 53 rfl)) (Or.inl (ww hw 59 rfl)) (by decide) (t := .int) (t' := .int) (by decide) (by decide)
  have sn_mark_name : RoadKit.slotOf Z "java/io/ByteArrayInputStream" "mark" "I" ≠ RoadKit.slotOf Z "com/example/eunomia/eunomia/xml/NamedStream" "name" "Ljava/lang/String;" := slot_ne (a0 := a0) (C := "com/example/eunomia/eunomia/xml/NamedStream") (Or.inl (ww hw 53 rfl)) (Or.inr (ww hw 61 rfl)) (by decide) (t := .int) (t' := (.object "java/lang/String")) (by decide) (by decide)
  have sn_buf_pos : RoadKit.slotOf Z "java/io/ByteArrayInputStream" "buf" "[B" ≠ RoadKit.slotOf Z "java/io/ByteArrayInputStream" "pos" "I" := slot_ne (a0 := a0) (C := "com/example/eunomia/eunomia/xml/NamedStream") (Or.inl (ww hw 55 rfl)) (Or.inl (ww hw 57 rfl)) (by decide) (t := (.array .byte)) (t' := .int) (by decide) (by decide)
  have sn_buf_count : RoadKit.slotOf Z "java/io/ByteArrayInputStream" "buf" "[B" ≠ RoadKit.slotOf Z "java/io/ByteArrayInputStream" "count" "I" := slot_ne (a0 := a0) (C := "com/example/eunomia/eunomia/xml/NamedStream") (Or.inl (ww hw 55 rfl)) (Or.inl (ww hw 59 rfl)) (by decide) (t := (.array .byte)) (t' := .int) (by decide) (by decide)
  have sn_buf_name : RoadKit.slotOf Z "java/io/ByteArrayInputStream" "buf" "[B" ≠ RoadKit.slotOf Z "com/example/eunomia/eunomia/xml/NamedStream" "name" "Ljava/lang/String;" := slot_ne (a0 := a0) (C := "com/example/eunomia/eunomia/xml/NamedStream") (Or.inl (ww hw 55 rfl)) (Or.inr (ww hw 61 rfl)) (by decide) (t := (.array .byte)) (t' := (.object "java/lang/String")) (by decide) (by decide)
  have sn_pos_count : RoadKit.slotOf Z "java/io/ByteArrayInputStream" "pos" "I" ≠ RoadKit.slotOf Z "java/io/ByteArrayInputStream" "count" "I" := slot_ne (a0 := a0) (C := "com/example/eunomia/eunomia/xml/NamedStream") (Or.inl (ww hw 57 rfl)) (Or.inl (ww hw 59 rfl)) (by decide) (t := .int) (t' := .int) (by decide) (by decide)
  have sn_pos_name : RoadKit.slotOf Z "java/io/ByteArrayInputStream" "pos" "I" ≠ RoadKit.slotOf Z "com/example/eunomia/eunomia/xml/NamedStream" "name" "Ljava/lang/String;" := slot_ne (a0 := a0) (C := "com/example/eunomia/eunomia/xml/NamedStream") (Or.inl (ww hw 57 rfl)) (Or.inr (ww hw 61 rfl)) (by decide) (t := .int) (t' := (.object "java/lang/String")) (by decide) (by decide)
  have sn_count_name : RoadKit.slotOf Z "java/io/ByteArrayInputStream" "count" "I" ≠ RoadKit.slotOf Z "com/example/eunomia/eunomia/xml/NamedStream" "name" "Ljava/lang/String;" := slot_ne (a0 := a0) (C := "com/example/eunomia/eunomia/xml/NamedStream") (Or.inl (ww hw 59 rfl)) (Or.inr (ww hw 61 rfl)) (by decide) (t := .int) (t' := (.object "java/lang/String")) (by decide) (by decide)
  refine Ow.aloadN X hx (pc := 0) (hb hby d8_0) rfl rfl ?_
  refine Ow.callI X hx hZ (c_isinit l Z a0 hw _ _) eT rfl hown (ww hw 45 rfl) (ww hw 46 rfl) (ww hw 49 rfl) (ww hw 50 rfl) (by decide) pd1 (by rw [hml]; rfl) (argsL := []) rfl rfl rfl (pc := 1) (hb hby d8_1) rfl rfl (by decide) (by decide) ?_   -- java/io/InputStream.<init>:()V
  rintro _ T L X ⟨rfl, eT, rfl⟩
  rw [List.append_nil] at X
  dsimp only [Option.toList_some, Option.toList_none, List.cons_append, List.nil_append]
  refine Ow.aloadN X hx (pc := 4) (hb hby d8_4) rfl rfl ?_
  refine Ow.iconst X hx (pc := 5) (0) (hb hby d8_5) (by decide) ?_
  refine Ow.putfield X hx hZ hown (ww hw 52 rfl) Via.refl eT F_mark A (Or.inl (ww hw 53 rfl)) (ww hw 35 rfl) (ty := .int) (by decide) rfl rfl (pc := 6) (hb hby d8_6) ?_
  intro T h_6 X eT W_6
  have F_mark := F_mark.same W_6
  have F_buf := F_buf.other W_6 (Or.inr (Ne.symm sn_mark_buf))
  have F_pos := F_pos.other W_6 (Or.inr (Ne.symm sn_mark_pos))
  have F_count := F_count.other W_6 (Or.inr (Ne.symm sn_mark_count))
  have F_name := F_name.other W_6 (Or.inr (Ne.symm sn_mark_name))
  have A := A.wr W_6
  have U := U.wr W_6
  have F := F.wr W_6 (Or.inl (by simp))
  have B := B.other W_6 hne
  refine Ow.aloadN X hx (pc := 9) (hb hby d8_9) rfl rfl ?_
  refine Ow.aloadN X hx (pc := 10) (hb hby d8_10) rfl rfl ?_
  refine Ow.putfield X hx hZ hown (ww hw 54 rfl) Via.refl eT F_buf A (Or.inl (ww hw 55 rfl)) (ww hw 35 rfl) (ty := (.array .byte)) (by decide) rfl rfl (pc := 11) (hb hby d8_11) ?_
  intro T h_11 X eT W_11
  have F_mark := F_mark.other W_11 (Or.inr sn_mark_buf)
  have F_buf := F_buf.same W_11
  have F_pos := F_pos.other W_11 (Or.inr (Ne.symm sn_buf_pos))
  have F_count := F_count.other W_11 (Or.inr (Ne.symm sn_buf_count))
  have F_name := F_name.other W_11 (Or.inr (Ne.symm sn_buf_name))
  have A := A.wr W_11
  have U := U.wr W_11
  have F := F.wr W_11 (Or.inl (by simp))
  have B := B.other W_11 hne
  refine Ow.aloadN X hx (pc := 14) (hb hby d8_14) rfl rfl ?_
  refine Ow.iconst X hx (pc := 15) (0) (hb hby d8_15) (by decide) ?_
  refine Ow.putfield X hx hZ hown (ww hw 56 rfl) Via.refl eT F_pos A (Or.inl (ww hw 57 rfl)) (ww hw 35 rfl) (ty := .int) (by decide) rfl rfl (pc := 16) (hb hby d8_16) ?_
  intro T h_16 X eT W_16
  have F_mark := F_mark.other W_16 (Or.inr sn_mark_pos)
  have F_buf := F_buf.other W_16 (Or.inr sn_buf_pos)
  have F_pos := F_pos.same W_16
  have F_count := F_count.other W_16 (Or.inr (Ne.symm sn_pos_count))
  have F_name := F_name.other W_16 (Or.inr (Ne.symm sn_pos_name))
  have A := A.wr W_16
  have U := U.wr W_16
  have F := F.wr W_16 (Or.inl (by simp))
  have B := B.other W_16 hne
  refine Ow.aloadN X hx (pc := 19) (hb hby d8_19) rfl rfl ?_
  refine Ow.aloadN X hx (pc := 20) (hb hby d8_20) rfl rfl ?_
  refine Ow.lengthL X hx hZ eT B (Int32.ofNat vs.length) rfl (pc := 21) (hb hby d8_21) ?_
  refine Ow.putfield X hx hZ hown (ww hw 58 rfl) Via.refl eT F_count A (Or.inl (ww hw 59 rfl)) (ww hw 35 rfl) (ty := .int) (by decide) rfl rfl (pc := 22) (hb hby d8_22) ?_
  intro T h_22 X eT W_22
  have F_mark := F_mark.other W_22 (Or.inr sn_mark_count)
  have F_buf := F_buf.other W_22 (Or.inr sn_buf_count)
  have F_pos := F_pos.other W_22 (Or.inr sn_pos_count)
  have F_count := F_count.same W_22
  have F_name := F_name.other W_22 (Or.inr (Ne.symm sn_count_name))
  have A := A.wr W_22
  have U := U.wr W_22
  have F := F.wr W_22 (Or.inl (by simp))
  exact Ow.vreturn X hx hlk hret (hb hby d8_25) ⟨rfl, by rw [eT]; exact F, by rw [eT]; exact A, by rw [eT]; exact U, by rw [eT]; exact F_mark, by rw [eT]; exact F_buf, by rw [eT]; exact F_pos, by rw [eT]; exact F_count, by rw [eT]; exact F_name⟩ (by decide) (by decide)
theorem d7_0 : decode prog_23_method_1_code 0 = .ok (.aload_n 0, 1) := by decide +kernel
theorem d7_1 : decode prog_23_method_1_code 1 = .ok (.aload_n 1, 1) := by decide +kernel
theorem d7_2 : decode prog_23_method_1_code 2 = .ok (.invokespecial 1, 3) := by decide +kernel
theorem d7_5 : decode prog_23_method_1_code 5 = .ok (.aload_n 0, 1) := by decide +kernel
theorem d7_6 : decode prog_23_method_1_code 6 = .ok (.aload_n 2, 1) := by decide +kernel
theorem d7_7 : decode prog_23_method_1_code 7 = .ok (.putfield 7, 3) := by decide +kernel
theorem d7_10 : decode prog_23_method_1_code 10 = .ok (.return_, 1) := by decide +kernel
set_option maxRecDepth 65536 in
set_option maxHeartbeats 4000000 in
theorem c_ns0 (l : Launch) (Z : State) (a0 : Array Value) (hw : ∀ d ∈ tables_1, d.before a0 Z = true) (h0 : Heap) (a t nb : Addr) (kt : ClassId) (vs : List Value) (hne : t ≠ a) (A : Exa Z h0 a "com/example/eunomia/eunomia/xml/NamedStream") (U : Unt h0 a) (F_mark : Fld Z h0 a "java/io/ByteArrayInputStream" "mark" "I" (.int 0)) (F_buf : Fld Z h0 a "java/io/ByteArrayInputStream" "buf" "[B" (.null)) (F_pos : Fld Z h0 a "java/io/ByteArrayInputStream" "pos" "I" (.int 0)) (F_count : Fld Z h0 a "java/io/ByteArrayInputStream" "count" "I" (.int 0)) (F_name : Fld Z h0 a "com/example/eunomia/eunomia/xml/NamedStream" "name" "Ljava/lang/String;" (.null)) (B : Ow.AL Z h0 t kt .byte vs) : Ow.Pay l Z (⟨"com/example/eunomia/eunomia/xml/NamedStream", "<init>", "([BLjava/lang/String;)V"⟩ : MethodName) prog_23_method_1_code 3 none ({ frames := 3, cells := 0, slots := 0, locals := 50 } : Room) #[(.ref a), (.ref t), (.null)] h0 (fun v h L => v = none ∧ Ow.Eff h0 h [a] L ∧ Exa Z h a "com/example/eunomia/eunomia/xml/NamedStream" ∧ Unt h a ∧ Fld Z h a "java/io/ByteArrayInputStream" "mark" "I" (.int 0) ∧ Fld Z h a "java/io/ByteArrayInputStream" "buf" "[B" (.ref t) ∧ Fld Z h a "java/io/ByteArrayInputStream" "pos" "I" (.int 0) ∧ Fld Z h a "java/io/ByteArrayInputStream" "count" "I" (.int (Int32.ofNat vs.length)) ∧ Fld Z h a "com/example/eunomia/eunomia/xml/NamedStream" "name" "Ljava/lang/String;" (.null)) := by
  refine Ow.Pay.of (Ls := #[.val (.ref a), .val (.ref t), .val (.null)]) (plainFor_of_name pn3) (fun m => by first | rfl | (simp [entryFrame, mkF, argsToLocals, Value.category]; done)) ?_
  intro p e s m below meth c T hx hby hml hown hnm hme hZ hret hlk X eT
  have F := Ow.Eff.refl h0 [a]
  have sn_mark_name : RoadKit.slotOf Z "java/io/ByteArrayInputStream" "mark" "I" ≠ RoadKit.slotOf Z "com/example/eunomia/eunomia/xml/NamedStream" "name" "Ljava/lang/String;" := slot_ne (a0 := a0) (C := "com/example/eunomia/eunomia/xml/NamedStream") (Or.inl (ww hw 53 rfl)) (Or.inr (ww hw 61 rfl)) (by decide) (t := .int) (t' := (.object "java/lang/String")) (by decide) (by decide)
  have sn_buf_name : RoadKit.slotOf Z "java/io/ByteArrayInputStream" "buf" "[B" ≠ RoadKit.slotOf Z "com/example/eunomia/eunomia/xml/NamedStream" "name" "Ljava/lang/String;" := slot_ne (a0 := a0) (C := "com/example/eunomia/eunomia/xml/NamedStream") (Or.inl (ww hw 55 rfl)) (Or.inr (ww hw 61 rfl)) (by decide) (t := (.array .byte)) (t' := (.object "java/lang/String")) (by decide) (by decide)
  have sn_pos_name : RoadKit.slotOf Z "java/io/ByteArrayInputStream" "pos" "I" ≠ RoadKit.slotOf Z "com/example/eunomia/eunomia/xml/NamedStream" "name" "Ljava/lang/String;" := slot_ne (a0 := a0) (C := "com/example/eunomia/eunomia/xml/NamedStream") (Or.inl (ww hw 57 rfl)) (Or.inr (ww hw 61 rfl)) (by decide) (t := .int) (t' := (.object "java/lang/String")) (by decide) (by decide)
  have sn_count_name : RoadKit.slotOf Z "java/io/ByteArrayInputStream" "count" "I" ≠ RoadKit.slotOf Z "com/example/eunomia/eunomia/xml/NamedStream" "name" "Ljava/lang/String;" := slot_ne (a0 := a0) (C := "com/example/eunomia/eunomia/xml/NamedStream") (Or.inl (ww hw 59 rfl)) (Or.inr (ww hw 61 rfl)) (by decide) (t := .int) (t' := (.object "java/lang/String")) (by decide) (by decide)
  have hni := (name_of_methodNamed hnm hme).1
  refine Ow.aloadN X hx (pc := 0) (hb hby d7_0) rfl rfl ?_
  refine Ow.aloadN X hx (pc := 1) (hb hby d7_1) rfl rfl ?_
  refine Ow.callI X hx hZ (c_bais l Z a0 hw _ _ _ _ _ hne A U F_mark F_buf F_pos F_count F_name B) eT rfl hown (ww hw 40 rfl) (ww hw 41 rfl) (ww hw 43 rfl) (ww hw 44 rfl) (by decide) pd2 (by rw [hml]; rfl) (argsL := [_]) rfl rfl rfl (pc := 2) (hb hby d7_2) rfl rfl (by decide) (by decide) ?_
  rintro _ T L X ⟨rfl, F2, A, U, F_mark, F_buf, F_pos, F_count, F_name⟩
  dsimp only [Option.toList_some, Option.toList_none, List.cons_append, List.nil_append]
  have F := F.call F2 (fun y hy => by cases List.mem_singleton.mp hy; exact Or.inl (by simp))
  have eT : T.heap = T.heap := rfl
  refine Ow.aloadN X hx (pc := 5) (hb hby d7_5) rfl rfl ?_
  refine Ow.aloadN X hx (pc := 6) (hb hby d7_6) rfl rfl ?_
  refine Ow.putfield X hx hZ hown (ww hw 60 rfl) Via.refl eT F_name A (Or.inr ⟨(ww hw 61 rfl), rfl, hni⟩) (ww hw 35 rfl) (ty := (.object "java/lang/String")) (by decide) rfl rfl (pc := 7) (hb hby d7_7) ?_
  intro T h_7 X eT W_7
  have F_mark := F_mark.other W_7 (Or.inr sn_mark_name)
  have F_buf := F_buf.other W_7 (Or.inr sn_buf_name)
  have F_pos := F_pos.other W_7 (Or.inr sn_pos_name)
  have F_count := F_count.other W_7 (Or.inr sn_count_name)
  have F_name := F_name.same W_7
  have A := A.wr W_7
  have U := U.wr W_7
  have F := F.wr W_7 (Or.inl (by simp))
  exact Ow.vreturn X hx hlk hret (hb hby d7_10) ⟨rfl, by rw [eT]; exact F, by rw [eT]; exact A, by rw [eT]; exact U, by rw [eT]; exact F_mark, by rw [eT]; exact F_buf, by rw [eT]; exact F_pos, by rw [eT]; exact F_count, by rw [eT]; exact F_name⟩ (by decide) (by decide)
set_option maxRecDepth 65536 in
set_option maxHeartbeats 4000000 in
theorem c_ns1 (l : Launch) (Z : State) (a0 : Array Value) (hw : ∀ d ∈ tables_1, d.before a0 Z = true) (h0 : Heap) (a t nb : Addr) (kt : ClassId) (vs : List Value) (hne : t ≠ a) (A : Exa Z h0 a "com/example/eunomia/eunomia/xml/NamedStream") (U : Unt h0 a) (F_mark : Fld Z h0 a "java/io/ByteArrayInputStream" "mark" "I" (.int 0)) (F_buf : Fld Z h0 a "java/io/ByteArrayInputStream" "buf" "[B" (.null)) (F_pos : Fld Z h0 a "java/io/ByteArrayInputStream" "pos" "I" (.int 0)) (F_count : Fld Z h0 a "java/io/ByteArrayInputStream" "count" "I" (.int 0)) (F_name : Fld Z h0 a "com/example/eunomia/eunomia/xml/NamedStream" "name" "Ljava/lang/String;" (.null)) (B : Ow.AL Z h0 t kt .byte vs) : Ow.Pay l Z (⟨"com/example/eunomia/eunomia/xml/NamedStream", "<init>", "([BLjava/lang/String;)V"⟩ : MethodName) prog_23_method_1_code 3 none ({ frames := 3, cells := 0, slots := 0, locals := 50 } : Room) #[(.ref a), (.ref t), (.ref nb)] h0 (fun v h L => v = none ∧ Ow.Eff h0 h [a] L ∧ Exa Z h a "com/example/eunomia/eunomia/xml/NamedStream" ∧ Unt h a ∧ Fld Z h a "java/io/ByteArrayInputStream" "mark" "I" (.int 0) ∧ Fld Z h a "java/io/ByteArrayInputStream" "buf" "[B" (.ref t) ∧ Fld Z h a "java/io/ByteArrayInputStream" "pos" "I" (.int 0) ∧ Fld Z h a "java/io/ByteArrayInputStream" "count" "I" (.int (Int32.ofNat vs.length)) ∧ Fld Z h a "com/example/eunomia/eunomia/xml/NamedStream" "name" "Ljava/lang/String;" (.ref nb)) := by
  refine Ow.Pay.of (Ls := #[.val (.ref a), .val (.ref t), .val (.ref nb)]) (plainFor_of_name pn3) (fun m => by first | rfl | (simp [entryFrame, mkF, argsToLocals, Value.category]; done)) ?_
  intro p e s m below meth c T hx hby hml hown hnm hme hZ hret hlk X eT
  have F := Ow.Eff.refl h0 [a]
  have sn_mark_name : RoadKit.slotOf Z "java/io/ByteArrayInputStream" "mark" "I" ≠ RoadKit.slotOf Z "com/example/eunomia/eunomia/xml/NamedStream" "name" "Ljava/lang/String;" := slot_ne (a0 := a0) (C := "com/example/eunomia/eunomia/xml/NamedStream") (Or.inl (ww hw 53 rfl)) (Or.inr (ww hw 61 rfl)) (by decide) (t := .int) (t' := (.object "java/lang/String")) (by decide) (by decide)
  have sn_buf_name : RoadKit.slotOf Z "java/io/ByteArrayInputStream" "buf" "[B" ≠ RoadKit.slotOf Z "com/example/eunomia/eunomia/xml/NamedStream" "name" "Ljava/lang/String;" := slot_ne (a0 := a0) (C := "com/example/eunomia/eunomia/xml/NamedStream") (Or.inl (ww hw 55 rfl)) (Or.inr (ww hw 61 rfl)) (by decide) (t := (.array .byte)) (t' := (.object "java/lang/String")) (by decide) (by decide)
  have sn_pos_name : RoadKit.slotOf Z "java/io/ByteArrayInputStream" "pos" "I" ≠ RoadKit.slotOf Z "com/example/eunomia/eunomia/xml/NamedStream" "name" "Ljava/lang/String;" := slot_ne (a0 := a0) (C := "com/example/eunomia/eunomia/xml/NamedStream") (Or.inl (ww hw 57 rfl)) (Or.inr (ww hw 61 rfl)) (by decide) (t := .int) (t' := (.object "java/lang/String")) (by decide) (by decide)
  have sn_count_name : RoadKit.slotOf Z "java/io/ByteArrayInputStream" "count" "I" ≠ RoadKit.slotOf Z "com/example/eunomia/eunomia/xml/NamedStream" "name" "Ljava/lang/String;" := slot_ne (a0 := a0) (C := "com/example/eunomia/eunomia/xml/NamedStream") (Or.inl (ww hw 59 rfl)) (Or.inr (ww hw 61 rfl)) (by decide) (t := .int) (t' := (.object "java/lang/String")) (by decide) (by decide)
  have hni := (name_of_methodNamed hnm hme).1
  refine Ow.aloadN X hx (pc := 0) (hb hby d7_0) rfl rfl ?_
  refine Ow.aloadN X hx (pc := 1) (hb hby d7_1) rfl rfl ?_
  refine Ow.callI X hx hZ (c_bais l Z a0 hw _ _ _ _ _ hne A U F_mark F_buf F_pos F_count F_name B) eT rfl hown (ww hw 40 rfl) (ww hw 41 rfl) (ww hw 43 rfl) (ww hw 44 rfl) (by decide) pd2 (by rw [hml]; rfl) (argsL := [_]) rfl rfl rfl (pc := 2) (hb hby d7_2) rfl rfl (by decide) (by decide) ?_
  rintro _ T L X ⟨rfl, F2, A, U, F_mark, F_buf, F_pos, F_count, F_name⟩
  dsimp only [Option.toList_some, Option.toList_none, List.cons_append, List.nil_append]
  have F := F.call F2 (fun y hy => by cases List.mem_singleton.mp hy; exact Or.inl (by simp))
  have eT : T.heap = T.heap := rfl
  refine Ow.aloadN X hx (pc := 5) (hb hby d7_5) rfl rfl ?_
  refine Ow.aloadN X hx (pc := 6) (hb hby d7_6) rfl rfl ?_
  refine Ow.putfield X hx hZ hown (ww hw 60 rfl) Via.refl eT F_name A (Or.inr ⟨(ww hw 61 rfl), rfl, hni⟩) (ww hw 35 rfl) (ty := (.object "java/lang/String")) (by decide) rfl rfl (pc := 7) (hb hby d7_7) ?_
  intro T h_7 X eT W_7
  have F_mark := F_mark.other W_7 (Or.inr sn_mark_name)
  have F_buf := F_buf.other W_7 (Or.inr sn_buf_name)
  have F_pos := F_pos.other W_7 (Or.inr sn_pos_name)
  have F_count := F_count.other W_7 (Or.inr sn_count_name)
  have F_name := F_name.same W_7
  have A := A.wr W_7
  have U := U.wr W_7
  have F := F.wr W_7 (Or.inl (by simp))
  exact Ow.vreturn X hx hlk hret (hb hby d7_10) ⟨rfl, by rw [eT]; exact F, by rw [eT]; exact A, by rw [eT]; exact U, by rw [eT]; exact F_mark, by rw [eT]; exact F_buf, by rw [eT]; exact F_pos, by rw [eT]; exact F_count, by rw [eT]; exact F_name⟩ (by decide) (by decide)
theorem d11_0 : decode prog_23_method_3_code 0 = .ok (.new 8, 3) := by decide +kernel
theorem d11_3 : decode prog_23_method_3_code 3 = .ok (.dup, 1) := by decide +kernel
theorem d11_4 : decode prog_23_method_3_code 4 = .ok (.aload_n 0, 1) := by decide +kernel
theorem d11_5 : decode prog_23_method_3_code 5 = .ok (.getfield 13, 3) := by decide +kernel
theorem d11_8 : decode prog_23_method_3_code 8 = .ok (.aload_n 0, 1) := by decide +kernel
theorem d11_9 : decode prog_23_method_3_code 9 = .ok (.getfield 7, 3) := by decide +kernel
theorem d11_12 : decode prog_23_method_3_code 12 = .ok (.invokespecial 17, 3) := by decide +kernel
theorem d11_15 : decode prog_23_method_3_code 15 = .ok (.areturn, 1) := by decide +kernel
set_option maxRecDepth 65536 in
set_option maxHeartbeats 4000000 in
theorem c_reopened0 (l : Launch) (Z : State) (a0 : Array Value) (hw : ∀ d ∈ tables_1, d.before a0 Z = true) (h0 : Heap) (a t nb : Addr) (kt : ClassId) (vs : List Value) (F_buf : Fld Z h0 a "java/io/ByteArrayInputStream" "buf" "[B" (.ref t)) (F_name : Fld Z h0 a "com/example/eunomia/eunomia/xml/NamedStream" "name" "Ljava/lang/String;" (.null)) (B : Ow.AL Z h0 t kt .byte vs) : Ow.Pay l Z (⟨"com/example/eunomia/eunomia/xml/NamedStream", "reopened", "()Lcom/example/eunomia/eunomia/xml/NamedStream;"⟩ : MethodName) prog_23_method_3_code 1 (some (.object "com/example/eunomia/eunomia/xml/NamedStream")) ({ frames := 4, cells := 1, slots := 5, locals := 80 } : Room) #[(.ref a)] h0 (fun v h L => ∃ r, v = some (.ref r) ∧ Ow.Eff h0 h [] L ∧ h0.size ≤ r ∧ Exa Z h r "com/example/eunomia/eunomia/xml/NamedStream" ∧ Unt h r ∧ Fld Z h r "java/io/ByteArrayInputStream" "mark" "I" (.int 0) ∧ Fld Z h r "java/io/ByteArrayInputStream" "buf" "[B" (.ref t) ∧ Fld Z h r "java/io/ByteArrayInputStream" "pos" "I" (.int 0) ∧ Fld Z h r "java/io/ByteArrayInputStream" "count" "I" (.int (Int32.ofNat vs.length)) ∧ Fld Z h r "com/example/eunomia/eunomia/xml/NamedStream" "name" "Ljava/lang/String;" (.null)) := by
  refine Ow.Pay.of (Ls := #[.val (.ref a)]) (plainFor_of_name pn3) (fun m => by first | rfl | (simp [entryFrame, mkF, argsToLocals, Value.category]; done)) ?_
  intro p e s m below meth c T hx hby hml hown hnm hme hZ hret hlk X eT
  have F := Ow.Eff.refl h0 []
  refine Ow.new_ X hx hZ hown (ww hw 74 rfl) (ww hw 35 rfl) (ww hw 36 rfl) eT (pc := 0) (hb hby d11_0) (by decide) (by decide) ?_
  intro T h_r r ha_r X eT E_r A_r D_r U_r
  have l_r : h0.size ≤ r := by rw [ha_r]; exact F.size
  have ne_t_r : t ≠ r := by rw [ha_r]; exact Nat.ne_of_lt B.lt
  have ne_a_r : a ≠ r := by rw [ha_r]; exact Nat.ne_of_lt F_buf.lt
  have B := B.ext E_r
  have F_buf := F_buf.ext E_r
  have F_name := F_name.ext E_r
  have F := F.ext E_r
  have G_mark := D_r (Or.inl (ww hw 53 rfl)) (ty := .int) (by decide)
  have G_buf := D_r (Or.inl (ww hw 55 rfl)) (ty := (.array .byte)) (by decide)
  have G_pos := D_r (Or.inl (ww hw 57 rfl)) (ty := .int) (by decide)
  have G_count := D_r (Or.inl (ww hw 59 rfl)) (ty := .int) (by decide)
  have G_name := D_r (Or.inr (ww hw 61 rfl)) (ty := (.object "java/lang/String")) (by decide)
  refine Ow.dup X hx (pc := 3) (hb hby d11_3) rfl ?_
  refine Ow.aloadN X hx (pc := 4) (hb hby d11_4) rfl rfl ?_
  refine Ow.getfield X hx hZ hown (ww hw 75 rfl) (Via.of (ww hw 76 rfl)) eT F_buf (pc := 5) (hb hby d11_5) ?_
  intro T X eT
  refine Ow.aloadN X hx (pc := 8) (hb hby d11_8) rfl rfl ?_
  refine Ow.getfield X hx hZ hown (ww hw 60 rfl) Via.refl eT F_name (pc := 9) (hb hby d11_9) ?_
  intro T X eT
  refine Ow.callI X hx hZ (c_ns0 l Z a0 hw _ _ _ nb _ _ ne_t_r A_r U_r G_mark G_buf G_pos G_count G_name B) eT rfl hown (ww hw 77 rfl) (ww hw 38 rfl) (ww hw 36 rfl) (ww hw 39 rfl) (by decide) pd3 (by rw [hml]; rfl) (argsL := [_, _]) rfl rfl rfl (pc := 12) (hb hby d11_12) rfl rfl (by decide) (by decide) ?_
  rintro _ T L X ⟨rfl, F2, A_r, U_r, G_mark, G_buf, G_pos, G_count, G_name⟩
  dsimp only [Option.toList_some, Option.toList_none, List.cons_append, List.nil_append]
  have F := F.call F2 (fun y hy => by cases List.mem_singleton.mp hy; exact Or.inr l_r)
  exact Ow.areturn X hx hlk hret rfl rfl rfl (hb hby d11_15) ⟨r, rfl, F, l_r, A_r, U_r, G_mark, G_buf, G_pos, G_count, G_name⟩ (by decide) (by decide)
set_option maxRecDepth 65536 in
set_option maxHeartbeats 4000000 in
theorem c_reopened1 (l : Launch) (Z : State) (a0 : Array Value) (hw : ∀ d ∈ tables_1, d.before a0 Z = true) (h0 : Heap) (a t nb : Addr) (kt : ClassId) (vs : List Value) (F_buf : Fld Z h0 a "java/io/ByteArrayInputStream" "buf" "[B" (.ref t)) (F_name : Fld Z h0 a "com/example/eunomia/eunomia/xml/NamedStream" "name" "Ljava/lang/String;" (.ref nb)) (B : Ow.AL Z h0 t kt .byte vs) : Ow.Pay l Z (⟨"com/example/eunomia/eunomia/xml/NamedStream", "reopened", "()Lcom/example/eunomia/eunomia/xml/NamedStream;"⟩ : MethodName) prog_23_method_3_code 1 (some (.object "com/example/eunomia/eunomia/xml/NamedStream")) ({ frames := 4, cells := 1, slots := 5, locals := 80 } : Room) #[(.ref a)] h0 (fun v h L => ∃ r, v = some (.ref r) ∧ Ow.Eff h0 h [] L ∧ h0.size ≤ r ∧ Exa Z h r "com/example/eunomia/eunomia/xml/NamedStream" ∧ Unt h r ∧ Fld Z h r "java/io/ByteArrayInputStream" "mark" "I" (.int 0) ∧ Fld Z h r "java/io/ByteArrayInputStream" "buf" "[B" (.ref t) ∧ Fld Z h r "java/io/ByteArrayInputStream" "pos" "I" (.int 0) ∧ Fld Z h r "java/io/ByteArrayInputStream" "count" "I" (.int (Int32.ofNat vs.length)) ∧ Fld Z h r "com/example/eunomia/eunomia/xml/NamedStream" "name" "Ljava/lang/String;" (.ref nb)) := by
  refine Ow.Pay.of (Ls := #[.val (.ref a)]) (plainFor_of_name pn3) (fun m => by first | rfl | (simp [entryFrame, mkF, argsToLocals, Value.category]; done)) ?_
  intro p e s m below meth c T hx hby hml hown hnm hme hZ hret hlk X eT
  have F := Ow.Eff.refl h0 []
  refine Ow.new_ X hx hZ hown (ww hw 74 rfl) (ww hw 35 rfl) (ww hw 36 rfl) eT (pc := 0) (hb hby d11_0) (by decide) (by decide) ?_
  intro T h_r r ha_r X eT E_r A_r D_r U_r
  have l_r : h0.size ≤ r := by rw [ha_r]; exact F.size
  have ne_t_r : t ≠ r := by rw [ha_r]; exact Nat.ne_of_lt B.lt
  have ne_a_r : a ≠ r := by rw [ha_r]; exact Nat.ne_of_lt F_buf.lt
  have B := B.ext E_r
  have F_buf := F_buf.ext E_r
  have F_name := F_name.ext E_r
  have F := F.ext E_r
  have G_mark := D_r (Or.inl (ww hw 53 rfl)) (ty := .int) (by decide)
  have G_buf := D_r (Or.inl (ww hw 55 rfl)) (ty := (.array .byte)) (by decide)
  have G_pos := D_r (Or.inl (ww hw 57 rfl)) (ty := .int) (by decide)
  have G_count := D_r (Or.inl (ww hw 59 rfl)) (ty := .int) (by decide)
  have G_name := D_r (Or.inr (ww hw 61 rfl)) (ty := (.object "java/lang/String")) (by decide)
  refine Ow.dup X hx (pc := 3) (hb hby d11_3) rfl ?_
  refine Ow.aloadN X hx (pc := 4) (hb hby d11_4) rfl rfl ?_
  refine Ow.getfield X hx hZ hown (ww hw 75 rfl) (Via.of (ww hw 76 rfl)) eT F_buf (pc := 5) (hb hby d11_5) ?_
  intro T X eT
  refine Ow.aloadN X hx (pc := 8) (hb hby d11_8) rfl rfl ?_
  refine Ow.getfield X hx hZ hown (ww hw 60 rfl) Via.refl eT F_name (pc := 9) (hb hby d11_9) ?_
  intro T X eT
  refine Ow.callI X hx hZ (c_ns1 l Z a0 hw _ _ _ nb _ _ ne_t_r A_r U_r G_mark G_buf G_pos G_count G_name B) eT rfl hown (ww hw 77 rfl) (ww hw 38 rfl) (ww hw 36 rfl) (ww hw 39 rfl) (by decide) pd3 (by rw [hml]; rfl) (argsL := [_, _]) rfl rfl rfl (pc := 12) (hb hby d11_12) rfl rfl (by decide) (by decide) ?_
  rintro _ T L X ⟨rfl, F2, A_r, U_r, G_mark, G_buf, G_pos, G_count, G_name⟩
  dsimp only [Option.toList_some, Option.toList_none, List.cons_append, List.nil_append]
  have F := F.call F2 (fun y hy => by cases List.mem_singleton.mp hy; exact Or.inr l_r)
  exact Ow.areturn X hx hlk hret rfl rfl rfl (hb hby d11_15) ⟨r, rfl, F, l_r, A_r, U_r, G_mark, G_buf, G_pos, G_count, G_name⟩ (by decide) (by decide)
theorem d12_0 : decode prog_23_method_2_code 0 = .ok (.aload_n 0, 1) := by decide +kernel
theorem d12_1 : decode prog_23_method_2_code 1 = .ok (.getfield 7, 3) := by decide +kernel
theorem d12_4 : decode prog_23_method_2_code 4 = .ok (.areturn, 1) := by decide +kernel
set_option maxRecDepth 65536 in
set_option maxHeartbeats 4000000 in
theorem c_name0 (l : Launch) (Z : State) (a0 : Array Value) (hw : ∀ d ∈ tables_1, d.before a0 Z = true) (h0 : Heap) (a nb : Addr) (F1 : Fld Z h0 a "com/example/eunomia/eunomia/xml/NamedStream" "name" "Ljava/lang/String;" (.null)) : Ow.Pay l Z (⟨"com/example/eunomia/eunomia/xml/NamedStream", "name", "()Ljava/lang/String;"⟩ : MethodName) prog_23_method_2_code 1 (some (.object "java/lang/String")) ({ frames := 0, cells := 0, slots := 0, locals := 0 } : Room) #[(.ref a)] h0 (fun v h L => v = some (.null) ∧ h = h0 ∧ L = []) := by
  refine Ow.Pay.of (Ls := #[.val (.ref a)]) (plainFor_of_name pn3) (fun m => by first | rfl | (simp [entryFrame, mkF, argsToLocals, Value.category]; done)) ?_
  intro p e s m below meth c T hx hby hml hown hnm hme hZ hret hlk X eT
  refine Ow.aloadN X hx (pc := 0) (hb hby d12_0) rfl rfl ?_
  refine Ow.getfield X hx hZ hown (ww hw 60 rfl) Via.refl eT F1 (pc := 1) (hb hby d12_1) ?_   -- "com/example/eunomia/eunomia/xml/NamedStream" "name" "Ljava/lang/String;"
  intro T X eT
  exact Ow.areturn X hx hlk hret rfl rfl rfl (hb hby d12_4) ⟨rfl, eT, rfl⟩ (by decide) (by decide)
set_option maxRecDepth 65536 in
set_option maxHeartbeats 4000000 in
theorem c_name1 (l : Launch) (Z : State) (a0 : Array Value) (hw : ∀ d ∈ tables_1, d.before a0 Z = true) (h0 : Heap) (a nb : Addr) (F1 : Fld Z h0 a "com/example/eunomia/eunomia/xml/NamedStream" "name" "Ljava/lang/String;" (.ref nb)) : Ow.Pay l Z (⟨"com/example/eunomia/eunomia/xml/NamedStream", "name", "()Ljava/lang/String;"⟩ : MethodName) prog_23_method_2_code 1 (some (.object "java/lang/String")) ({ frames := 0, cells := 0, slots := 0, locals := 0 } : Room) #[(.ref a)] h0 (fun v h L => v = some (.ref nb) ∧ h = h0 ∧ L = []) := by
  refine Ow.Pay.of (Ls := #[.val (.ref a)]) (plainFor_of_name pn3) (fun m => by first | rfl | (simp [entryFrame, mkF, argsToLocals, Value.category]; done)) ?_
  intro p e s m below meth c T hx hby hml hown hnm hme hZ hret hlk X eT
  refine Ow.aloadN X hx (pc := 0) (hb hby d12_0) rfl rfl ?_
  refine Ow.getfield X hx hZ hown (ww hw 60 rfl) Via.refl eT F1 (pc := 1) (hb hby d12_1) ?_   -- "com/example/eunomia/eunomia/xml/NamedStream" "name" "Ljava/lang/String;"
  intro T X eT
  exact Ow.areturn X hx hlk hret rfl rfl rfl (hb hby d12_4) ⟨rfl, eT, rfl⟩ (by decide) (by decide)
theorem d13_0 : decode jdk_42_method_66_code 0 = .ok (.aload_n 0, 1) := by decide +kernel
theorem d13_1 : decode jdk_42_method_66_code 1 = .ok (.aload_n 1, 1) := by decide +kernel
theorem d13_2 : decode jdk_42_method_66_code 2 = .ok (.if_acmp .ne 5, 3) := by decide +kernel
theorem d13_5 : decode jdk_42_method_66_code 5 = .ok (.iconst 1, 1) := by decide +kernel
theorem d13_6 : decode jdk_42_method_66_code 6 = .ok (.ireturn, 1) := by decide +kernel
theorem d13_7 : decode jdk_42_method_66_code 7 = .ok (.aload_n 1, 1) := by decide +kernel
theorem d13_8 : decode jdk_42_method_66_code 8 = .ok (.instanceof 10, 3) := by decide +kernel
theorem d13_11 : decode jdk_42_method_66_code 11 = .ok (.ifCond .eq 43, 3) := by decide +kernel
theorem d13_14 : decode jdk_42_method_66_code 14 = .ok (.aload_n 1, 1) := by decide +kernel
theorem d13_15 : decode jdk_42_method_66_code 15 = .ok (.checkcast 10, 3) := by decide +kernel
theorem d13_18 : decode jdk_42_method_66_code 18 = .ok (.astore_n 2, 1) := by decide +kernel
theorem d13_19 : decode jdk_42_method_66_code 19 = .ok (.getstatic 38, 3) := by decide +kernel
theorem d13_22 : decode jdk_42_method_66_code 22 = .ok (.ifCond .eq 14, 3) := by decide +kernel
theorem d13_25 : decode jdk_42_method_66_code 25 = .ok (.aload_n 0, 1) := by decide +kernel
theorem d13_26 : decode jdk_42_method_66_code 26 = .ok (.getfield 15, 3) := by decide +kernel
theorem d13_29 : decode jdk_42_method_66_code 29 = .ok (.aload_n 2, 1) := by decide +kernel
theorem d13_30 : decode jdk_42_method_66_code 30 = .ok (.getfield 15, 3) := by decide +kernel
theorem d13_33 : decode jdk_42_method_66_code 33 = .ok (.if_icmp .ne 21, 3) := by decide +kernel
theorem d13_36 : decode jdk_42_method_66_code 36 = .ok (.aload_n 0, 1) := by decide +kernel
theorem d13_37 : decode jdk_42_method_66_code 37 = .ok (.getfield 9, 3) := by decide +kernel
theorem d13_40 : decode jdk_42_method_66_code 40 = .ok (.aload_n 2, 1) := by decide +kernel
theorem d13_41 : decode jdk_42_method_66_code 41 = .ok (.getfield 9, 3) := by decide +kernel
theorem d13_44 : decode jdk_42_method_66_code 44 = .ok (.invokestatic 541, 3) := by decide +kernel
theorem d13_47 : decode jdk_42_method_66_code 47 = .ok (.ifCond .eq 7, 3) := by decide +kernel
theorem d13_50 : decode jdk_42_method_66_code 50 = .ok (.iconst 1, 1) := by decide +kernel
theorem d13_51 : decode jdk_42_method_66_code 51 = .ok (.goto 4, 3) := by decide +kernel
theorem d13_54 : decode jdk_42_method_66_code 54 = .ok (.iconst 0, 1) := by decide +kernel
theorem d13_55 : decode jdk_42_method_66_code 55 = .ok (.ireturn, 1) := by decide +kernel
set_option maxRecDepth 65536 in
set_option maxHeartbeats 4000000 in
theorem c_equals (l : Launch) (Z : State) (a0 : Array Value) (hw : ∀ d ∈ tables_1, d.before a0 Z = true) (h0 : Heap) (x : Addr) : Ow.Pay l Z (⟨"java/lang/String", "equals", "(Ljava/lang/Object;)Z"⟩ : MethodName) jdk_42_method_66_code 3 (some .boolean) ({ frames := 0, cells := 0, slots := 0, locals := 0 } : Room) #[(.ref x), (.ref x)] h0 (fun v h L => v = some (.int 1) ∧ h = h0 ∧ L = []) := by
  refine Ow.Pay.of (Ls := #[.val (.ref x), .val (.ref x), .unset]) (plainFor_of_name pn4) (fun m => by first | rfl | (simp [entryFrame, mkF, argsToLocals, Value.category]; done)) ?_
  intro p e s m below meth c T hx hby hml hown hnm hme hZ hret hlk X eT
  refine Ow.aloadN X hx (pc := 0) (hb hby d13_0) rfl rfl ?_
  refine Ow.aloadN X hx (pc := 1) (hb hby d13_1) rfl rfl ?_
  refine Ow.acmp_ne X hx (pc := 2) (pc' := 7) (hb hby d13_2) rfl rfl (by decide) (by decide) (fun q => absurd rfl q) (fun h2 => ?_)
  refine Ow.iconst X hx (pc := 5) (1) (hb hby d13_5) (by decide) ?_
  exact Ow.nreturn X hx hlk hret (Or.inl rfl) (hb hby d13_6) ⟨rfl, eT, rfl⟩ (by decide) (by decide)
theorem d16_0 : decode jdk_41_method_13_code 0 = .ok (.iload_n 2, 1) := by decide +kernel
theorem d16_1 : decode jdk_41_method_13_code 1 = .ok (.iload_n 0, 1) := by decide +kernel
theorem d16_2 : decode jdk_41_method_13_code 2 = .ok (.ior, 1) := by decide +kernel
theorem d16_3 : decode jdk_41_method_13_code 3 = .ok (.iload_n 1, 1) := by decide +kernel
theorem d16_4 : decode jdk_41_method_13_code 4 = .ok (.ior, 1) := by decide +kernel
theorem d16_5 : decode jdk_41_method_13_code 5 = .ok (.ifCond .lt 10, 3) := by decide +kernel
theorem d16_8 : decode jdk_41_method_13_code 8 = .ok (.iload_n 1, 1) := by decide +kernel
theorem d16_9 : decode jdk_41_method_13_code 9 = .ok (.iload_n 2, 1) := by decide +kernel
theorem d16_10 : decode jdk_41_method_13_code 10 = .ok (.iload_n 0, 1) := by decide +kernel
theorem d16_11 : decode jdk_41_method_13_code 11 = .ok (.isub, 1) := by decide +kernel
theorem d16_12 : decode jdk_41_method_13_code 12 = .ok (.if_icmp .le 11, 3) := by decide +kernel
theorem d16_15 : decode jdk_41_method_13_code 15 = .ok (.aload_n 3, 1) := by decide +kernel
theorem d16_16 : decode jdk_41_method_13_code 16 = .ok (.iload_n 0, 1) := by decide +kernel
theorem d16_17 : decode jdk_41_method_13_code 17 = .ok (.iload_n 1, 1) := by decide +kernel
theorem d16_18 : decode jdk_41_method_13_code 18 = .ok (.iload_n 2, 1) := by decide +kernel
theorem d16_19 : decode jdk_41_method_13_code 19 = .ok (.invokestatic 103, 3) := by decide +kernel
theorem d16_22 : decode jdk_41_method_13_code 22 = .ok (.athrow, 1) := by decide +kernel
theorem d16_23 : decode jdk_41_method_13_code 23 = .ok (.iload_n 0, 1) := by decide +kernel
theorem d16_24 : decode jdk_41_method_13_code 24 = .ok (.ireturn, 1) := by decide +kernel
set_option maxRecDepth 65536 in
set_option maxHeartbeats 4000000 in
theorem c_pcfis (l : Launch) (Z : State) (a0 : Array Value) (hw : ∀ d ∈ tables_1, d.before a0 Z = true) (h0 : Heap) : Ow.Pay l Z (⟨"jdk/internal/util/Preconditions", "checkFromIndexSize", "(IIILjava/util/function/BiFunction;)I"⟩ : MethodName) jdk_41_method_13_code 4 (some .int) ({ frames := 0, cells := 0, slots := 0, locals := 0 } : Room) #[(.int 0), (.int 4), (.int 4), (.null)] h0 (fun v h L => v = some (.int 0) ∧ h = h0 ∧ L = []) := by
  refine Ow.Pay.of (Ls := #[.val (.int 0), .val (.int 4), .val (.int 4), .val (.null)]) (plainFor_of_name pn5) (fun m => by first | rfl | (simp [entryFrame, mkF, argsToLocals, Value.category]; done)) ?_
  intro p e s m below meth c T hx hby hml hown hnm hme hZ hret hlk X eT
  refine Ow.iloadN X hx (pc := 0) (hb hby d16_0) rfl ?_
  refine Ow.iloadN X hx (pc := 1) (hb hby d16_1) rfl ?_
  refine Ow.ior X hx (pc := 2) (hb hby d16_2) ?_
  refine Ow.iloadN X hx (pc := 3) (hb hby d16_3) rfl ?_
  refine Ow.ior X hx (pc := 4) (hb hby d16_4) ?_
  refine Ow.if_lt X hx (pc := 5) (pc' := 15) (hb hby d16_5) (by decide) (by decide) (fun q => absurd q (by decide)) (fun h5 => ?_)
  refine Ow.iloadN X hx (pc := 8) (hb hby d16_8) rfl ?_
  refine Ow.iloadN X hx (pc := 9) (hb hby d16_9) rfl ?_
  refine Ow.iloadN X hx (pc := 10) (hb hby d16_10) rfl ?_
  refine Ow.isub X hx (pc := 11) (hb hby d16_11) ?_
  refine Ow.icmp_le X hx (pc := 12) (pc' := 23) (hb hby d16_12) (by decide) (by decide) (fun h12 => ?_) (fun q => absurd q (by decide))
  refine Ow.iloadN X hx (pc := 23) (hb hby d16_23) rfl ?_
  exact Ow.ireturn X hx hlk hret (hb hby d16_24) ⟨rfl, eT, rfl⟩ (by decide) (by decide)
theorem d15_0 : decode jdk_31_method_19_code 0 = .ok (.iload_n 0, 1) := by decide +kernel
theorem d15_1 : decode jdk_31_method_19_code 1 = .ok (.iload_n 1, 1) := by decide +kernel
theorem d15_2 : decode jdk_31_method_19_code 2 = .ok (.iload_n 2, 1) := by decide +kernel
theorem d15_3 : decode jdk_31_method_19_code 3 = .ok (.aconst_null, 1) := by decide +kernel
theorem d15_4 : decode jdk_31_method_19_code 4 = .ok (.invokestatic 115, 3) := by decide +kernel
theorem d15_7 : decode jdk_31_method_19_code 7 = .ok (.ireturn, 1) := by decide +kernel
set_option maxRecDepth 65536 in
set_option maxHeartbeats 4000000 in
theorem c_ocfis (l : Launch) (Z : State) (a0 : Array Value) (hw : ∀ d ∈ tables_1, d.before a0 Z = true) (h0 : Heap) : Ow.Pay l Z (⟨"java/util/Objects", "checkFromIndexSize", "(III)I"⟩ : MethodName) jdk_31_method_19_code 3 (some .int) ({ frames := 1, cells := 0, slots := 0, locals := 15 } : Room) #[(.int 0), (.int 4), (.int 4)] h0 (fun v h L => v = some (.int 0) ∧ h = h0 ∧ L = []) := by
  refine Ow.Pay.of (Ls := #[.val (.int 0), .val (.int 4), .val (.int 4)]) (plainFor_of_name pn6) (fun m => by first | rfl | (simp [entryFrame, mkF, argsToLocals, Value.category]; done)) ?_
  intro p e s m below meth c T hx hby hml hown hnm hme hZ hret hlk X eT
  refine Ow.iloadN X hx (pc := 0) (hb hby d15_0) rfl ?_
  refine Ow.iloadN X hx (pc := 1) (hb hby d15_1) rfl ?_
  refine Ow.iloadN X hx (pc := 2) (hb hby d15_2) rfl ?_
  refine Ow.aconst_null X hx (pc := 3) (hb hby d15_3) ?_
  refine Ow.callSP X hx hZ (c_pcfis l Z a0 hw h0) rfl rfl eT hown (ww hw 98 rfl) (ww hw 99 rfl) (ww hw 100 rfl) (ww hw 101 rfl) (by decide) pd4 (by rw [hml]; rfl) (argsL := [_, _, _, _]) rfl rfl rfl (pc := 4) (hb hby d15_4) rfl rfl (by decide) (by decide) ?_   -- jdk/internal/util/Preconditions.checkFromIndexSize:(IIILjava/util/function/BiFunction;)I
  intro T X eT
  dsimp only [Option.toList_some, Option.toList_none, List.cons_append, List.nil_append]
  exact Ow.ireturn X hx hlk hret (hb hby d15_7) ⟨rfl, eT, rfl⟩ (by decide) (by decide)
theorem d17_0 : decode jdk_2004_method_9_code 0 = .ok (.aload_n 0, 1) := by decide +kernel
theorem d17_1 : decode jdk_2004_method_9_code 1 = .ok (.getfield 20, 3) := by decide +kernel
theorem d17_4 : decode jdk_2004_method_9_code 4 = .ok (.aload_n 0, 1) := by decide +kernel
theorem d17_5 : decode jdk_2004_method_9_code 5 = .ok (.getfield 17, 3) := by decide +kernel
theorem d17_8 : decode jdk_2004_method_9_code 8 = .ok (.isub, 1) := by decide +kernel
theorem d17_9 : decode jdk_2004_method_9_code 9 = .ok (.ireturn, 1) := by decide +kernel
set_option maxRecDepth 65536 in
set_option maxHeartbeats 4000000 in
theorem c_avail (l : Launch) (Z : State) (a0 : Array Value) (hw : ∀ d ∈ tables_1, d.before a0 Z = true) (h0 : Heap) (a : Addr) (n k : Int32) (F_count : Fld Z h0 a "java/io/ByteArrayInputStream" "count" "I" (.int n)) (F_pos : Fld Z h0 a "java/io/ByteArrayInputStream" "pos" "I" (.int k)) : Owl.SPay l Z (⟨"java/io/ByteArrayInputStream", "available", "()I"⟩ : MethodName) jdk_2004_method_9_code 1 (some .int) ({ frames := 0, cells := 0, slots := 0, locals := 0 } : Room) #[(.ref a)] a h0 (fun v h L => v = some (.int (n - k)) ∧ h = h0 ∧ L = []) := by
  refine Owl.SPay.of (Ls := #[.val (.ref a)]) (plainFor_of_name pn2) rfl (fun m => by first | rfl | (simp [entryFrameSync, entryFrame, mkL, argsToLocals, Value.category]; done)) ?_
  intro p e s m below meth c cell T hx hby hml hown hZ hret hlk hh0 hcell hent X M0
  obtain ⟨h1, eT⟩ : ∃ q, T.heap = q := ⟨_, rfl⟩
  rw [eT] at M0
  have F_count := F_count.mon M0
  have F_pos := F_pos.mon M0
  refine Owl.aloadN X hx (pc := 0) (hb hby d17_0) rfl rfl ?_
  refine Owl.getfield X hx (show Z.Warmed39 (s.setCell a (cell.withEntry s.cur)).vm from hZ) (show (s.setCell a (cell.withEntry s.cur)).vm.findClass _ = some m.cls from hown) (ww hw 58 rfl) Via.refl eT F_count (pc := 1) (hb hby d17_1) ?_   -- "java/io/ByteArrayInputStream" "count" "I"
  intro T X eT
  refine Owl.aloadN X hx (pc := 4) (hb hby d17_4) rfl rfl ?_
  refine Owl.getfield X hx (show Z.Warmed39 (s.setCell a (cell.withEntry s.cur)).vm from hZ) (show (s.setCell a (cell.withEntry s.cur)).vm.findClass _ = some m.cls from hown) (ww hw 56 rfl) Via.refl eT F_pos (pc := 5) (hb hby d17_5) ?_   -- "java/io/ByteArrayInputStream" "pos" "I"
  intro T X eT
  refine Owl.isub X hx (pc := 8) (hb hby d17_8) ?_
  exact Owl.ireturn X hx hcell hent hlk hret (hb hby d17_9) (by decide) (by decide) (fun V M FE => ⟨rfl, by rw [← hh0]; exact heap_of_end FE, rfl⟩)
theorem own_cmp_ge (n m : Int64) : ¬ XT.cmpL n m < 0 ↔ ¬ n < m := by
  unfold XT.cmpL
  by_cases h1 : m < n
  · rw [if_pos h1]
    refine ⟨fun _ h => ?_, fun _ => by decide⟩
    rw [Int64.lt_iff_toInt_lt] at h h1; omega
  · rw [if_neg h1]
    by_cases h2 : n = m
    · rw [if_pos h2, h2]
      refine ⟨fun _ h => ?_, fun _ => by decide⟩
      rw [Int64.lt_iff_toInt_lt] at h; omega
    · rw [if_neg h2]
      refine ⟨fun h => absurd (by decide) h, fun h => ?_⟩
      exfalso
      rw [Int64.lt_iff_toInt_lt] at h h1
      have : n.toInt ≠ m.toInt := fun q => h2 (Int64.toInt_inj.mp q)
      omega
theorem own_cmp_self (n : Int64) : XT.cmpL n n = 0 := by
  unfold XT.cmpL
  rw [if_neg (by rw [Int64.lt_iff_toInt_lt]; omega), if_pos rfl]
theorem own_l2i (x : Int32) : x.toInt64.toInt32 = x := by
  apply Int32.toInt_inj.mp
  simp
theorem d10_0 : decode jdk_2004_method_8_code 0 = .ok (.aload_n 0, 1) := by decide +kernel
theorem d10_1 : decode jdk_2004_method_8_code 1 = .ok (.getfield 20, 3) := by decide +kernel
theorem d10_4 : decode jdk_2004_method_8_code 4 = .ok (.aload_n 0, 1) := by decide +kernel
theorem d10_5 : decode jdk_2004_method_8_code 5 = .ok (.getfield 17, 3) := by decide +kernel
theorem d10_8 : decode jdk_2004_method_8_code 8 = .ok (.isub, 1) := by decide +kernel
theorem d10_9 : decode jdk_2004_method_8_code 9 = .ok (.i2l, 1) := by decide +kernel
theorem d10_10 : decode jdk_2004_method_8_code 10 = .ok (.lstore_n 3, 1) := by decide +kernel
theorem d10_11 : decode jdk_2004_method_8_code 11 = .ok (.lload_n 1, 1) := by decide +kernel
theorem d10_12 : decode jdk_2004_method_8_code 12 = .ok (.lload_n 3, 1) := by decide +kernel
theorem d10_13 : decode jdk_2004_method_8_code 13 = .ok (.lcmp, 1) := by decide +kernel
theorem d10_14 : decode jdk_2004_method_8_code 14 = .ok (.ifCond .ge 15, 3) := by decide +kernel
theorem d10_17 : decode jdk_2004_method_8_code 17 = .ok (.lload_n 1, 1) := by decide +kernel
theorem d10_18 : decode jdk_2004_method_8_code 18 = .ok (.lconst 0, 1) := by decide +kernel
theorem d10_19 : decode jdk_2004_method_8_code 19 = .ok (.lcmp, 1) := by decide +kernel
theorem d10_20 : decode jdk_2004_method_8_code 20 = .ok (.ifCond .ge 7, 3) := by decide +kernel
theorem d10_23 : decode jdk_2004_method_8_code 23 = .ok (.lconst 0, 1) := by decide +kernel
theorem d10_24 : decode jdk_2004_method_8_code 24 = .ok (.goto 4, 3) := by decide +kernel
theorem d10_27 : decode jdk_2004_method_8_code 27 = .ok (.lload_n 1, 1) := by decide +kernel
theorem d10_28 : decode jdk_2004_method_8_code 28 = .ok (.lstore_n 3, 1) := by decide +kernel
theorem d10_29 : decode jdk_2004_method_8_code 29 = .ok (.aload_n 0, 1) := by decide +kernel
theorem d10_30 : decode jdk_2004_method_8_code 30 = .ok (.dup, 1) := by decide +kernel
theorem d10_31 : decode jdk_2004_method_8_code 31 = .ok (.getfield 17, 3) := by decide +kernel
theorem d10_34 : decode jdk_2004_method_8_code 34 = .ok (.lload_n 3, 1) := by decide +kernel
theorem d10_35 : decode jdk_2004_method_8_code 35 = .ok (.l2i, 1) := by decide +kernel
theorem d10_36 : decode jdk_2004_method_8_code 36 = .ok (.iadd, 1) := by decide +kernel
theorem d10_37 : decode jdk_2004_method_8_code 37 = .ok (.putfield 17, 3) := by decide +kernel
theorem d10_40 : decode jdk_2004_method_8_code 40 = .ok (.lload_n 3, 1) := by decide +kernel
theorem d10_41 : decode jdk_2004_method_8_code 41 = .ok (.lreturn, 1) := by decide +kernel
set_option maxRecDepth 65536 in
set_option maxHeartbeats 4000000 in
theorem c_skip0 (l : Launch) (Z : State) (a0 : Array Value) (hw : ∀ d ∈ tables_1, d.before a0 Z = true) (h0 : Heap) (a t nb : Addr) (n j : Nat) (hn : n < 100) (hj : j ≤ n) (A : Exa Z h0 a "com/example/eunomia/eunomia/xml/NamedStream") (U : Unt h0 a) (F_mark : Fld Z h0 a "java/io/ByteArrayInputStream" "mark" "I" (.int 0)) (F_buf : Fld Z h0 a "java/io/ByteArrayInputStream" "buf" "[B" (.ref t)) (F_pos : Fld Z h0 a "java/io/ByteArrayInputStream" "pos" "I" (.int 0)) (F_count : Fld Z h0 a "java/io/ByteArrayInputStream" "count" "I" (.int (Int32.ofNat n))) (F_name : Fld Z h0 a "com/example/eunomia/eunomia/xml/NamedStream" "name" "Ljava/lang/String;" (.null)) : Owl.SPay l Z (⟨"java/io/ByteArrayInputStream", "skip", "(J)J"⟩ : MethodName) jdk_2004_method_8_code 5 (some .long) ({ frames := 0, cells := 0, slots := 0, locals := 0 } : Room) #[(.ref a), (.long (Int32.ofNat j).toInt64)] a h0 (fun v h L => v = some (.long (Int32.ofNat j).toInt64) ∧ Ow.Eff h0 h [a] L ∧ Exa Z h a "com/example/eunomia/eunomia/xml/NamedStream" ∧ Unt h a ∧ Fld Z h a "java/io/ByteArrayInputStream" "mark" "I" (.int 0) ∧ Fld Z h a "java/io/ByteArrayInputStream" "buf" "[B" (.ref t) ∧ Fld Z h a "java/io/ByteArrayInputStream" "pos" "I" (.int (Int32.ofNat j)) ∧ Fld Z h a "java/io/ByteArrayInputStream" "count" "I" (.int (Int32.ofNat n)) ∧ Fld Z h a "com/example/eunomia/eunomia/xml/NamedStream" "name" "Ljava/lang/String;" (.null)) := by
  refine Owl.SPay.of (Ls := #[.val (.ref a), .val (.long (Int32.ofNat j).toInt64), .second, .unset, .unset]) (plainFor_of_name pn2) rfl (fun m => by first | rfl | (simp [entryFrameSync, entryFrame, mkL, argsToLocals, Value.category]; done)) ?_
  intro p e s m below meth c cell T hx hby hml hown hZ hret hlk hh0 hcell hent X M0
  obtain ⟨h1, eT⟩ : ∃ q, T.heap = q := ⟨_, rfl⟩
  rw [eT] at M0
  have A := A.mon M0
  have F_mark := F_mark.mon M0
  have F_buf := F_buf.mon M0
  have F_pos := F_pos.mon M0
  have F_count := F_count.mon M0
  have F_name := F_name.mon M0
  have sn_mark_pos : RoadKit.slotOf Z "java/io/ByteArrayInputStream" "mark" "I" ≠ RoadKit.slotOf Z "java/io/ByteArrayInputStream" "pos" "I" := slot_ne (a0 := a0) (C := "com/example/eunomia/eunomia/xml/NamedStream") (Or.inl (ww hw 53 rfl)) (Or.inl (ww hw 57 rfl)) (by decide) (t := .int) (t' := .int) (by decide) (by decide)
  have sn_buf_pos : RoadKit.slotOf Z "java/io/ByteArrayInputStream" "buf" "[B" ≠ RoadKit.slotOf Z "java/io/ByteArrayInputStream" "pos" "I" := slot_ne (a0 := a0) (C := "com/example/eunomia/eunomia/xml/NamedStream") (Or.inl (ww hw 55 rfl)) (Or.inl (ww hw 57 rfl)) (by decide) (t := (.array .byte)) (t' := .int) (by decide) (by decide)
  have sn_pos_count : RoadKit.slotOf Z "java/io/ByteArrayInputStream" "pos" "I" ≠ RoadKit.slotOf Z "java/io/ByteArrayInputStream" "count" "I" := slot_ne (a0 := a0) (C := "com/example/eunomia/eunomia/xml/NamedStream") (Or.inl (ww hw 57 rfl)) (Or.inl (ww hw 59 rfl)) (by decide) (t := .int) (t' := .int) (by decide) (by decide)
  have sn_pos_name : RoadKit.slotOf Z "java/io/ByteArrayInputStream" "pos" "I" ≠ RoadKit.slotOf Z "com/example/eunomia/eunomia/xml/NamedStream" "name" "Ljava/lang/String;" := slot_ne (a0 := a0) (C := "com/example/eunomia/eunomia/xml/NamedStream") (Or.inl (ww hw 57 rfl)) (Or.inr (ww hw 61 rfl)) (by decide) (t := .int) (t' := (.object "java/lang/String")) (by decide) (by decide)
  have hsub : Int32.ofNat n - 0 = Int32.ofNat n := Int32.sub_zero _
  refine Owl.aloadN X hx (pc := 0) (hb hby d10_0) rfl rfl ?_
  refine Owl.getfield X hx (show Z.Warmed39 (s.setCell a (cell.withEntry s.cur)).vm from hZ) (show (s.setCell a (cell.withEntry s.cur)).vm.findClass _ = some m.cls from hown) (ww hw 58 rfl) Via.refl eT F_count (pc := 1) (hb hby d10_1) ?_   -- "java/io/ByteArrayInputStream" "count" "I"
  intro T X eT
  refine Owl.aloadN X hx (pc := 4) (hb hby d10_4) rfl rfl ?_
  refine Owl.getfield X hx (show Z.Warmed39 (s.setCell a (cell.withEntry s.cur)).vm from hZ) (show (s.setCell a (cell.withEntry s.cur)).vm.findClass _ = some m.cls from hown) (ww hw 56 rfl) Via.refl eT F_pos (pc := 5) (hb hby d10_5) ?_   -- "java/io/ByteArrayInputStream" "pos" "I"
  intro T X eT
  refine Owl.isub X hx (pc := 8) (hb hby d10_8) ?_
  rw [hsub]
  refine Owl.i2l X hx (pc := 9) (hb hby d10_9) ?_
  refine Owl.lstoreN X hx (pc := 10) #[_, _, _, _, _] (hb hby d10_10) rfl ?_
  refine Owl.lloadN X hx (pc := 11) (hb hby d10_11) rfl ?_
  refine Owl.lloadN X hx (pc := 12) (hb hby d10_12) rfl ?_
  refine Owl.lcmp X hx (pc := 13) (hb hby d10_13) ?_
  refine Owl.if_ge X hx (pc := 14) (pc' := 29) (hb hby d10_14) (by decide) (by decide) (fun h14 => ?_) (fun h14 => ?_)
  · have hjn : j = n := by
      have q := (own_cmp_ge _ _).mp h14
      rw [Int64.lt_iff_toInt_lt, Int32.toInt_toInt64, Int32.toInt_toInt64, Int32.toInt_ofNat_of_lt (by omega), Int32.toInt_ofNat_of_lt (by omega)] at q
      omega
    subst hjn
    refine Owl.aloadN X hx (pc := 29) (hb hby d10_29) rfl rfl ?_
    refine Owl.dup X hx (pc := 30) (hb hby d10_30) rfl ?_
    refine Owl.getfield X hx (show Z.Warmed39 (s.setCell a (cell.withEntry s.cur)).vm from hZ) (show (s.setCell a (cell.withEntry s.cur)).vm.findClass _ = some m.cls from hown) (ww hw 56 rfl) Via.refl eT F_pos (pc := 31) (hb hby d10_31) ?_   -- "java/io/ByteArrayInputStream" "pos" "I"
    intro T X eT
    refine Owl.lloadN X hx (pc := 34) (hb hby d10_34) rfl ?_
    refine Owl.l2i X hx (pc := 35) (hb hby d10_35) ?_
    refine Owl.iadd X hx (pc := 36) (hb hby d10_36) ?_
    rw [own_l2i, Int32.zero_add]
    refine Owl.putfield X hx (show Z.Warmed39 (s.setCell a (cell.withEntry s.cur)).vm from hZ) (show (s.setCell a (cell.withEntry s.cur)).vm.findClass _ = some m.cls from hown) (ww hw 56 rfl) Via.refl eT F_pos A (Or.inl (ww hw 57 rfl)) (ww hw 35 rfl) (ty := .int) (by decide) rfl rfl (pc := 37) (hb hby d10_37) ?_
    intro T h2 X eT W2
    have F_mark := F_mark.other W2 (Or.inr sn_mark_pos)
    have F_buf := F_buf.other W2 (Or.inr sn_buf_pos)
    have F_pos := F_pos.same W2
    have F_count := F_count.other W2 (Or.inr (Ne.symm sn_pos_count))
    have F_name := F_name.other W2 (Or.inr (Ne.symm sn_pos_name))
    have A := A.wr W2
    refine Owl.lloadN X hx (pc := 40) (hb hby d10_40) rfl ?_
    refine Owl.lreturn X hx hcell hent hlk hret (hb hby d10_41) (by decide) (by decide) (fun V M FE => ?_)
    rw [eT] at M
    have hL : ∀ y ∈ ([] ++ [(⟨a, RoadKit.slotOf Z "java/io/ByteArrayInputStream" "pos" "I"⟩ : Loc)]), y.base ∈ [a] ∨ s.heap.size ≤ y.base := fun y hy => by simp at hy; rw [hy]; simp
    have Kp := Owl.endKeep (ws := [a]) FE hL
    have U2 := Owl.endUnt FE (by rw [hh0]; exact U)
    rw [hh0] at Kp hL
    exact ⟨rfl, ⟨Kp, hL⟩, A.mon M, U2, F_mark.mon M, F_buf.mon M, F_pos.mon M, F_count.mon M, F_name.mon M⟩
  · refine Owl.lloadN X hx (pc := 17) (hb hby d10_17) rfl ?_
    refine Owl.lconst X hx (pc := 18) (0) (hb hby d10_18) (by decide) ?_
    refine Owl.lcmp X hx (pc := 19) (hb hby d10_19) ?_
    refine Owl.if_ge X hx (pc := 20) (pc' := 27) (hb hby d10_20) (by decide) (by decide) (fun h20 => ?_) (fun q => absurd q ((own_cmp_ge _ _).mpr (by rw [Int64.lt_iff_toInt_lt, Int32.toInt_toInt64, Int32.toInt_ofNat_of_lt (by omega)]; show ¬ (j : Int) < 0; omega)))
    refine Owl.lloadN X hx (pc := 27) (hb hby d10_27) rfl ?_
    refine Owl.lstoreN X hx (pc := 28) #[_, _, _, _, _] (hb hby d10_28) rfl ?_
    refine Owl.aloadN X hx (pc := 29) (hb hby d10_29) rfl rfl ?_
    refine Owl.dup X hx (pc := 30) (hb hby d10_30) rfl ?_
    refine Owl.getfield X hx (show Z.Warmed39 (s.setCell a (cell.withEntry s.cur)).vm from hZ) (show (s.setCell a (cell.withEntry s.cur)).vm.findClass _ = some m.cls from hown) (ww hw 56 rfl) Via.refl eT F_pos (pc := 31) (hb hby d10_31) ?_   -- "java/io/ByteArrayInputStream" "pos" "I"
    intro T X eT
    refine Owl.lloadN X hx (pc := 34) (hb hby d10_34) rfl ?_
    refine Owl.l2i X hx (pc := 35) (hb hby d10_35) ?_
    refine Owl.iadd X hx (pc := 36) (hb hby d10_36) ?_
    rw [own_l2i, Int32.zero_add]
    refine Owl.putfield X hx (show Z.Warmed39 (s.setCell a (cell.withEntry s.cur)).vm from hZ) (show (s.setCell a (cell.withEntry s.cur)).vm.findClass _ = some m.cls from hown) (ww hw 56 rfl) Via.refl eT F_pos A (Or.inl (ww hw 57 rfl)) (ww hw 35 rfl) (ty := .int) (by decide) rfl rfl (pc := 37) (hb hby d10_37) ?_
    intro T h2 X eT W2
    have F_mark := F_mark.other W2 (Or.inr sn_mark_pos)
    have F_buf := F_buf.other W2 (Or.inr sn_buf_pos)
    have F_pos := F_pos.same W2
    have F_count := F_count.other W2 (Or.inr (Ne.symm sn_pos_count))
    have F_name := F_name.other W2 (Or.inr (Ne.symm sn_pos_name))
    have A := A.wr W2
    refine Owl.lloadN X hx (pc := 40) (hb hby d10_40) rfl ?_
    refine Owl.lreturn X hx hcell hent hlk hret (hb hby d10_41) (by decide) (by decide) (fun V M FE => ?_)
    rw [eT] at M
    have hL : ∀ y ∈ ([] ++ [(⟨a, RoadKit.slotOf Z "java/io/ByteArrayInputStream" "pos" "I"⟩ : Loc)]), y.base ∈ [a] ∨ s.heap.size ≤ y.base := fun y hy => by simp at hy; rw [hy]; simp
    have Kp := Owl.endKeep (ws := [a]) FE hL
    have U2 := Owl.endUnt FE (by rw [hh0]; exact U)
    rw [hh0] at Kp hL
    exact ⟨rfl, ⟨Kp, hL⟩, A.mon M, U2, F_mark.mon M, F_buf.mon M, F_pos.mon M, F_count.mon M, F_name.mon M⟩
set_option maxRecDepth 65536 in
set_option maxHeartbeats 4000000 in
theorem c_skip1 (l : Launch) (Z : State) (a0 : Array Value) (hw : ∀ d ∈ tables_1, d.before a0 Z = true) (h0 : Heap) (a t nb : Addr) (n j : Nat) (hn : n < 100) (hj : j ≤ n) (A : Exa Z h0 a "com/example/eunomia/eunomia/xml/NamedStream") (U : Unt h0 a) (F_mark : Fld Z h0 a "java/io/ByteArrayInputStream" "mark" "I" (.int 0)) (F_buf : Fld Z h0 a "java/io/ByteArrayInputStream" "buf" "[B" (.ref t)) (F_pos : Fld Z h0 a "java/io/ByteArrayInputStream" "pos" "I" (.int 0)) (F_count : Fld Z h0 a "java/io/ByteArrayInputStream" "count" "I" (.int (Int32.ofNat n))) (F_name : Fld Z h0 a "com/example/eunomia/eunomia/xml/NamedStream" "name" "Ljava/lang/String;" (.ref nb)) : Owl.SPay l Z (⟨"java/io/ByteArrayInputStream", "skip", "(J)J"⟩ : MethodName) jdk_2004_method_8_code 5 (some .long) ({ frames := 0, cells := 0, slots := 0, locals := 0 } : Room) #[(.ref a), (.long (Int32.ofNat j).toInt64)] a h0 (fun v h L => v = some (.long (Int32.ofNat j).toInt64) ∧ Ow.Eff h0 h [a] L ∧ Exa Z h a "com/example/eunomia/eunomia/xml/NamedStream" ∧ Unt h a ∧ Fld Z h a "java/io/ByteArrayInputStream" "mark" "I" (.int 0) ∧ Fld Z h a "java/io/ByteArrayInputStream" "buf" "[B" (.ref t) ∧ Fld Z h a "java/io/ByteArrayInputStream" "pos" "I" (.int (Int32.ofNat j)) ∧ Fld Z h a "java/io/ByteArrayInputStream" "count" "I" (.int (Int32.ofNat n)) ∧ Fld Z h a "com/example/eunomia/eunomia/xml/NamedStream" "name" "Ljava/lang/String;" (.ref nb)) := by
  refine Owl.SPay.of (Ls := #[.val (.ref a), .val (.long (Int32.ofNat j).toInt64), .second, .unset, .unset]) (plainFor_of_name pn2) rfl (fun m => by first | rfl | (simp [entryFrameSync, entryFrame, mkL, argsToLocals, Value.category]; done)) ?_
  intro p e s m below meth c cell T hx hby hml hown hZ hret hlk hh0 hcell hent X M0
  obtain ⟨h1, eT⟩ : ∃ q, T.heap = q := ⟨_, rfl⟩
  rw [eT] at M0
  have A := A.mon M0
  have F_mark := F_mark.mon M0
  have F_buf := F_buf.mon M0
  have F_pos := F_pos.mon M0
  have F_count := F_count.mon M0
  have F_name := F_name.mon M0
  have sn_mark_pos : RoadKit.slotOf Z "java/io/ByteArrayInputStream" "mark" "I" ≠ RoadKit.slotOf Z "java/io/ByteArrayInputStream" "pos" "I" := slot_ne (a0 := a0) (C := "com/example/eunomia/eunomia/xml/NamedStream") (Or.inl (ww hw 53 rfl)) (Or.inl (ww hw 57 rfl)) (by decide) (t := .int) (t' := .int) (by decide) (by decide)
  have sn_buf_pos : RoadKit.slotOf Z "java/io/ByteArrayInputStream" "buf" "[B" ≠ RoadKit.slotOf Z "java/io/ByteArrayInputStream" "pos" "I" := slot_ne (a0 := a0) (C := "com/example/eunomia/eunomia/xml/NamedStream") (Or.inl (ww hw 55 rfl)) (Or.inl (ww hw 57 rfl)) (by decide) (t := (.array .byte)) (t' := .int) (by decide) (by decide)
  have sn_pos_count : RoadKit.slotOf Z "java/io/ByteArrayInputStream" "pos" "I" ≠ RoadKit.slotOf Z "java/io/ByteArrayInputStream" "count" "I" := slot_ne (a0 := a0) (C := "com/example/eunomia/eunomia/xml/NamedStream") (Or.inl (ww hw 57 rfl)) (Or.inl (ww hw 59 rfl)) (by decide) (t := .int) (t' := .int) (by decide) (by decide)
  have sn_pos_name : RoadKit.slotOf Z "java/io/ByteArrayInputStream" "pos" "I" ≠ RoadKit.slotOf Z "com/example/eunomia/eunomia/xml/NamedStream" "name" "Ljava/lang/String;" := slot_ne (a0 := a0) (C := "com/example/eunomia/eunomia/xml/NamedStream") (Or.inl (ww hw 57 rfl)) (Or.inr (ww hw 61 rfl)) (by decide) (t := .int) (t' := (.object "java/lang/String")) (by decide) (by decide)
  have hsub : Int32.ofNat n - 0 = Int32.ofNat n := Int32.sub_zero _
  refine Owl.aloadN X hx (pc := 0) (hb hby d10_0) rfl rfl ?_
  refine Owl.getfield X hx (show Z.Warmed39 (s.setCell a (cell.withEntry s.cur)).vm from hZ) (show (s.setCell a (cell.withEntry s.cur)).vm.findClass _ = some m.cls from hown) (ww hw 58 rfl) Via.refl eT F_count (pc := 1) (hb hby d10_1) ?_   -- "java/io/ByteArrayInputStream" "count" "I"
  intro T X eT
  refine Owl.aloadN X hx (pc := 4) (hb hby d10_4) rfl rfl ?_
  refine Owl.getfield X hx (show Z.Warmed39 (s.setCell a (cell.withEntry s.cur)).vm from hZ) (show (s.setCell a (cell.withEntry s.cur)).vm.findClass _ = some m.cls from hown) (ww hw 56 rfl) Via.refl eT F_pos (pc := 5) (hb hby d10_5) ?_   -- "java/io/ByteArrayInputStream" "pos" "I"
  intro T X eT
  refine Owl.isub X hx (pc := 8) (hb hby d10_8) ?_
  rw [hsub]
  refine Owl.i2l X hx (pc := 9) (hb hby d10_9) ?_
  refine Owl.lstoreN X hx (pc := 10) #[_, _, _, _, _] (hb hby d10_10) rfl ?_
  refine Owl.lloadN X hx (pc := 11) (hb hby d10_11) rfl ?_
  refine Owl.lloadN X hx (pc := 12) (hb hby d10_12) rfl ?_
  refine Owl.lcmp X hx (pc := 13) (hb hby d10_13) ?_
  refine Owl.if_ge X hx (pc := 14) (pc' := 29) (hb hby d10_14) (by decide) (by decide) (fun h14 => ?_) (fun h14 => ?_)
  · have hjn : j = n := by
      have q := (own_cmp_ge _ _).mp h14
      rw [Int64.lt_iff_toInt_lt, Int32.toInt_toInt64, Int32.toInt_toInt64, Int32.toInt_ofNat_of_lt (by omega), Int32.toInt_ofNat_of_lt (by omega)] at q
      omega
    subst hjn
    refine Owl.aloadN X hx (pc := 29) (hb hby d10_29) rfl rfl ?_
    refine Owl.dup X hx (pc := 30) (hb hby d10_30) rfl ?_
    refine Owl.getfield X hx (show Z.Warmed39 (s.setCell a (cell.withEntry s.cur)).vm from hZ) (show (s.setCell a (cell.withEntry s.cur)).vm.findClass _ = some m.cls from hown) (ww hw 56 rfl) Via.refl eT F_pos (pc := 31) (hb hby d10_31) ?_   -- "java/io/ByteArrayInputStream" "pos" "I"
    intro T X eT
    refine Owl.lloadN X hx (pc := 34) (hb hby d10_34) rfl ?_
    refine Owl.l2i X hx (pc := 35) (hb hby d10_35) ?_
    refine Owl.iadd X hx (pc := 36) (hb hby d10_36) ?_
    rw [own_l2i, Int32.zero_add]
    refine Owl.putfield X hx (show Z.Warmed39 (s.setCell a (cell.withEntry s.cur)).vm from hZ) (show (s.setCell a (cell.withEntry s.cur)).vm.findClass _ = some m.cls from hown) (ww hw 56 rfl) Via.refl eT F_pos A (Or.inl (ww hw 57 rfl)) (ww hw 35 rfl) (ty := .int) (by decide) rfl rfl (pc := 37) (hb hby d10_37) ?_
    intro T h2 X eT W2
    have F_mark := F_mark.other W2 (Or.inr sn_mark_pos)
    have F_buf := F_buf.other W2 (Or.inr sn_buf_pos)
    have F_pos := F_pos.same W2
    have F_count := F_count.other W2 (Or.inr (Ne.symm sn_pos_count))
    have F_name := F_name.other W2 (Or.inr (Ne.symm sn_pos_name))
    have A := A.wr W2
    refine Owl.lloadN X hx (pc := 40) (hb hby d10_40) rfl ?_
    refine Owl.lreturn X hx hcell hent hlk hret (hb hby d10_41) (by decide) (by decide) (fun V M FE => ?_)
    rw [eT] at M
    have hL : ∀ y ∈ ([] ++ [(⟨a, RoadKit.slotOf Z "java/io/ByteArrayInputStream" "pos" "I"⟩ : Loc)]), y.base ∈ [a] ∨ s.heap.size ≤ y.base := fun y hy => by simp at hy; rw [hy]; simp
    have Kp := Owl.endKeep (ws := [a]) FE hL
    have U2 := Owl.endUnt FE (by rw [hh0]; exact U)
    rw [hh0] at Kp hL
    exact ⟨rfl, ⟨Kp, hL⟩, A.mon M, U2, F_mark.mon M, F_buf.mon M, F_pos.mon M, F_count.mon M, F_name.mon M⟩
  · refine Owl.lloadN X hx (pc := 17) (hb hby d10_17) rfl ?_
    refine Owl.lconst X hx (pc := 18) (0) (hb hby d10_18) (by decide) ?_
    refine Owl.lcmp X hx (pc := 19) (hb hby d10_19) ?_
    refine Owl.if_ge X hx (pc := 20) (pc' := 27) (hb hby d10_20) (by decide) (by decide) (fun h20 => ?_) (fun q => absurd q ((own_cmp_ge _ _).mpr (by rw [Int64.lt_iff_toInt_lt, Int32.toInt_toInt64, Int32.toInt_ofNat_of_lt (by omega)]; show ¬ (j : Int) < 0; omega)))
    refine Owl.lloadN X hx (pc := 27) (hb hby d10_27) rfl ?_
    refine Owl.lstoreN X hx (pc := 28) #[_, _, _, _, _] (hb hby d10_28) rfl ?_
    refine Owl.aloadN X hx (pc := 29) (hb hby d10_29) rfl rfl ?_
    refine Owl.dup X hx (pc := 30) (hb hby d10_30) rfl ?_
    refine Owl.getfield X hx (show Z.Warmed39 (s.setCell a (cell.withEntry s.cur)).vm from hZ) (show (s.setCell a (cell.withEntry s.cur)).vm.findClass _ = some m.cls from hown) (ww hw 56 rfl) Via.refl eT F_pos (pc := 31) (hb hby d10_31) ?_   -- "java/io/ByteArrayInputStream" "pos" "I"
    intro T X eT
    refine Owl.lloadN X hx (pc := 34) (hb hby d10_34) rfl ?_
    refine Owl.l2i X hx (pc := 35) (hb hby d10_35) ?_
    refine Owl.iadd X hx (pc := 36) (hb hby d10_36) ?_
    rw [own_l2i, Int32.zero_add]
    refine Owl.putfield X hx (show Z.Warmed39 (s.setCell a (cell.withEntry s.cur)).vm from hZ) (show (s.setCell a (cell.withEntry s.cur)).vm.findClass _ = some m.cls from hown) (ww hw 56 rfl) Via.refl eT F_pos A (Or.inl (ww hw 57 rfl)) (ww hw 35 rfl) (ty := .int) (by decide) rfl rfl (pc := 37) (hb hby d10_37) ?_
    intro T h2 X eT W2
    have F_mark := F_mark.other W2 (Or.inr sn_mark_pos)
    have F_buf := F_buf.other W2 (Or.inr sn_buf_pos)
    have F_pos := F_pos.same W2
    have F_count := F_count.other W2 (Or.inr (Ne.symm sn_pos_count))
    have F_name := F_name.other W2 (Or.inr (Ne.symm sn_pos_name))
    have A := A.wr W2
    refine Owl.lloadN X hx (pc := 40) (hb hby d10_40) rfl ?_
    refine Owl.lreturn X hx hcell hent hlk hret (hb hby d10_41) (by decide) (by decide) (fun V M FE => ?_)
    rw [eT] at M
    have hL : ∀ y ∈ ([] ++ [(⟨a, RoadKit.slotOf Z "java/io/ByteArrayInputStream" "pos" "I"⟩ : Loc)]), y.base ∈ [a] ∨ s.heap.size ≤ y.base := fun y hy => by simp at hy; rw [hy]; simp
    have Kp := Owl.endKeep (ws := [a]) FE hL
    have U2 := Owl.endUnt FE (by rw [hh0]; exact U)
    rw [hh0] at Kp hL
    exact ⟨rfl, ⟨Kp, hL⟩, A.mon M, U2, F_mark.mon M, F_buf.mon M, F_pos.mon M, F_count.mon M, F_name.mon M⟩
theorem d14_0 : decode jdk_2004_method_4_code 0 = .ok (.iload_n 2, 1) := by decide +kernel
theorem d14_1 : decode jdk_2004_method_4_code 1 = .ok (.iload_n 3, 1) := by decide +kernel
theorem d14_2 : decode jdk_2004_method_4_code 2 = .ok (.aload_n 1, 1) := by decide +kernel
theorem d14_3 : decode jdk_2004_method_4_code 3 = .ok (.arraylength, 1) := by decide +kernel
theorem d14_4 : decode jdk_2004_method_4_code 4 = .ok (.invokestatic 29, 3) := by decide +kernel
theorem d14_7 : decode jdk_2004_method_4_code 7 = .ok (.pop, 1) := by decide +kernel
theorem d14_8 : decode jdk_2004_method_4_code 8 = .ok (.aload_n 0, 1) := by decide +kernel
theorem d14_9 : decode jdk_2004_method_4_code 9 = .ok (.getfield 17, 3) := by decide +kernel
theorem d14_12 : decode jdk_2004_method_4_code 12 = .ok (.aload_n 0, 1) := by decide +kernel
theorem d14_13 : decode jdk_2004_method_4_code 13 = .ok (.getfield 20, 3) := by decide +kernel
theorem d14_16 : decode jdk_2004_method_4_code 16 = .ok (.if_icmp .lt 5, 3) := by decide +kernel
theorem d14_19 : decode jdk_2004_method_4_code 19 = .ok (.iconst (-1), 1) := by decide +kernel
theorem d14_20 : decode jdk_2004_method_4_code 20 = .ok (.ireturn, 1) := by decide +kernel
theorem d14_21 : decode jdk_2004_method_4_code 21 = .ok (.aload_n 0, 1) := by decide +kernel
theorem d14_22 : decode jdk_2004_method_4_code 22 = .ok (.getfield 20, 3) := by decide +kernel
theorem d14_25 : decode jdk_2004_method_4_code 25 = .ok (.aload_n 0, 1) := by decide +kernel
theorem d14_26 : decode jdk_2004_method_4_code 26 = .ok (.getfield 17, 3) := by decide +kernel
theorem d14_29 : decode jdk_2004_method_4_code 29 = .ok (.isub, 1) := by decide +kernel
theorem d14_30 : decode jdk_2004_method_4_code 30 = .ok (.istore 4, 2) := by decide +kernel
theorem d14_32 : decode jdk_2004_method_4_code 32 = .ok (.iload_n 3, 1) := by decide +kernel
theorem d14_33 : decode jdk_2004_method_4_code 33 = .ok (.iload 4, 2) := by decide +kernel
theorem d14_35 : decode jdk_2004_method_4_code 35 = .ok (.if_icmp .le 6, 3) := by decide +kernel
theorem d14_38 : decode jdk_2004_method_4_code 38 = .ok (.iload 4, 2) := by decide +kernel
theorem d14_40 : decode jdk_2004_method_4_code 40 = .ok (.istore_n 3, 1) := by decide +kernel
theorem d14_41 : decode jdk_2004_method_4_code 41 = .ok (.iload_n 3, 1) := by decide +kernel
theorem d14_42 : decode jdk_2004_method_4_code 42 = .ok (.ifCond .gt 5, 3) := by decide +kernel
theorem d14_45 : decode jdk_2004_method_4_code 45 = .ok (.iconst 0, 1) := by decide +kernel
theorem d14_46 : decode jdk_2004_method_4_code 46 = .ok (.ireturn, 1) := by decide +kernel
theorem d14_47 : decode jdk_2004_method_4_code 47 = .ok (.aload_n 0, 1) := by decide +kernel
theorem d14_48 : decode jdk_2004_method_4_code 48 = .ok (.getfield 13, 3) := by decide +kernel
theorem d14_51 : decode jdk_2004_method_4_code 51 = .ok (.aload_n 0, 1) := by decide +kernel
theorem d14_52 : decode jdk_2004_method_4_code 52 = .ok (.getfield 17, 3) := by decide +kernel
theorem d14_55 : decode jdk_2004_method_4_code 55 = .ok (.aload_n 1, 1) := by decide +kernel
theorem d14_56 : decode jdk_2004_method_4_code 56 = .ok (.iload_n 2, 1) := by decide +kernel
theorem d14_57 : decode jdk_2004_method_4_code 57 = .ok (.iload_n 3, 1) := by decide +kernel
theorem d14_58 : decode jdk_2004_method_4_code 58 = .ok (.invokestatic 35, 3) := by decide +kernel
theorem d14_61 : decode jdk_2004_method_4_code 61 = .ok (.aload_n 0, 1) := by decide +kernel
theorem d14_62 : decode jdk_2004_method_4_code 62 = .ok (.dup, 1) := by decide +kernel
theorem d14_63 : decode jdk_2004_method_4_code 63 = .ok (.getfield 17, 3) := by decide +kernel
theorem d14_66 : decode jdk_2004_method_4_code 66 = .ok (.iload_n 3, 1) := by decide +kernel
theorem d14_67 : decode jdk_2004_method_4_code 67 = .ok (.iadd, 1) := by decide +kernel
theorem d14_68 : decode jdk_2004_method_4_code 68 = .ok (.putfield 17, 3) := by decide +kernel
theorem d14_71 : decode jdk_2004_method_4_code 71 = .ok (.iload_n 3, 1) := by decide +kernel
theorem d14_72 : decode jdk_2004_method_4_code 72 = .ok (.ireturn, 1) := by decide +kernel
set_option maxRecDepth 65536 in
set_option maxHeartbeats 4000000 in
theorem c_read00 (l : Launch) (Z : State) (a0 : Array Value) (hw : ∀ d ∈ tables_1, d.before a0 Z = true) (h0 : Heap) (a o t nb : Addr) (kt ko : ClassId) (b0 b1 b2 : Int32) (hao : a ≠ o) (hfit : ∀ v ∈ ([] : List Value), fits .byte v = true) (A : Exa Z h0 a "com/example/eunomia/eunomia/xml/NamedStream") (F_mark : Fld Z h0 a "java/io/ByteArrayInputStream" "mark" "I" (.int 0)) (F_buf : Fld Z h0 a "java/io/ByteArrayInputStream" "buf" "[B" (.ref t)) (F_pos : Fld Z h0 a "java/io/ByteArrayInputStream" "pos" "I" (.int 0)) (F_count : Fld Z h0 a "java/io/ByteArrayInputStream" "count" "I" (.int 0)) (F_name : Fld Z h0 a "com/example/eunomia/eunomia/xml/NamedStream" "name" "Ljava/lang/String;" (.null)) (B : Ow.AL Z h0 t kt .byte []) (O : Ow.AL Z h0 o ko .byte [.int 0, .int 0, .int 0, .int 0]) : Owl.SPay l Z (⟨"java/io/ByteArrayInputStream", "read", "([BII)I"⟩ : MethodName) jdk_2004_method_4_code 5 (some .int) ({ frames := 2, cells := 0, slots := 0, locals := 60 } : Room) #[(.ref a), (.ref o), (.int 0), (.int 4)] a h0 (fun v h L => v = some (.int (-1)) ∧ Ow.Eff h0 h [a, o] L ∧ Ow.AL Z h o ko .byte [.int 0, .int 0, .int 0, .int 0]) := by
  refine Owl.SPay.of (Ls := #[.val (.ref a), .val (.ref o), .val (.int 0), .val (.int 4), .unset]) (plainFor_of_name pn2) rfl (fun m => by first | rfl | (simp [entryFrameSync, entryFrame, mkL, argsToLocals, Value.category]; done)) ?_
  intro p e s m below meth c cell T hx hby hml hown hZ hret hlk hh0 hcell hent X M0
  obtain ⟨h1, eT⟩ : ∃ q, T.heap = q := ⟨_, rfl⟩
  rw [eT] at M0
  have O0 := O
  have A := A.mon M0
  have F_mark := F_mark.mon M0
  have F_buf := F_buf.mon M0
  have F_pos := F_pos.mon M0
  have F_count := F_count.mon M0
  have F_name := F_name.mon M0
  have B := Owl.monAL B M0
  have O := Owl.monAL O M0
  have sn_mark_pos : RoadKit.slotOf Z "java/io/ByteArrayInputStream" "mark" "I" ≠ RoadKit.slotOf Z "java/io/ByteArrayInputStream" "pos" "I" := slot_ne (a0 := a0) (C := "com/example/eunomia/eunomia/xml/NamedStream") (Or.inl (ww hw 53 rfl)) (Or.inl (ww hw 57 rfl)) (by decide) (t := .int) (t' := .int) (by decide) (by decide)
  have sn_buf_pos : RoadKit.slotOf Z "java/io/ByteArrayInputStream" "buf" "[B" ≠ RoadKit.slotOf Z "java/io/ByteArrayInputStream" "pos" "I" := slot_ne (a0 := a0) (C := "com/example/eunomia/eunomia/xml/NamedStream") (Or.inl (ww hw 55 rfl)) (Or.inl (ww hw 57 rfl)) (by decide) (t := (.array .byte)) (t' := .int) (by decide) (by decide)
  have sn_pos_count : RoadKit.slotOf Z "java/io/ByteArrayInputStream" "pos" "I" ≠ RoadKit.slotOf Z "java/io/ByteArrayInputStream" "count" "I" := slot_ne (a0 := a0) (C := "com/example/eunomia/eunomia/xml/NamedStream") (Or.inl (ww hw 57 rfl)) (Or.inl (ww hw 59 rfl)) (by decide) (t := .int) (t' := .int) (by decide) (by decide)
  have sn_pos_name : RoadKit.slotOf Z "java/io/ByteArrayInputStream" "pos" "I" ≠ RoadKit.slotOf Z "com/example/eunomia/eunomia/xml/NamedStream" "name" "Ljava/lang/String;" := slot_ne (a0 := a0) (C := "com/example/eunomia/eunomia/xml/NamedStream") (Or.inl (ww hw 57 rfl)) (Or.inr (ww hw 61 rfl)) (by decide) (t := .int) (t' := (.object "java/lang/String")) (by decide) (by decide)
  refine Owl.iloadN X hx (pc := 0) (hb hby d14_0) rfl ?_
  refine Owl.iloadN X hx (pc := 1) (hb hby d14_1) rfl ?_
  refine Owl.aloadN X hx (pc := 2) (hb hby d14_2) rfl rfl ?_
  refine Owl.lengthL X hx (show Z.Warmed39 (s.setCell a (cell.withEntry s.cur)).vm from hZ) eT O 4 rfl (pc := 3) (hb hby d14_3) ?_
  refine Owl.callSP X hx (show Z.Warmed39 (s.setCell a (cell.withEntry s.cur)).vm from hZ) (c_ocfis l Z a0 hw _) rfl rfl eT (show (s.setCell a (cell.withEntry s.cur)).vm.findClass _ = some m.cls from hown) (ww hw 94 rfl) (ww hw 95 rfl) (ww hw 96 rfl) (ww hw 97 rfl) (by decide) pd5 (by rw [hml]; rfl) (argsL := [_, _, _]) rfl rfl rfl (pc := 4) (hb hby d14_4) rfl rfl (by decide) (by decide) ?_   -- java/util/Objects.checkFromIndexSize:(III)I
  intro T X eT
  dsimp only [Option.toList_some, Option.toList_none, List.cons_append, List.nil_append]
  refine Owl.pop X hx (pc := 7) (hb hby d14_7) rfl ?_
  refine Owl.aloadN X hx (pc := 8) (hb hby d14_8) rfl rfl ?_
  refine Owl.getfield X hx (show Z.Warmed39 (s.setCell a (cell.withEntry s.cur)).vm from hZ) (show (s.setCell a (cell.withEntry s.cur)).vm.findClass _ = some m.cls from hown) (ww hw 56 rfl) Via.refl eT F_pos (pc := 9) (hb hby d14_9) ?_   -- "java/io/ByteArrayInputStream" "pos" "I"
  intro T X eT
  refine Owl.aloadN X hx (pc := 12) (hb hby d14_12) rfl rfl ?_
  refine Owl.getfield X hx (show Z.Warmed39 (s.setCell a (cell.withEntry s.cur)).vm from hZ) (show (s.setCell a (cell.withEntry s.cur)).vm.findClass _ = some m.cls from hown) (ww hw 58 rfl) Via.refl eT F_count (pc := 13) (hb hby d14_13) ?_   -- "java/io/ByteArrayInputStream" "count" "I"
  intro T X eT
  refine Owl.icmp_lt X hx (pc := 16) (pc' := 21) (hb hby d14_16) (by decide) (by decide) (fun q => absurd q (by decide)) (fun _ => ?_)
  refine Owl.iconst X hx (pc := 19) (-1) (hb hby d14_19) (by decide) ?_
  refine Owl.ireturn X hx hcell hent hlk hret (hb hby d14_20) (by decide) (by decide) (fun V M FE => ?_)
  have hv : V.heap = h0 := by rw [← hh0]; exact heap_of_end FE
  refine ⟨rfl, by rw [hv]; exact Ow.Eff.refl h0 _, ?_⟩
  rw [hv]; exact O0
set_option maxRecDepth 65536 in
set_option maxHeartbeats 4000000 in
theorem c_read01 (l : Launch) (Z : State) (a0 : Array Value) (hw : ∀ d ∈ tables_1, d.before a0 Z = true) (h0 : Heap) (a o t nb : Addr) (kt ko : ClassId) (b0 b1 b2 : Int32) (hao : a ≠ o) (hfit : ∀ v ∈ ([] : List Value), fits .byte v = true) (A : Exa Z h0 a "com/example/eunomia/eunomia/xml/NamedStream") (F_mark : Fld Z h0 a "java/io/ByteArrayInputStream" "mark" "I" (.int 0)) (F_buf : Fld Z h0 a "java/io/ByteArrayInputStream" "buf" "[B" (.ref t)) (F_pos : Fld Z h0 a "java/io/ByteArrayInputStream" "pos" "I" (.int 0)) (F_count : Fld Z h0 a "java/io/ByteArrayInputStream" "count" "I" (.int 0)) (F_name : Fld Z h0 a "com/example/eunomia/eunomia/xml/NamedStream" "name" "Ljava/lang/String;" (.ref nb)) (B : Ow.AL Z h0 t kt .byte []) (O : Ow.AL Z h0 o ko .byte [.int 0, .int 0, .int 0, .int 0]) : Owl.SPay l Z (⟨"java/io/ByteArrayInputStream", "read", "([BII)I"⟩ : MethodName) jdk_2004_method_4_code 5 (some .int) ({ frames := 2, cells := 0, slots := 0, locals := 60 } : Room) #[(.ref a), (.ref o), (.int 0), (.int 4)] a h0 (fun v h L => v = some (.int (-1)) ∧ Ow.Eff h0 h [a, o] L ∧ Ow.AL Z h o ko .byte [.int 0, .int 0, .int 0, .int 0]) := by
  refine Owl.SPay.of (Ls := #[.val (.ref a), .val (.ref o), .val (.int 0), .val (.int 4), .unset]) (plainFor_of_name pn2) rfl (fun m => by first | rfl | (simp [entryFrameSync, entryFrame, mkL, argsToLocals, Value.category]; done)) ?_
  intro p e s m below meth c cell T hx hby hml hown hZ hret hlk hh0 hcell hent X M0
  obtain ⟨h1, eT⟩ : ∃ q, T.heap = q := ⟨_, rfl⟩
  rw [eT] at M0
  have O0 := O
  have A := A.mon M0
  have F_mark := F_mark.mon M0
  have F_buf := F_buf.mon M0
  have F_pos := F_pos.mon M0
  have F_count := F_count.mon M0
  have F_name := F_name.mon M0
  have B := Owl.monAL B M0
  have O := Owl.monAL O M0
  have sn_mark_pos : RoadKit.slotOf Z "java/io/ByteArrayInputStream" "mark" "I" ≠ RoadKit.slotOf Z "java/io/ByteArrayInputStream" "pos" "I" := slot_ne (a0 := a0) (C := "com/example/eunomia/eunomia/xml/NamedStream") (Or.inl (ww hw 53 rfl)) (Or.inl (ww hw 57 rfl)) (by decide) (t := .int) (t' := .int) (by decide) (by decide)
  have sn_buf_pos : RoadKit.slotOf Z "java/io/ByteArrayInputStream" "buf" "[B" ≠ RoadKit.slotOf Z "java/io/ByteArrayInputStream" "pos" "I" := slot_ne (a0 := a0) (C := "com/example/eunomia/eunomia/xml/NamedStream") (Or.inl (ww hw 55 rfl)) (Or.inl (ww hw 57 rfl)) (by decide) (t := (.array .byte)) (t' := .int) (by decide) (by decide)
  have sn_pos_count : RoadKit.slotOf Z "java/io/ByteArrayInputStream" "pos" "I" ≠ RoadKit.slotOf Z "java/io/ByteArrayInputStream" "count" "I" := slot_ne (a0 := a0) (C := "com/example/eunomia/eunomia/xml/NamedStream") (Or.inl (ww hw 57 rfl)) (Or.inl (ww hw 59 rfl)) (by decide) (t := .int) (t' := .int) (by decide) (by decide)
  have sn_pos_name : RoadKit.slotOf Z "java/io/ByteArrayInputStream" "pos" "I" ≠ RoadKit.slotOf Z "com/example/eunomia/eunomia/xml/NamedStream" "name" "Ljava/lang/String;" := slot_ne (a0 := a0) (C := "com/example/eunomia/eunomia/xml/NamedStream") (Or.inl (ww hw 57 rfl)) (Or.inr (ww hw 61 rfl)) (by decide) (t := .int) (t' := (.object "java/lang/String")) (by decide) (by decide)
  refine Owl.iloadN X hx (pc := 0) (hb hby d14_0) rfl ?_
  refine Owl.iloadN X hx (pc := 1) (hb hby d14_1) rfl ?_
  refine Owl.aloadN X hx (pc := 2) (hb hby d14_2) rfl rfl ?_
  refine Owl.lengthL X hx (show Z.Warmed39 (s.setCell a (cell.withEntry s.cur)).vm from hZ) eT O 4 rfl (pc := 3) (hb hby d14_3) ?_
  refine Owl.callSP X hx (show Z.Warmed39 (s.setCell a (cell.withEntry s.cur)).vm from hZ) (c_ocfis l Z a0 hw _) rfl rfl eT (show (s.setCell a (cell.withEntry s.cur)).vm.findClass _ = some m.cls from hown) (ww hw 94 rfl) (ww hw 95 rfl) (ww hw 96 rfl) (ww hw 97 rfl) (by decide) pd5 (by rw [hml]; rfl) (argsL := [_, _, _]) rfl rfl rfl (pc := 4) (hb hby d14_4) rfl rfl (by decide) (by decide) ?_   -- java/util/Objects.checkFromIndexSize:(III)I
  intro T X eT
  dsimp only [Option.toList_some, Option.toList_none, List.cons_append, List.nil_append]
  refine Owl.pop X hx (pc := 7) (hb hby d14_7) rfl ?_
  refine Owl.aloadN X hx (pc := 8) (hb hby d14_8) rfl rfl ?_
  refine Owl.getfield X hx (show Z.Warmed39 (s.setCell a (cell.withEntry s.cur)).vm from hZ) (show (s.setCell a (cell.withEntry s.cur)).vm.findClass _ = some m.cls from hown) (ww hw 56 rfl) Via.refl eT F_pos (pc := 9) (hb hby d14_9) ?_   -- "java/io/ByteArrayInputStream" "pos" "I"
  intro T X eT
  refine Owl.aloadN X hx (pc := 12) (hb hby d14_12) rfl rfl ?_
  refine Owl.getfield X hx (show Z.Warmed39 (s.setCell a (cell.withEntry s.cur)).vm from hZ) (show (s.setCell a (cell.withEntry s.cur)).vm.findClass _ = some m.cls from hown) (ww hw 58 rfl) Via.refl eT F_count (pc := 13) (hb hby d14_13) ?_   -- "java/io/ByteArrayInputStream" "count" "I"
  intro T X eT
  refine Owl.icmp_lt X hx (pc := 16) (pc' := 21) (hb hby d14_16) (by decide) (by decide) (fun q => absurd q (by decide)) (fun _ => ?_)
  refine Owl.iconst X hx (pc := 19) (-1) (hb hby d14_19) (by decide) ?_
  refine Owl.ireturn X hx hcell hent hlk hret (hb hby d14_20) (by decide) (by decide) (fun V M FE => ?_)
  have hv : V.heap = h0 := by rw [← hh0]; exact heap_of_end FE
  refine ⟨rfl, by rw [hv]; exact Ow.Eff.refl h0 _, ?_⟩
  rw [hv]; exact O0
set_option maxRecDepth 65536 in
set_option maxHeartbeats 4000000 in
theorem c_read10 (l : Launch) (Z : State) (a0 : Array Value) (hw : ∀ d ∈ tables_1, d.before a0 Z = true) (h0 : Heap) (a o t nb : Addr) (kt ko : ClassId) (b0 b1 b2 : Int32) (hao : a ≠ o) (hfit : ∀ v ∈ ([.int b0] : List Value), fits .byte v = true) (A : Exa Z h0 a "com/example/eunomia/eunomia/xml/NamedStream") (F_mark : Fld Z h0 a "java/io/ByteArrayInputStream" "mark" "I" (.int 0)) (F_buf : Fld Z h0 a "java/io/ByteArrayInputStream" "buf" "[B" (.ref t)) (F_pos : Fld Z h0 a "java/io/ByteArrayInputStream" "pos" "I" (.int 0)) (F_count : Fld Z h0 a "java/io/ByteArrayInputStream" "count" "I" (.int 1)) (F_name : Fld Z h0 a "com/example/eunomia/eunomia/xml/NamedStream" "name" "Ljava/lang/String;" (.null)) (B : Ow.AL Z h0 t kt .byte [.int b0]) (O : Ow.AL Z h0 o ko .byte [.int 0, .int 0, .int 0, .int 0]) : Owl.SPay l Z (⟨"java/io/ByteArrayInputStream", "read", "([BII)I"⟩ : MethodName) jdk_2004_method_4_code 5 (some .int) ({ frames := 2, cells := 0, slots := 0, locals := 60 } : Room) #[(.ref a), (.ref o), (.int 0), (.int 4)] a h0 (fun v h L => v = some (.int (1)) ∧ Ow.Eff h0 h [a, o] L ∧ Ow.AL Z h o ko .byte [.int b0, .int 0, .int 0, .int 0]) := by
  refine Owl.SPay.of (Ls := #[.val (.ref a), .val (.ref o), .val (.int 0), .val (.int 4), .unset]) (plainFor_of_name pn2) rfl (fun m => by first | rfl | (simp [entryFrameSync, entryFrame, mkL, argsToLocals, Value.category]; done)) ?_
  intro p e s m below meth c cell T hx hby hml hown hZ hret hlk hh0 hcell hent X M0
  obtain ⟨h1, eT⟩ : ∃ q, T.heap = q := ⟨_, rfl⟩
  rw [eT] at M0
  have O0 := O
  have A := A.mon M0
  have F_mark := F_mark.mon M0
  have F_buf := F_buf.mon M0
  have F_pos := F_pos.mon M0
  have F_count := F_count.mon M0
  have F_name := F_name.mon M0
  have B := Owl.monAL B M0
  have O := Owl.monAL O M0
  have sn_mark_pos : RoadKit.slotOf Z "java/io/ByteArrayInputStream" "mark" "I" ≠ RoadKit.slotOf Z "java/io/ByteArrayInputStream" "pos" "I" := slot_ne (a0 := a0) (C := "com/example/eunomia/eunomia/xml/NamedStream") (Or.inl (ww hw 53 rfl)) (Or.inl (ww hw 57 rfl)) (by decide) (t := .int) (t' := .int) (by decide) (by decide)
  have sn_buf_pos : RoadKit.slotOf Z "java/io/ByteArrayInputStream" "buf" "[B" ≠ RoadKit.slotOf Z "java/io/ByteArrayInputStream" "pos" "I" := slot_ne (a0 := a0) (C := "com/example/eunomia/eunomia/xml/NamedStream") (Or.inl (ww hw 55 rfl)) (Or.inl (ww hw 57 rfl)) (by decide) (t := (.array .byte)) (t' := .int) (by decide) (by decide)
  have sn_pos_count : RoadKit.slotOf Z "java/io/ByteArrayInputStream" "pos" "I" ≠ RoadKit.slotOf Z "java/io/ByteArrayInputStream" "count" "I" := slot_ne (a0 := a0) (C := "com/example/eunomia/eunomia/xml/NamedStream") (Or.inl (ww hw 57 rfl)) (Or.inl (ww hw 59 rfl)) (by decide) (t := .int) (t' := .int) (by decide) (by decide)
  have sn_pos_name : RoadKit.slotOf Z "java/io/ByteArrayInputStream" "pos" "I" ≠ RoadKit.slotOf Z "com/example/eunomia/eunomia/xml/NamedStream" "name" "Ljava/lang/String;" := slot_ne (a0 := a0) (C := "com/example/eunomia/eunomia/xml/NamedStream") (Or.inl (ww hw 57 rfl)) (Or.inr (ww hw 61 rfl)) (by decide) (t := .int) (t' := (.object "java/lang/String")) (by decide) (by decide)
  refine Owl.iloadN X hx (pc := 0) (hb hby d14_0) rfl ?_
  refine Owl.iloadN X hx (pc := 1) (hb hby d14_1) rfl ?_
  refine Owl.aloadN X hx (pc := 2) (hb hby d14_2) rfl rfl ?_
  refine Owl.lengthL X hx (show Z.Warmed39 (s.setCell a (cell.withEntry s.cur)).vm from hZ) eT O 4 rfl (pc := 3) (hb hby d14_3) ?_
  refine Owl.callSP X hx (show Z.Warmed39 (s.setCell a (cell.withEntry s.cur)).vm from hZ) (c_ocfis l Z a0 hw _) rfl rfl eT (show (s.setCell a (cell.withEntry s.cur)).vm.findClass _ = some m.cls from hown) (ww hw 94 rfl) (ww hw 95 rfl) (ww hw 96 rfl) (ww hw 97 rfl) (by decide) pd5 (by rw [hml]; rfl) (argsL := [_, _, _]) rfl rfl rfl (pc := 4) (hb hby d14_4) rfl rfl (by decide) (by decide) ?_   -- java/util/Objects.checkFromIndexSize:(III)I
  intro T X eT
  dsimp only [Option.toList_some, Option.toList_none, List.cons_append, List.nil_append]
  refine Owl.pop X hx (pc := 7) (hb hby d14_7) rfl ?_
  refine Owl.aloadN X hx (pc := 8) (hb hby d14_8) rfl rfl ?_
  refine Owl.getfield X hx (show Z.Warmed39 (s.setCell a (cell.withEntry s.cur)).vm from hZ) (show (s.setCell a (cell.withEntry s.cur)).vm.findClass _ = some m.cls from hown) (ww hw 56 rfl) Via.refl eT F_pos (pc := 9) (hb hby d14_9) ?_   -- "java/io/ByteArrayInputStream" "pos" "I"
  intro T X eT
  refine Owl.aloadN X hx (pc := 12) (hb hby d14_12) rfl rfl ?_
  refine Owl.getfield X hx (show Z.Warmed39 (s.setCell a (cell.withEntry s.cur)).vm from hZ) (show (s.setCell a (cell.withEntry s.cur)).vm.findClass _ = some m.cls from hown) (ww hw 58 rfl) Via.refl eT F_count (pc := 13) (hb hby d14_13) ?_   -- "java/io/ByteArrayInputStream" "count" "I"
  intro T X eT
  refine Owl.icmp_lt X hx (pc := 16) (pc' := 21) (hb hby d14_16) (by decide) (by decide) (fun _ => ?_) (fun q => absurd (by decide) q)
  refine Owl.aloadN X hx (pc := 21) (hb hby d14_21) rfl rfl ?_
  refine Owl.getfield X hx (show Z.Warmed39 (s.setCell a (cell.withEntry s.cur)).vm from hZ) (show (s.setCell a (cell.withEntry s.cur)).vm.findClass _ = some m.cls from hown) (ww hw 58 rfl) Via.refl eT F_count (pc := 22) (hb hby d14_22) ?_   -- "java/io/ByteArrayInputStream" "count" "I"
  intro T X eT
  refine Owl.aloadN X hx (pc := 25) (hb hby d14_25) rfl rfl ?_
  refine Owl.getfield X hx (show Z.Warmed39 (s.setCell a (cell.withEntry s.cur)).vm from hZ) (show (s.setCell a (cell.withEntry s.cur)).vm.findClass _ = some m.cls from hown) (ww hw 56 rfl) Via.refl eT F_pos (pc := 26) (hb hby d14_26) ?_   -- "java/io/ByteArrayInputStream" "pos" "I"
  intro T X eT
  refine Owl.isub X hx (pc := 29) (hb hby d14_29) ?_
  refine Owl.istore X hx (pc := 30) #[_, _, _, _, _] (hb hby d14_30) rfl ?_
  refine Owl.iloadN X hx (pc := 32) (hb hby d14_32) rfl ?_
  refine Owl.iload X hx (pc := 33) (hb hby d14_33) rfl ?_
  refine Owl.icmp_le X hx (pc := 35) (pc' := 41) (hb hby d14_35) (by decide) (by decide) (fun q => absurd (by decide) q) (fun _ => ?_)
  refine Owl.iload X hx (pc := 38) (hb hby d14_38) rfl ?_
  refine Owl.istoreN X hx (pc := 40) #[_, _, _, _, _] (hb hby d14_40) rfl ?_
  refine Owl.iloadN X hx (pc := 41) (hb hby d14_41) rfl ?_
  refine Owl.if_gt X hx (pc := 42) (pc' := 47) (hb hby d14_42) (by decide) (by decide) (fun _ => ?_) (fun q => absurd (by decide) q)
  refine Owl.aloadN X hx (pc := 47) (hb hby d14_47) rfl rfl ?_
  refine Owl.getfield X hx (show Z.Warmed39 (s.setCell a (cell.withEntry s.cur)).vm from hZ) (show (s.setCell a (cell.withEntry s.cur)).vm.findClass _ = some m.cls from hown) (ww hw 54 rfl) Via.refl eT F_buf (pc := 48) (hb hby d14_48) ?_   -- "java/io/ByteArrayInputStream" "buf" "[B"
  intro T X eT
  refine Owl.aloadN X hx (pc := 51) (hb hby d14_51) rfl rfl ?_
  refine Owl.getfield X hx (show Z.Warmed39 (s.setCell a (cell.withEntry s.cur)).vm from hZ) (show (s.setCell a (cell.withEntry s.cur)).vm.findClass _ = some m.cls from hown) (ww hw 56 rfl) Via.refl eT F_pos (pc := 52) (hb hby d14_52) ?_   -- "java/io/ByteArrayInputStream" "pos" "I"
  intro T X eT
  refine Owl.aloadN X hx (pc := 55) (hb hby d14_55) rfl rfl ?_
  refine Owl.iloadN X hx (pc := 56) (hb hby d14_56) rfl ?_
  refine Owl.iloadN X hx (pc := 57) (hb hby d14_57) rfl ?_
  refine Owl.arraycopyB X hx (show Z.Warmed39 (s.setCell a (cell.withEntry s.cur)).vm from hZ) eT (show (s.setCell a (cell.withEntry s.cur)).vm.findClass _ = some m.cls from hown) (ww hw 108 rfl) (ww hw 111 rfl) (ww hw 109 rfl) (ww hw 110 rfl) B O hfit 0 0 1 (by simp) (by simp) (by simp) (by simp) [.int b0, .int 0, .int 0, .int 0] rfl (by rw [hml]; rfl) (pc := 58) (hb hby d14_58) rfl rfl ?_
  intro T h2 L2 X eT F2 O
  have A := A.keep F2.1
  have F_mark := F_mark.keep F2.1 (Ow.nin1 hao)
  have F_buf := F_buf.keep F2.1 (Ow.nin1 hao)
  have F_pos := F_pos.keep F2.1 (Ow.nin1 hao)
  have F_count := F_count.keep F2.1 (Ow.nin1 hao)
  have F_name := F_name.keep F2.1 (Ow.nin1 hao)
  refine Owl.aloadN X hx (pc := 61) (hb hby d14_61) rfl rfl ?_
  refine Owl.dup X hx (pc := 62) (hb hby d14_62) rfl ?_
  refine Owl.getfield X hx (show Z.Warmed39 (s.setCell a (cell.withEntry s.cur)).vm from hZ) (show (s.setCell a (cell.withEntry s.cur)).vm.findClass _ = some m.cls from hown) (ww hw 56 rfl) Via.refl eT F_pos (pc := 63) (hb hby d14_63) ?_   -- "java/io/ByteArrayInputStream" "pos" "I"
  intro T X eT
  refine Owl.iloadN X hx (pc := 66) (hb hby d14_66) rfl ?_
  refine Owl.iadd X hx (pc := 67) (hb hby d14_67) ?_
  refine Owl.putfield X hx (show Z.Warmed39 (s.setCell a (cell.withEntry s.cur)).vm from hZ) (show (s.setCell a (cell.withEntry s.cur)).vm.findClass _ = some m.cls from hown) (ww hw 56 rfl) Via.refl eT F_pos A (Or.inl (ww hw 57 rfl)) (ww hw 35 rfl) (ty := .int) (by decide) rfl rfl (pc := 68) (hb hby d14_68) ?_
  intro T h3 X eT W3
  have O := O.other W3 (Ne.symm hao)
  refine Owl.iloadN X hx (pc := 71) (hb hby d14_71) rfl ?_
  refine Owl.ireturn X hx hcell hent hlk hret (hb hby d14_72) (by decide) (by decide) (fun V M FE => ?_)
  rw [eT] at M
  have hL : ∀ y ∈ (([] ++ L2) ++ [(⟨a, RoadKit.slotOf Z "java/io/ByteArrayInputStream" "pos" "I"⟩ : Loc)]), y.base ∈ [a, o] ∨ s.heap.size ≤ y.base := fun y hy => by
    rcases List.mem_append.mp hy with hy | hy
    · rcases F2.2 y (by simpa using hy) with q | q
      · exact Or.inl (by simp at q; rw [q]; simp)
      · exact Or.inr (Nat.le_trans (Nat.le_of_eq (by rw [hh0, ← M0.size])) q)
    · simp at hy; rw [hy]; simp
  have Kp := Owl.endKeep (ws := [a, o]) FE hL
  rw [hh0] at Kp hL
  exact ⟨rfl, ⟨Kp, hL⟩, Owl.monAL O M⟩
set_option maxRecDepth 65536 in
set_option maxHeartbeats 4000000 in
theorem c_read11 (l : Launch) (Z : State) (a0 : Array Value) (hw : ∀ d ∈ tables_1, d.before a0 Z = true) (h0 : Heap) (a o t nb : Addr) (kt ko : ClassId) (b0 b1 b2 : Int32) (hao : a ≠ o) (hfit : ∀ v ∈ ([.int b0] : List Value), fits .byte v = true) (A : Exa Z h0 a "com/example/eunomia/eunomia/xml/NamedStream") (F_mark : Fld Z h0 a "java/io/ByteArrayInputStream" "mark" "I" (.int 0)) (F_buf : Fld Z h0 a "java/io/ByteArrayInputStream" "buf" "[B" (.ref t)) (F_pos : Fld Z h0 a "java/io/ByteArrayInputStream" "pos" "I" (.int 0)) (F_count : Fld Z h0 a "java/io/ByteArrayInputStream" "count" "I" (.int 1)) (F_name : Fld Z h0 a "com/example/eunomia/eunomia/xml/NamedStream" "name" "Ljava/lang/String;" (.ref nb)) (B : Ow.AL Z h0 t kt .byte [.int b0]) (O : Ow.AL Z h0 o ko .byte [.int 0, .int 0, .int 0, .int 0]) : Owl.SPay l Z (⟨"java/io/ByteArrayInputStream", "read", "([BII)I"⟩ : MethodName) jdk_2004_method_4_code 5 (some .int) ({ frames := 2, cells := 0, slots := 0, locals := 60 } : Room) #[(.ref a), (.ref o), (.int 0), (.int 4)] a h0 (fun v h L => v = some (.int (1)) ∧ Ow.Eff h0 h [a, o] L ∧ Ow.AL Z h o ko .byte [.int b0, .int 0, .int 0, .int 0]) := by
  refine Owl.SPay.of (Ls := #[.val (.ref a), .val (.ref o), .val (.int 0), .val (.int 4), .unset]) (plainFor_of_name pn2) rfl (fun m => by first | rfl | (simp [entryFrameSync, entryFrame, mkL, argsToLocals, Value.category]; done)) ?_
  intro p e s m below meth c cell T hx hby hml hown hZ hret hlk hh0 hcell hent X M0
  obtain ⟨h1, eT⟩ : ∃ q, T.heap = q := ⟨_, rfl⟩
  rw [eT] at M0
  have O0 := O
  have A := A.mon M0
  have F_mark := F_mark.mon M0
  have F_buf := F_buf.mon M0
  have F_pos := F_pos.mon M0
  have F_count := F_count.mon M0
  have F_name := F_name.mon M0
  have B := Owl.monAL B M0
  have O := Owl.monAL O M0
  have sn_mark_pos : RoadKit.slotOf Z "java/io/ByteArrayInputStream" "mark" "I" ≠ RoadKit.slotOf Z "java/io/ByteArrayInputStream" "pos" "I" := slot_ne (a0 := a0) (C := "com/example/eunomia/eunomia/xml/NamedStream") (Or.inl (ww hw 53 rfl)) (Or.inl (ww hw 57 rfl)) (by decide) (t := .int) (t' := .int) (by decide) (by decide)
  have sn_buf_pos : RoadKit.slotOf Z "java/io/ByteArrayInputStream" "buf" "[B" ≠ RoadKit.slotOf Z "java/io/ByteArrayInputStream" "pos" "I" := slot_ne (a0 := a0) (C := "com/example/eunomia/eunomia/xml/NamedStream") (Or.inl (ww hw 55 rfl)) (Or.inl (ww hw 57 rfl)) (by decide) (t := (.array .byte)) (t' := .int) (by decide) (by decide)
  have sn_pos_count : RoadKit.slotOf Z "java/io/ByteArrayInputStream" "pos" "I" ≠ RoadKit.slotOf Z "java/io/ByteArrayInputStream" "count" "I" := slot_ne (a0 := a0) (C := "com/example/eunomia/eunomia/xml/NamedStream") (Or.inl (ww hw 57 rfl)) (Or.inl (ww hw 59 rfl)) (by decide) (t := .int) (t' := .int) (by decide) (by decide)
  have sn_pos_name : RoadKit.slotOf Z "java/io/ByteArrayInputStream" "pos" "I" ≠ RoadKit.slotOf Z "com/example/eunomia/eunomia/xml/NamedStream" "name" "Ljava/lang/String;" := slot_ne (a0 := a0) (C := "com/example/eunomia/eunomia/xml/NamedStream") (Or.inl (ww hw 57 rfl)) (Or.inr (ww hw 61 rfl)) (by decide) (t := .int) (t' := (.object "java/lang/String")) (by decide) (by decide)
  refine Owl.iloadN X hx (pc := 0) (hb hby d14_0) rfl ?_
  refine Owl.iloadN X hx (pc := 1) (hb hby d14_1) rfl ?_
  refine Owl.aloadN X hx (pc := 2) (hb hby d14_2) rfl rfl ?_
  refine Owl.lengthL X hx (show Z.Warmed39 (s.setCell a (cell.withEntry s.cur)).vm from hZ) eT O 4 rfl (pc := 3) (hb hby d14_3) ?_
  refine Owl.callSP X hx (show Z.Warmed39 (s.setCell a (cell.withEntry s.cur)).vm from hZ) (c_ocfis l Z a0 hw _) rfl rfl eT (show (s.setCell a (cell.withEntry s.cur)).vm.findClass _ = some m.cls from hown) (ww hw 94 rfl) (ww hw 95 rfl) (ww hw 96 rfl) (ww hw 97 rfl) (by decide) pd5 (by rw [hml]; rfl) (argsL := [_, _, _]) rfl rfl rfl (pc := 4) (hb hby d14_4) rfl rfl (by decide) (by decide) ?_   -- java/util/Objects.checkFromIndexSize:(III)I
  intro T X eT
  dsimp only [Option.toList_some, Option.toList_none, List.cons_append, List.nil_append]
  refine Owl.pop X hx (pc := 7) (hb hby d14_7) rfl ?_
  refine Owl.aloadN X hx (pc := 8) (hb hby d14_8) rfl rfl ?_
  refine Owl.getfield X hx (show Z.Warmed39 (s.setCell a (cell.withEntry s.cur)).vm from hZ) (show (s.setCell a (cell.withEntry s.cur)).vm.findClass _ = some m.cls from hown) (ww hw 56 rfl) Via.refl eT F_pos (pc := 9) (hb hby d14_9) ?_   -- "java/io/ByteArrayInputStream" "pos" "I"
  intro T X eT
  refine Owl.aloadN X hx (pc := 12) (hb hby d14_12) rfl rfl ?_
  refine Owl.getfield X hx (show Z.Warmed39 (s.setCell a (cell.withEntry s.cur)).vm from hZ) (show (s.setCell a (cell.withEntry s.cur)).vm.findClass _ = some m.cls from hown) (ww hw 58 rfl) Via.refl eT F_count (pc := 13) (hb hby d14_13) ?_   -- "java/io/ByteArrayInputStream" "count" "I"
  intro T X eT
  refine Owl.icmp_lt X hx (pc := 16) (pc' := 21) (hb hby d14_16) (by decide) (by decide) (fun _ => ?_) (fun q => absurd (by decide) q)
  refine Owl.aloadN X hx (pc := 21) (hb hby d14_21) rfl rfl ?_
  refine Owl.getfield X hx (show Z.Warmed39 (s.setCell a (cell.withEntry s.cur)).vm from hZ) (show (s.setCell a (cell.withEntry s.cur)).vm.findClass _ = some m.cls from hown) (ww hw 58 rfl) Via.refl eT F_count (pc := 22) (hb hby d14_22) ?_   -- "java/io/ByteArrayInputStream" "count" "I"
  intro T X eT
  refine Owl.aloadN X hx (pc := 25) (hb hby d14_25) rfl rfl ?_
  refine Owl.getfield X hx (show Z.Warmed39 (s.setCell a (cell.withEntry s.cur)).vm from hZ) (show (s.setCell a (cell.withEntry s.cur)).vm.findClass _ = some m.cls from hown) (ww hw 56 rfl) Via.refl eT F_pos (pc := 26) (hb hby d14_26) ?_   -- "java/io/ByteArrayInputStream" "pos" "I"
  intro T X eT
  refine Owl.isub X hx (pc := 29) (hb hby d14_29) ?_
  refine Owl.istore X hx (pc := 30) #[_, _, _, _, _] (hb hby d14_30) rfl ?_
  refine Owl.iloadN X hx (pc := 32) (hb hby d14_32) rfl ?_
  refine Owl.iload X hx (pc := 33) (hb hby d14_33) rfl ?_
  refine Owl.icmp_le X hx (pc := 35) (pc' := 41) (hb hby d14_35) (by decide) (by decide) (fun q => absurd (by decide) q) (fun _ => ?_)
  refine Owl.iload X hx (pc := 38) (hb hby d14_38) rfl ?_
  refine Owl.istoreN X hx (pc := 40) #[_, _, _, _, _] (hb hby d14_40) rfl ?_
  refine Owl.iloadN X hx (pc := 41) (hb hby d14_41) rfl ?_
  refine Owl.if_gt X hx (pc := 42) (pc' := 47) (hb hby d14_42) (by decide) (by decide) (fun _ => ?_) (fun q => absurd (by decide) q)
  refine Owl.aloadN X hx (pc := 47) (hb hby d14_47) rfl rfl ?_
  refine Owl.getfield X hx (show Z.Warmed39 (s.setCell a (cell.withEntry s.cur)).vm from hZ) (show (s.setCell a (cell.withEntry s.cur)).vm.findClass _ = some m.cls from hown) (ww hw 54 rfl) Via.refl eT F_buf (pc := 48) (hb hby d14_48) ?_   -- "java/io/ByteArrayInputStream" "buf" "[B"
  intro T X eT
  refine Owl.aloadN X hx (pc := 51) (hb hby d14_51) rfl rfl ?_
  refine Owl.getfield X hx (show Z.Warmed39 (s.setCell a (cell.withEntry s.cur)).vm from hZ) (show (s.setCell a (cell.withEntry s.cur)).vm.findClass _ = some m.cls from hown) (ww hw 56 rfl) Via.refl eT F_pos (pc := 52) (hb hby d14_52) ?_   -- "java/io/ByteArrayInputStream" "pos" "I"
  intro T X eT
  refine Owl.aloadN X hx (pc := 55) (hb hby d14_55) rfl rfl ?_
  refine Owl.iloadN X hx (pc := 56) (hb hby d14_56) rfl ?_
  refine Owl.iloadN X hx (pc := 57) (hb hby d14_57) rfl ?_
  refine Owl.arraycopyB X hx (show Z.Warmed39 (s.setCell a (cell.withEntry s.cur)).vm from hZ) eT (show (s.setCell a (cell.withEntry s.cur)).vm.findClass _ = some m.cls from hown) (ww hw 108 rfl) (ww hw 111 rfl) (ww hw 109 rfl) (ww hw 110 rfl) B O hfit 0 0 1 (by simp) (by simp) (by simp) (by simp) [.int b0, .int 0, .int 0, .int 0] rfl (by rw [hml]; rfl) (pc := 58) (hb hby d14_58) rfl rfl ?_
  intro T h2 L2 X eT F2 O
  have A := A.keep F2.1
  have F_mark := F_mark.keep F2.1 (Ow.nin1 hao)
  have F_buf := F_buf.keep F2.1 (Ow.nin1 hao)
  have F_pos := F_pos.keep F2.1 (Ow.nin1 hao)
  have F_count := F_count.keep F2.1 (Ow.nin1 hao)
  have F_name := F_name.keep F2.1 (Ow.nin1 hao)
  refine Owl.aloadN X hx (pc := 61) (hb hby d14_61) rfl rfl ?_
  refine Owl.dup X hx (pc := 62) (hb hby d14_62) rfl ?_
  refine Owl.getfield X hx (show Z.Warmed39 (s.setCell a (cell.withEntry s.cur)).vm from hZ) (show (s.setCell a (cell.withEntry s.cur)).vm.findClass _ = some m.cls from hown) (ww hw 56 rfl) Via.refl eT F_pos (pc := 63) (hb hby d14_63) ?_   -- "java/io/ByteArrayInputStream" "pos" "I"
  intro T X eT
  refine Owl.iloadN X hx (pc := 66) (hb hby d14_66) rfl ?_
  refine Owl.iadd X hx (pc := 67) (hb hby d14_67) ?_
  refine Owl.putfield X hx (show Z.Warmed39 (s.setCell a (cell.withEntry s.cur)).vm from hZ) (show (s.setCell a (cell.withEntry s.cur)).vm.findClass _ = some m.cls from hown) (ww hw 56 rfl) Via.refl eT F_pos A (Or.inl (ww hw 57 rfl)) (ww hw 35 rfl) (ty := .int) (by decide) rfl rfl (pc := 68) (hb hby d14_68) ?_
  intro T h3 X eT W3
  have O := O.other W3 (Ne.symm hao)
  refine Owl.iloadN X hx (pc := 71) (hb hby d14_71) rfl ?_
  refine Owl.ireturn X hx hcell hent hlk hret (hb hby d14_72) (by decide) (by decide) (fun V M FE => ?_)
  rw [eT] at M
  have hL : ∀ y ∈ (([] ++ L2) ++ [(⟨a, RoadKit.slotOf Z "java/io/ByteArrayInputStream" "pos" "I"⟩ : Loc)]), y.base ∈ [a, o] ∨ s.heap.size ≤ y.base := fun y hy => by
    rcases List.mem_append.mp hy with hy | hy
    · rcases F2.2 y (by simpa using hy) with q | q
      · exact Or.inl (by simp at q; rw [q]; simp)
      · exact Or.inr (Nat.le_trans (Nat.le_of_eq (by rw [hh0, ← M0.size])) q)
    · simp at hy; rw [hy]; simp
  have Kp := Owl.endKeep (ws := [a, o]) FE hL
  rw [hh0] at Kp hL
  exact ⟨rfl, ⟨Kp, hL⟩, Owl.monAL O M⟩
set_option maxRecDepth 65536 in
set_option maxHeartbeats 4000000 in
theorem c_read20 (l : Launch) (Z : State) (a0 : Array Value) (hw : ∀ d ∈ tables_1, d.before a0 Z = true) (h0 : Heap) (a o t nb : Addr) (kt ko : ClassId) (b0 b1 b2 : Int32) (hao : a ≠ o) (hfit : ∀ v ∈ ([.int b0, .int b1] : List Value), fits .byte v = true) (A : Exa Z h0 a "com/example/eunomia/eunomia/xml/NamedStream") (F_mark : Fld Z h0 a "java/io/ByteArrayInputStream" "mark" "I" (.int 0)) (F_buf : Fld Z h0 a "java/io/ByteArrayInputStream" "buf" "[B" (.ref t)) (F_pos : Fld Z h0 a "java/io/ByteArrayInputStream" "pos" "I" (.int 0)) (F_count : Fld Z h0 a "java/io/ByteArrayInputStream" "count" "I" (.int 2)) (F_name : Fld Z h0 a "com/example/eunomia/eunomia/xml/NamedStream" "name" "Ljava/lang/String;" (.null)) (B : Ow.AL Z h0 t kt .byte [.int b0, .int b1]) (O : Ow.AL Z h0 o ko .byte [.int 0, .int 0, .int 0, .int 0]) : Owl.SPay l Z (⟨"java/io/ByteArrayInputStream", "read", "([BII)I"⟩ : MethodName) jdk_2004_method_4_code 5 (some .int) ({ frames := 2, cells := 0, slots := 0, locals := 60 } : Room) #[(.ref a), (.ref o), (.int 0), (.int 4)] a h0 (fun v h L => v = some (.int (2)) ∧ Ow.Eff h0 h [a, o] L ∧ Ow.AL Z h o ko .byte [.int b0, .int b1, .int 0, .int 0]) := by
  refine Owl.SPay.of (Ls := #[.val (.ref a), .val (.ref o), .val (.int 0), .val (.int 4), .unset]) (plainFor_of_name pn2) rfl (fun m => by first | rfl | (simp [entryFrameSync, entryFrame, mkL, argsToLocals, Value.category]; done)) ?_
  intro p e s m below meth c cell T hx hby hml hown hZ hret hlk hh0 hcell hent X M0
  obtain ⟨h1, eT⟩ : ∃ q, T.heap = q := ⟨_, rfl⟩
  rw [eT] at M0
  have O0 := O
  have A := A.mon M0
  have F_mark := F_mark.mon M0
  have F_buf := F_buf.mon M0
  have F_pos := F_pos.mon M0
  have F_count := F_count.mon M0
  have F_name := F_name.mon M0
  have B := Owl.monAL B M0
  have O := Owl.monAL O M0
  have sn_mark_pos : RoadKit.slotOf Z "java/io/ByteArrayInputStream" "mark" "I" ≠ RoadKit.slotOf Z "java/io/ByteArrayInputStream" "pos" "I" := slot_ne (a0 := a0) (C := "com/example/eunomia/eunomia/xml/NamedStream") (Or.inl (ww hw 53 rfl)) (Or.inl (ww hw 57 rfl)) (by decide) (t := .int) (t' := .int) (by decide) (by decide)
  have sn_buf_pos : RoadKit.slotOf Z "java/io/ByteArrayInputStream" "buf" "[B" ≠ RoadKit.slotOf Z "java/io/ByteArrayInputStream" "pos" "I" := slot_ne (a0 := a0) (C := "com/example/eunomia/eunomia/xml/NamedStream") (Or.inl (ww hw 55 rfl)) (Or.inl (ww hw 57 rfl)) (by decide) (t := (.array .byte)) (t' := .int) (by decide) (by decide)
  have sn_pos_count : RoadKit.slotOf Z "java/io/ByteArrayInputStream" "pos" "I" ≠ RoadKit.slotOf Z "java/io/ByteArrayInputStream" "count" "I" := slot_ne (a0 := a0) (C := "com/example/eunomia/eunomia/xml/NamedStream") (Or.inl (ww hw 57 rfl)) (Or.inl (ww hw 59 rfl)) (by decide) (t := .int) (t' := .int) (by decide) (by decide)
  have sn_pos_name : RoadKit.slotOf Z "java/io/ByteArrayInputStream" "pos" "I" ≠ RoadKit.slotOf Z "com/example/eunomia/eunomia/xml/NamedStream" "name" "Ljava/lang/String;" := slot_ne (a0 := a0) (C := "com/example/eunomia/eunomia/xml/NamedStream") (Or.inl (ww hw 57 rfl)) (Or.inr (ww hw 61 rfl)) (by decide) (t := .int) (t' := (.object "java/lang/String")) (by decide) (by decide)
  refine Owl.iloadN X hx (pc := 0) (hb hby d14_0) rfl ?_
  refine Owl.iloadN X hx (pc := 1) (hb hby d14_1) rfl ?_
  refine Owl.aloadN X hx (pc := 2) (hb hby d14_2) rfl rfl ?_
  refine Owl.lengthL X hx (show Z.Warmed39 (s.setCell a (cell.withEntry s.cur)).vm from hZ) eT O 4 rfl (pc := 3) (hb hby d14_3) ?_
  refine Owl.callSP X hx (show Z.Warmed39 (s.setCell a (cell.withEntry s.cur)).vm from hZ) (c_ocfis l Z a0 hw _) rfl rfl eT (show (s.setCell a (cell.withEntry s.cur)).vm.findClass _ = some m.cls from hown) (ww hw 94 rfl) (ww hw 95 rfl) (ww hw 96 rfl) (ww hw 97 rfl) (by decide) pd5 (by rw [hml]; rfl) (argsL := [_, _, _]) rfl rfl rfl (pc := 4) (hb hby d14_4) rfl rfl (by decide) (by decide) ?_   -- java/util/Objects.checkFromIndexSize:(III)I
  intro T X eT
  dsimp only [Option.toList_some, Option.toList_none, List.cons_append, List.nil_append]
  refine Owl.pop X hx (pc := 7) (hb hby d14_7) rfl ?_
  refine Owl.aloadN X hx (pc := 8) (hb hby d14_8) rfl rfl ?_
  refine Owl.getfield X hx (show Z.Warmed39 (s.setCell a (cell.withEntry s.cur)).vm from hZ) (show (s.setCell a (cell.withEntry s.cur)).vm.findClass _ = some m.cls from hown) (ww hw 56 rfl) Via.refl eT F_pos (pc := 9) (hb hby d14_9) ?_   -- "java/io/ByteArrayInputStream" "pos" "I"
  intro T X eT
  refine Owl.aloadN X hx (pc := 12) (hb hby d14_12) rfl rfl ?_
  refine Owl.getfield X hx (show Z.Warmed39 (s.setCell a (cell.withEntry s.cur)).vm from hZ) (show (s.setCell a (cell.withEntry s.cur)).vm.findClass _ = some m.cls from hown) (ww hw 58 rfl) Via.refl eT F_count (pc := 13) (hb hby d14_13) ?_   -- "java/io/ByteArrayInputStream" "count" "I"
  intro T X eT
  refine Owl.icmp_lt X hx (pc := 16) (pc' := 21) (hb hby d14_16) (by decide) (by decide) (fun _ => ?_) (fun q => absurd (by decide) q)
  refine Owl.aloadN X hx (pc := 21) (hb hby d14_21) rfl rfl ?_
  refine Owl.getfield X hx (show Z.Warmed39 (s.setCell a (cell.withEntry s.cur)).vm from hZ) (show (s.setCell a (cell.withEntry s.cur)).vm.findClass _ = some m.cls from hown) (ww hw 58 rfl) Via.refl eT F_count (pc := 22) (hb hby d14_22) ?_   -- "java/io/ByteArrayInputStream" "count" "I"
  intro T X eT
  refine Owl.aloadN X hx (pc := 25) (hb hby d14_25) rfl rfl ?_
  refine Owl.getfield X hx (show Z.Warmed39 (s.setCell a (cell.withEntry s.cur)).vm from hZ) (show (s.setCell a (cell.withEntry s.cur)).vm.findClass _ = some m.cls from hown) (ww hw 56 rfl) Via.refl eT F_pos (pc := 26) (hb hby d14_26) ?_   -- "java/io/ByteArrayInputStream" "pos" "I"
  intro T X eT
  refine Owl.isub X hx (pc := 29) (hb hby d14_29) ?_
  refine Owl.istore X hx (pc := 30) #[_, _, _, _, _] (hb hby d14_30) rfl ?_
  refine Owl.iloadN X hx (pc := 32) (hb hby d14_32) rfl ?_
  refine Owl.iload X hx (pc := 33) (hb hby d14_33) rfl ?_
  refine Owl.icmp_le X hx (pc := 35) (pc' := 41) (hb hby d14_35) (by decide) (by decide) (fun q => absurd (by decide) q) (fun _ => ?_)
  refine Owl.iload X hx (pc := 38) (hb hby d14_38) rfl ?_
  refine Owl.istoreN X hx (pc := 40) #[_, _, _, _, _] (hb hby d14_40) rfl ?_
  refine Owl.iloadN X hx (pc := 41) (hb hby d14_41) rfl ?_
  refine Owl.if_gt X hx (pc := 42) (pc' := 47) (hb hby d14_42) (by decide) (by decide) (fun _ => ?_) (fun q => absurd (by decide) q)
  refine Owl.aloadN X hx (pc := 47) (hb hby d14_47) rfl rfl ?_
  refine Owl.getfield X hx (show Z.Warmed39 (s.setCell a (cell.withEntry s.cur)).vm from hZ) (show (s.setCell a (cell.withEntry s.cur)).vm.findClass _ = some m.cls from hown) (ww hw 54 rfl) Via.refl eT F_buf (pc := 48) (hb hby d14_48) ?_   -- "java/io/ByteArrayInputStream" "buf" "[B"
  intro T X eT
  refine Owl.aloadN X hx (pc := 51) (hb hby d14_51) rfl rfl ?_
  refine Owl.getfield X hx (show Z.Warmed39 (s.setCell a (cell.withEntry s.cur)).vm from hZ) (show (s.setCell a (cell.withEntry s.cur)).vm.findClass _ = some m.cls from hown) (ww hw 56 rfl) Via.refl eT F_pos (pc := 52) (hb hby d14_52) ?_   -- "java/io/ByteArrayInputStream" "pos" "I"
  intro T X eT
  refine Owl.aloadN X hx (pc := 55) (hb hby d14_55) rfl rfl ?_
  refine Owl.iloadN X hx (pc := 56) (hb hby d14_56) rfl ?_
  refine Owl.iloadN X hx (pc := 57) (hb hby d14_57) rfl ?_
  refine Owl.arraycopyB X hx (show Z.Warmed39 (s.setCell a (cell.withEntry s.cur)).vm from hZ) eT (show (s.setCell a (cell.withEntry s.cur)).vm.findClass _ = some m.cls from hown) (ww hw 108 rfl) (ww hw 111 rfl) (ww hw 109 rfl) (ww hw 110 rfl) B O hfit 0 0 2 (by simp) (by simp) (by simp) (by simp) [.int b0, .int b1, .int 0, .int 0] rfl (by rw [hml]; rfl) (pc := 58) (hb hby d14_58) rfl rfl ?_
  intro T h2 L2 X eT F2 O
  have A := A.keep F2.1
  have F_mark := F_mark.keep F2.1 (Ow.nin1 hao)
  have F_buf := F_buf.keep F2.1 (Ow.nin1 hao)
  have F_pos := F_pos.keep F2.1 (Ow.nin1 hao)
  have F_count := F_count.keep F2.1 (Ow.nin1 hao)
  have F_name := F_name.keep F2.1 (Ow.nin1 hao)
  refine Owl.aloadN X hx (pc := 61) (hb hby d14_61) rfl rfl ?_
  refine Owl.dup X hx (pc := 62) (hb hby d14_62) rfl ?_
  refine Owl.getfield X hx (show Z.Warmed39 (s.setCell a (cell.withEntry s.cur)).vm from hZ) (show (s.setCell a (cell.withEntry s.cur)).vm.findClass _ = some m.cls from hown) (ww hw 56 rfl) Via.refl eT F_pos (pc := 63) (hb hby d14_63) ?_   -- "java/io/ByteArrayInputStream" "pos" "I"
  intro T X eT
  refine Owl.iloadN X hx (pc := 66) (hb hby d14_66) rfl ?_
  refine Owl.iadd X hx (pc := 67) (hb hby d14_67) ?_
  refine Owl.putfield X hx (show Z.Warmed39 (s.setCell a (cell.withEntry s.cur)).vm from hZ) (show (s.setCell a (cell.withEntry s.cur)).vm.findClass _ = some m.cls from hown) (ww hw 56 rfl) Via.refl eT F_pos A (Or.inl (ww hw 57 rfl)) (ww hw 35 rfl) (ty := .int) (by decide) rfl rfl (pc := 68) (hb hby d14_68) ?_
  intro T h3 X eT W3
  have O := O.other W3 (Ne.symm hao)
  refine Owl.iloadN X hx (pc := 71) (hb hby d14_71) rfl ?_
  refine Owl.ireturn X hx hcell hent hlk hret (hb hby d14_72) (by decide) (by decide) (fun V M FE => ?_)
  rw [eT] at M
  have hL : ∀ y ∈ (([] ++ L2) ++ [(⟨a, RoadKit.slotOf Z "java/io/ByteArrayInputStream" "pos" "I"⟩ : Loc)]), y.base ∈ [a, o] ∨ s.heap.size ≤ y.base := fun y hy => by
    rcases List.mem_append.mp hy with hy | hy
    · rcases F2.2 y (by simpa using hy) with q | q
      · exact Or.inl (by simp at q; rw [q]; simp)
      · exact Or.inr (Nat.le_trans (Nat.le_of_eq (by rw [hh0, ← M0.size])) q)
    · simp at hy; rw [hy]; simp
  have Kp := Owl.endKeep (ws := [a, o]) FE hL
  rw [hh0] at Kp hL
  exact ⟨rfl, ⟨Kp, hL⟩, Owl.monAL O M⟩
set_option maxRecDepth 65536 in
set_option maxHeartbeats 4000000 in
theorem c_read21 (l : Launch) (Z : State) (a0 : Array Value) (hw : ∀ d ∈ tables_1, d.before a0 Z = true) (h0 : Heap) (a o t nb : Addr) (kt ko : ClassId) (b0 b1 b2 : Int32) (hao : a ≠ o) (hfit : ∀ v ∈ ([.int b0, .int b1] : List Value), fits .byte v = true) (A : Exa Z h0 a "com/example/eunomia/eunomia/xml/NamedStream") (F_mark : Fld Z h0 a "java/io/ByteArrayInputStream" "mark" "I" (.int 0)) (F_buf : Fld Z h0 a "java/io/ByteArrayInputStream" "buf" "[B" (.ref t)) (F_pos : Fld Z h0 a "java/io/ByteArrayInputStream" "pos" "I" (.int 0)) (F_count : Fld Z h0 a "java/io/ByteArrayInputStream" "count" "I" (.int 2)) (F_name : Fld Z h0 a "com/example/eunomia/eunomia/xml/NamedStream" "name" "Ljava/lang/String;" (.ref nb)) (B : Ow.AL Z h0 t kt .byte [.int b0, .int b1]) (O : Ow.AL Z h0 o ko .byte [.int 0, .int 0, .int 0, .int 0]) : Owl.SPay l Z (⟨"java/io/ByteArrayInputStream", "read", "([BII)I"⟩ : MethodName) jdk_2004_method_4_code 5 (some .int) ({ frames := 2, cells := 0, slots := 0, locals := 60 } : Room) #[(.ref a), (.ref o), (.int 0), (.int 4)] a h0 (fun v h L => v = some (.int (2)) ∧ Ow.Eff h0 h [a, o] L ∧ Ow.AL Z h o ko .byte [.int b0, .int b1, .int 0, .int 0]) := by
  refine Owl.SPay.of (Ls := #[.val (.ref a), .val (.ref o), .val (.int 0), .val (.int 4), .unset]) (plainFor_of_name pn2) rfl (fun m => by first | rfl | (simp [entryFrameSync, entryFrame, mkL, argsToLocals, Value.category]; done)) ?_
  intro p e s m below meth c cell T hx hby hml hown hZ hret hlk hh0 hcell hent X M0
  obtain ⟨h1, eT⟩ : ∃ q, T.heap = q := ⟨_, rfl⟩
  rw [eT] at M0
  have O0 := O
  have A := A.mon M0
  have F_mark := F_mark.mon M0
  have F_buf := F_buf.mon M0
  have F_pos := F_pos.mon M0
  have F_count := F_count.mon M0
  have F_name := F_name.mon M0
  have B := Owl.monAL B M0
  have O := Owl.monAL O M0
  have sn_mark_pos : RoadKit.slotOf Z "java/io/ByteArrayInputStream" "mark" "I" ≠ RoadKit.slotOf Z "java/io/ByteArrayInputStream" "pos" "I" := slot_ne (a0 := a0) (C := "com/example/eunomia/eunomia/xml/NamedStream") (Or.inl (ww hw 53 rfl)) (Or.inl (ww hw 57 rfl)) (by decide) (t := .int) (t' := .int) (by decide) (by decide)
  have sn_buf_pos : RoadKit.slotOf Z "java/io/ByteArrayInputStream" "buf" "[B" ≠ RoadKit.slotOf Z "java/io/ByteArrayInputStream" "pos" "I" := slot_ne (a0 := a0) (C := "com/example/eunomia/eunomia/xml/NamedStream") (Or.inl (ww hw 55 rfl)) (Or.inl (ww hw 57 rfl)) (by decide) (t := (.array .byte)) (t' := .int) (by decide) (by decide)
  have sn_pos_count : RoadKit.slotOf Z "java/io/ByteArrayInputStream" "pos" "I" ≠ RoadKit.slotOf Z "java/io/ByteArrayInputStream" "count" "I" := slot_ne (a0 := a0) (C := "com/example/eunomia/eunomia/xml/NamedStream") (Or.inl (ww hw 57 rfl)) (Or.inl (ww hw 59 rfl)) (by decide) (t := .int) (t' := .int) (by decide) (by decide)
  have sn_pos_name : RoadKit.slotOf Z "java/io/ByteArrayInputStream" "pos" "I" ≠ RoadKit.slotOf Z "com/example/eunomia/eunomia/xml/NamedStream" "name" "Ljava/lang/String;" := slot_ne (a0 := a0) (C := "com/example/eunomia/eunomia/xml/NamedStream") (Or.inl (ww hw 57 rfl)) (Or.inr (ww hw 61 rfl)) (by decide) (t := .int) (t' := (.object "java/lang/String")) (by decide) (by decide)
  refine Owl.iloadN X hx (pc := 0) (hb hby d14_0) rfl ?_
  refine Owl.iloadN X hx (pc := 1) (hb hby d14_1) rfl ?_
  refine Owl.aloadN X hx (pc := 2) (hb hby d14_2) rfl rfl ?_
  refine Owl.lengthL X hx (show Z.Warmed39 (s.setCell a (cell.withEntry s.cur)).vm from hZ) eT O 4 rfl (pc := 3) (hb hby d14_3) ?_
  refine Owl.callSP X hx (show Z.Warmed39 (s.setCell a (cell.withEntry s.cur)).vm from hZ) (c_ocfis l Z a0 hw _) rfl rfl eT (show (s.setCell a (cell.withEntry s.cur)).vm.findClass _ = some m.cls from hown) (ww hw 94 rfl) (ww hw 95 rfl) (ww hw 96 rfl) (ww hw 97 rfl) (by decide) pd5 (by rw [hml]; rfl) (argsL := [_, _, _]) rfl rfl rfl (pc := 4) (hb hby d14_4) rfl rfl (by decide) (by decide) ?_   -- java/util/Objects.checkFromIndexSize:(III)I
  intro T X eT
  dsimp only [Option.toList_some, Option.toList_none, List.cons_append, List.nil_append]
  refine Owl.pop X hx (pc := 7) (hb hby d14_7) rfl ?_
  refine Owl.aloadN X hx (pc := 8) (hb hby d14_8) rfl rfl ?_
  refine Owl.getfield X hx (show Z.Warmed39 (s.setCell a (cell.withEntry s.cur)).vm from hZ) (show (s.setCell a (cell.withEntry s.cur)).vm.findClass _ = some m.cls from hown) (ww hw 56 rfl) Via.refl eT F_pos (pc := 9) (hb hby d14_9) ?_   -- "java/io/ByteArrayInputStream" "pos" "I"
  intro T X eT
  refine Owl.aloadN X hx (pc := 12) (hb hby d14_12) rfl rfl ?_
  refine Owl.getfield X hx (show Z.Warmed39 (s.setCell a (cell.withEntry s.cur)).vm from hZ) (show (s.setCell a (cell.withEntry s.cur)).vm.findClass _ = some m.cls from hown) (ww hw 58 rfl) Via.refl eT F_count (pc := 13) (hb hby d14_13) ?_   -- "java/io/ByteArrayInputStream" "count" "I"
  intro T X eT
  refine Owl.icmp_lt X hx (pc := 16) (pc' := 21) (hb hby d14_16) (by decide) (by decide) (fun _ => ?_) (fun q => absurd (by decide) q)
  refine Owl.aloadN X hx (pc := 21) (hb hby d14_21) rfl rfl ?_
  refine Owl.getfield X hx (show Z.Warmed39 (s.setCell a (cell.withEntry s.cur)).vm from hZ) (show (s.setCell a (cell.withEntry s.cur)).vm.findClass _ = some m.cls from hown) (ww hw 58 rfl) Via.refl eT F_count (pc := 22) (hb hby d14_22) ?_   -- "java/io/ByteArrayInputStream" "count" "I"
  intro T X eT
  refine Owl.aloadN X hx (pc := 25) (hb hby d14_25) rfl rfl ?_
  refine Owl.getfield X hx (show Z.Warmed39 (s.setCell a (cell.withEntry s.cur)).vm from hZ) (show (s.setCell a (cell.withEntry s.cur)).vm.findClass _ = some m.cls from hown) (ww hw 56 rfl) Via.refl eT F_pos (pc := 26) (hb hby d14_26) ?_   -- "java/io/ByteArrayInputStream" "pos" "I"
  intro T X eT
  refine Owl.isub X hx (pc := 29) (hb hby d14_29) ?_
  refine Owl.istore X hx (pc := 30) #[_, _, _, _, _] (hb hby d14_30) rfl ?_
  refine Owl.iloadN X hx (pc := 32) (hb hby d14_32) rfl ?_
  refine Owl.iload X hx (pc := 33) (hb hby d14_33) rfl ?_
  refine Owl.icmp_le X hx (pc := 35) (pc' := 41) (hb hby d14_35) (by decide) (by decide) (fun q => absurd (by decide) q) (fun _ => ?_)
  refine Owl.iload X hx (pc := 38) (hb hby d14_38) rfl ?_
  refine Owl.istoreN X hx (pc := 40) #[_, _, _, _, _] (hb hby d14_40) rfl ?_
  refine Owl.iloadN X hx (pc := 41) (hb hby d14_41) rfl ?_
  refine Owl.if_gt X hx (pc := 42) (pc' := 47) (hb hby d14_42) (by decide) (by decide) (fun _ => ?_) (fun q => absurd (by decide) q)
  refine Owl.aloadN X hx (pc := 47) (hb hby d14_47) rfl rfl ?_
  refine Owl.getfield X hx (show Z.Warmed39 (s.setCell a (cell.withEntry s.cur)).vm from hZ) (show (s.setCell a (cell.withEntry s.cur)).vm.findClass _ = some m.cls from hown) (ww hw 54 rfl) Via.refl eT F_buf (pc := 48) (hb hby d14_48) ?_   -- "java/io/ByteArrayInputStream" "buf" "[B"
  intro T X eT
  refine Owl.aloadN X hx (pc := 51) (hb hby d14_51) rfl rfl ?_
  refine Owl.getfield X hx (show Z.Warmed39 (s.setCell a (cell.withEntry s.cur)).vm from hZ) (show (s.setCell a (cell.withEntry s.cur)).vm.findClass _ = some m.cls from hown) (ww hw 56 rfl) Via.refl eT F_pos (pc := 52) (hb hby d14_52) ?_   -- "java/io/ByteArrayInputStream" "pos" "I"
  intro T X eT
  refine Owl.aloadN X hx (pc := 55) (hb hby d14_55) rfl rfl ?_
  refine Owl.iloadN X hx (pc := 56) (hb hby d14_56) rfl ?_
  refine Owl.iloadN X hx (pc := 57) (hb hby d14_57) rfl ?_
  refine Owl.arraycopyB X hx (show Z.Warmed39 (s.setCell a (cell.withEntry s.cur)).vm from hZ) eT (show (s.setCell a (cell.withEntry s.cur)).vm.findClass _ = some m.cls from hown) (ww hw 108 rfl) (ww hw 111 rfl) (ww hw 109 rfl) (ww hw 110 rfl) B O hfit 0 0 2 (by simp) (by simp) (by simp) (by simp) [.int b0, .int b1, .int 0, .int 0] rfl (by rw [hml]; rfl) (pc := 58) (hb hby d14_58) rfl rfl ?_
  intro T h2 L2 X eT F2 O
  have A := A.keep F2.1
  have F_mark := F_mark.keep F2.1 (Ow.nin1 hao)
  have F_buf := F_buf.keep F2.1 (Ow.nin1 hao)
  have F_pos := F_pos.keep F2.1 (Ow.nin1 hao)
  have F_count := F_count.keep F2.1 (Ow.nin1 hao)
  have F_name := F_name.keep F2.1 (Ow.nin1 hao)
  refine Owl.aloadN X hx (pc := 61) (hb hby d14_61) rfl rfl ?_
  refine Owl.dup X hx (pc := 62) (hb hby d14_62) rfl ?_
  refine Owl.getfield X hx (show Z.Warmed39 (s.setCell a (cell.withEntry s.cur)).vm from hZ) (show (s.setCell a (cell.withEntry s.cur)).vm.findClass _ = some m.cls from hown) (ww hw 56 rfl) Via.refl eT F_pos (pc := 63) (hb hby d14_63) ?_   -- "java/io/ByteArrayInputStream" "pos" "I"
  intro T X eT
  refine Owl.iloadN X hx (pc := 66) (hb hby d14_66) rfl ?_
  refine Owl.iadd X hx (pc := 67) (hb hby d14_67) ?_
  refine Owl.putfield X hx (show Z.Warmed39 (s.setCell a (cell.withEntry s.cur)).vm from hZ) (show (s.setCell a (cell.withEntry s.cur)).vm.findClass _ = some m.cls from hown) (ww hw 56 rfl) Via.refl eT F_pos A (Or.inl (ww hw 57 rfl)) (ww hw 35 rfl) (ty := .int) (by decide) rfl rfl (pc := 68) (hb hby d14_68) ?_
  intro T h3 X eT W3
  have O := O.other W3 (Ne.symm hao)
  refine Owl.iloadN X hx (pc := 71) (hb hby d14_71) rfl ?_
  refine Owl.ireturn X hx hcell hent hlk hret (hb hby d14_72) (by decide) (by decide) (fun V M FE => ?_)
  rw [eT] at M
  have hL : ∀ y ∈ (([] ++ L2) ++ [(⟨a, RoadKit.slotOf Z "java/io/ByteArrayInputStream" "pos" "I"⟩ : Loc)]), y.base ∈ [a, o] ∨ s.heap.size ≤ y.base := fun y hy => by
    rcases List.mem_append.mp hy with hy | hy
    · rcases F2.2 y (by simpa using hy) with q | q
      · exact Or.inl (by simp at q; rw [q]; simp)
      · exact Or.inr (Nat.le_trans (Nat.le_of_eq (by rw [hh0, ← M0.size])) q)
    · simp at hy; rw [hy]; simp
  have Kp := Owl.endKeep (ws := [a, o]) FE hL
  rw [hh0] at Kp hL
  exact ⟨rfl, ⟨Kp, hL⟩, Owl.monAL O M⟩
set_option maxRecDepth 65536 in
set_option maxHeartbeats 4000000 in
theorem c_read30 (l : Launch) (Z : State) (a0 : Array Value) (hw : ∀ d ∈ tables_1, d.before a0 Z = true) (h0 : Heap) (a o t nb : Addr) (kt ko : ClassId) (b0 b1 b2 : Int32) (hao : a ≠ o) (hfit : ∀ v ∈ ([.int b0, .int b1, .int b2] : List Value), fits .byte v = true) (A : Exa Z h0 a "com/example/eunomia/eunomia/xml/NamedStream") (F_mark : Fld Z h0 a "java/io/ByteArrayInputStream" "mark" "I" (.int 0)) (F_buf : Fld Z h0 a "java/io/ByteArrayInputStream" "buf" "[B" (.ref t)) (F_pos : Fld Z h0 a "java/io/ByteArrayInputStream" "pos" "I" (.int 0)) (F_count : Fld Z h0 a "java/io/ByteArrayInputStream" "count" "I" (.int 3)) (F_name : Fld Z h0 a "com/example/eunomia/eunomia/xml/NamedStream" "name" "Ljava/lang/String;" (.null)) (B : Ow.AL Z h0 t kt .byte [.int b0, .int b1, .int b2]) (O : Ow.AL Z h0 o ko .byte [.int 0, .int 0, .int 0, .int 0]) : Owl.SPay l Z (⟨"java/io/ByteArrayInputStream", "read", "([BII)I"⟩ : MethodName) jdk_2004_method_4_code 5 (some .int) ({ frames := 2, cells := 0, slots := 0, locals := 60 } : Room) #[(.ref a), (.ref o), (.int 0), (.int 4)] a h0 (fun v h L => v = some (.int (3)) ∧ Ow.Eff h0 h [a, o] L ∧ Ow.AL Z h o ko .byte [.int b0, .int b1, .int b2, .int 0]) := by
  refine Owl.SPay.of (Ls := #[.val (.ref a), .val (.ref o), .val (.int 0), .val (.int 4), .unset]) (plainFor_of_name pn2) rfl (fun m => by first | rfl | (simp [entryFrameSync, entryFrame, mkL, argsToLocals, Value.category]; done)) ?_
  intro p e s m below meth c cell T hx hby hml hown hZ hret hlk hh0 hcell hent X M0
  obtain ⟨h1, eT⟩ : ∃ q, T.heap = q := ⟨_, rfl⟩
  rw [eT] at M0
  have O0 := O
  have A := A.mon M0
  have F_mark := F_mark.mon M0
  have F_buf := F_buf.mon M0
  have F_pos := F_pos.mon M0
  have F_count := F_count.mon M0
  have F_name := F_name.mon M0
  have B := Owl.monAL B M0
  have O := Owl.monAL O M0
  have sn_mark_pos : RoadKit.slotOf Z "java/io/ByteArrayInputStream" "mark" "I" ≠ RoadKit.slotOf Z "java/io/ByteArrayInputStream" "pos" "I" := slot_ne (a0 := a0) (C := "com/example/eunomia/eunomia/xml/NamedStream") (Or.inl (ww hw 53 rfl)) (Or.inl (ww hw 57 rfl)) (by decide) (t := .int) (t' := .int) (by decide) (by decide)
  have sn_buf_pos : RoadKit.slotOf Z "java/io/ByteArrayInputStream" "buf" "[B" ≠ RoadKit.slotOf Z "java/io/ByteArrayInputStream" "pos" "I" := slot_ne (a0 := a0) (C := "com/example/eunomia/eunomia/xml/NamedStream") (Or.inl (ww hw 55 rfl)) (Or.inl (ww hw 57 rfl)) (by decide) (t := (.array .byte)) (t' := .int) (by decide) (by decide)
  have sn_pos_count : RoadKit.slotOf Z "java/io/ByteArrayInputStream" "pos" "I" ≠ RoadKit.slotOf Z "java/io/ByteArrayInputStream" "count" "I" := slot_ne (a0 := a0) (C := "com/example/eunomia/eunomia/xml/NamedStream") (Or.inl (ww hw 57 rfl)) (Or.inl (ww hw 59 rfl)) (by decide) (t := .int) (t' := .int) (by decide) (by decide)
  have sn_pos_name : RoadKit.slotOf Z "java/io/ByteArrayInputStream" "pos" "I" ≠ RoadKit.slotOf Z "com/example/eunomia/eunomia/xml/NamedStream" "name" "Ljava/lang/String;" := slot_ne (a0 := a0) (C := "com/example/eunomia/eunomia/xml/NamedStream") (Or.inl (ww hw 57 rfl)) (Or.inr (ww hw 61 rfl)) (by decide) (t := .int) (t' := (.object "java/lang/String")) (by decide) (by decide)
  refine Owl.iloadN X hx (pc := 0) (hb hby d14_0) rfl ?_
  refine Owl.iloadN X hx (pc := 1) (hb hby d14_1) rfl ?_
  refine Owl.aloadN X hx (pc := 2) (hb hby d14_2) rfl rfl ?_
  refine Owl.lengthL X hx (show Z.Warmed39 (s.setCell a (cell.withEntry s.cur)).vm from hZ) eT O 4 rfl (pc := 3) (hb hby d14_3) ?_
  refine Owl.callSP X hx (show Z.Warmed39 (s.setCell a (cell.withEntry s.cur)).vm from hZ) (c_ocfis l Z a0 hw _) rfl rfl eT (show (s.setCell a (cell.withEntry s.cur)).vm.findClass _ = some m.cls from hown) (ww hw 94 rfl) (ww hw 95 rfl) (ww hw 96 rfl) (ww hw 97 rfl) (by decide) pd5 (by rw [hml]; rfl) (argsL := [_, _, _]) rfl rfl rfl (pc := 4) (hb hby d14_4) rfl rfl (by decide) (by decide) ?_   -- java/util/Objects.checkFromIndexSize:(III)I
  intro T X eT
  dsimp only [Option.toList_some, Option.toList_none, List.cons_append, List.nil_append]
  refine Owl.pop X hx (pc := 7) (hb hby d14_7) rfl ?_
  refine Owl.aloadN X hx (pc := 8) (hb hby d14_8) rfl rfl ?_
  refine Owl.getfield X hx (show Z.Warmed39 (s.setCell a (cell.withEntry s.cur)).vm from hZ) (show (s.setCell a (cell.withEntry s.cur)).vm.findClass _ = some m.cls from hown) (ww hw 56 rfl) Via.refl eT F_pos (pc := 9) (hb hby d14_9) ?_   -- "java/io/ByteArrayInputStream" "pos" "I"
  intro T X eT
  refine Owl.aloadN X hx (pc := 12) (hb hby d14_12) rfl rfl ?_
  refine Owl.getfield X hx (show Z.Warmed39 (s.setCell a (cell.withEntry s.cur)).vm from hZ) (show (s.setCell a (cell.withEntry s.cur)).vm.findClass _ = some m.cls from hown) (ww hw 58 rfl) Via.refl eT F_count (pc := 13) (hb hby d14_13) ?_   -- "java/io/ByteArrayInputStream" "count" "I"
  intro T X eT
  refine Owl.icmp_lt X hx (pc := 16) (pc' := 21) (hb hby d14_16) (by decide) (by decide) (fun _ => ?_) (fun q => absurd (by decide) q)
  refine Owl.aloadN X hx (pc := 21) (hb hby d14_21) rfl rfl ?_
  refine Owl.getfield X hx (show Z.Warmed39 (s.setCell a (cell.withEntry s.cur)).vm from hZ) (show (s.setCell a (cell.withEntry s.cur)).vm.findClass _ = some m.cls from hown) (ww hw 58 rfl) Via.refl eT F_count (pc := 22) (hb hby d14_22) ?_   -- "java/io/ByteArrayInputStream" "count" "I"
  intro T X eT
  refine Owl.aloadN X hx (pc := 25) (hb hby d14_25) rfl rfl ?_
  refine Owl.getfield X hx (show Z.Warmed39 (s.setCell a (cell.withEntry s.cur)).vm from hZ) (show (s.setCell a (cell.withEntry s.cur)).vm.findClass _ = some m.cls from hown) (ww hw 56 rfl) Via.refl eT F_pos (pc := 26) (hb hby d14_26) ?_   -- "java/io/ByteArrayInputStream" "pos" "I"
  intro T X eT
  refine Owl.isub X hx (pc := 29) (hb hby d14_29) ?_
  refine Owl.istore X hx (pc := 30) #[_, _, _, _, _] (hb hby d14_30) rfl ?_
  refine Owl.iloadN X hx (pc := 32) (hb hby d14_32) rfl ?_
  refine Owl.iload X hx (pc := 33) (hb hby d14_33) rfl ?_
  refine Owl.icmp_le X hx (pc := 35) (pc' := 41) (hb hby d14_35) (by decide) (by decide) (fun q => absurd (by decide) q) (fun _ => ?_)
  refine Owl.iload X hx (pc := 38) (hb hby d14_38) rfl ?_
  refine Owl.istoreN X hx (pc := 40) #[_, _, _, _, _] (hb hby d14_40) rfl ?_
  refine Owl.iloadN X hx (pc := 41) (hb hby d14_41) rfl ?_
  refine Owl.if_gt X hx (pc := 42) (pc' := 47) (hb hby d14_42) (by decide) (by decide) (fun _ => ?_) (fun q => absurd (by decide) q)
  refine Owl.aloadN X hx (pc := 47) (hb hby d14_47) rfl rfl ?_
  refine Owl.getfield X hx (show Z.Warmed39 (s.setCell a (cell.withEntry s.cur)).vm from hZ) (show (s.setCell a (cell.withEntry s.cur)).vm.findClass _ = some m.cls from hown) (ww hw 54 rfl) Via.refl eT F_buf (pc := 48) (hb hby d14_48) ?_   -- "java/io/ByteArrayInputStream" "buf" "[B"
  intro T X eT
  refine Owl.aloadN X hx (pc := 51) (hb hby d14_51) rfl rfl ?_
  refine Owl.getfield X hx (show Z.Warmed39 (s.setCell a (cell.withEntry s.cur)).vm from hZ) (show (s.setCell a (cell.withEntry s.cur)).vm.findClass _ = some m.cls from hown) (ww hw 56 rfl) Via.refl eT F_pos (pc := 52) (hb hby d14_52) ?_   -- "java/io/ByteArrayInputStream" "pos" "I"
  intro T X eT
  refine Owl.aloadN X hx (pc := 55) (hb hby d14_55) rfl rfl ?_
  refine Owl.iloadN X hx (pc := 56) (hb hby d14_56) rfl ?_
  refine Owl.iloadN X hx (pc := 57) (hb hby d14_57) rfl ?_
  refine Owl.arraycopyB X hx (show Z.Warmed39 (s.setCell a (cell.withEntry s.cur)).vm from hZ) eT (show (s.setCell a (cell.withEntry s.cur)).vm.findClass _ = some m.cls from hown) (ww hw 108 rfl) (ww hw 111 rfl) (ww hw 109 rfl) (ww hw 110 rfl) B O hfit 0 0 3 (by simp) (by simp) (by simp) (by simp) [.int b0, .int b1, .int b2, .int 0] rfl (by rw [hml]; rfl) (pc := 58) (hb hby d14_58) rfl rfl ?_
  intro T h2 L2 X eT F2 O
  have A := A.keep F2.1
  have F_mark := F_mark.keep F2.1 (Ow.nin1 hao)
  have F_buf := F_buf.keep F2.1 (Ow.nin1 hao)
  have F_pos := F_pos.keep F2.1 (Ow.nin1 hao)
  have F_count := F_count.keep F2.1 (Ow.nin1 hao)
  have F_name := F_name.keep F2.1 (Ow.nin1 hao)
  refine Owl.aloadN X hx (pc := 61) (hb hby d14_61) rfl rfl ?_
  refine Owl.dup X hx (pc := 62) (hb hby d14_62) rfl ?_
  refine Owl.getfield X hx (show Z.Warmed39 (s.setCell a (cell.withEntry s.cur)).vm from hZ) (show (s.setCell a (cell.withEntry s.cur)).vm.findClass _ = some m.cls from hown) (ww hw 56 rfl) Via.refl eT F_pos (pc := 63) (hb hby d14_63) ?_   -- "java/io/ByteArrayInputStream" "pos" "I"
  intro T X eT
  refine Owl.iloadN X hx (pc := 66) (hb hby d14_66) rfl ?_
  refine Owl.iadd X hx (pc := 67) (hb hby d14_67) ?_
  refine Owl.putfield X hx (show Z.Warmed39 (s.setCell a (cell.withEntry s.cur)).vm from hZ) (show (s.setCell a (cell.withEntry s.cur)).vm.findClass _ = some m.cls from hown) (ww hw 56 rfl) Via.refl eT F_pos A (Or.inl (ww hw 57 rfl)) (ww hw 35 rfl) (ty := .int) (by decide) rfl rfl (pc := 68) (hb hby d14_68) ?_
  intro T h3 X eT W3
  have O := O.other W3 (Ne.symm hao)
  refine Owl.iloadN X hx (pc := 71) (hb hby d14_71) rfl ?_
  refine Owl.ireturn X hx hcell hent hlk hret (hb hby d14_72) (by decide) (by decide) (fun V M FE => ?_)
  rw [eT] at M
  have hL : ∀ y ∈ (([] ++ L2) ++ [(⟨a, RoadKit.slotOf Z "java/io/ByteArrayInputStream" "pos" "I"⟩ : Loc)]), y.base ∈ [a, o] ∨ s.heap.size ≤ y.base := fun y hy => by
    rcases List.mem_append.mp hy with hy | hy
    · rcases F2.2 y (by simpa using hy) with q | q
      · exact Or.inl (by simp at q; rw [q]; simp)
      · exact Or.inr (Nat.le_trans (Nat.le_of_eq (by rw [hh0, ← M0.size])) q)
    · simp at hy; rw [hy]; simp
  have Kp := Owl.endKeep (ws := [a, o]) FE hL
  rw [hh0] at Kp hL
  exact ⟨rfl, ⟨Kp, hL⟩, Owl.monAL O M⟩
set_option maxRecDepth 65536 in
set_option maxHeartbeats 4000000 in
theorem c_read31 (l : Launch) (Z : State) (a0 : Array Value) (hw : ∀ d ∈ tables_1, d.before a0 Z = true) (h0 : Heap) (a o t nb : Addr) (kt ko : ClassId) (b0 b1 b2 : Int32) (hao : a ≠ o) (hfit : ∀ v ∈ ([.int b0, .int b1, .int b2] : List Value), fits .byte v = true) (A : Exa Z h0 a "com/example/eunomia/eunomia/xml/NamedStream") (F_mark : Fld Z h0 a "java/io/ByteArrayInputStream" "mark" "I" (.int 0)) (F_buf : Fld Z h0 a "java/io/ByteArrayInputStream" "buf" "[B" (.ref t)) (F_pos : Fld Z h0 a "java/io/ByteArrayInputStream" "pos" "I" (.int 0)) (F_count : Fld Z h0 a "java/io/ByteArrayInputStream" "count" "I" (.int 3)) (F_name : Fld Z h0 a "com/example/eunomia/eunomia/xml/NamedStream" "name" "Ljava/lang/String;" (.ref nb)) (B : Ow.AL Z h0 t kt .byte [.int b0, .int b1, .int b2]) (O : Ow.AL Z h0 o ko .byte [.int 0, .int 0, .int 0, .int 0]) : Owl.SPay l Z (⟨"java/io/ByteArrayInputStream", "read", "([BII)I"⟩ : MethodName) jdk_2004_method_4_code 5 (some .int) ({ frames := 2, cells := 0, slots := 0, locals := 60 } : Room) #[(.ref a), (.ref o), (.int 0), (.int 4)] a h0 (fun v h L => v = some (.int (3)) ∧ Ow.Eff h0 h [a, o] L ∧ Ow.AL Z h o ko .byte [.int b0, .int b1, .int b2, .int 0]) := by
  refine Owl.SPay.of (Ls := #[.val (.ref a), .val (.ref o), .val (.int 0), .val (.int 4), .unset]) (plainFor_of_name pn2) rfl (fun m => by first | rfl | (simp [entryFrameSync, entryFrame, mkL, argsToLocals, Value.category]; done)) ?_
  intro p e s m below meth c cell T hx hby hml hown hZ hret hlk hh0 hcell hent X M0
  obtain ⟨h1, eT⟩ : ∃ q, T.heap = q := ⟨_, rfl⟩
  rw [eT] at M0
  have O0 := O
  have A := A.mon M0
  have F_mark := F_mark.mon M0
  have F_buf := F_buf.mon M0
  have F_pos := F_pos.mon M0
  have F_count := F_count.mon M0
  have F_name := F_name.mon M0
  have B := Owl.monAL B M0
  have O := Owl.monAL O M0
  have sn_mark_pos : RoadKit.slotOf Z "java/io/ByteArrayInputStream" "mark" "I" ≠ RoadKit.slotOf Z "java/io/ByteArrayInputStream" "pos" "I" := slot_ne (a0 := a0) (C := "com/example/eunomia/eunomia/xml/NamedStream") (Or.inl (ww hw 53 rfl)) (Or.inl (ww hw 57 rfl)) (by decide) (t := .int) (t' := .int) (by decide) (by decide)
  have sn_buf_pos : RoadKit.slotOf Z "java/io/ByteArrayInputStream" "buf" "[B" ≠ RoadKit.slotOf Z "java/io/ByteArrayInputStream" "pos" "I" := slot_ne (a0 := a0) (C := "com/example/eunomia/eunomia/xml/NamedStream") (Or.inl (ww hw 55 rfl)) (Or.inl (ww hw 57 rfl)) (by decide) (t := (.array .byte)) (t' := .int) (by decide) (by decide)
  have sn_pos_count : RoadKit.slotOf Z "java/io/ByteArrayInputStream" "pos" "I" ≠ RoadKit.slotOf Z "java/io/ByteArrayInputStream" "count" "I" := slot_ne (a0 := a0) (C := "com/example/eunomia/eunomia/xml/NamedStream") (Or.inl (ww hw 57 rfl)) (Or.inl (ww hw 59 rfl)) (by decide) (t := .int) (t' := .int) (by decide) (by decide)
  have sn_pos_name : RoadKit.slotOf Z "java/io/ByteArrayInputStream" "pos" "I" ≠ RoadKit.slotOf Z "com/example/eunomia/eunomia/xml/NamedStream" "name" "Ljava/lang/String;" := slot_ne (a0 := a0) (C := "com/example/eunomia/eunomia/xml/NamedStream") (Or.inl (ww hw 57 rfl)) (Or.inr (ww hw 61 rfl)) (by decide) (t := .int) (t' := (.object "java/lang/String")) (by decide) (by decide)
  refine Owl.iloadN X hx (pc := 0) (hb hby d14_0) rfl ?_
  refine Owl.iloadN X hx (pc := 1) (hb hby d14_1) rfl ?_
  refine Owl.aloadN X hx (pc := 2) (hb hby d14_2) rfl rfl ?_
  refine Owl.lengthL X hx (show Z.Warmed39 (s.setCell a (cell.withEntry s.cur)).vm from hZ) eT O 4 rfl (pc := 3) (hb hby d14_3) ?_
  refine Owl.callSP X hx (show Z.Warmed39 (s.setCell a (cell.withEntry s.cur)).vm from hZ) (c_ocfis l Z a0 hw _) rfl rfl eT (show (s.setCell a (cell.withEntry s.cur)).vm.findClass _ = some m.cls from hown) (ww hw 94 rfl) (ww hw 95 rfl) (ww hw 96 rfl) (ww hw 97 rfl) (by decide) pd5 (by rw [hml]; rfl) (argsL := [_, _, _]) rfl rfl rfl (pc := 4) (hb hby d14_4) rfl rfl (by decide) (by decide) ?_   -- java/util/Objects.checkFromIndexSize:(III)I
  intro T X eT
  dsimp only [Option.toList_some, Option.toList_none, List.cons_append, List.nil_append]
  refine Owl.pop X hx (pc := 7) (hb hby d14_7) rfl ?_
  refine Owl.aloadN X hx (pc := 8) (hb hby d14_8) rfl rfl ?_
  refine Owl.getfield X hx (show Z.Warmed39 (s.setCell a (cell.withEntry s.cur)).vm from hZ) (show (s.setCell a (cell.withEntry s.cur)).vm.findClass _ = some m.cls from hown) (ww hw 56 rfl) Via.refl eT F_pos (pc := 9) (hb hby d14_9) ?_   -- "java/io/ByteArrayInputStream" "pos" "I"
  intro T X eT
  refine Owl.aloadN X hx (pc := 12) (hb hby d14_12) rfl rfl ?_
  refine Owl.getfield X hx (show Z.Warmed39 (s.setCell a (cell.withEntry s.cur)).vm from hZ) (show (s.setCell a (cell.withEntry s.cur)).vm.findClass _ = some m.cls from hown) (ww hw 58 rfl) Via.refl eT F_count (pc := 13) (hb hby d14_13) ?_   -- "java/io/ByteArrayInputStream" "count" "I"
  intro T X eT
  refine Owl.icmp_lt X hx (pc := 16) (pc' := 21) (hb hby d14_16) (by decide) (by decide) (fun _ => ?_) (fun q => absurd (by decide) q)
  refine Owl.aloadN X hx (pc := 21) (hb hby d14_21) rfl rfl ?_
  refine Owl.getfield X hx (show Z.Warmed39 (s.setCell a (cell.withEntry s.cur)).vm from hZ) (show (s.setCell a (cell.withEntry s.cur)).vm.findClass _ = some m.cls from hown) (ww hw 58 rfl) Via.refl eT F_count (pc := 22) (hb hby d14_22) ?_   -- "java/io/ByteArrayInputStream" "count" "I"
  intro T X eT
  refine Owl.aloadN X hx (pc := 25) (hb hby d14_25) rfl rfl ?_
  refine Owl.getfield X hx (show Z.Warmed39 (s.setCell a (cell.withEntry s.cur)).vm from hZ) (show (s.setCell a (cell.withEntry s.cur)).vm.findClass _ = some m.cls from hown) (ww hw 56 rfl) Via.refl eT F_pos (pc := 26) (hb hby d14_26) ?_   -- "java/io/ByteArrayInputStream" "pos" "I"
  intro T X eT
  refine Owl.isub X hx (pc := 29) (hb hby d14_29) ?_
  refine Owl.istore X hx (pc := 30) #[_, _, _, _, _] (hb hby d14_30) rfl ?_
  refine Owl.iloadN X hx (pc := 32) (hb hby d14_32) rfl ?_
  refine Owl.iload X hx (pc := 33) (hb hby d14_33) rfl ?_
  refine Owl.icmp_le X hx (pc := 35) (pc' := 41) (hb hby d14_35) (by decide) (by decide) (fun q => absurd (by decide) q) (fun _ => ?_)
  refine Owl.iload X hx (pc := 38) (hb hby d14_38) rfl ?_
  refine Owl.istoreN X hx (pc := 40) #[_, _, _, _, _] (hb hby d14_40) rfl ?_
  refine Owl.iloadN X hx (pc := 41) (hb hby d14_41) rfl ?_
  refine Owl.if_gt X hx (pc := 42) (pc' := 47) (hb hby d14_42) (by decide) (by decide) (fun _ => ?_) (fun q => absurd (by decide) q)
  refine Owl.aloadN X hx (pc := 47) (hb hby d14_47) rfl rfl ?_
  refine Owl.getfield X hx (show Z.Warmed39 (s.setCell a (cell.withEntry s.cur)).vm from hZ) (show (s.setCell a (cell.withEntry s.cur)).vm.findClass _ = some m.cls from hown) (ww hw 54 rfl) Via.refl eT F_buf (pc := 48) (hb hby d14_48) ?_   -- "java/io/ByteArrayInputStream" "buf" "[B"
  intro T X eT
  refine Owl.aloadN X hx (pc := 51) (hb hby d14_51) rfl rfl ?_
  refine Owl.getfield X hx (show Z.Warmed39 (s.setCell a (cell.withEntry s.cur)).vm from hZ) (show (s.setCell a (cell.withEntry s.cur)).vm.findClass _ = some m.cls from hown) (ww hw 56 rfl) Via.refl eT F_pos (pc := 52) (hb hby d14_52) ?_   -- "java/io/ByteArrayInputStream" "pos" "I"
  intro T X eT
  refine Owl.aloadN X hx (pc := 55) (hb hby d14_55) rfl rfl ?_
  refine Owl.iloadN X hx (pc := 56) (hb hby d14_56) rfl ?_
  refine Owl.iloadN X hx (pc := 57) (hb hby d14_57) rfl ?_
  refine Owl.arraycopyB X hx (show Z.Warmed39 (s.setCell a (cell.withEntry s.cur)).vm from hZ) eT (show (s.setCell a (cell.withEntry s.cur)).vm.findClass _ = some m.cls from hown) (ww hw 108 rfl) (ww hw 111 rfl) (ww hw 109 rfl) (ww hw 110 rfl) B O hfit 0 0 3 (by simp) (by simp) (by simp) (by simp) [.int b0, .int b1, .int b2, .int 0] rfl (by rw [hml]; rfl) (pc := 58) (hb hby d14_58) rfl rfl ?_
  intro T h2 L2 X eT F2 O
  have A := A.keep F2.1
  have F_mark := F_mark.keep F2.1 (Ow.nin1 hao)
  have F_buf := F_buf.keep F2.1 (Ow.nin1 hao)
  have F_pos := F_pos.keep F2.1 (Ow.nin1 hao)
  have F_count := F_count.keep F2.1 (Ow.nin1 hao)
  have F_name := F_name.keep F2.1 (Ow.nin1 hao)
  refine Owl.aloadN X hx (pc := 61) (hb hby d14_61) rfl rfl ?_
  refine Owl.dup X hx (pc := 62) (hb hby d14_62) rfl ?_
  refine Owl.getfield X hx (show Z.Warmed39 (s.setCell a (cell.withEntry s.cur)).vm from hZ) (show (s.setCell a (cell.withEntry s.cur)).vm.findClass _ = some m.cls from hown) (ww hw 56 rfl) Via.refl eT F_pos (pc := 63) (hb hby d14_63) ?_   -- "java/io/ByteArrayInputStream" "pos" "I"
  intro T X eT
  refine Owl.iloadN X hx (pc := 66) (hb hby d14_66) rfl ?_
  refine Owl.iadd X hx (pc := 67) (hb hby d14_67) ?_
  refine Owl.putfield X hx (show Z.Warmed39 (s.setCell a (cell.withEntry s.cur)).vm from hZ) (show (s.setCell a (cell.withEntry s.cur)).vm.findClass _ = some m.cls from hown) (ww hw 56 rfl) Via.refl eT F_pos A (Or.inl (ww hw 57 rfl)) (ww hw 35 rfl) (ty := .int) (by decide) rfl rfl (pc := 68) (hb hby d14_68) ?_
  intro T h3 X eT W3
  have O := O.other W3 (Ne.symm hao)
  refine Owl.iloadN X hx (pc := 71) (hb hby d14_71) rfl ?_
  refine Owl.ireturn X hx hcell hent hlk hret (hb hby d14_72) (by decide) (by decide) (fun V M FE => ?_)
  rw [eT] at M
  have hL : ∀ y ∈ (([] ++ L2) ++ [(⟨a, RoadKit.slotOf Z "java/io/ByteArrayInputStream" "pos" "I"⟩ : Loc)]), y.base ∈ [a, o] ∨ s.heap.size ≤ y.base := fun y hy => by
    rcases List.mem_append.mp hy with hy | hy
    · rcases F2.2 y (by simpa using hy) with q | q
      · exact Or.inl (by simp at q; rw [q]; simp)
      · exact Or.inr (Nat.le_trans (Nat.le_of_eq (by rw [hh0, ← M0.size])) q)
    · simp at hy; rw [hy]; simp
  have Kp := Owl.endKeep (ws := [a, o]) FE hL
  rw [hh0] at Kp hL
  exact ⟨rfl, ⟨Kp, hL⟩, Owl.monAL O M⟩
theorem own_and31 (x : Int32) : 0 ≤ (x &&& 2147483647).toInt := by
  rw [Int32.toInt]
  have hm : (x &&& 2147483647).toBitVec.msb = false := by
    rw [Int32.toBitVec_and, BitVec.msb_and, show (2147483647 : Int32).toBitVec.msb = false from by decide, Bool.and_false]
  rw [BitVec.toInt_eq_msb_cond, hm]; simp
theorem own_rem (x m : Int32) (hm : 0 < m.toInt) : ∃ j : Nat, (j : Int) < m.toInt ∧ (x &&& 2147483647) % m = Int32.ofNat j := by
  have h1 := own_and31 x
  have h2 : ((x &&& 2147483647) % m).toInt = (x &&& 2147483647).toInt.tmod m.toInt := Int32.toInt_mod ..
  have h3 : (x &&& 2147483647).toInt.tmod m.toInt = (x &&& 2147483647).toInt % m.toInt := Int.tmod_eq_emod_of_nonneg h1
  have h4 := Int.emod_nonneg (x &&& 2147483647).toInt (show m.toInt ≠ 0 by omega)
  have h5 := Int.emod_lt_of_pos (x &&& 2147483647).toInt hm
  have h6 := Int32.toInt_lt m
  refine ⟨((x &&& 2147483647).toInt % m.toInt).toNat, by omega, Int32.toInt_inj.mp ?_⟩
  rw [Int32.toInt_ofNat_of_lt (by omega), h2, h3]; omega
theorem own_fitB (x : Int32) : fits .byte (.int x.toInt8.toInt32) = true := by
  have h1 := x.toInt8.le_toInt
  have h2 := x.toInt8.toInt_lt
  simp only [fits, Bool.and_eq_true, decide_eq_true_eq, Int32.le_iff_toInt_le, Int8.toInt_toInt32, show (-128 : Int32).toInt = -128 from by decide, show (127 : Int32).toInt = 127 from by decide]
  omega
set_option maxRecDepth 65536 in
set_option maxHeartbeats 40000000 in
theorem law_00 (l : Launch) (Z : State) (a0 : Array Value) (hw : ∀ d ∈ tables_1, d.before a0 Z = true) (h0 : Heap) (z p0 p1 p2 p3 : Int32) (S : Sta Z h0 "java/lang/String" "COMPACT_STRINGS" "Z" (.int z)) (hz : ¬ z = 0) (hn3 : p0 &&& 3 = 0) (h10 : ¬ (p0 >>> ((2 : Int32) &&& 31)) &&& 1 = 0) : Ow.Pay l Z x code maxLocals ret room_1 #[(.int p0), (.int p1), (.int p2), (.int p3)] h0 (fun v h L => v = some (.int 1) ∧ Ow.Eff h0 h [] L) := by
  refine Ow.Pay.of (Ls := #[.val (.int p0), .val (.int p1), .val (.int p2), .val (.int p3), .unset, .unset, .unset, .unset, .unset, .unset, .unset, .unset, .unset, .unset, .unset, .unset, .unset, .unset, .unset, .unset, .unset, .unset, .unset, .unset, .unset]) (plainFor_of_name pn0) (fun m => by first | (simp [entryFrame, mkF, argsToLocals, Value.category, maxLocals]; done) | rfl) ?_
  intro p e s m below meth c T hx hby hml hown hnm hme hZ hret hlk X eT
  obtain ⟨ka, hka⟩ := own_mask8 p3
  obtain ⟨kc, hkc⟩ := own_mask8 (p3 >>> ((8 : Int32) &&& 31))
  obtain ⟨b0, hb0⟩ : ∃ q, q = p1.toInt8.toInt32 := ⟨_, rfl⟩
  obtain ⟨b1, hb1⟩ : ∃ q, q = (p1 >>> ((8 : Int32) &&& 31)).toInt8.toInt32 := ⟨_, rfl⟩
  obtain ⟨b2, hb2⟩ : ∃ q, q = (p1 >>> ((16 : Int32) &&& 31)).toInt8.toInt32 := ⟨_, rfl⟩
  have H8 : ∀ c ∈ [Int32.ofNat ka.val, Int32.ofNat kc.val], ∃ k : Fin 256, c = Int32.ofNat k.val := fun c hc => by
    simp only [List.mem_cons, List.not_mem_nil, or_false] at hc
    rcases hc with rfl | rfl
    · exact ⟨ka, rfl⟩
    · exact ⟨kc, rfl⟩
  have HF0 : ∀ v ∈ ([] : List Value), fits .byte v = true := fun v hv => by
    cases hv
  have F := Ow.Eff.refl h0 []
  refine Ow.iloadN X hx (pc := 0) (hb hby at_0) rfl ?_
  refine Ow.iconst X hx (pc := 1) (3) (hb hby at_1) (by decide) ?_
  refine Ow.iand X hx (pc := 2) (hb hby at_2) ?_
  rw [hn3]
  refine Ow.istore X hx (pc := 3) #[_, _, _, _, _, _, _, _, _, _, _, _, _, _, _, _, _, _, _, _, _, _, _, _, _] (hb hby at_3) rfl ?_
  refine Ow.iloadN X hx (pc := 5) (hb hby at_5) rfl ?_
  refine Ow.iconst X hx (pc := 6) (2) (hb hby at_6) (by decide) ?_
  refine Ow.ishr X hx (pc := 7) (hb hby at_7) ?_
  refine Ow.iconst X hx (pc := 8) (1) (hb hby at_8) (by decide) ?_
  refine Ow.iand X hx (pc := 9) (hb hby at_9) ?_
  refine Ow.if_eq X hx (pc := 10) (pc' := 17) (hb hby at_10) (by decide) (by decide) (fun q => absurd q h10) (fun _ => ?_)
  refine Ow.iconst X hx (pc := 13) (1) (hb hby at_13) (by decide) ?_
  refine Ow.goto X hx (pc := 14) (pc' := 18) (hb hby at_14) (by decide) (by decide) ?_
  refine Ow.istore X hx (pc := 18) #[_, _, _, _, _, _, _, _, _, _, _, _, _, _, _, _, _, _, _, _, _, _, _, _, _] (hb hby at_18) rfl ?_
  refine Ow.iloadN X hx (pc := 20) (hb hby at_20) rfl ?_
  refine Ow.i2b X hx (pc := 21) (hb hby at_21) ?_
  rw [← hb0]
  refine Ow.istore X hx (pc := 22) #[_, _, _, _, _, _, _, _, _, _, _, _, _, _, _, _, _, _, _, _, _, _, _, _, _] (hb hby at_22) rfl ?_
  refine Ow.iloadN X hx (pc := 24) (hb hby at_24) rfl ?_
  refine Ow.bipush X hx (pc := 25) (8) (hb hby at_25) (by decide) ?_
  refine Ow.ishr X hx (pc := 27) (hb hby at_27) ?_
  refine Ow.i2b X hx (pc := 28) (hb hby at_28) ?_
  rw [← hb1]
  refine Ow.istore X hx (pc := 29) #[_, _, _, _, _, _, _, _, _, _, _, _, _, _, _, _, _, _, _, _, _, _, _, _, _] (hb hby at_29) rfl ?_
  refine Ow.iloadN X hx (pc := 31) (hb hby at_31) rfl ?_
  refine Ow.bipush X hx (pc := 32) (16) (hb hby at_32) (by decide) ?_
  refine Ow.ishr X hx (pc := 34) (hb hby at_34) ?_
  refine Ow.i2b X hx (pc := 35) (hb hby at_35) ?_
  rw [← hb2]
  refine Ow.istore X hx (pc := 36) #[_, _, _, _, _, _, _, _, _, _, _, _, _, _, _, _, _, _, _, _, _, _, _, _, _] (hb hby at_36) rfl ?_
  refine Ow.iload X hx (pc := 38) (hb hby at_38) rfl ?_
  refine Ow.iload X hx (pc := 40) (hb hby at_40) rfl ?_
  refine Ow.iload X hx (pc := 42) (hb hby at_42) rfl ?_
  refine Ow.iload X hx (pc := 44) (hb hby at_44) rfl ?_
  refine Ow.callS X hx hZ (c_make0 l Z a0 hw _ b0 b1 b2 (hb0 ▸ own_nb _) (hb1 ▸ own_nb _) (hb2 ▸ own_nb _)) eT hown (ww hw 0 rfl) (ww hw 1 rfl) (ww hw 2 rfl) (ww hw 3 rfl) (by decide) pd6 (by rw [hml]; rfl) (argsL := [_, _, _, _]) rfl rfl rfl (pc := 46) (hb hby at_46) rfl rfl (by decide) (by decide) ?_
  rintro _ T L X ⟨t, kt, rfl, F2, l_t, B_t⟩
  dsimp only [Option.toList_some, Option.toList_none, List.cons_append, List.nil_append]
  have l_t := Nat.le_trans F.size l_t
  have F := F.call F2 (fun _ q => nomatch q)
  have S := S.ext (Ow.Keep.ext0 F2.1)
  obtain ⟨h_46, e_46⟩ : ∃ q, q = T.heap := ⟨_, rfl⟩
  rw [← e_46] at F S B_t
  have eT : T.heap = h_46 := e_46.symm
  refine Ow.astore X hx (pc := 49) #[_, _, _, _, _, _, _, _, _, _, _, _, _, _, _, _, _, _, _, _, _, _, _, _, _] (hb hby at_49) rfl rfl ?_
  refine Ow.iconst X hx (pc := 51) (2) (hb hby at_51) (by decide) ?_
  refine Ow.newarrayL X hx hZ (ww hw 5 rfl) eT 2 (vs := [_, _]) rfl (pc := 52) (hb hby at_52) (by decide) (by decide) (by decide) (by decide) (by decide) ?_
  intro T h_cA k_cA cA ha_cA X eT E_cA B_cA
  have l_cA : h0.size ≤ cA := by rw [ha_cA]; exact F.size
  have ne_t_cA : t ≠ cA := by rw [ha_cA]; exact Nat.ne_of_lt B_t.lt
  have S := S.ext E_cA
  have B_t := B_t.ext E_cA
  have F := F.ext E_cA
  refine Ow.astore X hx (pc := 54) #[_, _, _, _, _, _, _, _, _, _, _, _, _, _, _, _, _, _, _, _, _, _, _, _, _] (hb hby at_54) rfl rfl ?_
  refine Ow.aload X hx (pc := 56) (hb hby at_56) rfl rfl ?_
  refine Ow.iconst X hx (pc := 58) (0) (hb hby at_58) (by decide) ?_
  refine Ow.iloadN X hx (pc := 59) (hb hby at_59) rfl ?_
  refine Ow.sipush X hx (pc := 60) (255) (hb hby at_60) (by decide) ?_
  refine Ow.iand X hx (pc := 63) (hb hby at_63) ?_
  refine Ow.i2c X hx (pc := 64) (hb hby at_64) ?_
  rw [hka, (own_ch8 ka).2.2.2]
  refine Ow.castoreL X hx hZ eT B_cA 0 [_, _] (by decide) (by decide) rfl rfl (pc := 65) (hb hby at_65) ?_
  intro T h_65 X eT W_65 B_cA
  rw [(own_ch8 ka).2.2.1] at B_cA W_65
  have S := S.wr W_65
  have B_t := B_t.other W_65 ne_t_cA
  have F := F.wr W_65 (Or.inr l_cA)
  refine Ow.aload X hx (pc := 66) (hb hby at_66) rfl rfl ?_
  refine Ow.iconst X hx (pc := 68) (1) (hb hby at_68) (by decide) ?_
  refine Ow.iloadN X hx (pc := 69) (hb hby at_69) rfl ?_
  refine Ow.bipush X hx (pc := 70) (8) (hb hby at_70) (by decide) ?_
  refine Ow.ishr X hx (pc := 72) (hb hby at_72) ?_
  refine Ow.sipush X hx (pc := 73) (255) (hb hby at_73) (by decide) ?_
  refine Ow.iand X hx (pc := 76) (hb hby at_76) ?_
  refine Ow.i2c X hx (pc := 77) (hb hby at_77) ?_
  rw [hkc, (own_ch8 kc).2.2.2]
  refine Ow.castoreL X hx hZ eT B_cA 1 [_, _] (by decide) (by decide) rfl rfl (pc := 78) (hb hby at_78) ?_
  intro T h_78 X eT W_78 B_cA
  rw [(own_ch8 kc).2.2.1] at B_cA W_78
  have S := S.wr W_78
  have B_t := B_t.other W_78 ne_t_cA
  have F := F.wr W_78 (Or.inr l_cA)
  refine Ow.iload X hx (pc := 79) (hb hby at_79) rfl ?_
  refine Ow.if_eq X hx (pc := 81) (pc' := 88) (hb hby at_81) (by decide) (by decide) (fun q => absurd q (by decide)) (fun h81 => ?_)
  refine Ow.aconst_null X hx (pc := 84) (hb hby at_84) ?_
  refine Ow.goto X hx (pc := 85) (pc' := 97) (hb hby at_85) (by decide) (by decide) ?_
  refine Ow.astore X hx (pc := 97) #[_, _, _, _, _, _, _, _, _, _, _, _, _, _, _, _, _, _, _, _, _, _, _, _, _] (hb hby at_97) rfl rfl ?_
  refine Ow.iconst X hx (pc := 99) (4) (hb hby at_99) (by decide) ?_
  refine Ow.newarrayL X hx hZ (ww hw 4 rfl) eT 4 (vs := [_, _, _, _]) rfl (pc := 100) (hb hby at_100) (by decide) (by decide) (by decide) (by decide) (by decide) ?_
  intro T h_o k_o o ha_o X eT E_o B_o
  have l_o : h0.size ≤ o := by rw [ha_o]; exact F.size
  have ne_t_o : t ≠ o := by rw [ha_o]; exact Nat.ne_of_lt B_t.lt
  have S := S.ext E_o
  have B_t := B_t.ext E_o
  have F := F.ext E_o
  refine Ow.astore X hx (pc := 102) #[_, _, _, _, _, _, _, _, _, _, _, _, _, _, _, _, _, _, _, _, _, _, _, _, _] (hb hby at_102) rfl rfl ?_
  refine Ow.new_ X hx hZ hown (ww hw 34 rfl) (ww hw 35 rfl) (ww hw 36 rfl) eT (pc := 104) (hb hby at_104) (by decide) (by decide) ?_
  intro T h_s s ha_s X eT E_s A_s D_s U_s
  have l_s : h0.size ≤ s := by rw [ha_s]; exact F.size
  have ne_t_s : t ≠ s := by rw [ha_s]; exact Nat.ne_of_lt B_t.lt
  have ne_o_s : o ≠ s := by rw [ha_s]; exact Nat.ne_of_lt B_o.lt
  have S := S.ext E_s
  have B_t := B_t.ext E_s
  have B_o := B_o.ext E_s
  have F := F.ext E_s
  have F_mark := D_s (Or.inl (ww hw 53 rfl)) (ty := .int) (by decide)
  have F_buf := D_s (Or.inl (ww hw 55 rfl)) (ty := (.array .byte)) (by decide)
  have F_pos := D_s (Or.inl (ww hw 57 rfl)) (ty := .int) (by decide)
  have F_count := D_s (Or.inl (ww hw 59 rfl)) (ty := .int) (by decide)
  have F_name := D_s (Or.inr (ww hw 61 rfl)) (ty := (.object "java/lang/String")) (by decide)
  refine Ow.dup X hx (pc := 107) (hb hby at_107) rfl ?_
  refine Ow.aload X hx (pc := 108) (hb hby at_108) rfl rfl ?_
  refine Ow.aload X hx (pc := 110) (hb hby at_110) rfl rfl ?_
  refine Ow.callI X hx hZ (c_ns0 l Z a0 hw _ _ _ 0 _ _ ne_t_s A_s U_s F_mark F_buf F_pos F_count F_name B_t) eT rfl hown (ww hw 37 rfl) (ww hw 38 rfl) (ww hw 36 rfl) (ww hw 39 rfl) (by decide) pd3 (by rw [hml]; rfl) (argsL := [_, _]) rfl rfl rfl (pc := 112) (hb hby at_112) rfl rfl (by decide) (by decide) ?_
  rintro _ T L X ⟨rfl, F2, A_s, U_s, F_mark, F_buf, F_pos, F_count, F_name⟩
  dsimp only [Option.toList_some, Option.toList_none, List.cons_append, List.nil_append]
  have F := F.call F2 (fun y hy => by cases List.mem_singleton.mp hy; exact Or.inr l_s)
  have B_t := B_t.keep F2.1 (Ow.nin1 ne_t_s)
  have B_o := B_o.keep F2.1 (Ow.nin1 ne_o_s)
  obtain ⟨h_112, e_112⟩ : ∃ q, q = T.heap := ⟨_, rfl⟩
  rw [← e_112] at F B_t B_o A_s U_s F_mark F_buf F_pos F_count F_name
  have eT : T.heap = h_112 := e_112.symm
  have hy125 : (0 + 1 : Int32) ≠ 0 := by decide
  obtain ⟨j, hjl, hj⟩ := own_rem p2 (0 + 1) (by decide)
  have hjl : j ≤ 0 := by
    have e : (0 + 1 : Int32).toInt = 1 := by decide
    rw [e] at hjl
    omega
  refine Ow.astore X hx (pc := 115) #[_, _, _, _, _, _, _, _, _, _, _, _, _, _, _, _, _, _, _, _, _, _, _, _, _] (hb hby at_115) rfl rfl ?_
  refine Ow.iloadN X hx (pc := 117) (hb hby at_117) rfl ?_
  refine Ow.ldcI X hx (pc := 118) (2147483647) (hb hby at_118) hown (mvT hZ (ww hw 62 rfl)) ?_
  refine Ow.iand X hx (pc := 120) (hb hby at_120) ?_
  refine Ow.iload X hx (pc := 121) (hb hby at_121) rfl ?_
  refine Ow.iconst X hx (pc := 123) (1) (hb hby at_123) (by decide) ?_
  refine Ow.iadd X hx (pc := 124) (hb hby at_124) ?_
  refine Ow.irem X hx (pc := 125) (hb hby at_125) hy125 ?_
  rw [hj]
  refine Ow.i2l X hx (pc := 126) (hb hby at_126) ?_
  refine Ow.lstore X hx (pc := 127) #[_, _, _, _, _, _, _, _, _, _, _, _, _, _, _, _, _, _, _, _, _, _, _, _, _] (hb hby at_127) rfl ?_
  refine Ow.aload X hx (pc := 129) (hb hby at_129) rfl rfl ?_
  refine Ow.lload X hx (pc := 131) (hb hby at_131) rfl ?_
  refine Owl.callUB X hx hZ (Owl.backS (c_skip0 l Z a0 hw _ _ t 0 0 j (by decide) hjl A_s U_s F_mark F_buf F_pos F_count F_name) hZ (ww hw 68 rfl) (ww hw 66 rfl) (ww hw 43 rfl) U_s (by decide) (by decide)) eT hown (ww hw 63 rfl) (ww hw 64 rfl) (ww hw 65 rfl) (ww hw 67 rfl) (ww hw 66 rfl) (by decide) pd7 (by rw [hml]; rfl) A_s (argsL := [_]) rfl rfl rfl (pc := 133) (hb hby at_133) (by decide) (by decide) ?_
  rintro _ T L X ⟨rfl, F2, A_s, U_s, F_mark, F_buf, F_pos, F_count, F_name⟩
  dsimp only [Option.toList_some, Option.toList_none, List.cons_append, List.nil_append]
  have F := F.call F2 (fun y hy => by cases List.mem_singleton.mp hy; exact Or.inr l_s)
  have B_t := B_t.keep F2.1 (Ow.nin1 ne_t_s)
  have B_o := B_o.keep F2.1 (Ow.nin1 ne_o_s)
  obtain ⟨h_133, e_133⟩ : ∃ q, q = T.heap := ⟨_, rfl⟩
  rw [← e_133] at F B_t B_o A_s U_s F_mark F_buf F_pos F_count F_name
  have eT : T.heap = h_133 := e_133.symm
  refine Ow.lstore X hx (pc := 136) #[_, _, _, _, _, _, _, _, _, _, _, _, _, _, _, _, _, _, _, _, _, _, _, _, _] (hb hby at_136) rfl ?_
  refine Ow.aload X hx (pc := 138) (hb hby at_138) rfl rfl ?_
  refine Ow.callV X hx hZ (c_reopened0 l Z a0 hw _ _ _ 0 _ _ F_buf F_name B_t) eT hown (ww hw 69 rfl) (ww hw 70 rfl) (ww hw 72 rfl) (ww hw 71 rfl) (ww hw 36 rfl) (ww hw 73 rfl) (by decide) pd8 (by rw [hml]; rfl) A_s (argsL := []) rfl rfl rfl (pc := 140) (hb hby at_140) rfl rfl (by decide) (by decide) ?_
  rintro _ T L X ⟨r, rfl, F2, l_r, A_r, U_r, G_mark, G_buf, G_pos, G_count, G_name⟩
  dsimp only [Option.toList_some, Option.toList_none, List.cons_append, List.nil_append]
  have h0r := Nat.le_trans F.size l_r
  have ne_t_r : t ≠ r := Nat.ne_of_lt (Nat.lt_of_lt_of_le B_t.lt l_r)
  have ne_o_r : o ≠ r := Nat.ne_of_lt (Nat.lt_of_lt_of_le B_o.lt l_r)
  have ne_s_r : s ≠ r := Nat.ne_of_lt (Nat.lt_of_lt_of_le A_s.lt l_r)
  have F := F.call F2 (fun _ q => nomatch q)
  have B_t := B_t.ext (Ow.Keep.ext0 F2.1)
  have B_o := B_o.ext (Ow.Keep.ext0 F2.1)
  have A_s := A_s.ext (Ow.Keep.ext0 F2.1)
  have U_s := U_s.ext (Ow.Keep.ext0 F2.1)
  have F_mark := F_mark.ext (Ow.Keep.ext0 F2.1)
  have F_buf := F_buf.ext (Ow.Keep.ext0 F2.1)
  have F_pos := F_pos.ext (Ow.Keep.ext0 F2.1)
  have F_count := F_count.ext (Ow.Keep.ext0 F2.1)
  have F_name := F_name.ext (Ow.Keep.ext0 F2.1)
  obtain ⟨h_140, e_140⟩ : ∃ q, q = T.heap := ⟨_, rfl⟩
  rw [← e_140] at F B_t B_o A_s U_s F_mark F_buf F_pos F_count F_name A_r U_r G_mark G_buf G_pos G_count G_name
  have eT : T.heap = h_140 := e_140.symm
  refine Ow.astore X hx (pc := 143) #[_, _, _, _, _, _, _, _, _, _, _, _, _, _, _, _, _, _, _, _, _, _, _, _, _] (hb hby at_143) rfl rfl ?_
  refine Ow.aload X hx (pc := 145) (hb hby at_145) rfl rfl ?_
  refine Ow.ifnull_r X hx (pc := 147) (hb hby at_147) ?_
  refine Ow.aload X hx (pc := 150) (hb hby at_150) rfl rfl ?_
  refine Ow.aload X hx (pc := 152) (hb hby at_152) rfl rfl ?_
  refine Ow.acmp_ne X hx (pc := 154) (pc' := 159) (hb hby at_154) rfl rfl (by decide) (by decide) (fun h154 => ?_) (fun q => absurd (Value.ref.inj q) (Ne.symm ne_s_r))
  refine Ow.aload X hx (pc := 159) (hb hby at_159) rfl rfl ?_
  refine Ow.callVP X hx hZ (c_name0 l Z a0 hw _ _ 0 G_name) rfl rfl eT hown (ww hw 78 rfl) (ww hw 79 rfl) (ww hw 81 rfl) (ww hw 80 rfl) (ww hw 36 rfl) (ww hw 82 rfl) (by decide) pd9 (by rw [hml]; rfl) A_r (argsL := []) rfl rfl rfl (pc := 161) (hb hby at_161) rfl rfl (by decide) (by decide) ?_   -- com/example/eunomia/eunomia/xml/NamedStream.name:()Ljava/lang/String;
  intro T X eT
  dsimp only [Option.toList_some, Option.toList_none, List.cons_append, List.nil_append]
  refine Ow.astore X hx (pc := 164) #[_, _, _, _, _, _, _, _, _, _, _, _, _, _, _, _, _, _, _, _, _, _, _, _, _] (hb hby at_164) rfl rfl ?_
  refine Ow.aload X hx (pc := 166) (hb hby at_166) rfl rfl ?_
  refine Ow.ifnonnull_n X hx (pc := 168) (hb hby at_168) ?_
  refine Ow.aload X hx (pc := 171) (hb hby at_171) rfl rfl ?_
  refine Ow.ifnonnull_n X hx (pc := 173) (hb hby at_173) ?_
  refine Ow.iconst X hx (pc := 176) (1) (hb hby at_176) (by decide) ?_
  refine Ow.goto X hx (pc := 177) (pc' := 191) (hb hby at_177) (by decide) (by decide) ?_
  refine Ow.istore X hx (pc := 191) #[_, _, _, _, _, _, _, _, _, _, _, _, _, _, _, _, _, _, _, _, _, _, _, _, _] (hb hby at_191) rfl ?_
  refine Ow.aload X hx (pc := 193) (hb hby at_193) rfl rfl ?_
  refine Ow.aload X hx (pc := 195) (hb hby at_195) rfl rfl ?_
  refine Ow.iconst X hx (pc := 197) (0) (hb hby at_197) (by decide) ?_
  refine Ow.iconst X hx (pc := 198) (4) (hb hby at_198) (by decide) ?_
  refine Owl.callUB X hx hZ (Owl.backS (c_read00 l Z a0 hw _ r o t 0 _ _ b0 b1 b2 (Ne.symm ne_o_r) HF0 A_r G_mark G_buf G_pos G_count G_name B_t B_o) hZ (ww hw 93 rfl) (ww hw 91 rfl) (ww hw 43 rfl) U_r (by decide) (by decide)) eT hown (ww hw 88 rfl) (ww hw 89 rfl) (ww hw 90 rfl) (ww hw 92 rfl) (ww hw 91 rfl) (by decide) pd10 (by rw [hml]; rfl) A_r (argsL := [_, _, _]) rfl rfl rfl (pc := 199) (hb hby at_199) (by decide) (by decide) ?_
  rintro _ T L X ⟨rfl, F2, B_o⟩
  dsimp only [Option.toList_some, Option.toList_none, List.cons_append, List.nil_append]
  have F := F.call F2 (fun y hy => by
    simp only [List.mem_cons, List.not_mem_nil, or_false] at hy
    rcases hy with rfl | rfl
    · exact Or.inr h0r
    · exact Or.inr l_o)
  have B_t := B_t.keep F2.1 (ninS ne_t_r (Ow.nin1 ne_t_o))
  have A_s := A_s.keep F2.1
  have U_s := Unt.keep F2.1 (ninS ne_s_r (Ow.nin1 (Ne.symm ne_o_s))) U_s
  have F_mark := F_mark.keep F2.1 (ninS ne_s_r (Ow.nin1 (Ne.symm ne_o_s)))
  have F_buf := F_buf.keep F2.1 (ninS ne_s_r (Ow.nin1 (Ne.symm ne_o_s)))
  have F_pos := F_pos.keep F2.1 (ninS ne_s_r (Ow.nin1 (Ne.symm ne_o_s)))
  have F_count := F_count.keep F2.1 (ninS ne_s_r (Ow.nin1 (Ne.symm ne_o_s)))
  have F_name := F_name.keep F2.1 (ninS ne_s_r (Ow.nin1 (Ne.symm ne_o_s)))
  obtain ⟨h_199, e_199⟩ : ∃ q, q = T.heap := ⟨_, rfl⟩
  rw [← e_199] at F B_t A_s U_s F_mark F_buf F_pos F_count F_name B_o
  have eT : T.heap = h_199 := e_199.symm
  refine Ow.istore X hx (pc := 202) #[_, _, _, _, _, _, _, _, _, _, _, _, _, _, _, _, _, _, _, _, _, _, _, _, _] (hb hby at_202) rfl ?_
  refine Ow.aload X hx (pc := 204) (hb hby at_204) rfl rfl ?_
  refine Owl.callUB X hx hZ (Owl.backS (c_avail l Z a0 hw _ _ _ _ F_count F_pos) hZ (ww hw 107 rfl) (ww hw 105 rfl) (ww hw 43 rfl) U_s (by decide) (by decide)) eT hown (ww hw 102 rfl) (ww hw 103 rfl) (ww hw 104 rfl) (ww hw 106 rfl) (ww hw 105 rfl) (by decide) pd11 (by rw [hml]; rfl) A_s (argsL := []) rfl rfl rfl (pc := 206) (hb hby at_206) (by decide) (by decide) ?_
  rintro _ T L X ⟨rfl, eT, rfl⟩
  dsimp only [Option.toList_some, Option.toList_none, List.cons_append, List.nil_append]
  rw [List.append_nil] at X
  refine Ow.istore X hx (pc := 209) #[_, _, _, _, _, _, _, _, _, _, _, _, _, _, _, _, _, _, _, _, _, _, _, _, _] (hb hby at_209) rfl ?_
  refine Ow.iload X hx (pc := 211) (hb hby at_211) rfl ?_
  refine Ow.if_ne X hx (pc := 213) (pc' := 220) (hb hby at_213) (by decide) (by decide) (fun q => absurd rfl q) (fun h213 => ?_)
  refine Ow.iconst X hx (pc := 216) (-1) (hb hby at_216) (by decide) ?_
  refine Ow.goto X hx (pc := 217) (pc' := 222) (hb hby at_217) (by decide) (by decide) ?_
  refine Ow.istore X hx (pc := 222) #[_, _, _, _, _, _, _, _, _, _, _, _, _, _, _, _, _, _, _, _, _, _, _, _, _] (hb hby at_222) rfl ?_
  refine Ow.iconst X hx (pc := 224) (1) (hb hby at_224) (by decide) ?_
  refine Ow.istore X hx (pc := 225) #[_, _, _, _, _, _, _, _, _, _, _, _, _, _, _, _, _, _, _, _, _, _, _, _, _] (hb hby at_225) rfl ?_
  refine Ow.iload X hx (pc := 227) (hb hby at_227) rfl ?_
  refine Ow.iconst X hx (pc := 229) (1) (hb hby at_229) (by decide) ?_
  refine Ow.icmp_lt X hx (pc := 230) (pc' := 245) (hb hby at_230) (by decide) (by decide) (fun h230 => ?_) (fun q => absurd (by decide) q)
  refine Ow.iload X hx (pc := 245) (hb hby at_245) rfl ?_
  refine Ow.iconst X hx (pc := 247) (2) (hb hby at_247) (by decide) ?_
  refine Ow.icmp_lt X hx (pc := 248) (pc' := 263) (hb hby at_248) (by decide) (by decide) (fun h248 => ?_) (fun q => absurd (by decide) q)
  refine Ow.iload X hx (pc := 263) (hb hby at_263) rfl ?_
  refine Ow.iconst X hx (pc := 265) (3) (hb hby at_265) (by decide) ?_
  refine Ow.icmp_lt X hx (pc := 266) (pc' := 281) (hb hby at_266) (by decide) (by decide) (fun h266 => ?_) (fun q => absurd (by decide) q)
  refine Ow.iload X hx (pc := 281) (hb hby at_281) rfl ?_
  refine Ow.iconst X hx (pc := 283) (1) (hb hby at_283) (by decide) ?_
  refine Ow.icmp_ge X hx (pc := 284) (pc' := 297) (hb hby at_284) (by decide) (by decide) (fun q => absurd (by decide) q) (fun h284 => ?_)
  refine Ow.aload X hx (pc := 287) (hb hby at_287) rfl rfl ?_
  refine Ow.iconst X hx (pc := 289) (0) (hb hby at_289) (by decide) ?_
  refine Ow.baloadL X hx hZ eT B_o 0 (.int 0) (by decide) (by decide) rfl (pc := 290) (hb hby at_290) ?_
  refine Ow.if_eq X hx (pc := 291) (pc' := 297) (hb hby at_291) (by decide) (by decide) (fun h291 => ?_) (fun q => absurd rfl q)
  refine Ow.iload X hx (pc := 297) (hb hby at_297) rfl ?_
  refine Ow.iconst X hx (pc := 299) (2) (hb hby at_299) (by decide) ?_
  refine Ow.icmp_ge X hx (pc := 300) (pc' := 313) (hb hby at_300) (by decide) (by decide) (fun q => absurd (by decide) q) (fun h300 => ?_)
  refine Ow.aload X hx (pc := 303) (hb hby at_303) rfl rfl ?_
  refine Ow.iconst X hx (pc := 305) (1) (hb hby at_305) (by decide) ?_
  refine Ow.baloadL X hx hZ eT B_o 1 (.int 0) (by decide) (by decide) rfl (pc := 306) (hb hby at_306) ?_
  refine Ow.if_eq X hx (pc := 307) (pc' := 313) (hb hby at_307) (by decide) (by decide) (fun h307 => ?_) (fun q => absurd rfl q)
  refine Ow.iload X hx (pc := 313) (hb hby at_313) rfl ?_
  refine Ow.iconst X hx (pc := 315) (3) (hb hby at_315) (by decide) ?_
  refine Ow.icmp_ge X hx (pc := 316) (pc' := 329) (hb hby at_316) (by decide) (by decide) (fun q => absurd (by decide) q) (fun h316 => ?_)
  refine Ow.aload X hx (pc := 319) (hb hby at_319) rfl rfl ?_
  refine Ow.iconst X hx (pc := 321) (2) (hb hby at_321) (by decide) ?_
  refine Ow.baloadL X hx hZ eT B_o 2 (.int 0) (by decide) (by decide) rfl (pc := 322) (hb hby at_322) ?_
  refine Ow.if_eq X hx (pc := 323) (pc' := 329) (hb hby at_323) (by decide) (by decide) (fun h323 => ?_) (fun q => absurd rfl q)
  refine Ow.aload X hx (pc := 329) (hb hby at_329) rfl rfl ?_
  refine Ow.iconst X hx (pc := 331) (3) (hb hby at_331) (by decide) ?_
  refine Ow.baloadL X hx hZ eT B_o 3 (.int 0) (by decide) (by decide) rfl (pc := 332) (hb hby at_332) ?_
  refine Ow.if_eq X hx (pc := 333) (pc' := 339) (hb hby at_333) (by decide) (by decide) (fun h333 => ?_) (fun q => absurd rfl q)
  refine Ow.iload X hx (pc := 339) (hb hby at_339) rfl ?_
  refine Ow.if_eq X hx (pc := 341) (pc' := 379) (hb hby at_341) (by decide) (by decide) (fun q => absurd q (by decide)) (fun h341 => ?_)
  refine Ow.lload X hx (pc := 344) (hb hby at_344) rfl ?_
  refine Ow.lload X hx (pc := 346) (hb hby at_346) rfl ?_
  refine Ow.lcmp X hx (pc := 348) (hb hby at_348) ?_
  refine Ow.if_ne X hx (pc := 349) (pc' := 379) (hb hby at_349) (by decide) (by decide) (fun q => absurd (own_cmp_self _) q) (fun h349 => ?_)
  refine Ow.iload X hx (pc := 352) (hb hby at_352) rfl ?_
  refine Ow.iload X hx (pc := 354) (hb hby at_354) rfl ?_
  refine Ow.icmp_ne X hx (pc := 356) (pc' := 379) (hb hby at_356) (by decide) (by decide) (fun q => absurd rfl q) (fun h356 => ?_)
  refine Ow.iload X hx (pc := 359) (hb hby at_359) rfl ?_
  refine Ow.if_eq X hx (pc := 361) (pc' := 379) (hb hby at_361) (by decide) (by decide) (fun q => absurd q (by decide)) (fun h361 => ?_)
  refine Ow.iload X hx (pc := 364) (hb hby at_364) rfl ?_
  refine Ow.iload X hx (pc := 366) (hb hby at_366) rfl ?_
  refine Ow.lload X hx (pc := 368) (hb hby at_368) rfl ?_
  refine Ow.l2i X hx (pc := 370) (hb hby at_370) ?_
  rw [own_l2i]
  refine Ow.isub X hx (pc := 371) (hb hby at_371) ?_
  refine Ow.icmp_ne X hx (pc := 372) (pc' := 379) (hb hby at_372) (by decide) (by decide) (fun q => absurd rfl q) (fun h372 => ?_)
  refine Ow.iconst X hx (pc := 375) (1) (hb hby at_375) (by decide) ?_
  refine Ow.goto X hx (pc := 376) (pc' := 380) (hb hby at_376) (by decide) (by decide) ?_
  exact Ow.nreturn X hx hlk hret (Or.inl rfl) (hb hby at_380) ⟨rfl, by rw [eT]; exact F⟩ (by decide) (by decide)
set_option maxRecDepth 65536 in
set_option maxHeartbeats 40000000 in
theorem law_01 (l : Launch) (Z : State) (a0 : Array Value) (hw : ∀ d ∈ tables_1, d.before a0 Z = true) (h0 : Heap) (z p0 p1 p2 p3 : Int32) (S : Sta Z h0 "java/lang/String" "COMPACT_STRINGS" "Z" (.int z)) (hz : ¬ z = 0) (hn3 : p0 &&& 3 = 0) (h10 : (p0 >>> ((2 : Int32) &&& 31)) &&& 1 = 0) : Ow.Pay l Z x code maxLocals ret room_1 #[(.int p0), (.int p1), (.int p2), (.int p3)] h0 (fun v h L => v = some (.int 1) ∧ Ow.Eff h0 h [] L) := by
  refine Ow.Pay.of (Ls := #[.val (.int p0), .val (.int p1), .val (.int p2), .val (.int p3), .unset, .unset, .unset, .unset, .unset, .unset, .unset, .unset, .unset, .unset, .unset, .unset, .unset, .unset, .unset, .unset, .unset, .unset, .unset, .unset, .unset]) (plainFor_of_name pn0) (fun m => by first | (simp [entryFrame, mkF, argsToLocals, Value.category, maxLocals]; done) | rfl) ?_
  intro p e s m below meth c T hx hby hml hown hnm hme hZ hret hlk X eT
  obtain ⟨ka, hka⟩ := own_mask8 p3
  obtain ⟨kc, hkc⟩ := own_mask8 (p3 >>> ((8 : Int32) &&& 31))
  obtain ⟨b0, hb0⟩ : ∃ q, q = p1.toInt8.toInt32 := ⟨_, rfl⟩
  obtain ⟨b1, hb1⟩ : ∃ q, q = (p1 >>> ((8 : Int32) &&& 31)).toInt8.toInt32 := ⟨_, rfl⟩
  obtain ⟨b2, hb2⟩ : ∃ q, q = (p1 >>> ((16 : Int32) &&& 31)).toInt8.toInt32 := ⟨_, rfl⟩
  have H8 : ∀ c ∈ [Int32.ofNat ka.val, Int32.ofNat kc.val], ∃ k : Fin 256, c = Int32.ofNat k.val := fun c hc => by
    simp only [List.mem_cons, List.not_mem_nil, or_false] at hc
    rcases hc with rfl | rfl
    · exact ⟨ka, rfl⟩
    · exact ⟨kc, rfl⟩
  have HF0 : ∀ v ∈ ([] : List Value), fits .byte v = true := fun v hv => by
    cases hv
  have F := Ow.Eff.refl h0 []
  refine Ow.iloadN X hx (pc := 0) (hb hby at_0) rfl ?_
  refine Ow.iconst X hx (pc := 1) (3) (hb hby at_1) (by decide) ?_
  refine Ow.iand X hx (pc := 2) (hb hby at_2) ?_
  rw [hn3]
  refine Ow.istore X hx (pc := 3) #[_, _, _, _, _, _, _, _, _, _, _, _, _, _, _, _, _, _, _, _, _, _, _, _, _] (hb hby at_3) rfl ?_
  refine Ow.iloadN X hx (pc := 5) (hb hby at_5) rfl ?_
  refine Ow.iconst X hx (pc := 6) (2) (hb hby at_6) (by decide) ?_
  refine Ow.ishr X hx (pc := 7) (hb hby at_7) ?_
  refine Ow.iconst X hx (pc := 8) (1) (hb hby at_8) (by decide) ?_
  refine Ow.iand X hx (pc := 9) (hb hby at_9) ?_
  refine Ow.if_eq X hx (pc := 10) (pc' := 17) (hb hby at_10) (by decide) (by decide) (fun _ => ?_) (fun q => absurd h10 q)
  refine Ow.iconst X hx (pc := 17) (0) (hb hby at_17) (by decide) ?_
  refine Ow.istore X hx (pc := 18) #[_, _, _, _, _, _, _, _, _, _, _, _, _, _, _, _, _, _, _, _, _, _, _, _, _] (hb hby at_18) rfl ?_
  refine Ow.iloadN X hx (pc := 20) (hb hby at_20) rfl ?_
  refine Ow.i2b X hx (pc := 21) (hb hby at_21) ?_
  rw [← hb0]
  refine Ow.istore X hx (pc := 22) #[_, _, _, _, _, _, _, _, _, _, _, _, _, _, _, _, _, _, _, _, _, _, _, _, _] (hb hby at_22) rfl ?_
  refine Ow.iloadN X hx (pc := 24) (hb hby at_24) rfl ?_
  refine Ow.bipush X hx (pc := 25) (8) (hb hby at_25) (by decide) ?_
  refine Ow.ishr X hx (pc := 27) (hb hby at_27) ?_
  refine Ow.i2b X hx (pc := 28) (hb hby at_28) ?_
  rw [← hb1]
  refine Ow.istore X hx (pc := 29) #[_, _, _, _, _, _, _, _, _, _, _, _, _, _, _, _, _, _, _, _, _, _, _, _, _] (hb hby at_29) rfl ?_
  refine Ow.iloadN X hx (pc := 31) (hb hby at_31) rfl ?_
  refine Ow.bipush X hx (pc := 32) (16) (hb hby at_32) (by decide) ?_
  refine Ow.ishr X hx (pc := 34) (hb hby at_34) ?_
  refine Ow.i2b X hx (pc := 35) (hb hby at_35) ?_
  rw [← hb2]
  refine Ow.istore X hx (pc := 36) #[_, _, _, _, _, _, _, _, _, _, _, _, _, _, _, _, _, _, _, _, _, _, _, _, _] (hb hby at_36) rfl ?_
  refine Ow.iload X hx (pc := 38) (hb hby at_38) rfl ?_
  refine Ow.iload X hx (pc := 40) (hb hby at_40) rfl ?_
  refine Ow.iload X hx (pc := 42) (hb hby at_42) rfl ?_
  refine Ow.iload X hx (pc := 44) (hb hby at_44) rfl ?_
  refine Ow.callS X hx hZ (c_make0 l Z a0 hw _ b0 b1 b2 (hb0 ▸ own_nb _) (hb1 ▸ own_nb _) (hb2 ▸ own_nb _)) eT hown (ww hw 0 rfl) (ww hw 1 rfl) (ww hw 2 rfl) (ww hw 3 rfl) (by decide) pd6 (by rw [hml]; rfl) (argsL := [_, _, _, _]) rfl rfl rfl (pc := 46) (hb hby at_46) rfl rfl (by decide) (by decide) ?_
  rintro _ T L X ⟨t, kt, rfl, F2, l_t, B_t⟩
  dsimp only [Option.toList_some, Option.toList_none, List.cons_append, List.nil_append]
  have l_t := Nat.le_trans F.size l_t
  have F := F.call F2 (fun _ q => nomatch q)
  have S := S.ext (Ow.Keep.ext0 F2.1)
  obtain ⟨h_46, e_46⟩ : ∃ q, q = T.heap := ⟨_, rfl⟩
  rw [← e_46] at F S B_t
  have eT : T.heap = h_46 := e_46.symm
  refine Ow.astore X hx (pc := 49) #[_, _, _, _, _, _, _, _, _, _, _, _, _, _, _, _, _, _, _, _, _, _, _, _, _] (hb hby at_49) rfl rfl ?_
  refine Ow.iconst X hx (pc := 51) (2) (hb hby at_51) (by decide) ?_
  refine Ow.newarrayL X hx hZ (ww hw 5 rfl) eT 2 (vs := [_, _]) rfl (pc := 52) (hb hby at_52) (by decide) (by decide) (by decide) (by decide) (by decide) ?_
  intro T h_cA k_cA cA ha_cA X eT E_cA B_cA
  have l_cA : h0.size ≤ cA := by rw [ha_cA]; exact F.size
  have ne_t_cA : t ≠ cA := by rw [ha_cA]; exact Nat.ne_of_lt B_t.lt
  have S := S.ext E_cA
  have B_t := B_t.ext E_cA
  have F := F.ext E_cA
  refine Ow.astore X hx (pc := 54) #[_, _, _, _, _, _, _, _, _, _, _, _, _, _, _, _, _, _, _, _, _, _, _, _, _] (hb hby at_54) rfl rfl ?_
  refine Ow.aload X hx (pc := 56) (hb hby at_56) rfl rfl ?_
  refine Ow.iconst X hx (pc := 58) (0) (hb hby at_58) (by decide) ?_
  refine Ow.iloadN X hx (pc := 59) (hb hby at_59) rfl ?_
  refine Ow.sipush X hx (pc := 60) (255) (hb hby at_60) (by decide) ?_
  refine Ow.iand X hx (pc := 63) (hb hby at_63) ?_
  refine Ow.i2c X hx (pc := 64) (hb hby at_64) ?_
  rw [hka, (own_ch8 ka).2.2.2]
  refine Ow.castoreL X hx hZ eT B_cA 0 [_, _] (by decide) (by decide) rfl rfl (pc := 65) (hb hby at_65) ?_
  intro T h_65 X eT W_65 B_cA
  rw [(own_ch8 ka).2.2.1] at B_cA W_65
  have S := S.wr W_65
  have B_t := B_t.other W_65 ne_t_cA
  have F := F.wr W_65 (Or.inr l_cA)
  refine Ow.aload X hx (pc := 66) (hb hby at_66) rfl rfl ?_
  refine Ow.iconst X hx (pc := 68) (1) (hb hby at_68) (by decide) ?_
  refine Ow.iloadN X hx (pc := 69) (hb hby at_69) rfl ?_
  refine Ow.bipush X hx (pc := 70) (8) (hb hby at_70) (by decide) ?_
  refine Ow.ishr X hx (pc := 72) (hb hby at_72) ?_
  refine Ow.sipush X hx (pc := 73) (255) (hb hby at_73) (by decide) ?_
  refine Ow.iand X hx (pc := 76) (hb hby at_76) ?_
  refine Ow.i2c X hx (pc := 77) (hb hby at_77) ?_
  rw [hkc, (own_ch8 kc).2.2.2]
  refine Ow.castoreL X hx hZ eT B_cA 1 [_, _] (by decide) (by decide) rfl rfl (pc := 78) (hb hby at_78) ?_
  intro T h_78 X eT W_78 B_cA
  rw [(own_ch8 kc).2.2.1] at B_cA W_78
  have S := S.wr W_78
  have B_t := B_t.other W_78 ne_t_cA
  have F := F.wr W_78 (Or.inr l_cA)
  refine Ow.iload X hx (pc := 79) (hb hby at_79) rfl ?_
  refine Ow.if_eq X hx (pc := 81) (pc' := 88) (hb hby at_81) (by decide) (by decide) (fun h81 => ?_) (fun q => absurd rfl q)
  refine Ow.new_ X hx hZ hown (ww hw 6 rfl) (ww hw 7 rfl) (ww hw 8 rfl) eT (pc := 88) (hb hby at_88) (by decide) (by decide) ?_
  intro T h_x x ha_x X eT E_x A_x D_x U_x
  have l_x : h0.size ≤ x := by rw [ha_x]; exact F.size
  have ne_t_x : t ≠ x := by rw [ha_x]; exact Nat.ne_of_lt B_t.lt
  have ne_cA_x : cA ≠ x := by rw [ha_x]; exact Nat.ne_of_lt B_cA.lt
  have S := S.ext E_x
  have B_t := B_t.ext E_x
  have B_cA := B_cA.ext E_x
  have F := F.ext E_x
  have V0 := D_x (Or.inr (ww hw 33 rfl)) (ty := .array .byte) (by decide)
  have C0 := D_x (Or.inr (ww hw 31 rfl)) (ty := .byte) (by decide)
  refine Ow.dup X hx (pc := 91) (hb hby at_91) rfl ?_
  refine Ow.aload X hx (pc := 92) (hb hby at_92) rfl rfl ?_
  refine strLat X hx hZ hw eT hown (ww hw 9 rfl) (cs := [Int32.ofNat ka.val, Int32.ofNat kc.val]) A_x V0 C0 B_cA S hz 2 rfl (by decide) (by decide) H8 (by rw [hml]; rfl) (pc := 94) (hb hby at_94) rfl rfl (by decide) (by decide) ?_
  intro T L kx X F2 St
  have F := F.call F2 (fun y hy => by cases List.mem_singleton.mp hy; exact Or.inr l_x)
  have P_x := Ow.Exa.plain A_x
  have S := Ow.staKeep S F2.1 (fun y hy => by cases List.mem_singleton.mp hy; exact P_x)
  have B_t := B_t.keep F2.1 (Ow.nin1 ne_t_x)
  have B_cA := B_cA.keep F2.1 (Ow.nin1 ne_cA_x)
  have A_x := A_x.keep F2.1
  obtain ⟨h_94, e_94⟩ : ∃ q, q = T.heap := ⟨_, rfl⟩
  rw [← e_94] at F S B_t B_cA A_x
  have eT : T.heap = h_94 := e_94.symm
  refine Ow.astore X hx (pc := 97) #[_, _, _, _, _, _, _, _, _, _, _, _, _, _, _, _, _, _, _, _, _, _, _, _, _] (hb hby at_97) rfl rfl ?_
  refine Ow.iconst X hx (pc := 99) (4) (hb hby at_99) (by decide) ?_
  refine Ow.newarrayL X hx hZ (ww hw 4 rfl) eT 4 (vs := [_, _, _, _]) rfl (pc := 100) (hb hby at_100) (by decide) (by decide) (by decide) (by decide) (by decide) ?_
  intro T h_o k_o o ha_o X eT E_o B_o
  have l_o : h0.size ≤ o := by rw [ha_o]; exact F.size
  have ne_t_o : t ≠ o := by rw [ha_o]; exact Nat.ne_of_lt B_t.lt
  have ne_x_o : x ≠ o := by rw [ha_o]; exact Nat.ne_of_lt A_x.lt
  have S := S.ext E_o
  have B_t := B_t.ext E_o
  have A_x := A_x.ext E_o
  have F := F.ext E_o
  refine Ow.astore X hx (pc := 102) #[_, _, _, _, _, _, _, _, _, _, _, _, _, _, _, _, _, _, _, _, _, _, _, _, _] (hb hby at_102) rfl rfl ?_
  refine Ow.new_ X hx hZ hown (ww hw 34 rfl) (ww hw 35 rfl) (ww hw 36 rfl) eT (pc := 104) (hb hby at_104) (by decide) (by decide) ?_
  intro T h_s s ha_s X eT E_s A_s D_s U_s
  have l_s : h0.size ≤ s := by rw [ha_s]; exact F.size
  have ne_t_s : t ≠ s := by rw [ha_s]; exact Nat.ne_of_lt B_t.lt
  have ne_x_s : x ≠ s := by rw [ha_s]; exact Nat.ne_of_lt A_x.lt
  have ne_o_s : o ≠ s := by rw [ha_s]; exact Nat.ne_of_lt B_o.lt
  have S := S.ext E_s
  have B_t := B_t.ext E_s
  have A_x := A_x.ext E_s
  have B_o := B_o.ext E_s
  have F := F.ext E_s
  have F_mark := D_s (Or.inl (ww hw 53 rfl)) (ty := .int) (by decide)
  have F_buf := D_s (Or.inl (ww hw 55 rfl)) (ty := (.array .byte)) (by decide)
  have F_pos := D_s (Or.inl (ww hw 57 rfl)) (ty := .int) (by decide)
  have F_count := D_s (Or.inl (ww hw 59 rfl)) (ty := .int) (by decide)
  have F_name := D_s (Or.inr (ww hw 61 rfl)) (ty := (.object "java/lang/String")) (by decide)
  refine Ow.dup X hx (pc := 107) (hb hby at_107) rfl ?_
  refine Ow.aload X hx (pc := 108) (hb hby at_108) rfl rfl ?_
  refine Ow.aload X hx (pc := 110) (hb hby at_110) rfl rfl ?_
  refine Ow.callI X hx hZ (c_ns1 l Z a0 hw _ _ _ x _ _ ne_t_s A_s U_s F_mark F_buf F_pos F_count F_name B_t) eT rfl hown (ww hw 37 rfl) (ww hw 38 rfl) (ww hw 36 rfl) (ww hw 39 rfl) (by decide) pd3 (by rw [hml]; rfl) (argsL := [_, _]) rfl rfl rfl (pc := 112) (hb hby at_112) rfl rfl (by decide) (by decide) ?_
  rintro _ T L X ⟨rfl, F2, A_s, U_s, F_mark, F_buf, F_pos, F_count, F_name⟩
  dsimp only [Option.toList_some, Option.toList_none, List.cons_append, List.nil_append]
  have F := F.call F2 (fun y hy => by cases List.mem_singleton.mp hy; exact Or.inr l_s)
  have B_t := B_t.keep F2.1 (Ow.nin1 ne_t_s)
  have A_x := A_x.keep F2.1
  have B_o := B_o.keep F2.1 (Ow.nin1 ne_o_s)
  obtain ⟨h_112, e_112⟩ : ∃ q, q = T.heap := ⟨_, rfl⟩
  rw [← e_112] at F B_t A_x B_o A_s U_s F_mark F_buf F_pos F_count F_name
  have eT : T.heap = h_112 := e_112.symm
  have hy125 : (0 + 1 : Int32) ≠ 0 := by decide
  obtain ⟨j, hjl, hj⟩ := own_rem p2 (0 + 1) (by decide)
  have hjl : j ≤ 0 := by
    have e : (0 + 1 : Int32).toInt = 1 := by decide
    rw [e] at hjl
    omega
  refine Ow.astore X hx (pc := 115) #[_, _, _, _, _, _, _, _, _, _, _, _, _, _, _, _, _, _, _, _, _, _, _, _, _] (hb hby at_115) rfl rfl ?_
  refine Ow.iloadN X hx (pc := 117) (hb hby at_117) rfl ?_
  refine Ow.ldcI X hx (pc := 118) (2147483647) (hb hby at_118) hown (mvT hZ (ww hw 62 rfl)) ?_
  refine Ow.iand X hx (pc := 120) (hb hby at_120) ?_
  refine Ow.iload X hx (pc := 121) (hb hby at_121) rfl ?_
  refine Ow.iconst X hx (pc := 123) (1) (hb hby at_123) (by decide) ?_
  refine Ow.iadd X hx (pc := 124) (hb hby at_124) ?_
  refine Ow.irem X hx (pc := 125) (hb hby at_125) hy125 ?_
  rw [hj]
  refine Ow.i2l X hx (pc := 126) (hb hby at_126) ?_
  refine Ow.lstore X hx (pc := 127) #[_, _, _, _, _, _, _, _, _, _, _, _, _, _, _, _, _, _, _, _, _, _, _, _, _] (hb hby at_127) rfl ?_
  refine Ow.aload X hx (pc := 129) (hb hby at_129) rfl rfl ?_
  refine Ow.lload X hx (pc := 131) (hb hby at_131) rfl ?_
  refine Owl.callUB X hx hZ (Owl.backS (c_skip1 l Z a0 hw _ _ t x 0 j (by decide) hjl A_s U_s F_mark F_buf F_pos F_count F_name) hZ (ww hw 68 rfl) (ww hw 66 rfl) (ww hw 43 rfl) U_s (by decide) (by decide)) eT hown (ww hw 63 rfl) (ww hw 64 rfl) (ww hw 65 rfl) (ww hw 67 rfl) (ww hw 66 rfl) (by decide) pd7 (by rw [hml]; rfl) A_s (argsL := [_]) rfl rfl rfl (pc := 133) (hb hby at_133) (by decide) (by decide) ?_
  rintro _ T L X ⟨rfl, F2, A_s, U_s, F_mark, F_buf, F_pos, F_count, F_name⟩
  dsimp only [Option.toList_some, Option.toList_none, List.cons_append, List.nil_append]
  have F := F.call F2 (fun y hy => by cases List.mem_singleton.mp hy; exact Or.inr l_s)
  have B_t := B_t.keep F2.1 (Ow.nin1 ne_t_s)
  have A_x := A_x.keep F2.1
  have B_o := B_o.keep F2.1 (Ow.nin1 ne_o_s)
  obtain ⟨h_133, e_133⟩ : ∃ q, q = T.heap := ⟨_, rfl⟩
  rw [← e_133] at F B_t A_x B_o A_s U_s F_mark F_buf F_pos F_count F_name
  have eT : T.heap = h_133 := e_133.symm
  refine Ow.lstore X hx (pc := 136) #[_, _, _, _, _, _, _, _, _, _, _, _, _, _, _, _, _, _, _, _, _, _, _, _, _] (hb hby at_136) rfl ?_
  refine Ow.aload X hx (pc := 138) (hb hby at_138) rfl rfl ?_
  refine Ow.callV X hx hZ (c_reopened1 l Z a0 hw _ _ _ x _ _ F_buf F_name B_t) eT hown (ww hw 69 rfl) (ww hw 70 rfl) (ww hw 72 rfl) (ww hw 71 rfl) (ww hw 36 rfl) (ww hw 73 rfl) (by decide) pd8 (by rw [hml]; rfl) A_s (argsL := []) rfl rfl rfl (pc := 140) (hb hby at_140) rfl rfl (by decide) (by decide) ?_
  rintro _ T L X ⟨r, rfl, F2, l_r, A_r, U_r, G_mark, G_buf, G_pos, G_count, G_name⟩
  dsimp only [Option.toList_some, Option.toList_none, List.cons_append, List.nil_append]
  have h0r := Nat.le_trans F.size l_r
  have ne_t_r : t ≠ r := Nat.ne_of_lt (Nat.lt_of_lt_of_le B_t.lt l_r)
  have ne_x_r : x ≠ r := Nat.ne_of_lt (Nat.lt_of_lt_of_le A_x.lt l_r)
  have ne_o_r : o ≠ r := Nat.ne_of_lt (Nat.lt_of_lt_of_le B_o.lt l_r)
  have ne_s_r : s ≠ r := Nat.ne_of_lt (Nat.lt_of_lt_of_le A_s.lt l_r)
  have F := F.call F2 (fun _ q => nomatch q)
  have B_t := B_t.ext (Ow.Keep.ext0 F2.1)
  have A_x := A_x.ext (Ow.Keep.ext0 F2.1)
  have B_o := B_o.ext (Ow.Keep.ext0 F2.1)
  have A_s := A_s.ext (Ow.Keep.ext0 F2.1)
  have U_s := U_s.ext (Ow.Keep.ext0 F2.1)
  have F_mark := F_mark.ext (Ow.Keep.ext0 F2.1)
  have F_buf := F_buf.ext (Ow.Keep.ext0 F2.1)
  have F_pos := F_pos.ext (Ow.Keep.ext0 F2.1)
  have F_count := F_count.ext (Ow.Keep.ext0 F2.1)
  have F_name := F_name.ext (Ow.Keep.ext0 F2.1)
  obtain ⟨h_140, e_140⟩ : ∃ q, q = T.heap := ⟨_, rfl⟩
  rw [← e_140] at F B_t A_x B_o A_s U_s F_mark F_buf F_pos F_count F_name A_r U_r G_mark G_buf G_pos G_count G_name
  have eT : T.heap = h_140 := e_140.symm
  refine Ow.astore X hx (pc := 143) #[_, _, _, _, _, _, _, _, _, _, _, _, _, _, _, _, _, _, _, _, _, _, _, _, _] (hb hby at_143) rfl rfl ?_
  refine Ow.aload X hx (pc := 145) (hb hby at_145) rfl rfl ?_
  refine Ow.ifnull_r X hx (pc := 147) (hb hby at_147) ?_
  refine Ow.aload X hx (pc := 150) (hb hby at_150) rfl rfl ?_
  refine Ow.aload X hx (pc := 152) (hb hby at_152) rfl rfl ?_
  refine Ow.acmp_ne X hx (pc := 154) (pc' := 159) (hb hby at_154) rfl rfl (by decide) (by decide) (fun h154 => ?_) (fun q => absurd (Value.ref.inj q) (Ne.symm ne_s_r))
  refine Ow.aload X hx (pc := 159) (hb hby at_159) rfl rfl ?_
  refine Ow.callVP X hx hZ (c_name1 l Z a0 hw _ _ x G_name) rfl rfl eT hown (ww hw 78 rfl) (ww hw 79 rfl) (ww hw 81 rfl) (ww hw 80 rfl) (ww hw 36 rfl) (ww hw 82 rfl) (by decide) pd9 (by rw [hml]; rfl) A_r (argsL := []) rfl rfl rfl (pc := 161) (hb hby at_161) rfl rfl (by decide) (by decide) ?_   -- com/example/eunomia/eunomia/xml/NamedStream.name:()Ljava/lang/String;
  intro T X eT
  dsimp only [Option.toList_some, Option.toList_none, List.cons_append, List.nil_append]
  refine Ow.astore X hx (pc := 164) #[_, _, _, _, _, _, _, _, _, _, _, _, _, _, _, _, _, _, _, _, _, _, _, _, _] (hb hby at_164) rfl rfl ?_
  refine Ow.aload X hx (pc := 166) (hb hby at_166) rfl rfl ?_
  refine Ow.ifnonnull_r X hx (pc := 168) (pc' := 184) (hb hby at_168) (by decide) (by decide) ?_
  refine Ow.aload X hx (pc := 184) (hb hby at_184) rfl rfl ?_
  refine Ow.aload X hx (pc := 186) (hb hby at_186) rfl rfl ?_
  refine Ow.callVP X hx hZ (c_equals l Z a0 hw _ _) rfl rfl eT hown (ww hw 83 rfl) (ww hw 84 rfl) (ww hw 86 rfl) (ww hw 85 rfl) (ww hw 8 rfl) (ww hw 87 rfl) (by decide) pd12 (by rw [hml]; rfl) A_x (argsL := [_]) rfl rfl rfl (pc := 188) (hb hby at_188) rfl rfl (by decide) (by decide) ?_   -- java/lang/String.equals:(Ljava/lang/Object;)Z
  intro T X eT
  dsimp only [Option.toList_some, Option.toList_none, List.cons_append, List.nil_append]
  refine Ow.istore X hx (pc := 191) #[_, _, _, _, _, _, _, _, _, _, _, _, _, _, _, _, _, _, _, _, _, _, _, _, _] (hb hby at_191) rfl ?_
  refine Ow.aload X hx (pc := 193) (hb hby at_193) rfl rfl ?_
  refine Ow.aload X hx (pc := 195) (hb hby at_195) rfl rfl ?_
  refine Ow.iconst X hx (pc := 197) (0) (hb hby at_197) (by decide) ?_
  refine Ow.iconst X hx (pc := 198) (4) (hb hby at_198) (by decide) ?_
  refine Owl.callUB X hx hZ (Owl.backS (c_read01 l Z a0 hw _ r o t x _ _ b0 b1 b2 (Ne.symm ne_o_r) HF0 A_r G_mark G_buf G_pos G_count G_name B_t B_o) hZ (ww hw 93 rfl) (ww hw 91 rfl) (ww hw 43 rfl) U_r (by decide) (by decide)) eT hown (ww hw 88 rfl) (ww hw 89 rfl) (ww hw 90 rfl) (ww hw 92 rfl) (ww hw 91 rfl) (by decide) pd10 (by rw [hml]; rfl) A_r (argsL := [_, _, _]) rfl rfl rfl (pc := 199) (hb hby at_199) (by decide) (by decide) ?_
  rintro _ T L X ⟨rfl, F2, B_o⟩
  dsimp only [Option.toList_some, Option.toList_none, List.cons_append, List.nil_append]
  have F := F.call F2 (fun y hy => by
    simp only [List.mem_cons, List.not_mem_nil, or_false] at hy
    rcases hy with rfl | rfl
    · exact Or.inr h0r
    · exact Or.inr l_o)
  have B_t := B_t.keep F2.1 (ninS ne_t_r (Ow.nin1 ne_t_o))
  have A_x := A_x.keep F2.1
  have A_s := A_s.keep F2.1
  have U_s := Unt.keep F2.1 (ninS ne_s_r (Ow.nin1 (Ne.symm ne_o_s))) U_s
  have F_mark := F_mark.keep F2.1 (ninS ne_s_r (Ow.nin1 (Ne.symm ne_o_s)))
  have F_buf := F_buf.keep F2.1 (ninS ne_s_r (Ow.nin1 (Ne.symm ne_o_s)))
  have F_pos := F_pos.keep F2.1 (ninS ne_s_r (Ow.nin1 (Ne.symm ne_o_s)))
  have F_count := F_count.keep F2.1 (ninS ne_s_r (Ow.nin1 (Ne.symm ne_o_s)))
  have F_name := F_name.keep F2.1 (ninS ne_s_r (Ow.nin1 (Ne.symm ne_o_s)))
  obtain ⟨h_199, e_199⟩ : ∃ q, q = T.heap := ⟨_, rfl⟩
  rw [← e_199] at F B_t A_x A_s U_s F_mark F_buf F_pos F_count F_name B_o
  have eT : T.heap = h_199 := e_199.symm
  refine Ow.istore X hx (pc := 202) #[_, _, _, _, _, _, _, _, _, _, _, _, _, _, _, _, _, _, _, _, _, _, _, _, _] (hb hby at_202) rfl ?_
  refine Ow.aload X hx (pc := 204) (hb hby at_204) rfl rfl ?_
  refine Owl.callUB X hx hZ (Owl.backS (c_avail l Z a0 hw _ _ _ _ F_count F_pos) hZ (ww hw 107 rfl) (ww hw 105 rfl) (ww hw 43 rfl) U_s (by decide) (by decide)) eT hown (ww hw 102 rfl) (ww hw 103 rfl) (ww hw 104 rfl) (ww hw 106 rfl) (ww hw 105 rfl) (by decide) pd11 (by rw [hml]; rfl) A_s (argsL := []) rfl rfl rfl (pc := 206) (hb hby at_206) (by decide) (by decide) ?_
  rintro _ T L X ⟨rfl, eT, rfl⟩
  dsimp only [Option.toList_some, Option.toList_none, List.cons_append, List.nil_append]
  rw [List.append_nil] at X
  refine Ow.istore X hx (pc := 209) #[_, _, _, _, _, _, _, _, _, _, _, _, _, _, _, _, _, _, _, _, _, _, _, _, _] (hb hby at_209) rfl ?_
  refine Ow.iload X hx (pc := 211) (hb hby at_211) rfl ?_
  refine Ow.if_ne X hx (pc := 213) (pc' := 220) (hb hby at_213) (by decide) (by decide) (fun q => absurd rfl q) (fun h213 => ?_)
  refine Ow.iconst X hx (pc := 216) (-1) (hb hby at_216) (by decide) ?_
  refine Ow.goto X hx (pc := 217) (pc' := 222) (hb hby at_217) (by decide) (by decide) ?_
  refine Ow.istore X hx (pc := 222) #[_, _, _, _, _, _, _, _, _, _, _, _, _, _, _, _, _, _, _, _, _, _, _, _, _] (hb hby at_222) rfl ?_
  refine Ow.iconst X hx (pc := 224) (1) (hb hby at_224) (by decide) ?_
  refine Ow.istore X hx (pc := 225) #[_, _, _, _, _, _, _, _, _, _, _, _, _, _, _, _, _, _, _, _, _, _, _, _, _] (hb hby at_225) rfl ?_
  refine Ow.iload X hx (pc := 227) (hb hby at_227) rfl ?_
  refine Ow.iconst X hx (pc := 229) (1) (hb hby at_229) (by decide) ?_
  refine Ow.icmp_lt X hx (pc := 230) (pc' := 245) (hb hby at_230) (by decide) (by decide) (fun h230 => ?_) (fun q => absurd (by decide) q)
  refine Ow.iload X hx (pc := 245) (hb hby at_245) rfl ?_
  refine Ow.iconst X hx (pc := 247) (2) (hb hby at_247) (by decide) ?_
  refine Ow.icmp_lt X hx (pc := 248) (pc' := 263) (hb hby at_248) (by decide) (by decide) (fun h248 => ?_) (fun q => absurd (by decide) q)
  refine Ow.iload X hx (pc := 263) (hb hby at_263) rfl ?_
  refine Ow.iconst X hx (pc := 265) (3) (hb hby at_265) (by decide) ?_
  refine Ow.icmp_lt X hx (pc := 266) (pc' := 281) (hb hby at_266) (by decide) (by decide) (fun h266 => ?_) (fun q => absurd (by decide) q)
  refine Ow.iload X hx (pc := 281) (hb hby at_281) rfl ?_
  refine Ow.iconst X hx (pc := 283) (1) (hb hby at_283) (by decide) ?_
  refine Ow.icmp_ge X hx (pc := 284) (pc' := 297) (hb hby at_284) (by decide) (by decide) (fun q => absurd (by decide) q) (fun h284 => ?_)
  refine Ow.aload X hx (pc := 287) (hb hby at_287) rfl rfl ?_
  refine Ow.iconst X hx (pc := 289) (0) (hb hby at_289) (by decide) ?_
  refine Ow.baloadL X hx hZ eT B_o 0 (.int 0) (by decide) (by decide) rfl (pc := 290) (hb hby at_290) ?_
  refine Ow.if_eq X hx (pc := 291) (pc' := 297) (hb hby at_291) (by decide) (by decide) (fun h291 => ?_) (fun q => absurd rfl q)
  refine Ow.iload X hx (pc := 297) (hb hby at_297) rfl ?_
  refine Ow.iconst X hx (pc := 299) (2) (hb hby at_299) (by decide) ?_
  refine Ow.icmp_ge X hx (pc := 300) (pc' := 313) (hb hby at_300) (by decide) (by decide) (fun q => absurd (by decide) q) (fun h300 => ?_)
  refine Ow.aload X hx (pc := 303) (hb hby at_303) rfl rfl ?_
  refine Ow.iconst X hx (pc := 305) (1) (hb hby at_305) (by decide) ?_
  refine Ow.baloadL X hx hZ eT B_o 1 (.int 0) (by decide) (by decide) rfl (pc := 306) (hb hby at_306) ?_
  refine Ow.if_eq X hx (pc := 307) (pc' := 313) (hb hby at_307) (by decide) (by decide) (fun h307 => ?_) (fun q => absurd rfl q)
  refine Ow.iload X hx (pc := 313) (hb hby at_313) rfl ?_
  refine Ow.iconst X hx (pc := 315) (3) (hb hby at_315) (by decide) ?_
  refine Ow.icmp_ge X hx (pc := 316) (pc' := 329) (hb hby at_316) (by decide) (by decide) (fun q => absurd (by decide) q) (fun h316 => ?_)
  refine Ow.aload X hx (pc := 319) (hb hby at_319) rfl rfl ?_
  refine Ow.iconst X hx (pc := 321) (2) (hb hby at_321) (by decide) ?_
  refine Ow.baloadL X hx hZ eT B_o 2 (.int 0) (by decide) (by decide) rfl (pc := 322) (hb hby at_322) ?_
  refine Ow.if_eq X hx (pc := 323) (pc' := 329) (hb hby at_323) (by decide) (by decide) (fun h323 => ?_) (fun q => absurd rfl q)
  refine Ow.aload X hx (pc := 329) (hb hby at_329) rfl rfl ?_
  refine Ow.iconst X hx (pc := 331) (3) (hb hby at_331) (by decide) ?_
  refine Ow.baloadL X hx hZ eT B_o 3 (.int 0) (by decide) (by decide) rfl (pc := 332) (hb hby at_332) ?_
  refine Ow.if_eq X hx (pc := 333) (pc' := 339) (hb hby at_333) (by decide) (by decide) (fun h333 => ?_) (fun q => absurd rfl q)
  refine Ow.iload X hx (pc := 339) (hb hby at_339) rfl ?_
  refine Ow.if_eq X hx (pc := 341) (pc' := 379) (hb hby at_341) (by decide) (by decide) (fun q => absurd q (by decide)) (fun h341 => ?_)
  refine Ow.lload X hx (pc := 344) (hb hby at_344) rfl ?_
  refine Ow.lload X hx (pc := 346) (hb hby at_346) rfl ?_
  refine Ow.lcmp X hx (pc := 348) (hb hby at_348) ?_
  refine Ow.if_ne X hx (pc := 349) (pc' := 379) (hb hby at_349) (by decide) (by decide) (fun q => absurd (own_cmp_self _) q) (fun h349 => ?_)
  refine Ow.iload X hx (pc := 352) (hb hby at_352) rfl ?_
  refine Ow.iload X hx (pc := 354) (hb hby at_354) rfl ?_
  refine Ow.icmp_ne X hx (pc := 356) (pc' := 379) (hb hby at_356) (by decide) (by decide) (fun q => absurd rfl q) (fun h356 => ?_)
  refine Ow.iload X hx (pc := 359) (hb hby at_359) rfl ?_
  refine Ow.if_eq X hx (pc := 361) (pc' := 379) (hb hby at_361) (by decide) (by decide) (fun q => absurd q (by decide)) (fun h361 => ?_)
  refine Ow.iload X hx (pc := 364) (hb hby at_364) rfl ?_
  refine Ow.iload X hx (pc := 366) (hb hby at_366) rfl ?_
  refine Ow.lload X hx (pc := 368) (hb hby at_368) rfl ?_
  refine Ow.l2i X hx (pc := 370) (hb hby at_370) ?_
  rw [own_l2i]
  refine Ow.isub X hx (pc := 371) (hb hby at_371) ?_
  refine Ow.icmp_ne X hx (pc := 372) (pc' := 379) (hb hby at_372) (by decide) (by decide) (fun q => absurd rfl q) (fun h372 => ?_)
  refine Ow.iconst X hx (pc := 375) (1) (hb hby at_375) (by decide) ?_
  refine Ow.goto X hx (pc := 376) (pc' := 380) (hb hby at_376) (by decide) (by decide) ?_
  exact Ow.nreturn X hx hlk hret (Or.inl rfl) (hb hby at_380) ⟨rfl, by rw [eT]; exact F⟩ (by decide) (by decide)
set_option maxRecDepth 65536 in
set_option maxHeartbeats 40000000 in
theorem law_10 (l : Launch) (Z : State) (a0 : Array Value) (hw : ∀ d ∈ tables_1, d.before a0 Z = true) (h0 : Heap) (z p0 p1 p2 p3 : Int32) (S : Sta Z h0 "java/lang/String" "COMPACT_STRINGS" "Z" (.int z)) (hz : ¬ z = 0) (hn3 : p0 &&& 3 = 1) (h10 : ¬ (p0 >>> ((2 : Int32) &&& 31)) &&& 1 = 0) : Ow.Pay l Z x code maxLocals ret room_1 #[(.int p0), (.int p1), (.int p2), (.int p3)] h0 (fun v h L => v = some (.int 1) ∧ Ow.Eff h0 h [] L) := by
  refine Ow.Pay.of (Ls := #[.val (.int p0), .val (.int p1), .val (.int p2), .val (.int p3), .unset, .unset, .unset, .unset, .unset, .unset, .unset, .unset, .unset, .unset, .unset, .unset, .unset, .unset, .unset, .unset, .unset, .unset, .unset, .unset, .unset]) (plainFor_of_name pn0) (fun m => by first | (simp [entryFrame, mkF, argsToLocals, Value.category, maxLocals]; done) | rfl) ?_
  intro p e s m below meth c T hx hby hml hown hnm hme hZ hret hlk X eT
  obtain ⟨ka, hka⟩ := own_mask8 p3
  obtain ⟨kc, hkc⟩ := own_mask8 (p3 >>> ((8 : Int32) &&& 31))
  obtain ⟨b0, hb0⟩ : ∃ q, q = p1.toInt8.toInt32 := ⟨_, rfl⟩
  obtain ⟨b1, hb1⟩ : ∃ q, q = (p1 >>> ((8 : Int32) &&& 31)).toInt8.toInt32 := ⟨_, rfl⟩
  obtain ⟨b2, hb2⟩ : ∃ q, q = (p1 >>> ((16 : Int32) &&& 31)).toInt8.toInt32 := ⟨_, rfl⟩
  have H8 : ∀ c ∈ [Int32.ofNat ka.val, Int32.ofNat kc.val], ∃ k : Fin 256, c = Int32.ofNat k.val := fun c hc => by
    simp only [List.mem_cons, List.not_mem_nil, or_false] at hc
    rcases hc with rfl | rfl
    · exact ⟨ka, rfl⟩
    · exact ⟨kc, rfl⟩
  have HF1 : ∀ v ∈ ([.int b0] : List Value), fits .byte v = true := fun v hv => by
    simp only [List.mem_cons, List.not_mem_nil, or_false] at hv
    rcases hv with rfl
    · rw [hb0]; exact own_fitB _
  have F := Ow.Eff.refl h0 []
  refine Ow.iloadN X hx (pc := 0) (hb hby at_0) rfl ?_
  refine Ow.iconst X hx (pc := 1) (3) (hb hby at_1) (by decide) ?_
  refine Ow.iand X hx (pc := 2) (hb hby at_2) ?_
  rw [hn3]
  refine Ow.istore X hx (pc := 3) #[_, _, _, _, _, _, _, _, _, _, _, _, _, _, _, _, _, _, _, _, _, _, _, _, _] (hb hby at_3) rfl ?_
  refine Ow.iloadN X hx (pc := 5) (hb hby at_5) rfl ?_
  refine Ow.iconst X hx (pc := 6) (2) (hb hby at_6) (by decide) ?_
  refine Ow.ishr X hx (pc := 7) (hb hby at_7) ?_
  refine Ow.iconst X hx (pc := 8) (1) (hb hby at_8) (by decide) ?_
  refine Ow.iand X hx (pc := 9) (hb hby at_9) ?_
  refine Ow.if_eq X hx (pc := 10) (pc' := 17) (hb hby at_10) (by decide) (by decide) (fun q => absurd q h10) (fun _ => ?_)
  refine Ow.iconst X hx (pc := 13) (1) (hb hby at_13) (by decide) ?_
  refine Ow.goto X hx (pc := 14) (pc' := 18) (hb hby at_14) (by decide) (by decide) ?_
  refine Ow.istore X hx (pc := 18) #[_, _, _, _, _, _, _, _, _, _, _, _, _, _, _, _, _, _, _, _, _, _, _, _, _] (hb hby at_18) rfl ?_
  refine Ow.iloadN X hx (pc := 20) (hb hby at_20) rfl ?_
  refine Ow.i2b X hx (pc := 21) (hb hby at_21) ?_
  rw [← hb0]
  refine Ow.istore X hx (pc := 22) #[_, _, _, _, _, _, _, _, _, _, _, _, _, _, _, _, _, _, _, _, _, _, _, _, _] (hb hby at_22) rfl ?_
  refine Ow.iloadN X hx (pc := 24) (hb hby at_24) rfl ?_
  refine Ow.bipush X hx (pc := 25) (8) (hb hby at_25) (by decide) ?_
  refine Ow.ishr X hx (pc := 27) (hb hby at_27) ?_
  refine Ow.i2b X hx (pc := 28) (hb hby at_28) ?_
  rw [← hb1]
  refine Ow.istore X hx (pc := 29) #[_, _, _, _, _, _, _, _, _, _, _, _, _, _, _, _, _, _, _, _, _, _, _, _, _] (hb hby at_29) rfl ?_
  refine Ow.iloadN X hx (pc := 31) (hb hby at_31) rfl ?_
  refine Ow.bipush X hx (pc := 32) (16) (hb hby at_32) (by decide) ?_
  refine Ow.ishr X hx (pc := 34) (hb hby at_34) ?_
  refine Ow.i2b X hx (pc := 35) (hb hby at_35) ?_
  rw [← hb2]
  refine Ow.istore X hx (pc := 36) #[_, _, _, _, _, _, _, _, _, _, _, _, _, _, _, _, _, _, _, _, _, _, _, _, _] (hb hby at_36) rfl ?_
  refine Ow.iload X hx (pc := 38) (hb hby at_38) rfl ?_
  refine Ow.iload X hx (pc := 40) (hb hby at_40) rfl ?_
  refine Ow.iload X hx (pc := 42) (hb hby at_42) rfl ?_
  refine Ow.iload X hx (pc := 44) (hb hby at_44) rfl ?_
  refine Ow.callS X hx hZ (c_make1 l Z a0 hw _ b0 b1 b2 (hb0 ▸ own_nb _) (hb1 ▸ own_nb _) (hb2 ▸ own_nb _)) eT hown (ww hw 0 rfl) (ww hw 1 rfl) (ww hw 2 rfl) (ww hw 3 rfl) (by decide) pd6 (by rw [hml]; rfl) (argsL := [_, _, _, _]) rfl rfl rfl (pc := 46) (hb hby at_46) rfl rfl (by decide) (by decide) ?_
  rintro _ T L X ⟨t, kt, rfl, F2, l_t, B_t⟩
  dsimp only [Option.toList_some, Option.toList_none, List.cons_append, List.nil_append]
  have l_t := Nat.le_trans F.size l_t
  have F := F.call F2 (fun _ q => nomatch q)
  have S := S.ext (Ow.Keep.ext0 F2.1)
  obtain ⟨h_46, e_46⟩ : ∃ q, q = T.heap := ⟨_, rfl⟩
  rw [← e_46] at F S B_t
  have eT : T.heap = h_46 := e_46.symm
  refine Ow.astore X hx (pc := 49) #[_, _, _, _, _, _, _, _, _, _, _, _, _, _, _, _, _, _, _, _, _, _, _, _, _] (hb hby at_49) rfl rfl ?_
  refine Ow.iconst X hx (pc := 51) (2) (hb hby at_51) (by decide) ?_
  refine Ow.newarrayL X hx hZ (ww hw 5 rfl) eT 2 (vs := [_, _]) rfl (pc := 52) (hb hby at_52) (by decide) (by decide) (by decide) (by decide) (by decide) ?_
  intro T h_cA k_cA cA ha_cA X eT E_cA B_cA
  have l_cA : h0.size ≤ cA := by rw [ha_cA]; exact F.size
  have ne_t_cA : t ≠ cA := by rw [ha_cA]; exact Nat.ne_of_lt B_t.lt
  have S := S.ext E_cA
  have B_t := B_t.ext E_cA
  have F := F.ext E_cA
  refine Ow.astore X hx (pc := 54) #[_, _, _, _, _, _, _, _, _, _, _, _, _, _, _, _, _, _, _, _, _, _, _, _, _] (hb hby at_54) rfl rfl ?_
  refine Ow.aload X hx (pc := 56) (hb hby at_56) rfl rfl ?_
  refine Ow.iconst X hx (pc := 58) (0) (hb hby at_58) (by decide) ?_
  refine Ow.iloadN X hx (pc := 59) (hb hby at_59) rfl ?_
  refine Ow.sipush X hx (pc := 60) (255) (hb hby at_60) (by decide) ?_
  refine Ow.iand X hx (pc := 63) (hb hby at_63) ?_
  refine Ow.i2c X hx (pc := 64) (hb hby at_64) ?_
  rw [hka, (own_ch8 ka).2.2.2]
  refine Ow.castoreL X hx hZ eT B_cA 0 [_, _] (by decide) (by decide) rfl rfl (pc := 65) (hb hby at_65) ?_
  intro T h_65 X eT W_65 B_cA
  rw [(own_ch8 ka).2.2.1] at B_cA W_65
  have S := S.wr W_65
  have B_t := B_t.other W_65 ne_t_cA
  have F := F.wr W_65 (Or.inr l_cA)
  refine Ow.aload X hx (pc := 66) (hb hby at_66) rfl rfl ?_
  refine Ow.iconst X hx (pc := 68) (1) (hb hby at_68) (by decide) ?_
  refine Ow.iloadN X hx (pc := 69) (hb hby at_69) rfl ?_
  refine Ow.bipush X hx (pc := 70) (8) (hb hby at_70) (by decide) ?_
  refine Ow.ishr X hx (pc := 72) (hb hby at_72) ?_
  refine Ow.sipush X hx (pc := 73) (255) (hb hby at_73) (by decide) ?_
  refine Ow.iand X hx (pc := 76) (hb hby at_76) ?_
  refine Ow.i2c X hx (pc := 77) (hb hby at_77) ?_
  rw [hkc, (own_ch8 kc).2.2.2]
  refine Ow.castoreL X hx hZ eT B_cA 1 [_, _] (by decide) (by decide) rfl rfl (pc := 78) (hb hby at_78) ?_
  intro T h_78 X eT W_78 B_cA
  rw [(own_ch8 kc).2.2.1] at B_cA W_78
  have S := S.wr W_78
  have B_t := B_t.other W_78 ne_t_cA
  have F := F.wr W_78 (Or.inr l_cA)
  refine Ow.iload X hx (pc := 79) (hb hby at_79) rfl ?_
  refine Ow.if_eq X hx (pc := 81) (pc' := 88) (hb hby at_81) (by decide) (by decide) (fun q => absurd q (by decide)) (fun h81 => ?_)
  refine Ow.aconst_null X hx (pc := 84) (hb hby at_84) ?_
  refine Ow.goto X hx (pc := 85) (pc' := 97) (hb hby at_85) (by decide) (by decide) ?_
  refine Ow.astore X hx (pc := 97) #[_, _, _, _, _, _, _, _, _, _, _, _, _, _, _, _, _, _, _, _, _, _, _, _, _] (hb hby at_97) rfl rfl ?_
  refine Ow.iconst X hx (pc := 99) (4) (hb hby at_99) (by decide) ?_
  refine Ow.newarrayL X hx hZ (ww hw 4 rfl) eT 4 (vs := [_, _, _, _]) rfl (pc := 100) (hb hby at_100) (by decide) (by decide) (by decide) (by decide) (by decide) ?_
  intro T h_o k_o o ha_o X eT E_o B_o
  have l_o : h0.size ≤ o := by rw [ha_o]; exact F.size
  have ne_t_o : t ≠ o := by rw [ha_o]; exact Nat.ne_of_lt B_t.lt
  have S := S.ext E_o
  have B_t := B_t.ext E_o
  have F := F.ext E_o
  refine Ow.astore X hx (pc := 102) #[_, _, _, _, _, _, _, _, _, _, _, _, _, _, _, _, _, _, _, _, _, _, _, _, _] (hb hby at_102) rfl rfl ?_
  refine Ow.new_ X hx hZ hown (ww hw 34 rfl) (ww hw 35 rfl) (ww hw 36 rfl) eT (pc := 104) (hb hby at_104) (by decide) (by decide) ?_
  intro T h_s s ha_s X eT E_s A_s D_s U_s
  have l_s : h0.size ≤ s := by rw [ha_s]; exact F.size
  have ne_t_s : t ≠ s := by rw [ha_s]; exact Nat.ne_of_lt B_t.lt
  have ne_o_s : o ≠ s := by rw [ha_s]; exact Nat.ne_of_lt B_o.lt
  have S := S.ext E_s
  have B_t := B_t.ext E_s
  have B_o := B_o.ext E_s
  have F := F.ext E_s
  have F_mark := D_s (Or.inl (ww hw 53 rfl)) (ty := .int) (by decide)
  have F_buf := D_s (Or.inl (ww hw 55 rfl)) (ty := (.array .byte)) (by decide)
  have F_pos := D_s (Or.inl (ww hw 57 rfl)) (ty := .int) (by decide)
  have F_count := D_s (Or.inl (ww hw 59 rfl)) (ty := .int) (by decide)
  have F_name := D_s (Or.inr (ww hw 61 rfl)) (ty := (.object "java/lang/String")) (by decide)
  refine Ow.dup X hx (pc := 107) (hb hby at_107) rfl ?_
  refine Ow.aload X hx (pc := 108) (hb hby at_108) rfl rfl ?_
  refine Ow.aload X hx (pc := 110) (hb hby at_110) rfl rfl ?_
  refine Ow.callI X hx hZ (c_ns0 l Z a0 hw _ _ _ 0 _ _ ne_t_s A_s U_s F_mark F_buf F_pos F_count F_name B_t) eT rfl hown (ww hw 37 rfl) (ww hw 38 rfl) (ww hw 36 rfl) (ww hw 39 rfl) (by decide) pd3 (by rw [hml]; rfl) (argsL := [_, _]) rfl rfl rfl (pc := 112) (hb hby at_112) rfl rfl (by decide) (by decide) ?_
  rintro _ T L X ⟨rfl, F2, A_s, U_s, F_mark, F_buf, F_pos, F_count, F_name⟩
  dsimp only [Option.toList_some, Option.toList_none, List.cons_append, List.nil_append]
  have F := F.call F2 (fun y hy => by cases List.mem_singleton.mp hy; exact Or.inr l_s)
  have B_t := B_t.keep F2.1 (Ow.nin1 ne_t_s)
  have B_o := B_o.keep F2.1 (Ow.nin1 ne_o_s)
  obtain ⟨h_112, e_112⟩ : ∃ q, q = T.heap := ⟨_, rfl⟩
  rw [← e_112] at F B_t B_o A_s U_s F_mark F_buf F_pos F_count F_name
  have eT : T.heap = h_112 := e_112.symm
  have hy125 : (1 + 1 : Int32) ≠ 0 := by decide
  obtain ⟨j, hjl, hj⟩ := own_rem p2 (1 + 1) (by decide)
  have hjl : j ≤ 1 := by
    have e : (1 + 1 : Int32).toInt = 2 := by decide
    rw [e] at hjl
    omega
  refine Ow.astore X hx (pc := 115) #[_, _, _, _, _, _, _, _, _, _, _, _, _, _, _, _, _, _, _, _, _, _, _, _, _] (hb hby at_115) rfl rfl ?_
  refine Ow.iloadN X hx (pc := 117) (hb hby at_117) rfl ?_
  refine Ow.ldcI X hx (pc := 118) (2147483647) (hb hby at_118) hown (mvT hZ (ww hw 62 rfl)) ?_
  refine Ow.iand X hx (pc := 120) (hb hby at_120) ?_
  refine Ow.iload X hx (pc := 121) (hb hby at_121) rfl ?_
  refine Ow.iconst X hx (pc := 123) (1) (hb hby at_123) (by decide) ?_
  refine Ow.iadd X hx (pc := 124) (hb hby at_124) ?_
  refine Ow.irem X hx (pc := 125) (hb hby at_125) hy125 ?_
  rw [hj]
  refine Ow.i2l X hx (pc := 126) (hb hby at_126) ?_
  refine Ow.lstore X hx (pc := 127) #[_, _, _, _, _, _, _, _, _, _, _, _, _, _, _, _, _, _, _, _, _, _, _, _, _] (hb hby at_127) rfl ?_
  refine Ow.aload X hx (pc := 129) (hb hby at_129) rfl rfl ?_
  refine Ow.lload X hx (pc := 131) (hb hby at_131) rfl ?_
  refine Owl.callUB X hx hZ (Owl.backS (c_skip0 l Z a0 hw _ _ t 0 1 j (by decide) hjl A_s U_s F_mark F_buf F_pos F_count F_name) hZ (ww hw 68 rfl) (ww hw 66 rfl) (ww hw 43 rfl) U_s (by decide) (by decide)) eT hown (ww hw 63 rfl) (ww hw 64 rfl) (ww hw 65 rfl) (ww hw 67 rfl) (ww hw 66 rfl) (by decide) pd7 (by rw [hml]; rfl) A_s (argsL := [_]) rfl rfl rfl (pc := 133) (hb hby at_133) (by decide) (by decide) ?_
  rintro _ T L X ⟨rfl, F2, A_s, U_s, F_mark, F_buf, F_pos, F_count, F_name⟩
  dsimp only [Option.toList_some, Option.toList_none, List.cons_append, List.nil_append]
  have F := F.call F2 (fun y hy => by cases List.mem_singleton.mp hy; exact Or.inr l_s)
  have B_t := B_t.keep F2.1 (Ow.nin1 ne_t_s)
  have B_o := B_o.keep F2.1 (Ow.nin1 ne_o_s)
  obtain ⟨h_133, e_133⟩ : ∃ q, q = T.heap := ⟨_, rfl⟩
  rw [← e_133] at F B_t B_o A_s U_s F_mark F_buf F_pos F_count F_name
  have eT : T.heap = h_133 := e_133.symm
  refine Ow.lstore X hx (pc := 136) #[_, _, _, _, _, _, _, _, _, _, _, _, _, _, _, _, _, _, _, _, _, _, _, _, _] (hb hby at_136) rfl ?_
  refine Ow.aload X hx (pc := 138) (hb hby at_138) rfl rfl ?_
  refine Ow.callV X hx hZ (c_reopened0 l Z a0 hw _ _ _ 0 _ _ F_buf F_name B_t) eT hown (ww hw 69 rfl) (ww hw 70 rfl) (ww hw 72 rfl) (ww hw 71 rfl) (ww hw 36 rfl) (ww hw 73 rfl) (by decide) pd8 (by rw [hml]; rfl) A_s (argsL := []) rfl rfl rfl (pc := 140) (hb hby at_140) rfl rfl (by decide) (by decide) ?_
  rintro _ T L X ⟨r, rfl, F2, l_r, A_r, U_r, G_mark, G_buf, G_pos, G_count, G_name⟩
  dsimp only [Option.toList_some, Option.toList_none, List.cons_append, List.nil_append]
  have h0r := Nat.le_trans F.size l_r
  have ne_t_r : t ≠ r := Nat.ne_of_lt (Nat.lt_of_lt_of_le B_t.lt l_r)
  have ne_o_r : o ≠ r := Nat.ne_of_lt (Nat.lt_of_lt_of_le B_o.lt l_r)
  have ne_s_r : s ≠ r := Nat.ne_of_lt (Nat.lt_of_lt_of_le A_s.lt l_r)
  have F := F.call F2 (fun _ q => nomatch q)
  have B_t := B_t.ext (Ow.Keep.ext0 F2.1)
  have B_o := B_o.ext (Ow.Keep.ext0 F2.1)
  have A_s := A_s.ext (Ow.Keep.ext0 F2.1)
  have U_s := U_s.ext (Ow.Keep.ext0 F2.1)
  have F_mark := F_mark.ext (Ow.Keep.ext0 F2.1)
  have F_buf := F_buf.ext (Ow.Keep.ext0 F2.1)
  have F_pos := F_pos.ext (Ow.Keep.ext0 F2.1)
  have F_count := F_count.ext (Ow.Keep.ext0 F2.1)
  have F_name := F_name.ext (Ow.Keep.ext0 F2.1)
  obtain ⟨h_140, e_140⟩ : ∃ q, q = T.heap := ⟨_, rfl⟩
  rw [← e_140] at F B_t B_o A_s U_s F_mark F_buf F_pos F_count F_name A_r U_r G_mark G_buf G_pos G_count G_name
  have eT : T.heap = h_140 := e_140.symm
  refine Ow.astore X hx (pc := 143) #[_, _, _, _, _, _, _, _, _, _, _, _, _, _, _, _, _, _, _, _, _, _, _, _, _] (hb hby at_143) rfl rfl ?_
  refine Ow.aload X hx (pc := 145) (hb hby at_145) rfl rfl ?_
  refine Ow.ifnull_r X hx (pc := 147) (hb hby at_147) ?_
  refine Ow.aload X hx (pc := 150) (hb hby at_150) rfl rfl ?_
  refine Ow.aload X hx (pc := 152) (hb hby at_152) rfl rfl ?_
  refine Ow.acmp_ne X hx (pc := 154) (pc' := 159) (hb hby at_154) rfl rfl (by decide) (by decide) (fun h154 => ?_) (fun q => absurd (Value.ref.inj q) (Ne.symm ne_s_r))
  refine Ow.aload X hx (pc := 159) (hb hby at_159) rfl rfl ?_
  refine Ow.callVP X hx hZ (c_name0 l Z a0 hw _ _ 0 G_name) rfl rfl eT hown (ww hw 78 rfl) (ww hw 79 rfl) (ww hw 81 rfl) (ww hw 80 rfl) (ww hw 36 rfl) (ww hw 82 rfl) (by decide) pd9 (by rw [hml]; rfl) A_r (argsL := []) rfl rfl rfl (pc := 161) (hb hby at_161) rfl rfl (by decide) (by decide) ?_   -- com/example/eunomia/eunomia/xml/NamedStream.name:()Ljava/lang/String;
  intro T X eT
  dsimp only [Option.toList_some, Option.toList_none, List.cons_append, List.nil_append]
  refine Ow.astore X hx (pc := 164) #[_, _, _, _, _, _, _, _, _, _, _, _, _, _, _, _, _, _, _, _, _, _, _, _, _] (hb hby at_164) rfl rfl ?_
  refine Ow.aload X hx (pc := 166) (hb hby at_166) rfl rfl ?_
  refine Ow.ifnonnull_n X hx (pc := 168) (hb hby at_168) ?_
  refine Ow.aload X hx (pc := 171) (hb hby at_171) rfl rfl ?_
  refine Ow.ifnonnull_n X hx (pc := 173) (hb hby at_173) ?_
  refine Ow.iconst X hx (pc := 176) (1) (hb hby at_176) (by decide) ?_
  refine Ow.goto X hx (pc := 177) (pc' := 191) (hb hby at_177) (by decide) (by decide) ?_
  refine Ow.istore X hx (pc := 191) #[_, _, _, _, _, _, _, _, _, _, _, _, _, _, _, _, _, _, _, _, _, _, _, _, _] (hb hby at_191) rfl ?_
  refine Ow.aload X hx (pc := 193) (hb hby at_193) rfl rfl ?_
  refine Ow.aload X hx (pc := 195) (hb hby at_195) rfl rfl ?_
  refine Ow.iconst X hx (pc := 197) (0) (hb hby at_197) (by decide) ?_
  refine Ow.iconst X hx (pc := 198) (4) (hb hby at_198) (by decide) ?_
  refine Owl.callUB X hx hZ (Owl.backS (c_read10 l Z a0 hw _ r o t 0 _ _ b0 b1 b2 (Ne.symm ne_o_r) HF1 A_r G_mark G_buf G_pos G_count G_name B_t B_o) hZ (ww hw 93 rfl) (ww hw 91 rfl) (ww hw 43 rfl) U_r (by decide) (by decide)) eT hown (ww hw 88 rfl) (ww hw 89 rfl) (ww hw 90 rfl) (ww hw 92 rfl) (ww hw 91 rfl) (by decide) pd10 (by rw [hml]; rfl) A_r (argsL := [_, _, _]) rfl rfl rfl (pc := 199) (hb hby at_199) (by decide) (by decide) ?_
  rintro _ T L X ⟨rfl, F2, B_o⟩
  dsimp only [Option.toList_some, Option.toList_none, List.cons_append, List.nil_append]
  have F := F.call F2 (fun y hy => by
    simp only [List.mem_cons, List.not_mem_nil, or_false] at hy
    rcases hy with rfl | rfl
    · exact Or.inr h0r
    · exact Or.inr l_o)
  have B_t := B_t.keep F2.1 (ninS ne_t_r (Ow.nin1 ne_t_o))
  have A_s := A_s.keep F2.1
  have U_s := Unt.keep F2.1 (ninS ne_s_r (Ow.nin1 (Ne.symm ne_o_s))) U_s
  have F_mark := F_mark.keep F2.1 (ninS ne_s_r (Ow.nin1 (Ne.symm ne_o_s)))
  have F_buf := F_buf.keep F2.1 (ninS ne_s_r (Ow.nin1 (Ne.symm ne_o_s)))
  have F_pos := F_pos.keep F2.1 (ninS ne_s_r (Ow.nin1 (Ne.symm ne_o_s)))
  have F_count := F_count.keep F2.1 (ninS ne_s_r (Ow.nin1 (Ne.symm ne_o_s)))
  have F_name := F_name.keep F2.1 (ninS ne_s_r (Ow.nin1 (Ne.symm ne_o_s)))
  obtain ⟨h_199, e_199⟩ : ∃ q, q = T.heap := ⟨_, rfl⟩
  rw [← e_199] at F B_t A_s U_s F_mark F_buf F_pos F_count F_name B_o
  have eT : T.heap = h_199 := e_199.symm
  refine Ow.istore X hx (pc := 202) #[_, _, _, _, _, _, _, _, _, _, _, _, _, _, _, _, _, _, _, _, _, _, _, _, _] (hb hby at_202) rfl ?_
  refine Ow.aload X hx (pc := 204) (hb hby at_204) rfl rfl ?_
  refine Owl.callUB X hx hZ (Owl.backS (c_avail l Z a0 hw _ _ _ _ F_count F_pos) hZ (ww hw 107 rfl) (ww hw 105 rfl) (ww hw 43 rfl) U_s (by decide) (by decide)) eT hown (ww hw 102 rfl) (ww hw 103 rfl) (ww hw 104 rfl) (ww hw 106 rfl) (ww hw 105 rfl) (by decide) pd11 (by rw [hml]; rfl) A_s (argsL := []) rfl rfl rfl (pc := 206) (hb hby at_206) (by decide) (by decide) ?_
  rintro _ T L X ⟨rfl, eT, rfl⟩
  dsimp only [Option.toList_some, Option.toList_none, List.cons_append, List.nil_append]
  rw [List.append_nil] at X
  refine Ow.istore X hx (pc := 209) #[_, _, _, _, _, _, _, _, _, _, _, _, _, _, _, _, _, _, _, _, _, _, _, _, _] (hb hby at_209) rfl ?_
  refine Ow.iload X hx (pc := 211) (hb hby at_211) rfl ?_
  refine Ow.if_ne X hx (pc := 213) (pc' := 220) (hb hby at_213) (by decide) (by decide) (fun h213 => ?_) (fun q => absurd q (by decide))
  refine Ow.iload X hx (pc := 220) (hb hby at_220) rfl ?_
  refine Ow.istore X hx (pc := 222) #[_, _, _, _, _, _, _, _, _, _, _, _, _, _, _, _, _, _, _, _, _, _, _, _, _] (hb hby at_222) rfl ?_
  refine Ow.iconst X hx (pc := 224) (1) (hb hby at_224) (by decide) ?_
  refine Ow.istore X hx (pc := 225) #[_, _, _, _, _, _, _, _, _, _, _, _, _, _, _, _, _, _, _, _, _, _, _, _, _] (hb hby at_225) rfl ?_
  refine Ow.iload X hx (pc := 227) (hb hby at_227) rfl ?_
  refine Ow.iconst X hx (pc := 229) (1) (hb hby at_229) (by decide) ?_
  refine Ow.icmp_lt X hx (pc := 230) (pc' := 245) (hb hby at_230) (by decide) (by decide) (fun q => absurd q (by decide)) (fun h230 => ?_)
  refine Ow.aload X hx (pc := 233) (hb hby at_233) rfl rfl ?_
  refine Ow.iconst X hx (pc := 235) (0) (hb hby at_235) (by decide) ?_
  refine Ow.baloadL X hx hZ eT B_o 0 (.int b0) (by decide) (by decide) rfl (pc := 236) (hb hby at_236) ?_
  refine Ow.iload X hx (pc := 237) (hb hby at_237) rfl ?_
  refine Ow.icmp_eq X hx (pc := 239) (pc' := 245) (hb hby at_239) (by decide) (by decide) (fun h239 => ?_) (fun q => absurd rfl q)
  refine Ow.iload X hx (pc := 245) (hb hby at_245) rfl ?_
  refine Ow.iconst X hx (pc := 247) (2) (hb hby at_247) (by decide) ?_
  refine Ow.icmp_lt X hx (pc := 248) (pc' := 263) (hb hby at_248) (by decide) (by decide) (fun h248 => ?_) (fun q => absurd (by decide) q)
  refine Ow.iload X hx (pc := 263) (hb hby at_263) rfl ?_
  refine Ow.iconst X hx (pc := 265) (3) (hb hby at_265) (by decide) ?_
  refine Ow.icmp_lt X hx (pc := 266) (pc' := 281) (hb hby at_266) (by decide) (by decide) (fun h266 => ?_) (fun q => absurd (by decide) q)
  refine Ow.iload X hx (pc := 281) (hb hby at_281) rfl ?_
  refine Ow.iconst X hx (pc := 283) (1) (hb hby at_283) (by decide) ?_
  refine Ow.icmp_ge X hx (pc := 284) (pc' := 297) (hb hby at_284) (by decide) (by decide) (fun h284 => ?_) (fun q => absurd q (by decide))
  refine Ow.iload X hx (pc := 297) (hb hby at_297) rfl ?_
  refine Ow.iconst X hx (pc := 299) (2) (hb hby at_299) (by decide) ?_
  refine Ow.icmp_ge X hx (pc := 300) (pc' := 313) (hb hby at_300) (by decide) (by decide) (fun q => absurd (by decide) q) (fun h300 => ?_)
  refine Ow.aload X hx (pc := 303) (hb hby at_303) rfl rfl ?_
  refine Ow.iconst X hx (pc := 305) (1) (hb hby at_305) (by decide) ?_
  refine Ow.baloadL X hx hZ eT B_o 1 (.int 0) (by decide) (by decide) rfl (pc := 306) (hb hby at_306) ?_
  refine Ow.if_eq X hx (pc := 307) (pc' := 313) (hb hby at_307) (by decide) (by decide) (fun h307 => ?_) (fun q => absurd rfl q)
  refine Ow.iload X hx (pc := 313) (hb hby at_313) rfl ?_
  refine Ow.iconst X hx (pc := 315) (3) (hb hby at_315) (by decide) ?_
  refine Ow.icmp_ge X hx (pc := 316) (pc' := 329) (hb hby at_316) (by decide) (by decide) (fun q => absurd (by decide) q) (fun h316 => ?_)
  refine Ow.aload X hx (pc := 319) (hb hby at_319) rfl rfl ?_
  refine Ow.iconst X hx (pc := 321) (2) (hb hby at_321) (by decide) ?_
  refine Ow.baloadL X hx hZ eT B_o 2 (.int 0) (by decide) (by decide) rfl (pc := 322) (hb hby at_322) ?_
  refine Ow.if_eq X hx (pc := 323) (pc' := 329) (hb hby at_323) (by decide) (by decide) (fun h323 => ?_) (fun q => absurd rfl q)
  refine Ow.aload X hx (pc := 329) (hb hby at_329) rfl rfl ?_
  refine Ow.iconst X hx (pc := 331) (3) (hb hby at_331) (by decide) ?_
  refine Ow.baloadL X hx hZ eT B_o 3 (.int 0) (by decide) (by decide) rfl (pc := 332) (hb hby at_332) ?_
  refine Ow.if_eq X hx (pc := 333) (pc' := 339) (hb hby at_333) (by decide) (by decide) (fun h333 => ?_) (fun q => absurd rfl q)
  refine Ow.iload X hx (pc := 339) (hb hby at_339) rfl ?_
  refine Ow.if_eq X hx (pc := 341) (pc' := 379) (hb hby at_341) (by decide) (by decide) (fun q => absurd q (by decide)) (fun h341 => ?_)
  refine Ow.lload X hx (pc := 344) (hb hby at_344) rfl ?_
  refine Ow.lload X hx (pc := 346) (hb hby at_346) rfl ?_
  refine Ow.lcmp X hx (pc := 348) (hb hby at_348) ?_
  refine Ow.if_ne X hx (pc := 349) (pc' := 379) (hb hby at_349) (by decide) (by decide) (fun q => absurd (own_cmp_self _) q) (fun h349 => ?_)
  refine Ow.iload X hx (pc := 352) (hb hby at_352) rfl ?_
  refine Ow.iload X hx (pc := 354) (hb hby at_354) rfl ?_
  refine Ow.icmp_ne X hx (pc := 356) (pc' := 379) (hb hby at_356) (by decide) (by decide) (fun q => absurd rfl q) (fun h356 => ?_)
  refine Ow.iload X hx (pc := 359) (hb hby at_359) rfl ?_
  refine Ow.if_eq X hx (pc := 361) (pc' := 379) (hb hby at_361) (by decide) (by decide) (fun q => absurd q (by decide)) (fun h361 => ?_)
  refine Ow.iload X hx (pc := 364) (hb hby at_364) rfl ?_
  refine Ow.iload X hx (pc := 366) (hb hby at_366) rfl ?_
  refine Ow.lload X hx (pc := 368) (hb hby at_368) rfl ?_
  refine Ow.l2i X hx (pc := 370) (hb hby at_370) ?_
  rw [own_l2i]
  refine Ow.isub X hx (pc := 371) (hb hby at_371) ?_
  refine Ow.icmp_ne X hx (pc := 372) (pc' := 379) (hb hby at_372) (by decide) (by decide) (fun q => absurd rfl q) (fun h372 => ?_)
  refine Ow.iconst X hx (pc := 375) (1) (hb hby at_375) (by decide) ?_
  refine Ow.goto X hx (pc := 376) (pc' := 380) (hb hby at_376) (by decide) (by decide) ?_
  exact Ow.nreturn X hx hlk hret (Or.inl rfl) (hb hby at_380) ⟨rfl, by rw [eT]; exact F⟩ (by decide) (by decide)
set_option maxRecDepth 65536 in
set_option maxHeartbeats 40000000 in
theorem law_11 (l : Launch) (Z : State) (a0 : Array Value) (hw : ∀ d ∈ tables_1, d.before a0 Z = true) (h0 : Heap) (z p0 p1 p2 p3 : Int32) (S : Sta Z h0 "java/lang/String" "COMPACT_STRINGS" "Z" (.int z)) (hz : ¬ z = 0) (hn3 : p0 &&& 3 = 1) (h10 : (p0 >>> ((2 : Int32) &&& 31)) &&& 1 = 0) : Ow.Pay l Z x code maxLocals ret room_1 #[(.int p0), (.int p1), (.int p2), (.int p3)] h0 (fun v h L => v = some (.int 1) ∧ Ow.Eff h0 h [] L) := by
  refine Ow.Pay.of (Ls := #[.val (.int p0), .val (.int p1), .val (.int p2), .val (.int p3), .unset, .unset, .unset, .unset, .unset, .unset, .unset, .unset, .unset, .unset, .unset, .unset, .unset, .unset, .unset, .unset, .unset, .unset, .unset, .unset, .unset]) (plainFor_of_name pn0) (fun m => by first | (simp [entryFrame, mkF, argsToLocals, Value.category, maxLocals]; done) | rfl) ?_
  intro p e s m below meth c T hx hby hml hown hnm hme hZ hret hlk X eT
  obtain ⟨ka, hka⟩ := own_mask8 p3
  obtain ⟨kc, hkc⟩ := own_mask8 (p3 >>> ((8 : Int32) &&& 31))
  obtain ⟨b0, hb0⟩ : ∃ q, q = p1.toInt8.toInt32 := ⟨_, rfl⟩
  obtain ⟨b1, hb1⟩ : ∃ q, q = (p1 >>> ((8 : Int32) &&& 31)).toInt8.toInt32 := ⟨_, rfl⟩
  obtain ⟨b2, hb2⟩ : ∃ q, q = (p1 >>> ((16 : Int32) &&& 31)).toInt8.toInt32 := ⟨_, rfl⟩
  have H8 : ∀ c ∈ [Int32.ofNat ka.val, Int32.ofNat kc.val], ∃ k : Fin 256, c = Int32.ofNat k.val := fun c hc => by
    simp only [List.mem_cons, List.not_mem_nil, or_false] at hc
    rcases hc with rfl | rfl
    · exact ⟨ka, rfl⟩
    · exact ⟨kc, rfl⟩
  have HF1 : ∀ v ∈ ([.int b0] : List Value), fits .byte v = true := fun v hv => by
    simp only [List.mem_cons, List.not_mem_nil, or_false] at hv
    rcases hv with rfl
    · rw [hb0]; exact own_fitB _
  have F := Ow.Eff.refl h0 []
  refine Ow.iloadN X hx (pc := 0) (hb hby at_0) rfl ?_
  refine Ow.iconst X hx (pc := 1) (3) (hb hby at_1) (by decide) ?_
  refine Ow.iand X hx (pc := 2) (hb hby at_2) ?_
  rw [hn3]
  refine Ow.istore X hx (pc := 3) #[_, _, _, _, _, _, _, _, _, _, _, _, _, _, _, _, _, _, _, _, _, _, _, _, _] (hb hby at_3) rfl ?_
  refine Ow.iloadN X hx (pc := 5) (hb hby at_5) rfl ?_
  refine Ow.iconst X hx (pc := 6) (2) (hb hby at_6) (by decide) ?_
  refine Ow.ishr X hx (pc := 7) (hb hby at_7) ?_
  refine Ow.iconst X hx (pc := 8) (1) (hb hby at_8) (by decide) ?_
  refine Ow.iand X hx (pc := 9) (hb hby at_9) ?_
  refine Ow.if_eq X hx (pc := 10) (pc' := 17) (hb hby at_10) (by decide) (by decide) (fun _ => ?_) (fun q => absurd h10 q)
  refine Ow.iconst X hx (pc := 17) (0) (hb hby at_17) (by decide) ?_
  refine Ow.istore X hx (pc := 18) #[_, _, _, _, _, _, _, _, _, _, _, _, _, _, _, _, _, _, _, _, _, _, _, _, _] (hb hby at_18) rfl ?_
  refine Ow.iloadN X hx (pc := 20) (hb hby at_20) rfl ?_
  refine Ow.i2b X hx (pc := 21) (hb hby at_21) ?_
  rw [← hb0]
  refine Ow.istore X hx (pc := 22) #[_, _, _, _, _, _, _, _, _, _, _, _, _, _, _, _, _, _, _, _, _, _, _, _, _] (hb hby at_22) rfl ?_
  refine Ow.iloadN X hx (pc := 24) (hb hby at_24) rfl ?_
  refine Ow.bipush X hx (pc := 25) (8) (hb hby at_25) (by decide) ?_
  refine Ow.ishr X hx (pc := 27) (hb hby at_27) ?_
  refine Ow.i2b X hx (pc := 28) (hb hby at_28) ?_
  rw [← hb1]
  refine Ow.istore X hx (pc := 29) #[_, _, _, _, _, _, _, _, _, _, _, _, _, _, _, _, _, _, _, _, _, _, _, _, _] (hb hby at_29) rfl ?_
  refine Ow.iloadN X hx (pc := 31) (hb hby at_31) rfl ?_
  refine Ow.bipush X hx (pc := 32) (16) (hb hby at_32) (by decide) ?_
  refine Ow.ishr X hx (pc := 34) (hb hby at_34) ?_
  refine Ow.i2b X hx (pc := 35) (hb hby at_35) ?_
  rw [← hb2]
  refine Ow.istore X hx (pc := 36) #[_, _, _, _, _, _, _, _, _, _, _, _, _, _, _, _, _, _, _, _, _, _, _, _, _] (hb hby at_36) rfl ?_
  refine Ow.iload X hx (pc := 38) (hb hby at_38) rfl ?_
  refine Ow.iload X hx (pc := 40) (hb hby at_40) rfl ?_
  refine Ow.iload X hx (pc := 42) (hb hby at_42) rfl ?_
  refine Ow.iload X hx (pc := 44) (hb hby at_44) rfl ?_
  refine Ow.callS X hx hZ (c_make1 l Z a0 hw _ b0 b1 b2 (hb0 ▸ own_nb _) (hb1 ▸ own_nb _) (hb2 ▸ own_nb _)) eT hown (ww hw 0 rfl) (ww hw 1 rfl) (ww hw 2 rfl) (ww hw 3 rfl) (by decide) pd6 (by rw [hml]; rfl) (argsL := [_, _, _, _]) rfl rfl rfl (pc := 46) (hb hby at_46) rfl rfl (by decide) (by decide) ?_
  rintro _ T L X ⟨t, kt, rfl, F2, l_t, B_t⟩
  dsimp only [Option.toList_some, Option.toList_none, List.cons_append, List.nil_append]
  have l_t := Nat.le_trans F.size l_t
  have F := F.call F2 (fun _ q => nomatch q)
  have S := S.ext (Ow.Keep.ext0 F2.1)
  obtain ⟨h_46, e_46⟩ : ∃ q, q = T.heap := ⟨_, rfl⟩
  rw [← e_46] at F S B_t
  have eT : T.heap = h_46 := e_46.symm
  refine Ow.astore X hx (pc := 49) #[_, _, _, _, _, _, _, _, _, _, _, _, _, _, _, _, _, _, _, _, _, _, _, _, _] (hb hby at_49) rfl rfl ?_
  refine Ow.iconst X hx (pc := 51) (2) (hb hby at_51) (by decide) ?_
  refine Ow.newarrayL X hx hZ (ww hw 5 rfl) eT 2 (vs := [_, _]) rfl (pc := 52) (hb hby at_52) (by decide) (by decide) (by decide) (by decide) (by decide) ?_
  intro T h_cA k_cA cA ha_cA X eT E_cA B_cA
  have l_cA : h0.size ≤ cA := by rw [ha_cA]; exact F.size
  have ne_t_cA : t ≠ cA := by rw [ha_cA]; exact Nat.ne_of_lt B_t.lt
  have S := S.ext E_cA
  have B_t := B_t.ext E_cA
  have F := F.ext E_cA
  refine Ow.astore X hx (pc := 54) #[_, _, _, _, _, _, _, _, _, _, _, _, _, _, _, _, _, _, _, _, _, _, _, _, _] (hb hby at_54) rfl rfl ?_
  refine Ow.aload X hx (pc := 56) (hb hby at_56) rfl rfl ?_
  refine Ow.iconst X hx (pc := 58) (0) (hb hby at_58) (by decide) ?_
  refine Ow.iloadN X hx (pc := 59) (hb hby at_59) rfl ?_
  refine Ow.sipush X hx (pc := 60) (255) (hb hby at_60) (by decide) ?_
  refine Ow.iand X hx (pc := 63) (hb hby at_63) ?_
  refine Ow.i2c X hx (pc := 64) (hb hby at_64) ?_
  rw [hka, (own_ch8 ka).2.2.2]
  refine Ow.castoreL X hx hZ eT B_cA 0 [_, _] (by decide) (by decide) rfl rfl (pc := 65) (hb hby at_65) ?_
  intro T h_65 X eT W_65 B_cA
  rw [(own_ch8 ka).2.2.1] at B_cA W_65
  have S := S.wr W_65
  have B_t := B_t.other W_65 ne_t_cA
  have F := F.wr W_65 (Or.inr l_cA)
  refine Ow.aload X hx (pc := 66) (hb hby at_66) rfl rfl ?_
  refine Ow.iconst X hx (pc := 68) (1) (hb hby at_68) (by decide) ?_
  refine Ow.iloadN X hx (pc := 69) (hb hby at_69) rfl ?_
  refine Ow.bipush X hx (pc := 70) (8) (hb hby at_70) (by decide) ?_
  refine Ow.ishr X hx (pc := 72) (hb hby at_72) ?_
  refine Ow.sipush X hx (pc := 73) (255) (hb hby at_73) (by decide) ?_
  refine Ow.iand X hx (pc := 76) (hb hby at_76) ?_
  refine Ow.i2c X hx (pc := 77) (hb hby at_77) ?_
  rw [hkc, (own_ch8 kc).2.2.2]
  refine Ow.castoreL X hx hZ eT B_cA 1 [_, _] (by decide) (by decide) rfl rfl (pc := 78) (hb hby at_78) ?_
  intro T h_78 X eT W_78 B_cA
  rw [(own_ch8 kc).2.2.1] at B_cA W_78
  have S := S.wr W_78
  have B_t := B_t.other W_78 ne_t_cA
  have F := F.wr W_78 (Or.inr l_cA)
  refine Ow.iload X hx (pc := 79) (hb hby at_79) rfl ?_
  refine Ow.if_eq X hx (pc := 81) (pc' := 88) (hb hby at_81) (by decide) (by decide) (fun h81 => ?_) (fun q => absurd rfl q)
  refine Ow.new_ X hx hZ hown (ww hw 6 rfl) (ww hw 7 rfl) (ww hw 8 rfl) eT (pc := 88) (hb hby at_88) (by decide) (by decide) ?_
  intro T h_x x ha_x X eT E_x A_x D_x U_x
  have l_x : h0.size ≤ x := by rw [ha_x]; exact F.size
  have ne_t_x : t ≠ x := by rw [ha_x]; exact Nat.ne_of_lt B_t.lt
  have ne_cA_x : cA ≠ x := by rw [ha_x]; exact Nat.ne_of_lt B_cA.lt
  have S := S.ext E_x
  have B_t := B_t.ext E_x
  have B_cA := B_cA.ext E_x
  have F := F.ext E_x
  have V0 := D_x (Or.inr (ww hw 33 rfl)) (ty := .array .byte) (by decide)
  have C0 := D_x (Or.inr (ww hw 31 rfl)) (ty := .byte) (by decide)
  refine Ow.dup X hx (pc := 91) (hb hby at_91) rfl ?_
  refine Ow.aload X hx (pc := 92) (hb hby at_92) rfl rfl ?_
  refine strLat X hx hZ hw eT hown (ww hw 9 rfl) (cs := [Int32.ofNat ka.val, Int32.ofNat kc.val]) A_x V0 C0 B_cA S hz 2 rfl (by decide) (by decide) H8 (by rw [hml]; rfl) (pc := 94) (hb hby at_94) rfl rfl (by decide) (by decide) ?_
  intro T L kx X F2 St
  have F := F.call F2 (fun y hy => by cases List.mem_singleton.mp hy; exact Or.inr l_x)
  have P_x := Ow.Exa.plain A_x
  have S := Ow.staKeep S F2.1 (fun y hy => by cases List.mem_singleton.mp hy; exact P_x)
  have B_t := B_t.keep F2.1 (Ow.nin1 ne_t_x)
  have B_cA := B_cA.keep F2.1 (Ow.nin1 ne_cA_x)
  have A_x := A_x.keep F2.1
  obtain ⟨h_94, e_94⟩ : ∃ q, q = T.heap := ⟨_, rfl⟩
  rw [← e_94] at F S B_t B_cA A_x
  have eT : T.heap = h_94 := e_94.symm
  refine Ow.astore X hx (pc := 97) #[_, _, _, _, _, _, _, _, _, _, _, _, _, _, _, _, _, _, _, _, _, _, _, _, _] (hb hby at_97) rfl rfl ?_
  refine Ow.iconst X hx (pc := 99) (4) (hb hby at_99) (by decide) ?_
  refine Ow.newarrayL X hx hZ (ww hw 4 rfl) eT 4 (vs := [_, _, _, _]) rfl (pc := 100) (hb hby at_100) (by decide) (by decide) (by decide) (by decide) (by decide) ?_
  intro T h_o k_o o ha_o X eT E_o B_o
  have l_o : h0.size ≤ o := by rw [ha_o]; exact F.size
  have ne_t_o : t ≠ o := by rw [ha_o]; exact Nat.ne_of_lt B_t.lt
  have ne_x_o : x ≠ o := by rw [ha_o]; exact Nat.ne_of_lt A_x.lt
  have S := S.ext E_o
  have B_t := B_t.ext E_o
  have A_x := A_x.ext E_o
  have F := F.ext E_o
  refine Ow.astore X hx (pc := 102) #[_, _, _, _, _, _, _, _, _, _, _, _, _, _, _, _, _, _, _, _, _, _, _, _, _] (hb hby at_102) rfl rfl ?_
  refine Ow.new_ X hx hZ hown (ww hw 34 rfl) (ww hw 35 rfl) (ww hw 36 rfl) eT (pc := 104) (hb hby at_104) (by decide) (by decide) ?_
  intro T h_s s ha_s X eT E_s A_s D_s U_s
  have l_s : h0.size ≤ s := by rw [ha_s]; exact F.size
  have ne_t_s : t ≠ s := by rw [ha_s]; exact Nat.ne_of_lt B_t.lt
  have ne_x_s : x ≠ s := by rw [ha_s]; exact Nat.ne_of_lt A_x.lt
  have ne_o_s : o ≠ s := by rw [ha_s]; exact Nat.ne_of_lt B_o.lt
  have S := S.ext E_s
  have B_t := B_t.ext E_s
  have A_x := A_x.ext E_s
  have B_o := B_o.ext E_s
  have F := F.ext E_s
  have F_mark := D_s (Or.inl (ww hw 53 rfl)) (ty := .int) (by decide)
  have F_buf := D_s (Or.inl (ww hw 55 rfl)) (ty := (.array .byte)) (by decide)
  have F_pos := D_s (Or.inl (ww hw 57 rfl)) (ty := .int) (by decide)
  have F_count := D_s (Or.inl (ww hw 59 rfl)) (ty := .int) (by decide)
  have F_name := D_s (Or.inr (ww hw 61 rfl)) (ty := (.object "java/lang/String")) (by decide)
  refine Ow.dup X hx (pc := 107) (hb hby at_107) rfl ?_
  refine Ow.aload X hx (pc := 108) (hb hby at_108) rfl rfl ?_
  refine Ow.aload X hx (pc := 110) (hb hby at_110) rfl rfl ?_
  refine Ow.callI X hx hZ (c_ns1 l Z a0 hw _ _ _ x _ _ ne_t_s A_s U_s F_mark F_buf F_pos F_count F_name B_t) eT rfl hown (ww hw 37 rfl) (ww hw 38 rfl) (ww hw 36 rfl) (ww hw 39 rfl) (by decide) pd3 (by rw [hml]; rfl) (argsL := [_, _]) rfl rfl rfl (pc := 112) (hb hby at_112) rfl rfl (by decide) (by decide) ?_
  rintro _ T L X ⟨rfl, F2, A_s, U_s, F_mark, F_buf, F_pos, F_count, F_name⟩
  dsimp only [Option.toList_some, Option.toList_none, List.cons_append, List.nil_append]
  have F := F.call F2 (fun y hy => by cases List.mem_singleton.mp hy; exact Or.inr l_s)
  have B_t := B_t.keep F2.1 (Ow.nin1 ne_t_s)
  have A_x := A_x.keep F2.1
  have B_o := B_o.keep F2.1 (Ow.nin1 ne_o_s)
  obtain ⟨h_112, e_112⟩ : ∃ q, q = T.heap := ⟨_, rfl⟩
  rw [← e_112] at F B_t A_x B_o A_s U_s F_mark F_buf F_pos F_count F_name
  have eT : T.heap = h_112 := e_112.symm
  have hy125 : (1 + 1 : Int32) ≠ 0 := by decide
  obtain ⟨j, hjl, hj⟩ := own_rem p2 (1 + 1) (by decide)
  have hjl : j ≤ 1 := by
    have e : (1 + 1 : Int32).toInt = 2 := by decide
    rw [e] at hjl
    omega
  refine Ow.astore X hx (pc := 115) #[_, _, _, _, _, _, _, _, _, _, _, _, _, _, _, _, _, _, _, _, _, _, _, _, _] (hb hby at_115) rfl rfl ?_
  refine Ow.iloadN X hx (pc := 117) (hb hby at_117) rfl ?_
  refine Ow.ldcI X hx (pc := 118) (2147483647) (hb hby at_118) hown (mvT hZ (ww hw 62 rfl)) ?_
  refine Ow.iand X hx (pc := 120) (hb hby at_120) ?_
  refine Ow.iload X hx (pc := 121) (hb hby at_121) rfl ?_
  refine Ow.iconst X hx (pc := 123) (1) (hb hby at_123) (by decide) ?_
  refine Ow.iadd X hx (pc := 124) (hb hby at_124) ?_
  refine Ow.irem X hx (pc := 125) (hb hby at_125) hy125 ?_
  rw [hj]
  refine Ow.i2l X hx (pc := 126) (hb hby at_126) ?_
  refine Ow.lstore X hx (pc := 127) #[_, _, _, _, _, _, _, _, _, _, _, _, _, _, _, _, _, _, _, _, _, _, _, _, _] (hb hby at_127) rfl ?_
  refine Ow.aload X hx (pc := 129) (hb hby at_129) rfl rfl ?_
  refine Ow.lload X hx (pc := 131) (hb hby at_131) rfl ?_
  refine Owl.callUB X hx hZ (Owl.backS (c_skip1 l Z a0 hw _ _ t x 1 j (by decide) hjl A_s U_s F_mark F_buf F_pos F_count F_name) hZ (ww hw 68 rfl) (ww hw 66 rfl) (ww hw 43 rfl) U_s (by decide) (by decide)) eT hown (ww hw 63 rfl) (ww hw 64 rfl) (ww hw 65 rfl) (ww hw 67 rfl) (ww hw 66 rfl) (by decide) pd7 (by rw [hml]; rfl) A_s (argsL := [_]) rfl rfl rfl (pc := 133) (hb hby at_133) (by decide) (by decide) ?_
  rintro _ T L X ⟨rfl, F2, A_s, U_s, F_mark, F_buf, F_pos, F_count, F_name⟩
  dsimp only [Option.toList_some, Option.toList_none, List.cons_append, List.nil_append]
  have F := F.call F2 (fun y hy => by cases List.mem_singleton.mp hy; exact Or.inr l_s)
  have B_t := B_t.keep F2.1 (Ow.nin1 ne_t_s)
  have A_x := A_x.keep F2.1
  have B_o := B_o.keep F2.1 (Ow.nin1 ne_o_s)
  obtain ⟨h_133, e_133⟩ : ∃ q, q = T.heap := ⟨_, rfl⟩
  rw [← e_133] at F B_t A_x B_o A_s U_s F_mark F_buf F_pos F_count F_name
  have eT : T.heap = h_133 := e_133.symm
  refine Ow.lstore X hx (pc := 136) #[_, _, _, _, _, _, _, _, _, _, _, _, _, _, _, _, _, _, _, _, _, _, _, _, _] (hb hby at_136) rfl ?_
  refine Ow.aload X hx (pc := 138) (hb hby at_138) rfl rfl ?_
  refine Ow.callV X hx hZ (c_reopened1 l Z a0 hw _ _ _ x _ _ F_buf F_name B_t) eT hown (ww hw 69 rfl) (ww hw 70 rfl) (ww hw 72 rfl) (ww hw 71 rfl) (ww hw 36 rfl) (ww hw 73 rfl) (by decide) pd8 (by rw [hml]; rfl) A_s (argsL := []) rfl rfl rfl (pc := 140) (hb hby at_140) rfl rfl (by decide) (by decide) ?_
  rintro _ T L X ⟨r, rfl, F2, l_r, A_r, U_r, G_mark, G_buf, G_pos, G_count, G_name⟩
  dsimp only [Option.toList_some, Option.toList_none, List.cons_append, List.nil_append]
  have h0r := Nat.le_trans F.size l_r
  have ne_t_r : t ≠ r := Nat.ne_of_lt (Nat.lt_of_lt_of_le B_t.lt l_r)
  have ne_x_r : x ≠ r := Nat.ne_of_lt (Nat.lt_of_lt_of_le A_x.lt l_r)
  have ne_o_r : o ≠ r := Nat.ne_of_lt (Nat.lt_of_lt_of_le B_o.lt l_r)
  have ne_s_r : s ≠ r := Nat.ne_of_lt (Nat.lt_of_lt_of_le A_s.lt l_r)
  have F := F.call F2 (fun _ q => nomatch q)
  have B_t := B_t.ext (Ow.Keep.ext0 F2.1)
  have A_x := A_x.ext (Ow.Keep.ext0 F2.1)
  have B_o := B_o.ext (Ow.Keep.ext0 F2.1)
  have A_s := A_s.ext (Ow.Keep.ext0 F2.1)
  have U_s := U_s.ext (Ow.Keep.ext0 F2.1)
  have F_mark := F_mark.ext (Ow.Keep.ext0 F2.1)
  have F_buf := F_buf.ext (Ow.Keep.ext0 F2.1)
  have F_pos := F_pos.ext (Ow.Keep.ext0 F2.1)
  have F_count := F_count.ext (Ow.Keep.ext0 F2.1)
  have F_name := F_name.ext (Ow.Keep.ext0 F2.1)
  obtain ⟨h_140, e_140⟩ : ∃ q, q = T.heap := ⟨_, rfl⟩
  rw [← e_140] at F B_t A_x B_o A_s U_s F_mark F_buf F_pos F_count F_name A_r U_r G_mark G_buf G_pos G_count G_name
  have eT : T.heap = h_140 := e_140.symm
  refine Ow.astore X hx (pc := 143) #[_, _, _, _, _, _, _, _, _, _, _, _, _, _, _, _, _, _, _, _, _, _, _, _, _] (hb hby at_143) rfl rfl ?_
  refine Ow.aload X hx (pc := 145) (hb hby at_145) rfl rfl ?_
  refine Ow.ifnull_r X hx (pc := 147) (hb hby at_147) ?_
  refine Ow.aload X hx (pc := 150) (hb hby at_150) rfl rfl ?_
  refine Ow.aload X hx (pc := 152) (hb hby at_152) rfl rfl ?_
  refine Ow.acmp_ne X hx (pc := 154) (pc' := 159) (hb hby at_154) rfl rfl (by decide) (by decide) (fun h154 => ?_) (fun q => absurd (Value.ref.inj q) (Ne.symm ne_s_r))
  refine Ow.aload X hx (pc := 159) (hb hby at_159) rfl rfl ?_
  refine Ow.callVP X hx hZ (c_name1 l Z a0 hw _ _ x G_name) rfl rfl eT hown (ww hw 78 rfl) (ww hw 79 rfl) (ww hw 81 rfl) (ww hw 80 rfl) (ww hw 36 rfl) (ww hw 82 rfl) (by decide) pd9 (by rw [hml]; rfl) A_r (argsL := []) rfl rfl rfl (pc := 161) (hb hby at_161) rfl rfl (by decide) (by decide) ?_   -- com/example/eunomia/eunomia/xml/NamedStream.name:()Ljava/lang/String;
  intro T X eT
  dsimp only [Option.toList_some, Option.toList_none, List.cons_append, List.nil_append]
  refine Ow.astore X hx (pc := 164) #[_, _, _, _, _, _, _, _, _, _, _, _, _, _, _, _, _, _, _, _, _, _, _, _, _] (hb hby at_164) rfl rfl ?_
  refine Ow.aload X hx (pc := 166) (hb hby at_166) rfl rfl ?_
  refine Ow.ifnonnull_r X hx (pc := 168) (pc' := 184) (hb hby at_168) (by decide) (by decide) ?_
  refine Ow.aload X hx (pc := 184) (hb hby at_184) rfl rfl ?_
  refine Ow.aload X hx (pc := 186) (hb hby at_186) rfl rfl ?_
  refine Ow.callVP X hx hZ (c_equals l Z a0 hw _ _) rfl rfl eT hown (ww hw 83 rfl) (ww hw 84 rfl) (ww hw 86 rfl) (ww hw 85 rfl) (ww hw 8 rfl) (ww hw 87 rfl) (by decide) pd12 (by rw [hml]; rfl) A_x (argsL := [_]) rfl rfl rfl (pc := 188) (hb hby at_188) rfl rfl (by decide) (by decide) ?_   -- java/lang/String.equals:(Ljava/lang/Object;)Z
  intro T X eT
  dsimp only [Option.toList_some, Option.toList_none, List.cons_append, List.nil_append]
  refine Ow.istore X hx (pc := 191) #[_, _, _, _, _, _, _, _, _, _, _, _, _, _, _, _, _, _, _, _, _, _, _, _, _] (hb hby at_191) rfl ?_
  refine Ow.aload X hx (pc := 193) (hb hby at_193) rfl rfl ?_
  refine Ow.aload X hx (pc := 195) (hb hby at_195) rfl rfl ?_
  refine Ow.iconst X hx (pc := 197) (0) (hb hby at_197) (by decide) ?_
  refine Ow.iconst X hx (pc := 198) (4) (hb hby at_198) (by decide) ?_
  refine Owl.callUB X hx hZ (Owl.backS (c_read11 l Z a0 hw _ r o t x _ _ b0 b1 b2 (Ne.symm ne_o_r) HF1 A_r G_mark G_buf G_pos G_count G_name B_t B_o) hZ (ww hw 93 rfl) (ww hw 91 rfl) (ww hw 43 rfl) U_r (by decide) (by decide)) eT hown (ww hw 88 rfl) (ww hw 89 rfl) (ww hw 90 rfl) (ww hw 92 rfl) (ww hw 91 rfl) (by decide) pd10 (by rw [hml]; rfl) A_r (argsL := [_, _, _]) rfl rfl rfl (pc := 199) (hb hby at_199) (by decide) (by decide) ?_
  rintro _ T L X ⟨rfl, F2, B_o⟩
  dsimp only [Option.toList_some, Option.toList_none, List.cons_append, List.nil_append]
  have F := F.call F2 (fun y hy => by
    simp only [List.mem_cons, List.not_mem_nil, or_false] at hy
    rcases hy with rfl | rfl
    · exact Or.inr h0r
    · exact Or.inr l_o)
  have B_t := B_t.keep F2.1 (ninS ne_t_r (Ow.nin1 ne_t_o))
  have A_x := A_x.keep F2.1
  have A_s := A_s.keep F2.1
  have U_s := Unt.keep F2.1 (ninS ne_s_r (Ow.nin1 (Ne.symm ne_o_s))) U_s
  have F_mark := F_mark.keep F2.1 (ninS ne_s_r (Ow.nin1 (Ne.symm ne_o_s)))
  have F_buf := F_buf.keep F2.1 (ninS ne_s_r (Ow.nin1 (Ne.symm ne_o_s)))
  have F_pos := F_pos.keep F2.1 (ninS ne_s_r (Ow.nin1 (Ne.symm ne_o_s)))
  have F_count := F_count.keep F2.1 (ninS ne_s_r (Ow.nin1 (Ne.symm ne_o_s)))
  have F_name := F_name.keep F2.1 (ninS ne_s_r (Ow.nin1 (Ne.symm ne_o_s)))
  obtain ⟨h_199, e_199⟩ : ∃ q, q = T.heap := ⟨_, rfl⟩
  rw [← e_199] at F B_t A_x A_s U_s F_mark F_buf F_pos F_count F_name B_o
  have eT : T.heap = h_199 := e_199.symm
  refine Ow.istore X hx (pc := 202) #[_, _, _, _, _, _, _, _, _, _, _, _, _, _, _, _, _, _, _, _, _, _, _, _, _] (hb hby at_202) rfl ?_
  refine Ow.aload X hx (pc := 204) (hb hby at_204) rfl rfl ?_
  refine Owl.callUB X hx hZ (Owl.backS (c_avail l Z a0 hw _ _ _ _ F_count F_pos) hZ (ww hw 107 rfl) (ww hw 105 rfl) (ww hw 43 rfl) U_s (by decide) (by decide)) eT hown (ww hw 102 rfl) (ww hw 103 rfl) (ww hw 104 rfl) (ww hw 106 rfl) (ww hw 105 rfl) (by decide) pd11 (by rw [hml]; rfl) A_s (argsL := []) rfl rfl rfl (pc := 206) (hb hby at_206) (by decide) (by decide) ?_
  rintro _ T L X ⟨rfl, eT, rfl⟩
  dsimp only [Option.toList_some, Option.toList_none, List.cons_append, List.nil_append]
  rw [List.append_nil] at X
  refine Ow.istore X hx (pc := 209) #[_, _, _, _, _, _, _, _, _, _, _, _, _, _, _, _, _, _, _, _, _, _, _, _, _] (hb hby at_209) rfl ?_
  refine Ow.iload X hx (pc := 211) (hb hby at_211) rfl ?_
  refine Ow.if_ne X hx (pc := 213) (pc' := 220) (hb hby at_213) (by decide) (by decide) (fun h213 => ?_) (fun q => absurd q (by decide))
  refine Ow.iload X hx (pc := 220) (hb hby at_220) rfl ?_
  refine Ow.istore X hx (pc := 222) #[_, _, _, _, _, _, _, _, _, _, _, _, _, _, _, _, _, _, _, _, _, _, _, _, _] (hb hby at_222) rfl ?_
  refine Ow.iconst X hx (pc := 224) (1) (hb hby at_224) (by decide) ?_
  refine Ow.istore X hx (pc := 225) #[_, _, _, _, _, _, _, _, _, _, _, _, _, _, _, _, _, _, _, _, _, _, _, _, _] (hb hby at_225) rfl ?_
  refine Ow.iload X hx (pc := 227) (hb hby at_227) rfl ?_
  refine Ow.iconst X hx (pc := 229) (1) (hb hby at_229) (by decide) ?_
  refine Ow.icmp_lt X hx (pc := 230) (pc' := 245) (hb hby at_230) (by decide) (by decide) (fun q => absurd q (by decide)) (fun h230 => ?_)
  refine Ow.aload X hx (pc := 233) (hb hby at_233) rfl rfl ?_
  refine Ow.iconst X hx (pc := 235) (0) (hb hby at_235) (by decide) ?_
  refine Ow.baloadL X hx hZ eT B_o 0 (.int b0) (by decide) (by decide) rfl (pc := 236) (hb hby at_236) ?_
  refine Ow.iload X hx (pc := 237) (hb hby at_237) rfl ?_
  refine Ow.icmp_eq X hx (pc := 239) (pc' := 245) (hb hby at_239) (by decide) (by decide) (fun h239 => ?_) (fun q => absurd rfl q)
  refine Ow.iload X hx (pc := 245) (hb hby at_245) rfl ?_
  refine Ow.iconst X hx (pc := 247) (2) (hb hby at_247) (by decide) ?_
  refine Ow.icmp_lt X hx (pc := 248) (pc' := 263) (hb hby at_248) (by decide) (by decide) (fun h248 => ?_) (fun q => absurd (by decide) q)
  refine Ow.iload X hx (pc := 263) (hb hby at_263) rfl ?_
  refine Ow.iconst X hx (pc := 265) (3) (hb hby at_265) (by decide) ?_
  refine Ow.icmp_lt X hx (pc := 266) (pc' := 281) (hb hby at_266) (by decide) (by decide) (fun h266 => ?_) (fun q => absurd (by decide) q)
  refine Ow.iload X hx (pc := 281) (hb hby at_281) rfl ?_
  refine Ow.iconst X hx (pc := 283) (1) (hb hby at_283) (by decide) ?_
  refine Ow.icmp_ge X hx (pc := 284) (pc' := 297) (hb hby at_284) (by decide) (by decide) (fun h284 => ?_) (fun q => absurd q (by decide))
  refine Ow.iload X hx (pc := 297) (hb hby at_297) rfl ?_
  refine Ow.iconst X hx (pc := 299) (2) (hb hby at_299) (by decide) ?_
  refine Ow.icmp_ge X hx (pc := 300) (pc' := 313) (hb hby at_300) (by decide) (by decide) (fun q => absurd (by decide) q) (fun h300 => ?_)
  refine Ow.aload X hx (pc := 303) (hb hby at_303) rfl rfl ?_
  refine Ow.iconst X hx (pc := 305) (1) (hb hby at_305) (by decide) ?_
  refine Ow.baloadL X hx hZ eT B_o 1 (.int 0) (by decide) (by decide) rfl (pc := 306) (hb hby at_306) ?_
  refine Ow.if_eq X hx (pc := 307) (pc' := 313) (hb hby at_307) (by decide) (by decide) (fun h307 => ?_) (fun q => absurd rfl q)
  refine Ow.iload X hx (pc := 313) (hb hby at_313) rfl ?_
  refine Ow.iconst X hx (pc := 315) (3) (hb hby at_315) (by decide) ?_
  refine Ow.icmp_ge X hx (pc := 316) (pc' := 329) (hb hby at_316) (by decide) (by decide) (fun q => absurd (by decide) q) (fun h316 => ?_)
  refine Ow.aload X hx (pc := 319) (hb hby at_319) rfl rfl ?_
  refine Ow.iconst X hx (pc := 321) (2) (hb hby at_321) (by decide) ?_
  refine Ow.baloadL X hx hZ eT B_o 2 (.int 0) (by decide) (by decide) rfl (pc := 322) (hb hby at_322) ?_
  refine Ow.if_eq X hx (pc := 323) (pc' := 329) (hb hby at_323) (by decide) (by decide) (fun h323 => ?_) (fun q => absurd rfl q)
  refine Ow.aload X hx (pc := 329) (hb hby at_329) rfl rfl ?_
  refine Ow.iconst X hx (pc := 331) (3) (hb hby at_331) (by decide) ?_
  refine Ow.baloadL X hx hZ eT B_o 3 (.int 0) (by decide) (by decide) rfl (pc := 332) (hb hby at_332) ?_
  refine Ow.if_eq X hx (pc := 333) (pc' := 339) (hb hby at_333) (by decide) (by decide) (fun h333 => ?_) (fun q => absurd rfl q)
  refine Ow.iload X hx (pc := 339) (hb hby at_339) rfl ?_
  refine Ow.if_eq X hx (pc := 341) (pc' := 379) (hb hby at_341) (by decide) (by decide) (fun q => absurd q (by decide)) (fun h341 => ?_)
  refine Ow.lload X hx (pc := 344) (hb hby at_344) rfl ?_
  refine Ow.lload X hx (pc := 346) (hb hby at_346) rfl ?_
  refine Ow.lcmp X hx (pc := 348) (hb hby at_348) ?_
  refine Ow.if_ne X hx (pc := 349) (pc' := 379) (hb hby at_349) (by decide) (by decide) (fun q => absurd (own_cmp_self _) q) (fun h349 => ?_)
  refine Ow.iload X hx (pc := 352) (hb hby at_352) rfl ?_
  refine Ow.iload X hx (pc := 354) (hb hby at_354) rfl ?_
  refine Ow.icmp_ne X hx (pc := 356) (pc' := 379) (hb hby at_356) (by decide) (by decide) (fun q => absurd rfl q) (fun h356 => ?_)
  refine Ow.iload X hx (pc := 359) (hb hby at_359) rfl ?_
  refine Ow.if_eq X hx (pc := 361) (pc' := 379) (hb hby at_361) (by decide) (by decide) (fun q => absurd q (by decide)) (fun h361 => ?_)
  refine Ow.iload X hx (pc := 364) (hb hby at_364) rfl ?_
  refine Ow.iload X hx (pc := 366) (hb hby at_366) rfl ?_
  refine Ow.lload X hx (pc := 368) (hb hby at_368) rfl ?_
  refine Ow.l2i X hx (pc := 370) (hb hby at_370) ?_
  rw [own_l2i]
  refine Ow.isub X hx (pc := 371) (hb hby at_371) ?_
  refine Ow.icmp_ne X hx (pc := 372) (pc' := 379) (hb hby at_372) (by decide) (by decide) (fun q => absurd rfl q) (fun h372 => ?_)
  refine Ow.iconst X hx (pc := 375) (1) (hb hby at_375) (by decide) ?_
  refine Ow.goto X hx (pc := 376) (pc' := 380) (hb hby at_376) (by decide) (by decide) ?_
  exact Ow.nreturn X hx hlk hret (Or.inl rfl) (hb hby at_380) ⟨rfl, by rw [eT]; exact F⟩ (by decide) (by decide)
set_option maxRecDepth 65536 in
set_option maxHeartbeats 40000000 in
theorem law_20 (l : Launch) (Z : State) (a0 : Array Value) (hw : ∀ d ∈ tables_1, d.before a0 Z = true) (h0 : Heap) (z p0 p1 p2 p3 : Int32) (S : Sta Z h0 "java/lang/String" "COMPACT_STRINGS" "Z" (.int z)) (hz : ¬ z = 0) (hn3 : p0 &&& 3 = 2) (h10 : ¬ (p0 >>> ((2 : Int32) &&& 31)) &&& 1 = 0) : Ow.Pay l Z x code maxLocals ret room_1 #[(.int p0), (.int p1), (.int p2), (.int p3)] h0 (fun v h L => v = some (.int 1) ∧ Ow.Eff h0 h [] L) := by
  refine Ow.Pay.of (Ls := #[.val (.int p0), .val (.int p1), .val (.int p2), .val (.int p3), .unset, .unset, .unset, .unset, .unset, .unset, .unset, .unset, .unset, .unset, .unset, .unset, .unset, .unset, .unset, .unset, .unset, .unset, .unset, .unset, .unset]) (plainFor_of_name pn0) (fun m => by first | (simp [entryFrame, mkF, argsToLocals, Value.category, maxLocals]; done) | rfl) ?_
  intro p e s m below meth c T hx hby hml hown hnm hme hZ hret hlk X eT
  obtain ⟨ka, hka⟩ := own_mask8 p3
  obtain ⟨kc, hkc⟩ := own_mask8 (p3 >>> ((8 : Int32) &&& 31))
  obtain ⟨b0, hb0⟩ : ∃ q, q = p1.toInt8.toInt32 := ⟨_, rfl⟩
  obtain ⟨b1, hb1⟩ : ∃ q, q = (p1 >>> ((8 : Int32) &&& 31)).toInt8.toInt32 := ⟨_, rfl⟩
  obtain ⟨b2, hb2⟩ : ∃ q, q = (p1 >>> ((16 : Int32) &&& 31)).toInt8.toInt32 := ⟨_, rfl⟩
  have H8 : ∀ c ∈ [Int32.ofNat ka.val, Int32.ofNat kc.val], ∃ k : Fin 256, c = Int32.ofNat k.val := fun c hc => by
    simp only [List.mem_cons, List.not_mem_nil, or_false] at hc
    rcases hc with rfl | rfl
    · exact ⟨ka, rfl⟩
    · exact ⟨kc, rfl⟩
  have HF2 : ∀ v ∈ ([.int b0, .int b1] : List Value), fits .byte v = true := fun v hv => by
    simp only [List.mem_cons, List.not_mem_nil, or_false] at hv
    rcases hv with rfl | rfl
    · rw [hb0]; exact own_fitB _
    · rw [hb1]; exact own_fitB _
  have F := Ow.Eff.refl h0 []
  refine Ow.iloadN X hx (pc := 0) (hb hby at_0) rfl ?_
  refine Ow.iconst X hx (pc := 1) (3) (hb hby at_1) (by decide) ?_
  refine Ow.iand X hx (pc := 2) (hb hby at_2) ?_
  rw [hn3]
  refine Ow.istore X hx (pc := 3) #[_, _, _, _, _, _, _, _, _, _, _, _, _, _, _, _, _, _, _, _, _, _, _, _, _] (hb hby at_3) rfl ?_
  refine Ow.iloadN X hx (pc := 5) (hb hby at_5) rfl ?_
  refine Ow.iconst X hx (pc := 6) (2) (hb hby at_6) (by decide) ?_
  refine Ow.ishr X hx (pc := 7) (hb hby at_7) ?_
  refine Ow.iconst X hx (pc := 8) (1) (hb hby at_8) (by decide) ?_
  refine Ow.iand X hx (pc := 9) (hb hby at_9) ?_
  refine Ow.if_eq X hx (pc := 10) (pc' := 17) (hb hby at_10) (by decide) (by decide) (fun q => absurd q h10) (fun _ => ?_)
  refine Ow.iconst X hx (pc := 13) (1) (hb hby at_13) (by decide) ?_
  refine Ow.goto X hx (pc := 14) (pc' := 18) (hb hby at_14) (by decide) (by decide) ?_
  refine Ow.istore X hx (pc := 18) #[_, _, _, _, _, _, _, _, _, _, _, _, _, _, _, _, _, _, _, _, _, _, _, _, _] (hb hby at_18) rfl ?_
  refine Ow.iloadN X hx (pc := 20) (hb hby at_20) rfl ?_
  refine Ow.i2b X hx (pc := 21) (hb hby at_21) ?_
  rw [← hb0]
  refine Ow.istore X hx (pc := 22) #[_, _, _, _, _, _, _, _, _, _, _, _, _, _, _, _, _, _, _, _, _, _, _, _, _] (hb hby at_22) rfl ?_
  refine Ow.iloadN X hx (pc := 24) (hb hby at_24) rfl ?_
  refine Ow.bipush X hx (pc := 25) (8) (hb hby at_25) (by decide) ?_
  refine Ow.ishr X hx (pc := 27) (hb hby at_27) ?_
  refine Ow.i2b X hx (pc := 28) (hb hby at_28) ?_
  rw [← hb1]
  refine Ow.istore X hx (pc := 29) #[_, _, _, _, _, _, _, _, _, _, _, _, _, _, _, _, _, _, _, _, _, _, _, _, _] (hb hby at_29) rfl ?_
  refine Ow.iloadN X hx (pc := 31) (hb hby at_31) rfl ?_
  refine Ow.bipush X hx (pc := 32) (16) (hb hby at_32) (by decide) ?_
  refine Ow.ishr X hx (pc := 34) (hb hby at_34) ?_
  refine Ow.i2b X hx (pc := 35) (hb hby at_35) ?_
  rw [← hb2]
  refine Ow.istore X hx (pc := 36) #[_, _, _, _, _, _, _, _, _, _, _, _, _, _, _, _, _, _, _, _, _, _, _, _, _] (hb hby at_36) rfl ?_
  refine Ow.iload X hx (pc := 38) (hb hby at_38) rfl ?_
  refine Ow.iload X hx (pc := 40) (hb hby at_40) rfl ?_
  refine Ow.iload X hx (pc := 42) (hb hby at_42) rfl ?_
  refine Ow.iload X hx (pc := 44) (hb hby at_44) rfl ?_
  refine Ow.callS X hx hZ (c_make2 l Z a0 hw _ b0 b1 b2 (hb0 ▸ own_nb _) (hb1 ▸ own_nb _) (hb2 ▸ own_nb _)) eT hown (ww hw 0 rfl) (ww hw 1 rfl) (ww hw 2 rfl) (ww hw 3 rfl) (by decide) pd6 (by rw [hml]; rfl) (argsL := [_, _, _, _]) rfl rfl rfl (pc := 46) (hb hby at_46) rfl rfl (by decide) (by decide) ?_
  rintro _ T L X ⟨t, kt, rfl, F2, l_t, B_t⟩
  dsimp only [Option.toList_some, Option.toList_none, List.cons_append, List.nil_append]
  have l_t := Nat.le_trans F.size l_t
  have F := F.call F2 (fun _ q => nomatch q)
  have S := S.ext (Ow.Keep.ext0 F2.1)
  obtain ⟨h_46, e_46⟩ : ∃ q, q = T.heap := ⟨_, rfl⟩
  rw [← e_46] at F S B_t
  have eT : T.heap = h_46 := e_46.symm
  refine Ow.astore X hx (pc := 49) #[_, _, _, _, _, _, _, _, _, _, _, _, _, _, _, _, _, _, _, _, _, _, _, _, _] (hb hby at_49) rfl rfl ?_
  refine Ow.iconst X hx (pc := 51) (2) (hb hby at_51) (by decide) ?_
  refine Ow.newarrayL X hx hZ (ww hw 5 rfl) eT 2 (vs := [_, _]) rfl (pc := 52) (hb hby at_52) (by decide) (by decide) (by decide) (by decide) (by decide) ?_
  intro T h_cA k_cA cA ha_cA X eT E_cA B_cA
  have l_cA : h0.size ≤ cA := by rw [ha_cA]; exact F.size
  have ne_t_cA : t ≠ cA := by rw [ha_cA]; exact Nat.ne_of_lt B_t.lt
  have S := S.ext E_cA
  have B_t := B_t.ext E_cA
  have F := F.ext E_cA
  refine Ow.astore X hx (pc := 54) #[_, _, _, _, _, _, _, _, _, _, _, _, _, _, _, _, _, _, _, _, _, _, _, _, _] (hb hby at_54) rfl rfl ?_
  refine Ow.aload X hx (pc := 56) (hb hby at_56) rfl rfl ?_
  refine Ow.iconst X hx (pc := 58) (0) (hb hby at_58) (by decide) ?_
  refine Ow.iloadN X hx (pc := 59) (hb hby at_59) rfl ?_
  refine Ow.sipush X hx (pc := 60) (255) (hb hby at_60) (by decide) ?_
  refine Ow.iand X hx (pc := 63) (hb hby at_63) ?_
  refine Ow.i2c X hx (pc := 64) (hb hby at_64) ?_
  rw [hka, (own_ch8 ka).2.2.2]
  refine Ow.castoreL X hx hZ eT B_cA 0 [_, _] (by decide) (by decide) rfl rfl (pc := 65) (hb hby at_65) ?_
  intro T h_65 X eT W_65 B_cA
  rw [(own_ch8 ka).2.2.1] at B_cA W_65
  have S := S.wr W_65
  have B_t := B_t.other W_65 ne_t_cA
  have F := F.wr W_65 (Or.inr l_cA)
  refine Ow.aload X hx (pc := 66) (hb hby at_66) rfl rfl ?_
  refine Ow.iconst X hx (pc := 68) (1) (hb hby at_68) (by decide) ?_
  refine Ow.iloadN X hx (pc := 69) (hb hby at_69) rfl ?_
  refine Ow.bipush X hx (pc := 70) (8) (hb hby at_70) (by decide) ?_
  refine Ow.ishr X hx (pc := 72) (hb hby at_72) ?_
  refine Ow.sipush X hx (pc := 73) (255) (hb hby at_73) (by decide) ?_
  refine Ow.iand X hx (pc := 76) (hb hby at_76) ?_
  refine Ow.i2c X hx (pc := 77) (hb hby at_77) ?_
  rw [hkc, (own_ch8 kc).2.2.2]
  refine Ow.castoreL X hx hZ eT B_cA 1 [_, _] (by decide) (by decide) rfl rfl (pc := 78) (hb hby at_78) ?_
  intro T h_78 X eT W_78 B_cA
  rw [(own_ch8 kc).2.2.1] at B_cA W_78
  have S := S.wr W_78
  have B_t := B_t.other W_78 ne_t_cA
  have F := F.wr W_78 (Or.inr l_cA)
  refine Ow.iload X hx (pc := 79) (hb hby at_79) rfl ?_
  refine Ow.if_eq X hx (pc := 81) (pc' := 88) (hb hby at_81) (by decide) (by decide) (fun q => absurd q (by decide)) (fun h81 => ?_)
  refine Ow.aconst_null X hx (pc := 84) (hb hby at_84) ?_
  refine Ow.goto X hx (pc := 85) (pc' := 97) (hb hby at_85) (by decide) (by decide) ?_
  refine Ow.astore X hx (pc := 97) #[_, _, _, _, _, _, _, _, _, _, _, _, _, _, _, _, _, _, _, _, _, _, _, _, _] (hb hby at_97) rfl rfl ?_
  refine Ow.iconst X hx (pc := 99) (4) (hb hby at_99) (by decide) ?_
  refine Ow.newarrayL X hx hZ (ww hw 4 rfl) eT 4 (vs := [_, _, _, _]) rfl (pc := 100) (hb hby at_100) (by decide) (by decide) (by decide) (by decide) (by decide) ?_
  intro T h_o k_o o ha_o X eT E_o B_o
  have l_o : h0.size ≤ o := by rw [ha_o]; exact F.size
  have ne_t_o : t ≠ o := by rw [ha_o]; exact Nat.ne_of_lt B_t.lt
  have S := S.ext E_o
  have B_t := B_t.ext E_o
  have F := F.ext E_o
  refine Ow.astore X hx (pc := 102) #[_, _, _, _, _, _, _, _, _, _, _, _, _, _, _, _, _, _, _, _, _, _, _, _, _] (hb hby at_102) rfl rfl ?_
  refine Ow.new_ X hx hZ hown (ww hw 34 rfl) (ww hw 35 rfl) (ww hw 36 rfl) eT (pc := 104) (hb hby at_104) (by decide) (by decide) ?_
  intro T h_s s ha_s X eT E_s A_s D_s U_s
  have l_s : h0.size ≤ s := by rw [ha_s]; exact F.size
  have ne_t_s : t ≠ s := by rw [ha_s]; exact Nat.ne_of_lt B_t.lt
  have ne_o_s : o ≠ s := by rw [ha_s]; exact Nat.ne_of_lt B_o.lt
  have S := S.ext E_s
  have B_t := B_t.ext E_s
  have B_o := B_o.ext E_s
  have F := F.ext E_s
  have F_mark := D_s (Or.inl (ww hw 53 rfl)) (ty := .int) (by decide)
  have F_buf := D_s (Or.inl (ww hw 55 rfl)) (ty := (.array .byte)) (by decide)
  have F_pos := D_s (Or.inl (ww hw 57 rfl)) (ty := .int) (by decide)
  have F_count := D_s (Or.inl (ww hw 59 rfl)) (ty := .int) (by decide)
  have F_name := D_s (Or.inr (ww hw 61 rfl)) (ty := (.object "java/lang/String")) (by decide)
  refine Ow.dup X hx (pc := 107) (hb hby at_107) rfl ?_
  refine Ow.aload X hx (pc := 108) (hb hby at_108) rfl rfl ?_
  refine Ow.aload X hx (pc := 110) (hb hby at_110) rfl rfl ?_
  refine Ow.callI X hx hZ (c_ns0 l Z a0 hw _ _ _ 0 _ _ ne_t_s A_s U_s F_mark F_buf F_pos F_count F_name B_t) eT rfl hown (ww hw 37 rfl) (ww hw 38 rfl) (ww hw 36 rfl) (ww hw 39 rfl) (by decide) pd3 (by rw [hml]; rfl) (argsL := [_, _]) rfl rfl rfl (pc := 112) (hb hby at_112) rfl rfl (by decide) (by decide) ?_
  rintro _ T L X ⟨rfl, F2, A_s, U_s, F_mark, F_buf, F_pos, F_count, F_name⟩
  dsimp only [Option.toList_some, Option.toList_none, List.cons_append, List.nil_append]
  have F := F.call F2 (fun y hy => by cases List.mem_singleton.mp hy; exact Or.inr l_s)
  have B_t := B_t.keep F2.1 (Ow.nin1 ne_t_s)
  have B_o := B_o.keep F2.1 (Ow.nin1 ne_o_s)
  obtain ⟨h_112, e_112⟩ : ∃ q, q = T.heap := ⟨_, rfl⟩
  rw [← e_112] at F B_t B_o A_s U_s F_mark F_buf F_pos F_count F_name
  have eT : T.heap = h_112 := e_112.symm
  have hy125 : (2 + 1 : Int32) ≠ 0 := by decide
  obtain ⟨j, hjl, hj⟩ := own_rem p2 (2 + 1) (by decide)
  have hjl : j ≤ 2 := by
    have e : (2 + 1 : Int32).toInt = 3 := by decide
    rw [e] at hjl
    omega
  refine Ow.astore X hx (pc := 115) #[_, _, _, _, _, _, _, _, _, _, _, _, _, _, _, _, _, _, _, _, _, _, _, _, _] (hb hby at_115) rfl rfl ?_
  refine Ow.iloadN X hx (pc := 117) (hb hby at_117) rfl ?_
  refine Ow.ldcI X hx (pc := 118) (2147483647) (hb hby at_118) hown (mvT hZ (ww hw 62 rfl)) ?_
  refine Ow.iand X hx (pc := 120) (hb hby at_120) ?_
  refine Ow.iload X hx (pc := 121) (hb hby at_121) rfl ?_
  refine Ow.iconst X hx (pc := 123) (1) (hb hby at_123) (by decide) ?_
  refine Ow.iadd X hx (pc := 124) (hb hby at_124) ?_
  refine Ow.irem X hx (pc := 125) (hb hby at_125) hy125 ?_
  rw [hj]
  refine Ow.i2l X hx (pc := 126) (hb hby at_126) ?_
  refine Ow.lstore X hx (pc := 127) #[_, _, _, _, _, _, _, _, _, _, _, _, _, _, _, _, _, _, _, _, _, _, _, _, _] (hb hby at_127) rfl ?_
  refine Ow.aload X hx (pc := 129) (hb hby at_129) rfl rfl ?_
  refine Ow.lload X hx (pc := 131) (hb hby at_131) rfl ?_
  refine Owl.callUB X hx hZ (Owl.backS (c_skip0 l Z a0 hw _ _ t 0 2 j (by decide) hjl A_s U_s F_mark F_buf F_pos F_count F_name) hZ (ww hw 68 rfl) (ww hw 66 rfl) (ww hw 43 rfl) U_s (by decide) (by decide)) eT hown (ww hw 63 rfl) (ww hw 64 rfl) (ww hw 65 rfl) (ww hw 67 rfl) (ww hw 66 rfl) (by decide) pd7 (by rw [hml]; rfl) A_s (argsL := [_]) rfl rfl rfl (pc := 133) (hb hby at_133) (by decide) (by decide) ?_
  rintro _ T L X ⟨rfl, F2, A_s, U_s, F_mark, F_buf, F_pos, F_count, F_name⟩
  dsimp only [Option.toList_some, Option.toList_none, List.cons_append, List.nil_append]
  have F := F.call F2 (fun y hy => by cases List.mem_singleton.mp hy; exact Or.inr l_s)
  have B_t := B_t.keep F2.1 (Ow.nin1 ne_t_s)
  have B_o := B_o.keep F2.1 (Ow.nin1 ne_o_s)
  obtain ⟨h_133, e_133⟩ : ∃ q, q = T.heap := ⟨_, rfl⟩
  rw [← e_133] at F B_t B_o A_s U_s F_mark F_buf F_pos F_count F_name
  have eT : T.heap = h_133 := e_133.symm
  refine Ow.lstore X hx (pc := 136) #[_, _, _, _, _, _, _, _, _, _, _, _, _, _, _, _, _, _, _, _, _, _, _, _, _] (hb hby at_136) rfl ?_
  refine Ow.aload X hx (pc := 138) (hb hby at_138) rfl rfl ?_
  refine Ow.callV X hx hZ (c_reopened0 l Z a0 hw _ _ _ 0 _ _ F_buf F_name B_t) eT hown (ww hw 69 rfl) (ww hw 70 rfl) (ww hw 72 rfl) (ww hw 71 rfl) (ww hw 36 rfl) (ww hw 73 rfl) (by decide) pd8 (by rw [hml]; rfl) A_s (argsL := []) rfl rfl rfl (pc := 140) (hb hby at_140) rfl rfl (by decide) (by decide) ?_
  rintro _ T L X ⟨r, rfl, F2, l_r, A_r, U_r, G_mark, G_buf, G_pos, G_count, G_name⟩
  dsimp only [Option.toList_some, Option.toList_none, List.cons_append, List.nil_append]
  have h0r := Nat.le_trans F.size l_r
  have ne_t_r : t ≠ r := Nat.ne_of_lt (Nat.lt_of_lt_of_le B_t.lt l_r)
  have ne_o_r : o ≠ r := Nat.ne_of_lt (Nat.lt_of_lt_of_le B_o.lt l_r)
  have ne_s_r : s ≠ r := Nat.ne_of_lt (Nat.lt_of_lt_of_le A_s.lt l_r)
  have F := F.call F2 (fun _ q => nomatch q)
  have B_t := B_t.ext (Ow.Keep.ext0 F2.1)
  have B_o := B_o.ext (Ow.Keep.ext0 F2.1)
  have A_s := A_s.ext (Ow.Keep.ext0 F2.1)
  have U_s := U_s.ext (Ow.Keep.ext0 F2.1)
  have F_mark := F_mark.ext (Ow.Keep.ext0 F2.1)
  have F_buf := F_buf.ext (Ow.Keep.ext0 F2.1)
  have F_pos := F_pos.ext (Ow.Keep.ext0 F2.1)
  have F_count := F_count.ext (Ow.Keep.ext0 F2.1)
  have F_name := F_name.ext (Ow.Keep.ext0 F2.1)
  obtain ⟨h_140, e_140⟩ : ∃ q, q = T.heap := ⟨_, rfl⟩
  rw [← e_140] at F B_t B_o A_s U_s F_mark F_buf F_pos F_count F_name A_r U_r G_mark G_buf G_pos G_count G_name
  have eT : T.heap = h_140 := e_140.symm
  refine Ow.astore X hx (pc := 143) #[_, _, _, _, _, _, _, _, _, _, _, _, _, _, _, _, _, _, _, _, _, _, _, _, _] (hb hby at_143) rfl rfl ?_
  refine Ow.aload X hx (pc := 145) (hb hby at_145) rfl rfl ?_
  refine Ow.ifnull_r X hx (pc := 147) (hb hby at_147) ?_
  refine Ow.aload X hx (pc := 150) (hb hby at_150) rfl rfl ?_
  refine Ow.aload X hx (pc := 152) (hb hby at_152) rfl rfl ?_
  refine Ow.acmp_ne X hx (pc := 154) (pc' := 159) (hb hby at_154) rfl rfl (by decide) (by decide) (fun h154 => ?_) (fun q => absurd (Value.ref.inj q) (Ne.symm ne_s_r))
  refine Ow.aload X hx (pc := 159) (hb hby at_159) rfl rfl ?_
  refine Ow.callVP X hx hZ (c_name0 l Z a0 hw _ _ 0 G_name) rfl rfl eT hown (ww hw 78 rfl) (ww hw 79 rfl) (ww hw 81 rfl) (ww hw 80 rfl) (ww hw 36 rfl) (ww hw 82 rfl) (by decide) pd9 (by rw [hml]; rfl) A_r (argsL := []) rfl rfl rfl (pc := 161) (hb hby at_161) rfl rfl (by decide) (by decide) ?_   -- com/example/eunomia/eunomia/xml/NamedStream.name:()Ljava/lang/String;
  intro T X eT
  dsimp only [Option.toList_some, Option.toList_none, List.cons_append, List.nil_append]
  refine Ow.astore X hx (pc := 164) #[_, _, _, _, _, _, _, _, _, _, _, _, _, _, _, _, _, _, _, _, _, _, _, _, _] (hb hby at_164) rfl rfl ?_
  refine Ow.aload X hx (pc := 166) (hb hby at_166) rfl rfl ?_
  refine Ow.ifnonnull_n X hx (pc := 168) (hb hby at_168) ?_
  refine Ow.aload X hx (pc := 171) (hb hby at_171) rfl rfl ?_
  refine Ow.ifnonnull_n X hx (pc := 173) (hb hby at_173) ?_
  refine Ow.iconst X hx (pc := 176) (1) (hb hby at_176) (by decide) ?_
  refine Ow.goto X hx (pc := 177) (pc' := 191) (hb hby at_177) (by decide) (by decide) ?_
  refine Ow.istore X hx (pc := 191) #[_, _, _, _, _, _, _, _, _, _, _, _, _, _, _, _, _, _, _, _, _, _, _, _, _] (hb hby at_191) rfl ?_
  refine Ow.aload X hx (pc := 193) (hb hby at_193) rfl rfl ?_
  refine Ow.aload X hx (pc := 195) (hb hby at_195) rfl rfl ?_
  refine Ow.iconst X hx (pc := 197) (0) (hb hby at_197) (by decide) ?_
  refine Ow.iconst X hx (pc := 198) (4) (hb hby at_198) (by decide) ?_
  refine Owl.callUB X hx hZ (Owl.backS (c_read20 l Z a0 hw _ r o t 0 _ _ b0 b1 b2 (Ne.symm ne_o_r) HF2 A_r G_mark G_buf G_pos G_count G_name B_t B_o) hZ (ww hw 93 rfl) (ww hw 91 rfl) (ww hw 43 rfl) U_r (by decide) (by decide)) eT hown (ww hw 88 rfl) (ww hw 89 rfl) (ww hw 90 rfl) (ww hw 92 rfl) (ww hw 91 rfl) (by decide) pd10 (by rw [hml]; rfl) A_r (argsL := [_, _, _]) rfl rfl rfl (pc := 199) (hb hby at_199) (by decide) (by decide) ?_
  rintro _ T L X ⟨rfl, F2, B_o⟩
  dsimp only [Option.toList_some, Option.toList_none, List.cons_append, List.nil_append]
  have F := F.call F2 (fun y hy => by
    simp only [List.mem_cons, List.not_mem_nil, or_false] at hy
    rcases hy with rfl | rfl
    · exact Or.inr h0r
    · exact Or.inr l_o)
  have B_t := B_t.keep F2.1 (ninS ne_t_r (Ow.nin1 ne_t_o))
  have A_s := A_s.keep F2.1
  have U_s := Unt.keep F2.1 (ninS ne_s_r (Ow.nin1 (Ne.symm ne_o_s))) U_s
  have F_mark := F_mark.keep F2.1 (ninS ne_s_r (Ow.nin1 (Ne.symm ne_o_s)))
  have F_buf := F_buf.keep F2.1 (ninS ne_s_r (Ow.nin1 (Ne.symm ne_o_s)))
  have F_pos := F_pos.keep F2.1 (ninS ne_s_r (Ow.nin1 (Ne.symm ne_o_s)))
  have F_count := F_count.keep F2.1 (ninS ne_s_r (Ow.nin1 (Ne.symm ne_o_s)))
  have F_name := F_name.keep F2.1 (ninS ne_s_r (Ow.nin1 (Ne.symm ne_o_s)))
  obtain ⟨h_199, e_199⟩ : ∃ q, q = T.heap := ⟨_, rfl⟩
  rw [← e_199] at F B_t A_s U_s F_mark F_buf F_pos F_count F_name B_o
  have eT : T.heap = h_199 := e_199.symm
  refine Ow.istore X hx (pc := 202) #[_, _, _, _, _, _, _, _, _, _, _, _, _, _, _, _, _, _, _, _, _, _, _, _, _] (hb hby at_202) rfl ?_
  refine Ow.aload X hx (pc := 204) (hb hby at_204) rfl rfl ?_
  refine Owl.callUB X hx hZ (Owl.backS (c_avail l Z a0 hw _ _ _ _ F_count F_pos) hZ (ww hw 107 rfl) (ww hw 105 rfl) (ww hw 43 rfl) U_s (by decide) (by decide)) eT hown (ww hw 102 rfl) (ww hw 103 rfl) (ww hw 104 rfl) (ww hw 106 rfl) (ww hw 105 rfl) (by decide) pd11 (by rw [hml]; rfl) A_s (argsL := []) rfl rfl rfl (pc := 206) (hb hby at_206) (by decide) (by decide) ?_
  rintro _ T L X ⟨rfl, eT, rfl⟩
  dsimp only [Option.toList_some, Option.toList_none, List.cons_append, List.nil_append]
  rw [List.append_nil] at X
  refine Ow.istore X hx (pc := 209) #[_, _, _, _, _, _, _, _, _, _, _, _, _, _, _, _, _, _, _, _, _, _, _, _, _] (hb hby at_209) rfl ?_
  refine Ow.iload X hx (pc := 211) (hb hby at_211) rfl ?_
  refine Ow.if_ne X hx (pc := 213) (pc' := 220) (hb hby at_213) (by decide) (by decide) (fun h213 => ?_) (fun q => absurd q (by decide))
  refine Ow.iload X hx (pc := 220) (hb hby at_220) rfl ?_
  refine Ow.istore X hx (pc := 222) #[_, _, _, _, _, _, _, _, _, _, _, _, _, _, _, _, _, _, _, _, _, _, _, _, _] (hb hby at_222) rfl ?_
  refine Ow.iconst X hx (pc := 224) (1) (hb hby at_224) (by decide) ?_
  refine Ow.istore X hx (pc := 225) #[_, _, _, _, _, _, _, _, _, _, _, _, _, _, _, _, _, _, _, _, _, _, _, _, _] (hb hby at_225) rfl ?_
  refine Ow.iload X hx (pc := 227) (hb hby at_227) rfl ?_
  refine Ow.iconst X hx (pc := 229) (1) (hb hby at_229) (by decide) ?_
  refine Ow.icmp_lt X hx (pc := 230) (pc' := 245) (hb hby at_230) (by decide) (by decide) (fun q => absurd q (by decide)) (fun h230 => ?_)
  refine Ow.aload X hx (pc := 233) (hb hby at_233) rfl rfl ?_
  refine Ow.iconst X hx (pc := 235) (0) (hb hby at_235) (by decide) ?_
  refine Ow.baloadL X hx hZ eT B_o 0 (.int b0) (by decide) (by decide) rfl (pc := 236) (hb hby at_236) ?_
  refine Ow.iload X hx (pc := 237) (hb hby at_237) rfl ?_
  refine Ow.icmp_eq X hx (pc := 239) (pc' := 245) (hb hby at_239) (by decide) (by decide) (fun h239 => ?_) (fun q => absurd rfl q)
  refine Ow.iload X hx (pc := 245) (hb hby at_245) rfl ?_
  refine Ow.iconst X hx (pc := 247) (2) (hb hby at_247) (by decide) ?_
  refine Ow.icmp_lt X hx (pc := 248) (pc' := 263) (hb hby at_248) (by decide) (by decide) (fun q => absurd q (by decide)) (fun h248 => ?_)
  refine Ow.aload X hx (pc := 251) (hb hby at_251) rfl rfl ?_
  refine Ow.iconst X hx (pc := 253) (1) (hb hby at_253) (by decide) ?_
  refine Ow.baloadL X hx hZ eT B_o 1 (.int b1) (by decide) (by decide) rfl (pc := 254) (hb hby at_254) ?_
  refine Ow.iload X hx (pc := 255) (hb hby at_255) rfl ?_
  refine Ow.icmp_eq X hx (pc := 257) (pc' := 263) (hb hby at_257) (by decide) (by decide) (fun h257 => ?_) (fun q => absurd rfl q)
  refine Ow.iload X hx (pc := 263) (hb hby at_263) rfl ?_
  refine Ow.iconst X hx (pc := 265) (3) (hb hby at_265) (by decide) ?_
  refine Ow.icmp_lt X hx (pc := 266) (pc' := 281) (hb hby at_266) (by decide) (by decide) (fun h266 => ?_) (fun q => absurd (by decide) q)
  refine Ow.iload X hx (pc := 281) (hb hby at_281) rfl ?_
  refine Ow.iconst X hx (pc := 283) (1) (hb hby at_283) (by decide) ?_
  refine Ow.icmp_ge X hx (pc := 284) (pc' := 297) (hb hby at_284) (by decide) (by decide) (fun h284 => ?_) (fun q => absurd q (by decide))
  refine Ow.iload X hx (pc := 297) (hb hby at_297) rfl ?_
  refine Ow.iconst X hx (pc := 299) (2) (hb hby at_299) (by decide) ?_
  refine Ow.icmp_ge X hx (pc := 300) (pc' := 313) (hb hby at_300) (by decide) (by decide) (fun h300 => ?_) (fun q => absurd q (by decide))
  refine Ow.iload X hx (pc := 313) (hb hby at_313) rfl ?_
  refine Ow.iconst X hx (pc := 315) (3) (hb hby at_315) (by decide) ?_
  refine Ow.icmp_ge X hx (pc := 316) (pc' := 329) (hb hby at_316) (by decide) (by decide) (fun q => absurd (by decide) q) (fun h316 => ?_)
  refine Ow.aload X hx (pc := 319) (hb hby at_319) rfl rfl ?_
  refine Ow.iconst X hx (pc := 321) (2) (hb hby at_321) (by decide) ?_
  refine Ow.baloadL X hx hZ eT B_o 2 (.int 0) (by decide) (by decide) rfl (pc := 322) (hb hby at_322) ?_
  refine Ow.if_eq X hx (pc := 323) (pc' := 329) (hb hby at_323) (by decide) (by decide) (fun h323 => ?_) (fun q => absurd rfl q)
  refine Ow.aload X hx (pc := 329) (hb hby at_329) rfl rfl ?_
  refine Ow.iconst X hx (pc := 331) (3) (hb hby at_331) (by decide) ?_
  refine Ow.baloadL X hx hZ eT B_o 3 (.int 0) (by decide) (by decide) rfl (pc := 332) (hb hby at_332) ?_
  refine Ow.if_eq X hx (pc := 333) (pc' := 339) (hb hby at_333) (by decide) (by decide) (fun h333 => ?_) (fun q => absurd rfl q)
  refine Ow.iload X hx (pc := 339) (hb hby at_339) rfl ?_
  refine Ow.if_eq X hx (pc := 341) (pc' := 379) (hb hby at_341) (by decide) (by decide) (fun q => absurd q (by decide)) (fun h341 => ?_)
  refine Ow.lload X hx (pc := 344) (hb hby at_344) rfl ?_
  refine Ow.lload X hx (pc := 346) (hb hby at_346) rfl ?_
  refine Ow.lcmp X hx (pc := 348) (hb hby at_348) ?_
  refine Ow.if_ne X hx (pc := 349) (pc' := 379) (hb hby at_349) (by decide) (by decide) (fun q => absurd (own_cmp_self _) q) (fun h349 => ?_)
  refine Ow.iload X hx (pc := 352) (hb hby at_352) rfl ?_
  refine Ow.iload X hx (pc := 354) (hb hby at_354) rfl ?_
  refine Ow.icmp_ne X hx (pc := 356) (pc' := 379) (hb hby at_356) (by decide) (by decide) (fun q => absurd rfl q) (fun h356 => ?_)
  refine Ow.iload X hx (pc := 359) (hb hby at_359) rfl ?_
  refine Ow.if_eq X hx (pc := 361) (pc' := 379) (hb hby at_361) (by decide) (by decide) (fun q => absurd q (by decide)) (fun h361 => ?_)
  refine Ow.iload X hx (pc := 364) (hb hby at_364) rfl ?_
  refine Ow.iload X hx (pc := 366) (hb hby at_366) rfl ?_
  refine Ow.lload X hx (pc := 368) (hb hby at_368) rfl ?_
  refine Ow.l2i X hx (pc := 370) (hb hby at_370) ?_
  rw [own_l2i]
  refine Ow.isub X hx (pc := 371) (hb hby at_371) ?_
  refine Ow.icmp_ne X hx (pc := 372) (pc' := 379) (hb hby at_372) (by decide) (by decide) (fun q => absurd rfl q) (fun h372 => ?_)
  refine Ow.iconst X hx (pc := 375) (1) (hb hby at_375) (by decide) ?_
  refine Ow.goto X hx (pc := 376) (pc' := 380) (hb hby at_376) (by decide) (by decide) ?_
  exact Ow.nreturn X hx hlk hret (Or.inl rfl) (hb hby at_380) ⟨rfl, by rw [eT]; exact F⟩ (by decide) (by decide)
set_option maxRecDepth 65536 in
set_option maxHeartbeats 40000000 in
theorem law_21 (l : Launch) (Z : State) (a0 : Array Value) (hw : ∀ d ∈ tables_1, d.before a0 Z = true) (h0 : Heap) (z p0 p1 p2 p3 : Int32) (S : Sta Z h0 "java/lang/String" "COMPACT_STRINGS" "Z" (.int z)) (hz : ¬ z = 0) (hn3 : p0 &&& 3 = 2) (h10 : (p0 >>> ((2 : Int32) &&& 31)) &&& 1 = 0) : Ow.Pay l Z x code maxLocals ret room_1 #[(.int p0), (.int p1), (.int p2), (.int p3)] h0 (fun v h L => v = some (.int 1) ∧ Ow.Eff h0 h [] L) := by
  refine Ow.Pay.of (Ls := #[.val (.int p0), .val (.int p1), .val (.int p2), .val (.int p3), .unset, .unset, .unset, .unset, .unset, .unset, .unset, .unset, .unset, .unset, .unset, .unset, .unset, .unset, .unset, .unset, .unset, .unset, .unset, .unset, .unset]) (plainFor_of_name pn0) (fun m => by first | (simp [entryFrame, mkF, argsToLocals, Value.category, maxLocals]; done) | rfl) ?_
  intro p e s m below meth c T hx hby hml hown hnm hme hZ hret hlk X eT
  obtain ⟨ka, hka⟩ := own_mask8 p3
  obtain ⟨kc, hkc⟩ := own_mask8 (p3 >>> ((8 : Int32) &&& 31))
  obtain ⟨b0, hb0⟩ : ∃ q, q = p1.toInt8.toInt32 := ⟨_, rfl⟩
  obtain ⟨b1, hb1⟩ : ∃ q, q = (p1 >>> ((8 : Int32) &&& 31)).toInt8.toInt32 := ⟨_, rfl⟩
  obtain ⟨b2, hb2⟩ : ∃ q, q = (p1 >>> ((16 : Int32) &&& 31)).toInt8.toInt32 := ⟨_, rfl⟩
  have H8 : ∀ c ∈ [Int32.ofNat ka.val, Int32.ofNat kc.val], ∃ k : Fin 256, c = Int32.ofNat k.val := fun c hc => by
    simp only [List.mem_cons, List.not_mem_nil, or_false] at hc
    rcases hc with rfl | rfl
    · exact ⟨ka, rfl⟩
    · exact ⟨kc, rfl⟩
  have HF2 : ∀ v ∈ ([.int b0, .int b1] : List Value), fits .byte v = true := fun v hv => by
    simp only [List.mem_cons, List.not_mem_nil, or_false] at hv
    rcases hv with rfl | rfl
    · rw [hb0]; exact own_fitB _
    · rw [hb1]; exact own_fitB _
  have F := Ow.Eff.refl h0 []
  refine Ow.iloadN X hx (pc := 0) (hb hby at_0) rfl ?_
  refine Ow.iconst X hx (pc := 1) (3) (hb hby at_1) (by decide) ?_
  refine Ow.iand X hx (pc := 2) (hb hby at_2) ?_
  rw [hn3]
  refine Ow.istore X hx (pc := 3) #[_, _, _, _, _, _, _, _, _, _, _, _, _, _, _, _, _, _, _, _, _, _, _, _, _] (hb hby at_3) rfl ?_
  refine Ow.iloadN X hx (pc := 5) (hb hby at_5) rfl ?_
  refine Ow.iconst X hx (pc := 6) (2) (hb hby at_6) (by decide) ?_
  refine Ow.ishr X hx (pc := 7) (hb hby at_7) ?_
  refine Ow.iconst X hx (pc := 8) (1) (hb hby at_8) (by decide) ?_
  refine Ow.iand X hx (pc := 9) (hb hby at_9) ?_
  refine Ow.if_eq X hx (pc := 10) (pc' := 17) (hb hby at_10) (by decide) (by decide) (fun _ => ?_) (fun q => absurd h10 q)
  refine Ow.iconst X hx (pc := 17) (0) (hb hby at_17) (by decide) ?_
  refine Ow.istore X hx (pc := 18) #[_, _, _, _, _, _, _, _, _, _, _, _, _, _, _, _, _, _, _, _, _, _, _, _, _] (hb hby at_18) rfl ?_
  refine Ow.iloadN X hx (pc := 20) (hb hby at_20) rfl ?_
  refine Ow.i2b X hx (pc := 21) (hb hby at_21) ?_
  rw [← hb0]
  refine Ow.istore X hx (pc := 22) #[_, _, _, _, _, _, _, _, _, _, _, _, _, _, _, _, _, _, _, _, _, _, _, _, _] (hb hby at_22) rfl ?_
  refine Ow.iloadN X hx (pc := 24) (hb hby at_24) rfl ?_
  refine Ow.bipush X hx (pc := 25) (8) (hb hby at_25) (by decide) ?_
  refine Ow.ishr X hx (pc := 27) (hb hby at_27) ?_
  refine Ow.i2b X hx (pc := 28) (hb hby at_28) ?_
  rw [← hb1]
  refine Ow.istore X hx (pc := 29) #[_, _, _, _, _, _, _, _, _, _, _, _, _, _, _, _, _, _, _, _, _, _, _, _, _] (hb hby at_29) rfl ?_
  refine Ow.iloadN X hx (pc := 31) (hb hby at_31) rfl ?_
  refine Ow.bipush X hx (pc := 32) (16) (hb hby at_32) (by decide) ?_
  refine Ow.ishr X hx (pc := 34) (hb hby at_34) ?_
  refine Ow.i2b X hx (pc := 35) (hb hby at_35) ?_
  rw [← hb2]
  refine Ow.istore X hx (pc := 36) #[_, _, _, _, _, _, _, _, _, _, _, _, _, _, _, _, _, _, _, _, _, _, _, _, _] (hb hby at_36) rfl ?_
  refine Ow.iload X hx (pc := 38) (hb hby at_38) rfl ?_
  refine Ow.iload X hx (pc := 40) (hb hby at_40) rfl ?_
  refine Ow.iload X hx (pc := 42) (hb hby at_42) rfl ?_
  refine Ow.iload X hx (pc := 44) (hb hby at_44) rfl ?_
  refine Ow.callS X hx hZ (c_make2 l Z a0 hw _ b0 b1 b2 (hb0 ▸ own_nb _) (hb1 ▸ own_nb _) (hb2 ▸ own_nb _)) eT hown (ww hw 0 rfl) (ww hw 1 rfl) (ww hw 2 rfl) (ww hw 3 rfl) (by decide) pd6 (by rw [hml]; rfl) (argsL := [_, _, _, _]) rfl rfl rfl (pc := 46) (hb hby at_46) rfl rfl (by decide) (by decide) ?_
  rintro _ T L X ⟨t, kt, rfl, F2, l_t, B_t⟩
  dsimp only [Option.toList_some, Option.toList_none, List.cons_append, List.nil_append]
  have l_t := Nat.le_trans F.size l_t
  have F := F.call F2 (fun _ q => nomatch q)
  have S := S.ext (Ow.Keep.ext0 F2.1)
  obtain ⟨h_46, e_46⟩ : ∃ q, q = T.heap := ⟨_, rfl⟩
  rw [← e_46] at F S B_t
  have eT : T.heap = h_46 := e_46.symm
  refine Ow.astore X hx (pc := 49) #[_, _, _, _, _, _, _, _, _, _, _, _, _, _, _, _, _, _, _, _, _, _, _, _, _] (hb hby at_49) rfl rfl ?_
  refine Ow.iconst X hx (pc := 51) (2) (hb hby at_51) (by decide) ?_
  refine Ow.newarrayL X hx hZ (ww hw 5 rfl) eT 2 (vs := [_, _]) rfl (pc := 52) (hb hby at_52) (by decide) (by decide) (by decide) (by decide) (by decide) ?_
  intro T h_cA k_cA cA ha_cA X eT E_cA B_cA
  have l_cA : h0.size ≤ cA := by rw [ha_cA]; exact F.size
  have ne_t_cA : t ≠ cA := by rw [ha_cA]; exact Nat.ne_of_lt B_t.lt
  have S := S.ext E_cA
  have B_t := B_t.ext E_cA
  have F := F.ext E_cA
  refine Ow.astore X hx (pc := 54) #[_, _, _, _, _, _, _, _, _, _, _, _, _, _, _, _, _, _, _, _, _, _, _, _, _] (hb hby at_54) rfl rfl ?_
  refine Ow.aload X hx (pc := 56) (hb hby at_56) rfl rfl ?_
  refine Ow.iconst X hx (pc := 58) (0) (hb hby at_58) (by decide) ?_
  refine Ow.iloadN X hx (pc := 59) (hb hby at_59) rfl ?_
  refine Ow.sipush X hx (pc := 60) (255) (hb hby at_60) (by decide) ?_
  refine Ow.iand X hx (pc := 63) (hb hby at_63) ?_
  refine Ow.i2c X hx (pc := 64) (hb hby at_64) ?_
  rw [hka, (own_ch8 ka).2.2.2]
  refine Ow.castoreL X hx hZ eT B_cA 0 [_, _] (by decide) (by decide) rfl rfl (pc := 65) (hb hby at_65) ?_
  intro T h_65 X eT W_65 B_cA
  rw [(own_ch8 ka).2.2.1] at B_cA W_65
  have S := S.wr W_65
  have B_t := B_t.other W_65 ne_t_cA
  have F := F.wr W_65 (Or.inr l_cA)
  refine Ow.aload X hx (pc := 66) (hb hby at_66) rfl rfl ?_
  refine Ow.iconst X hx (pc := 68) (1) (hb hby at_68) (by decide) ?_
  refine Ow.iloadN X hx (pc := 69) (hb hby at_69) rfl ?_
  refine Ow.bipush X hx (pc := 70) (8) (hb hby at_70) (by decide) ?_
  refine Ow.ishr X hx (pc := 72) (hb hby at_72) ?_
  refine Ow.sipush X hx (pc := 73) (255) (hb hby at_73) (by decide) ?_
  refine Ow.iand X hx (pc := 76) (hb hby at_76) ?_
  refine Ow.i2c X hx (pc := 77) (hb hby at_77) ?_
  rw [hkc, (own_ch8 kc).2.2.2]
  refine Ow.castoreL X hx hZ eT B_cA 1 [_, _] (by decide) (by decide) rfl rfl (pc := 78) (hb hby at_78) ?_
  intro T h_78 X eT W_78 B_cA
  rw [(own_ch8 kc).2.2.1] at B_cA W_78
  have S := S.wr W_78
  have B_t := B_t.other W_78 ne_t_cA
  have F := F.wr W_78 (Or.inr l_cA)
  refine Ow.iload X hx (pc := 79) (hb hby at_79) rfl ?_
  refine Ow.if_eq X hx (pc := 81) (pc' := 88) (hb hby at_81) (by decide) (by decide) (fun h81 => ?_) (fun q => absurd rfl q)
  refine Ow.new_ X hx hZ hown (ww hw 6 rfl) (ww hw 7 rfl) (ww hw 8 rfl) eT (pc := 88) (hb hby at_88) (by decide) (by decide) ?_
  intro T h_x x ha_x X eT E_x A_x D_x U_x
  have l_x : h0.size ≤ x := by rw [ha_x]; exact F.size
  have ne_t_x : t ≠ x := by rw [ha_x]; exact Nat.ne_of_lt B_t.lt
  have ne_cA_x : cA ≠ x := by rw [ha_x]; exact Nat.ne_of_lt B_cA.lt
  have S := S.ext E_x
  have B_t := B_t.ext E_x
  have B_cA := B_cA.ext E_x
  have F := F.ext E_x
  have V0 := D_x (Or.inr (ww hw 33 rfl)) (ty := .array .byte) (by decide)
  have C0 := D_x (Or.inr (ww hw 31 rfl)) (ty := .byte) (by decide)
  refine Ow.dup X hx (pc := 91) (hb hby at_91) rfl ?_
  refine Ow.aload X hx (pc := 92) (hb hby at_92) rfl rfl ?_
  refine strLat X hx hZ hw eT hown (ww hw 9 rfl) (cs := [Int32.ofNat ka.val, Int32.ofNat kc.val]) A_x V0 C0 B_cA S hz 2 rfl (by decide) (by decide) H8 (by rw [hml]; rfl) (pc := 94) (hb hby at_94) rfl rfl (by decide) (by decide) ?_
  intro T L kx X F2 St
  have F := F.call F2 (fun y hy => by cases List.mem_singleton.mp hy; exact Or.inr l_x)
  have P_x := Ow.Exa.plain A_x
  have S := Ow.staKeep S F2.1 (fun y hy => by cases List.mem_singleton.mp hy; exact P_x)
  have B_t := B_t.keep F2.1 (Ow.nin1 ne_t_x)
  have B_cA := B_cA.keep F2.1 (Ow.nin1 ne_cA_x)
  have A_x := A_x.keep F2.1
  obtain ⟨h_94, e_94⟩ : ∃ q, q = T.heap := ⟨_, rfl⟩
  rw [← e_94] at F S B_t B_cA A_x
  have eT : T.heap = h_94 := e_94.symm
  refine Ow.astore X hx (pc := 97) #[_, _, _, _, _, _, _, _, _, _, _, _, _, _, _, _, _, _, _, _, _, _, _, _, _] (hb hby at_97) rfl rfl ?_
  refine Ow.iconst X hx (pc := 99) (4) (hb hby at_99) (by decide) ?_
  refine Ow.newarrayL X hx hZ (ww hw 4 rfl) eT 4 (vs := [_, _, _, _]) rfl (pc := 100) (hb hby at_100) (by decide) (by decide) (by decide) (by decide) (by decide) ?_
  intro T h_o k_o o ha_o X eT E_o B_o
  have l_o : h0.size ≤ o := by rw [ha_o]; exact F.size
  have ne_t_o : t ≠ o := by rw [ha_o]; exact Nat.ne_of_lt B_t.lt
  have ne_x_o : x ≠ o := by rw [ha_o]; exact Nat.ne_of_lt A_x.lt
  have S := S.ext E_o
  have B_t := B_t.ext E_o
  have A_x := A_x.ext E_o
  have F := F.ext E_o
  refine Ow.astore X hx (pc := 102) #[_, _, _, _, _, _, _, _, _, _, _, _, _, _, _, _, _, _, _, _, _, _, _, _, _] (hb hby at_102) rfl rfl ?_
  refine Ow.new_ X hx hZ hown (ww hw 34 rfl) (ww hw 35 rfl) (ww hw 36 rfl) eT (pc := 104) (hb hby at_104) (by decide) (by decide) ?_
  intro T h_s s ha_s X eT E_s A_s D_s U_s
  have l_s : h0.size ≤ s := by rw [ha_s]; exact F.size
  have ne_t_s : t ≠ s := by rw [ha_s]; exact Nat.ne_of_lt B_t.lt
  have ne_x_s : x ≠ s := by rw [ha_s]; exact Nat.ne_of_lt A_x.lt
  have ne_o_s : o ≠ s := by rw [ha_s]; exact Nat.ne_of_lt B_o.lt
  have S := S.ext E_s
  have B_t := B_t.ext E_s
  have A_x := A_x.ext E_s
  have B_o := B_o.ext E_s
  have F := F.ext E_s
  have F_mark := D_s (Or.inl (ww hw 53 rfl)) (ty := .int) (by decide)
  have F_buf := D_s (Or.inl (ww hw 55 rfl)) (ty := (.array .byte)) (by decide)
  have F_pos := D_s (Or.inl (ww hw 57 rfl)) (ty := .int) (by decide)
  have F_count := D_s (Or.inl (ww hw 59 rfl)) (ty := .int) (by decide)
  have F_name := D_s (Or.inr (ww hw 61 rfl)) (ty := (.object "java/lang/String")) (by decide)
  refine Ow.dup X hx (pc := 107) (hb hby at_107) rfl ?_
  refine Ow.aload X hx (pc := 108) (hb hby at_108) rfl rfl ?_
  refine Ow.aload X hx (pc := 110) (hb hby at_110) rfl rfl ?_
  refine Ow.callI X hx hZ (c_ns1 l Z a0 hw _ _ _ x _ _ ne_t_s A_s U_s F_mark F_buf F_pos F_count F_name B_t) eT rfl hown (ww hw 37 rfl) (ww hw 38 rfl) (ww hw 36 rfl) (ww hw 39 rfl) (by decide) pd3 (by rw [hml]; rfl) (argsL := [_, _]) rfl rfl rfl (pc := 112) (hb hby at_112) rfl rfl (by decide) (by decide) ?_
  rintro _ T L X ⟨rfl, F2, A_s, U_s, F_mark, F_buf, F_pos, F_count, F_name⟩
  dsimp only [Option.toList_some, Option.toList_none, List.cons_append, List.nil_append]
  have F := F.call F2 (fun y hy => by cases List.mem_singleton.mp hy; exact Or.inr l_s)
  have B_t := B_t.keep F2.1 (Ow.nin1 ne_t_s)
  have A_x := A_x.keep F2.1
  have B_o := B_o.keep F2.1 (Ow.nin1 ne_o_s)
  obtain ⟨h_112, e_112⟩ : ∃ q, q = T.heap := ⟨_, rfl⟩
  rw [← e_112] at F B_t A_x B_o A_s U_s F_mark F_buf F_pos F_count F_name
  have eT : T.heap = h_112 := e_112.symm
  have hy125 : (2 + 1 : Int32) ≠ 0 := by decide
  obtain ⟨j, hjl, hj⟩ := own_rem p2 (2 + 1) (by decide)
  have hjl : j ≤ 2 := by
    have e : (2 + 1 : Int32).toInt = 3 := by decide
    rw [e] at hjl
    omega
  refine Ow.astore X hx (pc := 115) #[_, _, _, _, _, _, _, _, _, _, _, _, _, _, _, _, _, _, _, _, _, _, _, _, _] (hb hby at_115) rfl rfl ?_
  refine Ow.iloadN X hx (pc := 117) (hb hby at_117) rfl ?_
  refine Ow.ldcI X hx (pc := 118) (2147483647) (hb hby at_118) hown (mvT hZ (ww hw 62 rfl)) ?_
  refine Ow.iand X hx (pc := 120) (hb hby at_120) ?_
  refine Ow.iload X hx (pc := 121) (hb hby at_121) rfl ?_
  refine Ow.iconst X hx (pc := 123) (1) (hb hby at_123) (by decide) ?_
  refine Ow.iadd X hx (pc := 124) (hb hby at_124) ?_
  refine Ow.irem X hx (pc := 125) (hb hby at_125) hy125 ?_
  rw [hj]
  refine Ow.i2l X hx (pc := 126) (hb hby at_126) ?_
  refine Ow.lstore X hx (pc := 127) #[_, _, _, _, _, _, _, _, _, _, _, _, _, _, _, _, _, _, _, _, _, _, _, _, _] (hb hby at_127) rfl ?_
  refine Ow.aload X hx (pc := 129) (hb hby at_129) rfl rfl ?_
  refine Ow.lload X hx (pc := 131) (hb hby at_131) rfl ?_
  refine Owl.callUB X hx hZ (Owl.backS (c_skip1 l Z a0 hw _ _ t x 2 j (by decide) hjl A_s U_s F_mark F_buf F_pos F_count F_name) hZ (ww hw 68 rfl) (ww hw 66 rfl) (ww hw 43 rfl) U_s (by decide) (by decide)) eT hown (ww hw 63 rfl) (ww hw 64 rfl) (ww hw 65 rfl) (ww hw 67 rfl) (ww hw 66 rfl) (by decide) pd7 (by rw [hml]; rfl) A_s (argsL := [_]) rfl rfl rfl (pc := 133) (hb hby at_133) (by decide) (by decide) ?_
  rintro _ T L X ⟨rfl, F2, A_s, U_s, F_mark, F_buf, F_pos, F_count, F_name⟩
  dsimp only [Option.toList_some, Option.toList_none, List.cons_append, List.nil_append]
  have F := F.call F2 (fun y hy => by cases List.mem_singleton.mp hy; exact Or.inr l_s)
  have B_t := B_t.keep F2.1 (Ow.nin1 ne_t_s)
  have A_x := A_x.keep F2.1
  have B_o := B_o.keep F2.1 (Ow.nin1 ne_o_s)
  obtain ⟨h_133, e_133⟩ : ∃ q, q = T.heap := ⟨_, rfl⟩
  rw [← e_133] at F B_t A_x B_o A_s U_s F_mark F_buf F_pos F_count F_name
  have eT : T.heap = h_133 := e_133.symm
  refine Ow.lstore X hx (pc := 136) #[_, _, _, _, _, _, _, _, _, _, _, _, _, _, _, _, _, _, _, _, _, _, _, _, _] (hb hby at_136) rfl ?_
  refine Ow.aload X hx (pc := 138) (hb hby at_138) rfl rfl ?_
  refine Ow.callV X hx hZ (c_reopened1 l Z a0 hw _ _ _ x _ _ F_buf F_name B_t) eT hown (ww hw 69 rfl) (ww hw 70 rfl) (ww hw 72 rfl) (ww hw 71 rfl) (ww hw 36 rfl) (ww hw 73 rfl) (by decide) pd8 (by rw [hml]; rfl) A_s (argsL := []) rfl rfl rfl (pc := 140) (hb hby at_140) rfl rfl (by decide) (by decide) ?_
  rintro _ T L X ⟨r, rfl, F2, l_r, A_r, U_r, G_mark, G_buf, G_pos, G_count, G_name⟩
  dsimp only [Option.toList_some, Option.toList_none, List.cons_append, List.nil_append]
  have h0r := Nat.le_trans F.size l_r
  have ne_t_r : t ≠ r := Nat.ne_of_lt (Nat.lt_of_lt_of_le B_t.lt l_r)
  have ne_x_r : x ≠ r := Nat.ne_of_lt (Nat.lt_of_lt_of_le A_x.lt l_r)
  have ne_o_r : o ≠ r := Nat.ne_of_lt (Nat.lt_of_lt_of_le B_o.lt l_r)
  have ne_s_r : s ≠ r := Nat.ne_of_lt (Nat.lt_of_lt_of_le A_s.lt l_r)
  have F := F.call F2 (fun _ q => nomatch q)
  have B_t := B_t.ext (Ow.Keep.ext0 F2.1)
  have A_x := A_x.ext (Ow.Keep.ext0 F2.1)
  have B_o := B_o.ext (Ow.Keep.ext0 F2.1)
  have A_s := A_s.ext (Ow.Keep.ext0 F2.1)
  have U_s := U_s.ext (Ow.Keep.ext0 F2.1)
  have F_mark := F_mark.ext (Ow.Keep.ext0 F2.1)
  have F_buf := F_buf.ext (Ow.Keep.ext0 F2.1)
  have F_pos := F_pos.ext (Ow.Keep.ext0 F2.1)
  have F_count := F_count.ext (Ow.Keep.ext0 F2.1)
  have F_name := F_name.ext (Ow.Keep.ext0 F2.1)
  obtain ⟨h_140, e_140⟩ : ∃ q, q = T.heap := ⟨_, rfl⟩
  rw [← e_140] at F B_t A_x B_o A_s U_s F_mark F_buf F_pos F_count F_name A_r U_r G_mark G_buf G_pos G_count G_name
  have eT : T.heap = h_140 := e_140.symm
  refine Ow.astore X hx (pc := 143) #[_, _, _, _, _, _, _, _, _, _, _, _, _, _, _, _, _, _, _, _, _, _, _, _, _] (hb hby at_143) rfl rfl ?_
  refine Ow.aload X hx (pc := 145) (hb hby at_145) rfl rfl ?_
  refine Ow.ifnull_r X hx (pc := 147) (hb hby at_147) ?_
  refine Ow.aload X hx (pc := 150) (hb hby at_150) rfl rfl ?_
  refine Ow.aload X hx (pc := 152) (hb hby at_152) rfl rfl ?_
  refine Ow.acmp_ne X hx (pc := 154) (pc' := 159) (hb hby at_154) rfl rfl (by decide) (by decide) (fun h154 => ?_) (fun q => absurd (Value.ref.inj q) (Ne.symm ne_s_r))
  refine Ow.aload X hx (pc := 159) (hb hby at_159) rfl rfl ?_
  refine Ow.callVP X hx hZ (c_name1 l Z a0 hw _ _ x G_name) rfl rfl eT hown (ww hw 78 rfl) (ww hw 79 rfl) (ww hw 81 rfl) (ww hw 80 rfl) (ww hw 36 rfl) (ww hw 82 rfl) (by decide) pd9 (by rw [hml]; rfl) A_r (argsL := []) rfl rfl rfl (pc := 161) (hb hby at_161) rfl rfl (by decide) (by decide) ?_   -- com/example/eunomia/eunomia/xml/NamedStream.name:()Ljava/lang/String;
  intro T X eT
  dsimp only [Option.toList_some, Option.toList_none, List.cons_append, List.nil_append]
  refine Ow.astore X hx (pc := 164) #[_, _, _, _, _, _, _, _, _, _, _, _, _, _, _, _, _, _, _, _, _, _, _, _, _] (hb hby at_164) rfl rfl ?_
  refine Ow.aload X hx (pc := 166) (hb hby at_166) rfl rfl ?_
  refine Ow.ifnonnull_r X hx (pc := 168) (pc' := 184) (hb hby at_168) (by decide) (by decide) ?_
  refine Ow.aload X hx (pc := 184) (hb hby at_184) rfl rfl ?_
  refine Ow.aload X hx (pc := 186) (hb hby at_186) rfl rfl ?_
  refine Ow.callVP X hx hZ (c_equals l Z a0 hw _ _) rfl rfl eT hown (ww hw 83 rfl) (ww hw 84 rfl) (ww hw 86 rfl) (ww hw 85 rfl) (ww hw 8 rfl) (ww hw 87 rfl) (by decide) pd12 (by rw [hml]; rfl) A_x (argsL := [_]) rfl rfl rfl (pc := 188) (hb hby at_188) rfl rfl (by decide) (by decide) ?_   -- java/lang/String.equals:(Ljava/lang/Object;)Z
  intro T X eT
  dsimp only [Option.toList_some, Option.toList_none, List.cons_append, List.nil_append]
  refine Ow.istore X hx (pc := 191) #[_, _, _, _, _, _, _, _, _, _, _, _, _, _, _, _, _, _, _, _, _, _, _, _, _] (hb hby at_191) rfl ?_
  refine Ow.aload X hx (pc := 193) (hb hby at_193) rfl rfl ?_
  refine Ow.aload X hx (pc := 195) (hb hby at_195) rfl rfl ?_
  refine Ow.iconst X hx (pc := 197) (0) (hb hby at_197) (by decide) ?_
  refine Ow.iconst X hx (pc := 198) (4) (hb hby at_198) (by decide) ?_
  refine Owl.callUB X hx hZ (Owl.backS (c_read21 l Z a0 hw _ r o t x _ _ b0 b1 b2 (Ne.symm ne_o_r) HF2 A_r G_mark G_buf G_pos G_count G_name B_t B_o) hZ (ww hw 93 rfl) (ww hw 91 rfl) (ww hw 43 rfl) U_r (by decide) (by decide)) eT hown (ww hw 88 rfl) (ww hw 89 rfl) (ww hw 90 rfl) (ww hw 92 rfl) (ww hw 91 rfl) (by decide) pd10 (by rw [hml]; rfl) A_r (argsL := [_, _, _]) rfl rfl rfl (pc := 199) (hb hby at_199) (by decide) (by decide) ?_
  rintro _ T L X ⟨rfl, F2, B_o⟩
  dsimp only [Option.toList_some, Option.toList_none, List.cons_append, List.nil_append]
  have F := F.call F2 (fun y hy => by
    simp only [List.mem_cons, List.not_mem_nil, or_false] at hy
    rcases hy with rfl | rfl
    · exact Or.inr h0r
    · exact Or.inr l_o)
  have B_t := B_t.keep F2.1 (ninS ne_t_r (Ow.nin1 ne_t_o))
  have A_x := A_x.keep F2.1
  have A_s := A_s.keep F2.1
  have U_s := Unt.keep F2.1 (ninS ne_s_r (Ow.nin1 (Ne.symm ne_o_s))) U_s
  have F_mark := F_mark.keep F2.1 (ninS ne_s_r (Ow.nin1 (Ne.symm ne_o_s)))
  have F_buf := F_buf.keep F2.1 (ninS ne_s_r (Ow.nin1 (Ne.symm ne_o_s)))
  have F_pos := F_pos.keep F2.1 (ninS ne_s_r (Ow.nin1 (Ne.symm ne_o_s)))
  have F_count := F_count.keep F2.1 (ninS ne_s_r (Ow.nin1 (Ne.symm ne_o_s)))
  have F_name := F_name.keep F2.1 (ninS ne_s_r (Ow.nin1 (Ne.symm ne_o_s)))
  obtain ⟨h_199, e_199⟩ : ∃ q, q = T.heap := ⟨_, rfl⟩
  rw [← e_199] at F B_t A_x A_s U_s F_mark F_buf F_pos F_count F_name B_o
  have eT : T.heap = h_199 := e_199.symm
  refine Ow.istore X hx (pc := 202) #[_, _, _, _, _, _, _, _, _, _, _, _, _, _, _, _, _, _, _, _, _, _, _, _, _] (hb hby at_202) rfl ?_
  refine Ow.aload X hx (pc := 204) (hb hby at_204) rfl rfl ?_
  refine Owl.callUB X hx hZ (Owl.backS (c_avail l Z a0 hw _ _ _ _ F_count F_pos) hZ (ww hw 107 rfl) (ww hw 105 rfl) (ww hw 43 rfl) U_s (by decide) (by decide)) eT hown (ww hw 102 rfl) (ww hw 103 rfl) (ww hw 104 rfl) (ww hw 106 rfl) (ww hw 105 rfl) (by decide) pd11 (by rw [hml]; rfl) A_s (argsL := []) rfl rfl rfl (pc := 206) (hb hby at_206) (by decide) (by decide) ?_
  rintro _ T L X ⟨rfl, eT, rfl⟩
  dsimp only [Option.toList_some, Option.toList_none, List.cons_append, List.nil_append]
  rw [List.append_nil] at X
  refine Ow.istore X hx (pc := 209) #[_, _, _, _, _, _, _, _, _, _, _, _, _, _, _, _, _, _, _, _, _, _, _, _, _] (hb hby at_209) rfl ?_
  refine Ow.iload X hx (pc := 211) (hb hby at_211) rfl ?_
  refine Ow.if_ne X hx (pc := 213) (pc' := 220) (hb hby at_213) (by decide) (by decide) (fun h213 => ?_) (fun q => absurd q (by decide))
  refine Ow.iload X hx (pc := 220) (hb hby at_220) rfl ?_
  refine Ow.istore X hx (pc := 222) #[_, _, _, _, _, _, _, _, _, _, _, _, _, _, _, _, _, _, _, _, _, _, _, _, _] (hb hby at_222) rfl ?_
  refine Ow.iconst X hx (pc := 224) (1) (hb hby at_224) (by decide) ?_
  refine Ow.istore X hx (pc := 225) #[_, _, _, _, _, _, _, _, _, _, _, _, _, _, _, _, _, _, _, _, _, _, _, _, _] (hb hby at_225) rfl ?_
  refine Ow.iload X hx (pc := 227) (hb hby at_227) rfl ?_
  refine Ow.iconst X hx (pc := 229) (1) (hb hby at_229) (by decide) ?_
  refine Ow.icmp_lt X hx (pc := 230) (pc' := 245) (hb hby at_230) (by decide) (by decide) (fun q => absurd q (by decide)) (fun h230 => ?_)
  refine Ow.aload X hx (pc := 233) (hb hby at_233) rfl rfl ?_
  refine Ow.iconst X hx (pc := 235) (0) (hb hby at_235) (by decide) ?_
  refine Ow.baloadL X hx hZ eT B_o 0 (.int b0) (by decide) (by decide) rfl (pc := 236) (hb hby at_236) ?_
  refine Ow.iload X hx (pc := 237) (hb hby at_237) rfl ?_
  refine Ow.icmp_eq X hx (pc := 239) (pc' := 245) (hb hby at_239) (by decide) (by decide) (fun h239 => ?_) (fun q => absurd rfl q)
  refine Ow.iload X hx (pc := 245) (hb hby at_245) rfl ?_
  refine Ow.iconst X hx (pc := 247) (2) (hb hby at_247) (by decide) ?_
  refine Ow.icmp_lt X hx (pc := 248) (pc' := 263) (hb hby at_248) (by decide) (by decide) (fun q => absurd q (by decide)) (fun h248 => ?_)
  refine Ow.aload X hx (pc := 251) (hb hby at_251) rfl rfl ?_
  refine Ow.iconst X hx (pc := 253) (1) (hb hby at_253) (by decide) ?_
  refine Ow.baloadL X hx hZ eT B_o 1 (.int b1) (by decide) (by decide) rfl (pc := 254) (hb hby at_254) ?_
  refine Ow.iload X hx (pc := 255) (hb hby at_255) rfl ?_
  refine Ow.icmp_eq X hx (pc := 257) (pc' := 263) (hb hby at_257) (by decide) (by decide) (fun h257 => ?_) (fun q => absurd rfl q)
  refine Ow.iload X hx (pc := 263) (hb hby at_263) rfl ?_
  refine Ow.iconst X hx (pc := 265) (3) (hb hby at_265) (by decide) ?_
  refine Ow.icmp_lt X hx (pc := 266) (pc' := 281) (hb hby at_266) (by decide) (by decide) (fun h266 => ?_) (fun q => absurd (by decide) q)
  refine Ow.iload X hx (pc := 281) (hb hby at_281) rfl ?_
  refine Ow.iconst X hx (pc := 283) (1) (hb hby at_283) (by decide) ?_
  refine Ow.icmp_ge X hx (pc := 284) (pc' := 297) (hb hby at_284) (by decide) (by decide) (fun h284 => ?_) (fun q => absurd q (by decide))
  refine Ow.iload X hx (pc := 297) (hb hby at_297) rfl ?_
  refine Ow.iconst X hx (pc := 299) (2) (hb hby at_299) (by decide) ?_
  refine Ow.icmp_ge X hx (pc := 300) (pc' := 313) (hb hby at_300) (by decide) (by decide) (fun h300 => ?_) (fun q => absurd q (by decide))
  refine Ow.iload X hx (pc := 313) (hb hby at_313) rfl ?_
  refine Ow.iconst X hx (pc := 315) (3) (hb hby at_315) (by decide) ?_
  refine Ow.icmp_ge X hx (pc := 316) (pc' := 329) (hb hby at_316) (by decide) (by decide) (fun q => absurd (by decide) q) (fun h316 => ?_)
  refine Ow.aload X hx (pc := 319) (hb hby at_319) rfl rfl ?_
  refine Ow.iconst X hx (pc := 321) (2) (hb hby at_321) (by decide) ?_
  refine Ow.baloadL X hx hZ eT B_o 2 (.int 0) (by decide) (by decide) rfl (pc := 322) (hb hby at_322) ?_
  refine Ow.if_eq X hx (pc := 323) (pc' := 329) (hb hby at_323) (by decide) (by decide) (fun h323 => ?_) (fun q => absurd rfl q)
  refine Ow.aload X hx (pc := 329) (hb hby at_329) rfl rfl ?_
  refine Ow.iconst X hx (pc := 331) (3) (hb hby at_331) (by decide) ?_
  refine Ow.baloadL X hx hZ eT B_o 3 (.int 0) (by decide) (by decide) rfl (pc := 332) (hb hby at_332) ?_
  refine Ow.if_eq X hx (pc := 333) (pc' := 339) (hb hby at_333) (by decide) (by decide) (fun h333 => ?_) (fun q => absurd rfl q)
  refine Ow.iload X hx (pc := 339) (hb hby at_339) rfl ?_
  refine Ow.if_eq X hx (pc := 341) (pc' := 379) (hb hby at_341) (by decide) (by decide) (fun q => absurd q (by decide)) (fun h341 => ?_)
  refine Ow.lload X hx (pc := 344) (hb hby at_344) rfl ?_
  refine Ow.lload X hx (pc := 346) (hb hby at_346) rfl ?_
  refine Ow.lcmp X hx (pc := 348) (hb hby at_348) ?_
  refine Ow.if_ne X hx (pc := 349) (pc' := 379) (hb hby at_349) (by decide) (by decide) (fun q => absurd (own_cmp_self _) q) (fun h349 => ?_)
  refine Ow.iload X hx (pc := 352) (hb hby at_352) rfl ?_
  refine Ow.iload X hx (pc := 354) (hb hby at_354) rfl ?_
  refine Ow.icmp_ne X hx (pc := 356) (pc' := 379) (hb hby at_356) (by decide) (by decide) (fun q => absurd rfl q) (fun h356 => ?_)
  refine Ow.iload X hx (pc := 359) (hb hby at_359) rfl ?_
  refine Ow.if_eq X hx (pc := 361) (pc' := 379) (hb hby at_361) (by decide) (by decide) (fun q => absurd q (by decide)) (fun h361 => ?_)
  refine Ow.iload X hx (pc := 364) (hb hby at_364) rfl ?_
  refine Ow.iload X hx (pc := 366) (hb hby at_366) rfl ?_
  refine Ow.lload X hx (pc := 368) (hb hby at_368) rfl ?_
  refine Ow.l2i X hx (pc := 370) (hb hby at_370) ?_
  rw [own_l2i]
  refine Ow.isub X hx (pc := 371) (hb hby at_371) ?_
  refine Ow.icmp_ne X hx (pc := 372) (pc' := 379) (hb hby at_372) (by decide) (by decide) (fun q => absurd rfl q) (fun h372 => ?_)
  refine Ow.iconst X hx (pc := 375) (1) (hb hby at_375) (by decide) ?_
  refine Ow.goto X hx (pc := 376) (pc' := 380) (hb hby at_376) (by decide) (by decide) ?_
  exact Ow.nreturn X hx hlk hret (Or.inl rfl) (hb hby at_380) ⟨rfl, by rw [eT]; exact F⟩ (by decide) (by decide)
set_option maxRecDepth 65536 in
set_option maxHeartbeats 40000000 in
theorem law_30 (l : Launch) (Z : State) (a0 : Array Value) (hw : ∀ d ∈ tables_1, d.before a0 Z = true) (h0 : Heap) (z p0 p1 p2 p3 : Int32) (S : Sta Z h0 "java/lang/String" "COMPACT_STRINGS" "Z" (.int z)) (hz : ¬ z = 0) (hn3 : p0 &&& 3 = 3) (h10 : ¬ (p0 >>> ((2 : Int32) &&& 31)) &&& 1 = 0) : Ow.Pay l Z x code maxLocals ret room_1 #[(.int p0), (.int p1), (.int p2), (.int p3)] h0 (fun v h L => v = some (.int 1) ∧ Ow.Eff h0 h [] L) := by
  refine Ow.Pay.of (Ls := #[.val (.int p0), .val (.int p1), .val (.int p2), .val (.int p3), .unset, .unset, .unset, .unset, .unset, .unset, .unset, .unset, .unset, .unset, .unset, .unset, .unset, .unset, .unset, .unset, .unset, .unset, .unset, .unset, .unset]) (plainFor_of_name pn0) (fun m => by first | (simp [entryFrame, mkF, argsToLocals, Value.category, maxLocals]; done) | rfl) ?_
  intro p e s m below meth c T hx hby hml hown hnm hme hZ hret hlk X eT
  obtain ⟨ka, hka⟩ := own_mask8 p3
  obtain ⟨kc, hkc⟩ := own_mask8 (p3 >>> ((8 : Int32) &&& 31))
  obtain ⟨b0, hb0⟩ : ∃ q, q = p1.toInt8.toInt32 := ⟨_, rfl⟩
  obtain ⟨b1, hb1⟩ : ∃ q, q = (p1 >>> ((8 : Int32) &&& 31)).toInt8.toInt32 := ⟨_, rfl⟩
  obtain ⟨b2, hb2⟩ : ∃ q, q = (p1 >>> ((16 : Int32) &&& 31)).toInt8.toInt32 := ⟨_, rfl⟩
  have H8 : ∀ c ∈ [Int32.ofNat ka.val, Int32.ofNat kc.val], ∃ k : Fin 256, c = Int32.ofNat k.val := fun c hc => by
    simp only [List.mem_cons, List.not_mem_nil, or_false] at hc
    rcases hc with rfl | rfl
    · exact ⟨ka, rfl⟩
    · exact ⟨kc, rfl⟩
  have HF3 : ∀ v ∈ ([.int b0, .int b1, .int b2] : List Value), fits .byte v = true := fun v hv => by
    simp only [List.mem_cons, List.not_mem_nil, or_false] at hv
    rcases hv with rfl | rfl | rfl
    · rw [hb0]; exact own_fitB _
    · rw [hb1]; exact own_fitB _
    · rw [hb2]; exact own_fitB _
  have F := Ow.Eff.refl h0 []
  refine Ow.iloadN X hx (pc := 0) (hb hby at_0) rfl ?_
  refine Ow.iconst X hx (pc := 1) (3) (hb hby at_1) (by decide) ?_
  refine Ow.iand X hx (pc := 2) (hb hby at_2) ?_
  rw [hn3]
  refine Ow.istore X hx (pc := 3) #[_, _, _, _, _, _, _, _, _, _, _, _, _, _, _, _, _, _, _, _, _, _, _, _, _] (hb hby at_3) rfl ?_
  refine Ow.iloadN X hx (pc := 5) (hb hby at_5) rfl ?_
  refine Ow.iconst X hx (pc := 6) (2) (hb hby at_6) (by decide) ?_
  refine Ow.ishr X hx (pc := 7) (hb hby at_7) ?_
  refine Ow.iconst X hx (pc := 8) (1) (hb hby at_8) (by decide) ?_
  refine Ow.iand X hx (pc := 9) (hb hby at_9) ?_
  refine Ow.if_eq X hx (pc := 10) (pc' := 17) (hb hby at_10) (by decide) (by decide) (fun q => absurd q h10) (fun _ => ?_)
  refine Ow.iconst X hx (pc := 13) (1) (hb hby at_13) (by decide) ?_
  refine Ow.goto X hx (pc := 14) (pc' := 18) (hb hby at_14) (by decide) (by decide) ?_
  refine Ow.istore X hx (pc := 18) #[_, _, _, _, _, _, _, _, _, _, _, _, _, _, _, _, _, _, _, _, _, _, _, _, _] (hb hby at_18) rfl ?_
  refine Ow.iloadN X hx (pc := 20) (hb hby at_20) rfl ?_
  refine Ow.i2b X hx (pc := 21) (hb hby at_21) ?_
  rw [← hb0]
  refine Ow.istore X hx (pc := 22) #[_, _, _, _, _, _, _, _, _, _, _, _, _, _, _, _, _, _, _, _, _, _, _, _, _] (hb hby at_22) rfl ?_
  refine Ow.iloadN X hx (pc := 24) (hb hby at_24) rfl ?_
  refine Ow.bipush X hx (pc := 25) (8) (hb hby at_25) (by decide) ?_
  refine Ow.ishr X hx (pc := 27) (hb hby at_27) ?_
  refine Ow.i2b X hx (pc := 28) (hb hby at_28) ?_
  rw [← hb1]
  refine Ow.istore X hx (pc := 29) #[_, _, _, _, _, _, _, _, _, _, _, _, _, _, _, _, _, _, _, _, _, _, _, _, _] (hb hby at_29) rfl ?_
  refine Ow.iloadN X hx (pc := 31) (hb hby at_31) rfl ?_
  refine Ow.bipush X hx (pc := 32) (16) (hb hby at_32) (by decide) ?_
  refine Ow.ishr X hx (pc := 34) (hb hby at_34) ?_
  refine Ow.i2b X hx (pc := 35) (hb hby at_35) ?_
  rw [← hb2]
  refine Ow.istore X hx (pc := 36) #[_, _, _, _, _, _, _, _, _, _, _, _, _, _, _, _, _, _, _, _, _, _, _, _, _] (hb hby at_36) rfl ?_
  refine Ow.iload X hx (pc := 38) (hb hby at_38) rfl ?_
  refine Ow.iload X hx (pc := 40) (hb hby at_40) rfl ?_
  refine Ow.iload X hx (pc := 42) (hb hby at_42) rfl ?_
  refine Ow.iload X hx (pc := 44) (hb hby at_44) rfl ?_
  refine Ow.callS X hx hZ (c_make3 l Z a0 hw _ b0 b1 b2 (hb0 ▸ own_nb _) (hb1 ▸ own_nb _) (hb2 ▸ own_nb _)) eT hown (ww hw 0 rfl) (ww hw 1 rfl) (ww hw 2 rfl) (ww hw 3 rfl) (by decide) pd6 (by rw [hml]; rfl) (argsL := [_, _, _, _]) rfl rfl rfl (pc := 46) (hb hby at_46) rfl rfl (by decide) (by decide) ?_
  rintro _ T L X ⟨t, kt, rfl, F2, l_t, B_t⟩
  dsimp only [Option.toList_some, Option.toList_none, List.cons_append, List.nil_append]
  have l_t := Nat.le_trans F.size l_t
  have F := F.call F2 (fun _ q => nomatch q)
  have S := S.ext (Ow.Keep.ext0 F2.1)
  obtain ⟨h_46, e_46⟩ : ∃ q, q = T.heap := ⟨_, rfl⟩
  rw [← e_46] at F S B_t
  have eT : T.heap = h_46 := e_46.symm
  refine Ow.astore X hx (pc := 49) #[_, _, _, _, _, _, _, _, _, _, _, _, _, _, _, _, _, _, _, _, _, _, _, _, _] (hb hby at_49) rfl rfl ?_
  refine Ow.iconst X hx (pc := 51) (2) (hb hby at_51) (by decide) ?_
  refine Ow.newarrayL X hx hZ (ww hw 5 rfl) eT 2 (vs := [_, _]) rfl (pc := 52) (hb hby at_52) (by decide) (by decide) (by decide) (by decide) (by decide) ?_
  intro T h_cA k_cA cA ha_cA X eT E_cA B_cA
  have l_cA : h0.size ≤ cA := by rw [ha_cA]; exact F.size
  have ne_t_cA : t ≠ cA := by rw [ha_cA]; exact Nat.ne_of_lt B_t.lt
  have S := S.ext E_cA
  have B_t := B_t.ext E_cA
  have F := F.ext E_cA
  refine Ow.astore X hx (pc := 54) #[_, _, _, _, _, _, _, _, _, _, _, _, _, _, _, _, _, _, _, _, _, _, _, _, _] (hb hby at_54) rfl rfl ?_
  refine Ow.aload X hx (pc := 56) (hb hby at_56) rfl rfl ?_
  refine Ow.iconst X hx (pc := 58) (0) (hb hby at_58) (by decide) ?_
  refine Ow.iloadN X hx (pc := 59) (hb hby at_59) rfl ?_
  refine Ow.sipush X hx (pc := 60) (255) (hb hby at_60) (by decide) ?_
  refine Ow.iand X hx (pc := 63) (hb hby at_63) ?_
  refine Ow.i2c X hx (pc := 64) (hb hby at_64) ?_
  rw [hka, (own_ch8 ka).2.2.2]
  refine Ow.castoreL X hx hZ eT B_cA 0 [_, _] (by decide) (by decide) rfl rfl (pc := 65) (hb hby at_65) ?_
  intro T h_65 X eT W_65 B_cA
  rw [(own_ch8 ka).2.2.1] at B_cA W_65
  have S := S.wr W_65
  have B_t := B_t.other W_65 ne_t_cA
  have F := F.wr W_65 (Or.inr l_cA)
  refine Ow.aload X hx (pc := 66) (hb hby at_66) rfl rfl ?_
  refine Ow.iconst X hx (pc := 68) (1) (hb hby at_68) (by decide) ?_
  refine Ow.iloadN X hx (pc := 69) (hb hby at_69) rfl ?_
  refine Ow.bipush X hx (pc := 70) (8) (hb hby at_70) (by decide) ?_
  refine Ow.ishr X hx (pc := 72) (hb hby at_72) ?_
  refine Ow.sipush X hx (pc := 73) (255) (hb hby at_73) (by decide) ?_
  refine Ow.iand X hx (pc := 76) (hb hby at_76) ?_
  refine Ow.i2c X hx (pc := 77) (hb hby at_77) ?_
  rw [hkc, (own_ch8 kc).2.2.2]
  refine Ow.castoreL X hx hZ eT B_cA 1 [_, _] (by decide) (by decide) rfl rfl (pc := 78) (hb hby at_78) ?_
  intro T h_78 X eT W_78 B_cA
  rw [(own_ch8 kc).2.2.1] at B_cA W_78
  have S := S.wr W_78
  have B_t := B_t.other W_78 ne_t_cA
  have F := F.wr W_78 (Or.inr l_cA)
  refine Ow.iload X hx (pc := 79) (hb hby at_79) rfl ?_
  refine Ow.if_eq X hx (pc := 81) (pc' := 88) (hb hby at_81) (by decide) (by decide) (fun q => absurd q (by decide)) (fun h81 => ?_)
  refine Ow.aconst_null X hx (pc := 84) (hb hby at_84) ?_
  refine Ow.goto X hx (pc := 85) (pc' := 97) (hb hby at_85) (by decide) (by decide) ?_
  refine Ow.astore X hx (pc := 97) #[_, _, _, _, _, _, _, _, _, _, _, _, _, _, _, _, _, _, _, _, _, _, _, _, _] (hb hby at_97) rfl rfl ?_
  refine Ow.iconst X hx (pc := 99) (4) (hb hby at_99) (by decide) ?_
  refine Ow.newarrayL X hx hZ (ww hw 4 rfl) eT 4 (vs := [_, _, _, _]) rfl (pc := 100) (hb hby at_100) (by decide) (by decide) (by decide) (by decide) (by decide) ?_
  intro T h_o k_o o ha_o X eT E_o B_o
  have l_o : h0.size ≤ o := by rw [ha_o]; exact F.size
  have ne_t_o : t ≠ o := by rw [ha_o]; exact Nat.ne_of_lt B_t.lt
  have S := S.ext E_o
  have B_t := B_t.ext E_o
  have F := F.ext E_o
  refine Ow.astore X hx (pc := 102) #[_, _, _, _, _, _, _, _, _, _, _, _, _, _, _, _, _, _, _, _, _, _, _, _, _] (hb hby at_102) rfl rfl ?_
  refine Ow.new_ X hx hZ hown (ww hw 34 rfl) (ww hw 35 rfl) (ww hw 36 rfl) eT (pc := 104) (hb hby at_104) (by decide) (by decide) ?_
  intro T h_s s ha_s X eT E_s A_s D_s U_s
  have l_s : h0.size ≤ s := by rw [ha_s]; exact F.size
  have ne_t_s : t ≠ s := by rw [ha_s]; exact Nat.ne_of_lt B_t.lt
  have ne_o_s : o ≠ s := by rw [ha_s]; exact Nat.ne_of_lt B_o.lt
  have S := S.ext E_s
  have B_t := B_t.ext E_s
  have B_o := B_o.ext E_s
  have F := F.ext E_s
  have F_mark := D_s (Or.inl (ww hw 53 rfl)) (ty := .int) (by decide)
  have F_buf := D_s (Or.inl (ww hw 55 rfl)) (ty := (.array .byte)) (by decide)
  have F_pos := D_s (Or.inl (ww hw 57 rfl)) (ty := .int) (by decide)
  have F_count := D_s (Or.inl (ww hw 59 rfl)) (ty := .int) (by decide)
  have F_name := D_s (Or.inr (ww hw 61 rfl)) (ty := (.object "java/lang/String")) (by decide)
  refine Ow.dup X hx (pc := 107) (hb hby at_107) rfl ?_
  refine Ow.aload X hx (pc := 108) (hb hby at_108) rfl rfl ?_
  refine Ow.aload X hx (pc := 110) (hb hby at_110) rfl rfl ?_
  refine Ow.callI X hx hZ (c_ns0 l Z a0 hw _ _ _ 0 _ _ ne_t_s A_s U_s F_mark F_buf F_pos F_count F_name B_t) eT rfl hown (ww hw 37 rfl) (ww hw 38 rfl) (ww hw 36 rfl) (ww hw 39 rfl) (by decide) pd3 (by rw [hml]; rfl) (argsL := [_, _]) rfl rfl rfl (pc := 112) (hb hby at_112) rfl rfl (by decide) (by decide) ?_
  rintro _ T L X ⟨rfl, F2, A_s, U_s, F_mark, F_buf, F_pos, F_count, F_name⟩
  dsimp only [Option.toList_some, Option.toList_none, List.cons_append, List.nil_append]
  have F := F.call F2 (fun y hy => by cases List.mem_singleton.mp hy; exact Or.inr l_s)
  have B_t := B_t.keep F2.1 (Ow.nin1 ne_t_s)
  have B_o := B_o.keep F2.1 (Ow.nin1 ne_o_s)
  obtain ⟨h_112, e_112⟩ : ∃ q, q = T.heap := ⟨_, rfl⟩
  rw [← e_112] at F B_t B_o A_s U_s F_mark F_buf F_pos F_count F_name
  have eT : T.heap = h_112 := e_112.symm
  have hy125 : (3 + 1 : Int32) ≠ 0 := by decide
  obtain ⟨j, hjl, hj⟩ := own_rem p2 (3 + 1) (by decide)
  have hjl : j ≤ 3 := by
    have e : (3 + 1 : Int32).toInt = 4 := by decide
    rw [e] at hjl
    omega
  refine Ow.astore X hx (pc := 115) #[_, _, _, _, _, _, _, _, _, _, _, _, _, _, _, _, _, _, _, _, _, _, _, _, _] (hb hby at_115) rfl rfl ?_
  refine Ow.iloadN X hx (pc := 117) (hb hby at_117) rfl ?_
  refine Ow.ldcI X hx (pc := 118) (2147483647) (hb hby at_118) hown (mvT hZ (ww hw 62 rfl)) ?_
  refine Ow.iand X hx (pc := 120) (hb hby at_120) ?_
  refine Ow.iload X hx (pc := 121) (hb hby at_121) rfl ?_
  refine Ow.iconst X hx (pc := 123) (1) (hb hby at_123) (by decide) ?_
  refine Ow.iadd X hx (pc := 124) (hb hby at_124) ?_
  refine Ow.irem X hx (pc := 125) (hb hby at_125) hy125 ?_
  rw [hj]
  refine Ow.i2l X hx (pc := 126) (hb hby at_126) ?_
  refine Ow.lstore X hx (pc := 127) #[_, _, _, _, _, _, _, _, _, _, _, _, _, _, _, _, _, _, _, _, _, _, _, _, _] (hb hby at_127) rfl ?_
  refine Ow.aload X hx (pc := 129) (hb hby at_129) rfl rfl ?_
  refine Ow.lload X hx (pc := 131) (hb hby at_131) rfl ?_
  refine Owl.callUB X hx hZ (Owl.backS (c_skip0 l Z a0 hw _ _ t 0 3 j (by decide) hjl A_s U_s F_mark F_buf F_pos F_count F_name) hZ (ww hw 68 rfl) (ww hw 66 rfl) (ww hw 43 rfl) U_s (by decide) (by decide)) eT hown (ww hw 63 rfl) (ww hw 64 rfl) (ww hw 65 rfl) (ww hw 67 rfl) (ww hw 66 rfl) (by decide) pd7 (by rw [hml]; rfl) A_s (argsL := [_]) rfl rfl rfl (pc := 133) (hb hby at_133) (by decide) (by decide) ?_
  rintro _ T L X ⟨rfl, F2, A_s, U_s, F_mark, F_buf, F_pos, F_count, F_name⟩
  dsimp only [Option.toList_some, Option.toList_none, List.cons_append, List.nil_append]
  have F := F.call F2 (fun y hy => by cases List.mem_singleton.mp hy; exact Or.inr l_s)
  have B_t := B_t.keep F2.1 (Ow.nin1 ne_t_s)
  have B_o := B_o.keep F2.1 (Ow.nin1 ne_o_s)
  obtain ⟨h_133, e_133⟩ : ∃ q, q = T.heap := ⟨_, rfl⟩
  rw [← e_133] at F B_t B_o A_s U_s F_mark F_buf F_pos F_count F_name
  have eT : T.heap = h_133 := e_133.symm
  refine Ow.lstore X hx (pc := 136) #[_, _, _, _, _, _, _, _, _, _, _, _, _, _, _, _, _, _, _, _, _, _, _, _, _] (hb hby at_136) rfl ?_
  refine Ow.aload X hx (pc := 138) (hb hby at_138) rfl rfl ?_
  refine Ow.callV X hx hZ (c_reopened0 l Z a0 hw _ _ _ 0 _ _ F_buf F_name B_t) eT hown (ww hw 69 rfl) (ww hw 70 rfl) (ww hw 72 rfl) (ww hw 71 rfl) (ww hw 36 rfl) (ww hw 73 rfl) (by decide) pd8 (by rw [hml]; rfl) A_s (argsL := []) rfl rfl rfl (pc := 140) (hb hby at_140) rfl rfl (by decide) (by decide) ?_
  rintro _ T L X ⟨r, rfl, F2, l_r, A_r, U_r, G_mark, G_buf, G_pos, G_count, G_name⟩
  dsimp only [Option.toList_some, Option.toList_none, List.cons_append, List.nil_append]
  have h0r := Nat.le_trans F.size l_r
  have ne_t_r : t ≠ r := Nat.ne_of_lt (Nat.lt_of_lt_of_le B_t.lt l_r)
  have ne_o_r : o ≠ r := Nat.ne_of_lt (Nat.lt_of_lt_of_le B_o.lt l_r)
  have ne_s_r : s ≠ r := Nat.ne_of_lt (Nat.lt_of_lt_of_le A_s.lt l_r)
  have F := F.call F2 (fun _ q => nomatch q)
  have B_t := B_t.ext (Ow.Keep.ext0 F2.1)
  have B_o := B_o.ext (Ow.Keep.ext0 F2.1)
  have A_s := A_s.ext (Ow.Keep.ext0 F2.1)
  have U_s := U_s.ext (Ow.Keep.ext0 F2.1)
  have F_mark := F_mark.ext (Ow.Keep.ext0 F2.1)
  have F_buf := F_buf.ext (Ow.Keep.ext0 F2.1)
  have F_pos := F_pos.ext (Ow.Keep.ext0 F2.1)
  have F_count := F_count.ext (Ow.Keep.ext0 F2.1)
  have F_name := F_name.ext (Ow.Keep.ext0 F2.1)
  obtain ⟨h_140, e_140⟩ : ∃ q, q = T.heap := ⟨_, rfl⟩
  rw [← e_140] at F B_t B_o A_s U_s F_mark F_buf F_pos F_count F_name A_r U_r G_mark G_buf G_pos G_count G_name
  have eT : T.heap = h_140 := e_140.symm
  refine Ow.astore X hx (pc := 143) #[_, _, _, _, _, _, _, _, _, _, _, _, _, _, _, _, _, _, _, _, _, _, _, _, _] (hb hby at_143) rfl rfl ?_
  refine Ow.aload X hx (pc := 145) (hb hby at_145) rfl rfl ?_
  refine Ow.ifnull_r X hx (pc := 147) (hb hby at_147) ?_
  refine Ow.aload X hx (pc := 150) (hb hby at_150) rfl rfl ?_
  refine Ow.aload X hx (pc := 152) (hb hby at_152) rfl rfl ?_
  refine Ow.acmp_ne X hx (pc := 154) (pc' := 159) (hb hby at_154) rfl rfl (by decide) (by decide) (fun h154 => ?_) (fun q => absurd (Value.ref.inj q) (Ne.symm ne_s_r))
  refine Ow.aload X hx (pc := 159) (hb hby at_159) rfl rfl ?_
  refine Ow.callVP X hx hZ (c_name0 l Z a0 hw _ _ 0 G_name) rfl rfl eT hown (ww hw 78 rfl) (ww hw 79 rfl) (ww hw 81 rfl) (ww hw 80 rfl) (ww hw 36 rfl) (ww hw 82 rfl) (by decide) pd9 (by rw [hml]; rfl) A_r (argsL := []) rfl rfl rfl (pc := 161) (hb hby at_161) rfl rfl (by decide) (by decide) ?_   -- com/example/eunomia/eunomia/xml/NamedStream.name:()Ljava/lang/String;
  intro T X eT
  dsimp only [Option.toList_some, Option.toList_none, List.cons_append, List.nil_append]
  refine Ow.astore X hx (pc := 164) #[_, _, _, _, _, _, _, _, _, _, _, _, _, _, _, _, _, _, _, _, _, _, _, _, _] (hb hby at_164) rfl rfl ?_
  refine Ow.aload X hx (pc := 166) (hb hby at_166) rfl rfl ?_
  refine Ow.ifnonnull_n X hx (pc := 168) (hb hby at_168) ?_
  refine Ow.aload X hx (pc := 171) (hb hby at_171) rfl rfl ?_
  refine Ow.ifnonnull_n X hx (pc := 173) (hb hby at_173) ?_
  refine Ow.iconst X hx (pc := 176) (1) (hb hby at_176) (by decide) ?_
  refine Ow.goto X hx (pc := 177) (pc' := 191) (hb hby at_177) (by decide) (by decide) ?_
  refine Ow.istore X hx (pc := 191) #[_, _, _, _, _, _, _, _, _, _, _, _, _, _, _, _, _, _, _, _, _, _, _, _, _] (hb hby at_191) rfl ?_
  refine Ow.aload X hx (pc := 193) (hb hby at_193) rfl rfl ?_
  refine Ow.aload X hx (pc := 195) (hb hby at_195) rfl rfl ?_
  refine Ow.iconst X hx (pc := 197) (0) (hb hby at_197) (by decide) ?_
  refine Ow.iconst X hx (pc := 198) (4) (hb hby at_198) (by decide) ?_
  refine Owl.callUB X hx hZ (Owl.backS (c_read30 l Z a0 hw _ r o t 0 _ _ b0 b1 b2 (Ne.symm ne_o_r) HF3 A_r G_mark G_buf G_pos G_count G_name B_t B_o) hZ (ww hw 93 rfl) (ww hw 91 rfl) (ww hw 43 rfl) U_r (by decide) (by decide)) eT hown (ww hw 88 rfl) (ww hw 89 rfl) (ww hw 90 rfl) (ww hw 92 rfl) (ww hw 91 rfl) (by decide) pd10 (by rw [hml]; rfl) A_r (argsL := [_, _, _]) rfl rfl rfl (pc := 199) (hb hby at_199) (by decide) (by decide) ?_
  rintro _ T L X ⟨rfl, F2, B_o⟩
  dsimp only [Option.toList_some, Option.toList_none, List.cons_append, List.nil_append]
  have F := F.call F2 (fun y hy => by
    simp only [List.mem_cons, List.not_mem_nil, or_false] at hy
    rcases hy with rfl | rfl
    · exact Or.inr h0r
    · exact Or.inr l_o)
  have B_t := B_t.keep F2.1 (ninS ne_t_r (Ow.nin1 ne_t_o))
  have A_s := A_s.keep F2.1
  have U_s := Unt.keep F2.1 (ninS ne_s_r (Ow.nin1 (Ne.symm ne_o_s))) U_s
  have F_mark := F_mark.keep F2.1 (ninS ne_s_r (Ow.nin1 (Ne.symm ne_o_s)))
  have F_buf := F_buf.keep F2.1 (ninS ne_s_r (Ow.nin1 (Ne.symm ne_o_s)))
  have F_pos := F_pos.keep F2.1 (ninS ne_s_r (Ow.nin1 (Ne.symm ne_o_s)))
  have F_count := F_count.keep F2.1 (ninS ne_s_r (Ow.nin1 (Ne.symm ne_o_s)))
  have F_name := F_name.keep F2.1 (ninS ne_s_r (Ow.nin1 (Ne.symm ne_o_s)))
  obtain ⟨h_199, e_199⟩ : ∃ q, q = T.heap := ⟨_, rfl⟩
  rw [← e_199] at F B_t A_s U_s F_mark F_buf F_pos F_count F_name B_o
  have eT : T.heap = h_199 := e_199.symm
  refine Ow.istore X hx (pc := 202) #[_, _, _, _, _, _, _, _, _, _, _, _, _, _, _, _, _, _, _, _, _, _, _, _, _] (hb hby at_202) rfl ?_
  refine Ow.aload X hx (pc := 204) (hb hby at_204) rfl rfl ?_
  refine Owl.callUB X hx hZ (Owl.backS (c_avail l Z a0 hw _ _ _ _ F_count F_pos) hZ (ww hw 107 rfl) (ww hw 105 rfl) (ww hw 43 rfl) U_s (by decide) (by decide)) eT hown (ww hw 102 rfl) (ww hw 103 rfl) (ww hw 104 rfl) (ww hw 106 rfl) (ww hw 105 rfl) (by decide) pd11 (by rw [hml]; rfl) A_s (argsL := []) rfl rfl rfl (pc := 206) (hb hby at_206) (by decide) (by decide) ?_
  rintro _ T L X ⟨rfl, eT, rfl⟩
  dsimp only [Option.toList_some, Option.toList_none, List.cons_append, List.nil_append]
  rw [List.append_nil] at X
  refine Ow.istore X hx (pc := 209) #[_, _, _, _, _, _, _, _, _, _, _, _, _, _, _, _, _, _, _, _, _, _, _, _, _] (hb hby at_209) rfl ?_
  refine Ow.iload X hx (pc := 211) (hb hby at_211) rfl ?_
  refine Ow.if_ne X hx (pc := 213) (pc' := 220) (hb hby at_213) (by decide) (by decide) (fun h213 => ?_) (fun q => absurd q (by decide))
  refine Ow.iload X hx (pc := 220) (hb hby at_220) rfl ?_
  refine Ow.istore X hx (pc := 222) #[_, _, _, _, _, _, _, _, _, _, _, _, _, _, _, _, _, _, _, _, _, _, _, _, _] (hb hby at_222) rfl ?_
  refine Ow.iconst X hx (pc := 224) (1) (hb hby at_224) (by decide) ?_
  refine Ow.istore X hx (pc := 225) #[_, _, _, _, _, _, _, _, _, _, _, _, _, _, _, _, _, _, _, _, _, _, _, _, _] (hb hby at_225) rfl ?_
  refine Ow.iload X hx (pc := 227) (hb hby at_227) rfl ?_
  refine Ow.iconst X hx (pc := 229) (1) (hb hby at_229) (by decide) ?_
  refine Ow.icmp_lt X hx (pc := 230) (pc' := 245) (hb hby at_230) (by decide) (by decide) (fun q => absurd q (by decide)) (fun h230 => ?_)
  refine Ow.aload X hx (pc := 233) (hb hby at_233) rfl rfl ?_
  refine Ow.iconst X hx (pc := 235) (0) (hb hby at_235) (by decide) ?_
  refine Ow.baloadL X hx hZ eT B_o 0 (.int b0) (by decide) (by decide) rfl (pc := 236) (hb hby at_236) ?_
  refine Ow.iload X hx (pc := 237) (hb hby at_237) rfl ?_
  refine Ow.icmp_eq X hx (pc := 239) (pc' := 245) (hb hby at_239) (by decide) (by decide) (fun h239 => ?_) (fun q => absurd rfl q)
  refine Ow.iload X hx (pc := 245) (hb hby at_245) rfl ?_
  refine Ow.iconst X hx (pc := 247) (2) (hb hby at_247) (by decide) ?_
  refine Ow.icmp_lt X hx (pc := 248) (pc' := 263) (hb hby at_248) (by decide) (by decide) (fun q => absurd q (by decide)) (fun h248 => ?_)
  refine Ow.aload X hx (pc := 251) (hb hby at_251) rfl rfl ?_
  refine Ow.iconst X hx (pc := 253) (1) (hb hby at_253) (by decide) ?_
  refine Ow.baloadL X hx hZ eT B_o 1 (.int b1) (by decide) (by decide) rfl (pc := 254) (hb hby at_254) ?_
  refine Ow.iload X hx (pc := 255) (hb hby at_255) rfl ?_
  refine Ow.icmp_eq X hx (pc := 257) (pc' := 263) (hb hby at_257) (by decide) (by decide) (fun h257 => ?_) (fun q => absurd rfl q)
  refine Ow.iload X hx (pc := 263) (hb hby at_263) rfl ?_
  refine Ow.iconst X hx (pc := 265) (3) (hb hby at_265) (by decide) ?_
  refine Ow.icmp_lt X hx (pc := 266) (pc' := 281) (hb hby at_266) (by decide) (by decide) (fun q => absurd q (by decide)) (fun h266 => ?_)
  refine Ow.aload X hx (pc := 269) (hb hby at_269) rfl rfl ?_
  refine Ow.iconst X hx (pc := 271) (2) (hb hby at_271) (by decide) ?_
  refine Ow.baloadL X hx hZ eT B_o 2 (.int b2) (by decide) (by decide) rfl (pc := 272) (hb hby at_272) ?_
  refine Ow.iload X hx (pc := 273) (hb hby at_273) rfl ?_
  refine Ow.icmp_eq X hx (pc := 275) (pc' := 281) (hb hby at_275) (by decide) (by decide) (fun h275 => ?_) (fun q => absurd rfl q)
  refine Ow.iload X hx (pc := 281) (hb hby at_281) rfl ?_
  refine Ow.iconst X hx (pc := 283) (1) (hb hby at_283) (by decide) ?_
  refine Ow.icmp_ge X hx (pc := 284) (pc' := 297) (hb hby at_284) (by decide) (by decide) (fun h284 => ?_) (fun q => absurd q (by decide))
  refine Ow.iload X hx (pc := 297) (hb hby at_297) rfl ?_
  refine Ow.iconst X hx (pc := 299) (2) (hb hby at_299) (by decide) ?_
  refine Ow.icmp_ge X hx (pc := 300) (pc' := 313) (hb hby at_300) (by decide) (by decide) (fun h300 => ?_) (fun q => absurd q (by decide))
  refine Ow.iload X hx (pc := 313) (hb hby at_313) rfl ?_
  refine Ow.iconst X hx (pc := 315) (3) (hb hby at_315) (by decide) ?_
  refine Ow.icmp_ge X hx (pc := 316) (pc' := 329) (hb hby at_316) (by decide) (by decide) (fun h316 => ?_) (fun q => absurd q (by decide))
  refine Ow.aload X hx (pc := 329) (hb hby at_329) rfl rfl ?_
  refine Ow.iconst X hx (pc := 331) (3) (hb hby at_331) (by decide) ?_
  refine Ow.baloadL X hx hZ eT B_o 3 (.int 0) (by decide) (by decide) rfl (pc := 332) (hb hby at_332) ?_
  refine Ow.if_eq X hx (pc := 333) (pc' := 339) (hb hby at_333) (by decide) (by decide) (fun h333 => ?_) (fun q => absurd rfl q)
  refine Ow.iload X hx (pc := 339) (hb hby at_339) rfl ?_
  refine Ow.if_eq X hx (pc := 341) (pc' := 379) (hb hby at_341) (by decide) (by decide) (fun q => absurd q (by decide)) (fun h341 => ?_)
  refine Ow.lload X hx (pc := 344) (hb hby at_344) rfl ?_
  refine Ow.lload X hx (pc := 346) (hb hby at_346) rfl ?_
  refine Ow.lcmp X hx (pc := 348) (hb hby at_348) ?_
  refine Ow.if_ne X hx (pc := 349) (pc' := 379) (hb hby at_349) (by decide) (by decide) (fun q => absurd (own_cmp_self _) q) (fun h349 => ?_)
  refine Ow.iload X hx (pc := 352) (hb hby at_352) rfl ?_
  refine Ow.iload X hx (pc := 354) (hb hby at_354) rfl ?_
  refine Ow.icmp_ne X hx (pc := 356) (pc' := 379) (hb hby at_356) (by decide) (by decide) (fun q => absurd rfl q) (fun h356 => ?_)
  refine Ow.iload X hx (pc := 359) (hb hby at_359) rfl ?_
  refine Ow.if_eq X hx (pc := 361) (pc' := 379) (hb hby at_361) (by decide) (by decide) (fun q => absurd q (by decide)) (fun h361 => ?_)
  refine Ow.iload X hx (pc := 364) (hb hby at_364) rfl ?_
  refine Ow.iload X hx (pc := 366) (hb hby at_366) rfl ?_
  refine Ow.lload X hx (pc := 368) (hb hby at_368) rfl ?_
  refine Ow.l2i X hx (pc := 370) (hb hby at_370) ?_
  rw [own_l2i]
  refine Ow.isub X hx (pc := 371) (hb hby at_371) ?_
  refine Ow.icmp_ne X hx (pc := 372) (pc' := 379) (hb hby at_372) (by decide) (by decide) (fun q => absurd rfl q) (fun h372 => ?_)
  refine Ow.iconst X hx (pc := 375) (1) (hb hby at_375) (by decide) ?_
  refine Ow.goto X hx (pc := 376) (pc' := 380) (hb hby at_376) (by decide) (by decide) ?_
  exact Ow.nreturn X hx hlk hret (Or.inl rfl) (hb hby at_380) ⟨rfl, by rw [eT]; exact F⟩ (by decide) (by decide)
set_option maxRecDepth 65536 in
set_option maxHeartbeats 40000000 in
theorem law_31 (l : Launch) (Z : State) (a0 : Array Value) (hw : ∀ d ∈ tables_1, d.before a0 Z = true) (h0 : Heap) (z p0 p1 p2 p3 : Int32) (S : Sta Z h0 "java/lang/String" "COMPACT_STRINGS" "Z" (.int z)) (hz : ¬ z = 0) (hn3 : p0 &&& 3 = 3) (h10 : (p0 >>> ((2 : Int32) &&& 31)) &&& 1 = 0) : Ow.Pay l Z x code maxLocals ret room_1 #[(.int p0), (.int p1), (.int p2), (.int p3)] h0 (fun v h L => v = some (.int 1) ∧ Ow.Eff h0 h [] L) := by
  refine Ow.Pay.of (Ls := #[.val (.int p0), .val (.int p1), .val (.int p2), .val (.int p3), .unset, .unset, .unset, .unset, .unset, .unset, .unset, .unset, .unset, .unset, .unset, .unset, .unset, .unset, .unset, .unset, .unset, .unset, .unset, .unset, .unset]) (plainFor_of_name pn0) (fun m => by first | (simp [entryFrame, mkF, argsToLocals, Value.category, maxLocals]; done) | rfl) ?_
  intro p e s m below meth c T hx hby hml hown hnm hme hZ hret hlk X eT
  obtain ⟨ka, hka⟩ := own_mask8 p3
  obtain ⟨kc, hkc⟩ := own_mask8 (p3 >>> ((8 : Int32) &&& 31))
  obtain ⟨b0, hb0⟩ : ∃ q, q = p1.toInt8.toInt32 := ⟨_, rfl⟩
  obtain ⟨b1, hb1⟩ : ∃ q, q = (p1 >>> ((8 : Int32) &&& 31)).toInt8.toInt32 := ⟨_, rfl⟩
  obtain ⟨b2, hb2⟩ : ∃ q, q = (p1 >>> ((16 : Int32) &&& 31)).toInt8.toInt32 := ⟨_, rfl⟩
  have H8 : ∀ c ∈ [Int32.ofNat ka.val, Int32.ofNat kc.val], ∃ k : Fin 256, c = Int32.ofNat k.val := fun c hc => by
    simp only [List.mem_cons, List.not_mem_nil, or_false] at hc
    rcases hc with rfl | rfl
    · exact ⟨ka, rfl⟩
    · exact ⟨kc, rfl⟩
  have HF3 : ∀ v ∈ ([.int b0, .int b1, .int b2] : List Value), fits .byte v = true := fun v hv => by
    simp only [List.mem_cons, List.not_mem_nil, or_false] at hv
    rcases hv with rfl | rfl | rfl
    · rw [hb0]; exact own_fitB _
    · rw [hb1]; exact own_fitB _
    · rw [hb2]; exact own_fitB _
  have F := Ow.Eff.refl h0 []
  refine Ow.iloadN X hx (pc := 0) (hb hby at_0) rfl ?_
  refine Ow.iconst X hx (pc := 1) (3) (hb hby at_1) (by decide) ?_
  refine Ow.iand X hx (pc := 2) (hb hby at_2) ?_
  rw [hn3]
  refine Ow.istore X hx (pc := 3) #[_, _, _, _, _, _, _, _, _, _, _, _, _, _, _, _, _, _, _, _, _, _, _, _, _] (hb hby at_3) rfl ?_
  refine Ow.iloadN X hx (pc := 5) (hb hby at_5) rfl ?_
  refine Ow.iconst X hx (pc := 6) (2) (hb hby at_6) (by decide) ?_
  refine Ow.ishr X hx (pc := 7) (hb hby at_7) ?_
  refine Ow.iconst X hx (pc := 8) (1) (hb hby at_8) (by decide) ?_
  refine Ow.iand X hx (pc := 9) (hb hby at_9) ?_
  refine Ow.if_eq X hx (pc := 10) (pc' := 17) (hb hby at_10) (by decide) (by decide) (fun _ => ?_) (fun q => absurd h10 q)
  refine Ow.iconst X hx (pc := 17) (0) (hb hby at_17) (by decide) ?_
  refine Ow.istore X hx (pc := 18) #[_, _, _, _, _, _, _, _, _, _, _, _, _, _, _, _, _, _, _, _, _, _, _, _, _] (hb hby at_18) rfl ?_
  refine Ow.iloadN X hx (pc := 20) (hb hby at_20) rfl ?_
  refine Ow.i2b X hx (pc := 21) (hb hby at_21) ?_
  rw [← hb0]
  refine Ow.istore X hx (pc := 22) #[_, _, _, _, _, _, _, _, _, _, _, _, _, _, _, _, _, _, _, _, _, _, _, _, _] (hb hby at_22) rfl ?_
  refine Ow.iloadN X hx (pc := 24) (hb hby at_24) rfl ?_
  refine Ow.bipush X hx (pc := 25) (8) (hb hby at_25) (by decide) ?_
  refine Ow.ishr X hx (pc := 27) (hb hby at_27) ?_
  refine Ow.i2b X hx (pc := 28) (hb hby at_28) ?_
  rw [← hb1]
  refine Ow.istore X hx (pc := 29) #[_, _, _, _, _, _, _, _, _, _, _, _, _, _, _, _, _, _, _, _, _, _, _, _, _] (hb hby at_29) rfl ?_
  refine Ow.iloadN X hx (pc := 31) (hb hby at_31) rfl ?_
  refine Ow.bipush X hx (pc := 32) (16) (hb hby at_32) (by decide) ?_
  refine Ow.ishr X hx (pc := 34) (hb hby at_34) ?_
  refine Ow.i2b X hx (pc := 35) (hb hby at_35) ?_
  rw [← hb2]
  refine Ow.istore X hx (pc := 36) #[_, _, _, _, _, _, _, _, _, _, _, _, _, _, _, _, _, _, _, _, _, _, _, _, _] (hb hby at_36) rfl ?_
  refine Ow.iload X hx (pc := 38) (hb hby at_38) rfl ?_
  refine Ow.iload X hx (pc := 40) (hb hby at_40) rfl ?_
  refine Ow.iload X hx (pc := 42) (hb hby at_42) rfl ?_
  refine Ow.iload X hx (pc := 44) (hb hby at_44) rfl ?_
  refine Ow.callS X hx hZ (c_make3 l Z a0 hw _ b0 b1 b2 (hb0 ▸ own_nb _) (hb1 ▸ own_nb _) (hb2 ▸ own_nb _)) eT hown (ww hw 0 rfl) (ww hw 1 rfl) (ww hw 2 rfl) (ww hw 3 rfl) (by decide) pd6 (by rw [hml]; rfl) (argsL := [_, _, _, _]) rfl rfl rfl (pc := 46) (hb hby at_46) rfl rfl (by decide) (by decide) ?_
  rintro _ T L X ⟨t, kt, rfl, F2, l_t, B_t⟩
  dsimp only [Option.toList_some, Option.toList_none, List.cons_append, List.nil_append]
  have l_t := Nat.le_trans F.size l_t
  have F := F.call F2 (fun _ q => nomatch q)
  have S := S.ext (Ow.Keep.ext0 F2.1)
  obtain ⟨h_46, e_46⟩ : ∃ q, q = T.heap := ⟨_, rfl⟩
  rw [← e_46] at F S B_t
  have eT : T.heap = h_46 := e_46.symm
  refine Ow.astore X hx (pc := 49) #[_, _, _, _, _, _, _, _, _, _, _, _, _, _, _, _, _, _, _, _, _, _, _, _, _] (hb hby at_49) rfl rfl ?_
  refine Ow.iconst X hx (pc := 51) (2) (hb hby at_51) (by decide) ?_
  refine Ow.newarrayL X hx hZ (ww hw 5 rfl) eT 2 (vs := [_, _]) rfl (pc := 52) (hb hby at_52) (by decide) (by decide) (by decide) (by decide) (by decide) ?_
  intro T h_cA k_cA cA ha_cA X eT E_cA B_cA
  have l_cA : h0.size ≤ cA := by rw [ha_cA]; exact F.size
  have ne_t_cA : t ≠ cA := by rw [ha_cA]; exact Nat.ne_of_lt B_t.lt
  have S := S.ext E_cA
  have B_t := B_t.ext E_cA
  have F := F.ext E_cA
  refine Ow.astore X hx (pc := 54) #[_, _, _, _, _, _, _, _, _, _, _, _, _, _, _, _, _, _, _, _, _, _, _, _, _] (hb hby at_54) rfl rfl ?_
  refine Ow.aload X hx (pc := 56) (hb hby at_56) rfl rfl ?_
  refine Ow.iconst X hx (pc := 58) (0) (hb hby at_58) (by decide) ?_
  refine Ow.iloadN X hx (pc := 59) (hb hby at_59) rfl ?_
  refine Ow.sipush X hx (pc := 60) (255) (hb hby at_60) (by decide) ?_
  refine Ow.iand X hx (pc := 63) (hb hby at_63) ?_
  refine Ow.i2c X hx (pc := 64) (hb hby at_64) ?_
  rw [hka, (own_ch8 ka).2.2.2]
  refine Ow.castoreL X hx hZ eT B_cA 0 [_, _] (by decide) (by decide) rfl rfl (pc := 65) (hb hby at_65) ?_
  intro T h_65 X eT W_65 B_cA
  rw [(own_ch8 ka).2.2.1] at B_cA W_65
  have S := S.wr W_65
  have B_t := B_t.other W_65 ne_t_cA
  have F := F.wr W_65 (Or.inr l_cA)
  refine Ow.aload X hx (pc := 66) (hb hby at_66) rfl rfl ?_
  refine Ow.iconst X hx (pc := 68) (1) (hb hby at_68) (by decide) ?_
  refine Ow.iloadN X hx (pc := 69) (hb hby at_69) rfl ?_
  refine Ow.bipush X hx (pc := 70) (8) (hb hby at_70) (by decide) ?_
  refine Ow.ishr X hx (pc := 72) (hb hby at_72) ?_
  refine Ow.sipush X hx (pc := 73) (255) (hb hby at_73) (by decide) ?_
  refine Ow.iand X hx (pc := 76) (hb hby at_76) ?_
  refine Ow.i2c X hx (pc := 77) (hb hby at_77) ?_
  rw [hkc, (own_ch8 kc).2.2.2]
  refine Ow.castoreL X hx hZ eT B_cA 1 [_, _] (by decide) (by decide) rfl rfl (pc := 78) (hb hby at_78) ?_
  intro T h_78 X eT W_78 B_cA
  rw [(own_ch8 kc).2.2.1] at B_cA W_78
  have S := S.wr W_78
  have B_t := B_t.other W_78 ne_t_cA
  have F := F.wr W_78 (Or.inr l_cA)
  refine Ow.iload X hx (pc := 79) (hb hby at_79) rfl ?_
  refine Ow.if_eq X hx (pc := 81) (pc' := 88) (hb hby at_81) (by decide) (by decide) (fun h81 => ?_) (fun q => absurd rfl q)
  refine Ow.new_ X hx hZ hown (ww hw 6 rfl) (ww hw 7 rfl) (ww hw 8 rfl) eT (pc := 88) (hb hby at_88) (by decide) (by decide) ?_
  intro T h_x x ha_x X eT E_x A_x D_x U_x
  have l_x : h0.size ≤ x := by rw [ha_x]; exact F.size
  have ne_t_x : t ≠ x := by rw [ha_x]; exact Nat.ne_of_lt B_t.lt
  have ne_cA_x : cA ≠ x := by rw [ha_x]; exact Nat.ne_of_lt B_cA.lt
  have S := S.ext E_x
  have B_t := B_t.ext E_x
  have B_cA := B_cA.ext E_x
  have F := F.ext E_x
  have V0 := D_x (Or.inr (ww hw 33 rfl)) (ty := .array .byte) (by decide)
  have C0 := D_x (Or.inr (ww hw 31 rfl)) (ty := .byte) (by decide)
  refine Ow.dup X hx (pc := 91) (hb hby at_91) rfl ?_
  refine Ow.aload X hx (pc := 92) (hb hby at_92) rfl rfl ?_
  refine strLat X hx hZ hw eT hown (ww hw 9 rfl) (cs := [Int32.ofNat ka.val, Int32.ofNat kc.val]) A_x V0 C0 B_cA S hz 2 rfl (by decide) (by decide) H8 (by rw [hml]; rfl) (pc := 94) (hb hby at_94) rfl rfl (by decide) (by decide) ?_
  intro T L kx X F2 St
  have F := F.call F2 (fun y hy => by cases List.mem_singleton.mp hy; exact Or.inr l_x)
  have P_x := Ow.Exa.plain A_x
  have S := Ow.staKeep S F2.1 (fun y hy => by cases List.mem_singleton.mp hy; exact P_x)
  have B_t := B_t.keep F2.1 (Ow.nin1 ne_t_x)
  have B_cA := B_cA.keep F2.1 (Ow.nin1 ne_cA_x)
  have A_x := A_x.keep F2.1
  obtain ⟨h_94, e_94⟩ : ∃ q, q = T.heap := ⟨_, rfl⟩
  rw [← e_94] at F S B_t B_cA A_x
  have eT : T.heap = h_94 := e_94.symm
  refine Ow.astore X hx (pc := 97) #[_, _, _, _, _, _, _, _, _, _, _, _, _, _, _, _, _, _, _, _, _, _, _, _, _] (hb hby at_97) rfl rfl ?_
  refine Ow.iconst X hx (pc := 99) (4) (hb hby at_99) (by decide) ?_
  refine Ow.newarrayL X hx hZ (ww hw 4 rfl) eT 4 (vs := [_, _, _, _]) rfl (pc := 100) (hb hby at_100) (by decide) (by decide) (by decide) (by decide) (by decide) ?_
  intro T h_o k_o o ha_o X eT E_o B_o
  have l_o : h0.size ≤ o := by rw [ha_o]; exact F.size
  have ne_t_o : t ≠ o := by rw [ha_o]; exact Nat.ne_of_lt B_t.lt
  have ne_x_o : x ≠ o := by rw [ha_o]; exact Nat.ne_of_lt A_x.lt
  have S := S.ext E_o
  have B_t := B_t.ext E_o
  have A_x := A_x.ext E_o
  have F := F.ext E_o
  refine Ow.astore X hx (pc := 102) #[_, _, _, _, _, _, _, _, _, _, _, _, _, _, _, _, _, _, _, _, _, _, _, _, _] (hb hby at_102) rfl rfl ?_
  refine Ow.new_ X hx hZ hown (ww hw 34 rfl) (ww hw 35 rfl) (ww hw 36 rfl) eT (pc := 104) (hb hby at_104) (by decide) (by decide) ?_
  intro T h_s s ha_s X eT E_s A_s D_s U_s
  have l_s : h0.size ≤ s := by rw [ha_s]; exact F.size
  have ne_t_s : t ≠ s := by rw [ha_s]; exact Nat.ne_of_lt B_t.lt
  have ne_x_s : x ≠ s := by rw [ha_s]; exact Nat.ne_of_lt A_x.lt
  have ne_o_s : o ≠ s := by rw [ha_s]; exact Nat.ne_of_lt B_o.lt
  have S := S.ext E_s
  have B_t := B_t.ext E_s
  have A_x := A_x.ext E_s
  have B_o := B_o.ext E_s
  have F := F.ext E_s
  have F_mark := D_s (Or.inl (ww hw 53 rfl)) (ty := .int) (by decide)
  have F_buf := D_s (Or.inl (ww hw 55 rfl)) (ty := (.array .byte)) (by decide)
  have F_pos := D_s (Or.inl (ww hw 57 rfl)) (ty := .int) (by decide)
  have F_count := D_s (Or.inl (ww hw 59 rfl)) (ty := .int) (by decide)
  have F_name := D_s (Or.inr (ww hw 61 rfl)) (ty := (.object "java/lang/String")) (by decide)
  refine Ow.dup X hx (pc := 107) (hb hby at_107) rfl ?_
  refine Ow.aload X hx (pc := 108) (hb hby at_108) rfl rfl ?_
  refine Ow.aload X hx (pc := 110) (hb hby at_110) rfl rfl ?_
  refine Ow.callI X hx hZ (c_ns1 l Z a0 hw _ _ _ x _ _ ne_t_s A_s U_s F_mark F_buf F_pos F_count F_name B_t) eT rfl hown (ww hw 37 rfl) (ww hw 38 rfl) (ww hw 36 rfl) (ww hw 39 rfl) (by decide) pd3 (by rw [hml]; rfl) (argsL := [_, _]) rfl rfl rfl (pc := 112) (hb hby at_112) rfl rfl (by decide) (by decide) ?_
  rintro _ T L X ⟨rfl, F2, A_s, U_s, F_mark, F_buf, F_pos, F_count, F_name⟩
  dsimp only [Option.toList_some, Option.toList_none, List.cons_append, List.nil_append]
  have F := F.call F2 (fun y hy => by cases List.mem_singleton.mp hy; exact Or.inr l_s)
  have B_t := B_t.keep F2.1 (Ow.nin1 ne_t_s)
  have A_x := A_x.keep F2.1
  have B_o := B_o.keep F2.1 (Ow.nin1 ne_o_s)
  obtain ⟨h_112, e_112⟩ : ∃ q, q = T.heap := ⟨_, rfl⟩
  rw [← e_112] at F B_t A_x B_o A_s U_s F_mark F_buf F_pos F_count F_name
  have eT : T.heap = h_112 := e_112.symm
  have hy125 : (3 + 1 : Int32) ≠ 0 := by decide
  obtain ⟨j, hjl, hj⟩ := own_rem p2 (3 + 1) (by decide)
  have hjl : j ≤ 3 := by
    have e : (3 + 1 : Int32).toInt = 4 := by decide
    rw [e] at hjl
    omega
  refine Ow.astore X hx (pc := 115) #[_, _, _, _, _, _, _, _, _, _, _, _, _, _, _, _, _, _, _, _, _, _, _, _, _] (hb hby at_115) rfl rfl ?_
  refine Ow.iloadN X hx (pc := 117) (hb hby at_117) rfl ?_
  refine Ow.ldcI X hx (pc := 118) (2147483647) (hb hby at_118) hown (mvT hZ (ww hw 62 rfl)) ?_
  refine Ow.iand X hx (pc := 120) (hb hby at_120) ?_
  refine Ow.iload X hx (pc := 121) (hb hby at_121) rfl ?_
  refine Ow.iconst X hx (pc := 123) (1) (hb hby at_123) (by decide) ?_
  refine Ow.iadd X hx (pc := 124) (hb hby at_124) ?_
  refine Ow.irem X hx (pc := 125) (hb hby at_125) hy125 ?_
  rw [hj]
  refine Ow.i2l X hx (pc := 126) (hb hby at_126) ?_
  refine Ow.lstore X hx (pc := 127) #[_, _, _, _, _, _, _, _, _, _, _, _, _, _, _, _, _, _, _, _, _, _, _, _, _] (hb hby at_127) rfl ?_
  refine Ow.aload X hx (pc := 129) (hb hby at_129) rfl rfl ?_
  refine Ow.lload X hx (pc := 131) (hb hby at_131) rfl ?_
  refine Owl.callUB X hx hZ (Owl.backS (c_skip1 l Z a0 hw _ _ t x 3 j (by decide) hjl A_s U_s F_mark F_buf F_pos F_count F_name) hZ (ww hw 68 rfl) (ww hw 66 rfl) (ww hw 43 rfl) U_s (by decide) (by decide)) eT hown (ww hw 63 rfl) (ww hw 64 rfl) (ww hw 65 rfl) (ww hw 67 rfl) (ww hw 66 rfl) (by decide) pd7 (by rw [hml]; rfl) A_s (argsL := [_]) rfl rfl rfl (pc := 133) (hb hby at_133) (by decide) (by decide) ?_
  rintro _ T L X ⟨rfl, F2, A_s, U_s, F_mark, F_buf, F_pos, F_count, F_name⟩
  dsimp only [Option.toList_some, Option.toList_none, List.cons_append, List.nil_append]
  have F := F.call F2 (fun y hy => by cases List.mem_singleton.mp hy; exact Or.inr l_s)
  have B_t := B_t.keep F2.1 (Ow.nin1 ne_t_s)
  have A_x := A_x.keep F2.1
  have B_o := B_o.keep F2.1 (Ow.nin1 ne_o_s)
  obtain ⟨h_133, e_133⟩ : ∃ q, q = T.heap := ⟨_, rfl⟩
  rw [← e_133] at F B_t A_x B_o A_s U_s F_mark F_buf F_pos F_count F_name
  have eT : T.heap = h_133 := e_133.symm
  refine Ow.lstore X hx (pc := 136) #[_, _, _, _, _, _, _, _, _, _, _, _, _, _, _, _, _, _, _, _, _, _, _, _, _] (hb hby at_136) rfl ?_
  refine Ow.aload X hx (pc := 138) (hb hby at_138) rfl rfl ?_
  refine Ow.callV X hx hZ (c_reopened1 l Z a0 hw _ _ _ x _ _ F_buf F_name B_t) eT hown (ww hw 69 rfl) (ww hw 70 rfl) (ww hw 72 rfl) (ww hw 71 rfl) (ww hw 36 rfl) (ww hw 73 rfl) (by decide) pd8 (by rw [hml]; rfl) A_s (argsL := []) rfl rfl rfl (pc := 140) (hb hby at_140) rfl rfl (by decide) (by decide) ?_
  rintro _ T L X ⟨r, rfl, F2, l_r, A_r, U_r, G_mark, G_buf, G_pos, G_count, G_name⟩
  dsimp only [Option.toList_some, Option.toList_none, List.cons_append, List.nil_append]
  have h0r := Nat.le_trans F.size l_r
  have ne_t_r : t ≠ r := Nat.ne_of_lt (Nat.lt_of_lt_of_le B_t.lt l_r)
  have ne_x_r : x ≠ r := Nat.ne_of_lt (Nat.lt_of_lt_of_le A_x.lt l_r)
  have ne_o_r : o ≠ r := Nat.ne_of_lt (Nat.lt_of_lt_of_le B_o.lt l_r)
  have ne_s_r : s ≠ r := Nat.ne_of_lt (Nat.lt_of_lt_of_le A_s.lt l_r)
  have F := F.call F2 (fun _ q => nomatch q)
  have B_t := B_t.ext (Ow.Keep.ext0 F2.1)
  have A_x := A_x.ext (Ow.Keep.ext0 F2.1)
  have B_o := B_o.ext (Ow.Keep.ext0 F2.1)
  have A_s := A_s.ext (Ow.Keep.ext0 F2.1)
  have U_s := U_s.ext (Ow.Keep.ext0 F2.1)
  have F_mark := F_mark.ext (Ow.Keep.ext0 F2.1)
  have F_buf := F_buf.ext (Ow.Keep.ext0 F2.1)
  have F_pos := F_pos.ext (Ow.Keep.ext0 F2.1)
  have F_count := F_count.ext (Ow.Keep.ext0 F2.1)
  have F_name := F_name.ext (Ow.Keep.ext0 F2.1)
  obtain ⟨h_140, e_140⟩ : ∃ q, q = T.heap := ⟨_, rfl⟩
  rw [← e_140] at F B_t A_x B_o A_s U_s F_mark F_buf F_pos F_count F_name A_r U_r G_mark G_buf G_pos G_count G_name
  have eT : T.heap = h_140 := e_140.symm
  refine Ow.astore X hx (pc := 143) #[_, _, _, _, _, _, _, _, _, _, _, _, _, _, _, _, _, _, _, _, _, _, _, _, _] (hb hby at_143) rfl rfl ?_
  refine Ow.aload X hx (pc := 145) (hb hby at_145) rfl rfl ?_
  refine Ow.ifnull_r X hx (pc := 147) (hb hby at_147) ?_
  refine Ow.aload X hx (pc := 150) (hb hby at_150) rfl rfl ?_
  refine Ow.aload X hx (pc := 152) (hb hby at_152) rfl rfl ?_
  refine Ow.acmp_ne X hx (pc := 154) (pc' := 159) (hb hby at_154) rfl rfl (by decide) (by decide) (fun h154 => ?_) (fun q => absurd (Value.ref.inj q) (Ne.symm ne_s_r))
  refine Ow.aload X hx (pc := 159) (hb hby at_159) rfl rfl ?_
  refine Ow.callVP X hx hZ (c_name1 l Z a0 hw _ _ x G_name) rfl rfl eT hown (ww hw 78 rfl) (ww hw 79 rfl) (ww hw 81 rfl) (ww hw 80 rfl) (ww hw 36 rfl) (ww hw 82 rfl) (by decide) pd9 (by rw [hml]; rfl) A_r (argsL := []) rfl rfl rfl (pc := 161) (hb hby at_161) rfl rfl (by decide) (by decide) ?_   -- com/example/eunomia/eunomia/xml/NamedStream.name:()Ljava/lang/String;
  intro T X eT
  dsimp only [Option.toList_some, Option.toList_none, List.cons_append, List.nil_append]
  refine Ow.astore X hx (pc := 164) #[_, _, _, _, _, _, _, _, _, _, _, _, _, _, _, _, _, _, _, _, _, _, _, _, _] (hb hby at_164) rfl rfl ?_
  refine Ow.aload X hx (pc := 166) (hb hby at_166) rfl rfl ?_
  refine Ow.ifnonnull_r X hx (pc := 168) (pc' := 184) (hb hby at_168) (by decide) (by decide) ?_
  refine Ow.aload X hx (pc := 184) (hb hby at_184) rfl rfl ?_
  refine Ow.aload X hx (pc := 186) (hb hby at_186) rfl rfl ?_
  refine Ow.callVP X hx hZ (c_equals l Z a0 hw _ _) rfl rfl eT hown (ww hw 83 rfl) (ww hw 84 rfl) (ww hw 86 rfl) (ww hw 85 rfl) (ww hw 8 rfl) (ww hw 87 rfl) (by decide) pd12 (by rw [hml]; rfl) A_x (argsL := [_]) rfl rfl rfl (pc := 188) (hb hby at_188) rfl rfl (by decide) (by decide) ?_   -- java/lang/String.equals:(Ljava/lang/Object;)Z
  intro T X eT
  dsimp only [Option.toList_some, Option.toList_none, List.cons_append, List.nil_append]
  refine Ow.istore X hx (pc := 191) #[_, _, _, _, _, _, _, _, _, _, _, _, _, _, _, _, _, _, _, _, _, _, _, _, _] (hb hby at_191) rfl ?_
  refine Ow.aload X hx (pc := 193) (hb hby at_193) rfl rfl ?_
  refine Ow.aload X hx (pc := 195) (hb hby at_195) rfl rfl ?_
  refine Ow.iconst X hx (pc := 197) (0) (hb hby at_197) (by decide) ?_
  refine Ow.iconst X hx (pc := 198) (4) (hb hby at_198) (by decide) ?_
  refine Owl.callUB X hx hZ (Owl.backS (c_read31 l Z a0 hw _ r o t x _ _ b0 b1 b2 (Ne.symm ne_o_r) HF3 A_r G_mark G_buf G_pos G_count G_name B_t B_o) hZ (ww hw 93 rfl) (ww hw 91 rfl) (ww hw 43 rfl) U_r (by decide) (by decide)) eT hown (ww hw 88 rfl) (ww hw 89 rfl) (ww hw 90 rfl) (ww hw 92 rfl) (ww hw 91 rfl) (by decide) pd10 (by rw [hml]; rfl) A_r (argsL := [_, _, _]) rfl rfl rfl (pc := 199) (hb hby at_199) (by decide) (by decide) ?_
  rintro _ T L X ⟨rfl, F2, B_o⟩
  dsimp only [Option.toList_some, Option.toList_none, List.cons_append, List.nil_append]
  have F := F.call F2 (fun y hy => by
    simp only [List.mem_cons, List.not_mem_nil, or_false] at hy
    rcases hy with rfl | rfl
    · exact Or.inr h0r
    · exact Or.inr l_o)
  have B_t := B_t.keep F2.1 (ninS ne_t_r (Ow.nin1 ne_t_o))
  have A_x := A_x.keep F2.1
  have A_s := A_s.keep F2.1
  have U_s := Unt.keep F2.1 (ninS ne_s_r (Ow.nin1 (Ne.symm ne_o_s))) U_s
  have F_mark := F_mark.keep F2.1 (ninS ne_s_r (Ow.nin1 (Ne.symm ne_o_s)))
  have F_buf := F_buf.keep F2.1 (ninS ne_s_r (Ow.nin1 (Ne.symm ne_o_s)))
  have F_pos := F_pos.keep F2.1 (ninS ne_s_r (Ow.nin1 (Ne.symm ne_o_s)))
  have F_count := F_count.keep F2.1 (ninS ne_s_r (Ow.nin1 (Ne.symm ne_o_s)))
  have F_name := F_name.keep F2.1 (ninS ne_s_r (Ow.nin1 (Ne.symm ne_o_s)))
  obtain ⟨h_199, e_199⟩ : ∃ q, q = T.heap := ⟨_, rfl⟩
  rw [← e_199] at F B_t A_x A_s U_s F_mark F_buf F_pos F_count F_name B_o
  have eT : T.heap = h_199 := e_199.symm
  refine Ow.istore X hx (pc := 202) #[_, _, _, _, _, _, _, _, _, _, _, _, _, _, _, _, _, _, _, _, _, _, _, _, _] (hb hby at_202) rfl ?_
  refine Ow.aload X hx (pc := 204) (hb hby at_204) rfl rfl ?_
  refine Owl.callUB X hx hZ (Owl.backS (c_avail l Z a0 hw _ _ _ _ F_count F_pos) hZ (ww hw 107 rfl) (ww hw 105 rfl) (ww hw 43 rfl) U_s (by decide) (by decide)) eT hown (ww hw 102 rfl) (ww hw 103 rfl) (ww hw 104 rfl) (ww hw 106 rfl) (ww hw 105 rfl) (by decide) pd11 (by rw [hml]; rfl) A_s (argsL := []) rfl rfl rfl (pc := 206) (hb hby at_206) (by decide) (by decide) ?_
  rintro _ T L X ⟨rfl, eT, rfl⟩
  dsimp only [Option.toList_some, Option.toList_none, List.cons_append, List.nil_append]
  rw [List.append_nil] at X
  refine Ow.istore X hx (pc := 209) #[_, _, _, _, _, _, _, _, _, _, _, _, _, _, _, _, _, _, _, _, _, _, _, _, _] (hb hby at_209) rfl ?_
  refine Ow.iload X hx (pc := 211) (hb hby at_211) rfl ?_
  refine Ow.if_ne X hx (pc := 213) (pc' := 220) (hb hby at_213) (by decide) (by decide) (fun h213 => ?_) (fun q => absurd q (by decide))
  refine Ow.iload X hx (pc := 220) (hb hby at_220) rfl ?_
  refine Ow.istore X hx (pc := 222) #[_, _, _, _, _, _, _, _, _, _, _, _, _, _, _, _, _, _, _, _, _, _, _, _, _] (hb hby at_222) rfl ?_
  refine Ow.iconst X hx (pc := 224) (1) (hb hby at_224) (by decide) ?_
  refine Ow.istore X hx (pc := 225) #[_, _, _, _, _, _, _, _, _, _, _, _, _, _, _, _, _, _, _, _, _, _, _, _, _] (hb hby at_225) rfl ?_
  refine Ow.iload X hx (pc := 227) (hb hby at_227) rfl ?_
  refine Ow.iconst X hx (pc := 229) (1) (hb hby at_229) (by decide) ?_
  refine Ow.icmp_lt X hx (pc := 230) (pc' := 245) (hb hby at_230) (by decide) (by decide) (fun q => absurd q (by decide)) (fun h230 => ?_)
  refine Ow.aload X hx (pc := 233) (hb hby at_233) rfl rfl ?_
  refine Ow.iconst X hx (pc := 235) (0) (hb hby at_235) (by decide) ?_
  refine Ow.baloadL X hx hZ eT B_o 0 (.int b0) (by decide) (by decide) rfl (pc := 236) (hb hby at_236) ?_
  refine Ow.iload X hx (pc := 237) (hb hby at_237) rfl ?_
  refine Ow.icmp_eq X hx (pc := 239) (pc' := 245) (hb hby at_239) (by decide) (by decide) (fun h239 => ?_) (fun q => absurd rfl q)
  refine Ow.iload X hx (pc := 245) (hb hby at_245) rfl ?_
  refine Ow.iconst X hx (pc := 247) (2) (hb hby at_247) (by decide) ?_
  refine Ow.icmp_lt X hx (pc := 248) (pc' := 263) (hb hby at_248) (by decide) (by decide) (fun q => absurd q (by decide)) (fun h248 => ?_)
  refine Ow.aload X hx (pc := 251) (hb hby at_251) rfl rfl ?_
  refine Ow.iconst X hx (pc := 253) (1) (hb hby at_253) (by decide) ?_
  refine Ow.baloadL X hx hZ eT B_o 1 (.int b1) (by decide) (by decide) rfl (pc := 254) (hb hby at_254) ?_
  refine Ow.iload X hx (pc := 255) (hb hby at_255) rfl ?_
  refine Ow.icmp_eq X hx (pc := 257) (pc' := 263) (hb hby at_257) (by decide) (by decide) (fun h257 => ?_) (fun q => absurd rfl q)
  refine Ow.iload X hx (pc := 263) (hb hby at_263) rfl ?_
  refine Ow.iconst X hx (pc := 265) (3) (hb hby at_265) (by decide) ?_
  refine Ow.icmp_lt X hx (pc := 266) (pc' := 281) (hb hby at_266) (by decide) (by decide) (fun q => absurd q (by decide)) (fun h266 => ?_)
  refine Ow.aload X hx (pc := 269) (hb hby at_269) rfl rfl ?_
  refine Ow.iconst X hx (pc := 271) (2) (hb hby at_271) (by decide) ?_
  refine Ow.baloadL X hx hZ eT B_o 2 (.int b2) (by decide) (by decide) rfl (pc := 272) (hb hby at_272) ?_
  refine Ow.iload X hx (pc := 273) (hb hby at_273) rfl ?_
  refine Ow.icmp_eq X hx (pc := 275) (pc' := 281) (hb hby at_275) (by decide) (by decide) (fun h275 => ?_) (fun q => absurd rfl q)
  refine Ow.iload X hx (pc := 281) (hb hby at_281) rfl ?_
  refine Ow.iconst X hx (pc := 283) (1) (hb hby at_283) (by decide) ?_
  refine Ow.icmp_ge X hx (pc := 284) (pc' := 297) (hb hby at_284) (by decide) (by decide) (fun h284 => ?_) (fun q => absurd q (by decide))
  refine Ow.iload X hx (pc := 297) (hb hby at_297) rfl ?_
  refine Ow.iconst X hx (pc := 299) (2) (hb hby at_299) (by decide) ?_
  refine Ow.icmp_ge X hx (pc := 300) (pc' := 313) (hb hby at_300) (by decide) (by decide) (fun h300 => ?_) (fun q => absurd q (by decide))
  refine Ow.iload X hx (pc := 313) (hb hby at_313) rfl ?_
  refine Ow.iconst X hx (pc := 315) (3) (hb hby at_315) (by decide) ?_
  refine Ow.icmp_ge X hx (pc := 316) (pc' := 329) (hb hby at_316) (by decide) (by decide) (fun h316 => ?_) (fun q => absurd q (by decide))
  refine Ow.aload X hx (pc := 329) (hb hby at_329) rfl rfl ?_
  refine Ow.iconst X hx (pc := 331) (3) (hb hby at_331) (by decide) ?_
  refine Ow.baloadL X hx hZ eT B_o 3 (.int 0) (by decide) (by decide) rfl (pc := 332) (hb hby at_332) ?_
  refine Ow.if_eq X hx (pc := 333) (pc' := 339) (hb hby at_333) (by decide) (by decide) (fun h333 => ?_) (fun q => absurd rfl q)
  refine Ow.iload X hx (pc := 339) (hb hby at_339) rfl ?_
  refine Ow.if_eq X hx (pc := 341) (pc' := 379) (hb hby at_341) (by decide) (by decide) (fun q => absurd q (by decide)) (fun h341 => ?_)
  refine Ow.lload X hx (pc := 344) (hb hby at_344) rfl ?_
  refine Ow.lload X hx (pc := 346) (hb hby at_346) rfl ?_
  refine Ow.lcmp X hx (pc := 348) (hb hby at_348) ?_
  refine Ow.if_ne X hx (pc := 349) (pc' := 379) (hb hby at_349) (by decide) (by decide) (fun q => absurd (own_cmp_self _) q) (fun h349 => ?_)
  refine Ow.iload X hx (pc := 352) (hb hby at_352) rfl ?_
  refine Ow.iload X hx (pc := 354) (hb hby at_354) rfl ?_
  refine Ow.icmp_ne X hx (pc := 356) (pc' := 379) (hb hby at_356) (by decide) (by decide) (fun q => absurd rfl q) (fun h356 => ?_)
  refine Ow.iload X hx (pc := 359) (hb hby at_359) rfl ?_
  refine Ow.if_eq X hx (pc := 361) (pc' := 379) (hb hby at_361) (by decide) (by decide) (fun q => absurd q (by decide)) (fun h361 => ?_)
  refine Ow.iload X hx (pc := 364) (hb hby at_364) rfl ?_
  refine Ow.iload X hx (pc := 366) (hb hby at_366) rfl ?_
  refine Ow.lload X hx (pc := 368) (hb hby at_368) rfl ?_
  refine Ow.l2i X hx (pc := 370) (hb hby at_370) ?_
  rw [own_l2i]
  refine Ow.isub X hx (pc := 371) (hb hby at_371) ?_
  refine Ow.icmp_ne X hx (pc := 372) (pc' := 379) (hb hby at_372) (by decide) (by decide) (fun q => absurd rfl q) (fun h372 => ?_)
  refine Ow.iconst X hx (pc := 375) (1) (hb hby at_375) (by decide) ?_
  refine Ow.goto X hx (pc := 376) (pc' := 380) (hb hby at_376) (by decide) (by decide) ?_
  exact Ow.nreturn X hx hlk hret (Or.inl rfl) (hb hby at_380) ⟨rfl, by rw [eT]; exact F⟩ (by decide) (by decide)
theorem law_w (l : Launch) (Z : State) (a0 : Array Value) (hw : ∀ d ∈ tables_1, d.before a0 Z = true) (h0 : Heap) (z p0 p1 p2 p3 : Int32) (S : Sta Z h0 "java/lang/String" "COMPACT_STRINGS" "Z" (.int z)) (hz : ¬ z = 0) : Ow.Pay l Z x code maxLocals ret room_1 #[(.int p0), (.int p1), (.int p2), (.int p3)] h0 (fun v h L => v = some (.int 1) ∧ Ow.Eff h0 h [] L) := by
  obtain ⟨n, hn3⟩ : ∃ n : Fin 4, p0 &&& 3 = Int32.ofNat n.val := own_mask2 p0
  have hcase : p0 &&& 3 = 0 ∨ p0 &&& 3 = 1 ∨ p0 &&& 3 = 2 ∨ p0 &&& 3 = 3 := by
    rw [hn3]
    have : ∀ n : Fin 4, Int32.ofNat n.val = 0 ∨ Int32.ofNat n.val = 1 ∨ Int32.ofNat n.val = 2 ∨ Int32.ofNat n.val = 3 := by decide
    exact this n
  by_cases h10 : (p0 >>> ((2 : Int32) &&& 31)) &&& 1 = 0
  · rcases hcase with h | h | h | h
    · exact law_01 l Z a0 hw h0 z p0 p1 p2 p3 S hz h h10
    · exact law_11 l Z a0 hw h0 z p0 p1 p2 p3 S hz h h10
    · exact law_21 l Z a0 hw h0 z p0 p1 p2 p3 S hz h h10
    · exact law_31 l Z a0 hw h0 z p0 p1 p2 p3 S hz h h10
  · rcases hcase with h | h | h | h
    · exact law_00 l Z a0 hw h0 z p0 p1 p2 p3 S hz h h10
    · exact law_10 l Z a0 hw h0 z p0 p1 p2 p3 S hz h h10
    · exact law_20 l Z a0 hw h0 z p0 p1 p2 p3 S hz h h10
    · exact law_30 l Z a0 hw h0 z p0 p1 p2 p3 S hz h h10
set_option maxRecDepth 65536 in
set_option maxHeartbeats 40000000 in
theorem comes_1 {Post : Tables → Env → Array Value → State → Outcome → State → Prop} (hpost : ∀ tb e args s v u, (limb_1_1.after args s (.returned v) u = true ∧ limb_1_2.after args s (.returned v) u = true ∧ True) → FrameEnd s (.returned v) u (Jvm.fieldLocs frame_1_writes args s ++ Jvm.arrayLocs frame_1_arrays args s ++ Jvm.staticLocs frame_1_statics s) 24 128 → Post tb e args s (.returned v) u) :
    ArmFor flags0 classFile x code maxLocals ret World_1 tables_1 room_1 Calls_1 rest_1 Pre_1 Post := by
  intro l hfl _ _ p e ha hc hk s m args below hf hA hF happ hP
  obtain ⟨hcalls, hrest, hpre⟩ := hP
  obtain ⟨-, -, -, hnamed, -, -, -, hat⟩ := (Spec.applies_iff hf).mp happ
  obtain ⟨hg, hnar⟩ := and_e (Cond.before_iff.mp (show (Jvm.Cond.and given_1 narrow_1).before args s = true from hpre))
  obtain ⟨g0, g1⟩ := and_e hg
  obtain ⟨q0, g2⟩ := and_e g1
  obtain ⟨q1, g3⟩ := and_e g2
  obtain ⟨q2, g4⟩ := and_e g3
  have q3 := g4
  obtain ⟨w0, w1, w2, w3, rfl⟩ : ∃ w0 w1 w2 w3 : Value, args = #[w0, w1, w2, w3] := by
    have hs : args.size = 4 := by simpa [Cond.value, given_1] using g0
    obtain ⟨L⟩ := args
    match L, hs with
    | [w0, w1, w2, w3], _ => exact ⟨w0, w1, w2, w3, rfl⟩
  have hw := fun d (hd : d ∈ tables_1) => atoms_spec (ws := Jvm.Cond.code x code maxLocals ret :: tables_1) hat d (List.mem_cons_of_mem _ hd)
  obtain ⟨hsets, hown0⟩ := atoms_of _ (rest_1_c_eq ▸ (show rest_1_c.before _ s = true from hrest))
  have hfit : Fit s := fun {y c} hc i hi => by
    obtain ⟨ha, rfl⟩ := Array.getElem?_eq_some_iff.mp hc
    have q := List.all_eq_true.mp ((Array.all_eq_true_iff_forall_mem.mp hF) _ (Array.getElem_mem ha)) i (List.mem_range.mpr hi)
    simpa [Array.getElem?_eq_getElem hi] using q
  obtain ⟨i0, e0⟩ := is_v q0
  obtain rfl : w0 = (.int i0) := Option.some.inj e0
  obtain ⟨i1, e1⟩ := is_v q1
  obtain rfl : w1 = (.int i1) := Option.some.inj e1
  obtain ⟨i2, e2⟩ := is_v q2
  obtain rfl : w2 = (.int i2) := Option.some.inj e2
  obtain ⟨i3, e3⟩ := is_v q3
  obtain rfl : w3 = (.int i3) := Option.some.inj e3
  have n5 := not_v (Cond.before_iff.mp (hsets _ (List.mem_of_getElem? (i := 2) rfl)))
  obtain ⟨z, ez⟩ := is_v (Cond.before_iff.mp (hsets _ (List.mem_of_getElem? (i := 1) rfl)))
  have S : Sta s s.heap "java/lang/String" "COMPACT_STRINGS" "Z" (.int z) := Sta.start ez (Or.inl (hsets _ (List.mem_of_getElem? (i := 0) rfl)))
  have hz : ¬ (z = (0 : Int32)) := gotF (Cond.eq_ints ez (Term.int_eval (0))) n5
  obtain ⟨n, o, h1, h2, h3, _, L, rfl, ⟨rfl, F⟩, hq⟩ := law_w l s _ hw s.heap z i0 i1 i2 i3 S hz tables_1 p e ha hc hk s m _ below hf ((Spec.applies_iff_loose hf).mp happ).1 ⟨rfl, State.Warmed39.refl s, rfl⟩ trivial
  refine ⟨n, _, h1, h2, h3, hpost _ _ _ _ _ _ ⟨Cond.after_iff.mpr rfl, Cond.after_iff.mpr (eq_i res_at (Term.int_eval (1)) rfl), trivial⟩ ⟨hq.1, hq.2.1, (hq.2.2.sift fun y hy => Or.inr (F.fr y hy)).mono (by decide) (by decide)⟩⟩
theorem main_1_1 : Claimed_1_1 := comes_1 fun _ _ _ _ _ _ h hF => ⟨h.1, hF⟩
theorem main_1_2 : Claimed_1_2 := comes_1 fun _ _ _ _ _ _ h hF => ⟨h.2.1, hF⟩
end Jvm.Pilot.@@N@@
namespace Jvm.Pilot.@@N@@
open Jvm Jvm.ClassFile Sem Op Lib Jvm.Free Jvm.Stand Jvm.Pilot.@@N@@.Jvm.D
/-! MADE BY PROGRAM (witnessworld.py) out of the Statement's table words and the real class files: 26 classes; the members and pool entries that the words name. The judged class is class 1, her method 2. -/
namespace start1
open Jvm.ClassFile
def u (s : String) : CpInfo := .utf8 (stringToUtf16 s)
/-- a pool by its gaps: so many unusable entries, then the entry; so many at the end -/
def gap : Nat → List CpInfo → List CpInfo
  | 0, r => r
  | n + 1, r => .unusable :: gap n r
def poolList (es : List (Nat × CpInfo)) (last : Nat) : List CpInfo := es.foldr (fun e r => gap e.1 (e.2 :: r)) (gap last [])
def pool (es : List (Nat × CpInfo)) (last : Nat) : Array CpInfo := ⟨poolList es last⟩
def fileOf (pool : Array CpInfo) (this : Nat) (attrs : Array Attribute := #[]) (ms : Array MethodInfo := #[]) (fl : Nat := 33) (sup : Nat := 0) (ifs : Array Nat := #[]) (fds : Array FieldInfo := #[]) : ClassFile where
  minorVersion := 0
  majorVersion := 65
  constantPool := pool
  accessFlags := fl
  thisClass := this
  superClass := sup
  interfaces := ifs
  fields := fds
  methods := ms
  attributes := attrs
def plain (name : String) (sup : Option ClassId) : Class where
  name := name
  kind := .ordinary
  loader := none
  accessFlags := 33
  super := sup
  interfaces := #[]
  cf := none
  fields := #[]
  methods := #[]
  instanceTypes := #[]
  staticTypes := #[]
  resolved := #[]
  callSites := []
  init := .initialized
  statics := none
  mirror := none

def pool0 : Array CpInfo := pool [(5, u "<init>"), (0, u "()V"), (1, .class_ 10), (1, u "java/lang/Object")] 113

def k0c0 : Code := { maxStack := 0, maxLocals := 1, code := object_method_1_code, exceptionTable := #[], attributes := #[] }
def k0m0 : Method := { name := "<init>", desc := "()V", sig := { parameters := [], returnType := none }, accessFlags := 1, code := some k0c0 }
/-- java/lang/Object -/
def k0 : Class := { plain "java/lang/Object" none with
  accessFlags := 33
  interfaces := #[]
  cf := some (fileOf pool0 8 #[] #[{ accessFlags := 1, nameIndex := 5, descriptorIndex := 6, attributes := #[] }] 33 0 #[] #[])
  fields := #[]
  methods := #[k0m0]
  instanceTypes := #[]
  staticTypes := #[]
  resolved := Array.replicate 124 none
  statics := none }

def pool1 : Array CpInfo := pool [(2, .class_ 4), (1, u "java/lang/Object"), (0, u "<init>"), (0, u "()V"), (0, .methodref 8 9), (0, .class_ 10), (0, .nameAndType 11 12), (0, u "com/example/eunomia/eunomia/xml/NamedStreamReopenedPinLaw"), (0, u "make"), (0, u "(IBBB)[B"), (0, .class_ 14), (0, u "java/lang/String"), (0, .methodref 13 16), (0, .nameAndType 5 17), (0, u "([C)V"), (0, .class_ 19), (0, u "com/example/eunomia/eunomia/xml/NamedStream"), (0, .methodref 18 21), (0, .nameAndType 5 22), (0, u "([BLjava/lang/String;)V"), (0, .integer 2147483647), (0, .methodref 18 25), (0, .nameAndType 26 27), (0, u "skip"), (0, u "(J)J"), (0, .methodref 18 29), (0, .nameAndType 30 31), (0, u "reopened"), (0, u "()Lcom/example/eunomia/eunomia/xml/NamedStream;"), (0, .methodref 18 33), (0, .nameAndType 34 35), (0, u "name"), (0, u "()Ljava/lang/String;"), (0, .methodref 13 37), (0, .nameAndType 38 39), (0, u "equals"), (0, u "(Ljava/lang/Object;)Z"), (0, .methodref 18 41), (0, .nameAndType 42 43), (0, u "read"), (0, u "([BII)I"), (0, .methodref 18 45), (0, .nameAndType 46 47), (0, u "available"), (0, u "()I"), (3, u "law"), (0, u "(IIII)Z")] 6

def k1m0 : Method := { name := "<init>", desc := "()V", sig := { parameters := [], returnType := none }, accessFlags := 1, code := none }
def k1c1 : Code := { maxStack := 4, maxLocals := 4, code := method_2_code, exceptionTable := #[], attributes := #[] }
def k1m1 : Method := { name := "make", desc := "(IBBB)[B", sig := { parameters := [.int, .byte, .byte, .byte], returnType := some (.array .byte) }, accessFlags := 10, code := some k1c1 }
def k1c2 : Code := { maxStack := 4, maxLocals := 25, code := code, exceptionTable := #[], attributes := #[] }
def k1m2 : Method := { name := "law", desc := "(IIII)Z", sig := { parameters := [.int, .int, .int, .int], returnType := some .boolean }, accessFlags := 9, code := some k1c2 }
/-- com/example/eunomia/eunomia/xml/NamedStreamReopenedPinLaw -/
def k1 : Class := { plain "com/example/eunomia/eunomia/xml/NamedStreamReopenedPinLaw" (some 0) with
  accessFlags := 49
  interfaces := #[]
  cf := some (fileOf pool1 8 #[] #[{ accessFlags := 1, nameIndex := 5, descriptorIndex := 6, attributes := #[] }, { accessFlags := 10, nameIndex := 11, descriptorIndex := 12, attributes := #[] }, { accessFlags := 9, nameIndex := 51, descriptorIndex := 52, attributes := #[] }] 49 2 #[] #[])
  fields := #[]
  methods := #[k1m0, k1m1, k1m2]
  instanceTypes := #[]
  staticTypes := #[]
  resolved := Array.replicate 59 none
  statics := none }

def pool2 : Array CpInfo := pool [(1, .class_ 2), (0, u "java/io/Serializable"), (0, .class_ 4), (0, u "java/lang/Object")] 2

/-- java/io/Serializable -/
def k2 : Class := { plain "java/io/Serializable" (some 0) with
  accessFlags := 1537
  interfaces := #[]
  cf := some (fileOf pool2 1 #[] #[] 1537 3 #[] #[])
  fields := #[]
  methods := #[]
  instanceTypes := #[]
  staticTypes := #[]
  resolved := Array.replicate 7 none
  statics := none }

def pool3 : Array CpInfo := pool [(1, .class_ 2), (0, u "java/lang/Comparable"), (0, .class_ 4), (0, u "java/lang/Object")] 7

/-- java/lang/Comparable -/
def k3 : Class := { plain "java/lang/Comparable" (some 0) with
  accessFlags := 1537
  interfaces := #[]
  cf := some (fileOf pool3 1 #[] #[] 1537 3 #[] #[])
  fields := #[]
  methods := #[]
  instanceTypes := #[]
  staticTypes := #[]
  resolved := Array.replicate 12 none
  statics := none }

def pool4 : Array CpInfo := pool [(2, .class_ 4), (1, u "java/lang/CharSequence"), (42, .class_ 48), (0, u "java/lang/CharSequence$1CodePointIterator"), (10, .class_ 60), (0, u "java/lang/CharSequence$1CharIterator"), (5, .class_ 67), (0, u "java/lang/Object")] 63

/-- java/lang/CharSequence -/
def k4 : Class := { plain "java/lang/CharSequence" (some 0) with
  accessFlags := 1537
  interfaces := #[]
  cf := some (fileOf pool4 2 #[.nestMembers #[47, 59]] #[] 1537 66 #[] #[])
  fields := #[]
  methods := #[]
  instanceTypes := #[]
  staticTypes := #[]
  resolved := Array.replicate 131 none
  statics := none }

def pool5 : Array CpInfo := pool [(1, .class_ 2), (0, u "java/lang/constant/Constable"), (0, .class_ 4), (0, u "java/lang/Object")] 6

/-- java/lang/constant/Constable -/
def k5 : Class := { plain "java/lang/constant/Constable" (some 0) with
  accessFlags := 1537
  interfaces := #[]
  cf := some (fileOf pool5 1 #[] #[] 1537 3 #[] #[])
  fields := #[]
  methods := #[]
  instanceTypes := #[]
  staticTypes := #[]
  resolved := Array.replicate 11 none
  statics := none }

def pool6 : Array CpInfo := pool [(1, .class_ 2), (0, u "java/lang/constant/ConstantDesc"), (0, .class_ 4), (0, u "java/lang/Object")] 32

/-- java/lang/constant/ConstantDesc -/
def k6 : Class := { plain "java/lang/constant/ConstantDesc" (some 0) with
  accessFlags := 1537
  interfaces := #[]
  cf := some (fileOf pool6 1 #[] #[] 1537 3 #[] #[])
  fields := #[]
  methods := #[]
  instanceTypes := #[]
  staticTypes := #[]
  resolved := Array.replicate 37 none
  statics := none }

def pool7 : Array CpInfo := pool [(1, .methodref 2 3), (0, .class_ 4), (0, .nameAndType 5 6), (0, u "java/lang/Object"), (0, u "<init>"), (0, u "()V"), (2, .fieldref 10 11), (0, .class_ 12), (0, .nameAndType 13 14), (0, u "java/lang/String"), (0, u "value"), (0, u "[B"), (0, .fieldref 10 16), (0, .nameAndType 17 18), (0, u "coder"), (0, u "B"), (2, u "hash"), (0, u "I"), (2, u "hashIsZero"), (0, u "Z"), (0, .methodref 10 28), (0, .nameAndType 5 29), (0, u "([CIILjava/lang/Void;)V"), (8, .fieldref 10 39), (0, .nameAndType 40 26), (0, u "COMPACT_STRINGS"), (1, .class_ 44), (1, u "java/lang/StringUTF16"), (0, u "compress"), (1, .methodref 42 48), (0, .nameAndType 49 50), (0, u "coderFromArrayLen"), (0, u "([BI)B"), (126, .methodref 42 178), (0, .nameAndType 45 179), (0, u "([CII)[B"), (363, u "equals"), (29, u "(Ljava/lang/Object;)Z"), (1, .class_ 576), (0, u "java/lang/CharSequence"), (22, u "CASE_INSENSITIVE_ORDER"), (0, u "Ljava/util/Comparator;"), (409, u "([C)V"), (90, u "serialPersistentFields"), (0, u "[Ljava/io/ObjectStreamField;"), (0, .class_ 1104), (0, u "java/lang/String$CaseInsensitiveComparator"), (1, .class_ 1107), (0, u "java/io/Serializable"), (0, .class_ 1109), (0, u "java/lang/Comparable"), (0, .class_ 1111), (0, u "java/lang/constant/Constable"), (0, .class_ 1113), (0, u "java/lang/constant/ConstantDesc"), (2, u "serialVersionUID"), (0, u "J"), (3, u "REPL"), (0, u "C"), (2, u "LATIN1"), (1, u "UTF16")] 323

def k7m0 : Method := { name := "<init>", desc := "()V", sig := { parameters := [], returnType := none }, accessFlags := 1, code := none }
def k7c1 : Code := { maxStack := 5, maxLocals := 2, code := jdk_42_method_3_code, exceptionTable := #[], attributes := #[] }
def k7m1 : Method := { name := "<init>", desc := "([C)V", sig := { parameters := [(.array .char)], returnType := none }, accessFlags := 1, code := some k7c1 }
def k7c2 : Code := { maxStack := 2, maxLocals := 3, code := jdk_42_method_66_code, exceptionTable := #[], attributes := #[] }
def k7m2 : Method := { name := "equals", desc := "(Ljava/lang/Object;)Z", sig := { parameters := [(.object "java/lang/Object")], returnType := some .boolean }, accessFlags := 1, code := some k7c2 }
def k7c3 : Code := { maxStack := 4, maxLocals := 6, code := jdk_42_method_149_code, exceptionTable := #[], attributes := #[] }
def k7m3 : Method := { name := "<init>", desc := "([CIILjava/lang/Void;)V", sig := { parameters := [(.array .char), .int, .int, (.object "java/lang/Void")], returnType := none }, accessFlags := 2, code := some k7c3 }
/-- java/lang/String -/
def k7 : Class := { plain "java/lang/String" (some 0) with
  accessFlags := 49
  interfaces := #[2, 3, 4, 5, 6]
  cf := some (fileOf pool7 10 #[.nestMembers #[1103]] #[{ accessFlags := 1, nameIndex := 5, descriptorIndex := 6, attributes := #[] }, { accessFlags := 1, nameIndex := 5, descriptorIndex := 1010, attributes := #[] }, { accessFlags := 1, nameIndex := 543, descriptorIndex := 573, attributes := #[] }, { accessFlags := 2, nameIndex := 5, descriptorIndex := 29, attributes := #[] }] 49 2 #[1106, 1108, 575, 1110, 1112] #[{ accessFlags := 18, nameIndex := 13, descriptorIndex := 14, attributes := #[] }, { accessFlags := 18, nameIndex := 17, descriptorIndex := 18, attributes := #[] }, { accessFlags := 2, nameIndex := 21, descriptorIndex := 22, attributes := #[] }, { accessFlags := 2, nameIndex := 25, descriptorIndex := 26, attributes := #[] }, { accessFlags := 26, nameIndex := 1116, descriptorIndex := 1117, attributes := #[] }, { accessFlags := 24, nameIndex := 40, descriptorIndex := 26, attributes := #[] }, { accessFlags := 26, nameIndex := 1101, descriptorIndex := 1102, attributes := #[] }, { accessFlags := 26, nameIndex := 1121, descriptorIndex := 1122, attributes := #[] }, { accessFlags := 25, nameIndex := 599, descriptorIndex := 600, attributes := #[] }, { accessFlags := 24, nameIndex := 1125, descriptorIndex := 18, attributes := #[] }, { accessFlags := 24, nameIndex := 1127, descriptorIndex := 18, attributes := #[] }])
  fields := #[{ name := "value", type := (.array .byte), accessFlags := 18, slot := 0, constantValue := 0 }, { name := "coder", type := .byte, accessFlags := 18, slot := 1, constantValue := 0 }, { name := "hash", type := .int, accessFlags := 2, slot := 2, constantValue := 0 }, { name := "hashIsZero", type := .boolean, accessFlags := 2, slot := 3, constantValue := 0 }, { name := "serialVersionUID", type := .long, accessFlags := 26, slot := 0, constantValue := 0 }, { name := "COMPACT_STRINGS", type := .boolean, accessFlags := 24, slot := 1, constantValue := 0 }, { name := "serialPersistentFields", type := (.array (.object "java/io/ObjectStreamField")), accessFlags := 26, slot := 2, constantValue := 0 }, { name := "REPL", type := .char, accessFlags := 26, slot := 3, constantValue := 0 }, { name := "CASE_INSENSITIVE_ORDER", type := (.object "java/util/Comparator"), accessFlags := 25, slot := 4, constantValue := 0 }, { name := "LATIN1", type := .byte, accessFlags := 24, slot := 5, constantValue := 0 }, { name := "UTF16", type := .byte, accessFlags := 24, slot := 6, constantValue := 0 }]
  methods := #[k7m0, k7m1, k7m2, k7m3]
  instanceTypes := #[(.array .byte), .byte, .int, .boolean]
  staticTypes := #[.long, .boolean, (.array (.object "java/io/ObjectStreamField")), .char, (.object "java/util/Comparator"), .byte, .byte]
  resolved := Array.replicate 1451 none
  statics := some 0 }

def pool8 : Array CpInfo := pool [(6, .class_ 8), (1, u "java/lang/Object"), (0, u "<init>"), (0, u "()V"), (1, .class_ 14), (1, u "java/lang/StringUTF16"), (31, u "$assertionsDisabled"), (0, u "Z"), (13, u "HI_BYTE_SHIFT"), (0, u "I"), (2, u "LO_BYTE_SHIFT"), (49, .methodref 12 116), (0, .nameAndType 117 118), (0, u "compress"), (0, u "([CI[BII)I"), (3, u "([CII)[B"), (138, u "coderFromArrayLen"), (0, u "([BI)B"), (106, .class_ 371), (1, u "java/lang/StringUTF16$LinesSpliterator"), (58, u "MAX_LENGTH"), (196, .class_ 628), (0, u "java/lang/StringUTF16$CodePointsSpliterator"), (0, .class_ 630), (0, u "java/lang/StringUTF16$CharsSpliterator")] 4

def k8m0 : Method := { name := "<init>", desc := "()V", sig := { parameters := [], returnType := none }, accessFlags := 0, code := none }
def k8c1 : Code := { maxStack := 2, maxLocals := 2, code := jdk_52_method_15_code, exceptionTable := #[], attributes := #[] }
def k8m1 : Method := { name := "coderFromArrayLen", desc := "([BI)B", sig := { parameters := [(.array .byte), .int], returnType := some .byte }, accessFlags := 8, code := some k8c1 }
def k8c2 : Code := { maxStack := 5, maxLocals := 6, code := jdk_52_method_16_code, exceptionTable := #[], attributes := #[] }
def k8m2 : Method := { name := "compress", desc := "([CII)[B", sig := { parameters := [(.array .char), .int, .int], returnType := some (.array .byte) }, accessFlags := 9, code := some k8c2 }
def k8c3 : Code := { maxStack := 3, maxLocals := 7, code := jdk_52_method_21_code, exceptionTable := #[], attributes := #[] }
def k8m3 : Method := { name := "compress", desc := "([CI[BII)I", sig := { parameters := [(.array .char), .int, (.array .byte), .int, .int], returnType := some .int }, accessFlags := 9, code := some k8c3 }
/-- java/lang/StringUTF16 -/
def k8 : Class := { plain "java/lang/StringUTF16" (some 0) with
  accessFlags := 48
  interfaces := #[]
  cf := some (fileOf pool8 12 #[.nestMembers #[627, 629, 369]] #[{ accessFlags := 0, nameIndex := 9, descriptorIndex := 10, attributes := #[] }, { accessFlags := 8, nameIndex := 261, descriptorIndex := 262, attributes := #[] }, { accessFlags := 9, nameIndex := 117, descriptorIndex := 122, attributes := #[] }, { accessFlags := 9, nameIndex := 117, descriptorIndex := 118, attributes := #[] }] 48 6 #[] #[{ accessFlags := 26, nameIndex := 61, descriptorIndex := 62, attributes := #[] }, { accessFlags := 26, nameIndex := 65, descriptorIndex := 62, attributes := #[] }, { accessFlags := 24, nameIndex := 430, descriptorIndex := 62, attributes := #[] }, { accessFlags := 4120, nameIndex := 46, descriptorIndex := 47, attributes := #[] }])
  fields := #[{ name := "HI_BYTE_SHIFT", type := .int, accessFlags := 26, slot := 0, constantValue := 0 }, { name := "LO_BYTE_SHIFT", type := .int, accessFlags := 26, slot := 1, constantValue := 0 }, { name := "MAX_LENGTH", type := .int, accessFlags := 24, slot := 2, constantValue := 0 }, { name := "$assertionsDisabled", type := .boolean, accessFlags := 4120, slot := 3, constantValue := 0 }]
  methods := #[k8m0, k8m1, k8m2, k8m3]
  instanceTypes := #[]
  staticTypes := #[.int, .int, .int, .boolean]
  resolved := Array.replicate 635 none
  statics := none }

def pool9 : Array CpInfo := pool [(1, .class_ 2), (0, u "java/lang/AutoCloseable"), (0, .class_ 4), (0, u "java/lang/Object")] 7

/-- java/lang/AutoCloseable -/
def k9 : Class := { plain "java/lang/AutoCloseable" (some 0) with
  accessFlags := 1537
  interfaces := #[]
  cf := some (fileOf pool9 1 #[] #[] 1537 3 #[] #[])
  fields := #[]
  methods := #[]
  instanceTypes := #[]
  staticTypes := #[]
  resolved := Array.replicate 12 none
  statics := none }

def pool10 : Array CpInfo := pool [(1, .class_ 2), (0, u "java/io/Closeable"), (0, .class_ 4), (0, u "java/lang/Object"), (0, .class_ 6), (0, u "java/lang/AutoCloseable")] 7

/-- java/io/Closeable -/
def k10 : Class := { plain "java/io/Closeable" (some 0) with
  accessFlags := 1537
  interfaces := #[9]
  cf := some (fileOf pool10 1 #[] #[] 1537 3 #[5] #[])
  fields := #[]
  methods := #[]
  instanceTypes := #[]
  staticTypes := #[]
  resolved := Array.replicate 14 none
  statics := none }

def pool11 : Array CpInfo := pool [(3, .methodref 4 5), (0, .class_ 6), (0, .nameAndType 7 8), (0, u "java/lang/Object"), (0, u "<init>"), (0, u "()V"), (0, .class_ 10), (0, u "java/io/InputStream$1"), (2, .class_ 15), (1, u "java/io/InputStream"), (116, .class_ 133), (0, u "java/io/Closeable"), (0, u "MAX_SKIP_BUFFER_SIZE"), (0, u "I"), (2, u "DEFAULT_BUFFER_SIZE"), (1, u "MAX_BUFFER_SIZE")] 54

def k11c0 : Code := { maxStack := 1, maxLocals := 1, code := jdk_2022_method_1_code, exceptionTable := #[], attributes := #[] }
def k11m0 : Method := { name := "<init>", desc := "()V", sig := { parameters := [], returnType := none }, accessFlags := 1, code := some k11c0 }
/-- java/io/InputStream -/
def k11 : Class := { plain "java/io/InputStream" (some 0) with
  accessFlags := 1057
  interfaces := #[10]
  cf := some (fileOf pool11 13 #[.nestMembers #[9]] #[{ accessFlags := 1, nameIndex := 7, descriptorIndex := 8, attributes := #[] }] 1057 4 #[132] #[{ accessFlags := 26, nameIndex := 134, descriptorIndex := 135, attributes := #[] }, { accessFlags := 26, nameIndex := 138, descriptorIndex := 135, attributes := #[] }, { accessFlags := 26, nameIndex := 140, descriptorIndex := 135, attributes := #[] }])
  fields := #[{ name := "MAX_SKIP_BUFFER_SIZE", type := .int, accessFlags := 26, slot := 0, constantValue := 0 }, { name := "DEFAULT_BUFFER_SIZE", type := .int, accessFlags := 26, slot := 1, constantValue := 0 }, { name := "MAX_BUFFER_SIZE", type := .int, accessFlags := 26, slot := 2, constantValue := 0 }]
  methods := #[k11m0]
  instanceTypes := #[]
  staticTypes := #[.int, .int, .int]
  resolved := Array.replicate 195 none
  statics := none }

def pool12 : Array CpInfo := pool [(1, .methodref 2 3), (0, .class_ 4), (0, .nameAndType 5 6), (0, u "java/io/InputStream"), (0, u "<init>"), (0, u "()V"), (0, .fieldref 8 9), (0, .class_ 10), (0, .nameAndType 11 12), (0, u "java/io/ByteArrayInputStream"), (0, u "mark"), (0, u "I"), (0, .fieldref 8 14), (0, .nameAndType 15 16), (0, u "buf"), (0, u "[B"), (0, .fieldref 8 18), (0, .nameAndType 19 12), (0, u "pos"), (0, .fieldref 8 21), (0, .nameAndType 22 12), (0, u "count"), (6, .methodref 30 31), (0, .class_ 32), (0, .nameAndType 33 34), (0, u "java/util/Objects"), (0, u "checkFromIndexSize"), (0, u "(III)I"), (0, .methodref 36 37), (0, .class_ 38), (0, .nameAndType 39 40), (0, u "java/lang/System"), (0, u "arraycopy"), (0, u "(Ljava/lang/Object;ILjava/lang/Object;II)V"), (8, u "read"), (0, u "([BII)I"), (12, u "$assertionsDisabled"), (0, u "Z"), (9, u "MAX_TRANSFER_SIZE"), (1, u "([B)V"), (7, u "()I"), (19, u "skip"), (0, u "(J)J"), (2, u "available")] 8

def k12c0 : Code := { maxStack := 2, maxLocals := 2, code := jdk_2004_method_1_code, exceptionTable := #[], attributes := #[] }
def k12m0 : Method := { name := "<init>", desc := "([B)V", sig := { parameters := [(.array .byte)], returnType := none }, accessFlags := 1, code := some k12c0 }
def k12c1 : Code := { maxStack := 5, maxLocals := 5, code := ⟨#[0x1c, 0x1d, 0x2b, 0xbe, 0xb8, 0x00, 0x1d, 0x57, 0x2a, 0xb4, 0x00, 0x11, 0x2a, 0xb4, 0x00, 0x14, 0xa1, 0x00, 0x05, 0x02, 0xac, 0x2a, 0xb4, 0x00, 0x14, 0x2a, 0xb4, 0x00, 0x11, 0x64, 0x36, 0x04, 0x1d, 0x15, 0x04, 0xa4, 0x00, 0x06, 0x15, 0x04, 0x3e, 0x1d, 0x9d, 0x00, 0x05, 0x03, 0xac, 0x2a, 0xb4, 0x00, 0x0d, 0x2a, 0xb4, 0x00, 0x11, 0x2b, 0x1c, 0x1d, 0xb8, 0x00, 0x23, 0x2a, 0x59, 0xb4, 0x00, 0x11, 0x1d, 0x60, 0xb5, 0x00, 0x11, 0x1d, 0xac]⟩, exceptionTable := #[], attributes := #[] }
def k12m1 : Method := { name := "read", desc := "([BII)I", sig := { parameters := [(.array .byte), .int, .int], returnType := some .int }, accessFlags := 33, code := some k12c1 }
def k12c2 : Code := { maxStack := 4, maxLocals := 5, code := ⟨#[0x2a, 0xb4, 0x00, 0x14, 0x2a, 0xb4, 0x00, 0x11, 0x64, 0x85, 0x42, 0x1f, 0x21, 0x94, 0x9c, 0x00, 0x0f, 0x1f, 0x09, 0x94, 0x9c, 0x00, 0x07, 0x09, 0xa7, 0x00, 0x04, 0x1f, 0x42, 0x2a, 0x59, 0xb4, 0x00, 0x11, 0x21, 0x88, 0x60, 0xb5, 0x00, 0x11, 0x21, 0xad]⟩, exceptionTable := #[], attributes := #[] }
def k12m2 : Method := { name := "skip", desc := "(J)J", sig := { parameters := [.long], returnType := some .long }, accessFlags := 33, code := some k12c2 }
def k12c3 : Code := { maxStack := 2, maxLocals := 1, code := ⟨#[0x2a, 0xb4, 0x00, 0x14, 0x2a, 0xb4, 0x00, 0x11, 0x64, 0xac]⟩, exceptionTable := #[], attributes := #[] }
def k12m3 : Method := { name := "available", desc := "()I", sig := { parameters := [], returnType := some .int }, accessFlags := 33, code := some k12c3 }
/-- java/io/ByteArrayInputStream -/
def k12 : Class := { plain "java/io/ByteArrayInputStream" (some 11) with
  accessFlags := 33
  interfaces := #[]
  cf := some (fileOf pool12 8 #[] #[{ accessFlags := 1, nameIndex := 5, descriptorIndex := 76, attributes := #[] }, { accessFlags := 33, nameIndex := 49, descriptorIndex := 50, attributes := #[] }, { accessFlags := 33, nameIndex := 104, descriptorIndex := 105, attributes := #[] }, { accessFlags := 33, nameIndex := 108, descriptorIndex := 84, attributes := #[] }] 33 2 #[] #[{ accessFlags := 26, nameIndex := 74, descriptorIndex := 12, attributes := #[] }, { accessFlags := 4, nameIndex := 15, descriptorIndex := 16, attributes := #[] }, { accessFlags := 4, nameIndex := 19, descriptorIndex := 12, attributes := #[] }, { accessFlags := 4, nameIndex := 11, descriptorIndex := 12, attributes := #[] }, { accessFlags := 4, nameIndex := 22, descriptorIndex := 12, attributes := #[] }, { accessFlags := 4120, nameIndex := 63, descriptorIndex := 64, attributes := #[] }])
  fields := #[{ name := "MAX_TRANSFER_SIZE", type := .int, accessFlags := 26, slot := 0, constantValue := 0 }, { name := "buf", type := (.array .byte), accessFlags := 4, slot := 0, constantValue := 0 }, { name := "pos", type := .int, accessFlags := 4, slot := 1, constantValue := 0 }, { name := "mark", type := .int, accessFlags := 4, slot := 2, constantValue := 0 }, { name := "count", type := .int, accessFlags := 4, slot := 3, constantValue := 0 }, { name := "$assertionsDisabled", type := .boolean, accessFlags := 4120, slot := 1, constantValue := 0 }]
  methods := #[k12m0, k12m1, k12m2, k12m3]
  instanceTypes := #[(.array .byte), .int, .int, .int]
  staticTypes := #[.int, .boolean]
  resolved := Array.replicate 117 none
  statics := none }

def pool13 : Array CpInfo := pool [(1, .methodref 2 3), (0, .class_ 4), (0, .nameAndType 5 6), (0, u "java/io/ByteArrayInputStream"), (0, u "<init>"), (0, u "([B)V"), (0, .fieldref 8 9), (0, .class_ 10), (0, .nameAndType 11 12), (0, u "com/example/eunomia/eunomia/xml/NamedStream"), (0, u "name"), (0, u "Ljava/lang/String;"), (0, .fieldref 8 14), (0, .nameAndType 15 16), (0, u "buf"), (0, u "[B"), (0, .methodref 8 18), (0, .nameAndType 5 19), (0, u "([BLjava/lang/String;)V"), (2, u "()Ljava/lang/String;"), (0, u "reopened"), (0, u "()Lcom/example/eunomia/eunomia/xml/NamedStream;")] 2

def k13c0 : Code := { maxStack := 2, maxLocals := 3, code := prog_23_method_1_code, exceptionTable := #[], attributes := #[] }
def k13m0 : Method := { name := "<init>", desc := "([BLjava/lang/String;)V", sig := { parameters := [(.array .byte), (.object "java/lang/String")], returnType := none }, accessFlags := 1, code := some k13c0 }
def k13c1 : Code := { maxStack := 1, maxLocals := 1, code := prog_23_method_2_code, exceptionTable := #[], attributes := #[] }
def k13m1 : Method := { name := "name", desc := "()Ljava/lang/String;", sig := { parameters := [], returnType := some (.object "java/lang/String") }, accessFlags := 1, code := some k13c1 }
def k13c2 : Code := { maxStack := 4, maxLocals := 1, code := prog_23_method_3_code, exceptionTable := #[], attributes := #[] }
def k13m2 : Method := { name := "reopened", desc := "()Lcom/example/eunomia/eunomia/xml/NamedStream;", sig := { parameters := [], returnType := some (.object "com/example/eunomia/eunomia/xml/NamedStream") }, accessFlags := 1, code := some k13c2 }
/-- com/example/eunomia/eunomia/xml/NamedStream -/
def k13 : Class := { plain "com/example/eunomia/eunomia/xml/NamedStream" (some 12) with
  accessFlags := 33
  interfaces := #[]
  cf := some (fileOf pool13 8 #[] #[{ accessFlags := 1, nameIndex := 5, descriptorIndex := 19, attributes := #[] }, { accessFlags := 1, nameIndex := 11, descriptorIndex := 22, attributes := #[] }, { accessFlags := 1, nameIndex := 23, descriptorIndex := 24, attributes := #[] }] 33 2 #[] #[{ accessFlags := 18, nameIndex := 11, descriptorIndex := 12, attributes := #[] }])
  fields := #[{ name := "name", type := (.object "java/lang/String"), accessFlags := 18, slot := 4, constantValue := 0 }]
  methods := #[k13m0, k13m1, k13m2]
  instanceTypes := #[(.array .byte), .int, .int, .int, (.object "java/lang/String")]
  staticTypes := #[]
  resolved := Array.replicate 27 none
  statics := none }

def pool14 : Array CpInfo := pool [(2, .class_ 4), (1, u "java/lang/Object"), (0, u "<init>"), (0, u "()V"), (35, .class_ 44), (1, u "java/util/Objects"), (61, .class_ 108), (1, u "jdk/internal/util/Preconditions"), (5, u "(IIILjava/util/function/BiFunction;)I"), (0, .methodref 106 116), (0, .nameAndType 117 114), (0, u "checkFromIndexSize"), (57, u "(III)I")] 8

def k14m0 : Method := { name := "<init>", desc := "()V", sig := { parameters := [], returnType := none }, accessFlags := 2, code := none }
def k14c1 : Code := { maxStack := 4, maxLocals := 3, code := jdk_31_method_19_code, exceptionTable := #[], attributes := #[] }
def k14m1 : Method := { name := "checkFromIndexSize", desc := "(III)I", sig := { parameters := [.int, .int, .int], returnType := some .int }, accessFlags := 9, code := some k14c1 }
/-- java/util/Objects -/
def k14 : Class := { plain "java/util/Objects" (some 0) with
  accessFlags := 49
  interfaces := #[]
  cf := some (fileOf pool14 42 #[] #[{ accessFlags := 2, nameIndex := 5, descriptorIndex := 6, attributes := #[] }, { accessFlags := 9, nameIndex := 117, descriptorIndex := 175, attributes := #[] }] 49 2 #[] #[])
  fields := #[]
  methods := #[k14m0, k14m1]
  instanceTypes := #[]
  staticTypes := #[]
  resolved := Array.replicate 184 none
  statics := none }

def pool15 : Array CpInfo := pool [(2, .class_ 4), (1, u "java/lang/Object"), (0, u "<init>"), (0, u "()V"), (17, .class_ 26), (1, u "jdk/internal/util/Preconditions"), (22, u "checkFromIndexSize"), (5, .class_ 56), (0, u "jdk/internal/util/Preconditions$4"), (57, .class_ 115), (0, u "jdk/internal/util/Preconditions$1"), (7, u "SIOOBE_FORMATTER"), (0, u "Ljava/util/function/BiFunction;"), (0, .class_ 126), (0, u "jdk/internal/util/Preconditions$2"), (3, u "AIOOBE_FORMATTER"), (0, .class_ 132), (0, u "jdk/internal/util/Preconditions$3"), (3, u "IOOBE_FORMATTER"), (46, u "(IIILjava/util/function/BiFunction;)I")] 10

def k15m0 : Method := { name := "<init>", desc := "()V", sig := { parameters := [], returnType := none }, accessFlags := 1, code := none }
def k15c1 : Code := { maxStack := 4, maxLocals := 4, code := jdk_41_method_13_code, exceptionTable := #[], attributes := #[] }
def k15m1 : Method := { name := "checkFromIndexSize", desc := "(IIILjava/util/function/BiFunction;)I", sig := { parameters := [.int, .int, .int, (.object "java/util/function/BiFunction")], returnType := some .int }, accessFlags := 9, code := some k15c1 }
/-- jdk/internal/util/Preconditions -/
def k15 : Class := { plain "jdk/internal/util/Preconditions" (some 0) with
  accessFlags := 33
  interfaces := #[]
  cf := some (fileOf pool15 24 #[.nestMembers #[55, 131, 125, 114]] #[{ accessFlags := 1, nameIndex := 5, descriptorIndex := 6, attributes := #[] }, { accessFlags := 9, nameIndex := 49, descriptorIndex := 183, attributes := #[] }] 33 2 #[] #[{ accessFlags := 25, nameIndex := 123, descriptorIndex := 124, attributes := #[] }, { accessFlags := 25, nameIndex := 130, descriptorIndex := 124, attributes := #[] }, { accessFlags := 25, nameIndex := 136, descriptorIndex := 124, attributes := #[] }])
  fields := #[{ name := "SIOOBE_FORMATTER", type := (.object "java/util/function/BiFunction"), accessFlags := 25, slot := 0, constantValue := 0 }, { name := "AIOOBE_FORMATTER", type := (.object "java/util/function/BiFunction"), accessFlags := 25, slot := 1, constantValue := 0 }, { name := "IOOBE_FORMATTER", type := (.object "java/util/function/BiFunction"), accessFlags := 25, slot := 2, constantValue := 0 }]
  methods := #[k15m0, k15m1]
  instanceTypes := #[]
  staticTypes := #[(.object "java/util/function/BiFunction"), (.object "java/util/function/BiFunction"), (.object "java/util/function/BiFunction")]
  resolved := Array.replicate 194 none
  statics := some 1 }

def pool16 : Array CpInfo := pool [(2, .class_ 4), (1, u "java/lang/Object"), (0, u "<init>"), (0, u "()V"), (1, .class_ 10), (1, u "java/lang/System"), (0, u "allowSecurityManager"), (0, u "I"), (16, u "cons"), (0, u "Ljava/io/Console;"), (77, .class_ 110), (1, u "java/lang/System$CallersHolder"), (43, u "initialErrStream"), (0, u "Ljava/io/PrintStream;"), (19, u "security"), (0, u "Ljava/lang/SecurityManager;"), (31, .class_ 209), (0, u "java/lang/System$1"), (7, u "props"), (0, u "Ljava/util/Properties;"), (2, u "lineSeparator"), (0, u "Ljava/lang/String;"), (96, .class_ 321), (1, u "java/lang/System$LoggerFinder"), (5, .class_ 328), (0, u "java/lang/System$Logger"), (67, u "err"), (2, u "out"), (91, u "notSupportedJnuEncoding"), (15, u "in"), (17, u "initialIn"), (0, u "Ljava/io/InputStream;"), (35, u "bootLayer"), (0, u "Ljava/lang/ModuleLayer;"), (99, .class_ 664), (0, u "java/lang/System$2"), (9, u "NEVER"), (2, u "MAYBE"), (49, u "arraycopy"), (0, u "(Ljava/lang/Object;ILjava/lang/Object;II)V"), (72, .class_ 802), (0, u "java/lang/System$Logger$Level")] 31

def k16m0 : Method := { name := "<init>", desc := "()V", sig := { parameters := [], returnType := none }, accessFlags := 2, code := none }
def k16m1 : Method := { name := "arraycopy", desc := "(Ljava/lang/Object;ILjava/lang/Object;II)V", sig := { parameters := [(.object "java/lang/Object"), .int, (.object "java/lang/Object"), .int, .int], returnType := none }, accessFlags := 265, code := none }
/-- java/lang/System -/
def k16 : Class := { plain "java/lang/System" (some 0) with
  accessFlags := 49
  interfaces := #[]
  cf := some (fileOf pool16 8 #[.nestMembers #[319, 327, 801, 108, 663, 208]] #[{ accessFlags := 2, nameIndex := 5, descriptorIndex := 6, attributes := #[] }, { accessFlags := 265, nameIndex := 727, descriptorIndex := 728, attributes := #[] }] 49 2 #[] #[{ accessFlags := 25, nameIndex := 507, descriptorIndex := 526, attributes := #[] }, { accessFlags := 25, nameIndex := 399, descriptorIndex := 155, attributes := #[] }, { accessFlags := 25, nameIndex := 396, descriptorIndex := 155, attributes := #[] }, { accessFlags := 10, nameIndex := 525, descriptorIndex := 526, attributes := #[] }, { accessFlags := 26, nameIndex := 674, descriptorIndex := 12, attributes := #[] }, { accessFlags := 26, nameIndex := 677, descriptorIndex := 12, attributes := #[] }, { accessFlags := 10, nameIndex := 11, descriptorIndex := 12, attributes := #[] }, { accessFlags := 74, nameIndex := 175, descriptorIndex := 176, attributes := #[] }, { accessFlags := 10, nameIndex := 491, descriptorIndex := 222, attributes := #[] }, { accessFlags := 74, nameIndex := 29, descriptorIndex := 30, attributes := #[] }, { accessFlags := 74, nameIndex := 154, descriptorIndex := 155, attributes := #[] }, { accessFlags := 10, nameIndex := 217, descriptorIndex := 218, attributes := #[] }, { accessFlags := 10, nameIndex := 221, descriptorIndex := 222, attributes := #[] }, { accessFlags := 8, nameIndex := 562, descriptorIndex := 563, attributes := #[] }])
  fields := #[{ name := "in", type := (.object "java/io/InputStream"), accessFlags := 25, slot := 0, constantValue := 0 }, { name := "out", type := (.object "java/io/PrintStream"), accessFlags := 25, slot := 1, constantValue := 0 }, { name := "err", type := (.object "java/io/PrintStream"), accessFlags := 25, slot := 2, constantValue := 0 }, { name := "initialIn", type := (.object "java/io/InputStream"), accessFlags := 10, slot := 3, constantValue := 0 }, { name := "NEVER", type := .int, accessFlags := 26, slot := 4, constantValue := 0 }, { name := "MAYBE", type := .int, accessFlags := 26, slot := 5, constantValue := 0 }, { name := "allowSecurityManager", type := .int, accessFlags := 10, slot := 6, constantValue := 0 }, { name := "security", type := (.object "java/lang/SecurityManager"), accessFlags := 74, slot := 7, constantValue := 0 }, { name := "notSupportedJnuEncoding", type := (.object "java/lang/String"), accessFlags := 10, slot := 8, constantValue := 0 }, { name := "cons", type := (.object "java/io/Console"), accessFlags := 74, slot := 9, constantValue := 0 }, { name := "initialErrStream", type := (.object "java/io/PrintStream"), accessFlags := 74, slot := 10, constantValue := 0 }, { name := "props", type := (.object "java/util/Properties"), accessFlags := 10, slot := 11, constantValue := 0 }, { name := "lineSeparator", type := (.object "java/lang/String"), accessFlags := 10, slot := 12, constantValue := 0 }, { name := "bootLayer", type := (.object "java/lang/ModuleLayer"), accessFlags := 8, slot := 13, constantValue := 0 }]
  methods := #[k16m0, k16m1]
  instanceTypes := #[]
  staticTypes := #[(.object "java/io/InputStream"), (.object "java/io/PrintStream"), (.object "java/io/PrintStream"), (.object "java/io/InputStream"), .int, .int, .int, (.object "java/lang/SecurityManager"), (.object "java/lang/String"), (.object "java/io/Console"), (.object "java/io/PrintStream"), (.object "java/util/Properties"), (.object "java/lang/String"), (.object "java/lang/ModuleLayer")]
  resolved := Array.replicate 834 none
  statics := none }

def pool17 : Array CpInfo := pool [(4, .class_ 6), (1, u "java/lang/Object"), (0, u "<init>"), (0, u "()V"), (5, .class_ 16), (1, u "java/lang/StringLatin1"), (104, u "$assertionsDisabled"), (0, u "Z"), (98, .class_ 223), (1, u "java/lang/StringLatin1$LinesSpliterator"), (166, .class_ 391), (0, u "java/lang/StringLatin1$CharsSpliterator")] 3

def k17m0 : Method := { name := "<init>", desc := "()V", sig := { parameters := [], returnType := none }, accessFlags := 0, code := none }
/-- java/lang/StringLatin1 -/
def k17 : Class := { plain "java/lang/StringLatin1" (some 0) with
  accessFlags := 48
  interfaces := #[]
  cf := some (fileOf pool17 14 #[.nestMembers #[390, 221]] #[{ accessFlags := 0, nameIndex := 7, descriptorIndex := 8, attributes := #[] }] 48 4 #[] #[{ accessFlags := 4120, nameIndex := 121, descriptorIndex := 122, attributes := #[] }])
  fields := #[{ name := "$assertionsDisabled", type := .boolean, accessFlags := 4120, slot := 0, constantValue := 0 }]
  methods := #[k17m0]
  instanceTypes := #[]
  staticTypes := #[.boolean]
  resolved := Array.replicate 395 none
  statics := none }

def pool18 : Array CpInfo := pool [(9, u "<init>"), (6, .class_ 18), (1, u "java/lang/Object"), (0, u "()V"), (1, .class_ 23), (1, u "jdk/internal/util/ArraysSupport"), (0, u "LOG2_ARRAY_LONG_INDEX_SCALE"), (0, u "I"), (2, u "U"), (0, u "Ljdk/internal/misc/Unsafe;"), (8, u "BIG_ENDIAN"), (0, u "Z"), (8, u "LOG2_BYTE_BIT_SIZE"), (4, u "LOG2_ARRAY_INT_INDEX_SCALE"), (54, u "JLA"), (0, u "Ljdk/internal/access/JavaLangAccess;"), (11, u "LOG2_ARRAY_BOOLEAN_INDEX_SCALE"), (9, u "LOG2_ARRAY_BYTE_INDEX_SCALE"), (5, u "LOG2_ARRAY_CHAR_INDEX_SCALE"), (5, u "LOG2_ARRAY_SHORT_INDEX_SCALE"), (18, u "LOG2_ARRAY_FLOAT_INDEX_SCALE"), (24, u "LOG2_ARRAY_DOUBLE_INDEX_SCALE"), (89, u "T_BOOLEAN"), (2, u "T_CHAR"), (1, u "T_FLOAT"), (1, u "T_DOUBLE"), (1, u "T_BYTE"), (1, u "T_SHORT"), (1, u "T_INT"), (1, u "T_LONG"), (1, u "SOFT_MAX_ARRAY_LENGTH")] 83

def k18m0 : Method := { name := "<init>", desc := "()V", sig := { parameters := [], returnType := none }, accessFlags := 2, code := none }
/-- jdk/internal/util/ArraysSupport -/
def k18 : Class := { plain "jdk/internal/util/ArraysSupport" (some 0) with
  accessFlags := 33
  interfaces := #[]
  cf := some (fileOf pool18 21 #[] #[{ accessFlags := 2, nameIndex := 9, descriptorIndex := 19, attributes := #[] }] 33 16 #[] #[{ accessFlags := 24, nameIndex := 28, descriptorIndex := 29, attributes := #[] }, { accessFlags := 26, nameIndex := 38, descriptorIndex := 39, attributes := #[] }, { accessFlags := 25, nameIndex := 121, descriptorIndex := 25, attributes := #[] }, { accessFlags := 25, nameIndex := 131, descriptorIndex := 25, attributes := #[] }, { accessFlags := 25, nameIndex := 137, descriptorIndex := 25, attributes := #[] }, { accessFlags := 25, nameIndex := 143, descriptorIndex := 25, attributes := #[] }, { accessFlags := 25, nameIndex := 53, descriptorIndex := 25, attributes := #[] }, { accessFlags := 25, nameIndex := 24, descriptorIndex := 25, attributes := #[] }, { accessFlags := 25, nameIndex := 162, descriptorIndex := 25, attributes := #[] }, { accessFlags := 25, nameIndex := 187, descriptorIndex := 25, attributes := #[] }, { accessFlags := 26, nameIndex := 48, descriptorIndex := 25, attributes := #[] }, { accessFlags := 25, nameIndex := 277, descriptorIndex := 25, attributes := #[] }, { accessFlags := 25, nameIndex := 280, descriptorIndex := 25, attributes := #[] }, { accessFlags := 25, nameIndex := 282, descriptorIndex := 25, attributes := #[] }, { accessFlags := 25, nameIndex := 284, descriptorIndex := 25, attributes := #[] }, { accessFlags := 25, nameIndex := 286, descriptorIndex := 25, attributes := #[] }, { accessFlags := 25, nameIndex := 288, descriptorIndex := 25, attributes := #[] }, { accessFlags := 25, nameIndex := 290, descriptorIndex := 25, attributes := #[] }, { accessFlags := 25, nameIndex := 292, descriptorIndex := 25, attributes := #[] }, { accessFlags := 26, nameIndex := 108, descriptorIndex := 109, attributes := #[] }, { accessFlags := 25, nameIndex := 294, descriptorIndex := 25, attributes := #[] }])
  fields := #[{ name := "U", type := (.object "jdk/internal/misc/Unsafe"), accessFlags := 24, slot := 0, constantValue := 0 }, { name := "BIG_ENDIAN", type := .boolean, accessFlags := 26, slot := 1, constantValue := 0 }, { name := "LOG2_ARRAY_BOOLEAN_INDEX_SCALE", type := .int, accessFlags := 25, slot := 2, constantValue := 0 }, { name := "LOG2_ARRAY_BYTE_INDEX_SCALE", type := .int, accessFlags := 25, slot := 3, constantValue := 0 }, { name := "LOG2_ARRAY_CHAR_INDEX_SCALE", type := .int, accessFlags := 25, slot := 4, constantValue := 0 }, { name := "LOG2_ARRAY_SHORT_INDEX_SCALE", type := .int, accessFlags := 25, slot := 5, constantValue := 0 }, { name := "LOG2_ARRAY_INT_INDEX_SCALE", type := .int, accessFlags := 25, slot := 6, constantValue := 0 }, { name := "LOG2_ARRAY_LONG_INDEX_SCALE", type := .int, accessFlags := 25, slot := 7, constantValue := 0 }, { name := "LOG2_ARRAY_FLOAT_INDEX_SCALE", type := .int, accessFlags := 25, slot := 8, constantValue := 0 }, { name := "LOG2_ARRAY_DOUBLE_INDEX_SCALE", type := .int, accessFlags := 25, slot := 9, constantValue := 0 }, { name := "LOG2_BYTE_BIT_SIZE", type := .int, accessFlags := 26, slot := 10, constantValue := 0 }, { name := "T_BOOLEAN", type := .int, accessFlags := 25, slot := 11, constantValue := 0 }, { name := "T_CHAR", type := .int, accessFlags := 25, slot := 12, constantValue := 0 }, { name := "T_FLOAT", type := .int, accessFlags := 25, slot := 13, constantValue := 0 }, { name := "T_DOUBLE", type := .int, accessFlags := 25, slot := 14, constantValue := 0 }, { name := "T_BYTE", type := .int, accessFlags := 25, slot := 15, constantValue := 0 }, { name := "T_SHORT", type := .int, accessFlags := 25, slot := 16, constantValue := 0 }, { name := "T_INT", type := .int, accessFlags := 25, slot := 17, constantValue := 0 }, { name := "T_LONG", type := .int, accessFlags := 25, slot := 18, constantValue := 0 }, { name := "JLA", type := (.object "jdk/internal/access/JavaLangAccess"), accessFlags := 26, slot := 19, constantValue := 0 }, { name := "SOFT_MAX_ARRAY_LENGTH", type := .int, accessFlags := 25, slot := 20, constantValue := 0 }]
  methods := #[k18m0]
  instanceTypes := #[]
  staticTypes := #[(.object "jdk/internal/misc/Unsafe"), .boolean, .int, .int, .int, .int, .int, .int, .int, .int, .int, .int, .int, .int, .int, .int, .int, .int, .int, (.object "jdk/internal/access/JavaLangAccess"), .int]
  resolved := Array.replicate 378 none
  statics := none }

def pool19 : Array CpInfo := pool [(1, u "java/lang/Cloneable"), (0, .class_ 1), (0, u "java/lang/Object"), (0, .class_ 3)] 3

/-- java/lang/Cloneable -/
def k19 : Class := { plain "java/lang/Cloneable" (some 0) with
  accessFlags := 1537
  interfaces := #[]
  cf := some (fileOf pool19 2 #[] #[] 1537 4 #[] #[])
  fields := #[]
  methods := #[]
  instanceTypes := #[]
  staticTypes := #[]
  resolved := Array.replicate 8 none
  statics := none }

/-- the primitive byte -/
def k20 : Class := { plain "byte" none with kind := .primitive 'B', accessFlags := 0x411 }
/-- [B -/
def k21 : Class := { plain "[B" (some 0) with kind := .array 20 .byte, interfaces := #[19, 2], accessFlags := 1041 }

/-- the primitive char -/
def k22 : Class := { plain "char" none with kind := .primitive 'C', accessFlags := 0x411 }
/-- [C -/
def k23 : Class := { plain "[C" (some 0) with kind := .array 22 .char, interfaces := #[19, 2], accessFlags := 1041 }

/-- the primitive int -/
def k24 : Class := { plain "int" none with kind := .primitive 'I', accessFlags := 0x411 }
/-- [I -/
def k25 : Class := { plain "[I" (some 0) with kind := .array 24 .int, interfaces := #[19, 2], accessFlags := 1041 }

def heap : Heap := #[{ cls := 7, slots := #[.long 0, .int 1, .null, .int 0, .null, .int 0, .int 0], vm := .statics 7 },
  { cls := 15, slots := #[.null, .null, .null], vm := .statics 15 }]
def classes : Array Class := #[k0, k1, k2, k3, k4, k5, k6, k7, k8, k9, k10, k11, k12, k13, k14, k15, k16, k17, k18, k19, k20, k21, k22, k23, k24, k25]
def interned : List (Array UInt16 × Addr) := []
def slotsUsed : Nat := 10
def theMethod : MethodId := ⟨1, 2⟩
def args0 : Array Value := #[.int 5, .int 6, .int 7, .int 8]
def aboutOver (below : List Frame) : State where
  vm := { classes := classes, interned := interned.toArray }
  heap := heap
  slotsUsed := slotsUsed
  threads := #[{ frames := .invoking theMethod args0 :: below }]
def below0 : List Frame := [.native { method := ⟨0, 0⟩, args := #[] }]
def about1 : State := aboutOver below0
def p0 : Program := .bare "" "" ""
def e0 : Env := launch0.env 0 0 0
theorem w_frames : about1.frames = Frame.invoking theMethod args0 :: below0 := rfl
set_option maxRecDepth 65536 in
theorem w_args : argsFit about1.vm theMethod args0 = true := by decide +kernel
set_option maxRecDepth 65536 in
theorem w_heap : heapFits about1 = true := by decide +kernel
set_option maxRecDepth 65536 in
theorem w_runnable : about1.curStatus? = some .runnable := by decide +kernel
set_option maxRecDepth 65536 in
theorem w_alone : about1.alone = true := by decide +kernel
set_option maxRecDepth 65536 in
theorem w_named : about1.methodNamed? x = some theMethod := by decide +kernel
set_option maxRecDepth 65536 in
theorem w_hears : about1.hears theMethod below0 = true := by decide +kernel
set_option maxRecDepth 65536 in
theorem w_ripe : about1.ripe theMethod args0 below0 = true := by decide +kernel
theorem w_running : about1.status = .running := rfl
set_option maxRecDepth 65536 in
theorem w_room : about1.hasRoom e0.platform room_1 = true :=
  launch0.hasRoom_least _ room_1 (by decide +kernel) (by decide +kernel) (by decide +kernel) (by decide +kernel) (by decide +kernel) (by decide +kernel)
theorem allAtoms_all (ts : List Jvm.Cond) (a : Array Jvm.Value) (st : Jvm.State) : (allAtoms ts).before a st = ts.all (fun c => c.before a st) := by
  induction ts with
  | nil => rfl
  | cons c t ih =>
    show (Jvm.Cond.and c (allAtoms t)).before a st = _
    rw [Jvm.Cond.before_and, ih, List.all_cons]
def words1 : List Jvm.Cond := Jvm.Cond.code x code maxLocals ret :: tables_1
/-- a 'code' word, met by the world's own term for the bytes: nothing is compared byte by byte -/
theorem code_word {y : MethodName} {bytes : ByteArray} {mx : Nat} {rt : Option FieldType} {a : Array Value} {s : State} {m : MethodId} {meth : Method} {c : Code} (h1 : s.methodNamed? y = some m) (h2 : s.vm.method? m = some meth) (h3 : meth.code = some c) (h4 : c.code = bytes)
    (h5 : (c.maxLocals == mx && c.exceptionTable.isEmpty && decide (c.maxStack ≤ mostOperands) && decide (meth.sig.returnType = rt) && !meth.locks && decide (parseMethodDescriptor y.desc = some meth.sig)) = true) : (Jvm.Cond.code y bytes mx rt).before a s = true := by
  simp only [Bool.and_eq_true, beq_iff_eq, Bool.not_eq_true', decide_eq_true_eq] at h5
  obtain ⟨⟨⟨⟨⟨g1, g2⟩, g3⟩, g4⟩, g5⟩, g6⟩ := h5
  simp [Cond.before, Cond.holds, Cond.value, h1, h2, h3, h4, g1, g2, g3, g4, g5, g6]
def isCode : Jvm.Cond → Bool
  | .code _ _ _ _ => true
  | _ => false
theorem all_split {L : List Jvm.Cond} {P : Jvm.Cond → Bool} (h1 : L.all (fun c => isCode c || P c) = true) (h2 : ∀ c ∈ L.filter isCode, P c = true) : L.all P = true := by
  refine List.all_eq_true.mpr fun c hc => ?_
  have h := List.all_eq_true.mp h1 c hc
  rcases Bool.eq_false_or_eq_true (isCode c) with hi | hi
  · exact h2 c (List.mem_filter.mpr ⟨hc, hi⟩)
  · simpa [hi] using h
set_option maxRecDepth 65536 in
theorem w_c0 : (Jvm.Cond.code x code maxLocals ret).before args0 about1 = true := code_word (m := ⟨1, 2⟩) (meth := k1m2) (c := k1c2) (by decide +kernel) rfl rfl rfl (by decide +kernel)
set_option maxRecDepth 65536 in
theorem w_c1 : (Jvm.Cond.code ({ cls := "com/example/eunomia/eunomia/xml/NamedStreamReopenedPinLaw", name := "make", desc := "(IBBB)[B" } : Jvm.MethodName) method_2_code (4 : Nat) (Option.some (Jvm.ClassFile.FieldType.array Jvm.ClassFile.FieldType.byte))).before args0 about1 = true := code_word (m := ⟨1, 1⟩) (meth := k1m1) (c := k1c1) (by decide +kernel) rfl rfl rfl (by decide +kernel)
set_option maxRecDepth 65536 in
theorem w_c2 : (Jvm.Cond.code ({ cls := "java/lang/String", name := "<init>", desc := "([C)V" } : Jvm.MethodName) jdk_42_method_3_code (2 : Nat) (Option.none : Option Jvm.ClassFile.FieldType)).before args0 about1 = true := code_word (m := ⟨7, 1⟩) (meth := k7m1) (c := k7c1) (by decide +kernel) rfl rfl rfl (by decide +kernel)
set_option maxRecDepth 65536 in
theorem w_c3 : (Jvm.Cond.code ({ cls := "java/lang/String", name := "<init>", desc := "([CIILjava/lang/Void;)V" } : Jvm.MethodName) jdk_42_method_149_code (6 : Nat) (Option.none : Option Jvm.ClassFile.FieldType)).before args0 about1 = true := code_word (m := ⟨7, 3⟩) (meth := k7m3) (c := k7c3) (by decide +kernel) rfl rfl rfl (by decide +kernel)
set_option maxRecDepth 65536 in
theorem w_c4 : (Jvm.Cond.code ({ cls := "java/lang/Object", name := "<init>", desc := "()V" } : Jvm.MethodName) object_method_1_code (1 : Nat) (Option.none : Option Jvm.ClassFile.FieldType)).before args0 about1 = true := code_word (m := ⟨0, 0⟩) (meth := k0m0) (c := k0c0) (by decide +kernel) rfl rfl rfl (by decide +kernel)
set_option maxRecDepth 65536 in
theorem w_c5 : (Jvm.Cond.code ({ cls := "java/lang/StringUTF16", name := "compress", desc := "([CII)[B" } : Jvm.MethodName) jdk_52_method_16_code (6 : Nat) (Option.some (Jvm.ClassFile.FieldType.array Jvm.ClassFile.FieldType.byte))).before args0 about1 = true := code_word (m := ⟨8, 2⟩) (meth := k8m2) (c := k8c2) (by decide +kernel) rfl rfl rfl (by decide +kernel)
set_option maxRecDepth 65536 in
theorem w_c6 : (Jvm.Cond.code ({ cls := "java/lang/StringUTF16", name := "compress", desc := "([CI[BII)I" } : Jvm.MethodName) jdk_52_method_21_code (7 : Nat) (Option.some Jvm.ClassFile.FieldType.int)).before args0 about1 = true := code_word (m := ⟨8, 3⟩) (meth := k8m3) (c := k8c3) (by decide +kernel) rfl rfl rfl (by decide +kernel)
set_option maxRecDepth 65536 in
theorem w_c7 : (Jvm.Cond.code ({ cls := "java/lang/StringUTF16", name := "coderFromArrayLen", desc := "([BI)B" } : Jvm.MethodName) jdk_52_method_15_code (2 : Nat) (Option.some Jvm.ClassFile.FieldType.byte)).before args0 about1 = true := code_word (m := ⟨8, 1⟩) (meth := k8m1) (c := k8c1) (by decide +kernel) rfl rfl rfl (by decide +kernel)
set_option maxRecDepth 65536 in
theorem w_c8 : (Jvm.Cond.code ({ cls := "com/example/eunomia/eunomia/xml/NamedStream", name := "<init>", desc := "([BLjava/lang/String;)V" } : Jvm.MethodName) prog_23_method_1_code (3 : Nat) (Option.none : Option Jvm.ClassFile.FieldType)).before args0 about1 = true := code_word (m := ⟨13, 0⟩) (meth := k13m0) (c := k13c0) (by decide +kernel) rfl rfl rfl (by decide +kernel)
set_option maxRecDepth 65536 in
theorem w_c9 : (Jvm.Cond.code ({ cls := "java/io/ByteArrayInputStream", name := "<init>", desc := "([B)V" } : Jvm.MethodName) jdk_2004_method_1_code (2 : Nat) (Option.none : Option Jvm.ClassFile.FieldType)).before args0 about1 = true := code_word (m := ⟨12, 0⟩) (meth := k12m0) (c := k12c0) (by decide +kernel) rfl rfl rfl (by decide +kernel)
set_option maxRecDepth 65536 in
theorem w_c10 : (Jvm.Cond.code ({ cls := "java/io/InputStream", name := "<init>", desc := "()V" } : Jvm.MethodName) jdk_2022_method_1_code (1 : Nat) (Option.none : Option Jvm.ClassFile.FieldType)).before args0 about1 = true := code_word (m := ⟨11, 0⟩) (meth := k11m0) (c := k11c0) (by decide +kernel) rfl rfl rfl (by decide +kernel)
set_option maxRecDepth 65536 in
theorem w_c11 : (Jvm.Cond.code ({ cls := "com/example/eunomia/eunomia/xml/NamedStream", name := "reopened", desc := "()Lcom/example/eunomia/eunomia/xml/NamedStream;" } : Jvm.MethodName) prog_23_method_3_code (1 : Nat) (Option.some (Jvm.ClassFile.FieldType.object "com/example/eunomia/eunomia/xml/NamedStream"))).before args0 about1 = true := code_word (m := ⟨13, 2⟩) (meth := k13m2) (c := k13c2) (by decide +kernel) rfl rfl rfl (by decide +kernel)
set_option maxRecDepth 65536 in
theorem w_c12 : (Jvm.Cond.code ({ cls := "com/example/eunomia/eunomia/xml/NamedStream", name := "name", desc := "()Ljava/lang/String;" } : Jvm.MethodName) prog_23_method_2_code (1 : Nat) (Option.some (Jvm.ClassFile.FieldType.object "java/lang/String"))).before args0 about1 = true := code_word (m := ⟨13, 1⟩) (meth := k13m1) (c := k13c1) (by decide +kernel) rfl rfl rfl (by decide +kernel)
set_option maxRecDepth 65536 in
theorem w_c13 : (Jvm.Cond.code ({ cls := "java/lang/String", name := "equals", desc := "(Ljava/lang/Object;)Z" } : Jvm.MethodName) jdk_42_method_66_code (3 : Nat) (Option.some Jvm.ClassFile.FieldType.boolean)).before args0 about1 = true := code_word (m := ⟨7, 2⟩) (meth := k7m2) (c := k7c2) (by decide +kernel) rfl rfl rfl (by decide +kernel)
set_option maxRecDepth 65536 in
theorem w_c14 : (Jvm.Cond.code ({ cls := "java/util/Objects", name := "checkFromIndexSize", desc := "(III)I" } : Jvm.MethodName) jdk_31_method_19_code (3 : Nat) (Option.some Jvm.ClassFile.FieldType.int)).before args0 about1 = true := code_word (m := ⟨14, 1⟩) (meth := k14m1) (c := k14c1) (by decide +kernel) rfl rfl rfl (by decide +kernel)
set_option maxRecDepth 65536 in
theorem w_c15 : (Jvm.Cond.code ({ cls := "jdk/internal/util/Preconditions", name := "checkFromIndexSize", desc := "(IIILjava/util/function/BiFunction;)I" } : Jvm.MethodName) jdk_41_method_13_code (4 : Nat) (Option.some Jvm.ClassFile.FieldType.int)).before args0 about1 = true := code_word (m := ⟨15, 1⟩) (meth := k15m1) (c := k15c1) (by decide +kernel) rfl rfl rfl (by decide +kernel)
def codes1 : List Jvm.Cond := [Jvm.Cond.code x code maxLocals ret, Jvm.Cond.code ({ cls := "com/example/eunomia/eunomia/xml/NamedStreamReopenedPinLaw", name := "make", desc := "(IBBB)[B" } : Jvm.MethodName) method_2_code (4 : Nat) (Option.some (Jvm.ClassFile.FieldType.array Jvm.ClassFile.FieldType.byte)), Jvm.Cond.code ({ cls := "java/lang/String", name := "<init>", desc := "([C)V" } : Jvm.MethodName) jdk_42_method_3_code (2 : Nat) (Option.none : Option Jvm.ClassFile.FieldType), Jvm.Cond.code ({ cls := "java/lang/String", name := "<init>", desc := "([CIILjava/lang/Void;)V" } : Jvm.MethodName) jdk_42_method_149_code (6 : Nat) (Option.none : Option Jvm.ClassFile.FieldType), Jvm.Cond.code ({ cls := "java/lang/Object", name := "<init>", desc := "()V" } : Jvm.MethodName) object_method_1_code (1 : Nat) (Option.none : Option Jvm.ClassFile.FieldType), Jvm.Cond.code ({ cls := "java/lang/StringUTF16", name := "compress", desc := "([CII)[B" } : Jvm.MethodName) jdk_52_method_16_code (6 : Nat) (Option.some (Jvm.ClassFile.FieldType.array Jvm.ClassFile.FieldType.byte)), Jvm.Cond.code ({ cls := "java/lang/StringUTF16", name := "compress", desc := "([CI[BII)I" } : Jvm.MethodName) jdk_52_method_21_code (7 : Nat) (Option.some Jvm.ClassFile.FieldType.int), Jvm.Cond.code ({ cls := "java/lang/StringUTF16", name := "coderFromArrayLen", desc := "([BI)B" } : Jvm.MethodName) jdk_52_method_15_code (2 : Nat) (Option.some Jvm.ClassFile.FieldType.byte), Jvm.Cond.code ({ cls := "com/example/eunomia/eunomia/xml/NamedStream", name := "<init>", desc := "([BLjava/lang/String;)V" } : Jvm.MethodName) prog_23_method_1_code (3 : Nat) (Option.none : Option Jvm.ClassFile.FieldType), Jvm.Cond.code ({ cls := "java/io/ByteArrayInputStream", name := "<init>", desc := "([B)V" } : Jvm.MethodName) jdk_2004_method_1_code (2 : Nat) (Option.none : Option Jvm.ClassFile.FieldType), Jvm.Cond.code ({ cls := "java/io/InputStream", name := "<init>", desc := "()V" } : Jvm.MethodName) jdk_2022_method_1_code (1 : Nat) (Option.none : Option Jvm.ClassFile.FieldType), Jvm.Cond.code ({ cls := "com/example/eunomia/eunomia/xml/NamedStream", name := "reopened", desc := "()Lcom/example/eunomia/eunomia/xml/NamedStream;" } : Jvm.MethodName) prog_23_method_3_code (1 : Nat) (Option.some (Jvm.ClassFile.FieldType.object "com/example/eunomia/eunomia/xml/NamedStream")), Jvm.Cond.code ({ cls := "com/example/eunomia/eunomia/xml/NamedStream", name := "name", desc := "()Ljava/lang/String;" } : Jvm.MethodName) prog_23_method_2_code (1 : Nat) (Option.some (Jvm.ClassFile.FieldType.object "java/lang/String")), Jvm.Cond.code ({ cls := "java/lang/String", name := "equals", desc := "(Ljava/lang/Object;)Z" } : Jvm.MethodName) jdk_42_method_66_code (3 : Nat) (Option.some Jvm.ClassFile.FieldType.boolean), Jvm.Cond.code ({ cls := "java/util/Objects", name := "checkFromIndexSize", desc := "(III)I" } : Jvm.MethodName) jdk_31_method_19_code (3 : Nat) (Option.some Jvm.ClassFile.FieldType.int), Jvm.Cond.code ({ cls := "jdk/internal/util/Preconditions", name := "checkFromIndexSize", desc := "(IIILjava/util/function/BiFunction;)I" } : Jvm.MethodName) jdk_41_method_13_code (4 : Nat) (Option.some Jvm.ClassFile.FieldType.int)]
set_option maxRecDepth 65536 in
theorem codes_eq : words1.filter isCode = codes1 := rfl
theorem w_codes : ∀ c ∈ words1.filter isCode, c.before args0 about1 = true := by
  rw [codes_eq]
  intro c hc
  simp only [codes1, List.mem_cons, List.not_mem_nil, or_false] at hc
  rcases hc with rfl | rfl | rfl | rfl | rfl | rfl | rfl | rfl | rfl | rfl | rfl | rfl | rfl | rfl | rfl | rfl
  · exact w_c0
  · exact w_c1
  · exact w_c2
  · exact w_c3
  · exact w_c4
  · exact w_c5
  · exact w_c6
  · exact w_c7
  · exact w_c8
  · exact w_c9
  · exact w_c10
  · exact w_c11
  · exact w_c12
  · exact w_c13
  · exact w_c14
  · exact w_c15
set_option maxRecDepth 65536 in
theorem w_t1 : (words1.take 24).all (fun c => isCode c || c.before args0 about1) = true := by decide +kernel
set_option maxRecDepth 65536 in
theorem w_t2 : ((words1.drop 24).take 24).all (fun c => isCode c || c.before args0 about1) = true := by decide +kernel
set_option maxRecDepth 65536 in
theorem w_t3 : (((words1.drop 24).drop 24).take 24).all (fun c => isCode c || c.before args0 about1) = true := by decide +kernel
set_option maxRecDepth 65536 in
theorem w_t4 : ((((words1.drop 24).drop 24).drop 24).take 24).all (fun c => isCode c || c.before args0 about1) = true := by decide +kernel
set_option maxRecDepth 65536 in
theorem w_t5 : ((((words1.drop 24).drop 24).drop 24).drop 24).all (fun c => isCode c || c.before args0 about1) = true := by decide +kernel
theorem w_tables : (allAtoms (Jvm.Cond.code x code maxLocals ret :: tables_1)).before args0 about1 = true := by
  rw [allAtoms_all]
  show words1.all (fun c => c.before args0 about1) = true
  refine all_split ?_ w_codes
  rw [← List.take_append_drop 24 words1, List.all_append, w_t1, ← List.take_append_drop 24 (words1.drop 24), List.all_append, w_t2, ← List.take_append_drop 24 ((words1.drop 24).drop 24), List.all_append, w_t3, ← List.take_append_drop 24 (((words1.drop 24).drop 24).drop 24), List.all_append, w_t4, w_t5]
  rfl
set_option maxRecDepth 65536 in
theorem w_rest : rest_1_c.before args0 about1 = true := by decide +kernel
set_option maxRecDepth 65536 in
theorem w_case : (Jvm.Cond.and given_1 narrow_1).before args0 about1 = true := by decide +kernel
theorem w_applies : (headSpec (Jvm.Cond.code x code maxLocals ret :: tables_1) room_1).applies x e0.platform about1 = true :=
  (Spec.applies_iff w_frames).mpr ⟨w_running, w_runnable, w_alone, w_named, w_hears, w_ripe, w_room, w_tables⟩
theorem atStart : AtStart classFile x code maxLocals ret World_1 tables_1 room_1 Calls_1 rest_1 Pre_1 launch0 p0 e0 about1 theMethod args0 below0 :=
  ⟨lists_1, trivial, launch0.admits_env _ _ _, launch0.least_env, fairChoices_fair.cas, fairChoices_fair.clock, w_frames, w_args, w_heap, w_applies, trivial, w_rest, w_case⟩
end start1
theorem witness_1 : WitnessClaimed_1 := ⟨start1.p0, start1.e0, start1.about1, start1.theMethod, start1.args0, start1.below0, start1.atStart⟩
end Jvm.Pilot.@@N@@
