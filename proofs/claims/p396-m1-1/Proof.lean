import JvmDerived
import JvmDerived.Pilot.@@N@@Statement
import JvmDerived.Pilot.@@N@@Code
set_option linter.unusedVariables false
set_option linter.unusedSimpArgs false
namespace Jvm.Ow
open Sem ClassFile Op Lib Jvm.Stand Jvm.Free Jvm.LawKit Jvm.RoadKit
/-- from S the run goes on to an end that G accepts -/
def Go (tb : Tables) (e : Env) (below : List Frame) (G : Outcome → State → Prop) (S : State) : Prop := ∃ t o, Steps tb e below S t ∧ t.status = .running ∧ Ended t below o ∧ G o t
theorem Go.via {tb : Tables} {e : Env} {below : List Frame} {G : Outcome → State → Prop} {S S' : State} (st : ∀ target, Steps tb e below S' target → Steps tb e below S target) (K : Go tb e below G S') : Go tb e below G S := by
  obtain ⟨t, o, h1, h2⟩ := K
  exact ⟨t, o, st t h1, h2⟩
theorem Go.thru {tb : Tables} {e : Env} {below : List Frame} {G : Outcome → State → Prop} {S S' : State} (st : Steps tb e below S S') (K : Go tb e below G S') : Go tb e below G S := by
  obtain ⟨t, o, h1, h2⟩ := K
  exact ⟨t, o, st.trans h1, h2⟩
section Steps1
variable {p : Program} {l : Launch} {e : Env} {R : Room} {s : State} {m : MethodId} {args : Array Value} {below : List Frame} {meth : Method} {c : Code} {T : State} {locs : List Loc} {cells slots : Nat} {G : Outcome → State → Prop} {pc pc' : Nat} {Ls : Array Slot} {rest : List Value}
theorem aloadN (X : Stand p l e R s m args below meth c T locs cells slots) (hx : p.tables.exec = Jvm.exec) {k : Fin 4} {v : Value} (hd : decode c.code pc = .ok (.aload_n k, 1)) (hl : Ls[k.val]? = some (.val v)) (hv : v.isRef = true) (K : Go p.tables e below G (T.setTop (mkF m (pc + 1) Ls (v :: rest)))) : Go p.tables e below G (T.setTop (mkF m (pc) Ls rest)) := K.via fun _ r => XS.aloadN X.here hx rfl hd hl hv r
theorem aload (X : Stand p l e R s m args below meth c T locs cells slots) (hx : p.tables.exec = Jvm.exec) {k : Nat} {v : Value} (hd : decode c.code pc = .ok (.aload k, 2)) (hl : Ls[k]? = some (.val v)) (hv : v.isRef = true) (K : Go p.tables e below G (T.setTop (mkF m (pc + 2) Ls (v :: rest)))) : Go p.tables e below G (T.setTop (mkF m (pc) Ls rest)) := K.via fun _ r => XS.aload X.here hx rfl hd hl hv r
theorem iloadN (X : Stand p l e R s m args below meth c T locs cells slots) (hx : p.tables.exec = Jvm.exec) {k : Fin 4} {v : Int32} (hd : decode c.code pc = .ok (.iload_n k, 1)) (hl : Ls[k.val]? = some (.val (.int v))) (K : Go p.tables e below G (T.setTop (mkF m (pc + 1) Ls (.int v :: rest)))) : Go p.tables e below G (T.setTop (mkF m (pc) Ls rest)) := K.via fun _ r => XS.iloadN X.here hx rfl hd hl r
theorem iload (X : Stand p l e R s m args below meth c T locs cells slots) (hx : p.tables.exec = Jvm.exec) {k : Nat} {v : Int32} (hd : decode c.code pc = .ok (.iload k, 2)) (hl : Ls[k]? = some (.val (.int v))) (K : Go p.tables e below G (T.setTop (mkF m (pc + 2) Ls (.int v :: rest)))) : Go p.tables e below G (T.setTop (mkF m (pc) Ls rest)) := K.via fun _ r => XS.iload X.here hx rfl hd hl r
theorem lloadN (X : Stand p l e R s m args below meth c T locs cells slots) (hx : p.tables.exec = Jvm.exec) {k : Fin 4} {v : Int64} (hd : decode c.code pc = .ok (.lload_n k, 1)) (hl : Ls[k.val]? = some (.val (.long v))) (K : Go p.tables e below G (T.setTop (mkF m (pc + 1) Ls (.long v :: rest)))) : Go p.tables e below G (T.setTop (mkF m (pc) Ls rest)) := K.via fun _ r => XT.lloadN X.here hx rfl hd hl r
theorem lload (X : Stand p l e R s m args below meth c T locs cells slots) (hx : p.tables.exec = Jvm.exec) {k : Nat} {v : Int64} (hd : decode c.code pc = .ok (.lload k, 2)) (hl : Ls[k]? = some (.val (.long v))) (K : Go p.tables e below G (T.setTop (mkF m (pc + 2) Ls (.long v :: rest)))) : Go p.tables e below G (T.setTop (mkF m (pc) Ls rest)) := K.via fun _ r => XT.lload X.here hx rfl hd hl r
theorem iconst (X : Stand p l e R s m args below meth c T locs cells slots) (hx : p.tables.exec = Jvm.exec) {i : Int} (v : Int32) (hd : decode c.code pc = .ok (.iconst i, 1)) (hv : Int32.ofInt i = v) (K : Go p.tables e below G (T.setTop (mkF m (pc + 1) Ls (.int v :: rest)))) : Go p.tables e below G (T.setTop (mkF m (pc) Ls rest)) := K.via fun _ r => XT.iconstV X.here hx rfl v hd hv r
theorem bipush (X : Stand p l e R s m args below meth c T locs cells slots) (hx : p.tables.exec = Jvm.exec) {i : Int} (v : Int32) (hd : decode c.code pc = .ok (.bipush i, 2)) (hv : (Int8.ofInt i).toInt32 = v) (K : Go p.tables e below G (T.setTop (mkF m (pc + 2) Ls (.int v :: rest)))) : Go p.tables e below G (T.setTop (mkF m (pc) Ls rest)) := K.via fun _ r => XT.bipushV X.here hx rfl v hd hv r
theorem sipush (X : Stand p l e R s m args below meth c T locs cells slots) (hx : p.tables.exec = Jvm.exec) {i : Int} (v : Int32) (hd : decode c.code pc = .ok (.sipush i, 3)) (hv : (Int16.ofInt i).toInt32 = v) (K : Go p.tables e below G (T.setTop (mkF m (pc + 3) Ls (.int v :: rest)))) : Go p.tables e below G (T.setTop (mkF m (pc) Ls rest)) := K.via fun _ r => XT.sipushV X.here hx rfl v hd hv r
theorem lconst (X : Stand p l e R s m args below meth c T locs cells slots) (hx : p.tables.exec = Jvm.exec) {k : Fin 2} (v : Int64) (hd : decode c.code pc = .ok (.lconst k, 1)) (hv : Int64.ofNat k = v) (K : Go p.tables e below G (T.setTop (mkF m (pc + 1) Ls (.long v :: rest)))) : Go p.tables e below G (T.setTop (mkF m (pc) Ls rest)) := K.via fun _ r => XT.lconstV X.here hx rfl v hd hv r
theorem aconst_null (X : Stand p l e R s m args below meth c T locs cells slots) (hx : p.tables.exec = Jvm.exec)  (hd : decode c.code pc = .ok (.aconst_null, 1))  (K : Go p.tables e below G (T.setTop (mkF m (pc + 1) Ls (.null :: rest)))) : Go p.tables e below G (T.setTop (mkF m (pc) Ls rest)) := K.via fun _ r => XS.aconstNull X.here hx rfl hd r
theorem ldcI (X : Stand p l e R s m args below meth c T locs cells slots) (hx : p.tables.exec = Jvm.exec) {own : String} {index : Nat} (v : Int32) (hd : decode c.code pc = .ok (.ldc index, 2)) (hown : s.vm.findClass own = some m.cls) (hc : (Cond.constant own index v).before args s = true) (K : Go p.tables e below G (T.setTop (mkF m (pc + 2) Ls (.int v :: rest)))) : Go p.tables e below G (T.setTop (mkF m (pc) Ls rest)) := K.via fun _ r => X.ldcI hx hown hc rfl hd r
theorem ldcWI (X : Stand p l e R s m args below meth c T locs cells slots) (hx : p.tables.exec = Jvm.exec) {own : String} {index : Nat} (v : Int32) (hd : decode c.code pc = .ok (.ldc_w index, 3)) (hown : s.vm.findClass own = some m.cls) (hc : (Cond.constant own index v).before args s = true) (K : Go p.tables e below G (T.setTop (mkF m (pc + 3) Ls (.int v :: rest)))) : Go p.tables e below G (T.setTop (mkF m (pc) Ls rest)) := K.via fun _ r => X.ldcWI hx hown hc rfl hd r
theorem ldc2J (X : Stand p l e R s m args below meth c T locs cells slots) (hx : p.tables.exec = Jvm.exec) {own : String} {index : Nat} (v : Int64) (hd : decode c.code pc = .ok (.ldc2_w index, 3)) (hown : s.vm.findClass own = some m.cls) (hc : (Cond.constantLong own index v).before args s = true) (K : Go p.tables e below G (T.setTop (mkF m (pc + 3) Ls (.long v :: rest)))) : Go p.tables e below G (T.setTop (mkF m (pc) Ls rest)) := K.via fun _ r => X.ldc2J hx hown hc rfl hd r
theorem iadd (X : Stand p l e R s m args below meth c T locs cells slots) (hx : p.tables.exec = Jvm.exec) {x y : Int32} (hd : decode c.code pc = .ok (.iadd, 1))  (K : Go p.tables e below G (T.setTop (mkF m (pc + 1) Ls (.int (x + y) :: rest)))) : Go p.tables e below G (T.setTop (mkF m (pc) Ls (.int y :: .int x :: rest))) := K.via fun _ r => XS.iadd X.here hx rfl hd rfl r
theorem isub (X : Stand p l e R s m args below meth c T locs cells slots) (hx : p.tables.exec = Jvm.exec) {x y : Int32} (hd : decode c.code pc = .ok (.isub, 1))  (K : Go p.tables e below G (T.setTop (mkF m (pc + 1) Ls (.int (x - y) :: rest)))) : Go p.tables e below G (T.setTop (mkF m (pc) Ls (.int y :: .int x :: rest))) := K.via fun _ r => XS.isub X.here hx rfl hd rfl r
theorem iand (X : Stand p l e R s m args below meth c T locs cells slots) (hx : p.tables.exec = Jvm.exec) {x y : Int32} (hd : decode c.code pc = .ok (.iand, 1))  (K : Go p.tables e below G (T.setTop (mkF m (pc + 1) Ls (.int (x &&& y) :: rest)))) : Go p.tables e below G (T.setTop (mkF m (pc) Ls (.int y :: .int x :: rest))) := K.via fun _ r => XS.iand X.here hx rfl hd rfl r
theorem imul (X : Stand p l e R s m args below meth c T locs cells slots) (hx : p.tables.exec = Jvm.exec) {x y : Int32} (hd : decode c.code pc = .ok (.imul, 1))  (K : Go p.tables e below G (T.setTop (mkF m (pc + 1) Ls (.int (x * y) :: rest)))) : Go p.tables e below G (T.setTop (mkF m (pc) Ls (.int y :: .int x :: rest))) := K.via fun _ r => XS.imul X.here hx rfl hd rfl r
theorem ixor (X : Stand p l e R s m args below meth c T locs cells slots) (hx : p.tables.exec = Jvm.exec) {x y : Int32} (hd : decode c.code pc = .ok (.ixor, 1))  (K : Go p.tables e below G (T.setTop (mkF m (pc + 1) Ls (.int (x ^^^ y) :: rest)))) : Go p.tables e below G (T.setTop (mkF m (pc) Ls (.int y :: .int x :: rest))) := K.via fun _ r => XT.ixor X.here hx rfl hd rfl r
theorem ior (X : Stand p l e R s m args below meth c T locs cells slots) (hx : p.tables.exec = Jvm.exec) {x y : Int32} (hd : decode c.code pc = .ok (.ior, 1))  (K : Go p.tables e below G (T.setTop (mkF m (pc + 1) Ls (.int (x ||| y) :: rest)))) : Go p.tables e below G (T.setTop (mkF m (pc) Ls (.int y :: .int x :: rest))) := K.via fun _ r => XT.ior X.here hx rfl hd rfl r
theorem ishl (X : Stand p l e R s m args below meth c T locs cells slots) (hx : p.tables.exec = Jvm.exec) {x y : Int32} (hd : decode c.code pc = .ok (.ishl, 1))  (K : Go p.tables e below G (T.setTop (mkF m (pc + 1) Ls (.int (x <<< (y &&& 31)) :: rest)))) : Go p.tables e below G (T.setTop (mkF m (pc) Ls (.int y :: .int x :: rest))) := K.via fun _ r => XT.ishl X.here hx rfl hd rfl r
theorem ishr (X : Stand p l e R s m args below meth c T locs cells slots) (hx : p.tables.exec = Jvm.exec) {x y : Int32} (hd : decode c.code pc = .ok (.ishr, 1))  (K : Go p.tables e below G (T.setTop (mkF m (pc + 1) Ls (.int (x >>> (y &&& 31)) :: rest)))) : Go p.tables e below G (T.setTop (mkF m (pc) Ls (.int y :: .int x :: rest))) := K.via fun _ r => XT.ishr X.here hx rfl hd rfl r
theorem iushr (X : Stand p l e R s m args below meth c T locs cells slots) (hx : p.tables.exec = Jvm.exec) {x y : Int32} (hd : decode c.code pc = .ok (.iushr, 1))  (K : Go p.tables e below G (T.setTop (mkF m (pc + 1) Ls (.int (XT.ushr x y) :: rest)))) : Go p.tables e below G (T.setTop (mkF m (pc) Ls (.int y :: .int x :: rest))) := K.via fun _ r => XT.iushr X.here hx rfl hd rfl r
theorem idiv (X : Stand p l e R s m args below meth c T locs cells slots) (hx : p.tables.exec = Jvm.exec) {x y : Int32} (hd : decode c.code pc = .ok (.idiv, 1)) (hy : y ≠ 0) (K : Go p.tables e below G (T.setTop (mkF m (pc + 1) Ls (.int (x / y) :: rest)))) : Go p.tables e below G (T.setTop (mkF m (pc) Ls (.int y :: .int x :: rest))) := K.via fun _ r => XS.idiv X.here hx rfl hd rfl hy r
theorem irem (X : Stand p l e R s m args below meth c T locs cells slots) (hx : p.tables.exec = Jvm.exec) {x y : Int32} (hd : decode c.code pc = .ok (.irem, 1)) (hy : y ≠ 0) (K : Go p.tables e below G (T.setTop (mkF m (pc + 1) Ls (.int (x % y) :: rest)))) : Go p.tables e below G (T.setTop (mkF m (pc) Ls (.int y :: .int x :: rest))) := K.via fun _ r => RoadKit.iremM X hx rfl hd rfl hy r
theorem ineg (X : Stand p l e R s m args below meth c T locs cells slots) (hx : p.tables.exec = Jvm.exec) {x : Int32} (hd : decode c.code pc = .ok (.ineg, 1))  (K : Go p.tables e below G (T.setTop (mkF m (pc + 1) Ls (.int (-x) :: rest)))) : Go p.tables e below G (T.setTop (mkF m (pc) Ls (.int x :: rest))) := K.via fun _ r => XS.ineg X.here hx rfl hd rfl r
theorem ladd (X : Stand p l e R s m args below meth c T locs cells slots) (hx : p.tables.exec = Jvm.exec) {x y : Int64} (hd : decode c.code pc = .ok (.ladd, 1))  (K : Go p.tables e below G (T.setTop (mkF m (pc + 1) Ls (.long (x + y) :: rest)))) : Go p.tables e below G (T.setTop (mkF m (pc) Ls (.long y :: .long x :: rest))) := K.via fun _ r => XT.ladd X.here hx rfl hd rfl r
theorem lsub (X : Stand p l e R s m args below meth c T locs cells slots) (hx : p.tables.exec = Jvm.exec) {x y : Int64} (hd : decode c.code pc = .ok (.lsub, 1))  (K : Go p.tables e below G (T.setTop (mkF m (pc + 1) Ls (.long (x - y) :: rest)))) : Go p.tables e below G (T.setTop (mkF m (pc) Ls (.long y :: .long x :: rest))) := K.via fun _ r => XT.lsub X.here hx rfl hd rfl r
theorem lmul (X : Stand p l e R s m args below meth c T locs cells slots) (hx : p.tables.exec = Jvm.exec) {x y : Int64} (hd : decode c.code pc = .ok (.lmul, 1))  (K : Go p.tables e below G (T.setTop (mkF m (pc + 1) Ls (.long (x * y) :: rest)))) : Go p.tables e below G (T.setTop (mkF m (pc) Ls (.long y :: .long x :: rest))) := K.via fun _ r => XT.lmul X.here hx rfl hd rfl r
theorem land (X : Stand p l e R s m args below meth c T locs cells slots) (hx : p.tables.exec = Jvm.exec) {x y : Int64} (hd : decode c.code pc = .ok (.land, 1))  (K : Go p.tables e below G (T.setTop (mkF m (pc + 1) Ls (.long (x &&& y) :: rest)))) : Go p.tables e below G (T.setTop (mkF m (pc) Ls (.long y :: .long x :: rest))) := K.via fun _ r => XT.land X.here hx rfl hd rfl r
theorem lor (X : Stand p l e R s m args below meth c T locs cells slots) (hx : p.tables.exec = Jvm.exec) {x y : Int64} (hd : decode c.code pc = .ok (.lor, 1))  (K : Go p.tables e below G (T.setTop (mkF m (pc + 1) Ls (.long (x ||| y) :: rest)))) : Go p.tables e below G (T.setTop (mkF m (pc) Ls (.long y :: .long x :: rest))) := K.via fun _ r => XT.lor X.here hx rfl hd rfl r
theorem lxor (X : Stand p l e R s m args below meth c T locs cells slots) (hx : p.tables.exec = Jvm.exec) {x y : Int64} (hd : decode c.code pc = .ok (.lxor, 1))  (K : Go p.tables e below G (T.setTop (mkF m (pc + 1) Ls (.long (x ^^^ y) :: rest)))) : Go p.tables e below G (T.setTop (mkF m (pc) Ls (.long y :: .long x :: rest))) := K.via fun _ r => XT.lxor X.here hx rfl hd rfl r
theorem ldiv (X : Stand p l e R s m args below meth c T locs cells slots) (hx : p.tables.exec = Jvm.exec) {x y : Int64} (hd : decode c.code pc = .ok (.ldiv, 1)) (hy : y ≠ 0) (K : Go p.tables e below G (T.setTop (mkF m (pc + 1) Ls (.long (x / y) :: rest)))) : Go p.tables e below G (T.setTop (mkF m (pc) Ls (.long y :: .long x :: rest))) := K.via fun _ r => XT.ldiv X.here hx rfl hd rfl hy r
theorem lrem (X : Stand p l e R s m args below meth c T locs cells slots) (hx : p.tables.exec = Jvm.exec) {x y : Int64} (hd : decode c.code pc = .ok (.lrem, 1)) (hy : y ≠ 0) (K : Go p.tables e below G (T.setTop (mkF m (pc + 1) Ls (.long (x - (x / y) * y) :: rest)))) : Go p.tables e below G (T.setTop (mkF m (pc) Ls (.long y :: .long x :: rest))) := K.via fun _ r => XT.lrem X.here hx rfl hd rfl hy r
theorem lshl (X : Stand p l e R s m args below meth c T locs cells slots) (hx : p.tables.exec = Jvm.exec) {x : Int64} {y : Int32} (hd : decode c.code pc = .ok (.lshl, 1))  (K : Go p.tables e below G (T.setTop (mkF m (pc + 1) Ls (.long (x <<< (y.toInt64 &&& 63)) :: rest)))) : Go p.tables e below G (T.setTop (mkF m (pc) Ls (.int y :: .long x :: rest))) := K.via fun _ r => XT.lshl X.here hx rfl hd rfl r
theorem lshr (X : Stand p l e R s m args below meth c T locs cells slots) (hx : p.tables.exec = Jvm.exec) {x : Int64} {y : Int32} (hd : decode c.code pc = .ok (.lshr, 1))  (K : Go p.tables e below G (T.setTop (mkF m (pc + 1) Ls (.long (x >>> (y.toInt64 &&& 63)) :: rest)))) : Go p.tables e below G (T.setTop (mkF m (pc) Ls (.int y :: .long x :: rest))) := K.via fun _ r => XT.lshr X.here hx rfl hd rfl r
theorem lushr (X : Stand p l e R s m args below meth c T locs cells slots) (hx : p.tables.exec = Jvm.exec) {x : Int64} {y : Int32} (hd : decode c.code pc = .ok (.lushr, 1))  (K : Go p.tables e below G (T.setTop (mkF m (pc + 1) Ls (.long (XT.ushrL x y) :: rest)))) : Go p.tables e below G (T.setTop (mkF m (pc) Ls (.int y :: .long x :: rest))) := K.via fun _ r => XT.lushr X.here hx rfl hd rfl r
theorem lneg (X : Stand p l e R s m args below meth c T locs cells slots) (hx : p.tables.exec = Jvm.exec) {x : Int64} (hd : decode c.code pc = .ok (.lneg, 1))  (K : Go p.tables e below G (T.setTop (mkF m (pc + 1) Ls (.long (-x) :: rest)))) : Go p.tables e below G (T.setTop (mkF m (pc) Ls (.long x :: rest))) := K.via fun _ r => XT.lneg X.here hx rfl hd rfl r
theorem lcmp (X : Stand p l e R s m args below meth c T locs cells slots) (hx : p.tables.exec = Jvm.exec) {x y : Int64} (hd : decode c.code pc = .ok (.lcmp, 1))  (K : Go p.tables e below G (T.setTop (mkF m (pc + 1) Ls (.int (XT.cmpL x y) :: rest)))) : Go p.tables e below G (T.setTop (mkF m (pc) Ls (.long y :: .long x :: rest))) := K.via fun _ r => XT.lcmp X.here hx rfl hd rfl r
theorem i2l (X : Stand p l e R s m args below meth c T locs cells slots) (hx : p.tables.exec = Jvm.exec) {x : Int32} (hd : decode c.code pc = .ok (.i2l, 1))  (K : Go p.tables e below G (T.setTop (mkF m (pc + 1) Ls (.long (x.toInt64) :: rest)))) : Go p.tables e below G (T.setTop (mkF m (pc) Ls (.int x :: rest))) := K.via fun _ r => XT.i2l X.here hx rfl hd rfl r
theorem l2i (X : Stand p l e R s m args below meth c T locs cells slots) (hx : p.tables.exec = Jvm.exec) {x : Int64} (hd : decode c.code pc = .ok (.l2i, 1))  (K : Go p.tables e below G (T.setTop (mkF m (pc + 1) Ls (.int (x.toInt32) :: rest)))) : Go p.tables e below G (T.setTop (mkF m (pc) Ls (.long x :: rest))) := K.via fun _ r => XT.l2i X.here hx rfl hd rfl r
theorem i2b (X : Stand p l e R s m args below meth c T locs cells slots) (hx : p.tables.exec = Jvm.exec) {x : Int32} (hd : decode c.code pc = .ok (.i2b, 1))  (K : Go p.tables e below G (T.setTop (mkF m (pc + 1) Ls (.int (x.toInt8.toInt32) :: rest)))) : Go p.tables e below G (T.setTop (mkF m (pc) Ls (.int x :: rest))) := K.via fun _ r => XT.i2b X.here hx rfl hd rfl r
theorem i2c (X : Stand p l e R s m args below meth c T locs cells slots) (hx : p.tables.exec = Jvm.exec) {x : Int32} (hd : decode c.code pc = .ok (.i2c, 1))  (K : Go p.tables e below G (T.setTop (mkF m (pc + 1) Ls (.int (x.toUInt32.toUInt16.toUInt32.toInt32) :: rest)))) : Go p.tables e below G (T.setTop (mkF m (pc) Ls (.int x :: rest))) := K.via fun _ r => XT.i2c X.here hx rfl hd rfl r
theorem i2s (X : Stand p l e R s m args below meth c T locs cells slots) (hx : p.tables.exec = Jvm.exec) {x : Int32} (hd : decode c.code pc = .ok (.i2s, 1))  (K : Go p.tables e below G (T.setTop (mkF m (pc + 1) Ls (.int (x.toInt16.toInt32) :: rest)))) : Go p.tables e below G (T.setTop (mkF m (pc) Ls (.int x :: rest))) := K.via fun _ r => XT.i2s X.here hx rfl hd rfl r
theorem dup (X : Stand p l e R s m args below meth c T locs cells slots) (hx : p.tables.exec = Jvm.exec) {v : Value} (hd : decode c.code pc = .ok (.dup, 1)) (hv : v.category = 1) (K : Go p.tables e below G (T.setTop (mkF m (pc + 1) Ls (v :: v :: rest)))) : Go p.tables e below G (T.setTop (mkF m (pc) Ls (v :: rest))) := K.via fun _ r => XS.dup X.here hx rfl hd rfl hv r
theorem pop (X : Stand p l e R s m args below meth c T locs cells slots) (hx : p.tables.exec = Jvm.exec) {v : Value} (hd : decode c.code pc = .ok (.pop, 1)) (hv : v.category = 1) (K : Go p.tables e below G (T.setTop (mkF m (pc + 1) Ls rest))) : Go p.tables e below G (T.setTop (mkF m (pc) Ls (v :: rest))) := K.via fun _ r => XT.pop X.here hx rfl hd rfl hv r
theorem dup_x1 (X : Stand p l e R s m args below meth c T locs cells slots) (hx : p.tables.exec = Jvm.exec) {v w : Value} (hd : decode c.code pc = .ok (.dup_x1, 1)) (hv : v.category = 1) (hw : w.category = 1) (K : Go p.tables e below G (T.setTop (mkF m (pc + 1) Ls (v :: w :: v :: rest)))) : Go p.tables e below G (T.setTop (mkF m (pc) Ls (v :: w :: rest))) := K.via fun _ r => XT.dupX1 X.here hx rfl hd rfl hv hw r
theorem dup2 (X : Stand p l e R s m args below meth c T locs cells slots) (hx : p.tables.exec = Jvm.exec) {v w : Value} (hd : decode c.code pc = .ok (.dup2, 1)) (hv : v.category = 1) (hw : w.category = 1) (K : Go p.tables e below G (T.setTop (mkF m (pc + 1) Ls (v :: w :: v :: w :: rest)))) : Go p.tables e below G (T.setTop (mkF m (pc) Ls (v :: w :: rest))) := K.via fun _ r => XT.dup2 X.here hx rfl hd rfl hv hw r
theorem dup2L (X : Stand p l e R s m args below meth c T locs cells slots) (hx : p.tables.exec = Jvm.exec) {x : Int64} (hd : decode c.code pc = .ok (.dup2, 1))  (K : Go p.tables e below G (T.setTop (mkF m (pc + 1) Ls (.long x :: .long x :: rest)))) : Go p.tables e below G (T.setTop (mkF m (pc) Ls (.long x :: rest))) := K.via fun _ r => XT.dup2L X.here hx rfl hd rfl r
theorem istoreN (X : Stand p l e R s m args below meth c T locs cells slots) (hx : p.tables.exec = Jvm.exec) {k : Fin 4} {x : Int32} (L2 : Array Slot) (hd : decode c.code pc = .ok (.istore_n k, 1))  (hl : storeLocals Ls k.val (.int x) = some L2) (K : Go p.tables e below G (T.setTop (mkF m (pc + 1) L2 rest))) : Go p.tables e below G (T.setTop (mkF m (pc) Ls ((.int x) :: rest))) := K.via fun _ r => XS.istoreN X.here hx rfl hd rfl hl r
theorem istore (X : Stand p l e R s m args below meth c T locs cells slots) (hx : p.tables.exec = Jvm.exec) {k : Nat} {x : Int32} (L2 : Array Slot) (hd : decode c.code pc = .ok (.istore k, 2))  (hl : storeLocals Ls k (.int x) = some L2) (K : Go p.tables e below G (T.setTop (mkF m (pc + 2) L2 rest))) : Go p.tables e below G (T.setTop (mkF m (pc) Ls ((.int x) :: rest))) := K.via fun _ r => XS.istore X.here hx rfl hd rfl hl r
theorem astoreN (X : Stand p l e R s m args below meth c T locs cells slots) (hx : p.tables.exec = Jvm.exec) {k : Fin 4} {v : Value} (L2 : Array Slot) (hd : decode c.code pc = .ok (.astore_n k, 1)) (hv : v.isRef = true) (hl : storeLocals Ls k.val v = some L2) (K : Go p.tables e below G (T.setTop (mkF m (pc + 1) L2 rest))) : Go p.tables e below G (T.setTop (mkF m (pc) Ls (v :: rest))) := K.via fun _ r => XS.astoreN X.here hx rfl hd rfl hv hl r
theorem astore (X : Stand p l e R s m args below meth c T locs cells slots) (hx : p.tables.exec = Jvm.exec) {k : Nat} {v : Value} (L2 : Array Slot) (hd : decode c.code pc = .ok (.astore k, 2)) (hv : v.isRef = true) (hl : storeLocals Ls k v = some L2) (K : Go p.tables e below G (T.setTop (mkF m (pc + 2) L2 rest))) : Go p.tables e below G (T.setTop (mkF m (pc) Ls (v :: rest))) := K.via fun _ r => XS.astore X.here hx rfl hd rfl hv hl r
theorem lstoreN (X : Stand p l e R s m args below meth c T locs cells slots) (hx : p.tables.exec = Jvm.exec) {k : Fin 4} {x : Int64} (L2 : Array Slot) (hd : decode c.code pc = .ok (.lstore_n k, 1))  (hl : storeLocals Ls k.val (.long x) = some L2) (K : Go p.tables e below G (T.setTop (mkF m (pc + 1) L2 rest))) : Go p.tables e below G (T.setTop (mkF m (pc) Ls ((.long x) :: rest))) := K.via fun _ r => XT.lstoreN X.here hx rfl hd rfl hl r
theorem lstore (X : Stand p l e R s m args below meth c T locs cells slots) (hx : p.tables.exec = Jvm.exec) {k : Nat} {x : Int64} (L2 : Array Slot) (hd : decode c.code pc = .ok (.lstore k, 2))  (hl : storeLocals Ls k (.long x) = some L2) (K : Go p.tables e below G (T.setTop (mkF m (pc + 2) L2 rest))) : Go p.tables e below G (T.setTop (mkF m (pc) Ls ((.long x) :: rest))) := K.via fun _ r => XT.lstore X.here hx rfl hd rfl hl r
theorem iinc (X : Stand p l e R s m args below meth c T locs cells slots) (hx : p.tables.exec = Jvm.exec) {k : Nat} {cst : Int} {x : Int32} (v : Int32) (L2 : Array Slot) (hd : decode c.code pc = .ok (.iinc k cst, 3)) (hv : Int32.ofInt cst = v) (hl : Ls[k]? = some (.val (.int x))) (hl' : storeLocals Ls k (.int (x + v)) = some L2) (K : Go p.tables e below G (T.setTop (mkF m (pc + 3) L2 rest))) : Go p.tables e below G (T.setTop (mkF m (pc) Ls rest)) := K.via fun _ r => XT.iincV X.here hx rfl v hd hv hl hl' r
theorem goto (X : Stand p l e R s m args below meth c T locs cells slots) (hx : p.tables.exec = Jvm.exec) {o : Int} (hd : decode c.code pc = .ok (.goto o, 3)) (ho : 0 ≤ (pc : Int) + o) (hp : ((pc : Int) + o).toNat = pc') (K : Go p.tables e below G (T.setTop (mkF m (pc') Ls rest))) : Go p.tables e below G (T.setTop (mkF m (pc) Ls rest)) := K.via fun _ r => XS.goto X.here hx rfl rfl hd ho hp r
theorem if_eq (X : Stand p l e R s m args below meth c T locs cells slots) (hx : p.tables.exec = Jvm.exec) {x : Int32} {o : Int} (hd : decode c.code pc = .ok (.ifCond .eq o, 3)) (ho : 0 ≤ (pc : Int) + o) (hp : ((pc : Int) + o).toNat = pc') (KT : x = 0 → Go p.tables e below G (T.setTop (mkF m (pc') Ls rest))) (KF : ¬ x = 0 → Go p.tables e below G (T.setTop (mkF m (pc + 3) Ls rest))) : Go p.tables e below G (T.setTop (mkF m (pc) Ls (.int x :: rest))) := by
  by_cases h : x = 0
  · exact (KT h).via fun _ r => XS.ifYes X.here hx rfl rfl hd rfl (XT.i0_eq_t h) ho hp r
  · exact (KF h).via fun _ r => XS.ifNo X.here hx rfl hd rfl (XT.i0_eq_f h) r
theorem if_ne (X : Stand p l e R s m args below meth c T locs cells slots) (hx : p.tables.exec = Jvm.exec) {x : Int32} {o : Int} (hd : decode c.code pc = .ok (.ifCond .ne o, 3)) (ho : 0 ≤ (pc : Int) + o) (hp : ((pc : Int) + o).toNat = pc') (KT : ¬ x = 0 → Go p.tables e below G (T.setTop (mkF m (pc') Ls rest))) (KF : x = 0 → Go p.tables e below G (T.setTop (mkF m (pc + 3) Ls rest))) : Go p.tables e below G (T.setTop (mkF m (pc) Ls (.int x :: rest))) := by
  by_cases h : x = 0
  · exact (KF h).via fun _ r => XS.ifNo X.here hx rfl hd rfl (XT.i0_ne_f h) r
  · exact (KT h).via fun _ r => XS.ifYes X.here hx rfl rfl hd rfl (XT.i0_ne_t h) ho hp r
theorem if_lt (X : Stand p l e R s m args below meth c T locs cells slots) (hx : p.tables.exec = Jvm.exec) {x : Int32} {o : Int} (hd : decode c.code pc = .ok (.ifCond .lt o, 3)) (ho : 0 ≤ (pc : Int) + o) (hp : ((pc : Int) + o).toNat = pc') (KT : x < 0 → Go p.tables e below G (T.setTop (mkF m (pc') Ls rest))) (KF : ¬ x < 0 → Go p.tables e below G (T.setTop (mkF m (pc + 3) Ls rest))) : Go p.tables e below G (T.setTop (mkF m (pc) Ls (.int x :: rest))) := by
  by_cases h : x < 0
  · exact (KT h).via fun _ r => XS.ifYes X.here hx rfl rfl hd rfl (XT.i0_lt_t h) ho hp r
  · exact (KF h).via fun _ r => XS.ifNo X.here hx rfl hd rfl (XT.i0_lt_f h) r
theorem if_ge (X : Stand p l e R s m args below meth c T locs cells slots) (hx : p.tables.exec = Jvm.exec) {x : Int32} {o : Int} (hd : decode c.code pc = .ok (.ifCond .ge o, 3)) (ho : 0 ≤ (pc : Int) + o) (hp : ((pc : Int) + o).toNat = pc') (KT : ¬ x < 0 → Go p.tables e below G (T.setTop (mkF m (pc') Ls rest))) (KF : x < 0 → Go p.tables e below G (T.setTop (mkF m (pc + 3) Ls rest))) : Go p.tables e below G (T.setTop (mkF m (pc) Ls (.int x :: rest))) := by
  by_cases h : x < 0
  · exact (KF h).via fun _ r => XS.ifNo X.here hx rfl hd rfl (XT.i0_ge_f h) r
  · exact (KT h).via fun _ r => XS.ifYes X.here hx rfl rfl hd rfl (XT.i0_ge_t h) ho hp r
theorem if_gt (X : Stand p l e R s m args below meth c T locs cells slots) (hx : p.tables.exec = Jvm.exec) {x : Int32} {o : Int} (hd : decode c.code pc = .ok (.ifCond .gt o, 3)) (ho : 0 ≤ (pc : Int) + o) (hp : ((pc : Int) + o).toNat = pc') (KT : 0 < x → Go p.tables e below G (T.setTop (mkF m (pc') Ls rest))) (KF : ¬ 0 < x → Go p.tables e below G (T.setTop (mkF m (pc + 3) Ls rest))) : Go p.tables e below G (T.setTop (mkF m (pc) Ls (.int x :: rest))) := by
  by_cases h : 0 < x
  · exact (KT h).via fun _ r => XS.ifYes X.here hx rfl rfl hd rfl (XT.i0_gt_t h) ho hp r
  · exact (KF h).via fun _ r => XS.ifNo X.here hx rfl hd rfl (XT.i0_gt_f h) r
theorem if_le (X : Stand p l e R s m args below meth c T locs cells slots) (hx : p.tables.exec = Jvm.exec) {x : Int32} {o : Int} (hd : decode c.code pc = .ok (.ifCond .le o, 3)) (ho : 0 ≤ (pc : Int) + o) (hp : ((pc : Int) + o).toNat = pc') (KT : ¬ 0 < x → Go p.tables e below G (T.setTop (mkF m (pc') Ls rest))) (KF : 0 < x → Go p.tables e below G (T.setTop (mkF m (pc + 3) Ls rest))) : Go p.tables e below G (T.setTop (mkF m (pc) Ls (.int x :: rest))) := by
  by_cases h : 0 < x
  · exact (KF h).via fun _ r => XS.ifNo X.here hx rfl hd rfl (XT.i0_le_f h) r
  · exact (KT h).via fun _ r => XS.ifYes X.here hx rfl rfl hd rfl (XT.i0_le_t h) ho hp r
theorem icmp_eq (X : Stand p l e R s m args below meth c T locs cells slots) (hx : p.tables.exec = Jvm.exec) {x y : Int32} {o : Int} (hd : decode c.code pc = .ok (.if_icmp .eq o, 3)) (ho : 0 ≤ (pc : Int) + o) (hp : ((pc : Int) + o).toNat = pc') (KT : x = y → Go p.tables e below G (T.setTop (mkF m (pc') Ls rest))) (KF : ¬ x = y → Go p.tables e below G (T.setTop (mkF m (pc + 3) Ls rest))) : Go p.tables e below G (T.setTop (mkF m (pc) Ls (.int y :: .int x :: rest))) := by
  by_cases h : x = y
  · exact (KT h).via fun _ r => XS.icmpYes X.here hx rfl rfl hd rfl (XT.ii_eq_t h) ho hp r
  · exact (KF h).via fun _ r => XS.icmpNo X.here hx rfl hd rfl (XT.ii_eq_f h) r
theorem icmp_ne (X : Stand p l e R s m args below meth c T locs cells slots) (hx : p.tables.exec = Jvm.exec) {x y : Int32} {o : Int} (hd : decode c.code pc = .ok (.if_icmp .ne o, 3)) (ho : 0 ≤ (pc : Int) + o) (hp : ((pc : Int) + o).toNat = pc') (KT : ¬ x = y → Go p.tables e below G (T.setTop (mkF m (pc') Ls rest))) (KF : x = y → Go p.tables e below G (T.setTop (mkF m (pc + 3) Ls rest))) : Go p.tables e below G (T.setTop (mkF m (pc) Ls (.int y :: .int x :: rest))) := by
  by_cases h : x = y
  · exact (KF h).via fun _ r => XS.icmpNo X.here hx rfl hd rfl (XT.ii_ne_f h) r
  · exact (KT h).via fun _ r => XS.icmpYes X.here hx rfl rfl hd rfl (XT.ii_ne_t h) ho hp r
theorem icmp_lt (X : Stand p l e R s m args below meth c T locs cells slots) (hx : p.tables.exec = Jvm.exec) {x y : Int32} {o : Int} (hd : decode c.code pc = .ok (.if_icmp .lt o, 3)) (ho : 0 ≤ (pc : Int) + o) (hp : ((pc : Int) + o).toNat = pc') (KT : x < y → Go p.tables e below G (T.setTop (mkF m (pc') Ls rest))) (KF : ¬ x < y → Go p.tables e below G (T.setTop (mkF m (pc + 3) Ls rest))) : Go p.tables e below G (T.setTop (mkF m (pc) Ls (.int y :: .int x :: rest))) := by
  by_cases h : x < y
  · exact (KT h).via fun _ r => XS.icmpYes X.here hx rfl rfl hd rfl (XT.ii_lt_t h) ho hp r
  · exact (KF h).via fun _ r => XS.icmpNo X.here hx rfl hd rfl (XT.ii_lt_f h) r
theorem icmp_ge (X : Stand p l e R s m args below meth c T locs cells slots) (hx : p.tables.exec = Jvm.exec) {x y : Int32} {o : Int} (hd : decode c.code pc = .ok (.if_icmp .ge o, 3)) (ho : 0 ≤ (pc : Int) + o) (hp : ((pc : Int) + o).toNat = pc') (KT : ¬ x < y → Go p.tables e below G (T.setTop (mkF m (pc') Ls rest))) (KF : x < y → Go p.tables e below G (T.setTop (mkF m (pc + 3) Ls rest))) : Go p.tables e below G (T.setTop (mkF m (pc) Ls (.int y :: .int x :: rest))) := by
  by_cases h : x < y
  · exact (KF h).via fun _ r => XS.icmpNo X.here hx rfl hd rfl (XT.ii_ge_f h) r
  · exact (KT h).via fun _ r => XS.icmpYes X.here hx rfl rfl hd rfl (XT.ii_ge_t h) ho hp r
theorem icmp_gt (X : Stand p l e R s m args below meth c T locs cells slots) (hx : p.tables.exec = Jvm.exec) {x y : Int32} {o : Int} (hd : decode c.code pc = .ok (.if_icmp .gt o, 3)) (ho : 0 ≤ (pc : Int) + o) (hp : ((pc : Int) + o).toNat = pc') (KT : y < x → Go p.tables e below G (T.setTop (mkF m (pc') Ls rest))) (KF : ¬ y < x → Go p.tables e below G (T.setTop (mkF m (pc + 3) Ls rest))) : Go p.tables e below G (T.setTop (mkF m (pc) Ls (.int y :: .int x :: rest))) := by
  by_cases h : y < x
  · exact (KT h).via fun _ r => XS.icmpYes X.here hx rfl rfl hd rfl (XT.ii_gt_t h) ho hp r
  · exact (KF h).via fun _ r => XS.icmpNo X.here hx rfl hd rfl (XT.ii_gt_f h) r
theorem icmp_le (X : Stand p l e R s m args below meth c T locs cells slots) (hx : p.tables.exec = Jvm.exec) {x y : Int32} {o : Int} (hd : decode c.code pc = .ok (.if_icmp .le o, 3)) (ho : 0 ≤ (pc : Int) + o) (hp : ((pc : Int) + o).toNat = pc') (KT : ¬ y < x → Go p.tables e below G (T.setTop (mkF m (pc') Ls rest))) (KF : y < x → Go p.tables e below G (T.setTop (mkF m (pc + 3) Ls rest))) : Go p.tables e below G (T.setTop (mkF m (pc) Ls (.int y :: .int x :: rest))) := by
  by_cases h : y < x
  · exact (KF h).via fun _ r => XS.icmpNo X.here hx rfl hd rfl (XT.ii_le_f h) r
  · exact (KT h).via fun _ r => XS.icmpYes X.here hx rfl rfl hd rfl (XT.ii_le_t h) ho hp r
theorem ifnull_n (X : Stand p l e R s m args below meth c T locs cells slots) (hx : p.tables.exec = Jvm.exec) {o : Int} (hd : decode c.code pc = .ok (.ifnull o, 3)) (ho : 0 ≤ (pc : Int) + o) (hp : ((pc : Int) + o).toNat = pc') (K : Go p.tables e below G (T.setTop (mkF m (pc') Ls rest))) : Go p.tables e below G (T.setTop (mkF m (pc) Ls (.null :: rest))) := K.via fun _ r => XS.ifnullYes X.here hx rfl rfl hd rfl ho hp r
theorem ifnull_r (X : Stand p l e R s m args below meth c T locs cells slots) (hx : p.tables.exec = Jvm.exec) {o : Int} {b : Addr} (hd : decode c.code pc = .ok (.ifnull o, 3)) (K : Go p.tables e below G (T.setTop (mkF m (pc + 3) Ls rest))) : Go p.tables e below G (T.setTop (mkF m (pc) Ls (.ref b :: rest))) := K.via fun _ r => XS.ifnullNo X.here hx rfl hd rfl r
theorem ifnonnull_r (X : Stand p l e R s m args below meth c T locs cells slots) (hx : p.tables.exec = Jvm.exec) {o : Int} {b : Addr} (hd : decode c.code pc = .ok (.ifnonnull o, 3)) (ho : 0 ≤ (pc : Int) + o) (hp : ((pc : Int) + o).toNat = pc') (K : Go p.tables e below G (T.setTop (mkF m (pc') Ls rest))) : Go p.tables e below G (T.setTop (mkF m (pc) Ls (.ref b :: rest))) := K.via fun _ r => XT.ifnonnullYes X.here hx rfl rfl hd rfl ho hp r
theorem ifnonnull_n (X : Stand p l e R s m args below meth c T locs cells slots) (hx : p.tables.exec = Jvm.exec) {o : Int} (hd : decode c.code pc = .ok (.ifnonnull o, 3)) (K : Go p.tables e below G (T.setTop (mkF m (pc + 3) Ls rest))) : Go p.tables e below G (T.setTop (mkF m (pc) Ls (.null :: rest))) := K.via fun _ r => XT.ifnonnullNo X.here hx rfl hd rfl r
theorem acmp_eq (X : Stand p l e R s m args below meth c T locs cells slots) (hx : p.tables.exec = Jvm.exec) {v w : Value} {o : Int} (hd : decode c.code pc = .ok (.if_acmp .eq o, 3)) (h1 : v.isRef = true) (h2 : w.isRef = true) (ho : 0 ≤ (pc : Int) + o) (hp : ((pc : Int) + o).toNat = pc') (KT : v = w → Go p.tables e below G (T.setTop (mkF m (pc') Ls rest))) (KF : ¬ v = w → Go p.tables e below G (T.setTop (mkF m (pc + 3) Ls rest))) : Go p.tables e below G (T.setTop (mkF m (pc) Ls (w :: v :: rest))) := by
  by_cases h : v = w
  · exact (KT h).via fun _ r => XT.acmpYes X.here hx rfl rfl hd rfl h1 h2 (XT.aa_eq_t h) ho hp r
  · exact (KF h).via fun _ r => XT.acmpNo X.here hx rfl hd rfl h1 h2 (XT.aa_eq_f h) r
theorem acmp_ne (X : Stand p l e R s m args below meth c T locs cells slots) (hx : p.tables.exec = Jvm.exec) {v w : Value} {o : Int} (hd : decode c.code pc = .ok (.if_acmp .ne o, 3)) (h1 : v.isRef = true) (h2 : w.isRef = true) (ho : 0 ≤ (pc : Int) + o) (hp : ((pc : Int) + o).toNat = pc') (KT : ¬ v = w → Go p.tables e below G (T.setTop (mkF m (pc') Ls rest))) (KF : v = w → Go p.tables e below G (T.setTop (mkF m (pc + 3) Ls rest))) : Go p.tables e below G (T.setTop (mkF m (pc) Ls (w :: v :: rest))) := by
  by_cases h : v = w
  · exact (KF h).via fun _ r => XT.acmpNo X.here hx rfl hd rfl h1 h2 (XT.aa_ne_f h) r
  · exact (KT h).via fun _ r => XT.acmpYes X.here hx rfl rfl hd rfl h1 h2 (XT.aa_ne_t h) ho hp r
theorem iaload (X : Stand p l e R s m args below meth c T locs cells slots) (hx : p.tables.exec = Jvm.exec) {Z : State} {h : Heap} (hZ : Z.Warmed39 s.vm) (eT : T.heap = h) {a : Addr} {cell : Cell} {j : Int32} (v : Value) (A : Arr Z h a cell .int) (hin : ¬ (j < 0 ∨ cell.slots.size ≤ j.toNatClampNeg)) (hv : cell.slots[j.toNatClampNeg]? = some v) (hd : decode c.code pc = .ok (.iaload, 1)) (K : Go p.tables e below G (T.setTop (mkF m (pc + 1) Ls (v :: rest)))) : Go p.tables e below G (T.setTop (mkF m (pc) Ls (.int j :: .ref a :: rest))) := K.via fun t r => X.iaload hx (g := mkF m pc Ls (.int j :: .ref a :: rest)) (by rw [eT]; exact A.1) (State.isArrayOf_alike hZ.alike A.2.1) A.2.2 hin hv rfl rfl hd t r
theorem caload (X : Stand p l e R s m args below meth c T locs cells slots) (hx : p.tables.exec = Jvm.exec) {Z : State} {h : Heap} (hZ : Z.Warmed39 s.vm) (eT : T.heap = h) {a : Addr} {cell : Cell} {j : Int32} (v : Value) (A : Arr Z h a cell .char) (hin : ¬ (j < 0 ∨ cell.slots.size ≤ j.toNatClampNeg)) (hv : cell.slots[j.toNatClampNeg]? = some v) (hd : decode c.code pc = .ok (.caload, 1)) (K : Go p.tables e below G (T.setTop (mkF m (pc + 1) Ls (v :: rest)))) : Go p.tables e below G (T.setTop (mkF m (pc) Ls (.int j :: .ref a :: rest))) := K.via fun t r => X.caload hx (g := mkF m pc Ls (.int j :: .ref a :: rest)) (by rw [eT]; exact A.1) (State.isArrayOf_alike hZ.alike A.2.1) A.2.2 hin hv rfl rfl hd t r
theorem laload (X : Stand p l e R s m args below meth c T locs cells slots) (hx : p.tables.exec = Jvm.exec) {Z : State} {h : Heap} (hZ : Z.Warmed39 s.vm) (eT : T.heap = h) {a : Addr} {cell : Cell} {j : Int32} (v : Value) (A : Arr Z h a cell .long) (hin : ¬ (j < 0 ∨ cell.slots.size ≤ j.toNatClampNeg)) (hv : cell.slots[j.toNatClampNeg]? = some v) (hd : decode c.code pc = .ok (.laload, 1)) (K : Go p.tables e below G (T.setTop (mkF m (pc + 1) Ls (v :: rest)))) : Go p.tables e below G (T.setTop (mkF m (pc) Ls (.int j :: .ref a :: rest))) := K.via fun t r => X.laload hx (g := mkF m pc Ls (.int j :: .ref a :: rest)) (by rw [eT]; exact A.1) (State.isArrayOf_alike hZ.alike A.2.1) A.2.2 hin hv rfl rfl hd t r
theorem baload (X : Stand p l e R s m args below meth c T locs cells slots) (hx : p.tables.exec = Jvm.exec) {Z : State} {h : Heap} (hZ : Z.Warmed39 s.vm) (eT : T.heap = h) {a : Addr} {cell : Cell} {j : Int32} (v : Value) (A : Arr Z h a cell .byte) (hin : ¬ (j < 0 ∨ cell.slots.size ≤ j.toNatClampNeg)) (hv : cell.slots[j.toNatClampNeg]? = some v) (hd : decode c.code pc = .ok (.baload, 1)) (K : Go p.tables e below G (T.setTop (mkF m (pc + 1) Ls (v :: rest)))) : Go p.tables e below G (T.setTop (mkF m (pc) Ls (.int j :: .ref a :: rest))) := K.via fun t r => X.baloadBytes hx (g := mkF m pc Ls (.int j :: .ref a :: rest)) (by rw [eT]; exact A.1) (State.isArrayOf_alike hZ.alike A.2.1) A.2.2 hin hv rfl rfl hd t r
theorem zaload (X : Stand p l e R s m args below meth c T locs cells slots) (hx : p.tables.exec = Jvm.exec) {Z : State} {h : Heap} (hZ : Z.Warmed39 s.vm) (eT : T.heap = h) {a : Addr} {cell : Cell} {j : Int32} (v : Value) (A : Arr Z h a cell .boolean) (hin : ¬ (j < 0 ∨ cell.slots.size ≤ j.toNatClampNeg)) (hv : cell.slots[j.toNatClampNeg]? = some v) (hd : decode c.code pc = .ok (.baload, 1)) (K : Go p.tables e below G (T.setTop (mkF m (pc + 1) Ls (v :: rest)))) : Go p.tables e below G (T.setTop (mkF m (pc) Ls (.int j :: .ref a :: rest))) := K.via fun t r => X.baloadBooleans hx (g := mkF m pc Ls (.int j :: .ref a :: rest)) (by rw [eT]; exact A.1) (State.isArrayOf_alike hZ.alike A.2.1) A.2.2 hin hv rfl rfl hd t r
theorem aaload (X : Stand p l e R s m args below meth c T locs cells slots) (hx : p.tables.exec = Jvm.exec) {Z : State} {h : Heap} (hZ : Z.Warmed39 s.vm) (eT : T.heap = h) {a : Addr} {cell : Cell} {ty : FieldType} {j : Int32} (v : Value) (A : Arr Z h a cell ty) (hty : ty.isReference = true) (hin : ¬ (j < 0 ∨ cell.slots.size ≤ j.toNatClampNeg)) (hv : cell.slots[j.toNatClampNeg]? = some v) (hd : decode c.code pc = .ok (.aaload, 1)) (K : Go p.tables e below G (T.setTop (mkF m (pc + 1) Ls (v :: rest)))) : Go p.tables e below G (T.setTop (mkF m (pc) Ls (.int j :: .ref a :: rest))) := K.via fun t r => X.aaload hx (g := mkF m pc Ls (.int j :: .ref a :: rest)) (by rw [eT]; exact A.1) (State.isArrayOf_alike hZ.alike A.2.1) hty A.2.2 hin hv rfl rfl hd t r
theorem arraylength (X : Stand p l e R s m args below meth c T locs cells slots) (hx : p.tables.exec = Jvm.exec) {Z : State} {h : Heap} (hZ : Z.Warmed39 s.vm) (eT : T.heap = h) {a : Addr} {cell : Cell} {ty : FieldType} (N : Int32) (A : Arr Z h a cell ty) (hN : cell.slots.size.toInt32 = N) (hd : decode c.code pc = .ok (.arraylength, 1)) (K : Go p.tables e below G (T.setTop (mkF m (pc + 1) Ls (.int N :: rest)))) : Go p.tables e below G (T.setTop (mkF m (pc) Ls (.ref a :: rest))) := K.via fun t r => X.arraylength hx (g := mkF m pc Ls (.ref a :: rest)) (by rw [eT]; exact A.1) (State.isArrayOf_alike hZ.alike A.2.1) rfl rfl hd t (by rw [hN]; exact r)
end Steps1
section Ends
variable {p : Program} {l : Launch} {e : Env} {R : Room} {s : State} {m : MethodId} {args : Array Value} {below : List Frame} {meth : Method} {c : Code} {T : State} {locs : List Loc} {cells slots : Nat} {pc pc' : Nat} {Ls : Array Slot} {rest : List Value} {Q : Option Value → Heap → List Loc → Prop} {k n : Nat}
/-- what a narrow contract says of its end -/
abbrev EndN (s : State) (Q : Option Value → Heap → List Loc → Prop) (k n : Nat) : Outcome → State → Prop := fun o t => ∃ v L, o = .returned v ∧ Q v t.heap L ∧ FrameEnd s o t L k n
theorem fin_of (X : Stand p l e R s m args below meth c T locs cells slots) (hlk : meth.locks = false) {v : Option Value} (hv : meth.sig.returnType = none → v = none) {g : JFrame} (st : ∀ fs, (∀ (f : JFrame) (acts : List Action), f.method = m → f.locked = none → f.entered = [] → (doReturn e (T.setTop f) acts v).1 = T.setFrames fs) → Steps p.tables e below (T.setTop g) (T.setFrames fs)) (hQ : Q v T.heap locs) (hk : cells ≤ k) (hn : slots ≤ n) : Go p.tables e below (EndN s Q k n) (T.setTop g) := by
  obtain ⟨fs, hr, hrun, hended, hW, hsame⟩ := X.leave (v := v) hv hlk
  exact ⟨_, _, st fs hr, hrun, hended, _, _, rfl, hQ, ⟨_, rfl⟩, hW, hsame.mono hk hn⟩
theorem ireturn (X : Stand p l e R s m args below meth c T locs cells slots) (hx : p.tables.exec = Jvm.exec) (hlk : meth.locks = false) {z : Int32} (hret : meth.sig.returnType = some .int) (hd : decode c.code pc = .ok (.ireturn, 1)) (hQ : Q (some (.int z)) T.heap locs) (hk : cells ≤ k) (hn : slots ≤ n) : Go p.tables e below (EndN s Q k n) (T.setTop (mkF m pc Ls (.int z :: rest))) :=
  fin_of X hlk (v := some (.int z)) (fun h => by rw [hret] at h; cases h) (fun fs hr => retOut X hx hret rfl (Or.inl ⟨rfl, Or.inl rfl, z, rfl⟩) hd hr) hQ hk hn
theorem nreturn (X : Stand p l e R s m args below meth c T locs cells slots) (hx : p.tables.exec = Jvm.exec) (hlk : meth.locks = false) {z : Int32} {t : FieldType} (hret : meth.sig.returnType = some t) (ht : t = .boolean ∨ t = .byte ∨ t = .char ∨ t = .short) (hd : decode c.code pc = .ok (.ireturn, 1)) (hQ : Q (some (.int (nar t z))) T.heap locs) (hk : cells ≤ k) (hn : slots ≤ n) : Go p.tables e below (EndN s Q k n) (T.setTop (mkF m pc Ls (.int z :: rest))) :=
  fin_of X hlk (v := some (.int (nar t z))) (fun h => by rw [hret] at h; cases h) (fun fs hr => retN X hx hret ht hd hr) hQ hk hn
theorem areturn (X : Stand p l e R s m args below meth c T locs cells slots) (hx : p.tables.exec = Jvm.exec) (hlk : meth.locks = false) {w : Value} {t : FieldType} (hret : meth.sig.returnType = some t) (ht : t.isReference = true) (hw : w.isRef = true) (hna : narrow t w = w) (hd : decode c.code pc = .ok (.areturn, 1)) (hQ : Q (some w) T.heap locs) (hk : cells ≤ k) (hn : slots ≤ n) : Go p.tables e below (EndN s Q k n) (T.setTop (mkF m pc Ls (w :: rest))) :=
  fin_of X hlk (v := some w) (fun h => by rw [hret] at h; cases h) (fun fs hr => retOut X hx hret hna (Or.inr (Or.inr (Or.inr (Or.inr ⟨rfl, ht, hw⟩)))) hd hr) hQ hk hn
theorem lreturn (X : Stand p l e R s m args below meth c T locs cells slots) (hx : p.tables.exec = Jvm.exec) (hlk : meth.locks = false) {z : Int64} (hret : meth.sig.returnType = some .long) (hd : decode c.code pc = .ok (.lreturn, 1)) (hQ : Q (some (.long z)) T.heap locs) (hk : cells ≤ k) (hn : slots ≤ n) : Go p.tables e below (EndN s Q k n) (T.setTop (mkF m pc Ls (.long z :: rest))) :=
  fin_of X hlk (v := some (.long z)) (fun h => by rw [hret] at h; cases h) (fun fs hr => retOut X hx hret rfl (Or.inr (Or.inl ⟨rfl, rfl, z, rfl⟩)) hd hr) hQ hk hn
theorem vreturn (X : Stand p l e R s m args below meth c T locs cells slots) (hx : p.tables.exec = Jvm.exec) (hlk : meth.locks = false) (hret : meth.sig.returnType = none) (hd : decode c.code pc = .ok (.return_, 1)) (hQ : Q none T.heap locs) (hk : cells ≤ k) (hn : slots ≤ n) : Go p.tables e below (EndN s Q k n) (T.setTop (mkF m pc Ls [])) :=
  fin_of X hlk (v := none) (fun _ => rfl) (fun fs hr => X.returnOut hx hret hd hr) hQ hk hn
end Ends
section Pays
/-- a narrow contract: called with as' at a heap h0 the method returns v, Q v says of the heap behind -/
def Pay (l : Launch) (Z : State) (y : MethodName) (bytes : ByteArray) (maxL : Nat) (ret : Option FieldType) (rm : Room) (as' : Array Value) (h0 : Heap) (Q : Option Value → Heap → List Loc → Prop) : Prop :=
  ∀ ws : List Jvm.Cond, MetFree l y (head1 (Jvm.Cond.code y bytes maxL ret :: ws) rm) (fun a U => a = as' ∧ Z.Warmed39 U.vm ∧ U.heap = h0) (fun _ _ _ _ _ => True) (fun _ U o U' => ∃ v L, o = .returned v ∧ Q v U'.heap L ∧ FrameEnd U o U' L rm.cells rm.slots)
variable {l : Launch} {Z : State} {y : MethodName} {bytes : ByteArray} {maxL : Nat} {ret : Option FieldType} {rm : Room} {as' : Array Value} {h0 : Heap} {Q : Option Value → Heap → List Loc → Prop}
theorem Pay.of {Ls : Array Slot} (hpn : plainFor y = true) (hef : ∀ m, entryFrame m as' maxL = mkF m 0 Ls [])
    (body : ∀ (p : Program) (e : Env) (s : State) (m : MethodId) (below : List Frame) (meth : Method) (c : Code) (T : State), p.tables.exec = Jvm.exec → c.code = bytes → c.maxLocals = maxL → s.vm.findClass y.cls = some m.cls → s.methodNamed? y = some m → s.vm.method? m = some meth → Z.Warmed39 s.vm → meth.sig.returnType = ret → meth.locks = false → Stand p l e rm s m as' below meth c T [] 0 0 → T.heap = h0 →
      Go p.tables e below (EndN s Q rm.cells rm.slots) (T.setTop (mkF m 0 Ls []))) : Pay l Z y bytes maxL ret rm as' h0 Q := by
  intro ws
  refine MetFree.of_bodySF hpn hisR ?_
  intro p e s m args below meth c s₁ Bd hml0 hP hK
  obtain ⟨rfl, hZ, hh⟩ := hP
  rw [hef m]
  exact body p e s m below meth c s₁ Bd.exec Bd.bytes hml0 (findClass_of_methodNamed Bd.named) Bd.named Bd.method hZ Bd.returns Bd.notSynchronized (Stand.of_body Bd) (by rw [← hh, Bd.state]; rfl)
theorem Pay.mono {Q' : Option Value → Heap → List Loc → Prop} (P : Pay l Z y bytes maxL ret rm as' h0 Q) (h : ∀ v h L, Q v h L → Q' v h L) : Pay l Z y bytes maxL ret rm as' h0 Q' := fun ws =>
  (P ws).mono (fun _ _ q => q) (fun _ _ _ _ _ q => q) fun _ _ _ _ _ ⟨v, L, h1, h2, h3⟩ => ⟨v, L, h1, h _ _ _ h2, h3⟩
variable {p : Program} {e : Env} {R : Room} {s : State} {m : MethodId} {args : Array Value} {below : List Frame} {meth : Method} {c : Code} {T : State} {locs : List Loc} {cells slots : Nat} {G : Outcome → State → Prop} {pc : Nat} {Ls : Array Slot} {a0 : Array Value}
/-- invokestatic, by whoever pays it -/
theorem callSB (X : Stand p l e R s m args below meth c T locs cells slots) (hx : p.tables.exec = Jvm.exec) (hZ : Z.Warmed39 s.vm) {argsL rest st : List Value} {kc ks : Nat}
    (hK : Back l R p e below s args y 3 ((rest.map fun v => v.category).sum) (fun A a => a = as' ∧ A.U.heap = h0 ∧ A.cells + kc ≤ R.cells ∧ A.slots + ks ≤ R.slots) (fun A _ v B => ∃ L, Q v B.U.heap L ∧ B.locs = A.locs ++ L ∧ B.cells = A.cells + kc ∧ B.slots = A.slots + ks)) (eT : T.heap = h0) {own : String} {index : Nat} (hown : s.vm.findClass own = some m.cls)
    (wl : (Cond.methodLink own index y).before a0 Z = true) (wst : (Cond.static y).before a0 Z = true) (wz : (Cond.initialized y.cls).before a0 Z = true) (wc : (Cond.code y bytes maxL ret).before a0 Z = true)
    (hy : y.cls ≠ "java/lang/invoke/MethodHandle" ∧ y.cls ≠ "java/lang/invoke/VarHandle") {ps : List FieldType} {rt : Option FieldType} (hpd : parseMethodDescriptor y.desc = some ⟨ps, rt⟩) (hsz : Ls.size = c.maxLocals)
    (has : argsL.toArray = as') (hlen : argsL.length = ps.length) (hst : st = argsL.reverse ++ rest) (hd : decode c.code pc = .ok (.invokestatic index, 3)) (hce : cells + kc ≤ R.cells) (hsl : slots + ks ≤ R.slots)
    (K : ∀ (v : Option Value) (T' : State) (L : List Loc), Stand p l e R s m args below meth c T' (locs ++ L) (cells + kc) (slots + ks) → Q v T'.heap L → Go p.tables e below G (T'.setTop (mkF m (pc + 3) Ls (v.toList ++ rest)))) :
    Go p.tables e below G (T.setTop (mkF m pc Ls st)) := by
  obtain ⟨_, _, ⟨T1, L1, k1, n1⟩, -, X1, ⟨Lc, hQ, l1, y1, z1⟩, st1⟩ := Jvm.LawKit.callS X hx (y := y) hown (mvT hZ wl) (mvT hZ wst) (mvT hZ wz) (mvT hZ wc) hy hK (g := mkF m pc Ls st) rfl hsz (argsL := argsL) (rest := rest) (lenOf hpd hlen) hst (by show 2 * 0 + _ ≤ _; omega) hd (fun _ _ => ⟨has, eT, hce, hsl⟩)
  dsimp only [Pt.U, Pt.locs, Pt.cells, Pt.slots] at X1 l1 y1 z1 st1 hQ
  subst l1 y1 z1
  exact (K _ _ _ X1 hQ).via st1
/-- invokestatic by a narrow contract -/
theorem callS (X : Stand p l e R s m args below meth c T locs cells slots) (hx : p.tables.exec = Jvm.exec) (hZ : Z.Warmed39 s.vm) (hP : Pay l Z y bytes maxL ret rm as' h0 Q) (eT : T.heap = h0) {own : String} {index : Nat} (hown : s.vm.findClass own = some m.cls)
    (wl : (Cond.methodLink own index y).before a0 Z = true) (wst : (Cond.static y).before a0 Z = true) (wz : (Cond.initialized y.cls).before a0 Z = true) (wc : (Cond.code y bytes maxL ret).before a0 Z = true)
    (hy : y.cls ≠ "java/lang/invoke/MethodHandle" ∧ y.cls ≠ "java/lang/invoke/VarHandle") {ps : List FieldType} {rt : Option FieldType} (hpd : parseMethodDescriptor y.desc = some ⟨ps, rt⟩) (hsz : Ls.size = c.maxLocals)
    {argsL rest st : List Value} (has : argsL.toArray = as') (hlen : argsL.length = ps.length) (hst : st = argsL.reverse ++ rest) (hd : decode c.code pc = .ok (.invokestatic index, 3))
    (hf : (rm.frames + 1).ble R.frames = true) (hlo : ((rest.map fun v => v.category).sum + (maxL + 11) + rm.locals).ble R.locals = true) (hce : cells + rm.cells ≤ R.cells) (hsl : slots + rm.slots ≤ R.slots)
    (K : ∀ (v : Option Value) (T' : State) (L : List Loc), Stand p l e R s m args below meth c T' (locs ++ L) (cells + rm.cells) (slots + rm.slots) → Q v T'.heap L → Go p.tables e below G (T'.setTop (mkF m (pc + 3) Ls (v.toList ++ rest)))) :
    Go p.tables e below G (T.setTop (mkF m pc Ls st)) :=
  callSB X hx hZ (backOf (W := (rest.map fun v => v.category).sum) (hP []) hZ wc wz (Nat.le_of_ble_eq_true hf) (Nat.le_of_ble_eq_true hlo)) eT hown wl wst wz wc hy hpd hsz has hlen hst hd hce hsl K
/-- .. that moves nothing -/
theorem callSP (X : Stand p l e R s m args below meth c T locs cells slots) (hx : p.tables.exec = Jvm.exec) (hZ : Z.Warmed39 s.vm) {r : Option Value} (hP : Pay l Z y bytes maxL ret rm as' h0 (fun v h L => v = r ∧ h = h0 ∧ L = [])) (h0c : rm.cells = 0) (h0s : rm.slots = 0) (eT : T.heap = h0) {own : String} {index : Nat} (hown : s.vm.findClass own = some m.cls)
    (wl : (Cond.methodLink own index y).before a0 Z = true) (wst : (Cond.static y).before a0 Z = true) (wz : (Cond.initialized y.cls).before a0 Z = true) (wc : (Cond.code y bytes maxL ret).before a0 Z = true)
    (hy : y.cls ≠ "java/lang/invoke/MethodHandle" ∧ y.cls ≠ "java/lang/invoke/VarHandle") {ps : List FieldType} {rt : Option FieldType} (hpd : parseMethodDescriptor y.desc = some ⟨ps, rt⟩) (hsz : Ls.size = c.maxLocals)
    {argsL rest st : List Value} (has : argsL.toArray = as') (hlen : argsL.length = ps.length) (hst : st = argsL.reverse ++ rest) (hd : decode c.code pc = .ok (.invokestatic index, 3))
    (hf : (rm.frames + 1).ble R.frames = true) (hlo : ((rest.map fun v => v.category).sum + (maxL + 11) + rm.locals).ble R.locals = true) (hce : cells ≤ R.cells) (hsl : slots ≤ R.slots)
    (K : ∀ (T' : State), Stand p l e R s m args below meth c T' locs cells slots → T'.heap = h0 → Go p.tables e below G (T'.setTop (mkF m (pc + 3) Ls (r.toList ++ rest)))) :
    Go p.tables e below G (T.setTop (mkF m pc Ls st)) := by
  refine callS X hx hZ hP eT hown wl wst wz wc hy hpd hsz has hlen hst hd hf hlo (by rw [h0c]; exact hce) (by rw [h0s]; exact hsl) ?_
  rintro v T' L X' ⟨rfl, hh, rfl⟩
  rw [h0c, h0s, List.append_nil] at X'
  exact K T' X' hh
end Pays
end Jvm.Ow
namespace Jvm.Ow
open Sem ClassFile Op Lib Jvm.Stand Jvm.Free Jvm.LawKit Jvm.RoadKit
section Heaps
variable {p : Program} {l : Launch} {e : Env} {R : Room} {s : State} {m : MethodId} {args : Array Value} {below : List Frame} {meth : Method} {c : Code} {T : State} {locs : List Loc} {cells slots : Nat} {G : Outcome → State → Prop} {pc pc' : Nat} {Ls : Array Slot} {rest : List Value} {Z : State} {a0 : Array Value} {h : Heap}
theorem new_ (X : Stand p l e R s m args below meth c T locs cells slots) (hx : p.tables.exec = Jvm.exec) (hZ : Z.Warmed39 s.vm) {own C : String} {index n : Nat} (hown : s.vm.findClass own = some m.cls) (w : (Cond.classLink own index C).before a0 Z = true) (wi : (Cond.instantiable C n).before a0 Z = true) (wz : (Cond.initialized C).before a0 Z = true) (eT : T.heap = h)
    (hd : decode c.code pc = .ok (.new index, 3)) (hc : cells + 1 ≤ R.cells) (hl : slots + n ≤ R.slots)
    (K : ∀ T' h' (a : Addr), a = h.size → Stand p l e R s m args below meth c T' locs (cells + 1) (slots + n) → T'.heap = h' → Ext h h' → Exa Z h' a C → (∀ {O nm d : String} {ty : FieldType}, Laid Z a0 C O nm d → parseFieldDescriptor d = some ty → Fld Z h' a O nm d (defaultValue ty)) → (∃ cell : Cell, h'[a]? = some cell ∧ cell.vm = .none ∧ cell.monitor = {}) →
      Go p.tables e below G (T'.setTop (mkF m (pc + 3) Ls (.ref a :: rest)))) : Go p.tables e below G (T.setTop (mkF m pc Ls rest)) := by
  obtain ⟨T', h', X', e', E, A, D, U, st⟩ := newO X hx hZ hown w wi wz eT (g := mkF m pc Ls rest) rfl hd hc hl
  exact (K T' h' _ rfl X' e' E A D U).via st
theorem newarray (X : Stand p l e R s m args below meth c T locs cells slots) (hx : p.tables.exec = Jvm.exec) (hZ : Z.Warmed39 s.vm) {aty : ArrayType} (w : (Cond.arrayClass (newarray.typeOf aty)).before a0 Z = true) (eT : T.heap = h) (cap : Nat) {n : Int32}
    (hd : decode c.code pc = .ok (.newarray aty, 2)) (hn : ¬ n < 0) (hcap : n.toNatClampNeg ≤ cap) (hb : cap * 8 ≤ 536870912) (hc : cells + 1 ≤ R.cells) (hl : slots + cap ≤ R.slots)
    (K : ∀ T' h' cA (a : Addr), a = h.size → Stand p l e R s m args below meth c T' locs (cells + 1) (slots + cap) → T'.heap = h' → Ext h h' → Arr Z h' a (newA cA (newarray.typeOf aty) n) (newarray.typeOf aty) →
      Go p.tables e below G (T'.setTop (mkF m (pc + 2) Ls (.ref a :: rest)))) : Go p.tables e below G (T.setTop (mkF m pc Ls (.int n :: rest))) := by
  obtain ⟨T', h', cA, X', e', E, A, st⟩ := newP X hx hZ w eT (g := mkF m pc Ls (.int n :: rest)) rfl hd rfl hn hcap hb hc hl
  exact (K T' h' cA _ rfl X' e' E A).via st
theorem getfield (X : Stand p l e R s m args below meth c T locs cells slots) (hx : p.tables.exec = Jvm.exec) (hZ : Z.Warmed39 s.vm) {own R0 O n d : String} {index : Nat} (hown : s.vm.findClass own = some m.cls) (w : (Cond.fieldLink own index R0 n d).before a0 Z = true) (via : Via Z R0 O n d) (eT : T.heap = h) {a : Addr} {v : Value} (F : Fld Z h a O n d v)
    (hd : decode c.code pc = .ok (.getfield index, 3)) (K : ∀ T', Stand p l e R s m args below meth c T' locs cells slots → T'.heap = h → Go p.tables e below G (T'.setTop (mkF m (pc + 3) Ls (v :: rest)))) : Go p.tables e below G (T.setTop (mkF m pc Ls (.ref a :: rest))) := by
  obtain ⟨T', X', e', st⟩ := getF X hx hZ hown (host := "") (Or.inl w) via eT F (g := mkF m pc Ls (.ref a :: rest)) rfl rfl hd
  exact (K T' X' e').via st
theorem putfield (X : Stand p l e R s m args below meth c T locs cells slots) (hx : p.tables.exec = Jvm.exec) (hZ : Z.Warmed39 s.vm) {own R0 O n d C : String} {index kk : Nat} {ty : FieldType} (hown : s.vm.findClass own = some m.cls) (w : (Cond.fieldLink own index R0 n d).before a0 Z = true) (via : Via Z R0 O n d)
    (eT : T.heap = h) {a : Addr} {v old : Value} (F : Fld Z h a O n d old) (E : Exa Z h a C) (L : (Cond.lays C O n d).before a0 Z = true ∨ ((Cond.laysFinal C O n d).before a0 Z = true ∧ own = O ∧ meth.name = "<init>")) (wi : (Cond.instantiable C kk).before a0 Z = true)
    (hty : parseFieldDescriptor d = some ty) (hn : narrow ty v = v) (hf : fits ty v = true) (hd : decode c.code pc = .ok (.putfield index, 3))
    (K : ∀ T' h', Stand p l e R s m args below meth c T' (locs ++ [⟨a, RoadKit.slotOf Z O n d⟩]) cells slots → T'.heap = h' → Wr h h' a (RoadKit.slotOf Z O n d) v → Go p.tables e below G (T'.setTop (mkF m (pc + 3) Ls rest))) : Go p.tables e below G (T.setTop (mkF m pc Ls (v :: .ref a :: rest))) := by
  obtain ⟨T', h', X', e', W, st⟩ := putF X hx hZ hown (host := "") (Or.inl w) via eT F E L wi hty hn hf (g := mkF m pc Ls (v :: .ref a :: rest)) rfl rfl hd
  exact (K T' h' X' e' W).via st
theorem getstatic (X : Stand p l e R s m args below meth c T locs cells slots) (hx : p.tables.exec = Jvm.exec) (hZ : Z.Warmed39 s.vm) {own R0 O n d : String} {index : Nat} (hown : s.vm.findClass own = some m.cls) (w : (Cond.fieldLink own index R0 n d).before a0 Z = true) (via : Via Z R0 O n d) (eT : T.heap = h) {v : Value} (F : Sta Z h O n d v)
    (hd : decode c.code pc = .ok (.getstatic index, 3)) (K : ∀ T', Stand p l e R s m args below meth c T' locs cells slots → T'.heap = h → Go p.tables e below G (T'.setTop (mkF m (pc + 3) Ls (v :: rest)))) : Go p.tables e below G (T.setTop (mkF m pc Ls rest)) := by
  obtain ⟨T', X', e', st⟩ := getS (host := "") X hx hZ hown w via eT F (g := mkF m pc Ls rest) rfl hd
  exact (K T' X' e').via st
theorem objinit (X : Stand p l e R s m args below meth c T locs cells slots) (hx : p.tables.exec = Jvm.exec) (hZ : Z.Warmed39 s.vm) {own : String} {idx : Nat} (hown : s.vm.findClass own = some m.cls) (w1 : (Cond.methodLink own idx Lib.objectInit).before a0 Z = true) (w2 : (Cond.instanceMethod Lib.objectInit).before a0 Z = true)
    (w3 : (Cond.code Lib.objectInit ⟨#[0xb1]⟩ 1 none).before a0 Z = true) (eT : T.heap = h) (hsz : Ls.size = c.maxLocals) {a : Addr} (hd : decode c.code pc = .ok (.invokespecial idx, 3)) (hf : (1 : Nat).ble R.frames = true) (hl : ((rest.map fun v => v.category).sum + 12).ble R.locals = true)
    (K : ∀ T', Stand p l e R s m args below meth c T' locs cells slots → T'.heap = h → Go p.tables e below G (T'.setTop (mkF m (pc + 3) Ls rest))) : Go p.tables e below G (T.setTop (mkF m pc Ls (.ref a :: rest))) := by
  obtain ⟨T', X', e', st⟩ := initO X hx hZ hown w1 w2 w3 eT (g := mkF m pc Ls (.ref a :: rest)) rfl hsz rfl hd (Nat.le_of_ble_eq_true hf) (W := (rest.map fun v => v.category).sum) (by show 2 * 0 + _ ≤ _; omega) (Nat.le_of_ble_eq_true hl)
  exact (K T' X' e').via st
theorem castore (X : Stand p l e R s m args below meth c T locs cells slots) (hx : p.tables.exec = Jvm.exec) (hZ : Z.Warmed39 s.vm) (eT : T.heap = h) {a : Addr} {cl : Cell} (A : Arr Z h a cl .char) {j x : Int32} (hj : ¬ (j < 0 ∨ cl.slots.size ≤ j.toNatClampNeg)) (hd : decode c.code pc = .ok (.castore, 1))
    (K : ∀ T' h', Stand p l e R s m args below meth c T' (locs ++ [⟨a, j.toNatClampNeg⟩]) cells slots → T'.heap = h' → Wr h h' a j.toNatClampNeg (.int (nar .char x)) → Go p.tables e below G (T'.setTop (mkF m (pc + 1) Ls rest))) : Go p.tables e below G (T.setTop (mkF m pc Ls (.int x :: .int j :: .ref a :: rest))) := by
  obtain ⟨T', h', X', e', W, st⟩ := stC X hx hZ eT A hj (g := mkF m pc Ls (.int x :: .int j :: .ref a :: rest)) rfl rfl hd
  exact (K T' h' X' e' W).via st
theorem bastore (X : Stand p l e R s m args below meth c T locs cells slots) (hx : p.tables.exec = Jvm.exec) (hZ : Z.Warmed39 s.vm) (eT : T.heap = h) {a : Addr} {cl : Cell} (A : Arr Z h a cl .byte) {j x : Int32} (hj : ¬ (j < 0 ∨ cl.slots.size ≤ j.toNatClampNeg)) (hd : decode c.code pc = .ok (.bastore, 1))
    (K : ∀ T' h', Stand p l e R s m args below meth c T' (locs ++ [⟨a, j.toNatClampNeg⟩]) cells slots → T'.heap = h' → Wr h h' a j.toNatClampNeg (.int (nar .byte x)) → Go p.tables e below G (T'.setTop (mkF m (pc + 1) Ls rest))) : Go p.tables e below G (T.setTop (mkF m pc Ls (.int x :: .int j :: .ref a :: rest))) := by
  obtain ⟨T', h', X', e', W, st⟩ := stB X hx hZ eT A hj (g := mkF m pc Ls (.int x :: .int j :: .ref a :: rest)) rfl rfl hd
  exact (K T' h' X' e' W).via st
theorem zastore (X : Stand p l e R s m args below meth c T locs cells slots) (hx : p.tables.exec = Jvm.exec) (hZ : Z.Warmed39 s.vm) (eT : T.heap = h) {a : Addr} {cl : Cell} (A : Arr Z h a cl .boolean) {j x : Int32} (hj : ¬ (j < 0 ∨ cl.slots.size ≤ j.toNatClampNeg)) (hd : decode c.code pc = .ok (.bastore, 1))
    (K : ∀ T' h', Stand p l e R s m args below meth c T' (locs ++ [⟨a, j.toNatClampNeg⟩]) cells slots → T'.heap = h' → Wr h h' a j.toNatClampNeg (.int (nar .boolean x)) → Go p.tables e below G (T'.setTop (mkF m (pc + 1) Ls rest))) : Go p.tables e below G (T.setTop (mkF m pc Ls (.int x :: .int j :: .ref a :: rest))) := by
  obtain ⟨T', h', X', e', W, st⟩ := stZ X hx hZ eT A hj (g := mkF m pc Ls (.int x :: .int j :: .ref a :: rest)) rfl rfl hd
  exact (K T' h' X' e' W).via st
theorem iastore (X : Stand p l e R s m args below meth c T locs cells slots) (hx : p.tables.exec = Jvm.exec) (hZ : Z.Warmed39 s.vm) (eT : T.heap = h) {a : Addr} {cl : Cell} (A : Arr Z h a cl .int) {j x : Int32} (hj : ¬ (j < 0 ∨ cl.slots.size ≤ j.toNatClampNeg)) (hd : decode c.code pc = .ok (.iastore, 1))
    (K : ∀ T' h', Stand p l e R s m args below meth c T' (locs ++ [⟨a, j.toNatClampNeg⟩]) cells slots → T'.heap = h' → Wr h h' a j.toNatClampNeg (.int x) → Go p.tables e below G (T'.setTop (mkF m (pc + 1) Ls rest))) : Go p.tables e below G (T.setTop (mkF m pc Ls (.int x :: .int j :: .ref a :: rest))) := by
  obtain ⟨T', h', X', e', W, st⟩ := stI X hx hZ eT A hj (g := mkF m pc Ls (.int x :: .int j :: .ref a :: rest)) rfl rfl hd
  exact (K T' h' X' e' W).via st
theorem checkcast (X : Stand p l e R s m args below meth c T locs cells slots) (hx : p.tables.exec = Jvm.exec) (hZ : Z.Warmed39 s.vm) {own K0 : String} {index : Nat} (hown : s.vm.findClass own = some m.cls) (w : (Cond.classLink own index K0).before a0 Z = true) (eT : T.heap = h) {a : Addr} (F : Ins Z h a K0 true) (hd : decode c.code pc = .ok (.checkcast index, 3))
    (K : ∀ T', Stand p l e R s m args below meth c T' locs cells slots → T'.heap = h → Go p.tables e below G (T'.setTop (mkF m (pc + 3) Ls (.ref a :: rest)))) : Go p.tables e below G (T.setTop (mkF m pc Ls (.ref a :: rest))) := by
  obtain ⟨T', X', e', st⟩ := castY X hx hZ hown w eT F (g := mkF m pc Ls (.ref a :: rest)) rfl rfl hd
  exact (K T' X' e').via st
theorem instanceofY (X : Stand p l e R s m args below meth c T locs cells slots) (hx : p.tables.exec = Jvm.exec) (hZ : Z.Warmed39 s.vm) {own K0 : String} {index : Nat} (hown : s.vm.findClass own = some m.cls) (w : (Cond.classLink own index K0).before a0 Z = true) (eT : T.heap = h) {a : Addr} (F : Ins Z h a K0 true) (hd : decode c.code pc = .ok (.instanceof index, 3))
    (K : ∀ T', Stand p l e R s m args below meth c T' locs cells slots → T'.heap = h → Go p.tables e below G (T'.setTop (mkF m (pc + 3) Ls (.int 1 :: rest)))) : Go p.tables e below G (T.setTop (mkF m pc Ls (.ref a :: rest))) := by
  obtain ⟨T', X', e', st⟩ := instY X hx hZ hown w eT F (g := mkF m pc Ls (.ref a :: rest)) rfl rfl hd
  exact (K T' X' e').via st
end Heaps
section Calls
variable {l : Launch} {Z : State} {y : MethodName} {bytes : ByteArray} {maxL : Nat} {ret : Option FieldType} {rm : Room} {as' : Array Value} {h0 : Heap} {Q : Option Value → Heap → List Loc → Prop}
variable {p : Program} {e : Env} {R : Room} {s : State} {m : MethodId} {args : Array Value} {below : List Frame} {meth : Method} {c : Code} {T : State} {locs : List Loc} {cells slots : Nat} {G : Outcome → State → Prop} {pc : Nat} {Ls : Array Slot} {a0 : Array Value}
/-- invokespecial of a constructor, by whoever pays it -/
theorem callIB (X : Stand p l e R s m args below meth c T locs cells slots) (hx : p.tables.exec = Jvm.exec) (hZ : Z.Warmed39 s.vm) {a : Addr} {argsL rest st : List Value} {kc ks : Nat}
    (hK : Back l R p e below s args y 3 ((rest.map fun v => v.category).sum) (fun A a => a = as' ∧ A.U.heap = h0 ∧ A.cells + kc ≤ R.cells ∧ A.slots + ks ≤ R.slots) (fun A _ v B => ∃ L, Q v B.U.heap L ∧ B.locs = A.locs ++ L ∧ B.cells = A.cells + kc ∧ B.slots = A.slots + ks)) (eT : T.heap = h0) (hni : y.name = "<init>") {own : String} {index : Nat} (hown : s.vm.findClass own = some m.cls)
    (wl : (Cond.methodLink own index y).before a0 Z = true) (win : (Cond.instanceMethod y).before a0 Z = true) (wc : (Cond.code y bytes maxL none).before a0 Z = true)
    (hy : y.cls ≠ "java/lang/invoke/MethodHandle" ∧ y.cls ≠ "java/lang/invoke/VarHandle") {ps : List FieldType} {rt : Option FieldType} (hpd : parseMethodDescriptor y.desc = some ⟨ps, rt⟩) (hsz : Ls.size = c.maxLocals)
    (has : (.ref a :: argsL).toArray = as') (hlen : argsL.length = ps.length) (hst : st = argsL.reverse ++ .ref a :: rest) (hd : decode c.code pc = .ok (.invokespecial index, 3)) (hce : cells + kc ≤ R.cells) (hsl : slots + ks ≤ R.slots)
    (K : ∀ (v : Option Value) (T' : State) (L : List Loc), Stand p l e R s m args below meth c T' (locs ++ L) (cells + kc) (slots + ks) → Q v T'.heap L → Go p.tables e below G (T'.setTop (mkF m (pc + 3) Ls (v.toList ++ rest)))) :
    Go p.tables e below G (T.setTop (mkF m pc Ls st)) := by
  obtain ⟨_, _, ⟨T1, L1, k1, n1⟩, -, X1, ⟨Lc, hQ, l1, y1, z1⟩, st1⟩ := X.specialBack hx (y := y) hni hown (mvT hZ wl) (mvT hZ win) (mvT hZ wc) hy hK (g := mkF m pc Ls st) rfl hsz (Steps.refl _) (a := a) (argsL := argsL) (rest := rest) (lenOf hpd hlen) hst (by show 2 * 0 + _ ≤ _; omega) hd (fun _ _ => ⟨has, eT, hce, hsl⟩)
  dsimp only [Pt.U, Pt.locs, Pt.cells, Pt.slots] at X1 l1 y1 z1 st1 hQ
  subst l1 y1 z1
  exact (K _ _ _ X1 hQ).thru st1
/-- invokespecial of a constructor by a narrow contract -/
theorem callI (X : Stand p l e R s m args below meth c T locs cells slots) (hx : p.tables.exec = Jvm.exec) (hZ : Z.Warmed39 s.vm) (hP : Pay l Z y bytes maxL none rm as' h0 Q) (eT : T.heap = h0) (hni : y.name = "<init>") {own : String} {index : Nat} (hown : s.vm.findClass own = some m.cls)
    (wl : (Cond.methodLink own index y).before a0 Z = true) (win : (Cond.instanceMethod y).before a0 Z = true) (wz : (Cond.initialized y.cls).before a0 Z = true) (wc : (Cond.code y bytes maxL none).before a0 Z = true)
    (hy : y.cls ≠ "java/lang/invoke/MethodHandle" ∧ y.cls ≠ "java/lang/invoke/VarHandle") {ps : List FieldType} {rt : Option FieldType} (hpd : parseMethodDescriptor y.desc = some ⟨ps, rt⟩) (hsz : Ls.size = c.maxLocals)
    {a : Addr} {argsL rest st : List Value} (has : (.ref a :: argsL).toArray = as') (hlen : argsL.length = ps.length) (hst : st = argsL.reverse ++ .ref a :: rest) (hd : decode c.code pc = .ok (.invokespecial index, 3))
    (hf : (rm.frames + 1).ble R.frames = true) (hlo : ((rest.map fun v => v.category).sum + (maxL + 11) + rm.locals).ble R.locals = true) (hce : cells + rm.cells ≤ R.cells) (hsl : slots + rm.slots ≤ R.slots)
    (K : ∀ (v : Option Value) (T' : State) (L : List Loc), Stand p l e R s m args below meth c T' (locs ++ L) (cells + rm.cells) (slots + rm.slots) → Q v T'.heap L → Go p.tables e below G (T'.setTop (mkF m (pc + 3) Ls (v.toList ++ rest)))) :
    Go p.tables e below G (T.setTop (mkF m pc Ls st)) :=
  callIB X hx hZ (backOf (W := (rest.map fun v => v.category).sum) (hP []) hZ wc wz (Nat.le_of_ble_eq_true hf) (Nat.le_of_ble_eq_true hlo)) eT hni hown wl win wc hy hpd hsz has hlen hst hd hce hsl K
/-- invokevirtual, by whoever pays it: x is named, y is selected -/
theorem callVB (X : Stand p l e R s m args below meth c T locs cells slots) (hx : p.tables.exec = Jvm.exec) (hZ : Z.Warmed39 s.vm) {a : Addr} {argsL rest st : List Value} {kc ks : Nat}
    (hK : Back l R p e below s args y 3 ((rest.map fun v => v.category).sum) (fun A a => a = as' ∧ A.U.heap = h0 ∧ A.cells + kc ≤ R.cells ∧ A.slots + ks ≤ R.slots) (fun A _ v B => ∃ L, Q v B.U.heap L ∧ B.locs = A.locs ++ L ∧ B.cells = A.cells + kc ∧ B.slots = A.slots + ks)) (eT : T.heap = h0) {C : String} {own : String} {index : Nat} (hown : s.vm.findClass own = some m.cls)
    (wl : (Cond.methodLink own index y).before a0 Z = true) (wd : (Cond.declares y).before a0 Z = true) (wse : (Cond.selects C y y).before a0 Z = true) (win : (Cond.instanceMethod y).before a0 Z = true)
    (hy : y.cls ≠ "java/lang/invoke/MethodHandle" ∧ y.cls ≠ "java/lang/invoke/VarHandle") {ps : List FieldType} {rt : Option FieldType} (hpd : parseMethodDescriptor y.desc = some ⟨ps, rt⟩) (hsz : Ls.size = c.maxLocals)
    (E : Exa Z h0 a C) (has : (.ref a :: argsL).toArray = as') (hlen : argsL.length = ps.length) (hst : st = argsL.reverse ++ .ref a :: rest) (hd : decode c.code pc = .ok (.invokevirtual index, 3)) (hce : cells + kc ≤ R.cells) (hsl : slots + ks ≤ R.slots)
    (K : ∀ (v : Option Value) (T' : State) (L : List Loc), Stand p l e R s m args below meth c T' (locs ++ L) (cells + kc) (slots + ks) → Q v T'.heap L → Go p.tables e below G (T'.setTop (mkF m (pc + 3) Ls (v.toList ++ rest)))) :
    Go p.tables e below G (T.setTop (mkF m pc Ls st)) := by
  obtain ⟨cq, kq, qa, qb, qc⟩ := isOf hZ eT E
  obtain ⟨_, _, ⟨T1, L1, k1, n1⟩, -, X1, ⟨Lc, hQ, l1, y1, z1⟩, st1⟩ := X.virtualBack hx (y := y) (z := y) hown (mvT hZ wl) (mvT hZ wd) (notFace_of_selects (args := #[]) (mvT hZ wse)) (mvT hZ wse) (mvT hZ win) hy hK qa qc (g := mkF m pc Ls st) rfl hsz (Steps.refl _) (argsL := argsL) (rest := rest) (lenOf hpd hlen) hst (by show 2 * 0 + _ ≤ _; omega) hd (fun _ _ => ⟨has, eT, hce, hsl⟩)
  dsimp only [Pt.U, Pt.locs, Pt.cells, Pt.slots] at X1 l1 y1 z1 st1 hQ
  subst l1 y1 z1
  exact (K _ _ _ X1 hQ).thru st1
/-- invokevirtual by a narrow contract -/
theorem callV (X : Stand p l e R s m args below meth c T locs cells slots) (hx : p.tables.exec = Jvm.exec) (hZ : Z.Warmed39 s.vm) (hP : Pay l Z y bytes maxL ret rm as' h0 Q) (eT : T.heap = h0) {C : String} {own : String} {index : Nat} (hown : s.vm.findClass own = some m.cls)
    (wl : (Cond.methodLink own index y).before a0 Z = true) (wd : (Cond.declares y).before a0 Z = true) (wse : (Cond.selects C y y).before a0 Z = true) (win : (Cond.instanceMethod y).before a0 Z = true) (wz : (Cond.initialized y.cls).before a0 Z = true) (wc : (Cond.code y bytes maxL ret).before a0 Z = true)
    (hy : y.cls ≠ "java/lang/invoke/MethodHandle" ∧ y.cls ≠ "java/lang/invoke/VarHandle") {ps : List FieldType} {rt : Option FieldType} (hpd : parseMethodDescriptor y.desc = some ⟨ps, rt⟩) (hsz : Ls.size = c.maxLocals)
    {a : Addr} (E : Exa Z h0 a C) {argsL rest st : List Value} (has : (.ref a :: argsL).toArray = as') (hlen : argsL.length = ps.length) (hst : st = argsL.reverse ++ .ref a :: rest) (hd : decode c.code pc = .ok (.invokevirtual index, 3))
    (hf : (rm.frames + 1).ble R.frames = true) (hlo : ((rest.map fun v => v.category).sum + (maxL + 11) + rm.locals).ble R.locals = true) (hce : cells + rm.cells ≤ R.cells) (hsl : slots + rm.slots ≤ R.slots)
    (K : ∀ (v : Option Value) (T' : State) (L : List Loc), Stand p l e R s m args below meth c T' (locs ++ L) (cells + rm.cells) (slots + rm.slots) → Q v T'.heap L → Go p.tables e below G (T'.setTop (mkF m (pc + 3) Ls (v.toList ++ rest)))) :
    Go p.tables e below G (T.setTop (mkF m pc Ls st)) :=
  callVB X hx hZ (backOf (W := (rest.map fun v => v.category).sum) (hP []) hZ wc wz (Nat.le_of_ble_eq_true hf) (Nat.le_of_ble_eq_true hlo)) eT hown wl wd wse win hy hpd hsz E has hlen hst hd hce hsl K
/-- .. that moves nothing -/
theorem callVP (X : Stand p l e R s m args below meth c T locs cells slots) (hx : p.tables.exec = Jvm.exec) (hZ : Z.Warmed39 s.vm) {r : Option Value} (hP : Pay l Z y bytes maxL ret rm as' h0 (fun v h L => v = r ∧ h = h0 ∧ L = [])) (h0c : rm.cells = 0) (h0s : rm.slots = 0) (eT : T.heap = h0) {C : String} {own : String} {index : Nat} (hown : s.vm.findClass own = some m.cls)
    (wl : (Cond.methodLink own index y).before a0 Z = true) (wd : (Cond.declares y).before a0 Z = true) (wse : (Cond.selects C y y).before a0 Z = true) (win : (Cond.instanceMethod y).before a0 Z = true) (wz : (Cond.initialized y.cls).before a0 Z = true) (wc : (Cond.code y bytes maxL ret).before a0 Z = true)
    (hy : y.cls ≠ "java/lang/invoke/MethodHandle" ∧ y.cls ≠ "java/lang/invoke/VarHandle") {ps : List FieldType} {rt : Option FieldType} (hpd : parseMethodDescriptor y.desc = some ⟨ps, rt⟩) (hsz : Ls.size = c.maxLocals)
    {a : Addr} (E : Exa Z h0 a C) {argsL rest st : List Value} (has : (.ref a :: argsL).toArray = as') (hlen : argsL.length = ps.length) (hst : st = argsL.reverse ++ .ref a :: rest) (hd : decode c.code pc = .ok (.invokevirtual index, 3))
    (hf : (rm.frames + 1).ble R.frames = true) (hlo : ((rest.map fun v => v.category).sum + (maxL + 11) + rm.locals).ble R.locals = true) (hce : cells ≤ R.cells) (hsl : slots ≤ R.slots)
    (K : ∀ (T' : State), Stand p l e R s m args below meth c T' locs cells slots → T'.heap = h0 → Go p.tables e below G (T'.setTop (mkF m (pc + 3) Ls (r.toList ++ rest)))) :
    Go p.tables e below G (T.setTop (mkF m pc Ls st)) := by
  refine callV X hx hZ hP eT hown wl wd wse win wz wc hy hpd hsz E has hlen hst hd hf hlo (by rw [h0c]; exact hce) (by rw [h0s]; exact hsl) ?_
  rintro v T' L X' ⟨rfl, hh, rfl⟩
  rw [h0c, h0s, List.append_nil] at X'
  exact K T' X' hh
end Calls
end Jvm.Ow
namespace Jvm.Ow
open Sem ClassFile Op Lib Jvm.Stand Jvm.Free Jvm.LawKit Jvm.RoadKit
/-- an array whose slots are known, one by one -/
def AL (Z : State) (h : Heap) (a : Addr) (k : ClassId) (ty : FieldType) (vs : List Value) : Prop := ∃ c : Cell, Arr Z h a c ty ∧ c.cls = k ∧ c.slots = vs.toArray
/-- what has moved from h0 to h: the cells ws and new ones -/
def Eff (h0 h : Heap) (ws : List Addr) (L : List Loc) : Prop := Keep h0 h ws ∧ ∀ y ∈ L, y.base ∈ ws ∨ h0.size ≤ y.base
section ALs
variable {Z : State} {h h' h0 : Heap} {a b : Addr} {k : ClassId} {ty : FieldType} {vs : List Value} {v : Value} {ws ws' : List Addr} {L L' : List Loc} {sl : Nat} {C n d : String}
theorem AL.lt (A : AL Z h a k ty vs) : a < h.size := by obtain ⟨c, A, -⟩ := A; exact A.lt
theorem AL.ext (A : AL Z h a k ty vs) (E : Ext h h') : AL Z h' a k ty vs := by obtain ⟨c, A, r⟩ := A; exact ⟨c, A.ext E, r⟩
theorem AL.other (A : AL Z h b k ty vs) (W : Wr h h' a sl v) (q : b ≠ a) : AL Z h' b k ty vs := by obtain ⟨c, A, r⟩ := A; exact ⟨c, A.other W q, r⟩
theorem AL.keep (A : AL Z h a k ty vs) (K : Keep h h' ws) (q : a ∉ ws) : AL Z h' a k ty vs := by obtain ⟨c, A, r⟩ := A; exact ⟨c, ⟨K.2.1 a c A.1 q, A.2⟩, r⟩
theorem AL.new {z : Int32} (A : Arr Z h a (newA k ty z) ty) (vs : List Value) (q : List.replicate z.toNatClampNeg (defaultValue ty) = vs) : AL Z h a k ty vs := ⟨_, A, rfl, by rw [← q]; simp [newA]⟩
theorem AL.set (A : AL Z h a k ty vs) {i : Nat} (W : Wr h h' a i v) (vs' : List Value) (q : vs.set i v = vs') : AL Z h' a k ty vs' := by
  obtain ⟨c, A, r1, r2⟩ := A
  refine ⟨_, A.same W, r1, ?_⟩
  show c.slots.setIfInBounds i v = _
  rw [r2, ← q]; simp
theorem AL.arr (A : AL Z h a k ty vs) : ∃ c : Cell, Arr Z h a c ty ∧ c.cls = k ∧ c.slots.size = vs.length ∧ ∀ i : Nat, c.slots[i]? = vs[i]? := by
  obtain ⟨c, A, r1, r2⟩ := A
  exact ⟨c, A, r1, by rw [r2]; simp, fun i => by rw [r2]; simp⟩
theorem AL.arv (A : AL Z h a k ty vs) {z : Int32} {dv : Value} (hz : ¬ z < 0) (hl : z.toNatClampNeg = vs.length) (hf : ∀ v ∈ vs, fits ty v = true) : Arv Z h a k ty z vs dv := by
  obtain ⟨c, A, r1, r2, r3⟩ := A.arr
  refine ⟨c, A, r1, by rw [r2, hl], hz, fun i hi => ?_, fun i hi => ?_⟩
  · rw [r3, List.getD_eq_getElem?_getD, List.getElem?_eq_getElem (by omega)]; rfl
  · rw [List.getD_eq_getElem?_getD, List.getElem?_eq_getElem (by omega)]; exact hf _ (List.getElem_mem _)
theorem AL.of_arv {z : Int32} {dv : Value} (A : Arv Z h a k ty z vs dv) (hl : z.toNatClampNeg = vs.length) : AL Z h a k ty vs := by
  obtain ⟨c, A, r1, r2, r3, H, -⟩ := A
  refine ⟨c, A, r1, Array.ext_getElem? fun i => ?_⟩
  by_cases q : i < c.slots.size
  · rw [H i q, List.getD_eq_getElem?_getD]
    have : i < vs.length := by omega
    simp [this]
  · rw [Array.getElem?_eq_none (by omega)]
    have : vs.length ≤ i := by omega
    simp [this]
theorem Eff.refl (h : Heap) (ws : List Addr) : Eff h h ws [] := ⟨Keep.refl h ws, fun _ q => nomatch q⟩
theorem Eff.size (F : Eff h0 h ws L) : h0.size ≤ h.size := F.1.1
theorem Eff.ext (F : Eff h0 h ws L) (E : Ext h h') : Eff h0 h' ws L := ⟨F.1.ext E, F.2⟩
theorem Eff.wr (F : Eff h0 h ws L) (W : Wr h h' a sl v) (q : a ∈ ws ∨ h0.size ≤ a) : Eff h0 h' ws (L ++ [⟨a, sl⟩]) := ⟨F.1.wr W q, fun y hy => by
  rcases List.mem_append.mp hy with hy | hy
  · exact F.2 y hy
  · cases List.mem_singleton.mp hy; exact q⟩
theorem Eff.call (F : Eff h0 h ws L) (F' : Eff h h' ws' L') (q : ∀ x ∈ ws', x ∈ ws ∨ h0.size ≤ x) : Eff h0 h' ws (L ++ L') := ⟨F.1.trans F'.1 q, fun y hy => by
  rcases List.mem_append.mp hy with hy | hy
  · exact F.2 y hy
  · rcases F'.2 y hy with r | r
    · exact q _ r
    · exact Or.inr (Nat.le_trans F.1.1 r)⟩
theorem Eff.app0 (F : Eff h0 h ws L) : Eff h0 h ws (L ++ []) := by rw [List.append_nil]; exact F
theorem Eff.fr (F : Eff h0 h [] L) : Fr h0.size L := fun y hy => (F.2 y hy).elim (fun q => nomatch q) id
theorem Eff.keep (F : Eff h0 h ws L) : Keep h0 h ws := F.1
theorem ext_ne (q : a < h.size) : a ≠ h.size := Nat.ne_of_lt q
theorem Keep.ext0 (K : Keep h h' []) : Ext h h' := ⟨K.1, fun x c q => K.2.1 x c q nin0⟩
end ALs
section ALsteps
variable {p : Program} {l : Launch} {e : Env} {R : Room} {s : State} {m : MethodId} {args : Array Value} {below : List Frame} {meth : Method} {c : Code} {T : State} {locs : List Loc} {cells slots : Nat} {G : Outcome → State → Prop} {pc pc' : Nat} {Ls : Array Slot} {rest : List Value} {Z : State} {a0 : Array Value} {h : Heap} {a : Addr} {kc : ClassId} {vs : List Value}
theorem inb {c : Cell} {j : Int32} (hs : c.slots.size = vs.length) (h0 : ¬ j < 0) {i : Nat} (hi : j.toNatClampNeg = i) (hl : i < vs.length) : ¬ (j < 0 ∨ c.slots.size ≤ j.toNatClampNeg) := by
  rw [hi, hs]; exact fun q => q.elim h0 (Nat.not_le.mpr hl)
/-- newarray: all slots at their first value -/
theorem newarrayL (X : Stand p l e R s m args below meth c T locs cells slots) (hx : p.tables.exec = Jvm.exec) (hZ : Z.Warmed39 s.vm) {aty : ArrayType} (w : (Cond.arrayClass (newarray.typeOf aty)).before a0 Z = true) (eT : T.heap = h) (cap : Nat) {n : Int32} (vs : List Value) (hvs : List.replicate n.toNatClampNeg (defaultValue (newarray.typeOf aty)) = vs)
    (hd : decode c.code pc = .ok (.newarray aty, 2)) (hn : ¬ n < 0) (hcap : n.toNatClampNeg ≤ cap) (hb : cap * 8 ≤ 536870912) (hc : cells + 1 ≤ R.cells) (hl : slots + cap ≤ R.slots)
    (K : ∀ T' h' cA (a : Addr), a = h.size → Stand p l e R s m args below meth c T' locs (cells + 1) (slots + cap) → T'.heap = h' → Ext h h' → AL Z h' a cA (newarray.typeOf aty) vs →
      Go p.tables e below G (T'.setTop (mkF m (pc + 2) Ls (.ref a :: rest)))) : Go p.tables e below G (T.setTop (mkF m pc Ls (.int n :: rest))) :=
  newarray X hx hZ w eT cap hd hn hcap hb hc hl fun T' h' cA a ha X' e' E A => K T' h' cA a ha X' e' E (AL.new A vs hvs)
theorem castoreL (X : Stand p l e R s m args below meth c T locs cells slots) (hx : p.tables.exec = Jvm.exec) (hZ : Z.Warmed39 s.vm) (eT : T.heap = h) (A : AL Z h a kc .char vs) {j x : Int32} (i : Nat) (vs' : List Value) (hj0 : ¬ j < 0) (hj : j.toNatClampNeg = i) (hi : i.blt vs.length = true) (hvs : vs.set i (.int (nar .char x)) = vs') (hd : decode c.code pc = .ok (.castore, 1))
    (K : ∀ T' h', Stand p l e R s m args below meth c T' (locs ++ [⟨a, i⟩]) cells slots → T'.heap = h' → Wr h h' a i (.int (nar .char x)) → AL Z h' a kc .char vs' → Go p.tables e below G (T'.setTop (mkF m (pc + 1) Ls rest))) : Go p.tables e below G (T.setTop (mkF m pc Ls (.int x :: .int j :: .ref a :: rest))) := by
  obtain ⟨cl, Ar, -, q2, -⟩ := A.arr
  have hi' : i < vs.length := by simpa [Nat.blt_eq] using hi
  refine castore X hx hZ eT Ar (inb q2 hj0 hj hi') hd ?_
  rw [hj]
  exact fun T' h' X' e' W => K T' h' X' e' W (A.set W vs' hvs)
theorem bastoreL (X : Stand p l e R s m args below meth c T locs cells slots) (hx : p.tables.exec = Jvm.exec) (hZ : Z.Warmed39 s.vm) (eT : T.heap = h) (A : AL Z h a kc .byte vs) {j x : Int32} (i : Nat) (vs' : List Value) (hj0 : ¬ j < 0) (hj : j.toNatClampNeg = i) (hi : i.blt vs.length = true) (hvs : vs.set i (.int (nar .byte x)) = vs') (hd : decode c.code pc = .ok (.bastore, 1))
    (K : ∀ T' h', Stand p l e R s m args below meth c T' (locs ++ [⟨a, i⟩]) cells slots → T'.heap = h' → Wr h h' a i (.int (nar .byte x)) → AL Z h' a kc .byte vs' → Go p.tables e below G (T'.setTop (mkF m (pc + 1) Ls rest))) : Go p.tables e below G (T.setTop (mkF m pc Ls (.int x :: .int j :: .ref a :: rest))) := by
  obtain ⟨cl, Ar, -, q2, -⟩ := A.arr
  have hi' : i < vs.length := by simpa [Nat.blt_eq] using hi
  refine bastore X hx hZ eT Ar (inb q2 hj0 hj hi') hd ?_
  rw [hj]
  exact fun T' h' X' e' W => K T' h' X' e' W (A.set W vs' hvs)
theorem zastoreL (X : Stand p l e R s m args below meth c T locs cells slots) (hx : p.tables.exec = Jvm.exec) (hZ : Z.Warmed39 s.vm) (eT : T.heap = h) (A : AL Z h a kc .boolean vs) {j x : Int32} (i : Nat) (vs' : List Value) (hj0 : ¬ j < 0) (hj : j.toNatClampNeg = i) (hi : i.blt vs.length = true) (hvs : vs.set i (.int (nar .boolean x)) = vs') (hd : decode c.code pc = .ok (.bastore, 1))
    (K : ∀ T' h', Stand p l e R s m args below meth c T' (locs ++ [⟨a, i⟩]) cells slots → T'.heap = h' → Wr h h' a i (.int (nar .boolean x)) → AL Z h' a kc .boolean vs' → Go p.tables e below G (T'.setTop (mkF m (pc + 1) Ls rest))) : Go p.tables e below G (T.setTop (mkF m pc Ls (.int x :: .int j :: .ref a :: rest))) := by
  obtain ⟨cl, Ar, -, q2, -⟩ := A.arr
  have hi' : i < vs.length := by simpa [Nat.blt_eq] using hi
  refine zastore X hx hZ eT Ar (inb q2 hj0 hj hi') hd ?_
  rw [hj]
  exact fun T' h' X' e' W => K T' h' X' e' W (A.set W vs' hvs)
theorem caloadL (X : Stand p l e R s m args below meth c T locs cells slots) (hx : p.tables.exec = Jvm.exec) (hZ : Z.Warmed39 s.vm) (eT : T.heap = h) (A : AL Z h a kc .char vs) {j : Int32} (i : Nat) (v : Value) (hj0 : ¬ j < 0) (hj : j.toNatClampNeg = i) (hv : vs[i]? = some v) (hd : decode c.code pc = .ok (.caload, 1)) (K : Go p.tables e below G (T.setTop (mkF m (pc + 1) Ls (v :: rest)))) : Go p.tables e below G (T.setTop (mkF m pc Ls (.int j :: .ref a :: rest))) := by
  obtain ⟨cl, Ar, -, q2, q3⟩ := A.arr
  exact caload X hx hZ eT v Ar (inb q2 hj0 hj (List.getElem?_eq_some_iff.mp hv).1) (by rw [hj, q3]; exact hv) hd K
theorem baloadL (X : Stand p l e R s m args below meth c T locs cells slots) (hx : p.tables.exec = Jvm.exec) (hZ : Z.Warmed39 s.vm) (eT : T.heap = h) (A : AL Z h a kc .byte vs) {j : Int32} (i : Nat) (v : Value) (hj0 : ¬ j < 0) (hj : j.toNatClampNeg = i) (hv : vs[i]? = some v) (hd : decode c.code pc = .ok (.baload, 1)) (K : Go p.tables e below G (T.setTop (mkF m (pc + 1) Ls (v :: rest)))) : Go p.tables e below G (T.setTop (mkF m pc Ls (.int j :: .ref a :: rest))) := by
  obtain ⟨cl, Ar, -, q2, q3⟩ := A.arr
  exact baload X hx hZ eT v Ar (inb q2 hj0 hj (List.getElem?_eq_some_iff.mp hv).1) (by rw [hj, q3]; exact hv) hd K
theorem zaloadL (X : Stand p l e R s m args below meth c T locs cells slots) (hx : p.tables.exec = Jvm.exec) (hZ : Z.Warmed39 s.vm) (eT : T.heap = h) (A : AL Z h a kc .boolean vs) {j : Int32} (i : Nat) (v : Value) (hj0 : ¬ j < 0) (hj : j.toNatClampNeg = i) (hv : vs[i]? = some v) (hd : decode c.code pc = .ok (.baload, 1)) (K : Go p.tables e below G (T.setTop (mkF m (pc + 1) Ls (v :: rest)))) : Go p.tables e below G (T.setTop (mkF m pc Ls (.int j :: .ref a :: rest))) := by
  obtain ⟨cl, Ar, -, q2, q3⟩ := A.arr
  exact zaload X hx hZ eT v Ar (inb q2 hj0 hj (List.getElem?_eq_some_iff.mp hv).1) (by rw [hj, q3]; exact hv) hd K
theorem aaloadL (X : Stand p l e R s m args below meth c T locs cells slots) (hx : p.tables.exec = Jvm.exec) (hZ : Z.Warmed39 s.vm) (eT : T.heap = h) {ty : FieldType} (A : AL Z h a kc ty vs) (hty : ty.isReference = true) {j : Int32} (i : Nat) (v : Value) (hj0 : ¬ j < 0) (hj : j.toNatClampNeg = i) (hv : vs[i]? = some v) (hd : decode c.code pc = .ok (.aaload, 1)) (K : Go p.tables e below G (T.setTop (mkF m (pc + 1) Ls (v :: rest)))) : Go p.tables e below G (T.setTop (mkF m pc Ls (.int j :: .ref a :: rest))) := by
  obtain ⟨cl, Ar, -, q2, q3⟩ := A.arr
  exact aaload X hx hZ eT v Ar hty (inb q2 hj0 hj (List.getElem?_eq_some_iff.mp hv).1) (by rw [hj, q3]; exact hv) hd K
theorem lengthL (X : Stand p l e R s m args below meth c T locs cells slots) (hx : p.tables.exec = Jvm.exec) (hZ : Z.Warmed39 s.vm) (eT : T.heap = h) {ty : FieldType} (A : AL Z h a kc ty vs) (N : Int32) (hN : vs.length.toInt32 = N) (hd : decode c.code pc = .ok (.arraylength, 1)) (K : Go p.tables e below G (T.setTop (mkF m (pc + 1) Ls (.int N :: rest)))) : Go p.tables e below G (T.setTop (mkF m pc Ls (.ref a :: rest))) := by
  obtain ⟨cl, Ar, -, q2, -⟩ := A.arr
  exact arraylength X hx hZ eT N Ar (by rw [q2]; exact hN) hd K
/-- a place where roads meet with an int on the stack: first what lies behind it, then the roads -/
theorem joinI (X : Stand p l e R s m args below meth c T locs cells slots) (eT : T.heap = h) (P : Int32 → Prop) (pcJ : Nat) {st : List Value}
    (J : ∀ v T', Stand p l e R s m args below meth c T' locs cells slots → T'.heap = h → P v → Go p.tables e below G (T'.setTop (mkF m pcJ Ls (.int v :: st))))
    (K : (∀ v T', Stand p l e R s m args below meth c T' locs cells slots → T'.heap = h → P v → Go p.tables e below G (T'.setTop (mkF m pcJ Ls (.int v :: st)))) → Go p.tables e below G (T.setTop (mkF m pc Ls st))) : Go p.tables e below G (T.setTop (mkF m pc Ls st)) := K J
/-- .. with other locals and nothing new on the stack -/
theorem join0 (X : Stand p l e R s m args below meth c T locs cells slots) (eT : T.heap = h) (P : Array Slot → Prop) (pcJ : Nat) {st : List Value}
    (J : ∀ L2 T', Stand p l e R s m args below meth c T' locs cells slots → T'.heap = h → P L2 → Go p.tables e below G (T'.setTop (mkF m pcJ L2 st)))
    (K : (∀ L2 T', Stand p l e R s m args below meth c T' locs cells slots → T'.heap = h → P L2 → Go p.tables e below G (T'.setTop (mkF m pcJ L2 st))) → Go p.tables e below G (T.setTop (mkF m pc Ls st))) : Go p.tables e below G (T.setTop (mkF m pc Ls st)) := K J
end ALsteps
end Jvm.Ow
namespace Jvm.Ow
open Sem ClassFile Op Lib Jvm.Stand Jvm.Free Jvm.LawKit Jvm.RoadKit
/-- what a walk that may load literals bears besides its Stand over (s.setVm vm0): s is the method's start, h the heap at hand -/
def Wd (s Z : State) (EL : List (String × Nat)) (vm0 : Vm) (h : Heap) : Prop := (∃ k0, s.Since vm0 k0 ∧ k0 ≤ h.size) ∧ Z.Warmed39 vm0 ∧ CHr Z EL s.vm s.heap vm0 h
section Wides
variable {s Z : State} {EL : List (String × Nat)} {vm0 vm1 : Vm} {h h' : Heap}
theorem Wd.hZ (D : Wd s Z EL vm0 h) : Z.Warmed39 vm0 := D.2.1
theorem Wd.ch (D : Wd s Z EL vm0 h) : CHv Z EL vm0 h := D.2.2.1
theorem Wd.start (hZ : Z.Warmed39 s.vm) (H : CHv Z EL s.vm s.heap) : Wd s Z EL s.vm s.heap := ⟨⟨_, (State.WarmedH.refl s).since s.heap.size, Nat.le_refl _⟩, hZ, CHr.refl H⟩
theorem Wd.to (D : Wd s Z EL vm0 h) (C : CHr Z EL vm0 h vm0 h') : Wd s Z EL vm0 h' := by
  obtain ⟨⟨k0, h1, h2⟩, h3, h4⟩ := D
  exact ⟨⟨k0, h1, Nat.le_trans h2 C.2.1⟩, h3, h4.trans C⟩
theorem Wd.ext (D : Wd s Z EL vm0 h) (E : Ext h h') : Wd s Z EL vm0 h' := D.to (CHr.ext E D.ch)
theorem Wd.wr (D : Wd s Z EL vm0 h) {a : Addr} {sl : Nat} {v : Value} (W : Wr h h' a sl v) (S : Safe Z EL vm0 h a) : Wd s Z EL vm0 h' := D.to (CHr.wr W S D.ch)
theorem Wd.keep (D : Wd s Z EL vm0 h) {ws : List Addr} (K : Keep h h' ws) (S : ∀ x ∈ ws, Safe Z EL vm0 h x) : Wd s Z EL vm0 h' := D.to (CHr.keep K S D.ch)
theorem Wd.safeExt (D : Wd s Z EL vm0 h) (E : Ext h h') {x : Addr} (S : Safe Z EL vm0 h x) : Safe Z EL vm0 h' x := S.ext E D.ch
theorem Wd.safeNew (D : Wd s Z EL vm0 h) (E : Ext h h') : Safe Z EL vm0 h' h.size := (Safe.new (Nat.le_refl _)).ext E D.ch
theorem Wd.safeWr (D : Wd s Z EL vm0 h) {a : Addr} {sl : Nat} {v : Value} (W : Wr h h' a sl v) (S : Safe Z EL vm0 h a) {x : Addr} (Sx : Safe Z EL vm0 h x) : Safe Z EL vm0 h' x := Safe.wr W S D.ch Sx
theorem Wd.safeKeep (D : Wd s Z EL vm0 h) {ws : List Addr} (K : Keep h h' ws) (S : ∀ x ∈ ws, Safe Z EL vm0 h x) {x : Addr} (Sx : Safe Z EL vm0 h x) : Safe Z EL vm0 h' x := Sx.keep K S D.ch
/-- what a wide contract says of its end -/
abbrev EndW (Z : State) (EL : List (String × Nat)) (s : State) (Q : Option Value → Heap → List Loc → Prop) (k n : Nat) : Outcome → State → Prop := fun o t => ∃ v L, o = .returned v ∧ Q v t.heap L ∧ CHr Z EL s.vm s.heap t.vm t.heap ∧ ReturnedEndW s o t L k n
variable {p : Program} {l : Launch} {e : Env} {R : Room} {m : MethodId} {args : Array Value} {below : List Frame} {meth : Method} {c : Code} {T : State} {locs : List Loc} {cells slots : Nat} {pc pc' : Nat} {Ls : Array Slot} {rest : List Value} {Q : Option Value → Heap → List Loc → Prop} {k n : Nat} {a0 : Array Value}
theorem sbn_mono {s t : State} {o : Outcome} {L : List Loc} {k n k' n' : Nat} (h : ReturnedEndW s o t L k n) (hk : k ≤ k') (hn : n ≤ n') : ReturnedEndW s o t L k' n' := ⟨h.1, h.2.1, h.2.2.1, h.2.2.2.mono hk hn⟩
theorem fin_ofW (X : Stand p l e R (s.setVm vm0) m args below meth c T locs cells slots) (eT : T.heap = h) (D : Wd s Z EL vm0 h) (hEL : EW Z a0 EL) (hlk : meth.locks = false) {v : Option Value} (hv : meth.sig.returnType = none → v = none) {g : JFrame} (st : ∀ fs, (∀ (f : JFrame) (acts : List Action), f.method = m → f.locked = none → f.entered = [] → (doReturn e (T.setTop f) acts v).1 = T.setFrames fs) → Steps p.tables e below (T.setTop g) (T.setFrames fs)) (hQ : Q v T.heap locs) (hk : cells ≤ k) (hn : slots ≤ n) : Go p.tables e below (EndW Z EL s Q k n) (T.setTop g) := by
  subst eT
  obtain ⟨⟨k0, hS, hk0⟩, hZ, C⟩ := D
  have A : CHr Z EL s.vm s.heap T.vm T.heap := C.trans (CHv.at X hZ hEL C.1)
  obtain ⟨fs, hr, hrun, hended, hE⟩ := X.leaveW hS hk0 (v := v) hv hlk
  exact ⟨_, _, st fs hr, hrun, hended, _, _, rfl, hQ, A, sbn_mono hE hk hn⟩
theorem ireturnW (X : Stand p l e R (s.setVm vm0) m args below meth c T locs cells slots) (hx : p.tables.exec = Jvm.exec) (eT : T.heap = h) (D : Wd s Z EL vm0 h) (hEL : EW Z a0 EL) (hlk : meth.locks = false) {z : Int32} (hret : meth.sig.returnType = some .int) (hd : decode c.code pc = .ok (.ireturn, 1)) (hQ : Q (some (.int z)) T.heap locs) (hk : cells ≤ k) (hn : slots ≤ n) : Go p.tables e below (EndW Z EL s Q k n) (T.setTop (mkF m pc Ls (.int z :: rest))) :=
  fin_ofW X eT D hEL hlk (v := some (.int z)) (fun h => by rw [hret] at h; cases h) (fun fs hr => retOut X hx hret rfl (Or.inl ⟨rfl, Or.inl rfl, z, rfl⟩) hd hr) hQ hk hn
theorem nreturnW (X : Stand p l e R (s.setVm vm0) m args below meth c T locs cells slots) (hx : p.tables.exec = Jvm.exec) (eT : T.heap = h) (D : Wd s Z EL vm0 h) (hEL : EW Z a0 EL) (hlk : meth.locks = false) {z : Int32} {t : FieldType} (hret : meth.sig.returnType = some t) (ht : t = .boolean ∨ t = .byte ∨ t = .char ∨ t = .short) (hd : decode c.code pc = .ok (.ireturn, 1)) (hQ : Q (some (.int (nar t z))) T.heap locs) (hk : cells ≤ k) (hn : slots ≤ n) : Go p.tables e below (EndW Z EL s Q k n) (T.setTop (mkF m pc Ls (.int z :: rest))) :=
  fin_ofW X eT D hEL hlk (v := some (.int (nar t z))) (fun h => by rw [hret] at h; cases h) (fun fs hr => retN X hx hret ht hd hr) hQ hk hn
theorem areturnW (X : Stand p l e R (s.setVm vm0) m args below meth c T locs cells slots) (hx : p.tables.exec = Jvm.exec) (eT : T.heap = h) (D : Wd s Z EL vm0 h) (hEL : EW Z a0 EL) (hlk : meth.locks = false) {w : Value} {t : FieldType} (hret : meth.sig.returnType = some t) (ht : t.isReference = true) (hw : w.isRef = true) (hna : narrow t w = w) (hd : decode c.code pc = .ok (.areturn, 1)) (hQ : Q (some w) T.heap locs) (hk : cells ≤ k) (hn : slots ≤ n) : Go p.tables e below (EndW Z EL s Q k n) (T.setTop (mkF m pc Ls (w :: rest))) :=
  fin_ofW X eT D hEL hlk (v := some w) (fun h => by rw [hret] at h; cases h) (fun fs hr => retOut X hx hret hna (Or.inr (Or.inr (Or.inr (Or.inr ⟨rfl, ht, hw⟩)))) hd hr) hQ hk hn
theorem vreturnW (X : Stand p l e R (s.setVm vm0) m args below meth c T locs cells slots) (hx : p.tables.exec = Jvm.exec) (eT : T.heap = h) (D : Wd s Z EL vm0 h) (hEL : EW Z a0 EL) (hlk : meth.locks = false) (hret : meth.sig.returnType = none) (hd : decode c.code pc = .ok (.return_, 1)) (hQ : Q none T.heap locs) (hk : cells ≤ k) (hn : slots ≤ n) : Go p.tables e below (EndW Z EL s Q k n) (T.setTop (mkF m pc Ls [])) :=
  fin_ofW X eT D hEL hlk (v := none) (fun _ => rfl) (fun fs hr => X.returnOut hx hret hd hr) hQ hk hn
/-- ldc of a literal whose text is held -/
theorem ldcS {G : Outcome → State → Prop} (X : Stand p l e R (s.setVm vm0) m args below meth c T locs cells slots) (hx : p.tables.exec = Jvm.exec) (eT : T.heap = h) (D : Wd s Z EL vm0 h) (hEL : EW Z a0 EL) {own text : String} {index : Nat} (hown : vm0.findClass own = some m.cls) (w : (Cond.stringLink own index text).before a0 Z = true) (wS : ∀ a ∈ Bundle.stringAtoms, a.before a0 Z = true) (hmem : (own, index) ∈ EL)
    {vs : List Value} {z : Int32} (ht : (∀ c ∈ text.toList, c.toNat < 256) ∧ text.toList.map (fun c => Value.int (Jvm.Lit.byteI c.toNat.toUInt16)) = vs) (hz : ¬ z < 0) (hl : z.toNatClampNeg = vs.length) (hd : decode c.code pc = .ok (.ldc index, 2)) (n : Nat) (hn : 4 * text.toList.length ≤ n) (hbig : n ≤ 536870912) (hc : cells + 2 ≤ R.cells) (hl' : slots + (n + 4) ≤ R.slots)
    (K : ∀ (vm1 : Vm) (a : Addr) (T' : State) (h' : Heap) (b : Addr) (kc : ClassId), Stand p l e R (s.setVm vm1) m args below meth c T' locs (cells + 2) (slots + (n + 4)) → T'.heap = h' → Ext h h' → Wd s Z EL vm1 h' → vm1.findClass own = some m.cls → CHr Z EL vm0 h vm1 h' →
      Exa Z h' a "java/lang/String" → Fld Z h' a "java/lang/String" "coder" "B" (.int 0) → Fld Z h' a "java/lang/String" "value" "[B" (.ref b) → Arv Z h' b kc .byte z vs (.int 0) → (∀ x, Safe Z EL vm1 h' x → x ≠ a ∧ x ≠ b) → Go p.tables e below G (T'.setTop (mkF m (pc + 2) Ls (.ref a :: rest)))) : Go p.tables e below G (T.setTop (mkF m pc Ls rest)) := by
  obtain ⟨⟨k0, hS, hk0⟩, hZ, C⟩ := D
  obtain ⟨a, T', h', k1, b, kc, X', e', E, hS', hk1, hW, hf, A, F1, F2, V, -, -, C', -, hne, st⟩ := ldcCH X hx hZ hown w wS eT hS hk0 hEL hmem C.1 ht hz hl (g := mkF m pc Ls rest) rfl hd hn hbig hc hl'
  exact (K T'.vm a T' h' b kc X' e' E ⟨⟨k1, hS', hk1⟩, hW, C.trans C'⟩ hf C' A F1 F2 V hne).via st
/-- ldc of any literal, its text unread -/
theorem ldcO {G : Outcome → State → Prop} (X : Stand p l e R (s.setVm vm0) m args below meth c T locs cells slots) (hx : p.tables.exec = Jvm.exec) (eT : T.heap = h) (D : Wd s Z EL vm0 h) (hEL : EW Z a0 EL) {own text : String} {index : Nat} (hown : vm0.findClass own = some m.cls) (w : (Cond.stringLink own index text).before a0 Z = true) (wS : ∀ a ∈ Bundle.stringAtoms, a.before a0 Z = true)
    (hd : decode c.code pc = .ok (.ldc index, 2)) (n : Nat) (hn : 4 * text.toList.length ≤ n) (hbig : n ≤ 536870912) (hc : cells + 2 ≤ R.cells) (hl' : slots + (n + 4) ≤ R.slots)
    (K : ∀ (vm1 : Vm) (a : Addr) (T' : State) (h' : Heap), Stand p l e R (s.setVm vm1) m args below meth c T' locs (cells + 2) (slots + (n + 4)) → T'.heap = h' → Ext h h' → Wd s Z EL vm1 h' → vm1.findClass own = some m.cls → CHr Z EL vm0 h vm1 h' → Go p.tables e below G (T'.setTop (mkF m (pc + 2) Ls (.ref a :: rest)))) : Go p.tables e below G (T.setTop (mkF m pc Ls rest)) := by
  obtain ⟨⟨k0, hS, hk0⟩, hZ, C⟩ := D
  obtain ⟨a, T', h', k1, X', e', E, hS', hk1, hW, hf, C', -, st⟩ := ldcOH X hx hZ hown w wS eT hS hk0 hEL C.1 (g := mkF m pc Ls rest) rfl hd hn hbig hc hl'
  exact (K T'.vm a T' h' X' e' E ⟨⟨k1, hS', hk1⟩, hW, C.trans C'⟩ hf C').via st
end Wides
section PaysW
/-- a wide contract; the cells sf are none of a booked literal's -/
def PayW (l : Launch) (Z : State) (EL : List (String × Nat)) (sf : List Addr) (y : MethodName) (bytes : ByteArray) (maxL : Nat) (ret : Option FieldType) (rm : Room) (as' : Array Value) (h0 : Heap) (Q : Option Value → Heap → List Loc → Prop) : Prop :=
  ∀ ws : List Jvm.Cond, MetFree l y (head1 (Jvm.Cond.code y bytes maxL ret :: ws) rm) (fun a U => a = as' ∧ Z.Warmed39 U.vm ∧ U.heap = h0 ∧ CHv Z EL U.vm h0 ∧ ∀ x ∈ sf, Safe Z EL U.vm h0 x) (fun _ _ _ _ _ => True) (fun _ U o U' => ∃ v L, o = .returned v ∧ Q v U'.heap L ∧ CHr Z EL U.vm U.heap U'.vm U'.heap ∧ ReturnedEndW U o U' L rm.cells rm.slots)
variable {l : Launch} {Z : State} {EL : List (String × Nat)} {sf : List Addr} {y : MethodName} {bytes : ByteArray} {maxL : Nat} {ret : Option FieldType} {rm : Room} {as' : Array Value} {h0 : Heap} {Q : Option Value → Heap → List Loc → Prop}
theorem PayW.of {Ls : Array Slot} (hpn : plainFor y = true) (hef : ∀ m, entryFrame m as' maxL = mkF m 0 Ls [])
    (body : ∀ (p : Program) (e : Env) (s : State) (m : MethodId) (below : List Frame) (meth : Method) (c : Code) (T : State) (vm0 : Vm), p.tables.exec = Jvm.exec → c.code = bytes → c.maxLocals = maxL → vm0.findClass y.cls = some m.cls → s.methodNamed? y = some m → s.vm.method? m = some meth → meth.sig.returnType = ret → meth.locks = false → Stand p l e rm (s.setVm vm0) m as' below meth c T [] 0 0 → T.heap = h0 → Wd s Z EL vm0 h0 → (∀ x ∈ sf, Safe Z EL vm0 h0 x) →
      Go p.tables e below (EndW Z EL s Q rm.cells rm.slots) (T.setTop (mkF m 0 Ls []))) : PayW l Z EL sf y bytes maxL ret rm as' h0 Q := by
  intro ws
  refine MetFree.of_bodySF hpn hisR ?_
  intro p e s m args below meth c s₁ Bd hml0 hP hK
  obtain ⟨rfl, hZ, hh, H, hsf⟩ := hP
  rw [hef m]
  subst hh
  exact body p e s m below meth c s₁ s.vm Bd.exec Bd.bytes hml0 (findClass_of_methodNamed Bd.named) Bd.named Bd.method Bd.returns Bd.notSynchronized (Stand.of_body Bd) (by rw [Bd.state]; rfl) (Wd.start hZ H) hsf
variable {p : Program} {e : Env} {R : Room} {s : State} {vm0 : Vm} {m : MethodId} {args : Array Value} {below : List Frame} {meth : Method} {c : Code} {T : State} {locs : List Loc} {cells slots : Nat} {G : Outcome → State → Prop} {pc : Nat} {Ls : Array Slot} {a0 : Array Value}
/-- its payer -/
theorem backW {len W : Nat} (hP : PayW l Z EL sf y bytes maxL ret rm as' h0 Q) (hZ : Z.Warmed39 vm0) (wc : (Cond.code y bytes maxL ret).before a0 Z = true) (wz : (Cond.initialized y.cls).before a0 Z = true) (hf : rm.frames + 1 ≤ R.frames) (hl : W + (maxL + 11) + rm.locals ≤ R.locals) (hEL : EW Z a0 EL) (H : CHv Z EL vm0 h0) (hsf : ∀ x ∈ sf, x < h0.size ∧ Safe Z EL vm0 h0 x) :
    BackS l R p e below (s.setVm vm0) args y len W (fun A a => a = as' ∧ A.U.heap = h0 ∧ A.cells + rm.cells ≤ R.cells ∧ A.slots + rm.slots ≤ R.slots)
      (fun A _ v B => ∃ L, Q v B.U.heap L ∧ B.locs = A.locs ++ L ∧ B.cells = A.cells + rm.cells ∧ B.slots = A.slots + rm.slots ∧ CHr Z EL vm0 h0 B.U.vm B.U.heap) := by
  have at' : ∀ (m : MethodId) (meth : Method) (c : Code) (A : Pt), Stand p l e R (s.setVm vm0) m args below meth c A.U A.locs A.cells A.slots → Z.Warmed39 A.U.vm ∧ CHr Z EL vm0 h0 A.U.vm h0 := fun m meth c A Y => ⟨wtrans (s := s.setVm vm0) hZ Y.warmed, CHv.at Y hZ hEL H⟩
  refine BackS.of_freeW (bytes := bytes) (maxL := maxL) (ret := ret) (E := fun _ first o t L k n => k = rm.cells ∧ n = rm.slots ∧ (∃ v, o = .returned v ∧ Q v t.heap L) ∧ CHr Z EL first.vm first.heap t.vm t.heap) (hP []) hf hl ?_ ?_ (fun _ _ _ _ _ _ _ _ _ => trivial) ?_ ?_
  · intro m meth c A a Y hp
    have hU := (at' m meth c A Y).1
    refine ⟨?_, mv hU wc, mv hU wz, hp.2.2.1, hp.2.2.2⟩
    show (Cond.and _ .tt).before a A.U = true
    rw [Cond.before_and, mv hU wc]; rfl
  · intro m meth c A a g mk Y hp
    obtain ⟨hU, hC⟩ := at' m meth c A Y
    exact ⟨hp.1, hU, hp.2.1, hC.1, fun x hx => hC.safe (hsf x hx).1 (hsf x hx).2⟩
  · rintro _ _ _ _ ⟨v, L, h1, h2, h3, h4⟩
    exact ⟨L, _, _, h4, rfl, rfl, ⟨v, h1, h2⟩, h3⟩
  · rintro m meth c A a g mk v t L k n Y hp _ _ ⟨e1, e2, ⟨v', e3, e4⟩, e5⟩
    cases e3; subst e1 e2
    refine ⟨L, e4, rfl, rfl, rfl, (at' m meth c A Y).2.trans ?_⟩
    rw [← hp.2.1]; exact e5
/-- invokestatic by a wide contract -/
theorem callSW (X : Stand p l e R (s.setVm vm0) m args below meth c T locs cells slots) (hx : p.tables.exec = Jvm.exec) (hP : PayW l Z EL sf y bytes maxL ret rm as' h0 Q) (eT : T.heap = h0) (D : Wd s Z EL vm0 h0) (hEL : EW Z a0 EL) (hsf : ∀ x ∈ sf, x < h0.size ∧ Safe Z EL vm0 h0 x) {own : String} {index : Nat} (hown : vm0.findClass own = some m.cls)
    (wl : (Cond.methodLink own index y).before a0 Z = true) (wst : (Cond.static y).before a0 Z = true) (wz : (Cond.initialized y.cls).before a0 Z = true) (wc : (Cond.code y bytes maxL ret).before a0 Z = true)
    (hy : y.cls ≠ "java/lang/invoke/MethodHandle" ∧ y.cls ≠ "java/lang/invoke/VarHandle") {ps : List FieldType} {rt : Option FieldType} (hpd : parseMethodDescriptor y.desc = some ⟨ps, rt⟩) (hsz : Ls.size = c.maxLocals)
    {argsL rest st : List Value} (has : argsL.toArray = as') (hlen : argsL.length = ps.length) (hst : st = argsL.reverse ++ rest) (hd : decode c.code pc = .ok (.invokestatic index, 3))
    (hf : (rm.frames + 1).ble R.frames = true) (hlo : ((rest.map fun v => v.category).sum + (maxL + 11) + rm.locals).ble R.locals = true) (hce : cells + rm.cells ≤ R.cells) (hsl : slots + rm.slots ≤ R.slots)
    (K : ∀ (v : Option Value) (vm1 : Vm) (T' : State) (L : List Loc), Stand p l e R (s.setVm vm1) m args below meth c T' (locs ++ L) (cells + rm.cells) (slots + rm.slots) → Q v T'.heap L → Wd s Z EL vm1 T'.heap → vm1.findClass own = some m.cls → CHr Z EL vm0 h0 vm1 T'.heap → Go p.tables e below G (T'.setTop (mkF m (pc + 3) Ls (v.toList ++ rest)))) :
    Go p.tables e below G (T.setTop (mkF m pc Ls st)) := by
  have hy' := hy
  obtain ⟨⟨k0, hS, hk0⟩, hZ, C⟩ := D
  have hZ' : Z.Warmed39 (s.setVm vm0).vm := hZ
  have hown' : (s.setVm vm0).vm.findClass own = some m.cls := hown
  obtain ⟨_, _, ⟨T1, L1, k1, n1⟩, -, X1, S1, g1, ⟨Lc, hQ, l1, y1, z1, C1⟩, st1⟩ := callSS X hx (y := y) hown' (mvT hZ' wl) (mvT hZ' wst) (mvT hZ' wz) (mvT hZ' wc) hy' (backW (W := (rest.map fun v => v.category).sum) hP hZ wc wz (Nat.le_of_ble_eq_true hf) (Nat.le_of_ble_eq_true hlo) hEL C.1 hsf) (g := mkF m pc Ls st) rfl hsz (argsL := argsL) (rest := rest) (lenOf hpd hlen) hst (by show 2 * 0 + _ ≤ _; omega) hd (fun _ _ => ⟨has, eT, hce, hsl⟩)
  dsimp only [Pt.U, Pt.locs, Pt.cells, Pt.slots] at X1 l1 y1 z1 st1 hQ S1 g1 C1
  subst l1 y1 z1
  obtain ⟨X2, S2, Z2, O2⟩ := rebS hS (by rw [← eT] at hk0; exact hk0) X1 S1 g1 hZ' hown'
  exact (K _ T1.vm _ _ X2 hQ ⟨⟨_, S2, Nat.le_refl _⟩, Z2, C.trans C1⟩ O2 C1).thru st1
/-- invokespecial of a constructor by a wide contract -/
theorem callIW (X : Stand p l e R (s.setVm vm0) m args below meth c T locs cells slots) (hx : p.tables.exec = Jvm.exec) (hP : PayW l Z EL sf y bytes maxL none rm as' h0 Q) (eT : T.heap = h0) (D : Wd s Z EL vm0 h0) (hEL : EW Z a0 EL) (hsf : ∀ x ∈ sf, x < h0.size ∧ Safe Z EL vm0 h0 x) (hni : y.name = "<init>") {own : String} {index : Nat} (hown : vm0.findClass own = some m.cls)
    (wl : (Cond.methodLink own index y).before a0 Z = true) (win : (Cond.instanceMethod y).before a0 Z = true) (wz : (Cond.initialized y.cls).before a0 Z = true) (wc : (Cond.code y bytes maxL none).before a0 Z = true)
    (hy : y.cls ≠ "java/lang/invoke/MethodHandle" ∧ y.cls ≠ "java/lang/invoke/VarHandle") {ps : List FieldType} {rt : Option FieldType} (hpd : parseMethodDescriptor y.desc = some ⟨ps, rt⟩) (hsz : Ls.size = c.maxLocals)
    {a : Addr} {argsL rest st : List Value} (has : (.ref a :: argsL).toArray = as') (hlen : argsL.length = ps.length) (hst : st = argsL.reverse ++ .ref a :: rest) (hd : decode c.code pc = .ok (.invokespecial index, 3))
    (hf : (rm.frames + 1).ble R.frames = true) (hlo : ((rest.map fun v => v.category).sum + (maxL + 11) + rm.locals).ble R.locals = true) (hce : cells + rm.cells ≤ R.cells) (hsl : slots + rm.slots ≤ R.slots)
    (K : ∀ (v : Option Value) (vm1 : Vm) (T' : State) (L : List Loc), Stand p l e R (s.setVm vm1) m args below meth c T' (locs ++ L) (cells + rm.cells) (slots + rm.slots) → Q v T'.heap L → Wd s Z EL vm1 T'.heap → vm1.findClass own = some m.cls → CHr Z EL vm0 h0 vm1 T'.heap → Go p.tables e below G (T'.setTop (mkF m (pc + 3) Ls (v.toList ++ rest)))) :
    Go p.tables e below G (T.setTop (mkF m pc Ls st)) := by
  have hy' := hy
  obtain ⟨⟨k0, hS, hk0⟩, hZ, C⟩ := D
  have hZ' : Z.Warmed39 (s.setVm vm0).vm := hZ
  have hown' : (s.setVm vm0).vm.findClass own = some m.cls := hown
  obtain ⟨_, _, ⟨T1, L1, k1, n1⟩, -, X1, S1, g1, ⟨Lc, hQ, l1, y1, z1, C1⟩, st1⟩ := X.specialBackS hx (y := y) hni hown' (mvT hZ' wl) (mvT hZ' win) (mvT hZ' wc) hy' (backW (W := (rest.map fun v => v.category).sum) hP hZ wc wz (Nat.le_of_ble_eq_true hf) (Nat.le_of_ble_eq_true hlo) hEL C.1 hsf) (g := mkF m pc Ls st) rfl hsz (Steps.refl _) (a := a) (argsL := argsL) (rest := rest) (lenOf hpd hlen) hst (by show 2 * 0 + _ ≤ _; omega) hd (fun _ _ => ⟨has, eT, hce, hsl⟩)
  dsimp only [Pt.U, Pt.locs, Pt.cells, Pt.slots] at X1 l1 y1 z1 st1 hQ S1 g1 C1
  subst l1 y1 z1
  obtain ⟨X2, S2, Z2, O2⟩ := rebS hS (by rw [← eT] at hk0; exact hk0) X1 S1 g1 hZ' hown'
  exact (K _ T1.vm _ _ X2 hQ ⟨⟨_, S2, Nat.le_refl _⟩, Z2, C.trans C1⟩ O2 C1).thru st1
/-- invokevirtual by a wide contract -/
theorem callVW (X : Stand p l e R (s.setVm vm0) m args below meth c T locs cells slots) (hx : p.tables.exec = Jvm.exec) (hP : PayW l Z EL sf y bytes maxL ret rm as' h0 Q) (eT : T.heap = h0) (D : Wd s Z EL vm0 h0) (hEL : EW Z a0 EL) (hsf : ∀ x ∈ sf, x < h0.size ∧ Safe Z EL vm0 h0 x) {C : String} {own : String} {index : Nat} (hown : vm0.findClass own = some m.cls)
    (wl : (Cond.methodLink own index y).before a0 Z = true) (wd : (Cond.declares y).before a0 Z = true) (wse : (Cond.selects C y y).before a0 Z = true) (win : (Cond.instanceMethod y).before a0 Z = true) (wz : (Cond.initialized y.cls).before a0 Z = true) (wc : (Cond.code y bytes maxL ret).before a0 Z = true)
    (hy : y.cls ≠ "java/lang/invoke/MethodHandle" ∧ y.cls ≠ "java/lang/invoke/VarHandle") {ps : List FieldType} {rt : Option FieldType} (hpd : parseMethodDescriptor y.desc = some ⟨ps, rt⟩) (hsz : Ls.size = c.maxLocals)
    {a : Addr} (E : Exa Z h0 a C) {argsL rest st : List Value} (has : (.ref a :: argsL).toArray = as') (hlen : argsL.length = ps.length) (hst : st = argsL.reverse ++ .ref a :: rest) (hd : decode c.code pc = .ok (.invokevirtual index, 3))
    (hf : (rm.frames + 1).ble R.frames = true) (hlo : ((rest.map fun v => v.category).sum + (maxL + 11) + rm.locals).ble R.locals = true) (hce : cells + rm.cells ≤ R.cells) (hsl : slots + rm.slots ≤ R.slots)
    (K : ∀ (v : Option Value) (vm1 : Vm) (T' : State) (L : List Loc), Stand p l e R (s.setVm vm1) m args below meth c T' (locs ++ L) (cells + rm.cells) (slots + rm.slots) → Q v T'.heap L → Wd s Z EL vm1 T'.heap → vm1.findClass own = some m.cls → CHr Z EL vm0 h0 vm1 T'.heap → Go p.tables e below G (T'.setTop (mkF m (pc + 3) Ls (v.toList ++ rest)))) :
    Go p.tables e below G (T.setTop (mkF m pc Ls st)) := by
  have hy' := hy
  obtain ⟨⟨k0, hS, hk0⟩, hZ, C2⟩ := D
  have hZ' : Z.Warmed39 (s.setVm vm0).vm := hZ
  have hown' : (s.setVm vm0).vm.findClass own = some m.cls := hown
  obtain ⟨cq, kq, qa, qb, qc⟩ := isOf hZ' eT E
  obtain ⟨_, _, ⟨T1, L1, k1, n1⟩, -, X1, S1, g1, ⟨Lc, hQ, l1, y1, z1, C1⟩, st1⟩ := X.virtualBackS hx (y := y) (z := y) hown' (mvT hZ' wl) (mvT hZ' wd) (notFace_of_selects (args := #[]) (mvT hZ' wse)) (mvT hZ' wse) (mvT hZ' win) hy' (backW (W := (rest.map fun v => v.category).sum) hP hZ wc wz (Nat.le_of_ble_eq_true hf) (Nat.le_of_ble_eq_true hlo) hEL C2.1 hsf) qa qc (g := mkF m pc Ls st) rfl hsz (Steps.refl _) (argsL := argsL) (rest := rest) (lenOf hpd hlen) hst (by show 2 * 0 + _ ≤ _; omega) hd (fun _ _ => ⟨has, eT, hce, hsl⟩)
  dsimp only [Pt.U, Pt.locs, Pt.cells, Pt.slots] at X1 l1 y1 z1 st1 hQ S1 g1 C1
  subst l1 y1 z1
  obtain ⟨X2, S2, Z2, O2⟩ := rebS hS (by rw [← eT] at hk0; exact hk0) X1 S1 g1 hZ' hown'
  exact (K _ T1.vm _ _ X2 hQ ⟨⟨_, S2, Nat.le_refl _⟩, Z2, C2.trans C1⟩ O2 C1).thru st1
end PaysW
end Jvm.Ow
namespace Jvm.Ow
open Sem ClassFile Op Lib Jvm.Stand Jvm.Free Jvm.LawKit Jvm.RoadKit
/-- a compact String at x, its bytes bs at t -/
def Str (Z : State) (h : Heap) (x t : Addr) (kb : ClassId) (bs : List Int32) : Prop := Exa Z h x "java/lang/String" ∧ Fld Z h x "java/lang/String" "coder" "B" (.int 0) ∧ Fld Z h x "java/lang/String" "value" "[B" (.ref t) ∧ AL Z h t kb .byte (bs.map Value.int)
section Strs
variable {Z : State} {h h' : Heap} {x t : Addr} {kb : ClassId} {bs : List Int32} {ws : List Addr}
theorem Str.ext (S : Str Z h x t kb bs) (E : Ext h h') : Str Z h' x t kb bs := ⟨S.1.ext E, S.2.1.ext E, S.2.2.1.ext E, S.2.2.2.ext E⟩
theorem Str.keep (S : Str Z h x t kb bs) (K : Keep h h' ws) (q1 : x ∉ ws) (q2 : t ∉ ws) : Str Z h' x t kb bs := ⟨S.1.keep K, S.2.1.keep K q1, S.2.2.1.keep K q1, S.2.2.2.keep K q2⟩
theorem Str.lt (S : Str Z h x t kb bs) : x < h.size := S.1.lt
theorem Str.ltB (S : Str Z h x t kb bs) : t < h.size := S.2.2.2.lt
theorem shr0 (c : Int32) : c >>> ((0 : Int32) &&& 31) = c := by
  have h : ((0 : Int32) &&& 31) = 0 := by decide
  rw [h]
  apply Int32.toBitVec_inj.mp
  simp
theorem n_cl {n : Nat} (hn : n < 2147483648) : (Int32.ofNat n).toNatClampNeg = n := by
  rw [Int32.toNatClampNeg, Int32.toInt_ofNat_of_lt hn]; rfl
theorem n_nn {n : Nat} (hn : n < 2147483648) : ¬ Int32.ofNat n < 0 := by
  rw [Int32.lt_iff_toInt_lt, Int32.toInt_ofNat_of_lt hn, show (0 : Int32).toInt = 0 from rfl]; omega
theorem n_lt {i n : Nat} (hi : i < 2147483648) (hn : n < 2147483648) : Int32.ofNat i < Int32.ofNat n ↔ i < n := by
  rw [Int32.lt_iff_toInt_lt, Int32.toInt_ofNat_of_lt hi, Int32.toInt_ofNat_of_lt hn]; omega
theorem n_one (i : Nat) : Int32.ofNat i + (1 : Int32) = Int32.ofNat (i + 1) := (Int32.ofNat_add i 1).symm
theorem n_eq {i n : Nat} (hi : i < 2147483648) (hn : n < 2147483648) : Int32.ofNat i = Int32.ofNat n ↔ i = n := by
  refine ⟨fun h => ?_, fun h => by rw [h]⟩
  have := congrArg Int32.toNatClampNeg h
  rwa [n_cl hi, n_cl hn] at this
end Strs
end Jvm.Ow
namespace Jvm.Ow
open Sem ClassFile Op Lib Jvm.Stand Jvm.Free Jvm.LawKit Jvm.RoadKit
theorem staKeep {Z : State} {h h' : Heap} {C n d : String} {v : Value} {ws : List Addr} (S : Sta Z h C n d v) (K : Keep h h' ws) (q : ∀ x ∈ ws, ∃ c : Cell, h[x]? = some c ∧ c.vm.isStatics = false) : Sta Z h' C n d v := by
  obtain ⟨cf, i, k, f, st, cell, h1, h2, h3, h4, h5, h6, h7⟩ := S
  refine ⟨cf, i, k, f, st, cell, h1, h2, h3, h4, K.2.1 st cell h5 fun hm => ?_, h6, h7⟩
  obtain ⟨c, hc, hs⟩ := q st hm
  cases h5.symm.trans hc
  rw [hs] at h6; cases h6
theorem Exa.plain {Z : State} {h : Heap} {a : Addr} {C : String} (A : Exa Z h a C) : ∃ c : Cell, h[a]? = some c ∧ c.vm.isStatics = false := by
  obtain ⟨c, _, h1, -, -, h4, -⟩ := A; exact ⟨c, h1, h4⟩
theorem AL.plain {Z : State} {h : Heap} {a : Addr} {k : ClassId} {ty : FieldType} {vs : List Value} (A : AL Z h a k ty vs) : ∃ c : Cell, h[a]? = some c ∧ c.vm.isStatics = false := by
  obtain ⟨c, A, -⟩ := A; exact ⟨c, A.1, A.plain⟩
theorem AL.safe {Z : State} {EL : List (String × Nat)} {vm : Vm} {h : Heap} {a : Addr} {k : ClassId} {ty : FieldType} {vs : List Value} (A : AL Z h a k ty vs) (hal : Z.vm.Alike vm) (ht : ty ≠ .byte) : Safe Z EL vm h a := by
  obtain ⟨c, A, -⟩ := A; exact Safe.arr hal A ht
theorem nin1 {x y : Addr} (q : x ≠ y) : x ∉ [y] := fun z => q (List.mem_singleton.mp z)
end Jvm.Ow
namespace Jvm.Ow
open Sem ClassFile Op Lib Jvm.Stand Jvm.Free Jvm.LawKit Jvm.RoadKit
section Starts
variable {args : Array Value} {s : State} {t u : Term} {x : Addr} {C n d : String} {cl : Cell} {ty : FieldType}
theorem eqI_at {k : Int32} (h : (Cond.eq t (.int k)).value args s none s [] = some true) : t.eval args s none [] s = some (.int k) := by
  simp only [Cond.value, Term.eval] at h
  cases ht : t.eval args s none [] s with
  | none => simp [ht] at h
  | some v => cases v <;> simp [ht] at h ⊢ <;> exact h
theorem eqJ_at {k : Int64} (h : (Cond.eq t (.long k)).value args s none s [] = some true) : t.eval args s none [] s = some (.long k) := by
  simp only [Cond.value, Term.eval] at h
  cases ht : t.eval args s none [] s with
  | none => simp [ht] at h
  | some v => cases v <;> simp [ht] at h ⊢ <;> exact h
theorem eqR_at (h : (Cond.eq t u).value args s none s [] = some true) (hu : u.eval args s none [] s = some (.ref x)) : t.eval args s none [] s = some (.ref x) := by
  simp only [Cond.value, hu] at h
  cases ht : t.eval args s none [] s with
  | none => simp [ht] at h
  | some v => cases v <;> simp [ht] at h ⊢ <;> exact h
theorem fldI {k : Int32} (h : (Cond.eq (.field t C n d) (.int k)).value args s none s [] = some true) (ht : t.eval args s none [] s = some (.ref x)) : Fld s s.heap x C n d (.int k) := Fld.start (by rw [← fld_at ht]; exact eqI_at h)
theorem fldJ {k : Int64} (h : (Cond.eq (.field t C n d) (.long k)).value args s none s [] = some true) (ht : t.eval args s none [] s = some (.ref x)) : Fld s s.heap x C n d (.long k) := Fld.start (by rw [← fld_at ht]; exact eqJ_at h)
theorem fldR {y : Addr} (h : (Term.field t C n d).eval args s none [] s = some (.ref y)) (ht : t.eval args s none [] s = some (.ref x)) : Fld s s.heap x C n d (.ref y) := Fld.start (by rw [← fld_at ht]; exact h)
theorem lenAt {k : Int32} (h : (Cond.eq (.length t) (.int k)).value args s none s [] = some true) (ht : t.eval args s none [] s = some (.ref x)) (A : Arr s s.heap x cl ty) : cl.slots.size < 2147483648 ∧ cl.slots.size.toInt32 = k := by
  have q := eqI_at h
  have ha : s.arrayAt? x = some cl := A.fin (Vm.Alike.refl _)
  simp only [Term.eval, ht, ha, Option.bind_eq_bind, Option.bind_some] at q
  split at q
  · rename_i hl
    exact ⟨hl, by simpa using q⟩
  · cases q
theorem elemAt {k : Int32} {v : Value} (h : (Term.elem t (.int k)).eval args s none [] s = some v) (ht : t.eval args s none [] s = some (.ref x)) (A : Arr s s.heap x cl ty) : cl.slots[k.toNatClampNeg]? = some v := (elem_in h ht rfl A.1).2
end Starts
end Jvm.Ow
/- laws to paste: Road.backV (cut by pick.py; bodies as the Statement names them) -/
namespace Jvm.Pilot.@@N@@
namespace StrChars
open Jvm Sem ClassFile Op Lib Jvm.Stand Jvm.Free.XT Jvm.Free.ALB Jvm.Free.JM Jvm.Free
open Jvm.Lib.Cold (StaticIs)
/-- a char array whose places are chars -/
def Ch (a : Addr) (A : Cell) (U : State) : Prop := Arr .char a A U ∧ Typed .char A
theorem Ch.mv {a : Addr} {A : Cell} {U U' : State} (h : Ch a A U) (hal : U.vm.Alike U'.vm) (hh : U'.heap = U.heap) : Ch a A U' := ⟨h.1.mv hal hh, h.2⟩
theorem Ch.keep {a : Addr} {A : Cell} {U U' : State} (h : Ch a A U) (hal : U.vm.Alike U'.vm) (hk : U'.heap[a]? = some A) : Ch a A U' := ⟨h.1.keep hal hk, h.2⟩
/-- what place i of a char[]'s cell holds -/
def cv (A : Cell) (i : Nat) : Int32 := match A.slots[i]? with | some (.int x) => x | _ => 0
theorem Ch.get {a : Addr} {A : Cell} {U : State} (h : Ch a A U) {i : Nat} (hi : i < A.slots.size) : A.slots[i]? = some (.int (cv A i)) := by
  have e := Array.getElem?_eq_getElem hi
  have f := h.2 i _ e
  unfold cv; rw [e]
  generalize A.slots[i] = v at f
  cases v <;> simp [fits] at f ⊢
/-- the byte that i2b leaves of a char -/
def lo8 (x : Int32) : Int32 := x.toInt8.toInt32
theorem fits_lo8 (y : Int32) : fits .byte (.int (lo8 y)) = true := by
  have h1 := y.toInt8.le_toInt
  have h2 := y.toInt8.toInt_lt
  simp only [lo8, fits, Bool.and_eq_true, decide_eq_true_eq, Int32.le_iff_toInt_le, Int8.toInt_toInt32, show (-128 : Int32).toInt = -128 from by decide, show (127 : Int32).toInt = 127 from by decide]
  omega
/-- A' is A but that each place j of lo .. hi - 1 holds f j -/
def Laid (A A' : Cell) (lo hi : Nat) (f : Nat → Value) : Prop := A'.cls = A.cls ∧ A'.vm = A.vm ∧ A'.slots.size = A.slots.size ∧ ∀ i, A'.slots[i]? = if lo ≤ i ∧ i < hi then some (f i) else A.slots[i]?
theorem Laid.zero (A : Cell) (lo : Nat) (f : Nat → Value) : Laid A A lo (lo + 0) f := ⟨rfl, rfl, rfl, fun i => by rw [if_neg (by omega)]⟩
theorem Laid.step {A Ak : Cell} {lo k : Nat} {f : Nat → Value} {v : Value} (h : Laid A Ak lo k f) (hlo : lo ≤ k) (hk : k < Ak.slots.size) (hv : v = f k) : Laid A (Ak.setSlot k v) lo (k + 1) f := by
  refine ⟨h.1, h.2.1, by simpa [Cell.setSlot] using h.2.2.1, fun i => ?_⟩
  by_cases e : k = i
  · subst e; rw [Cell.slots_setSlot_self v hk, if_pos (by omega), hv]
  · rw [Cell.slots_setSlot_ne v e, h.2.2.2 i]
    by_cases q : lo ≤ i ∧ i < k
    · rw [if_pos q, if_pos (by omega)]
    · rw [if_neg q, if_neg (by omega)]
def U16 : String := "java/lang/StringUTF16"
namespace Cmp5
def yN : MethodName := ⟨"java/lang/StringUTF16", "compress", "([CI[BII)I"⟩
abbrev yB : ByteArray := jdk_52_method_21_code
theorem d0 : decode yB 0 = .ok (.iconst 0, 1) := by decide +kernel
theorem d1 : decode yB 1 = .ok (.istore 5, 2) := by decide +kernel
theorem d3 : decode yB 3 = .ok (.iload 5, 2) := by decide +kernel
theorem d5 : decode yB 5 = .ok (.iload 4, 2) := by decide +kernel
theorem d7 : decode yB 7 = .ok (.if_icmp (.ge) 37, 3) := by decide +kernel
theorem d10 : decode yB 10 = .ok (.aload_n 0, 1) := by decide +kernel
theorem d11 : decode yB 11 = .ok (.iload_n 1, 1) := by decide +kernel
theorem d12 : decode yB 12 = .ok (.caload, 1) := by decide +kernel
theorem d13 : decode yB 13 = .ok (.istore 6, 2) := by decide +kernel
theorem d15 : decode yB 15 = .ok (.iload 6, 2) := by decide +kernel
theorem d17 : decode yB 17 = .ok (.sipush 255, 3) := by decide +kernel
theorem d20 : decode yB 20 = .ok (.if_icmp (.le) 6, 3) := by decide +kernel
theorem d26 : decode yB 26 = .ok (.aload_n 2, 1) := by decide +kernel
theorem d27 : decode yB 27 = .ok (.iload_n 3, 1) := by decide +kernel
theorem d28 : decode yB 28 = .ok (.iload 6, 2) := by decide +kernel
theorem d30 : decode yB 30 = .ok (.i2b, 1) := by decide +kernel
theorem d31 : decode yB 31 = .ok (.bastore, 1) := by decide +kernel
theorem d32 : decode yB 32 = .ok (.iinc 1 1, 3) := by decide +kernel
theorem d35 : decode yB 35 = .ok (.iinc 3 1, 3) := by decide +kernel
theorem d38 : decode yB 38 = .ok (.iinc 5 1, 3) := by decide +kernel
theorem d41 : decode yB 41 = .ok (.goto (-38), 3) := by decide +kernel
theorem d44 : decode yB 44 = .ok (.iload 4, 2) := by decide +kernel
theorem d46 : decode yB 46 = .ok (.ireturn, 1) := by decide +kernel
def site : List Cond := []
def tab : Cond := tabOf yN yB 7 (some .int) site
def P (b : Addr) (A : Cell) (d : Addr) (B : Cell) (o q len : Nat) (args : Array Value) (s : State) : Prop := args = #[.ref b, .int (Int32.ofNat o), .ref d, .int (Int32.ofNat q), .int (Int32.ofNat len)] ∧ Ch b A s ∧ Arr .byte d B s ∧ b ≠ d ∧ o + len ≤ A.slots.size ∧ q + len ≤ B.slots.size ∧ ∀ i, i < len → ¬ 255 < cv A (o + i)
def E (b : Addr) (A : Cell) (d : Addr) (B : Cell) (o q len : Nat) (r : Option Value) (s u : State) : Prop := r = some (.int (Int32.ofNat len)) ∧ ∃ B', Put d B' s u ∧ Laid B B' q (q + len) (fun j => Value.int (lo8 (cv A (o + (j - q)))))
/-- no char of the range above 255: len; the places written hold each char's low byte -/
theorem law (l : Launch) (b : Addr) (A : Cell) (d : Addr) (B : Cell) (o q len : Nat) : Law l yN 5 5 0 0 yB 7 (some .int) site (P b A d B o q len) (E b A d B o q len) (copyLocs d q len) 0 0 := by
  refine Law.of_walk (plainFor_of_name (by decide +kernel)) (by decide +kernel) (by decide +kernel) (by decide) (fun _ _ h => by rw [h.1]; rfl) (fun _ U U' hal hh h => ⟨h.1, h.2.1.mv hal hh, h.2.2.1.mv hal hh, h.2.2.2⟩) (fun r U U' V V' h1 hal h2 h => ⟨h.1, h.2.elim fun B' q => ⟨B', q.1.mv h1 h2, q.2⟩⟩) ?_
  intro p e s m args below meth c s₁ X0 hexec hbytes hml hret hlk hnm hown hh0 W hP
  obtain ⟨rfl, hA, hB, hne, l1, l2, hp⟩ := hP
  have c1 : Steps p.tables e below (s₁.setTop (entryFrame m #[.ref b, .int (Int32.ofNat o), .ref d, .int (Int32.ofNat q), .int (Int32.ofNat len)] 7)) (s₁.setTop (mkF m 0 #[.val (.ref b), .val (.int (Int32.ofNat o)), .val (.ref d), .val (.int (Int32.ofNat q)), .val (.int (Int32.ofNat len)), .unset, .unset] [])) := entry rfl
  have hA0 := hA.1.mv X0.warmed.alike hh0
  have hB0 := hB.mv X0.warmed.alike hh0
  have a31 := hA.1.2.2.2
  have c2 : Steps p.tables e below (s₁.setTop (entryFrame m #[.ref b, .int (Int32.ofNat o), .ref d, .int (Int32.ofNat q), .int (Int32.ofNat len)] 7)) (s₁.setTop (mkF m 3 #[.val (.ref b), .val (.int (Int32.ofNat o)), .val (.ref d), .val (.int (Int32.ofNat q)), .val (.int (Int32.ofNat len)), .val (.int 0), .unset] [])) := c1.trans (by
    refine iconstV X0.here hexec rfl 0 (hb hbytes d0) (by decide) ?_
    refine XS.istore X0.here hexec rfl (hb hbytes d1) rfl rfl ?_
    exact Steps.refl _)
  have loop : ∀ (r i : Nat), i + r = len → ∀ (z : Slot), (z = .unset ∨ ∃ w, z = .val w ∧ w.category = 1) → ∀ (Tl : State) (Bk : Cell), Stand p l e { frames := 0, locals := 0, cells := 0, slots := 0 } s m #[.ref b, .int (Int32.ofNat o), .ref d, .int (Int32.ofNat q), .int (Int32.ofNat len)] below meth c Tl ([] ++ copyLocs d q i) 0 0 → Put d Bk s₁ Tl → Laid B Bk q (q + i) (fun j => Value.int (lo8 (cv A (o + (j - q))))) →
      Steps p.tables e below (s₁.setTop (entryFrame m #[.ref b, .int (Int32.ofNat o), .ref d, .int (Int32.ofNat q), .int (Int32.ofNat len)] 7)) (Tl.setTop (mkF m 3 #[.val (.ref b), .val (.int (Int32.ofNat (o + i))), .val (.ref d), .val (.int (Int32.ofNat (q + i))), .val (.int (Int32.ofNat len)), .val (.int (Int32.ofNat i)), z] [])) → ∃ (T' : State) (B' : Cell) (z' : Slot), Stand p l e { frames := 0, locals := 0, cells := 0, slots := 0 } s m #[.ref b, .int (Int32.ofNat o), .ref d, .int (Int32.ofNat q), .int (Int32.ofNat len)] below meth c T' ([] ++ copyLocs d q len) 0 0 ∧ Put d B' s₁ T' ∧ Laid B B' q (q + len) (fun j => Value.int (lo8 (cv A (o + (j - q))))) ∧
      Steps p.tables e below (s₁.setTop (entryFrame m #[.ref b, .int (Int32.ofNat o), .ref d, .int (Int32.ofNat q), .int (Int32.ofNat len)] 7)) (T'.setTop (mkF m 3 #[.val (.ref b), .val (.int (Int32.ofNat (o + len))), .val (.ref d), .val (.int (Int32.ofNat (q + len))), .val (.int (Int32.ofNat len)), .val (.int (Int32.ofNat len)), z'] [])) := by
    intro r
    induction r with
    | zero =>
      intro i hi z hz Tl Bk Xl pl fl cl
      have hil : i = len := by omega
      rw [hil] at Xl fl cl
      exact ⟨Tl, Bk, z, Xl, pl, fl, cl⟩
    | succ r ih =>
      intro i hi z hz Tl Bk Xl pl fl cl
      have all := X0.warmed.alike.symm.trans Xl.warmed.alike
      have hAl := hA0.keep all (pl.other hne hA0.1)
      have hBk := hB0.like all pl.1 fl.1 fl.2.1 fl.2.2.1
      have hlt : q + i < Bk.slots.size := by rw [fl.2.2.1]; omega
      have c3 : Steps p.tables e below (s₁.setTop (entryFrame m #[.ref b, .int (Int32.ofNat o), .ref d, .int (Int32.ofNat q), .int (Int32.ofNat len)] 7)) (Tl.setTop (mkF m 12 #[.val (.ref b), .val (.int (Int32.ofNat (o + i))), .val (.ref d), .val (.int (Int32.ofNat (q + i))), .val (.int (Int32.ofNat len)), .val (.int (Int32.ofNat i)), z] [.int (Int32.ofNat (o + i)), .ref b])) := cl.trans (by
        refine XS.iload Xl.here hexec rfl (hb hbytes d3) rfl ?_
        refine XS.iload Xl.here hexec rfl (hb hbytes d5) rfl ?_
        refine XS.icmpNo Xl.here hexec rfl (hb hbytes d7) rfl (ii_ge_f (lt32 (by omega) (by omega))) ?_
        refine XS.aloadN Xl.here hexec rfl (hb hbytes d10) rfl rfl ?_
        refine XS.iloadN Xl.here hexec rfl (hb hbytes d11) rfl ?_
        exact Steps.refl _)
      have c4 : Steps p.tables e below (s₁.setTop (entryFrame m #[.ref b, .int (Int32.ofNat o), .ref d, .int (Int32.ofNat q), .int (Int32.ofNat len)] 7)) (Tl.setTop (mkF m 13 #[.val (.ref b), .val (.int (Int32.ofNat (o + i))), .val (.ref d), .val (.int (Int32.ofNat (q + i))), .val (.int (Int32.ofNat len)), .val (.int (Int32.ofNat i)), z] [.int (cv A (o + i))])) := c3.trans (by
        refine Xl.aget hexec hAl rfl (hA.get (i := o + i) (by omega)) rfl rfl (hb hbytes d12) ?_
        exact Steps.refl _)
      have c5 : Steps p.tables e below (s₁.setTop (entryFrame m #[.ref b, .int (Int32.ofNat o), .ref d, .int (Int32.ofNat q), .int (Int32.ofNat len)] 7)) (Tl.setTop (mkF m 15 #[.val (.ref b), .val (.int (Int32.ofNat (o + i))), .val (.ref d), .val (.int (Int32.ofNat (q + i))), .val (.int (Int32.ofNat len)), .val (.int (Int32.ofNat i)), .val (.int (cv A (o + i)))] [])) := c4.trans (by
        refine XS.istoreS Xl.here hexec rfl (hb hbytes d13) rfl rfl hz ?_
        exact Steps.refl _)
      have c6 : Steps p.tables e below (s₁.setTop (entryFrame m #[.ref b, .int (Int32.ofNat o), .ref d, .int (Int32.ofNat q), .int (Int32.ofNat len)] 7)) (Tl.setTop (mkF m 31 #[.val (.ref b), .val (.int (Int32.ofNat (o + i))), .val (.ref d), .val (.int (Int32.ofNat (q + i))), .val (.int (Int32.ofNat len)), .val (.int (Int32.ofNat i)), .val (.int (cv A (o + i)))] [.int (lo8 (cv A (o + i))), .int (Int32.ofNat (q + i)), .ref d])) := c5.trans (by
        refine XS.iload Xl.here hexec rfl (hb hbytes d15) rfl ?_
        refine sipushV Xl.here hexec rfl 255 (hb hbytes d17) (by decide) ?_
        refine XS.icmpYes Xl.here hexec rfl (pc0 := 20) rfl (hb hbytes d20) rfl (ii_le_t (hp i (by omega))) (by decide) rfl ?_
        refine XS.aloadN Xl.here hexec rfl (hb hbytes d26) rfl rfl ?_
        refine XS.iloadN Xl.here hexec rfl (hb hbytes d27) rfl ?_
        refine XS.iload Xl.here hexec rfl (hb hbytes d28) rfl ?_
        refine i2b Xl.here hexec rfl (hb hbytes d30) rfl ?_
        exact Steps.refl _)
      obtain ⟨T7, X7, p7, st7⟩ := Xl.aput hexec hBk rfl hlt rfl (fits_lo8 (cv A (o + i))) (g := (mkF m 31 #[.val (.ref b), .val (.int (Int32.ofNat (o + i))), .val (.ref d), .val (.int (Int32.ofNat (q + i))), .val (.int (Int32.ofNat len)), .val (.int (Int32.ofNat i)), .val (.int (cv A (o + i)))] [.int (lo8 (cv A (o + i))), .int (Int32.ofNat (q + i)), .ref d])) rfl (rest := []) rfl (hb hbytes d31)
      have c8 : Steps p.tables e below (s₁.setTop (entryFrame m #[.ref b, .int (Int32.ofNat o), .ref d, .int (Int32.ofNat q), .int (Int32.ofNat len)] 7)) (T7.setTop (mkF m 32 #[.val (.ref b), .val (.int (Int32.ofNat (o + i))), .val (.ref d), .val (.int (Int32.ofNat (q + i))), .val (.int (Int32.ofNat len)), .val (.int (Int32.ofNat i)), .val (.int (cv A (o + i)))] [])) := c6.trans (st7 _ (Steps.refl _))
      have c9 : Steps p.tables e below (s₁.setTop (entryFrame m #[.ref b, .int (Int32.ofNat o), .ref d, .int (Int32.ofNat q), .int (Int32.ofNat len)] 7)) (T7.setTop (mkF m 3 #[.val (.ref b), .val (.int (Int32.ofNat (o + i) + 1)), .val (.ref d), .val (.int (Int32.ofNat (q + i) + 1)), .val (.int (Int32.ofNat len)), .val (.int (Int32.ofNat i + 1)), .val (.int (cv A (o + i)))] [])) := c8.trans (by
        refine iincV X7.here hexec rfl 1 (hb hbytes d32) (by decide) rfl rfl ?_
        refine iincV X7.here hexec rfl 1 (hb hbytes d35) (by decide) rfl rfl ?_
        refine iincV X7.here hexec rfl 1 (hb hbytes d38) (by decide) rfl rfl ?_
        refine XS.goto X7.here hexec rfl (pc0 := 41) rfl (hb hbytes d41) (by decide) rfl ?_
        exact Steps.refl _)
      have c10 : Steps p.tables e below (s₁.setTop (entryFrame m #[.ref b, .int (Int32.ofNat o), .ref d, .int (Int32.ofNat q), .int (Int32.ofNat len)] 7)) (T7.setTop (mkF m 3 #[.val (.ref b), .val (.int (Int32.ofNat (o + (i + 1)))), .val (.ref d), .val (.int (Int32.ofNat (q + (i + 1)))), .val (.int (Int32.ofNat len)), .val (.int (Int32.ofNat (i + 1))), .val (.int (cv A (o + i)))] [])) := by
        have := c9
        rw [succ32, succ32, succ32] at this
        exact this
      exact ih (i + 1) (by omega) _ (Or.inr ⟨_, rfl, rfl⟩) T7 _ (by rw [copyLocs_step, ← List.append_assoc]; exact X7) (pl.trans p7) (fl.step (by omega) hlt (by simp)) c10
  obtain ⟨T9, B9, z9, X9, p9, f9, g9⟩ := loop len 0 (by omega) .unset (Or.inl rfl) s₁ B (by simpa [copyLocs] using X0) ⟨hB0.1, fun _ _ => rfl, rfl⟩ (Laid.zero _ _ _) c2
  have c11 : Steps p.tables e below (s₁.setTop (entryFrame m #[.ref b, .int (Int32.ofNat o), .ref d, .int (Int32.ofNat q), .int (Int32.ofNat len)] 7)) (T9.setTop (mkF m 46 #[.val (.ref b), .val (.int (Int32.ofNat (o + len))), .val (.ref d), .val (.int (Int32.ofNat (q + len))), .val (.int (Int32.ofNat len)), .val (.int (Int32.ofNat len)), z9] [.int (Int32.ofNat len)])) := g9.trans (by
    refine XS.iload X9.here hexec rfl (hb hbytes d3) rfl ?_
    refine XS.iload X9.here hexec rfl (hb hbytes d5) rfl ?_
    refine XS.icmpYes X9.here hexec rfl (pc0 := 7) rfl (hb hbytes d7) rfl (ii_ge_t (nlt32 (by omega) (Nat.le_refl _))) (by decide) rfl ?_
    refine XS.iload X9.here hexec rfl (hb hbytes d44) rfl ?_
    exact Steps.refl _)
  exact ⟨T9, some (.int (Int32.ofNat len)), _, _, _, X9, by simp, rfl, rfl, (fun h => by cases h), ⟨rfl, B9, p9.from hh0, f9⟩, fun fs hl => c11.trans (X9.ireturnOut hexec hret rfl (Or.inl rfl) (hb hbytes d46) hl)⟩
end Cmp5
namespace Cmp3
def yN : MethodName := ⟨"java/lang/StringUTF16", "compress", "([CII)[B"⟩
abbrev yB : ByteArray := jdk_52_method_16_code
theorem d0 : decode yB 0 = .ok (.iload_n 2, 1) := by decide +kernel
theorem d1 : decode yB 1 = .ok (.newarray .byte, 2) := by decide +kernel
theorem d3 : decode yB 3 = .ok (.astore_n 3, 1) := by decide +kernel
theorem d4 : decode yB 4 = .ok (.aload_n 0, 1) := by decide +kernel
theorem d5 : decode yB 5 = .ok (.iload_n 1, 1) := by decide +kernel
theorem d6 : decode yB 6 = .ok (.aload_n 3, 1) := by decide +kernel
theorem d7 : decode yB 7 = .ok (.iconst 0, 1) := by decide +kernel
theorem d8 : decode yB 8 = .ok (.iload_n 2, 1) := by decide +kernel
theorem d9 : decode yB 9 = .ok (.invokestatic 115, 3) := by decide +kernel
theorem d12 : decode yB 12 = .ok (.istore 4, 2) := by decide +kernel
theorem d14 : decode yB 14 = .ok (.iload 4, 2) := by decide +kernel
theorem d16 : decode yB 16 = .ok (.iload_n 2, 1) := by decide +kernel
theorem d17 : decode yB 17 = .ok (.if_icmp (.eq) 40, 3) := by decide +kernel
theorem d57 : decode yB 57 = .ok (.aload_n 3, 1) := by decide +kernel
theorem d58 : decode yB 58 = .ok (.areturn, 1) := by decide +kernel
def site : List Cond := [.arrayClass .byte, Cmp5.tab] ++ staticW U16 115 Cmp5.yN
def tab : Cond := tabOf yN yB 6 (some (.array .byte)) site
def P (b : Addr) (A : Cell) (o len : Nat) (args : Array Value) (s : State) : Prop := args = #[.ref b, .int (Int32.ofNat o), .int (Int32.ofNat len)] ∧ Ch b A s ∧ o + len ≤ A.slots.size ∧ len ≤ 536870912 ∧ ∀ i, i < len → ¬ 255 < cv A (o + i)
def E (b : Addr) (A : Cell) (o len : Nat) (r : Option Value) (s u : State) : Prop := NewArr .byte "[B" len (fun j => .int (lo8 (cv A (o + j)))) r s u ∧ u.heap.size = s.heap.size + 1
/-- no char of the range above 255: a new byte[] of their low bytes -/
theorem law (l : Launch) (b : Addr) (A : Cell) (o len : Nat) : Law l yN 3 3 1 18 yB 6 (some (.array .byte)) site (P b A o len) (E b A o len) [] 1 len := by
  refine Law.of_walk (plainFor_of_name (by decide +kernel)) (by decide +kernel) (by decide +kernel) (by decide) (fun _ _ h => by rw [h.1]; rfl) (fun _ U U' hal hh h => ⟨h.1, h.2.1.mv hal hh, h.2.2⟩) (fun r U U' V V' h1 hal h2 h => ⟨NewArr.mv r U U' V V' h1 hal h2 h.1, by rw [h1, h2]; exact h.2⟩) ?_
  intro p e s m args below meth c s₁ X0 hexec hbytes hml hret hlk hnm hown hh0 W hP
  obtain ⟨rfl, hA, l1, l2, hp⟩ := hP
  have a31 := hA.1.2.2.2
  have c1 : Steps p.tables e below (s₁.setTop (entryFrame m #[.ref b, .int (Int32.ofNat o), .int (Int32.ofNat len)] 6)) (s₁.setTop (mkF m 0 #[.val (.ref b), .val (.int (Int32.ofNat o)), .val (.int (Int32.ofNat len)), .unset, .unset, .unset] [])) := entry rfl
  have c2 : Steps p.tables e below (s₁.setTop (entryFrame m #[.ref b, .int (Int32.ofNat o), .int (Int32.ofNat len)] 6)) (s₁.setTop (mkF m 1 #[.val (.ref b), .val (.int (Int32.ofNat o)), .val (.int (Int32.ofNat len)), .unset, .unset, .unset] [.int (Int32.ofNat len)])) := c1.trans (by
    refine XS.iloadN X0.here hexec rfl (hb hbytes d0) rfl ?_
    exact Steps.refl _)
  obtain ⟨T3, B3, X3, ba3, bs3, bv3, bh3, bf3, st3⟩ := X0.anew hexec (atype := .byte) (wk W (.arrayClass .byte)) rfl (by show len * 1 ≤ _; omega) (by omega) (g := (mkF m 1 #[.val (.ref b), .val (.int (Int32.ofNat o)), .val (.int (Int32.ofNat len)), .unset, .unset, .unset] [.int (Int32.ofNat len)])) rfl (hb hbytes d1) (rest := []) rfl (Nat.le_refl _) (by show 0 + len ≤ len; omega)
  rw [hh0] at ba3 st3
  have kp3 : XT.Kept s T3 := (XT.Kept.of_eq hh0).push bh3
  have hA3 := hA.keep X3.warmed.alike (kp3 _ _ hA.1.1)
  have hne : b ≠ s.heap.size := hA.1.ne
  have c4 : Steps p.tables e below (s₁.setTop (entryFrame m #[.ref b, .int (Int32.ofNat o), .int (Int32.ofNat len)] 6)) (T3.setTop (mkF m 3 #[.val (.ref b), .val (.int (Int32.ofNat o)), .val (.int (Int32.ofNat len)), .unset, .unset, .unset] [.ref s.heap.size])) := c2.trans (st3 _ (Steps.refl _))
  have c5 : Steps p.tables e below (s₁.setTop (entryFrame m #[.ref b, .int (Int32.ofNat o), .int (Int32.ofNat len)] 6)) (T3.setTop (mkF m 9 #[.val (.ref b), .val (.int (Int32.ofNat o)), .val (.int (Int32.ofNat len)), .val (.ref s.heap.size), .unset, .unset] [.int (Int32.ofNat len), .int 0, .ref s.heap.size, .int (Int32.ofNat o), .ref b])) := c4.trans (by
    refine XS.astoreN X3.here hexec rfl (hb hbytes d3) rfl rfl rfl ?_
    refine XS.aloadN X3.here hexec rfl (hb hbytes d4) rfl rfl ?_
    refine XS.iloadN X3.here hexec rfl (hb hbytes d5) rfl ?_
    refine XS.aloadN X3.here hexec rfl (hb hbytes d6) rfl rfl ?_
    refine iconstV X3.here hexec rfl 0 (hb hbytes d7) (by decide) ?_
    refine XS.iloadN X3.here hexec rfl (hb hbytes d8) rfl ?_
    exact Steps.refl _)
  obtain ⟨v6, T6, X6, E6, g6⟩ := X3.callS hexec (Cmp5.law l b A s.heap.size B3 o 0 len) hown (wks W (staticW U16 115 Cmp5.yN)) (wk W Cmp5.tab) (W := 0) (Nat.le_of_ble_eq_true rfl) (Nat.le_of_ble_eq_true rfl) (Nat.le_refl _) (by show 0 + len + 0 ≤ len; omega) (g := (mkF m 9 #[.val (.ref b), .val (.int (Int32.ofNat o)), .val (.int (Int32.ofNat len)), .val (.ref s.heap.size), .unset, .unset] [.int (Int32.ofNat len), .int (Int32.ofNat 0), .ref s.heap.size, .int (Int32.ofNat o), .ref b])) rfl (by rw [hml]; rfl) c5 (argsL := [.ref b, .int (Int32.ofNat o), .ref s.heap.size, .int (Int32.ofNat 0), .int (Int32.ofNat len)]) (rest := []) rfl rfl (by show 2 * 0 + 0 ≤ _; decide) (hb hbytes d9) (⟨rfl, hA3, ba3, hne, l1, by rw [bs3]; simp, hp⟩)
  obtain ⟨rfl, B6, p6, f6⟩ := E6
  have c7 : Steps p.tables e below (s₁.setTop (entryFrame m #[.ref b, .int (Int32.ofNat o), .int (Int32.ofNat len)] 6)) (T6.setTop (mkF m 12 #[.val (.ref b), .val (.int (Int32.ofNat o)), .val (.int (Int32.ofNat len)), .val (.ref s.heap.size), .unset, .unset] [.int (Int32.ofNat len)])) := g6
  have c8 : Steps p.tables e below (s₁.setTop (entryFrame m #[.ref b, .int (Int32.ofNat o), .int (Int32.ofNat len)] 6)) (T6.setTop (mkF m 58 #[.val (.ref b), .val (.int (Int32.ofNat o)), .val (.int (Int32.ofNat len)), .val (.ref s.heap.size), .val (.int (Int32.ofNat len)), .unset] [.ref s.heap.size])) := c7.trans (by
    refine XS.istore X6.here hexec rfl (hb hbytes d12) rfl rfl ?_
    refine XS.iload X6.here hexec rfl (hb hbytes d14) rfl ?_
    refine XS.iloadN X6.here hexec rfl (hb hbytes d16) rfl ?_
    refine XS.icmpYes X6.here hexec rfl (pc0 := 17) rfl (hb hbytes d17) rfl (ii_eq_t rfl) (by decide) rfl ?_
    refine XS.aloadN X6.here hexec rfl (hb hbytes d57) rfl rfl ?_
    exact Steps.refl _)
  have X8 := X6.wide (L' := []) (cells' := 1) (slots' := len) (fun x hx hlt => by
    simp only [List.nil_append, copyLocs, List.mem_map, List.mem_range] at hx
    obtain ⟨i, -, rfl⟩ := hx
    exact absurd hlt (Nat.lt_irrefl _)) (Nat.le_refl _) (by omega)
  exact ⟨T6, some (.ref s.heap.size), _, _, _, X8, rfl, rfl, rfl, (fun h => by cases h), ⟨⟨rfl, B6, ba3.like (X3.warmed.alike.symm.trans X6.warmed.alike) p6.1 f6.1 f6.2.1 f6.2.2.1, f6.2.1.trans bv3, by rw [X6.warmed.alike.findClass, f6.1]; exact bf3, by rw [f6.2.2.1, bs3]; simp, fun j hj => by rw [f6.2.2.2 j, if_pos (by omega)]; rfl, kp3.put p6 (Nat.le_refl _)⟩, by rw [p6.2.2, bh3, hh0]; simp⟩, fun fs hl => c8.trans (X8.areturnOut hexec rfl hret rfl (hb hbytes d58) hl)⟩
end Cmp3
namespace CodL
def yN : MethodName := ⟨"java/lang/StringUTF16", "coderFromArrayLen", "([BI)B"⟩
abbrev yB : ByteArray := jdk_52_method_15_code
theorem d0 : decode yB 0 = .ok (.iload_n 1, 1) := by decide +kernel
theorem d1 : decode yB 1 = .ok (.aload_n 0, 1) := by decide +kernel
theorem d2 : decode yB 2 = .ok (.arraylength, 1) := by decide +kernel
theorem d3 : decode yB 3 = .ok (.isub, 1) := by decide +kernel
theorem d4 : decode yB 4 = .ok (.bipush 31, 2) := by decide +kernel
theorem d6 : decode yB 6 = .ok (.iushr, 1) := by decide +kernel
theorem d7 : decode yB 7 = .ok (.i2b, 1) := by decide +kernel
theorem d8 : decode yB 8 = .ok (.ireturn, 1) := by decide +kernel
def site : List Cond := []
def tab : Cond := tabOf yN yB 2 (some .byte) site
def P (d : Addr) (B : Cell) (args : Array Value) (s : State) : Prop := args = #[.ref d, .int (Int32.ofNat B.slots.size)] ∧ Arr .byte d B s
def E (r : Option Value) (s u : State) : Prop := XT.PureE (some (.int 0)) r s u
/-- an array as long as the number of chars: LATIN1 -/
theorem law (l : Launch) (d : Addr) (B : Cell) : Law l yN 2 2 0 0 yB 2 (some .byte) site (P d B) E [] 0 0 := by
  refine Law.of_walk (plainFor_of_name (by decide +kernel)) (by decide +kernel) (by decide +kernel) (by decide) (fun _ _ h => by rw [h.1]; rfl) (fun _ U U' hal hh h => ⟨h.1, h.2.mv hal hh⟩) (fun r U U' V V' h1 hal h2 h => XT.PureE.mv r U U' V V' h1 hal h2 h) ?_
  intro p e s m args below meth c s₁ X0 hexec hbytes hml hret hlk hnm hown hh0 W hP
  obtain ⟨rfl, hB⟩ := hP
  have hB0 := hB.mv X0.warmed.alike hh0
  have c1 : Steps p.tables e below (s₁.setTop (entryFrame m #[.ref d, .int (Int32.ofNat B.slots.size)] 2)) (s₁.setTop (mkF m 0 #[.val (.ref d), .val (.int (Int32.ofNat B.slots.size))] [])) := entry rfl
  have c2 : Steps p.tables e below (s₁.setTop (entryFrame m #[.ref d, .int (Int32.ofNat B.slots.size)] 2)) (s₁.setTop (mkF m 2 #[.val (.ref d), .val (.int (Int32.ofNat B.slots.size))] [.ref d, .int (Int32.ofNat B.slots.size)])) := c1.trans (by
    refine XS.iloadN X0.here hexec rfl (hb hbytes d0) rfl ?_
    refine XS.aloadN X0.here hexec rfl (hb hbytes d1) rfl rfl ?_
    exact Steps.refl _)
  have c3 : Steps p.tables e below (s₁.setTop (entryFrame m #[.ref d, .int (Int32.ofNat B.slots.size)] 2)) (s₁.setTop (mkF m 8 #[.val (.ref d), .val (.int (Int32.ofNat B.slots.size))] [.int (lo8 (ushr (Int32.ofNat B.slots.size - Int32.ofNat B.slots.size) 31))])) := c2.trans (by
    refine X0.alen hexec hB0 rfl rfl (hb hbytes d2) ?_
    refine XS.isub X0.here hexec rfl (hb hbytes d3) rfl ?_
    refine bipushV X0.here hexec rfl 31 (hb hbytes d4) (by decide) ?_
    refine iushr X0.here hexec rfl (hb hbytes d6) rfl ?_
    refine i2b X0.here hexec rfl (hb hbytes d7) rfl ?_
    exact Steps.refl _)
  have e0 : lo8 (ushr (Int32.ofNat B.slots.size - Int32.ofNat B.slots.size) 31) = 0 := by rw [Int32.sub_self]; decide
  rw [e0] at c3
  exact ⟨s₁, some (.int 0), _, _, _, X0, rfl, rfl, rfl, (fun h => by cases h), ⟨rfl, hh0⟩, fun fs hl => c3.trans (X0.ireturnOut hexec hret rfl (Or.inr (Or.inr (Or.inl rfl))) (hb hbytes d8) hl)⟩
end CodL
/-- the String at a is Latin-1 over a new byte[] (the heap's one new cell): the low bytes of the len chars of A from o on; every cell but a is kept -/
def Got (a : Addr) (D : Cell) (fV fC : Field) (A : Cell) (o len : Nat) (r : Option Value) (s u : State) : Prop := r = none ∧ ∃ D' V : Cell, Blank "java/lang/String" a D' u ∧ Same D D' [fV.slot, fC.slot] ∧ D'.slots[fV.slot]? = some (.ref s.heap.size) ∧ D'.slots[fC.slot]? = some (.int 0) ∧ Arr .byte s.heap.size V u ∧ V.vm = .none ∧ u.vm.findClass "[B" = some V.cls ∧ V.slots.size = len ∧ (∀ j, j < len → V.slots[j]? = some (.int (lo8 (cv A (o + j))))) ∧ (∀ (y : Addr) (c : Cell), y ≠ a → s.heap[y]? = some c → u.heap[y]? = some c) ∧ u.heap.size = s.heap.size + 1
theorem Got.mv {a : Addr} {D A : Cell} {fV fC : Field} {o len : Nat} : ∀ r (U U' V V' : State), U'.heap = U.heap → V.vm.Alike V'.vm → V'.heap = V.heap → Got a D fV fC A o len r U V → Got a D fV fC A o len r U' V' :=
  fun r U U' V V' h1 hal h2 ⟨e0, D', X, a1, a2, a3, a4, a5, a6, a7, a8, a9, a10, a11⟩ => ⟨e0, D', X, a1.mv hal h2, a2, by rw [h1]; exact a3, a4, by rw [h1]; exact a5.mv hal h2, a6, by rw [hal.findClass]; exact a7, a8, a9, by rw [h1, h2]; exact a10, by rw [h1, h2]; exact a11⟩
namespace New4
def yN : MethodName := ⟨"java/lang/String", "<init>", "([CIILjava/lang/Void;)V"⟩
abbrev yB : ByteArray := jdk_42_method_149_code
theorem d0 : decode yB 0 = .ok (.aload_n 0, 1) := by decide +kernel
theorem d1 : decode yB 1 = .ok (.invokespecial 1, 3) := by decide +kernel
theorem d4 : decode yB 4 = .ok (.iload_n 3, 1) := by decide +kernel
theorem d5 : decode yB 5 = .ok (.ifCond (.ne) 22, 3) := by decide +kernel
theorem d27 : decode yB 27 = .ok (.getstatic 38, 3) := by decide +kernel
theorem d30 : decode yB 30 = .ok (.ifCond (.eq) 28, 3) := by decide +kernel
theorem d33 : decode yB 33 = .ok (.aload_n 1, 1) := by decide +kernel
theorem d34 : decode yB 34 = .ok (.iload_n 2, 1) := by decide +kernel
theorem d35 : decode yB 35 = .ok (.iload_n 3, 1) := by decide +kernel
theorem d36 : decode yB 36 = .ok (.invokestatic 177, 3) := by decide +kernel
theorem d39 : decode yB 39 = .ok (.astore 5, 2) := by decide +kernel
theorem d41 : decode yB 41 = .ok (.aload_n 0, 1) := by decide +kernel
theorem d42 : decode yB 42 = .ok (.aload 5, 2) := by decide +kernel
theorem d44 : decode yB 44 = .ok (.iload_n 3, 1) := by decide +kernel
theorem d45 : decode yB 45 = .ok (.invokestatic 47, 3) := by decide +kernel
theorem d48 : decode yB 48 = .ok (.putfield 15, 3) := by decide +kernel
theorem d51 : decode yB 51 = .ok (.aload_n 0, 1) := by decide +kernel
theorem d52 : decode yB 52 = .ok (.aload 5, 2) := by decide +kernel
theorem d54 : decode yB 54 = .ok (.putfield 9, 3) := by decide +kernel
theorem d57 : decode yB 57 = .ok (.return_, 1) := by decide +kernel
def site : List Cond := [.fieldLink "java/lang/String" 38 "java/lang/String" "COMPACT_STRINGS" "Z", Cmp3.tab, CodL.tab, .laysFinal "java/lang/String" "java/lang/String" "value" "[B", .fieldLink "java/lang/String" 9 "java/lang/String" "value" "[B", .laysFinal "java/lang/String" "java/lang/String" "coder" "B", .fieldLink "java/lang/String" 15 "java/lang/String" "coder" "B"] ++ objW "java/lang/String" 1 ++ staticW "java/lang/String" 177 Cmp3.yN ++ staticW "java/lang/String" 47 CodL.yN
def tab : Cond := tabOf yN yB 6 none site
def P (a : Addr) (D : Cell) (fV fC : Field) (b : Addr) (A : Cell) (z : Int32) (o len : Nat) (args : Array Value) (s : State) : Prop := args = #[.ref a, .ref b, .int (Int32.ofNat o), .int (Int32.ofNat len), .null] ∧ Blank "java/lang/String" a D s ∧ Found "java/lang/String" "value" "[B" fV s ∧ Found "java/lang/String" "coder" "B" fC s ∧ Ch b A s ∧ StaticIs s "java/lang/String" "COMPACT_STRINGS" "Z" (.int z) ∧ ¬ z = 0 ∧ 0 < len ∧ o + len ≤ A.slots.size ∧ len ≤ 536870912 ∧ ∀ i, i < len → ¬ 255 < cv A (o + i)
def E (a : Addr) (D : Cell) (fV fC : Field) (A : Cell) (o len : Nat) (r : Option Value) (s u : State) : Prop := Got a D fV fC A o len r s u
/-- len > 0, no char of the range above 255: a Latin-1 String of their low bytes -/
theorem law (l : Launch) (a : Addr) (D : Cell) (fV fC : Field) (b : Addr) (A : Cell) (z : Int32) (o len : Nat) : Law l yN 5 4 2 35 yB 6 none site (P a D fV fC b A z o len) (E a D fV fC A o len) [⟨a, fC.slot⟩, ⟨a, fV.slot⟩] 1 len := by
  refine Law.of_walk (plainFor_of_name (by decide +kernel)) (by decide +kernel) (by decide +kernel) (by decide) (fun _ _ h => by rw [h.1]; rfl) (fun _ U U' hal hh h => ⟨h.1, h.2.1.mv hal hh, h.2.2.1.al hal, h.2.2.2.1.al hal, h.2.2.2.2.1.mv hal hh, h.2.2.2.2.2.1.there hal hh, h.2.2.2.2.2.2⟩) (fun r U U' V V' h1 hal h2 h => Got.mv r U U' V V' h1 hal h2 h) ?_
  intro p e s m args below meth c s₁ X0 hexec hbytes hml hret hlk hnm hown hh0 W hP
  obtain ⟨rfl, hB, f1, f2, hA, s1, hz, l0, l1, l2, hp⟩ := hP
  have a31 := hA.1.2.2.2
  have c1 : Steps p.tables e below (s₁.setTop (entryFrame m #[.ref a, .ref b, .int (Int32.ofNat o), .int (Int32.ofNat len), .null] 6)) (s₁.setTop (mkF m 0 #[.val (.ref a), .val (.ref b), .val (.int (Int32.ofNat o)), .val (.int (Int32.ofNat len)), .val .null, .unset] [])) := entry rfl
  have c2 : Steps p.tables e below (s₁.setTop (entryFrame m #[.ref a, .ref b, .int (Int32.ofNat o), .int (Int32.ofNat len), .null] 6)) (s₁.setTop (mkF m 1 #[.val (.ref a), .val (.ref b), .val (.int (Int32.ofNat o)), .val (.int (Int32.ofNat len)), .val .null, .unset] [.ref a])) := c1.trans (by
    refine XS.aloadN X0.here hexec rfl (hb hbytes d0) rfl rfl ?_
    exact Steps.refl _)
  obtain ⟨T3, X3, q3, st3⟩ := X0.oinit hexec hown (wks W (objW "java/lang/String" 1)) (g := (mkF m 1 #[.val (.ref a), .val (.ref b), .val (.int (Int32.ofNat o)), .val (.int (Int32.ofNat len)), .val .null, .unset] [.ref a])) rfl (by rw [hml]; rfl) (rest := []) rfl (hb hbytes d1) (W := 0) (by show 2 * 0 + 0 ≤ _; decide) (Nat.le_of_ble_eq_true rfl) (Nat.le_of_ble_eq_true rfl)
  have hh3 := q3.trans hh0
  have c4 : Steps p.tables e below (s₁.setTop (entryFrame m #[.ref a, .ref b, .int (Int32.ofNat o), .int (Int32.ofNat len), .null] 6)) (T3.setTop (mkF m 27 #[.val (.ref a), .val (.ref b), .val (.int (Int32.ofNat o)), .val (.int (Int32.ofNat len)), .val .null, .unset] [])) := (c2.trans (st3 _ (Steps.refl _))).trans (by
    refine XS.iloadN X3.here hexec rfl (hb hbytes d4) rfl ?_
    refine XS.ifYes X3.here hexec rfl (pc0 := 5) rfl (hb hbytes d5) rfl (i0_ne_t (nz32 (by omega) l0)) (by decide) rfl ?_
    exact Steps.refl _)
  obtain ⟨T5, X5, q5, st5⟩ := X3.sget hexec hown (wk W (.fieldLink "java/lang/String" 38 "java/lang/String" "COMPACT_STRINGS" "Z")) s1 (fun _ _ h => by rw [hh3]; exact h) (g := (mkF m 27 #[.val (.ref a), .val (.ref b), .val (.int (Int32.ofNat o)), .val (.int (Int32.ofNat len)), .val .null, .unset] [])) rfl (hb hbytes d27)
  have hh5 := q5.trans hh3
  have c6 : Steps p.tables e below (s₁.setTop (entryFrame m #[.ref a, .ref b, .int (Int32.ofNat o), .int (Int32.ofNat len), .null] 6)) (T5.setTop (mkF m 30 #[.val (.ref a), .val (.ref b), .val (.int (Int32.ofNat o)), .val (.int (Int32.ofNat len)), .val .null, .unset] [.int z])) := c4.trans (st5 _ (Steps.refl _))
  have c7 : Steps p.tables e below (s₁.setTop (entryFrame m #[.ref a, .ref b, .int (Int32.ofNat o), .int (Int32.ofNat len), .null] 6)) (T5.setTop (mkF m 36 #[.val (.ref a), .val (.ref b), .val (.int (Int32.ofNat o)), .val (.int (Int32.ofNat len)), .val .null, .unset] [.int (Int32.ofNat len), .int (Int32.ofNat o), .ref b])) := c6.trans (by
    refine XS.ifNo X5.here hexec rfl (hb hbytes d30) rfl (i0_eq_f hz) ?_
    refine XS.aloadN X5.here hexec rfl (hb hbytes d33) rfl rfl ?_
    refine XS.iloadN X5.here hexec rfl (hb hbytes d34) rfl ?_
    refine XS.iloadN X5.here hexec rfl (hb hbytes d35) rfl ?_
    exact Steps.refl _)
  obtain ⟨v8, T8, X8, E8, g8⟩ := X5.callS hexec (Cmp3.law l b A o len) hown (wks W (staticW "java/lang/String" 177 Cmp3.yN)) (wk W Cmp3.tab) (W := 0) (Nat.le_of_ble_eq_true rfl) (Nat.le_of_ble_eq_true rfl) (Nat.le_refl _) (by show 0 + len ≤ len; omega) (g := (mkF m 36 #[.val (.ref a), .val (.ref b), .val (.int (Int32.ofNat o)), .val (.int (Int32.ofNat len)), .val .null, .unset] [.int (Int32.ofNat len), .int (Int32.ofNat o), .ref b])) rfl (by rw [hml]; rfl) c7 (argsL := [.ref b, .int (Int32.ofNat o), .int (Int32.ofNat len)]) (rest := []) rfl rfl (by show 2 * 0 + 0 ≤ _; decide) (hb hbytes d36) (⟨rfl, hA.mv X5.warmed.alike hh5, l1, l2, hp⟩)
  obtain ⟨e8, z8⟩ := E8
  obtain ⟨rfl, N, n1, n2, n3, n4, n5, n6⟩ := NewArr.mv _ T5 s _ _ hh5.symm (Vm.Alike.refl _) rfl e8
  rw [hh5] at z8
  have hB1 := hB.keep X8.warmed.alike (n6 _ _ hB.1)
  have hne : s.heap.size ≠ a := (Nat.ne_of_lt (Array.getElem?_eq_some_iff.mp hB.1).1).symm
  have c9 : Steps p.tables e below (s₁.setTop (entryFrame m #[.ref a, .ref b, .int (Int32.ofNat o), .int (Int32.ofNat len), .null] 6)) (T8.setTop (mkF m 39 #[.val (.ref a), .val (.ref b), .val (.int (Int32.ofNat o)), .val (.int (Int32.ofNat len)), .val .null, .unset] [.ref s.heap.size])) := g8
  have c10 : Steps p.tables e below (s₁.setTop (entryFrame m #[.ref a, .ref b, .int (Int32.ofNat o), .int (Int32.ofNat len), .null] 6)) (T8.setTop (mkF m 45 #[.val (.ref a), .val (.ref b), .val (.int (Int32.ofNat o)), .val (.int (Int32.ofNat len)), .val .null, .val (.ref s.heap.size)] [.int (Int32.ofNat N.slots.size), .ref s.heap.size, .ref a])) := by
    have hc : Steps p.tables e below (s₁.setTop (entryFrame m #[.ref a, .ref b, .int (Int32.ofNat o), .int (Int32.ofNat len), .null] 6)) (T8.setTop (mkF m 45 #[.val (.ref a), .val (.ref b), .val (.int (Int32.ofNat o)), .val (.int (Int32.ofNat len)), .val .null, .val (.ref s.heap.size)] [.int (Int32.ofNat len), .ref s.heap.size, .ref a])) := c9.trans (by
      refine XS.astore X8.here hexec rfl (hb hbytes d39) rfl rfl rfl ?_
      refine XS.aloadN X8.here hexec rfl (hb hbytes d41) rfl rfl ?_
      refine XS.aload X8.here hexec rfl (hb hbytes d42) rfl rfl ?_
      refine XS.iloadN X8.here hexec rfl (hb hbytes d44) rfl ?_
      exact Steps.refl _)
    rw [n4]; exact hc
  obtain ⟨v11, T11, X11, E11, g11⟩ := X8.callS hexec (CodL.law l s.heap.size N) hown (wks W (staticW "java/lang/String" 47 CodL.yN)) (wk W CodL.tab) (W := 1) (Nat.le_of_ble_eq_true rfl) (Nat.le_of_ble_eq_true rfl) (Nat.le_refl _) (by show 0 + len + 0 ≤ len; omega) (g := (mkF m 45 #[.val (.ref a), .val (.ref b), .val (.int (Int32.ofNat o)), .val (.int (Int32.ofNat len)), .val .null, .val (.ref s.heap.size)] [.int (Int32.ofNat N.slots.size), .ref s.heap.size, .ref a])) rfl (by rw [hml]; rfl) c10 (argsL := [.ref s.heap.size, .int (Int32.ofNat N.slots.size)]) (rest := [.ref a]) rfl rfl (by show 2 * 0 + (1 + 0) ≤ _; decide) (hb hbytes d45) (⟨rfl, n1⟩)
  obtain ⟨rfl, q11⟩ := E11
  have hB11 := hB1.mv (X8.warmed.alike.symm.trans X11.warmed.alike) q11
  have c12 : Steps p.tables e below (s₁.setTop (entryFrame m #[.ref a, .ref b, .int (Int32.ofNat o), .int (Int32.ofNat len), .null] 6)) (T11.setTop (mkF m 48 #[.val (.ref a), .val (.ref b), .val (.int (Int32.ofNat o)), .val (.int (Int32.ofNat len)), .val .null, .val (.ref s.heap.size)] [.int 0, .ref a])) := g11
  obtain ⟨T13, X13, p13, bl13, sl13, st13⟩ := X11.finit hexec hown (wk W (.fieldLink "java/lang/String" 15 "java/lang/String" "coder" "B")) (Or.inr ⟨_, (wk W (.laysFinal "java/lang/String" "java/lang/String" "coder" "B"))⟩) (Or.inl ⟨rfl, hnm⟩) f2 (Or.inl rfl) hB11 (t := .byte) (by decide +kernel) rfl (g := (mkF m 48 #[.val (.ref a), .val (.ref b), .val (.int (Int32.ofNat o)), .val (.int (Int32.ofNat len)), .val .null, .val (.ref s.heap.size)] [.int 0, .ref a])) rfl (rest := []) rfl (hb hbytes d48)
  have c14 : Steps p.tables e below (s₁.setTop (entryFrame m #[.ref a, .ref b, .int (Int32.ofNat o), .int (Int32.ofNat len), .null] 6)) (T13.setTop (mkF m 54 #[.val (.ref a), .val (.ref b), .val (.int (Int32.ofNat o)), .val (.int (Int32.ofNat len)), .val .null, .val (.ref s.heap.size)] [.ref s.heap.size, .ref a])) := (c12.trans (st13 _ (Steps.refl _))).trans (by
    refine XS.aloadN X13.here hexec rfl (hb hbytes d51) rfl rfl ?_
    refine XS.aload X13.here hexec rfl (hb hbytes d52) rfl rfl ?_
    exact Steps.refl _)
  obtain ⟨T15, X15, p15, bl15, sl15, st15⟩ := X13.finit hexec hown (wk W (.fieldLink "java/lang/String" 9 "java/lang/String" "value" "[B")) (Or.inr ⟨_, (wk W (.laysFinal "java/lang/String" "java/lang/String" "value" "[B"))⟩) (Or.inl ⟨rfl, hnm⟩) f1 (Or.inl rfl) bl13 (t := (.array .byte)) (by decide +kernel) rfl (g := (mkF m 54 #[.val (.ref a), .val (.ref b), .val (.int (Int32.ofNat o)), .val (.int (Int32.ofNat len)), .val .null, .val (.ref s.heap.size)] [.ref s.heap.size, .ref a])) rfl (rest := []) rfl (hb hbytes d54)
  have c16 : Steps p.tables e below (s₁.setTop (entryFrame m #[.ref a, .ref b, .int (Int32.ofNat o), .int (Int32.ofNat len), .null] 6)) (T15.setTop (mkF m 57 #[.val (.ref a), .val (.ref b), .val (.int (Int32.ofNat o)), .val (.int (Int32.ofNat len)), .val .null, .val (.ref s.heap.size)] [])) := c14.trans (st15 _ (Steps.refl _))
  have ap := apart (Or.inr ⟨_, (wk W (.laysFinal "java/lang/String" "java/lang/String" "value" "[B"))⟩) (Or.inr ⟨_, (wk W (.laysFinal "java/lang/String" "java/lang/String" "coder" "B"))⟩) f1 f2 (t₁ := .array .byte) (t₂ := .byte) (by decide +kernel) (by decide +kernel) (by decide)
  have al := X8.warmed.alike.symm.trans X15.warmed.alike
  have n7 : T11.heap[s.heap.size]? = some N := by rw [q11]; exact n1.1
  exact ⟨T15, none, _, _, _, X15, by simp, rfl, by omega, (fun _ => rfl), ⟨rfl, _, N, bl15, ((Same.refl D _).set _ (by simp)).set _ (by simp), sl15, (Cell.slots_setSlot_ne _ ap).trans sl13, n1.keep al (p15.other hne (p13.other hne n7)), n2, by rw [al.findClass]; exact n3, n4, n5, fun y c h1 h2 => p15.other h1 (p13.other h1 (by rw [q11]; exact n6 y c h2)), by rw [p15.2.2, p13.2.2, q11]; exact z8⟩, fun fs hl => c16.trans (X15.returnOut hexec hret (hb hbytes d57) hl)⟩
end New4
namespace New1
def yN : MethodName := ⟨"java/lang/String", "<init>", "([C)V"⟩
abbrev yB : ByteArray := jdk_42_method_3_code
theorem d0 : decode yB 0 = .ok (.aload_n 0, 1) := by decide +kernel
theorem d1 : decode yB 1 = .ok (.aload_n 1, 1) := by decide +kernel
theorem d2 : decode yB 2 = .ok (.iconst 0, 1) := by decide +kernel
theorem d3 : decode yB 3 = .ok (.aload_n 1, 1) := by decide +kernel
theorem d4 : decode yB 4 = .ok (.arraylength, 1) := by decide +kernel
theorem d5 : decode yB 5 = .ok (.aconst_null, 1) := by decide +kernel
theorem d6 : decode yB 6 = .ok (.invokespecial 27, 3) := by decide +kernel
theorem d9 : decode yB 9 = .ok (.return_, 1) := by decide +kernel
def site : List Cond := [New4.tab] ++ initW "java/lang/String" 27 New4.yN
def tab : Cond := tabOf yN yB 2 none site
def P (a : Addr) (D : Cell) (fV fC : Field) (b : Addr) (A : Cell) (z : Int32) (args : Array Value) (s : State) : Prop := args = #[.ref a, .ref b] ∧ Blank "java/lang/String" a D s ∧ Found "java/lang/String" "value" "[B" fV s ∧ Found "java/lang/String" "coder" "B" fC s ∧ Ch b A s ∧ StaticIs s "java/lang/String" "COMPACT_STRINGS" "Z" (.int z) ∧ ¬ z = 0 ∧ 0 < A.slots.size ∧ A.slots.size ≤ 536870912 ∧ ∀ i, i < A.slots.size → ¬ 255 < cv A i
def E (a : Addr) (D : Cell) (fV fC : Field) (A : Cell) (r : Option Value) (s u : State) : Prop := Got a D fV fC A 0 A.slots.size r s u
/-- new String(chars), not empty, no char above 255: a Latin-1 String of their low bytes -/
theorem law (l : Launch) (a : Addr) (D : Cell) (fV fC : Field) (b : Addr) (A : Cell) (z : Int32) : Law l yN 2 1 3 52 yB 2 none site (P a D fV fC b A z) (E a D fV fC A) [⟨a, fC.slot⟩, ⟨a, fV.slot⟩] 1 A.slots.size := by
  refine Law.of_walk (plainFor_of_name (by decide +kernel)) (by decide +kernel) (by decide +kernel) (by decide) (fun _ _ h => by rw [h.1]; rfl) (fun _ U U' hal hh h => ⟨h.1, h.2.1.mv hal hh, h.2.2.1.al hal, h.2.2.2.1.al hal, h.2.2.2.2.1.mv hal hh, h.2.2.2.2.2.1.there hal hh, h.2.2.2.2.2.2⟩) (fun r U U' V V' h1 hal h2 h => Got.mv r U U' V V' h1 hal h2 h) ?_
  intro p e s m args below meth c s₁ X0 hexec hbytes hml hret hlk hnm hown hh0 W hP
  obtain ⟨rfl, hB, f1, f2, hA, s1, hz, l0, l2, hp⟩ := hP
  have c1 : Steps p.tables e below (s₁.setTop (entryFrame m #[.ref a, .ref b] 2)) (s₁.setTop (mkF m 0 #[.val (.ref a), .val (.ref b)] [])) := entry rfl
  have c2 : Steps p.tables e below (s₁.setTop (entryFrame m #[.ref a, .ref b] 2)) (s₁.setTop (mkF m 6 #[.val (.ref a), .val (.ref b)] [.null, .int (Int32.ofNat A.slots.size), .int 0, .ref b, .ref a])) := c1.trans (by
    refine XS.aloadN X0.here hexec rfl (hb hbytes d0) rfl rfl ?_
    refine XS.aloadN X0.here hexec rfl (hb hbytes d1) rfl rfl ?_
    refine iconstV X0.here hexec rfl 0 (hb hbytes d2) (by decide) ?_
    refine XS.aloadN X0.here hexec rfl (hb hbytes d3) rfl rfl ?_
    refine X0.alen hexec (hA.1.mv X0.warmed.alike hh0) rfl rfl (hb hbytes d4) ?_
    refine XS.aconstNull X0.here hexec rfl (hb hbytes d5) ?_
    exact Steps.refl _)
  obtain ⟨v3, T3, X3, E3, g3⟩ := X0.callN hexec (New4.law l a D fV fC b A z 0 A.slots.size) rfl hown (wks W (initW "java/lang/String" 27 New4.yN)) (W New4.tab (by simp only [site, List.mem_cons, List.mem_append, true_or, or_true])) (W := 0) (Nat.le_of_ble_eq_true rfl) (Nat.le_of_ble_eq_true rfl) (Nat.le_refl _) (by show 0 + A.slots.size ≤ A.slots.size; omega) (g := (mkF m 6 #[.val (.ref a), .val (.ref b)] [.null, .int (Int32.ofNat A.slots.size), .int (Int32.ofNat 0), .ref b, .ref a])) rfl (by rw [hml]; rfl) c2 (argsL := [.ref b, .int (Int32.ofNat 0), .int (Int32.ofNat A.slots.size), .null]) (rest := []) rfl rfl (by show 2 * 0 + 0 ≤ _; decide) (hb hbytes d6) (⟨rfl, hB.mv X0.warmed.alike hh0, f1.al X0.warmed.alike, f2.al X0.warmed.alike, hA.mv X0.warmed.alike hh0, s1.there X0.warmed.alike hh0, hz, l0, by omega, l2, fun i hi => by rw [Nat.zero_add]; exact hp i hi⟩)
  have e0 := Got.mv _ s₁ s _ _ hh0.symm (Vm.Alike.refl _) rfl E3
  obtain rfl := e0.1
  have c4 : Steps p.tables e below (s₁.setTop (entryFrame m #[.ref a, .ref b] 2)) (T3.setTop (mkF m 9 #[.val (.ref a), .val (.ref b)] [])) := g3
  exact ⟨T3, none, _, _, _, X3, by simp, rfl, by omega, (fun _ => rfl), e0, fun fs hl => c4.trans (X3.returnOut hexec hret (hb hbytes d9) hl)⟩
theorem pays {l : Launch} {R : Room} {p : Program} {e : Env} {below : List Frame} {s : State} {sargs : Array Value} {len W : Nat} (a : Addr) (D : Cell) (fV fC : Field) (b : Addr) (A : Cell) (z : Int32) (htab : tab.before sargs s = true) (hfr : 4 ≤ R.frames) (hlo : W + 65 ≤ R.locals) :
    Back l R p e below s sargs yN len W (fun A₁ a₁ => A₁.cells + 1 ≤ R.cells ∧ A₁.slots + A.slots.size ≤ R.slots ∧ P a D fV fC b A z a₁ A₁.U) (fun A₁ _ v₁ B₁ => E a D fV fC A v₁ A₁.U B₁.U ∧ B₁.locs = A₁.locs ++ [⟨a, fC.slot⟩, ⟨a, fV.slot⟩] ∧ B₁.cells = A₁.cells + 1 ∧ B₁.slots = A₁.slots + A.slots.size) :=
  (law l a D fV fC b A z).pays htab hfr (by omega)
end New1
end StrChars
namespace StrChars.Road
open Jvm Sem ClassFile Op Lib Jvm.Stand Jvm.Free Jvm.Free.XT
open Jvm.Lib.Cold (StaticIs)
abbrev ST : String := "java/lang/String"
/-- every table word that New1's law asks, flat -/
abbrev words : List Jvm.Cond := [.code New1.yN New1.yB 2 none, .initialized ST, .methodLink ST 27 New4.yN, .instanceMethod New4.yN,
  .code New4.yN New4.yB 6 none, .fieldLink ST 38 ST "COMPACT_STRINGS" "Z", .laysFinal ST ST "value" "[B", .fieldLink ST 9 ST "value" "[B", .laysFinal ST ST "coder" "B", .fieldLink ST 15 ST "coder" "B",
  .methodLink ST 1 Lib.objectInit, .instanceMethod Lib.objectInit, .code Lib.objectInit ⟨#[0xb1]⟩ 1 none, .methodLink ST 177 Cmp3.yN, .static Cmp3.yN, .methodLink ST 47 CodL.yN, .static CodL.yN,
  .code Cmp3.yN Cmp3.yB 6 (some (.array .byte)), .initialized U16, .arrayClass .byte, .methodLink U16 115 Cmp5.yN, .static Cmp5.yN, .code Cmp5.yN Cmp5.yB 7 (some .int), .code CodL.yN CodL.yB 2 (some .byte)]
theorem tab_of {a : Array Value} {s : State} (h : ∀ w ∈ words, w.before a s = true) : New1.tab.before a s = true := by
  have h5 : Cmp5.tab.before a s = true := unparts (wk h (.code Cmp5.yN Cmp5.yB 7 (some .int))) (wks h (.initialized Cmp5.yN.cls :: Cmp5.site))
  have hc : CodL.tab.before a s = true := unparts (wk h (.code CodL.yN CodL.yB 2 (some .byte))) (wks h (.initialized CodL.yN.cls :: CodL.site))
  have q5 : ∀ w ∈ Cmp5.tab :: words, w.before a s = true := fun w hw => (List.mem_cons.mp hw).elim (fun e => e ▸ h5) (h w)
  have h3 : Cmp3.tab.before a s = true := unparts (wk q5 (.code Cmp3.yN Cmp3.yB 6 (some (.array .byte)))) (wks q5 (.initialized Cmp3.yN.cls :: Cmp3.site))
  have q3 : ∀ w ∈ Cmp3.tab :: CodL.tab :: words, w.before a s = true := fun w hw => (List.mem_cons.mp hw).elim (fun e => e ▸ h3) fun hw => (List.mem_cons.mp hw).elim (fun e => e ▸ hc) (h w)
  have h4 : New4.tab.before a s = true := unparts (wk q3 (.code New4.yN New4.yB 6 none)) (wks q3 (.initialized New4.yN.cls :: New4.site))
  have q4 : ∀ w ∈ New4.tab :: words, w.before a s = true := fun w hw => (List.mem_cons.mp hw).elim (fun e => e ▸ h4) (h w)
  exact unparts (wk q4 (.code New1.yN New1.yB 2 none)) (wks q4 (.initialized New1.yN.cls :: New1.site))
/-- the words ride from the start Z to the walk's own state -/
theorem moved {Z s : State} {a0 args : Array Value} (hZ : Z.Warmed39 s.vm) (hw : ∀ d ∈ words, d.before a0 Z = true) : ∀ d ∈ words, d.before args s = true := fun d hd => by
  have q := hw d hd
  have t : ∀ d ∈ words, d = .arrayClass .byte ∨ (d.onTables && d.keepsFace) = true := by decide +kernel
  rcases t d hd with rfl | t
  · exact RoadKit.mvA hZ q
  · exact RoadKit.mv hZ q t
/-- WHAT COMES BACK, over the tables of the start Z: h the heap at the call, h' behind it -/
def Q (Z : State) (x : Addr) (A : Cell) (h : Heap) (v : Option Value) (h' : Heap) (L : List Loc) : Prop := v = none ∧ (∀ y ∈ L, y.base = x) ∧ RoadKit.Keep h h' [x] ∧ h'.size = h.size + 1 ∧ RoadKit.Exa Z h' x ST ∧ RoadKit.Fld Z h' x ST "value" "[B" (.ref h.size) ∧ RoadKit.Fld Z h' x ST "coder" "B" (.int 0) ∧
  (∃ V : Cell, RoadKit.Arr Z h' h.size V .byte ∧ V.vm = .none ∧ Z.vm.findClass "[B" = some V.cls ∧ V.slots.size = A.slots.size ∧ ∀ j, j < A.slots.size → V.slots[j]? = some (.int (lo8 (cv A j)))) ∧
  ∀ (O n d : String) (w : Value), RoadKit.Fld Z h x O n d w → RoadKit.slotOf Z O n d ≠ RoadKit.slotOf Z ST "value" "[B" → RoadKit.slotOf Z O n d ≠ RoadKit.slotOf Z ST "coder" "B" → RoadKit.Fld Z h' x O n d w
/-- **new String(chars) AT A CALL, IN THE ROAD'S FORM**: for specialBack behind newO: x the fresh String, b the char[] with the cell A -/
theorem back {p : Program} {l : Launch} {e : Env} {R : Room} {s : State} {args : Array Value} {below : List Frame} {len W : Nat} {Z : State} {a0 : Array Value} {h : Heap} (hZ : Z.Warmed39 s.vm) (hw : ∀ d ∈ words, d.before a0 Z = true) {kI : Nat} (wi : (Jvm.Cond.instantiable ST kI).before a0 Z = true)
    {x b : Addr} {A : Cell} {z : Int32} {v0 c0 : Value} (E : RoadKit.Exa Z h x ST) (V : RoadKit.Fld Z h x ST "value" "[B" v0) (C : RoadKit.Fld Z h x ST "coder" "B" c0) (K : RoadKit.Arr Z h b A .char) (hty : Typed .char A) (S : RoadKit.Sta Z h ST "COMPACT_STRINGS" "Z" (.int z)) (hz : ¬ z = 0)
    (l0 : 0 < A.slots.size) (l2 : A.slots.size ≤ 536870912) (hp : ∀ i, i < A.slots.size → ¬ 255 < cv A i) (hfr : 4 ≤ R.frames) (hlo : W + 65 ≤ R.locals) :
    Back l R p e below s args New1.yN len W (fun P a => a = #[.ref x, .ref b] ∧ P.U.heap = h ∧ P.cells + 1 ≤ R.cells ∧ P.slots + A.slots.size ≤ R.slots)
      (fun P _ v B => ∃ L, Q Z x A h v B.U.heap L ∧ B.locs = P.locs ++ L ∧ B.cells = P.cells + 1 ∧ B.slots = P.slots + A.slots.size) := by
  intro m meth c P g ig mk a X hg hsize hdg hW hn hp'
  obtain ⟨rfl, rfl, r1, r2⟩ := hp'
  have al : Z.vm.Alike P.U.vm := hZ.alike.trans X.warmed.alike
  obtain ⟨D, cfV, kV, iV, fV, hD, gV, stV, knV, obV, asV, slV⟩ := id V
  obtain ⟨D', cfC, kC, iC, fC, hD', gC, stC, -, -, asC, slC⟩ := id C
  cases hD.symm.trans hD'
  obtain ⟨D2, kD, e1, e2, e3, e4, e5⟩ := id E
  cases hD.symm.trans e1
  obtain ⟨c2, k2, i1, i2, i3, -⟩ := Cond.instantiable_spec wi
  cases e2.symm.trans i1
  cases e3.symm.trans i2
  obtain ⟨kU, u1, u2⟩ := al.2.2 _ _ e3
  have hB : Blank ST x D P.U := ⟨hD, ⟨knV, fun q hq => by rw [hq] at obV; cases obV⟩, by rw [al.findClass]; exact e2, kU, u1, by rw [u2]; exact i3, by rw [u2]; exact e5 i3⟩
  have F1 : Found ST "value" "[B" fV P.U := ⟨SBG.found_only al ⟨cfV, kV, iV, gV⟩, stV⟩
  have F2 : Found ST "coder" "B" fC P.U := ⟨SBG.found_only al ⟨cfC, kC, iC, gC⟩, stC⟩
  have hA : Ch b A P.U := ⟨⟨K.1, State.isArrayOf_alike al K.2.1, K.2.2, by omega⟩, hty⟩
  have hS : StaticIs P.U ST "COMPACT_STRINGS" "Z" (.int z) := by
    obtain ⟨cfS, iS, kS, fS, st, cS, t1, t2, t3, t4, t5, t6, t7⟩ := S
    exact StaticIs.there (s := { Z with heap := P.U.heap }) ⟨cfS, iS, kS, fS, st, cS, t1, t2, t3, t4, t5, (fun q => by rw [q] at t6; cases t6), t7⟩ al rfl
  obtain ⟨v, B, X', ⟨⟨hv, E', V', q1, q2, q3, q4, q5, q6, q7, q8, q9, q10, q11⟩, hl, hc, hs⟩, st⟩ := New1.pays x D fV fC b A z (tab_of (moved hZ hw)) hfr hlo m meth c P g ig mk _ X hg hsize hdg hW hn ⟨r1, r2, rfl, hB, F1, F2, hA, hS, hz, l0, l2, hp⟩
  have al' : Z.vm.Alike B.U.vm := hZ.alike.trans X'.warmed.alike
  have hsz : E'.slots.size = D.slots.size := by
    obtain ⟨-, -, -, kB, w1, w2, w3⟩ := q1
    obtain ⟨kB', y1, y2⟩ := al'.2.2 _ _ e3
    rw [q2.2.1] at w1
    cases w1.symm.trans y1
    rw [w3, e5 i3, y2]
  refine ⟨v, B, X', ⟨_, ⟨hv, ?_, ⟨by omega, fun y cy hy hn' => q10 y cy (by simpa using hn') hy, fun y cy hy => ?_⟩, q11, ⟨E', _, q1.1, by rw [q2.2.1]; exact e2, by rw [q2.2.1]; exact e3, by rw [q2.1]; exact obV, fun _ => by rw [hsz]; exact e5 i3⟩,
    ⟨E', cfV, kV, iV, fV, q1.1, gV, stV, by rw [q2.1]; exact knV, by rw [q2.1]; exact obV, by rw [q2.2.1]; exact asV, q3⟩, ⟨E', cfC, kC, iC, fC, q1.1, gC, stC, by rw [q2.1]; exact knV, by rw [q2.1]; exact obV, by rw [q2.2.1]; exact asC, q4⟩,
    ⟨V', ⟨q5.1, State.isArrayOf_alike al'.symm q5.2.1, q5.2.2.1⟩, q6, by rw [← al'.findClass]; exact q7, q8, fun j hj => by have := q9 j hj; rwa [Nat.zero_add] at this⟩, fun O n d w F n1 n2 => ?_⟩, hl, hc, hs⟩, st⟩
  · intro y hy
    simp only [List.mem_cons, List.not_mem_nil, or_false] at hy
    rcases hy with rfl | rfl <;> rfl
  · by_cases q : y = x
    · subst q
      cases hD.symm.trans hy
      exact ⟨E', q1.1, q2.2.1, q2.1, hsz⟩
    · exact ⟨cy, q10 y cy q hy, rfl, rfl, rfl⟩
  · obtain ⟨D3, cf, k, i, f, g1, g2, g3, g4, g5, g6, g7⟩ := F
    cases hD.symm.trans g1
    simp only [RoadKit.slotOf, g2, gV, gC, Option.map_some, Option.getD_some] at n1 n2
    exact ⟨E', cf, k, i, f, q1.1, g2, g3, by rw [q2.1]; exact g4, by rw [q2.1]; exact g5, by rw [q2.2.1]; exact g6, by rw [q2.2.2 f.slot (by simp [n1, n2])]; exact g7⟩
end StrChars.Road
namespace StrChars.Road
open Jvm Sem ClassFile Op Lib Jvm.Stand Jvm.Free Jvm.Free.XT
/-- WHAT COMES BACK, the byte[] as a list of values -/
def QA (Z : State) (x : Addr) (zn : Int32) (cs : List Int32) (h : Heap) (v : Option Value) (h' : Heap) (L : List Loc) : Prop := v = none ∧ (∀ y ∈ L, y.base = x) ∧ RoadKit.Keep h h' [x] ∧ h'.size = h.size + 1 ∧ RoadKit.Exa Z h' x ST ∧ RoadKit.Fld Z h' x ST "value" "[B" (.ref h.size) ∧ RoadKit.Fld Z h' x ST "coder" "B" (.int 0) ∧
  (∃ kb, Z.vm.findClass "[B" = some kb ∧ RoadKit.Arv Z h' h.size kb .byte zn (cs.map fun c => .int (lo8 c)) (.int 0)) ∧
  ∀ (O n d : String) (w : Value), RoadKit.Fld Z h x O n d w → RoadKit.slotOf Z O n d ≠ RoadKit.slotOf Z ST "value" "[B" → RoadKit.slotOf Z O n d ≠ RoadKit.slotOf Z ST "coder" "B" → RoadKit.Fld Z h' x O n d w
/-- **new String(chars) AT A CALL, THE ARRAYS AS LISTS**: the char[] at b holds cs, not empty, no char above 255 -/
theorem backArv {p : Program} {l : Launch} {e : Env} {R : Room} {s : State} {args : Array Value} {below : List Frame} {len W : Nat} {Z : State} {a0 : Array Value} {h : Heap} (hZ : Z.Warmed39 s.vm) (hw : ∀ d ∈ words, d.before a0 Z = true) {kI : Nat} (wi : (Jvm.Cond.instantiable ST kI).before a0 Z = true)
    {x b : Addr} {k : ClassId} {zn z : Int32} {cs : List Int32} {dv v0 c0 : Value} (E : RoadKit.Exa Z h x ST) (V : RoadKit.Fld Z h x ST "value" "[B" v0) (C : RoadKit.Fld Z h x ST "coder" "B" c0) (K : RoadKit.Arv Z h b k .char zn (cs.map Value.int) dv) (S : RoadKit.Sta Z h ST "COMPACT_STRINGS" "Z" (.int z)) (hz : ¬ z = 0)
    (hlen : zn.toNatClampNeg = cs.length) (h0 : 0 < cs.length) (hbig : cs.length ≤ 536870912) (hall : ∀ c ∈ cs, ¬ 255 < c) (hfr : 4 ≤ R.frames) (hlo : W + 65 ≤ R.locals) :
    Back l R p e below s args New1.yN len W (fun P a => a = #[.ref x, .ref b] ∧ P.U.heap = h ∧ P.cells + 1 ≤ R.cells ∧ P.slots + cs.length ≤ R.slots)
      (fun P _ v B => ∃ L, QA Z x zn cs h v B.U.heap L ∧ B.locs = P.locs ++ L ∧ B.cells = P.cells + 1 ∧ B.slots = P.slots + cs.length) := by
  obtain ⟨A, K1, K2, K3, K4, K5, K6⟩ := K
  have e : A.slots.size = cs.length := K3.trans hlen
  have hat : ∀ (i : Nat) (hi : i < cs.length), A.slots[i]? = some (.int cs[i]) := fun i hi => by rw [K5 i (by omega)]; simp [List.getD_eq_getElem?_getD, hi]
  have hcv : ∀ (i : Nat) (hi : i < cs.length), cv A i = cs[i] := fun i hi => by unfold cv; rw [hat i hi]
  have hty : Typed .char A := fun i v hv => by
    have hi : i < A.slots.size := (Array.getElem?_eq_some_iff.mp hv).1
    have q := K5 i hi
    rw [hv] at q
    rw [Option.some.inj q]
    exact K6 i hi
  refine Back.mono (back hZ hw wi E V C K1 hty S hz (by omega) (by omega) (fun i hi => by rw [hcv i (by omega)]; exact hall _ (List.getElem_mem _)) hfr hlo) (fun P a hp => ⟨hp.1, hp.2.1, hp.2.2.1, by rw [e]; exact hp.2.2.2⟩) (fun P a v B hp hq => ?_)
  obtain ⟨L, ⟨q1, q2, q3, q4, q5, q6, q7, ⟨V', v1, v2, v3, v4, v5⟩, q9⟩, hl, hc, hs⟩ := hq
  refine ⟨L, ⟨q1, q2, q3, q4, q5, q6, q7, ⟨V'.cls, v3, V', v1, rfl, by rw [v4, e, hlen], K4, fun i hi => ?_, fun i hi => ?_⟩, q9⟩, hl, hc, by rw [hs, e]⟩
  · have hi' : i < cs.length := by omega
    rw [v5 i (by omega), hcv i hi']; simp [List.getD_eq_getElem?_getD, hi']
  · have hi' : i < cs.length := by omega
    simp only [List.getD_eq_getElem?_getD, List.getElem?_map, List.getElem?_eq_getElem hi', Option.map_some, Option.getD_some]
    exact fits_lo8 _
end StrChars.Road
namespace StrChars.Road
open Jvm Sem ClassFile Op Lib Jvm.Stand Jvm.Free Jvm.Free.XT
/-- WHAT COMES BACK, in the writer's own shape -/
def QV (Z : State) (x : Addr) (N : Int32) (bs : List Int32) (h : Heap) (n0 : Nat) (v : Option Value) (h' : Heap) (L : List Loc) : Prop := v = none ∧ RoadKit.Fr n0 L ∧ RoadKit.Keep h h' [x] ∧ RoadKit.Exa Z h' x ST ∧ RoadKit.Fld Z h' x ST "coder" "B" (.int 0) ∧
  ∃ (t : Addr) (kb : ClassId), n0 ≤ t ∧ h.size ≤ t ∧ ¬ t = x ∧ RoadKit.Fld Z h' x ST "value" "[B" (.ref t) ∧ RoadKit.Arv Z h' t kb .byte N (bs.map Value.int) (.int 0)
/-- **new String(chars) AT A CALL, FOR THE WRITER**: a char[] of n known ints, each 0 to 255 -/
theorem backV {p : Program} {l : Launch} {e : Env} {R : Room} {s : State} {args : Array Value} {below : List Frame} {len W : Nat} {Z : State} {a0 : Array Value} {h : Heap} (hZ : Z.Warmed39 s.vm) (hw : ∀ d ∈ words, d.before a0 Z = true) {kI : Nat} (wi : (Jvm.Cond.instantiable ST kI).before a0 Z = true)
    {x b : Addr} {kC : ClassId} {cs bs : List Int32} {d v0 c0 : Value} {z N : Int32} {n n0 : Nat} (hx0 : n0 ≤ x) (hh0 : n0 ≤ h.size) (E : RoadKit.Exa Z h x ST) (V : RoadKit.Fld Z h x ST "value" "[B" v0) (C : RoadKit.Fld Z h x ST "coder" "B" c0) (K : RoadKit.Arv Z h b kC .char N (cs.map Value.int) d) (S : RoadKit.Sta Z h ST "COMPACT_STRINGS" "Z" (.int z)) (hz : ¬ z = 0)
    (hn : cs.length = n) (hN : N = Int32.ofNat n) (l0 : 0 < n) (l2 : n ≤ 4000) (hp : ∀ c ∈ cs, ¬ c < 0 ∧ ¬ (255 : Int32) < c) (hb : bs = cs.map (fun c => c.toInt8.toInt32)) (hfr : 4 ≤ R.frames) (hlo : W + 65 ≤ R.locals) :
    Back l R p e below s args (⟨"java/lang/String", "<init>", "([C)V"⟩ : MethodName) len W (fun P a => a = #[.ref x, .ref b] ∧ P.U.heap = h ∧ P.cells + 1 ≤ R.cells ∧ P.slots + n ≤ R.slots)
      (fun P _ v B => ∃ L, QV Z x N bs h n0 v B.U.heap L ∧ B.locs = P.locs ++ L ∧ B.cells = P.cells + 1 ∧ B.slots = P.slots + n) := by
  subst hn hN hb
  refine Back.mono (backArv hZ hw wi E V C K S hz (n32 (by omega)) l0 (by omega) (fun c hc => (hp c hc).2) hfr hlo) (fun P a hp => hp) (fun P a v B hp hq => ?_)
  obtain ⟨L, ⟨q1, q2, q3, q4, q5, q6, q7, ⟨kb, v1, v2⟩, q9⟩, hl, hc, hs⟩ := hq
  exact ⟨L, ⟨q1, fun y hy => by rw [q2 y hy]; exact hx0, q3, q5, q7, h.size, kb, hh0, Nat.le_refl _, Nat.ne_of_gt E.lt, q6, by rw [List.map_map]; exact v2⟩, hl, hc, hs⟩
end StrChars.Road
end Jvm.Pilot.@@N@@

namespace Jvm.Pilot.@@N@@
open Jvm.Ow (Go Wd)
open Jvm Jvm.ClassFile Sem Op Lib Jvm.Free Jvm.Stand Jvm.LawKit Jvm.RoadKit Bundle Jvm.Pilot.@@N@@.Jvm.D
theorem ww {a0 : Array Value} {Z : State} (hw : ∀ d ∈ tables_1, d.before a0 Z = true) (k : Nat) {d : Jvm.Cond} (h : tables_1[k]? = some d) : d.before a0 Z = true := hw d (List.mem_of_getElem? h)
theorem pd0 : parseMethodDescriptor "()B" = some ⟨[], (some .byte)⟩ := by decide +kernel
theorem pd1 : parseMethodDescriptor "(I)Z" = some ⟨[.int], (some .boolean)⟩ := by decide +kernel
theorem pd2 : parseMethodDescriptor "(II)I" = some ⟨[.int, .int], (some .int)⟩ := by decide +kernel
theorem pd3 : parseMethodDescriptor "([BIII)I" = some ⟨[(.array .byte), .int, .int, .int], (some .int)⟩ := by decide +kernel
theorem pd4 : parseMethodDescriptor "()Z" = some ⟨[], (some .boolean)⟩ := by decide +kernel
theorem pd5 : parseMethodDescriptor "()I" = some ⟨[], (some .int)⟩ := by decide +kernel
theorem pd6 : parseMethodDescriptor "()V" = some ⟨[], none⟩ := by decide +kernel
theorem pd7 : parseMethodDescriptor "([CIILjava/lang/Void;)V" = some ⟨[(.array .char), .int, .int, (.object "java/lang/Void")], none⟩ := by decide +kernel
theorem pd8 : parseMethodDescriptor "([C)V" = some ⟨[(.array .char)], none⟩ := by decide +kernel
theorem pd9 : parseMethodDescriptor "(I)I" = some ⟨[.int], (some .int)⟩ := by decide +kernel
theorem pd10 : parseMethodDescriptor "(I)C" = some ⟨[.int], (some .char)⟩ := by decide +kernel
theorem pd11 : parseMethodDescriptor "(I[C)Ljava/lang/String;" = some ⟨[.int, (.array .char)], (some (.object "java/lang/String"))⟩ := by decide +kernel
theorem pd12 : parseMethodDescriptor "([ZI)I" = some ⟨[(.array .boolean), .int], (some .int)⟩ := by decide +kernel
theorem pd13 : parseMethodDescriptor "(Ljava/lang/String;)I" = some ⟨[(.object "java/lang/String")], (some .int)⟩ := by decide +kernel
theorem pn0 : plainName "java/lang/String" = true := by first | (simp [plainName, overriddenIn]; done) | decide +kernel
theorem pn1 : plainName "java/lang/StringLatin1" = true := by first | (simp [plainName, overriddenIn]; done) | decide +kernel
theorem pn2 : plainName "com/example/mortise/mortise/pack/NamespacedPath" = true := by first | (simp [plainName, overriddenIn]; done) | decide +kernel
theorem pn3 : plainName "com/example/mortise/mortise/pack/NamespacedPathAfterNamespacePinLaw" = true := by first | (simp [plainName, overriddenIn]; done) | decide +kernel
abbrev EL : List (String × Nat) := consts_1
theorem d11_0 : decode jdk_42_method_152_code 0 = .ok (.getstatic 38, 3) := by decide +kernel
theorem d11_3 : decode jdk_42_method_152_code 3 = .ok (.ifCond .eq 10, 3) := by decide +kernel
theorem d11_6 : decode jdk_42_method_152_code 6 = .ok (.aload_n 0, 1) := by decide +kernel
theorem d11_7 : decode jdk_42_method_152_code 7 = .ok (.getfield 15, 3) := by decide +kernel
theorem d11_10 : decode jdk_42_method_152_code 10 = .ok (.goto 4, 3) := by decide +kernel
theorem d11_13 : decode jdk_42_method_152_code 13 = .ok (.iconst 1, 1) := by decide +kernel
theorem d11_14 : decode jdk_42_method_152_code 14 = .ok (.ireturn, 1) := by decide +kernel
set_option maxRecDepth 65536 in
set_option maxHeartbeats 4000000 in
theorem c_coder (l : Launch) (Z : State) (a0 : Array Value) (hw : ∀ d ∈ tables_1, d.before a0 Z = true) (h0 : Heap) (z : Int32) (x : Addr) (S : Sta Z h0 "java/lang/String" "COMPACT_STRINGS" "Z" (.int z)) (hz : ¬ z = 0) (C0 : Fld Z h0 x "java/lang/String" "coder" "B" (.int 0)) : Ow.Pay l Z (⟨"java/lang/String", "coder", "()B"⟩ : MethodName) jdk_42_method_152_code 1 (some .byte) ({ frames := 0, cells := 0, slots := 0, locals := 0 } : Room) #[(.ref x)] h0 (fun v h L => v = some (.int 0) ∧ h = h0 ∧ L = []) := by
  refine Ow.Pay.of (Ls := #[.val (.ref x)]) (plainFor_of_name pn0) (fun m => by first | rfl | (simp [entryFrame, mkF, argsToLocals, Value.category]; done)) ?_
  intro p e s m below meth c T hx hby hml hown hnm hme hZ hret hlk X eT
  refine Ow.getstatic X hx hZ hown (ww hw 53 rfl) Via.refl eT S (pc := 0) (hb hby d11_0) ?_   -- "java/lang/String" "COMPACT_STRINGS" "Z"
  intro T X eT
  refine Ow.if_eq X hx (pc := 3) (pc' := 13) (hb hby d11_3) (by decide) (by decide) (fun q => absurd q hz) (fun h3 => ?_)
  refine Ow.aloadN X hx (pc := 6) (hb hby d11_6) rfl rfl ?_
  refine Ow.getfield X hx hZ hown (ww hw 30 rfl) Via.refl eT C0 (pc := 7) (hb hby d11_7) ?_   -- "java/lang/String" "coder" "B"
  intro T X eT
  refine Ow.goto X hx (pc := 10) (pc' := 14) (hb hby d11_10) (by decide) (by decide) ?_
  exact Ow.nreturn X hx hlk hret (Or.inr (Or.inl rfl)) (hb hby d11_14) ⟨rfl, eT, rfl⟩ (by decide) (by decide)
theorem d9_0 : decode jdk_42_method_154_code 0 = .ok (.getstatic 38, 3) := by decide +kernel
theorem d9_3 : decode jdk_42_method_154_code 3 = .ok (.ifCond .eq 14, 3) := by decide +kernel
theorem d9_6 : decode jdk_42_method_154_code 6 = .ok (.aload_n 0, 1) := by decide +kernel
theorem d9_7 : decode jdk_42_method_154_code 7 = .ok (.getfield 15, 3) := by decide +kernel
theorem d9_10 : decode jdk_42_method_154_code 10 = .ok (.ifCond .ne 7, 3) := by decide +kernel
theorem d9_13 : decode jdk_42_method_154_code 13 = .ok (.iconst 1, 1) := by decide +kernel
theorem d9_14 : decode jdk_42_method_154_code 14 = .ok (.goto 4, 3) := by decide +kernel
theorem d9_17 : decode jdk_42_method_154_code 17 = .ok (.iconst 0, 1) := by decide +kernel
theorem d9_18 : decode jdk_42_method_154_code 18 = .ok (.ireturn, 1) := by decide +kernel
set_option maxRecDepth 65536 in
set_option maxHeartbeats 4000000 in
theorem c_isLatin1 (l : Launch) (Z : State) (a0 : Array Value) (hw : ∀ d ∈ tables_1, d.before a0 Z = true) (h0 : Heap) (z : Int32) (x : Addr) (S : Sta Z h0 "java/lang/String" "COMPACT_STRINGS" "Z" (.int z)) (hz : ¬ z = 0) (C0 : Fld Z h0 x "java/lang/String" "coder" "B" (.int 0)) : Ow.Pay l Z (⟨"java/lang/String", "isLatin1", "()Z"⟩ : MethodName) jdk_42_method_154_code 1 (some .boolean) ({ frames := 0, cells := 0, slots := 0, locals := 0 } : Room) #[(.ref x)] h0 (fun v h L => v = some (.int 1) ∧ h = h0 ∧ L = []) := by
  refine Ow.Pay.of (Ls := #[.val (.ref x)]) (plainFor_of_name pn0) (fun m => by first | rfl | (simp [entryFrame, mkF, argsToLocals, Value.category]; done)) ?_
  intro p e s m below meth c T hx hby hml hown hnm hme hZ hret hlk X eT
  refine Ow.getstatic X hx hZ hown (ww hw 53 rfl) Via.refl eT S (pc := 0) (hb hby d9_0) ?_   -- "java/lang/String" "COMPACT_STRINGS" "Z"
  intro T X eT
  refine Ow.if_eq X hx (pc := 3) (pc' := 17) (hb hby d9_3) (by decide) (by decide) (fun q => absurd q hz) (fun h3 => ?_)
  refine Ow.aloadN X hx (pc := 6) (hb hby d9_6) rfl rfl ?_
  refine Ow.getfield X hx hZ hown (ww hw 30 rfl) Via.refl eT C0 (pc := 7) (hb hby d9_7) ?_   -- "java/lang/String" "coder" "B"
  intro T X eT
  refine Ow.if_ne X hx (pc := 10) (pc' := 17) (hb hby d9_10) (by decide) (by decide) (fun q => absurd rfl q) (fun h10 => ?_)
  refine Ow.iconst X hx (pc := 13) (1) (hb hby d9_13) (by decide) ?_
  refine Ow.goto X hx (pc := 14) (pc' := 18) (hb hby d9_14) (by decide) (by decide) ?_
  exact Ow.nreturn X hx hlk hret (Or.inl rfl) (hb hby d9_18) ⟨rfl, eT, rfl⟩ (by decide) (by decide)
theorem d10_0 : decode jdk_42_method_54_code 0 = .ok (.aload_n 0, 1) := by decide +kernel
theorem d10_1 : decode jdk_42_method_54_code 1 = .ok (.getfield 9, 3) := by decide +kernel
theorem d10_4 : decode jdk_42_method_54_code 4 = .ok (.arraylength, 1) := by decide +kernel
theorem d10_5 : decode jdk_42_method_54_code 5 = .ok (.aload_n 0, 1) := by decide +kernel
theorem d10_6 : decode jdk_42_method_54_code 6 = .ok (.invokevirtual 335, 3) := by decide +kernel
theorem d10_9 : decode jdk_42_method_54_code 9 = .ok (.ishr, 1) := by decide +kernel
theorem d10_10 : decode jdk_42_method_54_code 10 = .ok (.ireturn, 1) := by decide +kernel
set_option maxRecDepth 65536 in
set_option maxHeartbeats 4000000 in
theorem c_length (l : Launch) (Z : State) (a0 : Array Value) (hw : ∀ d ∈ tables_1, d.before a0 Z = true) (h0 : Heap) (z : Int32) (x t : Addr) (kb : ClassId) (bs : List Int32) (S : Sta Z h0 "java/lang/String" "COMPACT_STRINGS" "Z" (.int z)) (hz : ¬ z = 0) (St : Ow.Str Z h0 x t kb bs) : Ow.Pay l Z (⟨"java/lang/String", "length", "()I"⟩ : MethodName) jdk_42_method_54_code 1 (some .int) ({ frames := 1, cells := 0, slots := 0, locals := 13 } : Room) #[(.ref x)] h0 (fun v h L => v = some (.int (Int32.ofNat bs.length)) ∧ h = h0 ∧ L = []) := by
  refine Ow.Pay.of (Ls := #[.val (.ref x)]) (plainFor_of_name pn0) (fun m => by first | rfl | (simp [entryFrame, mkF, argsToLocals, Value.category]; done)) ?_
  intro p e s m below meth c T hx hby hml hown hnm hme hZ hret hlk X eT
  refine Ow.aloadN X hx (pc := 0) (hb hby d10_0) rfl rfl ?_
  refine Ow.getfield X hx hZ hown (ww hw 29 rfl) Via.refl eT St.2.2.1 (pc := 1) (hb hby d10_1) ?_   -- "java/lang/String" "value" "[B"
  intro T X eT
  refine Ow.lengthL X hx hZ eT St.2.2.2 (Int32.ofNat bs.length) (by rw [List.length_map]) (pc := 4) (hb hby d10_4) ?_
  refine Ow.aloadN X hx (pc := 5) (hb hby d10_5) rfl rfl ?_
  refine Ow.callVP X hx hZ (c_coder l Z a0 hw h0 z x S hz St.2.1) rfl rfl eT hown (ww hw 59 rfl) (ww hw 60 rfl) (ww hw 62 rfl) (ww hw 61 rfl) (ww hw 12 rfl) (ww hw 63 rfl) (by decide) pd0 (by rw [hml]; rfl) St.1 (argsL := []) rfl rfl rfl (pc := 6) (hb hby d10_6) rfl rfl (by decide) (by decide) ?_   -- java/lang/String.coder:()B
  intro T X eT
  dsimp only [Option.toList_some, Option.toList_none, List.cons_append, List.nil_append]
  refine Ow.ishr X hx (pc := 9) (hb hby d10_9) ?_
  exact Ow.ireturn X hx hlk hret (hb hby d10_10) ⟨by rw [Ow.shr0], eT, rfl⟩ (by decide) (by decide)
theorem d14_0 : decode jdk_29_method_65_code 0 = .ok (.iload_n 0, 1) := by decide +kernel
theorem d14_1 : decode jdk_29_method_65_code 1 = .ok (.iload_n 1, 1) := by decide +kernel
theorem d14_2 : decode jdk_29_method_65_code 2 = .ok (.if_icmp .lt 7, 3) := by decide +kernel
theorem d14_5 : decode jdk_29_method_65_code 5 = .ok (.iload_n 0, 1) := by decide +kernel
theorem d14_6 : decode jdk_29_method_65_code 6 = .ok (.goto 4, 3) := by decide +kernel
theorem d14_9 : decode jdk_29_method_65_code 9 = .ok (.iload_n 1, 1) := by decide +kernel
theorem d14_10 : decode jdk_29_method_65_code 10 = .ok (.ireturn, 1) := by decide +kernel
set_option maxRecDepth 65536 in
set_option maxHeartbeats 4000000 in
theorem c_max (l : Launch) (Z : State) (a0 : Array Value) (hw : ∀ d ∈ tables_1, d.before a0 Z = true) (h0 : Heap) (a b : Int32) : Ow.Pay l Z (⟨"java/lang/Math", "max", "(II)I"⟩ : MethodName) jdk_29_method_65_code 2 (some .int) ({ frames := 0, cells := 0, slots := 0, locals := 0 } : Room) #[(.int a), (.int b)] h0 (fun v h L => v = some (.int (if a < b then b else a)) ∧ h = h0 ∧ L = []) := by
  refine Ow.Pay.of (Ls := #[.val (.int a), .val (.int b)]) (Jvm.Free.JP.mathPlain rfl (by decide)) (fun m => by first | rfl | (simp [entryFrame, mkF, argsToLocals, Value.category]; done)) ?_
  intro p e s m below meth c T hx hby hml hown hnm hme hZ hret hlk X eT
  refine Ow.iloadN X hx (pc := 0) (hb hby d14_0) rfl ?_
  refine Ow.iloadN X hx (pc := 1) (hb hby d14_1) rfl ?_
  refine Ow.icmp_lt X hx (pc := 2) (pc' := 9) (hb hby d14_2) (by decide) (by decide) (fun h2 => ?_) (fun h2 => ?_)
  · refine Ow.iloadN X hx (pc := 9) (hb hby d14_9) rfl ?_
    exact Ow.ireturn X hx hlk hret (hb hby d14_10) ⟨by simp [h2], eT, rfl⟩ (by decide) (by decide)
  · refine Ow.iloadN X hx (pc := 5) (hb hby d14_5) rfl ?_
    refine Ow.goto X hx (pc := 6) (pc' := 10) (hb hby d14_6) (by decide) (by decide) ?_
    exact Ow.ireturn X hx hlk hret (hb hby d14_10) ⟨by simp [h2], eT, rfl⟩ (by decide) (by decide)
theorem d15_0 : decode jdk_29_method_69_code 0 = .ok (.iload_n 0, 1) := by decide +kernel
theorem d15_1 : decode jdk_29_method_69_code 1 = .ok (.iload_n 1, 1) := by decide +kernel
theorem d15_2 : decode jdk_29_method_69_code 2 = .ok (.if_icmp .gt 7, 3) := by decide +kernel
theorem d15_5 : decode jdk_29_method_69_code 5 = .ok (.iload_n 0, 1) := by decide +kernel
theorem d15_6 : decode jdk_29_method_69_code 6 = .ok (.goto 4, 3) := by decide +kernel
theorem d15_9 : decode jdk_29_method_69_code 9 = .ok (.iload_n 1, 1) := by decide +kernel
theorem d15_10 : decode jdk_29_method_69_code 10 = .ok (.ireturn, 1) := by decide +kernel
set_option maxRecDepth 65536 in
set_option maxHeartbeats 4000000 in
theorem c_min (l : Launch) (Z : State) (a0 : Array Value) (hw : ∀ d ∈ tables_1, d.before a0 Z = true) (h0 : Heap) (a b : Int32) : Ow.Pay l Z (⟨"java/lang/Math", "min", "(II)I"⟩ : MethodName) jdk_29_method_69_code 2 (some .int) ({ frames := 0, cells := 0, slots := 0, locals := 0 } : Room) #[(.int a), (.int b)] h0 (fun v h L => v = some (.int (if b < a then b else a)) ∧ h = h0 ∧ L = []) := by
  refine Ow.Pay.of (Ls := #[.val (.int a), .val (.int b)]) (Jvm.Free.JP.mathPlain rfl (by decide)) (fun m => by first | rfl | (simp [entryFrame, mkF, argsToLocals, Value.category]; done)) ?_
  intro p e s m below meth c T hx hby hml hown hnm hme hZ hret hlk X eT
  refine Ow.iloadN X hx (pc := 0) (hb hby d15_0) rfl ?_
  refine Ow.iloadN X hx (pc := 1) (hb hby d15_1) rfl ?_
  refine Ow.icmp_gt X hx (pc := 2) (pc' := 9) (hb hby d15_2) (by decide) (by decide) (fun h2 => ?_) (fun h2 => ?_)
  · refine Ow.iloadN X hx (pc := 9) (hb hby d15_9) rfl ?_
    exact Ow.ireturn X hx hlk hret (hb hby d15_10) ⟨by simp [h2], eT, rfl⟩ (by decide) (by decide)
  · refine Ow.iloadN X hx (pc := 5) (hb hby d15_5) rfl ?_
    refine Ow.goto X hx (pc := 6) (pc' := 10) (hb hby d15_6) (by decide) (by decide) ?_
    exact Ow.ireturn X hx hlk hret (hb hby d15_10) ⟨by simp [h2], eT, rfl⟩ (by decide) (by decide)
theorem d13_0 : decode jdk_43_method_4_code 0 = .ok (.iload_n 0, 1) := by decide +kernel
theorem d13_1 : decode jdk_43_method_4_code 1 = .ok (.ifCond .lt 14, 3) := by decide +kernel
theorem d13_4 : decode jdk_43_method_4_code 4 = .ok (.iload_n 0, 1) := by decide +kernel
theorem d13_5 : decode jdk_43_method_4_code 5 = .ok (.sipush 255, 3) := by decide +kernel
theorem d13_8 : decode jdk_43_method_4_code 8 = .ok (.if_icmp .gt 7, 3) := by decide +kernel
theorem d13_11 : decode jdk_43_method_4_code 11 = .ok (.iconst 1, 1) := by decide +kernel
theorem d13_12 : decode jdk_43_method_4_code 12 = .ok (.goto 4, 3) := by decide +kernel
theorem d13_15 : decode jdk_43_method_4_code 15 = .ok (.iconst 0, 1) := by decide +kernel
theorem d13_16 : decode jdk_43_method_4_code 16 = .ok (.ireturn, 1) := by decide +kernel
set_option maxRecDepth 65536 in
set_option maxHeartbeats 4000000 in
theorem c_canEncode (l : Launch) (Z : State) (a0 : Array Value) (hw : ∀ d ∈ tables_1, d.before a0 Z = true) (h0 : Heap) : Ow.Pay l Z (⟨"java/lang/StringLatin1", "canEncode", "(I)Z"⟩ : MethodName) jdk_43_method_4_code 1 (some .boolean) ({ frames := 0, cells := 0, slots := 0, locals := 0 } : Room) #[(.int 47)] h0 (fun v h L => v = some (.int 1) ∧ h = h0 ∧ L = []) := by
  refine Ow.Pay.of (Ls := #[.val (.int 47)]) (plainFor_of_name pn1) (fun m => by first | rfl | (simp [entryFrame, mkF, argsToLocals, Value.category]; done)) ?_
  intro p e s m below meth c T hx hby hml hown hnm hme hZ hret hlk X eT
  refine Ow.iloadN X hx (pc := 0) (hb hby d13_0) rfl ?_
  refine Ow.if_lt X hx (pc := 1) (pc' := 15) (hb hby d13_1) (by decide) (by decide) (fun q => absurd q (by decide)) (fun h1 => ?_)
  refine Ow.iloadN X hx (pc := 4) (hb hby d13_4) rfl ?_
  refine Ow.sipush X hx (pc := 5) (255) (hb hby d13_5) (by decide) ?_
  refine Ow.icmp_gt X hx (pc := 8) (pc' := 15) (hb hby d13_8) (by decide) (by decide) (fun q => absurd q (by decide)) (fun h8 => ?_)
  refine Ow.iconst X hx (pc := 11) (1) (hb hby d13_11) (by decide) ?_
  refine Ow.goto X hx (pc := 12) (pc' := 16) (hb hby d13_12) (by decide) (by decide) ?_
  exact Ow.nreturn X hx hlk hret (Or.inl rfl) (hb hby d13_16) ⟨rfl, eT, rfl⟩ (by decide) (by decide)
/-- the first place from i on, of f places, that holds c; -1 if none -/
def own_ix (c : Int32) (bs : List Int32) : Nat → Nat → Int32
  | _, 0 => -1
  | i, f + 1 => if bs.getD i 0 = c then Int32.ofNat i else own_ix c bs (i + 1) f
theorem own_ix_succ (c : Int32) (bs : List Int32) (i f : Nat) : own_ix c bs i (f + 1) = if bs.getD i 0 = c then Int32.ofNat i else own_ix c bs (i + 1) f := rfl
def own_ixs (c : Int32) (bs : List Int32) (fr : Nat) : Int32 := own_ix c bs fr (bs.length - fr)
theorem own_ix_cases (c : Int32) (bs : List Int32) : ∀ (f i : Nat), own_ix c bs i f = -1 ∨ ∃ k, i ≤ k ∧ k < i + f ∧ own_ix c bs i f = Int32.ofNat k
  | 0, i => Or.inl rfl
  | f + 1, i => by
    unfold own_ix
    by_cases h : bs.getD i 0 = c
    · rw [if_pos h]; exact Or.inr ⟨i, by omega, by omega, rfl⟩
    · rw [if_neg h]
      rcases own_ix_cases c bs f (i + 1) with q | ⟨k, h1, h2, h3⟩
      · exact Or.inl q
      · exact Or.inr ⟨k, by omega, by omega, h3⟩
theorem d19_0 : decode jdk_43_method_23_code 0 = .ok (.iload_n 1, 1) := by decide +kernel
theorem d19_1 : decode jdk_43_method_23_code 1 = .ok (.i2b, 1) := by decide +kernel
theorem d19_2 : decode jdk_43_method_23_code 2 = .ok (.istore 4, 2) := by decide +kernel
theorem d19_4 : decode jdk_43_method_23_code 4 = .ok (.iload_n 2, 1) := by decide +kernel
theorem d19_5 : decode jdk_43_method_23_code 5 = .ok (.istore 5, 2) := by decide +kernel
theorem d19_7 : decode jdk_43_method_23_code 7 = .ok (.iload 5, 2) := by decide +kernel
theorem d19_9 : decode jdk_43_method_23_code 9 = .ok (.iload_n 3, 1) := by decide +kernel
theorem d19_10 : decode jdk_43_method_23_code 10 = .ok (.if_icmp .ge 21, 3) := by decide +kernel
theorem d19_13 : decode jdk_43_method_23_code 13 = .ok (.aload_n 0, 1) := by decide +kernel
theorem d19_14 : decode jdk_43_method_23_code 14 = .ok (.iload 5, 2) := by decide +kernel
theorem d19_16 : decode jdk_43_method_23_code 16 = .ok (.baload, 1) := by decide +kernel
theorem d19_17 : decode jdk_43_method_23_code 17 = .ok (.iload 4, 2) := by decide +kernel
theorem d19_19 : decode jdk_43_method_23_code 19 = .ok (.if_icmp .ne 6, 3) := by decide +kernel
theorem d19_22 : decode jdk_43_method_23_code 22 = .ok (.iload 5, 2) := by decide +kernel
theorem d19_24 : decode jdk_43_method_23_code 24 = .ok (.ireturn, 1) := by decide +kernel
theorem d19_25 : decode jdk_43_method_23_code 25 = .ok (.iinc 5 1, 3) := by decide +kernel
theorem d19_28 : decode jdk_43_method_23_code 28 = .ok (.goto (-21), 3) := by decide +kernel
theorem d19_31 : decode jdk_43_method_23_code 31 = .ok (.iconst (-1), 1) := by decide +kernel
theorem d19_32 : decode jdk_43_method_23_code 32 = .ok (.ireturn, 1) := by decide +kernel
set_option maxRecDepth 65536 in
set_option maxHeartbeats 4000000 in
theorem c_indexOfChar (l : Launch) (Z : State) (a0 : Array Value) (hw : ∀ d ∈ tables_1, d.before a0 Z = true) (h0 : Heap) (t : Addr) (kb : ClassId) (bs : List Int32) (fr to : Nat) (A : Ow.AL Z h0 t kb .byte (bs.map Value.int)) (hfr : fr ≤ to) (hto : to ≤ bs.length) (hbig : bs.length < 2147483648) : Ow.Pay l Z (⟨"java/lang/StringLatin1", "indexOfChar", "([BIII)I"⟩ : MethodName) jdk_43_method_23_code 6 (some .int) ({ frames := 0, cells := 0, slots := 0, locals := 0 } : Room) #[(.ref t), (.int 47), (.int (Int32.ofNat fr)), (.int (Int32.ofNat to))] h0 (fun v h L => v = some (.int (own_ix 47 bs fr (to - fr))) ∧ h = h0 ∧ L = []) := by
  refine Ow.Pay.of (Ls := #[.val (.ref t), .val (.int 47), .val (.int (Int32.ofNat fr)), .val (.int (Int32.ofNat to)), .unset, .unset]) (plainFor_of_name pn1) (fun m => by first | rfl | (simp [entryFrame, mkF, argsToLocals, Value.category]; done)) ?_
  intro p e s m below meth c T hx hby hml hown hnm hme hZ hret hlk X eT
  have lp : ∀ (f i : Nat), i + f = to → own_ix 47 bs fr (to - fr) = own_ix 47 bs i f → ∀ T, Stand p l e ({ frames := 0, cells := 0, slots := 0, locals := 0 } : Room) s m #[(.ref t), (.int 47), (.int (Int32.ofNat fr)), (.int (Int32.ofNat to))] below meth c T [] 0 0 → T.heap = h0 → Go p.tables e below (Ow.EndN s (fun v h L => v = some (.int (own_ix 47 bs fr (to - fr))) ∧ h = h0 ∧ L = []) 0 0) (T.setTop (mkF m 7 #[.val (.ref t), .val (.int 47), .val (.int (Int32.ofNat fr)), .val (.int (Int32.ofNat to)), .val (.int 47), .val (.int (Int32.ofNat i))] [])) := by
    intro f
    induction f with
    | zero =>
      intro i hi hv T X eT
      refine Ow.iload X hx (pc := 7) (hb hby d19_7) rfl ?_
      refine Ow.iloadN X hx (pc := 9) (hb hby d19_9) rfl ?_
      refine Ow.icmp_ge X hx (pc := 10) (pc' := 31) (hb hby d19_10) (by decide) (by decide) (fun h10 => ?_) (fun q => absurd ((Ow.n_lt (by omega) (by omega)).mp q) (by omega))
      refine Ow.iconst X hx (pc := 31) (-1) (hb hby d19_31) (by decide) ?_
      exact Ow.ireturn X hx hlk hret (hb hby d19_32) ⟨by rw [hv]; rfl, eT, rfl⟩ (by decide) (by decide)
    | succ f ih =>
      intro i hi hv T X eT
      have hib : i < bs.length := by omega
      have hg : (bs.map Value.int)[i]? = some (.int (bs.getD i 0)) := by simp [hib]
      rw [own_ix_succ] at hv
      refine Ow.iload X hx (pc := 7) (hb hby d19_7) rfl ?_
      refine Ow.iloadN X hx (pc := 9) (hb hby d19_9) rfl ?_
      refine Ow.icmp_ge X hx (pc := 10) (pc' := 31) (hb hby d19_10) (by decide) (by decide) (fun q => absurd ((Ow.n_lt (by omega) (by omega)).mpr (show i < to by omega)) q) (fun h10 => ?_)
      refine Ow.aloadN X hx (pc := 13) (hb hby d19_13) rfl rfl ?_
      refine Ow.iload X hx (pc := 14) (hb hby d19_14) rfl ?_
      refine Ow.baloadL X hx hZ eT A i (.int (bs.getD i 0)) (Ow.n_nn (by omega)) (Ow.n_cl (by omega)) hg (pc := 16) (hb hby d19_16) ?_
      refine Ow.iload X hx (pc := 17) (hb hby d19_17) rfl ?_
      refine Ow.icmp_ne X hx (pc := 19) (pc' := 25) (hb hby d19_19) (by decide) (by decide) (fun h19 => ?_) (fun h19 => ?_)
      · refine Ow.iinc X hx (pc := 25) 1 #[_, _, _, _, _, _] (hb hby d19_25) (by decide) rfl rfl ?_
        rw [Ow.n_one]
        refine Ow.goto X hx (pc := 28) (pc' := 7) (hb hby d19_28) (by decide) (by decide) ?_
        rw [if_neg h19] at hv
        exact ih (i + 1) (by omega) hv T X eT
      · refine Ow.iload X hx (pc := 22) (hb hby d19_22) rfl ?_
        exact Ow.ireturn X hx hlk hret (hb hby d19_24) ⟨by rw [hv, if_pos h19], eT, rfl⟩ (by decide) (by decide)
  refine Ow.iloadN X hx (pc := 0) (hb hby d19_0) rfl ?_
  refine Ow.i2b X hx (pc := 1) (hb hby d19_1) ?_
  rw [show (47 : Int32).toInt8.toInt32 = 47 from by decide]
  refine Ow.istore X hx (pc := 2) #[_, _, _, _, _, _] (hb hby d19_2) rfl ?_
  refine Ow.iloadN X hx (pc := 4) (hb hby d19_4) rfl ?_
  refine Ow.istore X hx (pc := 5) #[_, _, _, _, _, _] (hb hby d19_5) rfl ?_
  exact lp (to - fr) fr (by omega) rfl T X eT
theorem d12_0 : decode jdk_43_method_22_code 0 = .ok (.iload_n 1, 1) := by decide +kernel
theorem d12_1 : decode jdk_43_method_22_code 1 = .ok (.invokestatic 88, 3) := by decide +kernel
theorem d12_4 : decode jdk_43_method_22_code 4 = .ok (.ifCond .ne 5, 3) := by decide +kernel
theorem d12_7 : decode jdk_43_method_22_code 7 = .ok (.iconst (-1), 1) := by decide +kernel
theorem d12_8 : decode jdk_43_method_22_code 8 = .ok (.ireturn, 1) := by decide +kernel
theorem d12_9 : decode jdk_43_method_22_code 9 = .ok (.iload_n 2, 1) := by decide +kernel
theorem d12_10 : decode jdk_43_method_22_code 10 = .ok (.iconst 0, 1) := by decide +kernel
theorem d12_11 : decode jdk_43_method_22_code 11 = .ok (.invokestatic 92, 3) := by decide +kernel
theorem d12_14 : decode jdk_43_method_22_code 14 = .ok (.istore_n 2, 1) := by decide +kernel
theorem d12_15 : decode jdk_43_method_22_code 15 = .ok (.iload_n 3, 1) := by decide +kernel
theorem d12_16 : decode jdk_43_method_22_code 16 = .ok (.aload_n 0, 1) := by decide +kernel
theorem d12_17 : decode jdk_43_method_22_code 17 = .ok (.arraylength, 1) := by decide +kernel
theorem d12_18 : decode jdk_43_method_22_code 18 = .ok (.invokestatic 38, 3) := by decide +kernel
theorem d12_21 : decode jdk_43_method_22_code 21 = .ok (.istore_n 3, 1) := by decide +kernel
theorem d12_22 : decode jdk_43_method_22_code 22 = .ok (.iload_n 2, 1) := by decide +kernel
theorem d12_23 : decode jdk_43_method_22_code 23 = .ok (.iload_n 3, 1) := by decide +kernel
theorem d12_24 : decode jdk_43_method_22_code 24 = .ok (.if_icmp .lt 5, 3) := by decide +kernel
theorem d12_27 : decode jdk_43_method_22_code 27 = .ok (.iconst (-1), 1) := by decide +kernel
theorem d12_28 : decode jdk_43_method_22_code 28 = .ok (.ireturn, 1) := by decide +kernel
theorem d12_29 : decode jdk_43_method_22_code 29 = .ok (.aload_n 0, 1) := by decide +kernel
theorem d12_30 : decode jdk_43_method_22_code 30 = .ok (.iload_n 1, 1) := by decide +kernel
theorem d12_31 : decode jdk_43_method_22_code 31 = .ok (.iload_n 2, 1) := by decide +kernel
theorem d12_32 : decode jdk_43_method_22_code 32 = .ok (.iload_n 3, 1) := by decide +kernel
theorem d12_33 : decode jdk_43_method_22_code 33 = .ok (.invokestatic 95, 3) := by decide +kernel
theorem d12_36 : decode jdk_43_method_22_code 36 = .ok (.ireturn, 1) := by decide +kernel
set_option maxRecDepth 65536 in
set_option maxHeartbeats 4000000 in
theorem c_latIndexOf (l : Launch) (Z : State) (a0 : Array Value) (hw : ∀ d ∈ tables_1, d.before a0 Z = true) (h0 : Heap) (t : Addr) (kb : ClassId) (bs : List Int32) (fr : Nat) (A : Ow.AL Z h0 t kb .byte (bs.map Value.int)) (hfr : fr ≤ bs.length) (hbig : bs.length < 2147483648) : Ow.Pay l Z (⟨"java/lang/StringLatin1", "indexOf", "([BIII)I"⟩ : MethodName) jdk_43_method_22_code 4 (some .int) ({ frames := 1, cells := 0, slots := 0, locals := 17 } : Room) #[(.ref t), (.int 47), (.int (Int32.ofNat fr)), (.int (Int32.ofNat bs.length))] h0 (fun v h L => v = some (.int (own_ixs 47 bs fr)) ∧ h = h0 ∧ L = []) := by
  refine Ow.Pay.of (Ls := #[.val (.ref t), .val (.int 47), .val (.int (Int32.ofNat fr)), .val (.int (Int32.ofNat bs.length))]) (plainFor_of_name pn1) (fun m => by first | rfl | (simp [entryFrame, mkF, argsToLocals, Value.category]; done)) ?_
  intro p e s m below meth c T hx hby hml hown hnm hme hZ hret hlk X eT
  refine Ow.iloadN X hx (pc := 0) (hb hby d12_0) rfl ?_
  refine Ow.callSP X hx hZ (c_canEncode l Z a0 hw h0) rfl rfl eT hown (ww hw 68 rfl) (ww hw 69 rfl) (ww hw 66 rfl) (ww hw 70 rfl) (by decide) pd1 (by rw [hml]; rfl) (argsL := [_]) rfl rfl rfl (pc := 1) (hb hby d12_1) rfl rfl (by decide) (by decide) ?_   -- java/lang/StringLatin1.canEncode:(I)Z
  intro T X eT
  dsimp only [Option.toList_some, Option.toList_none, List.cons_append, List.nil_append]
  refine Ow.if_ne X hx (pc := 4) (pc' := 9) (hb hby d12_4) (by decide) (by decide) (fun h4 => ?_) (fun q => absurd q (by decide))
  refine Ow.iloadN X hx (pc := 9) (hb hby d12_9) rfl ?_
  refine Ow.iconst X hx (pc := 10) (0) (hb hby d12_10) (by decide) ?_
  refine Ow.callSP X hx hZ (c_max l Z a0 hw h0 _ _) rfl rfl eT hown (ww hw 71 rfl) (ww hw 72 rfl) (ww hw 73 rfl) (ww hw 74 rfl) (by decide) pd2 (by rw [hml]; rfl) (argsL := [_, _]) rfl rfl rfl (pc := 11) (hb hby d12_11) rfl rfl (by decide) (by decide) ?_   -- java/lang/Math.max:(II)I
  intro T X eT
  dsimp only [Option.toList_some, Option.toList_none, List.cons_append, List.nil_append]
  rw [if_neg (Ow.n_nn (by omega))]
  refine Ow.istoreN X hx (pc := 14) #[_, _, _, _] (hb hby d12_14) rfl ?_
  refine Ow.iloadN X hx (pc := 15) (hb hby d12_15) rfl ?_
  refine Ow.aloadN X hx (pc := 16) (hb hby d12_16) rfl rfl ?_
  refine Ow.lengthL X hx hZ eT A (Int32.ofNat bs.length) (by rw [List.length_map]) (pc := 17) (hb hby d12_17) ?_
  refine Ow.callSP X hx hZ (c_min l Z a0 hw h0 _ _) rfl rfl eT hown (ww hw 75 rfl) (ww hw 76 rfl) (ww hw 73 rfl) (ww hw 77 rfl) (by decide) pd2 (by rw [hml]; rfl) (argsL := [_, _]) rfl rfl rfl (pc := 18) (hb hby d12_18) rfl rfl (by decide) (by decide) ?_   -- java/lang/Math.min:(II)I
  intro T X eT
  dsimp only [Option.toList_some, Option.toList_none, List.cons_append, List.nil_append]
  rw [if_neg Int32.lt_irrefl]
  refine Ow.istoreN X hx (pc := 21) #[_, _, _, _] (hb hby d12_21) rfl ?_
  refine Ow.iloadN X hx (pc := 22) (hb hby d12_22) rfl ?_
  refine Ow.iloadN X hx (pc := 23) (hb hby d12_23) rfl ?_
  refine Ow.icmp_lt X hx (pc := 24) (pc' := 29) (hb hby d12_24) (by decide) (by decide) (fun h24 => ?_) (fun h24 => ?_)
  · refine Ow.aloadN X hx (pc := 29) (hb hby d12_29) rfl rfl ?_
    refine Ow.iloadN X hx (pc := 30) (hb hby d12_30) rfl ?_
    refine Ow.iloadN X hx (pc := 31) (hb hby d12_31) rfl ?_
    refine Ow.iloadN X hx (pc := 32) (hb hby d12_32) rfl ?_
    refine Ow.callSP X hx hZ (c_indexOfChar l Z a0 hw h0 t kb bs fr bs.length A (by omega) (Nat.le_refl _) hbig) rfl rfl eT hown (ww hw 89 rfl) (ww hw 90 rfl) (ww hw 66 rfl) (ww hw 91 rfl) (by decide) pd3 (by rw [hml]; rfl) (argsL := [_, _, _, _]) rfl rfl rfl (pc := 33) (hb hby d12_33) rfl rfl (by decide) (by decide) ?_   -- java/lang/StringLatin1.indexOfChar:([BIII)I
    intro T X eT
    dsimp only [Option.toList_some, Option.toList_none, List.cons_append, List.nil_append]
    exact Ow.ireturn X hx hlk hret (hb hby d12_36) ⟨rfl, eT, rfl⟩ (by decide) (by decide)
  · refine Ow.iconst X hx (pc := 27) (-1) (hb hby d12_27) (by decide) ?_
    refine Ow.ireturn X hx hlk hret (hb hby d12_28) ⟨?_, eT, rfl⟩ (by decide) (by decide)
    have hq : bs.length - fr = 0 := by have : ¬ fr < bs.length := fun r => h24 ((Ow.n_lt (by omega) (by omega)).mpr r); omega
    unfold own_ixs; rw [hq]; rfl
theorem d8_0 : decode jdk_42_method_80_code 0 = .ok (.aload_n 0, 1) := by decide +kernel
theorem d8_1 : decode jdk_42_method_80_code 1 = .ok (.invokevirtual 492, 3) := by decide +kernel
theorem d8_4 : decode jdk_42_method_80_code 4 = .ok (.ifCond .eq 19, 3) := by decide +kernel
theorem d8_7 : decode jdk_42_method_80_code 7 = .ok (.aload_n 0, 1) := by decide +kernel
theorem d8_8 : decode jdk_42_method_80_code 8 = .ok (.getfield 9, 3) := by decide +kernel
theorem d8_11 : decode jdk_42_method_80_code 11 = .ok (.iload_n 1, 1) := by decide +kernel
theorem d8_12 : decode jdk_42_method_80_code 12 = .ok (.iload_n 2, 1) := by decide +kernel
theorem d8_13 : decode jdk_42_method_80_code 13 = .ok (.aload_n 0, 1) := by decide +kernel
theorem d8_14 : decode jdk_42_method_80_code 14 = .ok (.invokevirtual 505, 3) := by decide +kernel
theorem d8_17 : decode jdk_42_method_80_code 17 = .ok (.invokestatic 637, 3) := by decide +kernel
theorem d8_20 : decode jdk_42_method_80_code 20 = .ok (.goto 16, 3) := by decide +kernel
theorem d8_23 : decode jdk_42_method_80_code 23 = .ok (.aload_n 0, 1) := by decide +kernel
theorem d8_24 : decode jdk_42_method_80_code 24 = .ok (.getfield 9, 3) := by decide +kernel
theorem d8_27 : decode jdk_42_method_80_code 27 = .ok (.iload_n 1, 1) := by decide +kernel
theorem d8_28 : decode jdk_42_method_80_code 28 = .ok (.iload_n 2, 1) := by decide +kernel
theorem d8_29 : decode jdk_42_method_80_code 29 = .ok (.aload_n 0, 1) := by decide +kernel
theorem d8_30 : decode jdk_42_method_80_code 30 = .ok (.invokevirtual 505, 3) := by decide +kernel
theorem d8_33 : decode jdk_42_method_80_code 33 = .ok (.invokestatic 640, 3) := by decide +kernel
theorem d8_36 : decode jdk_42_method_80_code 36 = .ok (.ireturn, 1) := by decide +kernel
set_option maxRecDepth 65536 in
set_option maxHeartbeats 4000000 in
theorem c_indexOf2 (l : Launch) (Z : State) (a0 : Array Value) (hw : ∀ d ∈ tables_1, d.before a0 Z = true) (h0 : Heap) (z : Int32) (x t : Addr) (kb : ClassId) (bs : List Int32) (fr : Nat) (S : Sta Z h0 "java/lang/String" "COMPACT_STRINGS" "Z" (.int z)) (hz : ¬ z = 0) (St : Ow.Str Z h0 x t kb bs) (hfr : fr ≤ bs.length) (hbig : bs.length < 2147483648) : Ow.Pay l Z (⟨"java/lang/String", "indexOf", "(II)I"⟩ : MethodName) jdk_42_method_80_code 3 (some .int) ({ frames := 2, cells := 0, slots := 0, locals := 40 } : Room) #[(.ref x), (.int 47), (.int (Int32.ofNat fr))] h0 (fun v h L => v = some (.int (own_ixs 47 bs fr)) ∧ h = h0 ∧ L = []) := by
  refine Ow.Pay.of (Ls := #[.val (.ref x), .val (.int 47), .val (.int (Int32.ofNat fr))]) (plainFor_of_name pn0) (fun m => by first | rfl | (simp [entryFrame, mkF, argsToLocals, Value.category]; done)) ?_
  intro p e s m below meth c T hx hby hml hown hnm hme hZ hret hlk X eT
  refine Ow.aloadN X hx (pc := 0) (hb hby d8_0) rfl rfl ?_
  refine Ow.callVP X hx hZ (c_isLatin1 l Z a0 hw h0 z x S hz St.2.1) rfl rfl eT hown (ww hw 48 rfl) (ww hw 49 rfl) (ww hw 51 rfl) (ww hw 50 rfl) (ww hw 12 rfl) (ww hw 52 rfl) (by decide) pd4 (by rw [hml]; rfl) St.1 (argsL := []) rfl rfl rfl (pc := 1) (hb hby d8_1) rfl rfl (by decide) (by decide) ?_   -- java/lang/String.isLatin1:()Z
  intro T X eT
  dsimp only [Option.toList_some, Option.toList_none, List.cons_append, List.nil_append]
  refine Ow.if_eq X hx (pc := 4) (pc' := 23) (hb hby d8_4) (by decide) (by decide) (fun q => absurd q (by decide)) (fun h4 => ?_)
  refine Ow.aloadN X hx (pc := 7) (hb hby d8_7) rfl rfl ?_
  refine Ow.getfield X hx hZ hown (ww hw 29 rfl) Via.refl eT St.2.2.1 (pc := 8) (hb hby d8_8) ?_   -- "java/lang/String" "value" "[B"
  intro T X eT
  refine Ow.iloadN X hx (pc := 11) (hb hby d8_11) rfl ?_
  refine Ow.iloadN X hx (pc := 12) (hb hby d8_12) rfl ?_
  refine Ow.aloadN X hx (pc := 13) (hb hby d8_13) rfl rfl ?_
  refine Ow.callVP X hx hZ (c_length l Z a0 hw h0 z x t kb bs S hz St) rfl rfl eT hown (ww hw 54 rfl) (ww hw 55 rfl) (ww hw 57 rfl) (ww hw 56 rfl) (ww hw 12 rfl) (ww hw 58 rfl) (by decide) pd5 (by rw [hml]; rfl) St.1 (argsL := []) rfl rfl rfl (pc := 14) (hb hby d8_14) rfl rfl (by decide) (by decide) ?_   -- java/lang/String.length:()I
  intro T X eT
  dsimp only [Option.toList_some, Option.toList_none, List.cons_append, List.nil_append]
  refine Ow.callSP X hx hZ (c_latIndexOf l Z a0 hw h0 t kb bs fr St.2.2.2 hfr hbig) rfl rfl eT hown (ww hw 64 rfl) (ww hw 65 rfl) (ww hw 66 rfl) (ww hw 67 rfl) (by decide) pd3 (by rw [hml]; rfl) (argsL := [_, _, _, _]) rfl rfl rfl (pc := 17) (hb hby d8_17) rfl rfl (by decide) (by decide) ?_   -- java/lang/StringLatin1.indexOf:([BIII)I
  intro T X eT
  dsimp only [Option.toList_some, Option.toList_none, List.cons_append, List.nil_append]
  refine Ow.goto X hx (pc := 20) (pc' := 36) (hb hby d8_20) (by decide) (by decide) ?_
  exact Ow.ireturn X hx hlk hret (hb hby d8_36) ⟨rfl, eT, rfl⟩ (by decide) (by decide)
theorem d7_0 : decode jdk_42_method_79_code 0 = .ok (.aload_n 0, 1) := by decide +kernel
theorem d7_1 : decode jdk_42_method_79_code 1 = .ok (.iload_n 1, 1) := by decide +kernel
theorem d7_2 : decode jdk_42_method_79_code 2 = .ok (.iconst 0, 1) := by decide +kernel
theorem d7_3 : decode jdk_42_method_79_code 3 = .ok (.invokevirtual 633, 3) := by decide +kernel
theorem d7_6 : decode jdk_42_method_79_code 6 = .ok (.ireturn, 1) := by decide +kernel
set_option maxRecDepth 65536 in
set_option maxHeartbeats 4000000 in
theorem c_indexOf1 (l : Launch) (Z : State) (a0 : Array Value) (hw : ∀ d ∈ tables_1, d.before a0 Z = true) (h0 : Heap) (z : Int32) (x t : Addr) (kb : ClassId) (bs : List Int32) (S : Sta Z h0 "java/lang/String" "COMPACT_STRINGS" "Z" (.int z)) (hz : ¬ z = 0) (St : Ow.Str Z h0 x t kb bs) (hbig : bs.length < 2147483648) : Ow.Pay l Z (⟨"java/lang/String", "indexOf", "(I)I"⟩ : MethodName) jdk_42_method_79_code 2 (some .int) ({ frames := 3, cells := 0, slots := 0, locals := 60 } : Room) #[(.ref x), (.int 47)] h0 (fun v h L => v = some (.int (own_ixs 47 bs 0)) ∧ h = h0 ∧ L = []) := by
  refine Ow.Pay.of (Ls := #[.val (.ref x), .val (.int 47)]) (plainFor_of_name pn0) (fun m => by first | rfl | (simp [entryFrame, mkF, argsToLocals, Value.category]; done)) ?_
  intro p e s m below meth c T hx hby hml hown hnm hme hZ hret hlk X eT
  refine Ow.aloadN X hx (pc := 0) (hb hby d7_0) rfl rfl ?_
  refine Ow.iloadN X hx (pc := 1) (hb hby d7_1) rfl ?_
  refine Ow.iconst X hx (pc := 2) (0) (hb hby d7_2) (by decide) ?_
  refine Ow.callVP X hx hZ (c_indexOf2 l Z a0 hw h0 z x t kb bs 0 S hz St (Nat.zero_le _) hbig) rfl rfl eT hown (ww hw 43 rfl) (ww hw 44 rfl) (ww hw 46 rfl) (ww hw 45 rfl) (ww hw 12 rfl) (ww hw 47 rfl) (by decide) pd2 (by rw [hml]; rfl) St.1 (argsL := [_, _]) rfl rfl rfl (pc := 3) (hb hby d7_3) rfl rfl (by decide) (by decide) ?_   -- java/lang/String.indexOf:(II)I
  intro T X eT
  dsimp only [Option.toList_some, Option.toList_none, List.cons_append, List.nil_append]
  exact Ow.ireturn X hx hlk hret (hb hby d7_6) ⟨rfl, eT, rfl⟩ (by decide) (by decide)
theorem d3_0 : decode jdk_42_method_149_code 0 = .ok (.aload_n 0, 1) := by decide +kernel
theorem d3_1 : decode jdk_42_method_149_code 1 = .ok (.invokespecial 1, 3) := by decide +kernel
theorem d3_4 : decode jdk_42_method_149_code 4 = .ok (.iload_n 3, 1) := by decide +kernel
theorem d3_5 : decode jdk_42_method_149_code 5 = .ok (.ifCond .ne 22, 3) := by decide +kernel
theorem d3_8 : decode jdk_42_method_149_code 8 = .ok (.aload_n 0, 1) := by decide +kernel
theorem d3_9 : decode jdk_42_method_149_code 9 = .ok (.ldc 7, 2) := by decide +kernel
theorem d3_11 : decode jdk_42_method_149_code 11 = .ok (.getfield 9, 3) := by decide +kernel
theorem d3_14 : decode jdk_42_method_149_code 14 = .ok (.putfield 9, 3) := by decide +kernel
theorem d3_17 : decode jdk_42_method_149_code 17 = .ok (.aload_n 0, 1) := by decide +kernel
theorem d3_18 : decode jdk_42_method_149_code 18 = .ok (.ldc 7, 2) := by decide +kernel
theorem d3_20 : decode jdk_42_method_149_code 20 = .ok (.getfield 15, 3) := by decide +kernel
theorem d3_23 : decode jdk_42_method_149_code 23 = .ok (.putfield 15, 3) := by decide +kernel
theorem d3_26 : decode jdk_42_method_149_code 26 = .ok (.return_, 1) := by decide +kernel
theorem d3_27 : decode jdk_42_method_149_code 27 = .ok (.getstatic 38, 3) := by decide +kernel
theorem d3_30 : decode jdk_42_method_149_code 30 = .ok (.ifCond .eq 28, 3) := by decide +kernel
theorem d3_33 : decode jdk_42_method_149_code 33 = .ok (.aload_n 1, 1) := by decide +kernel
theorem d3_34 : decode jdk_42_method_149_code 34 = .ok (.iload_n 2, 1) := by decide +kernel
theorem d3_35 : decode jdk_42_method_149_code 35 = .ok (.iload_n 3, 1) := by decide +kernel
theorem d3_36 : decode jdk_42_method_149_code 36 = .ok (.invokestatic 177, 3) := by decide +kernel
theorem d3_39 : decode jdk_42_method_149_code 39 = .ok (.astore 5, 2) := by decide +kernel
theorem d3_41 : decode jdk_42_method_149_code 41 = .ok (.aload_n 0, 1) := by decide +kernel
theorem d3_42 : decode jdk_42_method_149_code 42 = .ok (.aload 5, 2) := by decide +kernel
theorem d3_44 : decode jdk_42_method_149_code 44 = .ok (.iload_n 3, 1) := by decide +kernel
theorem d3_45 : decode jdk_42_method_149_code 45 = .ok (.invokestatic 47, 3) := by decide +kernel
theorem d3_48 : decode jdk_42_method_149_code 48 = .ok (.putfield 15, 3) := by decide +kernel
theorem d3_51 : decode jdk_42_method_149_code 51 = .ok (.aload_n 0, 1) := by decide +kernel
theorem d3_52 : decode jdk_42_method_149_code 52 = .ok (.aload 5, 2) := by decide +kernel
theorem d3_54 : decode jdk_42_method_149_code 54 = .ok (.putfield 9, 3) := by decide +kernel
theorem d3_57 : decode jdk_42_method_149_code 57 = .ok (.return_, 1) := by decide +kernel
theorem d3_58 : decode jdk_42_method_149_code 58 = .ok (.aload_n 0, 1) := by decide +kernel
theorem d3_59 : decode jdk_42_method_149_code 59 = .ok (.iconst 1, 1) := by decide +kernel
theorem d3_60 : decode jdk_42_method_149_code 60 = .ok (.putfield 15, 3) := by decide +kernel
theorem d3_63 : decode jdk_42_method_149_code 63 = .ok (.aload_n 0, 1) := by decide +kernel
theorem d3_64 : decode jdk_42_method_149_code 64 = .ok (.aload_n 1, 1) := by decide +kernel
theorem d3_65 : decode jdk_42_method_149_code 65 = .ok (.iload_n 2, 1) := by decide +kernel
theorem d3_66 : decode jdk_42_method_149_code 66 = .ok (.iload_n 3, 1) := by decide +kernel
theorem d3_67 : decode jdk_42_method_149_code 67 = .ok (.invokestatic 180, 3) := by decide +kernel
theorem d3_70 : decode jdk_42_method_149_code 70 = .ok (.putfield 9, 3) := by decide +kernel
theorem d3_73 : decode jdk_42_method_149_code 73 = .ok (.return_, 1) := by decide +kernel
set_option maxRecDepth 65536 in
set_option maxHeartbeats 4000000 in
theorem c_new4e (l : Launch) (Z : State) (a0 : Array Value) (hw : ∀ d ∈ tables_1, d.before a0 Z = true) (hEL : EW Z a0 EL) (h0 : Heap) (x b : Addr) (v0 c0 : Value) (E : Exa Z h0 x "java/lang/String") (V : Fld Z h0 x "java/lang/String" "value" "[B" v0) (C0 : Fld Z h0 x "java/lang/String" "coder" "B" c0) : Ow.PayW l Z EL [x] (⟨"java/lang/String", "<init>", "([CIILjava/lang/Void;)V"⟩ : MethodName) jdk_42_method_149_code 6 none ({ frames := 1, cells := 4, slots := 8, locals := 40 } : Room) #[(.ref x), (.ref b), (.int 0), (.int 0), (.null)] h0 (fun v h L => v = none ∧ Ow.Eff h0 h [x] L ∧ ∃ t kb, Ow.Str Z h x t kb []) := by
  refine Ow.PayW.of (Ls := #[.val (.ref x), .val (.ref b), .val (.int 0), .val (.int 0), .val (.null), .unset]) (plainFor_of_name pn0) (fun m => by first | rfl | (simp [entryFrame, mkF, argsToLocals, Value.category]; done)) ?_
  intro p e s m below meth c T vm0 hx hby hml hown hnm hme hret hlk X eT D hsf
  have wS : ∀ a ∈ Bundle.stringAtoms, a.before a0 Z = true := fun d hd => hw d ((by decide +kernel : ∀ d ∈ Bundle.stringAtoms, d ∈ tables_1) d hd)
  have hni := (name_of_methodNamed hnm hme).1
  have Sx : Safe Z EL vm0 h0 x := hsf x (by simp)
  have hlt := E.lt
  have hsl : RoadKit.slotOf Z "java/lang/String" "coder" "B" ≠ RoadKit.slotOf Z "java/lang/String" "value" "[B" := slot_ne (a0 := a0) (C := "java/lang/String") (Or.inr (ww hw 26 rfl)) (Or.inr (ww hw 25 rfl)) (by decide) (t := .byte) (t' := .array .byte) (by decide) (by decide)
  refine Ow.aloadN X hx (pc := 0) (hb hby d3_0) rfl rfl ?_
  refine Ow.objinit X hx D.hZ hown (ww hw 20 rfl) (ww hw 21 rfl) (ww hw 22 rfl) eT (by rw [hml]; rfl) (pc := 1) (hb hby d3_1) rfl rfl ?_
  intro T X eT
  refine Ow.iloadN X hx (pc := 4) (hb hby d3_4) rfl ?_
  refine Ow.if_ne X hx (pc := 5) (pc' := 27) (hb hby d3_5) (by decide) (by decide) (fun q => absurd rfl q) (fun h5 => ?_)
  refine Ow.aloadN X hx (pc := 8) (hb hby d3_8) rfl rfl ?_
  refine Ow.ldcS X hx eT D hEL hown (ww hw 23 rfl) wS (by decide) (vs := []) (z := 0) (by decide) (by decide) (by decide) (pc := 9) (hb hby d3_9) 0 (by decide) (by decide) (by decide) (by decide) ?_
  intro vm1 a1 T h1 b1 k1 X eT E1 D hown C1 A1 F1c F1v V1 ne1
  have Sx1 := C1.safe hlt Sx
  have ne := ne1 x Sx1
  refine Ow.getfield X hx D.hZ hown (ww hw 29 rfl) Via.refl eT F1v (pc := 11) (hb hby d3_11) ?_
  intro T X eT
  refine Ow.putfield X hx D.hZ hown (ww hw 29 rfl) Via.refl eT (V.ext E1) (E.ext E1) (Or.inr ⟨(ww hw 25 rfl), rfl, hni⟩) (ww hw 11 rfl) (ty := .array .byte) (by decide) rfl rfl (pc := 14) (hb hby d3_14) ?_
  intro T h2 X eT W2
  have Sx2 := D.safeWr W2 Sx1 Sx1
  have D := D.wr W2 Sx1
  refine Ow.aloadN X hx (pc := 17) (hb hby d3_17) rfl rfl ?_
  refine Ow.ldcS X hx eT D hEL hown (ww hw 23 rfl) wS (by decide) (vs := []) (z := 0) (by decide) (by decide) (by decide) (pc := 18) (hb hby d3_18) 0 (by decide) (by decide) (by decide) (by decide) ?_
  intro vm3 a3 T h3 b3 k3 X eT E3 D hown C3 A3 F3c F3v V3 ne3
  have Sx3 := C3.safe (by rw [W2.size]; exact Nat.lt_of_lt_of_le hlt E1.1) Sx2
  refine Ow.getfield X hx D.hZ hown (ww hw 30 rfl) Via.refl eT F3c (pc := 20) (hb hby d3_20) ?_
  intro T X eT
  refine Ow.putfield X hx D.hZ hown (ww hw 30 rfl) Via.refl eT (((C0.ext E1).other W2 (Or.inr hsl)).ext E3) (((E.ext E1).wr W2).ext E3) (Or.inr ⟨(ww hw 26 rfl), rfl, hni⟩) (ww hw 11 rfl) (ty := .byte) (by decide) rfl rfl (pc := 23) (hb hby d3_23) ?_
  intro T h4 X eT W4
  have D := D.wr W4 Sx3
  refine Ow.vreturnW X hx eT D hEL hlk hret (hb hby d3_26) ?_ (by decide) (by decide)
  rw [eT]
  refine ⟨rfl, (((((Ow.Eff.refl h0 [x]).ext E1).wr W2 (Or.inl (by simp))).ext E3).wr W4 (Or.inl (by simp))), b1, k1, ⟨(((E.ext E1).wr W2).ext E3).wr W4, (((C0.ext E1).other W2 (Or.inr hsl)).ext E3).same W4, (((V.ext E1).same W2).ext E3).other W4 (Or.inr (Ne.symm hsl)), ?_⟩⟩
  exact (((Ow.AL.of_arv V1 rfl).other W2 (Ne.symm ne.2)).ext E3).other W4 (Ne.symm ne.2)
theorem d2_0 : decode jdk_42_method_3_code 0 = .ok (.aload_n 0, 1) := by decide +kernel
theorem d2_1 : decode jdk_42_method_3_code 1 = .ok (.aload_n 1, 1) := by decide +kernel
theorem d2_2 : decode jdk_42_method_3_code 2 = .ok (.iconst 0, 1) := by decide +kernel
theorem d2_3 : decode jdk_42_method_3_code 3 = .ok (.aload_n 1, 1) := by decide +kernel
theorem d2_4 : decode jdk_42_method_3_code 4 = .ok (.arraylength, 1) := by decide +kernel
theorem d2_5 : decode jdk_42_method_3_code 5 = .ok (.aconst_null, 1) := by decide +kernel
theorem d2_6 : decode jdk_42_method_3_code 6 = .ok (.invokespecial 27, 3) := by decide +kernel
theorem d2_9 : decode jdk_42_method_3_code 9 = .ok (.return_, 1) := by decide +kernel
set_option maxRecDepth 65536 in
set_option maxHeartbeats 4000000 in
theorem c_new1e (l : Launch) (Z : State) (a0 : Array Value) (hw : ∀ d ∈ tables_1, d.before a0 Z = true) (hEL : EW Z a0 EL) (h0 : Heap) (x b : Addr) (v0 c0 : Value) (E : Exa Z h0 x "java/lang/String") (V : Fld Z h0 x "java/lang/String" "value" "[B" v0) (C0 : Fld Z h0 x "java/lang/String" "coder" "B" c0) (kc : ClassId) (A : Ow.AL Z h0 b kc .char []) : Ow.PayW l Z EL [x] (⟨"java/lang/String", "<init>", "([C)V"⟩ : MethodName) jdk_42_method_3_code 2 none ({ frames := 2, cells := 4, slots := 8, locals := 60 } : Room) #[(.ref x), (.ref b)] h0 (fun v h L => v = none ∧ Ow.Eff h0 h [x] L ∧ ∃ t kb, Ow.Str Z h x t kb []) := by
  refine Ow.PayW.of (Ls := #[.val (.ref x), .val (.ref b)]) (plainFor_of_name pn0) (fun m => by first | rfl | (simp [entryFrame, mkF, argsToLocals, Value.category]; done)) ?_
  intro p e s m below meth c T vm0 hx hby hml hown hnm hme hret hlk X eT D hsf
  refine Ow.aloadN X hx (pc := 0) (hb hby d2_0) rfl rfl ?_
  refine Ow.aloadN X hx (pc := 1) (hb hby d2_1) rfl rfl ?_
  refine Ow.iconst X hx (pc := 2) (0) (hb hby d2_2) (by decide) ?_
  refine Ow.aloadN X hx (pc := 3) (hb hby d2_3) rfl rfl ?_
  refine Ow.lengthL X hx D.hZ eT A 0 rfl (pc := 4) (hb hby d2_4) ?_
  refine Ow.aconst_null X hx (pc := 5) (hb hby d2_5) ?_
  refine Ow.callIW X hx (c_new4e l Z a0 hw hEL h0 x b v0 c0 E V C0) eT D hEL (fun y hy => by cases List.mem_singleton.mp hy; exact ⟨E.lt, hsf _ (by simp)⟩) rfl hown (ww hw 16 rfl) (ww hw 17 rfl) (ww hw 12 rfl) (ww hw 19 rfl) (by decide) pd7 (by rw [hml]; rfl) (argsL := [_, _, _, _]) rfl rfl rfl (pc := 6) (hb hby d2_6) rfl rfl (by decide) (by decide) ?_
  rintro _ vm1 T L X ⟨rfl, F, t, kb, St⟩ D hown C1
  dsimp only [Option.toList_some, Option.toList_none, List.cons_append, List.nil_append]
  exact Ow.vreturnW X hx rfl D hEL hlk hret (hb hby d2_9) ⟨rfl, F, t, kb, St⟩ (by decide) (by decide)
theorem own_ch8 : ∀ n : Fin 256, fits .char (.int (Int32.ofNat n.val)) = true ∧ ¬ (255 : Int32) < Int32.ofNat n.val ∧ nar .char (Int32.ofNat n.val) = Int32.ofNat n.val ∧ (Int32.ofNat n.val).toUInt32.toUInt16.toUInt32.toInt32 = Int32.ofNat n.val := by decide +kernel
/-- new String(cs), cs not empty, each a Latin-1 char: as a step -/
theorem strLat {p : Program} {l : Launch} {e : Env} {R : Room} {s : State} {m : MethodId} {args : Array Value} {below : List Frame} {meth : Method} {c : Code} {T : State} {locs : List Loc} {cells slots : Nat} {G : Outcome → State → Prop} {pc : Nat} {Ls : Array Slot} {rest : List Value} {Z : State} {a0 : Array Value} {h : Heap}
    (X : Stand p l e R s m args below meth c T locs cells slots) (hx : p.tables.exec = Jvm.exec) (hZ : Z.Warmed39 s.vm) (hw : ∀ d ∈ tables_1, d.before a0 Z = true) (eT : T.heap = h) {own : String} {index : Nat} (hown : s.vm.findClass own = some m.cls) (wl : (Cond.methodLink own index (⟨"java/lang/String", "<init>", "([C)V"⟩ : MethodName)).before a0 Z = true)
    {x b : Addr} {kc : ClassId} {cs : List Int32} {v0 c0 : Value} {z : Int32} (E : Exa Z h x "java/lang/String") (V : Fld Z h x "java/lang/String" "value" "[B" v0) (C0 : Fld Z h x "java/lang/String" "coder" "B" c0) (A : Ow.AL Z h b kc .char (cs.map Value.int)) (S : Sta Z h "java/lang/String" "COMPACT_STRINGS" "Z" (.int z)) (hz : ¬ z = 0) (n : Nat) (hn : cs.length = n) (h0 : 0 < n) (hbig : n ≤ 4000) (hall : ∀ c ∈ cs, ∃ k : Fin 256, c = Int32.ofNat k.val) (hsz : Ls.size = c.maxLocals)
    (hd : decode c.code pc = .ok (.invokespecial index, 3)) (hf : (4 : Nat).ble R.frames = true) (hlo : ((rest.map fun v => v.category).sum + 65).ble R.locals = true) (hce : cells + 1 ≤ R.cells) (hsl : slots + n ≤ R.slots)
    (K : ∀ (T' : State) (L : List Loc) (kb : ClassId), Stand p l e R s m args below meth c T' (locs ++ L) (cells + 1) (slots + n) → Ow.Eff h T'.heap [x] L → Ow.Str Z T'.heap x h.size kb (cs.map fun c => c.toInt8.toInt32) → Go p.tables e below G (T'.setTop (mkF m (pc + 3) Ls rest))) :
    Go p.tables e below G (T.setTop (mkF m pc Ls (.ref b :: .ref x :: rest))) := by
  subst hn
  have hws : ∀ d ∈ StrChars.Road.words, d.before a0 Z = true := fun d hd => hw d ((by decide +kernel : ∀ d ∈ StrChars.Road.words, d ∈ tables_1) d hd)
  have hb31 : cs.length < 2147483648 := by omega
  refine Ow.callIB X hx hZ (StrChars.Road.backArv (kI := 4) hZ hws (ww hw 11 rfl) E V C0 (A.arv (z := Int32.ofNat cs.length) (dv := .int 0) (Ow.n_nn hb31) (by rw [Ow.n_cl hb31, List.length_map]) (fun v hv => ?_)) S hz (Ow.n_cl hb31) h0 (by omega) (fun c hc => ?_) (Nat.le_of_ble_eq_true hf) (Nat.le_of_ble_eq_true hlo)) eT rfl hown wl (ww hw 14 rfl) (ww hw 15 rfl) (by decide) pd8 hsz (a := x) (argsL := [.ref b]) rfl rfl rfl hd hce hsl ?_
  · obtain ⟨c, hc, rfl⟩ := List.mem_map.mp hv
    obtain ⟨k, rfl⟩ := hall c hc
    exact (own_ch8 k).1
  · obtain ⟨k, rfl⟩ := hall c hc
    exact (own_ch8 k).2.1
  · rintro _ T' L X' ⟨rfl, q2, q3, q4, q5, q6, q7, ⟨kb, -, q8⟩, -⟩
    refine K T' L kb X' ⟨q3, fun y hy => Or.inl (by rw [q2 y hy]; simp)⟩ ⟨q5, q7, q6, ?_⟩
    have q9 := Ow.AL.of_arv q8 (by rw [Ow.n_cl hb31, List.length_map])
    rw [List.map_map]; exact q9
def own_after (bs : List Int32) : Int32 := if 0 < own_ixs 47 bs 0 ∧ own_ixs 47 bs 0 + 1 < own_ixs 47 bs (own_ixs 47 bs 0 + 1).toNatClampNeg then own_ixs 47 bs (own_ixs 47 bs 0 + 1).toNatClampNeg else -1
theorem own_next (c : Int32) (bs : List Int32) (hb : bs.length < 2147483647) : ∃ k, own_ixs c bs 0 + 1 = Int32.ofNat k ∧ k ≤ bs.length := by
  rcases own_ix_cases c bs (bs.length - 0) 0 with q | ⟨k, -, h2, h3⟩
  · exact ⟨0, by unfold own_ixs; rw [q]; decide, Nat.zero_le _⟩
  · exact ⟨k + 1, by unfold own_ixs; rw [h3, Ow.n_one], by omega⟩
theorem d6_0 : decode prog_5_method_4_code 0 = .ok (.aload_n 0, 1) := by decide +kernel
theorem d6_1 : decode prog_5_method_4_code 1 = .ok (.bipush 47, 2) := by decide +kernel
theorem d6_3 : decode prog_5_method_4_code 3 = .ok (.invokevirtual 38, 3) := by decide +kernel
theorem d6_6 : decode prog_5_method_4_code 6 = .ok (.istore_n 1, 1) := by decide +kernel
theorem d6_7 : decode prog_5_method_4_code 7 = .ok (.aload_n 0, 1) := by decide +kernel
theorem d6_8 : decode prog_5_method_4_code 8 = .ok (.bipush 47, 2) := by decide +kernel
theorem d6_10 : decode prog_5_method_4_code 10 = .ok (.iload_n 1, 1) := by decide +kernel
theorem d6_11 : decode prog_5_method_4_code 11 = .ok (.iconst 1, 1) := by decide +kernel
theorem d6_12 : decode prog_5_method_4_code 12 = .ok (.iadd, 1) := by decide +kernel
theorem d6_13 : decode prog_5_method_4_code 13 = .ok (.invokevirtual 69, 3) := by decide +kernel
theorem d6_16 : decode prog_5_method_4_code 16 = .ok (.istore_n 2, 1) := by decide +kernel
theorem d6_17 : decode prog_5_method_4_code 17 = .ok (.iload_n 1, 1) := by decide +kernel
theorem d6_18 : decode prog_5_method_4_code 18 = .ok (.ifCond .le 10, 3) := by decide +kernel
theorem d6_21 : decode prog_5_method_4_code 21 = .ok (.iload_n 2, 1) := by decide +kernel
theorem d6_22 : decode prog_5_method_4_code 22 = .ok (.iload_n 1, 1) := by decide +kernel
theorem d6_23 : decode prog_5_method_4_code 23 = .ok (.iconst 1, 1) := by decide +kernel
theorem d6_24 : decode prog_5_method_4_code 24 = .ok (.iadd, 1) := by decide +kernel
theorem d6_25 : decode prog_5_method_4_code 25 = .ok (.if_icmp .gt 7, 3) := by decide +kernel
theorem d6_28 : decode prog_5_method_4_code 28 = .ok (.iconst (-1), 1) := by decide +kernel
theorem d6_29 : decode prog_5_method_4_code 29 = .ok (.goto 4, 3) := by decide +kernel
theorem d6_32 : decode prog_5_method_4_code 32 = .ok (.iload_n 2, 1) := by decide +kernel
theorem d6_33 : decode prog_5_method_4_code 33 = .ok (.ireturn, 1) := by decide +kernel
set_option maxRecDepth 65536 in
set_option maxHeartbeats 4000000 in
theorem c_after (l : Launch) (Z : State) (a0 : Array Value) (hw : ∀ d ∈ tables_1, d.before a0 Z = true) (h0 : Heap) (z : Int32) (x t : Addr) (kb : ClassId) (bs : List Int32) (S : Sta Z h0 "java/lang/String" "COMPACT_STRINGS" "Z" (.int z)) (hz : ¬ z = 0) (St : Ow.Str Z h0 x t kb bs) (hbig : bs.length ≤ 4000) : Ow.Pay l Z (⟨"com/example/mortise/mortise/pack/NamespacedPath", "afterNamespace", "(Ljava/lang/String;)I"⟩ : MethodName) prog_5_method_4_code 3 (some .int) ({ frames := 4, cells := 0, slots := 0, locals := 80 } : Room) #[(.ref x)] h0 (fun v h L => v = some (.int (own_after bs)) ∧ h = h0 ∧ L = []) := by
  refine Ow.Pay.of (Ls := #[.val (.ref x), .unset, .unset]) (plainFor_of_name pn2) (fun m => by first | rfl | (simp [entryFrame, mkF, argsToLocals, Value.category]; done)) ?_
  intro p e s m below meth c T hx hby hml hown hnm hme hZ hret hlk X eT
  obtain ⟨k, hk, hkl⟩ := own_next 47 bs (by omega)
  have hkc : (own_ixs 47 bs 0 + 1).toNatClampNeg = k := by rw [hk, Ow.n_cl (by omega)]
  refine Ow.aloadN X hx (pc := 0) (hb hby d6_0) rfl rfl ?_
  refine Ow.bipush X hx (pc := 1) (47) (hb hby d6_1) (by decide) ?_
  refine Ow.callVP X hx hZ (c_indexOf1 l Z a0 hw h0 z x t kb bs S hz St (by omega)) rfl rfl eT hown (ww hw 38 rfl) (ww hw 39 rfl) (ww hw 41 rfl) (ww hw 40 rfl) (ww hw 12 rfl) (ww hw 42 rfl) (by decide) pd9 (by rw [hml]; rfl) St.1 (argsL := [_]) rfl rfl rfl (pc := 3) (hb hby d6_3) rfl rfl (by decide) (by decide) ?_   -- java/lang/String.indexOf:(I)I
  intro T X eT
  dsimp only [Option.toList_some, Option.toList_none, List.cons_append, List.nil_append]
  refine Ow.istoreN X hx (pc := 6) #[_, _, _] (hb hby d6_6) rfl ?_
  refine Ow.aloadN X hx (pc := 7) (hb hby d6_7) rfl rfl ?_
  refine Ow.bipush X hx (pc := 8) (47) (hb hby d6_8) (by decide) ?_
  refine Ow.iloadN X hx (pc := 10) (hb hby d6_10) rfl ?_
  refine Ow.iconst X hx (pc := 11) (1) (hb hby d6_11) (by decide) ?_
  refine Ow.iadd X hx (pc := 12) (hb hby d6_12) ?_
  rw [hk]
  refine Ow.callVP X hx hZ (c_indexOf2 l Z a0 hw h0 z x t kb bs k S hz St hkl (by omega)) rfl rfl eT hown (ww hw 78 rfl) (ww hw 44 rfl) (ww hw 46 rfl) (ww hw 45 rfl) (ww hw 12 rfl) (ww hw 47 rfl) (by decide) pd2 (by rw [hml]; rfl) St.1 (argsL := [_, _]) rfl rfl rfl (pc := 13) (hb hby d6_13) rfl rfl (by decide) (by decide) ?_   -- java/lang/String.indexOf:(II)I
  intro T X eT
  dsimp only [Option.toList_some, Option.toList_none, List.cons_append, List.nil_append]
  refine Ow.istoreN X hx (pc := 16) #[_, _, _] (hb hby d6_16) rfl ?_
  refine Ow.iloadN X hx (pc := 17) (hb hby d6_17) rfl ?_
  refine Ow.if_le X hx (pc := 18) (pc' := 28) (hb hby d6_18) (by decide) (by decide) (fun h18 => ?_) (fun h18 => ?_)
  · refine Ow.iconst X hx (pc := 28) (-1) (hb hby d6_28) (by decide) ?_
    refine Ow.goto X hx (pc := 29) (pc' := 33) (hb hby d6_29) (by decide) (by decide) ?_
    exact Ow.ireturn X hx hlk hret (hb hby d6_33) ⟨by unfold own_after; rw [hkc]; first | (rw [if_pos ⟨by assumption, by assumption⟩]; done) | (rw [if_neg (by rintro ⟨_, _⟩; contradiction)]; done), eT, rfl⟩ (by decide) (by decide)
  · refine Ow.iloadN X hx (pc := 21) (hb hby d6_21) rfl ?_
    refine Ow.iloadN X hx (pc := 22) (hb hby d6_22) rfl ?_
    refine Ow.iconst X hx (pc := 23) (1) (hb hby d6_23) (by decide) ?_
    refine Ow.iadd X hx (pc := 24) (hb hby d6_24) ?_
    refine Ow.icmp_gt X hx (pc := 25) (pc' := 32) (hb hby d6_25) (by decide) (by decide) (fun h25 => ?_) (fun h25 => ?_)
    · refine Ow.iloadN X hx (pc := 32) (hb hby d6_32) rfl ?_
      exact Ow.ireturn X hx hlk hret (hb hby d6_33) ⟨by unfold own_after; rw [hkc]; first | (rw [if_pos ⟨by assumption, by assumption⟩]; done) | (rw [if_neg (by rintro ⟨_, _⟩; contradiction)]; done), eT, rfl⟩ (by decide) (by decide)
    · refine Ow.iconst X hx (pc := 28) (-1) (hb hby d6_28) (by decide) ?_
      refine Ow.goto X hx (pc := 29) (pc' := 33) (hb hby d6_29) (by decide) (by decide) ?_
      exact Ow.ireturn X hx hlk hret (hb hby d6_33) ⟨by unfold own_after; rw [hkc]; first | (rw [if_pos ⟨by assumption, by assumption⟩]; done) | (rw [if_neg (by rintro ⟨_, _⟩; contradiction)]; done), eT, rfl⟩ (by decide) (by decide)
def own_ch (v : Int32) : Int32 := if v &&& 256 = 0 then v &&& 255 else 47
theorem own_mask (x : Int32) : ∃ n : Fin 256, (x &&& (255 : Int32)) = Int32.ofNat n.val := by
  refine ⟨⟨(x &&& 255).toBitVec.toNat, ?_⟩, ?_⟩
  · simp only [Int32.toBitVec_and, BitVec.toNat_and]
    exact Nat.lt_of_le_of_lt Nat.and_le_right (by decide)
  · apply Int32.toBitVec_inj.mp
    show _ = BitVec.ofNat 32 _
    rw [BitVec.ofNat_toNat]; simp
theorem own_ch_8 (v : Int32) : ∃ n : Fin 256, own_ch v = Int32.ofNat n.val := by
  unfold own_ch
  split
  · exact own_mask v
  · exact ⟨47, rfl⟩
theorem own_i2c (v : Int32) : nar .char ((v &&& 255).toUInt32.toUInt16.toUInt32.toInt32) = v &&& 255 := by
  obtain ⟨n, hn⟩ := own_mask v
  rw [hn, (own_ch8 n).2.2.2, (own_ch8 n).2.2.1]
theorem d0_0 : decode method_3_code 0 = .ok (.iload_n 0, 1) := by decide +kernel
theorem d0_1 : decode method_3_code 1 = .ok (.sipush 256, 3) := by decide +kernel
theorem d0_4 : decode method_3_code 4 = .ok (.iand, 1) := by decide +kernel
theorem d0_5 : decode method_3_code 5 = .ok (.ifCond .eq 8, 3) := by decide +kernel
theorem d0_8 : decode method_3_code 8 = .ok (.bipush 47, 2) := by decide +kernel
theorem d0_10 : decode method_3_code 10 = .ok (.goto 9, 3) := by decide +kernel
theorem d0_13 : decode method_3_code 13 = .ok (.iload_n 0, 1) := by decide +kernel
theorem d0_14 : decode method_3_code 14 = .ok (.sipush 255, 3) := by decide +kernel
theorem d0_17 : decode method_3_code 17 = .ok (.iand, 1) := by decide +kernel
theorem d0_18 : decode method_3_code 18 = .ok (.i2c, 1) := by decide +kernel
theorem d0_19 : decode method_3_code 19 = .ok (.ireturn, 1) := by decide +kernel
set_option maxRecDepth 65536 in
set_option maxHeartbeats 4000000 in
theorem c_ch (l : Launch) (Z : State) (a0 : Array Value) (hw : ∀ d ∈ tables_1, d.before a0 Z = true) (h0 : Heap) (v0 : Int32) : Ow.Pay l Z (⟨"com/example/mortise/mortise/pack/NamespacedPathAfterNamespacePinLaw", "ch", "(I)C"⟩ : MethodName) method_3_code 1 (some .char) ({ frames := 0, cells := 0, slots := 0, locals := 0 } : Room) #[(.int v0)] h0 (fun v h L => v = some (.int (own_ch v0)) ∧ h = h0 ∧ L = []) := by
  refine Ow.Pay.of (Ls := #[.val (.int v0)]) (plainFor_of_name pn3) (fun m => by first | rfl | (simp [entryFrame, mkF, argsToLocals, Value.category]; done)) ?_
  intro p e s m below meth c T hx hby hml hown hnm hme hZ hret hlk X eT
  refine Ow.iloadN X hx (pc := 0) (hb hby d0_0) rfl ?_
  refine Ow.sipush X hx (pc := 1) (256) (hb hby d0_1) (by decide) ?_
  refine Ow.iand X hx (pc := 4) (hb hby d0_4) ?_
  refine Ow.if_eq X hx (pc := 5) (pc' := 13) (hb hby d0_5) (by decide) (by decide) (fun h5 => ?_) (fun h5 => ?_)
  · refine Ow.iloadN X hx (pc := 13) (hb hby d0_13) rfl ?_
    refine Ow.sipush X hx (pc := 14) (255) (hb hby d0_14) (by decide) ?_
    refine Ow.iand X hx (pc := 17) (hb hby d0_17) ?_
    refine Ow.i2c X hx (pc := 18) (hb hby d0_18) ?_
    exact Ow.nreturn X hx hlk hret (Or.inr (Or.inr (Or.inl rfl))) (hb hby d0_19) ⟨by unfold own_ch; first | (rw [if_pos h5, own_i2c]; done) | (rw [if_neg h5]; rfl), eT, rfl⟩ (by decide) (by decide)
  · refine Ow.bipush X hx (pc := 8) (47) (hb hby d0_8) (by decide) ?_
    refine Ow.goto X hx (pc := 10) (pc' := 19) (hb hby d0_10) (by decide) (by decide) ?_
    exact Ow.nreturn X hx hlk hret (Or.inr (Or.inr (Or.inl rfl))) (hb hby d0_19) ⟨by unfold own_ch; first | (rw [if_pos h5, own_i2c]; done) | (rw [if_neg h5]; rfl), eT, rfl⟩ (by decide) (by decide)
theorem d5_0 : decode method_4_code 0 = .ok (.iload_n 1, 1) := by decide +kernel
theorem d5_1 : decode method_4_code 1 = .ok (.ifCond .gt 11, 3) := by decide +kernel
theorem d5_4 : decode method_4_code 4 = .ok (.aload_n 0, 1) := by decide +kernel
theorem d5_5 : decode method_4_code 5 = .ok (.iconst 0, 1) := by decide +kernel
theorem d5_6 : decode method_4_code 6 = .ok (.baload, 1) := by decide +kernel
theorem d5_7 : decode method_4_code 7 = .ok (.ifCond .eq 5, 3) := by decide +kernel
theorem d5_10 : decode method_4_code 10 = .ok (.iconst 0, 1) := by decide +kernel
theorem d5_11 : decode method_4_code 11 = .ok (.ireturn, 1) := by decide +kernel
theorem d5_12 : decode method_4_code 12 = .ok (.iload_n 1, 1) := by decide +kernel
theorem d5_13 : decode method_4_code 13 = .ok (.iconst 1, 1) := by decide +kernel
theorem d5_14 : decode method_4_code 14 = .ok (.if_icmp .gt 11, 3) := by decide +kernel
theorem d5_17 : decode method_4_code 17 = .ok (.aload_n 0, 1) := by decide +kernel
theorem d5_18 : decode method_4_code 18 = .ok (.iconst 1, 1) := by decide +kernel
theorem d5_19 : decode method_4_code 19 = .ok (.baload, 1) := by decide +kernel
theorem d5_20 : decode method_4_code 20 = .ok (.ifCond .eq 5, 3) := by decide +kernel
theorem d5_23 : decode method_4_code 23 = .ok (.iconst 1, 1) := by decide +kernel
theorem d5_24 : decode method_4_code 24 = .ok (.ireturn, 1) := by decide +kernel
theorem d5_25 : decode method_4_code 25 = .ok (.iload_n 1, 1) := by decide +kernel
theorem d5_26 : decode method_4_code 26 = .ok (.iconst 2, 1) := by decide +kernel
theorem d5_27 : decode method_4_code 27 = .ok (.if_icmp .gt 11, 3) := by decide +kernel
theorem d5_30 : decode method_4_code 30 = .ok (.aload_n 0, 1) := by decide +kernel
theorem d5_31 : decode method_4_code 31 = .ok (.iconst 2, 1) := by decide +kernel
theorem d5_32 : decode method_4_code 32 = .ok (.baload, 1) := by decide +kernel
theorem d5_33 : decode method_4_code 33 = .ok (.ifCond .eq 5, 3) := by decide +kernel
theorem d5_36 : decode method_4_code 36 = .ok (.iconst 2, 1) := by decide +kernel
theorem d5_37 : decode method_4_code 37 = .ok (.ireturn, 1) := by decide +kernel
theorem d5_38 : decode method_4_code 38 = .ok (.iload_n 1, 1) := by decide +kernel
theorem d5_39 : decode method_4_code 39 = .ok (.iconst 3, 1) := by decide +kernel
theorem d5_40 : decode method_4_code 40 = .ok (.if_icmp .gt 11, 3) := by decide +kernel
theorem d5_43 : decode method_4_code 43 = .ok (.aload_n 0, 1) := by decide +kernel
theorem d5_44 : decode method_4_code 44 = .ok (.iconst 3, 1) := by decide +kernel
theorem d5_45 : decode method_4_code 45 = .ok (.baload, 1) := by decide +kernel
theorem d5_46 : decode method_4_code 46 = .ok (.ifCond .eq 5, 3) := by decide +kernel
theorem d5_49 : decode method_4_code 49 = .ok (.iconst 3, 1) := by decide +kernel
theorem d5_50 : decode method_4_code 50 = .ok (.ireturn, 1) := by decide +kernel
theorem d5_51 : decode method_4_code 51 = .ok (.iload_n 1, 1) := by decide +kernel
theorem d5_52 : decode method_4_code 52 = .ok (.iconst 4, 1) := by decide +kernel
theorem d5_53 : decode method_4_code 53 = .ok (.if_icmp .gt 11, 3) := by decide +kernel
theorem d5_56 : decode method_4_code 56 = .ok (.aload_n 0, 1) := by decide +kernel
theorem d5_57 : decode method_4_code 57 = .ok (.iconst 4, 1) := by decide +kernel
theorem d5_58 : decode method_4_code 58 = .ok (.baload, 1) := by decide +kernel
theorem d5_59 : decode method_4_code 59 = .ok (.ifCond .eq 5, 3) := by decide +kernel
theorem d5_62 : decode method_4_code 62 = .ok (.iconst 4, 1) := by decide +kernel
theorem d5_63 : decode method_4_code 63 = .ok (.ireturn, 1) := by decide +kernel
theorem d5_64 : decode method_4_code 64 = .ok (.iload_n 1, 1) := by decide +kernel
theorem d5_65 : decode method_4_code 65 = .ok (.iconst 5, 1) := by decide +kernel
theorem d5_66 : decode method_4_code 66 = .ok (.if_icmp .gt 11, 3) := by decide +kernel
theorem d5_69 : decode method_4_code 69 = .ok (.aload_n 0, 1) := by decide +kernel
theorem d5_70 : decode method_4_code 70 = .ok (.iconst 5, 1) := by decide +kernel
theorem d5_71 : decode method_4_code 71 = .ok (.baload, 1) := by decide +kernel
theorem d5_72 : decode method_4_code 72 = .ok (.ifCond .eq 5, 3) := by decide +kernel
theorem d5_75 : decode method_4_code 75 = .ok (.iconst 5, 1) := by decide +kernel
theorem d5_76 : decode method_4_code 76 = .ok (.ireturn, 1) := by decide +kernel
theorem d5_77 : decode method_4_code 77 = .ok (.iconst (-1), 1) := by decide +kernel
theorem d5_78 : decode method_4_code 78 = .ok (.ireturn, 1) := by decide +kernel
def own_from (b0 b1 b2 b3 b4 b5 k : Int32) : Int32 := (if (¬ 0 < k ∧ ¬ b0 = 0) then 0 else (if (¬ 1 < k ∧ ¬ b1 = 0) then 1 else (if (¬ 2 < k ∧ ¬ b2 = 0) then 2 else (if (¬ 3 < k ∧ ¬ b3 = 0) then 3 else (if (¬ 4 < k ∧ ¬ b4 = 0) then 4 else (if (¬ 5 < k ∧ ¬ b5 = 0) then 5 else (-1)))))))
set_option maxRecDepth 65536 in
set_option maxHeartbeats 4000000 in
theorem c_from (l : Launch) (Z : State) (a0 : Array Value) (hw : ∀ d ∈ tables_1, d.before a0 Z = true) (h0 : Heap) (sA : Addr) (kS : ClassId) (b0 b1 b2 b3 b4 b5 k : Int32) (A : Ow.AL Z h0 sA kS .boolean [.int b0, .int b1, .int b2, .int b3, .int b4, .int b5]) : Ow.Pay l Z (⟨"com/example/mortise/mortise/pack/NamespacedPathAfterNamespacePinLaw", "from", "([ZI)I"⟩ : MethodName) method_4_code 2 (some .int) ({ frames := 0, cells := 0, slots := 0, locals := 0 } : Room) #[(.ref sA), (.int k)] h0 (fun v h L => v = some (.int (own_from b0 b1 b2 b3 b4 b5 k)) ∧ h = h0 ∧ L = []) := by
  refine Ow.Pay.of (Ls := #[.val (.ref sA), .val (.int k)]) (plainFor_of_name pn3) (fun m => by first | rfl | (simp [entryFrame, mkF, argsToLocals, Value.category]; done)) ?_
  intro p e s m below meth c T hx hby hml hown hnm hme hZ hret hlk X eT
  have J77 : own_from b0 b1 b2 b3 b4 b5 k = (-1) → ∀ T, Stand p l e ({ frames := 0, cells := 0, slots := 0, locals := 0 } : Room) s m #[(.ref sA), (.int k)] below meth c T [] 0 0 → T.heap = h0 → Go p.tables e below (Ow.EndN s (fun v h L => v = some (.int (own_from b0 b1 b2 b3 b4 b5 k)) ∧ h = h0 ∧ L = []) 0 0) (T.setTop (mkF m 77 #[.val (.ref sA), .val (.int k)] [])) := by
    intro hv T X eT
    refine Ow.iconst X hx (pc := 77) (-1) (hb hby d5_77) (by decide) ?_
    exact Ow.ireturn X hx hlk hret (hb hby d5_78) ⟨by rw [hv], eT, rfl⟩ (by decide) (by decide)
  have J64 : own_from b0 b1 b2 b3 b4 b5 k = (if (¬ 5 < k ∧ ¬ b5 = 0) then 5 else (-1)) → ∀ T, Stand p l e ({ frames := 0, cells := 0, slots := 0, locals := 0 } : Room) s m #[(.ref sA), (.int k)] below meth c T [] 0 0 → T.heap = h0 → Go p.tables e below (Ow.EndN s (fun v h L => v = some (.int (own_from b0 b1 b2 b3 b4 b5 k)) ∧ h = h0 ∧ L = []) 0 0) (T.setTop (mkF m 64 #[.val (.ref sA), .val (.int k)] [])) := by
    intro hv T X eT
    refine Ow.iloadN X hx (pc := 64) (hb hby d5_64) rfl ?_
    refine Ow.iconst X hx (pc := 65) (5) (hb hby d5_65) (by decide) ?_
    refine Ow.icmp_gt X hx (pc := 66) (pc' := 77) (hb hby d5_66) (by decide) (by decide) (fun h66 => ?_) (fun h66 => ?_)
    · exact J77 (hv.trans (if_neg (fun q => absurd h66 q.1))) T X eT
    · refine Ow.aloadN X hx (pc := 69) (hb hby d5_69) rfl rfl ?_
      refine Ow.iconst X hx (pc := 70) (5) (hb hby d5_70) (by decide) ?_
      refine Ow.zaloadL X hx hZ eT A 5 (.int b5) (by decide) (by decide) rfl (pc := 71) (hb hby d5_71) ?_
      refine Ow.if_eq X hx (pc := 72) (pc' := 77) (hb hby d5_72) (by decide) (by decide) (fun h72 => ?_) (fun h72 => ?_)
      · exact J77 (hv.trans (if_neg (fun q => q.2 h72))) T X eT
      · refine Ow.iconst X hx (pc := 75) (5) (hb hby d5_75) (by decide) ?_
        exact Ow.ireturn X hx hlk hret (hb hby d5_76) ⟨by rw [hv, if_pos ⟨h66, h72⟩], eT, rfl⟩ (by decide) (by decide)
  have J51 : own_from b0 b1 b2 b3 b4 b5 k = (if (¬ 4 < k ∧ ¬ b4 = 0) then 4 else (if (¬ 5 < k ∧ ¬ b5 = 0) then 5 else (-1))) → ∀ T, Stand p l e ({ frames := 0, cells := 0, slots := 0, locals := 0 } : Room) s m #[(.ref sA), (.int k)] below meth c T [] 0 0 → T.heap = h0 → Go p.tables e below (Ow.EndN s (fun v h L => v = some (.int (own_from b0 b1 b2 b3 b4 b5 k)) ∧ h = h0 ∧ L = []) 0 0) (T.setTop (mkF m 51 #[.val (.ref sA), .val (.int k)] [])) := by
    intro hv T X eT
    refine Ow.iloadN X hx (pc := 51) (hb hby d5_51) rfl ?_
    refine Ow.iconst X hx (pc := 52) (4) (hb hby d5_52) (by decide) ?_
    refine Ow.icmp_gt X hx (pc := 53) (pc' := 64) (hb hby d5_53) (by decide) (by decide) (fun h53 => ?_) (fun h53 => ?_)
    · exact J64 (hv.trans (if_neg (fun q => absurd h53 q.1))) T X eT
    · refine Ow.aloadN X hx (pc := 56) (hb hby d5_56) rfl rfl ?_
      refine Ow.iconst X hx (pc := 57) (4) (hb hby d5_57) (by decide) ?_
      refine Ow.zaloadL X hx hZ eT A 4 (.int b4) (by decide) (by decide) rfl (pc := 58) (hb hby d5_58) ?_
      refine Ow.if_eq X hx (pc := 59) (pc' := 64) (hb hby d5_59) (by decide) (by decide) (fun h59 => ?_) (fun h59 => ?_)
      · exact J64 (hv.trans (if_neg (fun q => q.2 h59))) T X eT
      · refine Ow.iconst X hx (pc := 62) (4) (hb hby d5_62) (by decide) ?_
        exact Ow.ireturn X hx hlk hret (hb hby d5_63) ⟨by rw [hv, if_pos ⟨h53, h59⟩], eT, rfl⟩ (by decide) (by decide)
  have J38 : own_from b0 b1 b2 b3 b4 b5 k = (if (¬ 3 < k ∧ ¬ b3 = 0) then 3 else (if (¬ 4 < k ∧ ¬ b4 = 0) then 4 else (if (¬ 5 < k ∧ ¬ b5 = 0) then 5 else (-1)))) → ∀ T, Stand p l e ({ frames := 0, cells := 0, slots := 0, locals := 0 } : Room) s m #[(.ref sA), (.int k)] below meth c T [] 0 0 → T.heap = h0 → Go p.tables e below (Ow.EndN s (fun v h L => v = some (.int (own_from b0 b1 b2 b3 b4 b5 k)) ∧ h = h0 ∧ L = []) 0 0) (T.setTop (mkF m 38 #[.val (.ref sA), .val (.int k)] [])) := by
    intro hv T X eT
    refine Ow.iloadN X hx (pc := 38) (hb hby d5_38) rfl ?_
    refine Ow.iconst X hx (pc := 39) (3) (hb hby d5_39) (by decide) ?_
    refine Ow.icmp_gt X hx (pc := 40) (pc' := 51) (hb hby d5_40) (by decide) (by decide) (fun h40 => ?_) (fun h40 => ?_)
    · exact J51 (hv.trans (if_neg (fun q => absurd h40 q.1))) T X eT
    · refine Ow.aloadN X hx (pc := 43) (hb hby d5_43) rfl rfl ?_
      refine Ow.iconst X hx (pc := 44) (3) (hb hby d5_44) (by decide) ?_
      refine Ow.zaloadL X hx hZ eT A 3 (.int b3) (by decide) (by decide) rfl (pc := 45) (hb hby d5_45) ?_
      refine Ow.if_eq X hx (pc := 46) (pc' := 51) (hb hby d5_46) (by decide) (by decide) (fun h46 => ?_) (fun h46 => ?_)
      · exact J51 (hv.trans (if_neg (fun q => q.2 h46))) T X eT
      · refine Ow.iconst X hx (pc := 49) (3) (hb hby d5_49) (by decide) ?_
        exact Ow.ireturn X hx hlk hret (hb hby d5_50) ⟨by rw [hv, if_pos ⟨h40, h46⟩], eT, rfl⟩ (by decide) (by decide)
  have J25 : own_from b0 b1 b2 b3 b4 b5 k = (if (¬ 2 < k ∧ ¬ b2 = 0) then 2 else (if (¬ 3 < k ∧ ¬ b3 = 0) then 3 else (if (¬ 4 < k ∧ ¬ b4 = 0) then 4 else (if (¬ 5 < k ∧ ¬ b5 = 0) then 5 else (-1))))) → ∀ T, Stand p l e ({ frames := 0, cells := 0, slots := 0, locals := 0 } : Room) s m #[(.ref sA), (.int k)] below meth c T [] 0 0 → T.heap = h0 → Go p.tables e below (Ow.EndN s (fun v h L => v = some (.int (own_from b0 b1 b2 b3 b4 b5 k)) ∧ h = h0 ∧ L = []) 0 0) (T.setTop (mkF m 25 #[.val (.ref sA), .val (.int k)] [])) := by
    intro hv T X eT
    refine Ow.iloadN X hx (pc := 25) (hb hby d5_25) rfl ?_
    refine Ow.iconst X hx (pc := 26) (2) (hb hby d5_26) (by decide) ?_
    refine Ow.icmp_gt X hx (pc := 27) (pc' := 38) (hb hby d5_27) (by decide) (by decide) (fun h27 => ?_) (fun h27 => ?_)
    · exact J38 (hv.trans (if_neg (fun q => absurd h27 q.1))) T X eT
    · refine Ow.aloadN X hx (pc := 30) (hb hby d5_30) rfl rfl ?_
      refine Ow.iconst X hx (pc := 31) (2) (hb hby d5_31) (by decide) ?_
      refine Ow.zaloadL X hx hZ eT A 2 (.int b2) (by decide) (by decide) rfl (pc := 32) (hb hby d5_32) ?_
      refine Ow.if_eq X hx (pc := 33) (pc' := 38) (hb hby d5_33) (by decide) (by decide) (fun h33 => ?_) (fun h33 => ?_)
      · exact J38 (hv.trans (if_neg (fun q => q.2 h33))) T X eT
      · refine Ow.iconst X hx (pc := 36) (2) (hb hby d5_36) (by decide) ?_
        exact Ow.ireturn X hx hlk hret (hb hby d5_37) ⟨by rw [hv, if_pos ⟨h27, h33⟩], eT, rfl⟩ (by decide) (by decide)
  have J12 : own_from b0 b1 b2 b3 b4 b5 k = (if (¬ 1 < k ∧ ¬ b1 = 0) then 1 else (if (¬ 2 < k ∧ ¬ b2 = 0) then 2 else (if (¬ 3 < k ∧ ¬ b3 = 0) then 3 else (if (¬ 4 < k ∧ ¬ b4 = 0) then 4 else (if (¬ 5 < k ∧ ¬ b5 = 0) then 5 else (-1)))))) → ∀ T, Stand p l e ({ frames := 0, cells := 0, slots := 0, locals := 0 } : Room) s m #[(.ref sA), (.int k)] below meth c T [] 0 0 → T.heap = h0 → Go p.tables e below (Ow.EndN s (fun v h L => v = some (.int (own_from b0 b1 b2 b3 b4 b5 k)) ∧ h = h0 ∧ L = []) 0 0) (T.setTop (mkF m 12 #[.val (.ref sA), .val (.int k)] [])) := by
    intro hv T X eT
    refine Ow.iloadN X hx (pc := 12) (hb hby d5_12) rfl ?_
    refine Ow.iconst X hx (pc := 13) (1) (hb hby d5_13) (by decide) ?_
    refine Ow.icmp_gt X hx (pc := 14) (pc' := 25) (hb hby d5_14) (by decide) (by decide) (fun h14 => ?_) (fun h14 => ?_)
    · exact J25 (hv.trans (if_neg (fun q => absurd h14 q.1))) T X eT
    · refine Ow.aloadN X hx (pc := 17) (hb hby d5_17) rfl rfl ?_
      refine Ow.iconst X hx (pc := 18) (1) (hb hby d5_18) (by decide) ?_
      refine Ow.zaloadL X hx hZ eT A 1 (.int b1) (by decide) (by decide) rfl (pc := 19) (hb hby d5_19) ?_
      refine Ow.if_eq X hx (pc := 20) (pc' := 25) (hb hby d5_20) (by decide) (by decide) (fun h20 => ?_) (fun h20 => ?_)
      · exact J25 (hv.trans (if_neg (fun q => q.2 h20))) T X eT
      · refine Ow.iconst X hx (pc := 23) (1) (hb hby d5_23) (by decide) ?_
        exact Ow.ireturn X hx hlk hret (hb hby d5_24) ⟨by rw [hv, if_pos ⟨h14, h20⟩], eT, rfl⟩ (by decide) (by decide)
  have J0 : own_from b0 b1 b2 b3 b4 b5 k = (if (¬ 0 < k ∧ ¬ b0 = 0) then 0 else (if (¬ 1 < k ∧ ¬ b1 = 0) then 1 else (if (¬ 2 < k ∧ ¬ b2 = 0) then 2 else (if (¬ 3 < k ∧ ¬ b3 = 0) then 3 else (if (¬ 4 < k ∧ ¬ b4 = 0) then 4 else (if (¬ 5 < k ∧ ¬ b5 = 0) then 5 else (-1))))))) → ∀ T, Stand p l e ({ frames := 0, cells := 0, slots := 0, locals := 0 } : Room) s m #[(.ref sA), (.int k)] below meth c T [] 0 0 → T.heap = h0 → Go p.tables e below (Ow.EndN s (fun v h L => v = some (.int (own_from b0 b1 b2 b3 b4 b5 k)) ∧ h = h0 ∧ L = []) 0 0) (T.setTop (mkF m 0 #[.val (.ref sA), .val (.int k)] [])) := by
    intro hv T X eT
    refine Ow.iloadN X hx (pc := 0) (hb hby d5_0) rfl ?_
    refine Ow.if_gt X hx (pc := 1) (pc' := 12) (hb hby d5_1) (by decide) (by decide) (fun h1 => ?_) (fun h1 => ?_)
    · exact J12 (hv.trans (if_neg (fun q => absurd h1 q.1))) T X eT
    · refine Ow.aloadN X hx (pc := 4) (hb hby d5_4) rfl rfl ?_
      refine Ow.iconst X hx (pc := 5) (0) (hb hby d5_5) (by decide) ?_
      refine Ow.zaloadL X hx hZ eT A 0 (.int b0) (by decide) (by decide) rfl (pc := 6) (hb hby d5_6) ?_
      refine Ow.if_eq X hx (pc := 7) (pc' := 12) (hb hby d5_7) (by decide) (by decide) (fun h7 => ?_) (fun h7 => ?_)
      · exact J12 (hv.trans (if_neg (fun q => q.2 h7))) T X eT
      · refine Ow.iconst X hx (pc := 10) (0) (hb hby d5_10) (by decide) ?_
        exact Ow.ireturn X hx hlk hret (hb hby d5_11) ⟨by rw [hv, if_pos ⟨h1, h7⟩], eT, rfl⟩ (by decide) (by decide)
  exact J0 rfl T X eT
theorem d1_0 : decode method_5_code 0 = .ok (.iload_n 0, 1) := by decide +kernel
theorem d1_1 : decode method_5_code 1 = .ok (.ifCond .ne 14, 3) := by decide +kernel
theorem d1_4 : decode method_5_code 4 = .ok (.new 28, 3) := by decide +kernel
theorem d1_7 : decode method_5_code 7 = .ok (.dup, 1) := by decide +kernel
theorem d1_8 : decode method_5_code 8 = .ok (.iconst 0, 1) := by decide +kernel
theorem d1_9 : decode method_5_code 9 = .ok (.newarray .char, 2) := by decide +kernel
theorem d1_11 : decode method_5_code 11 = .ok (.invokespecial 30, 3) := by decide +kernel
theorem d1_14 : decode method_5_code 14 = .ok (.areturn, 1) := by decide +kernel
theorem d1_15 : decode method_5_code 15 = .ok (.iload_n 0, 1) := by decide +kernel
theorem d1_16 : decode method_5_code 16 = .ok (.iconst 1, 1) := by decide +kernel
theorem d1_17 : decode method_5_code 17 = .ok (.if_icmp .ne 20, 3) := by decide +kernel
theorem d1_20 : decode method_5_code 20 = .ok (.new 28, 3) := by decide +kernel
theorem d1_23 : decode method_5_code 23 = .ok (.dup, 1) := by decide +kernel
theorem d1_24 : decode method_5_code 24 = .ok (.iconst 1, 1) := by decide +kernel
theorem d1_25 : decode method_5_code 25 = .ok (.newarray .char, 2) := by decide +kernel
theorem d1_27 : decode method_5_code 27 = .ok (.dup, 1) := by decide +kernel
theorem d1_28 : decode method_5_code 28 = .ok (.iconst 0, 1) := by decide +kernel
theorem d1_29 : decode method_5_code 29 = .ok (.aload_n 1, 1) := by decide +kernel
theorem d1_30 : decode method_5_code 30 = .ok (.iconst 0, 1) := by decide +kernel
theorem d1_31 : decode method_5_code 31 = .ok (.caload, 1) := by decide +kernel
theorem d1_32 : decode method_5_code 32 = .ok (.castore, 1) := by decide +kernel
theorem d1_33 : decode method_5_code 33 = .ok (.invokespecial 30, 3) := by decide +kernel
theorem d1_36 : decode method_5_code 36 = .ok (.areturn, 1) := by decide +kernel
theorem d1_37 : decode method_5_code 37 = .ok (.iload_n 0, 1) := by decide +kernel
theorem d1_38 : decode method_5_code 38 = .ok (.iconst 2, 1) := by decide +kernel
theorem d1_39 : decode method_5_code 39 = .ok (.if_icmp .ne 26, 3) := by decide +kernel
theorem d1_42 : decode method_5_code 42 = .ok (.new 28, 3) := by decide +kernel
theorem d1_45 : decode method_5_code 45 = .ok (.dup, 1) := by decide +kernel
theorem d1_46 : decode method_5_code 46 = .ok (.iconst 2, 1) := by decide +kernel
theorem d1_47 : decode method_5_code 47 = .ok (.newarray .char, 2) := by decide +kernel
theorem d1_49 : decode method_5_code 49 = .ok (.dup, 1) := by decide +kernel
theorem d1_50 : decode method_5_code 50 = .ok (.iconst 0, 1) := by decide +kernel
theorem d1_51 : decode method_5_code 51 = .ok (.aload_n 1, 1) := by decide +kernel
theorem d1_52 : decode method_5_code 52 = .ok (.iconst 0, 1) := by decide +kernel
theorem d1_53 : decode method_5_code 53 = .ok (.caload, 1) := by decide +kernel
theorem d1_54 : decode method_5_code 54 = .ok (.castore, 1) := by decide +kernel
theorem d1_55 : decode method_5_code 55 = .ok (.dup, 1) := by decide +kernel
theorem d1_56 : decode method_5_code 56 = .ok (.iconst 1, 1) := by decide +kernel
theorem d1_57 : decode method_5_code 57 = .ok (.aload_n 1, 1) := by decide +kernel
theorem d1_58 : decode method_5_code 58 = .ok (.iconst 1, 1) := by decide +kernel
theorem d1_59 : decode method_5_code 59 = .ok (.caload, 1) := by decide +kernel
theorem d1_60 : decode method_5_code 60 = .ok (.castore, 1) := by decide +kernel
theorem d1_61 : decode method_5_code 61 = .ok (.invokespecial 30, 3) := by decide +kernel
theorem d1_64 : decode method_5_code 64 = .ok (.areturn, 1) := by decide +kernel
theorem d1_65 : decode method_5_code 65 = .ok (.iload_n 0, 1) := by decide +kernel
theorem d1_66 : decode method_5_code 66 = .ok (.iconst 3, 1) := by decide +kernel
theorem d1_67 : decode method_5_code 67 = .ok (.if_icmp .ne 32, 3) := by decide +kernel
theorem d1_70 : decode method_5_code 70 = .ok (.new 28, 3) := by decide +kernel
theorem d1_73 : decode method_5_code 73 = .ok (.dup, 1) := by decide +kernel
theorem d1_74 : decode method_5_code 74 = .ok (.iconst 3, 1) := by decide +kernel
theorem d1_75 : decode method_5_code 75 = .ok (.newarray .char, 2) := by decide +kernel
theorem d1_77 : decode method_5_code 77 = .ok (.dup, 1) := by decide +kernel
theorem d1_78 : decode method_5_code 78 = .ok (.iconst 0, 1) := by decide +kernel
theorem d1_79 : decode method_5_code 79 = .ok (.aload_n 1, 1) := by decide +kernel
theorem d1_80 : decode method_5_code 80 = .ok (.iconst 0, 1) := by decide +kernel
theorem d1_81 : decode method_5_code 81 = .ok (.caload, 1) := by decide +kernel
theorem d1_82 : decode method_5_code 82 = .ok (.castore, 1) := by decide +kernel
theorem d1_83 : decode method_5_code 83 = .ok (.dup, 1) := by decide +kernel
theorem d1_84 : decode method_5_code 84 = .ok (.iconst 1, 1) := by decide +kernel
theorem d1_85 : decode method_5_code 85 = .ok (.aload_n 1, 1) := by decide +kernel
theorem d1_86 : decode method_5_code 86 = .ok (.iconst 1, 1) := by decide +kernel
theorem d1_87 : decode method_5_code 87 = .ok (.caload, 1) := by decide +kernel
theorem d1_88 : decode method_5_code 88 = .ok (.castore, 1) := by decide +kernel
theorem d1_89 : decode method_5_code 89 = .ok (.dup, 1) := by decide +kernel
theorem d1_90 : decode method_5_code 90 = .ok (.iconst 2, 1) := by decide +kernel
theorem d1_91 : decode method_5_code 91 = .ok (.aload_n 1, 1) := by decide +kernel
theorem d1_92 : decode method_5_code 92 = .ok (.iconst 2, 1) := by decide +kernel
theorem d1_93 : decode method_5_code 93 = .ok (.caload, 1) := by decide +kernel
theorem d1_94 : decode method_5_code 94 = .ok (.castore, 1) := by decide +kernel
theorem d1_95 : decode method_5_code 95 = .ok (.invokespecial 30, 3) := by decide +kernel
theorem d1_98 : decode method_5_code 98 = .ok (.areturn, 1) := by decide +kernel
theorem d1_99 : decode method_5_code 99 = .ok (.iload_n 0, 1) := by decide +kernel
theorem d1_100 : decode method_5_code 100 = .ok (.iconst 4, 1) := by decide +kernel
theorem d1_101 : decode method_5_code 101 = .ok (.if_icmp .ne 38, 3) := by decide +kernel
theorem d1_104 : decode method_5_code 104 = .ok (.new 28, 3) := by decide +kernel
theorem d1_107 : decode method_5_code 107 = .ok (.dup, 1) := by decide +kernel
theorem d1_108 : decode method_5_code 108 = .ok (.iconst 4, 1) := by decide +kernel
theorem d1_109 : decode method_5_code 109 = .ok (.newarray .char, 2) := by decide +kernel
theorem d1_111 : decode method_5_code 111 = .ok (.dup, 1) := by decide +kernel
theorem d1_112 : decode method_5_code 112 = .ok (.iconst 0, 1) := by decide +kernel
theorem d1_113 : decode method_5_code 113 = .ok (.aload_n 1, 1) := by decide +kernel
theorem d1_114 : decode method_5_code 114 = .ok (.iconst 0, 1) := by decide +kernel
theorem d1_115 : decode method_5_code 115 = .ok (.caload, 1) := by decide +kernel
theorem d1_116 : decode method_5_code 116 = .ok (.castore, 1) := by decide +kernel
theorem d1_117 : decode method_5_code 117 = .ok (.dup, 1) := by decide +kernel
theorem d1_118 : decode method_5_code 118 = .ok (.iconst 1, 1) := by decide +kernel
theorem d1_119 : decode method_5_code 119 = .ok (.aload_n 1, 1) := by decide +kernel
theorem d1_120 : decode method_5_code 120 = .ok (.iconst 1, 1) := by decide +kernel
theorem d1_121 : decode method_5_code 121 = .ok (.caload, 1) := by decide +kernel
theorem d1_122 : decode method_5_code 122 = .ok (.castore, 1) := by decide +kernel
theorem d1_123 : decode method_5_code 123 = .ok (.dup, 1) := by decide +kernel
theorem d1_124 : decode method_5_code 124 = .ok (.iconst 2, 1) := by decide +kernel
theorem d1_125 : decode method_5_code 125 = .ok (.aload_n 1, 1) := by decide +kernel
theorem d1_126 : decode method_5_code 126 = .ok (.iconst 2, 1) := by decide +kernel
theorem d1_127 : decode method_5_code 127 = .ok (.caload, 1) := by decide +kernel
theorem d1_128 : decode method_5_code 128 = .ok (.castore, 1) := by decide +kernel
theorem d1_129 : decode method_5_code 129 = .ok (.dup, 1) := by decide +kernel
theorem d1_130 : decode method_5_code 130 = .ok (.iconst 3, 1) := by decide +kernel
theorem d1_131 : decode method_5_code 131 = .ok (.aload_n 1, 1) := by decide +kernel
theorem d1_132 : decode method_5_code 132 = .ok (.iconst 3, 1) := by decide +kernel
theorem d1_133 : decode method_5_code 133 = .ok (.caload, 1) := by decide +kernel
theorem d1_134 : decode method_5_code 134 = .ok (.castore, 1) := by decide +kernel
theorem d1_135 : decode method_5_code 135 = .ok (.invokespecial 30, 3) := by decide +kernel
theorem d1_138 : decode method_5_code 138 = .ok (.areturn, 1) := by decide +kernel
theorem d1_139 : decode method_5_code 139 = .ok (.iload_n 0, 1) := by decide +kernel
theorem d1_140 : decode method_5_code 140 = .ok (.iconst 5, 1) := by decide +kernel
theorem d1_141 : decode method_5_code 141 = .ok (.if_icmp .ne 44, 3) := by decide +kernel
theorem d1_144 : decode method_5_code 144 = .ok (.new 28, 3) := by decide +kernel
theorem d1_147 : decode method_5_code 147 = .ok (.dup, 1) := by decide +kernel
theorem d1_148 : decode method_5_code 148 = .ok (.iconst 5, 1) := by decide +kernel
theorem d1_149 : decode method_5_code 149 = .ok (.newarray .char, 2) := by decide +kernel
theorem d1_151 : decode method_5_code 151 = .ok (.dup, 1) := by decide +kernel
theorem d1_152 : decode method_5_code 152 = .ok (.iconst 0, 1) := by decide +kernel
theorem d1_153 : decode method_5_code 153 = .ok (.aload_n 1, 1) := by decide +kernel
theorem d1_154 : decode method_5_code 154 = .ok (.iconst 0, 1) := by decide +kernel
theorem d1_155 : decode method_5_code 155 = .ok (.caload, 1) := by decide +kernel
theorem d1_156 : decode method_5_code 156 = .ok (.castore, 1) := by decide +kernel
theorem d1_157 : decode method_5_code 157 = .ok (.dup, 1) := by decide +kernel
theorem d1_158 : decode method_5_code 158 = .ok (.iconst 1, 1) := by decide +kernel
theorem d1_159 : decode method_5_code 159 = .ok (.aload_n 1, 1) := by decide +kernel
theorem d1_160 : decode method_5_code 160 = .ok (.iconst 1, 1) := by decide +kernel
theorem d1_161 : decode method_5_code 161 = .ok (.caload, 1) := by decide +kernel
theorem d1_162 : decode method_5_code 162 = .ok (.castore, 1) := by decide +kernel
theorem d1_163 : decode method_5_code 163 = .ok (.dup, 1) := by decide +kernel
theorem d1_164 : decode method_5_code 164 = .ok (.iconst 2, 1) := by decide +kernel
theorem d1_165 : decode method_5_code 165 = .ok (.aload_n 1, 1) := by decide +kernel
theorem d1_166 : decode method_5_code 166 = .ok (.iconst 2, 1) := by decide +kernel
theorem d1_167 : decode method_5_code 167 = .ok (.caload, 1) := by decide +kernel
theorem d1_168 : decode method_5_code 168 = .ok (.castore, 1) := by decide +kernel
theorem d1_169 : decode method_5_code 169 = .ok (.dup, 1) := by decide +kernel
theorem d1_170 : decode method_5_code 170 = .ok (.iconst 3, 1) := by decide +kernel
theorem d1_171 : decode method_5_code 171 = .ok (.aload_n 1, 1) := by decide +kernel
theorem d1_172 : decode method_5_code 172 = .ok (.iconst 3, 1) := by decide +kernel
theorem d1_173 : decode method_5_code 173 = .ok (.caload, 1) := by decide +kernel
theorem d1_174 : decode method_5_code 174 = .ok (.castore, 1) := by decide +kernel
theorem d1_175 : decode method_5_code 175 = .ok (.dup, 1) := by decide +kernel
theorem d1_176 : decode method_5_code 176 = .ok (.iconst 4, 1) := by decide +kernel
theorem d1_177 : decode method_5_code 177 = .ok (.aload_n 1, 1) := by decide +kernel
theorem d1_178 : decode method_5_code 178 = .ok (.iconst 4, 1) := by decide +kernel
theorem d1_179 : decode method_5_code 179 = .ok (.caload, 1) := by decide +kernel
theorem d1_180 : decode method_5_code 180 = .ok (.castore, 1) := by decide +kernel
theorem d1_181 : decode method_5_code 181 = .ok (.invokespecial 30, 3) := by decide +kernel
theorem d1_184 : decode method_5_code 184 = .ok (.areturn, 1) := by decide +kernel
theorem d1_185 : decode method_5_code 185 = .ok (.new 28, 3) := by decide +kernel
theorem d1_188 : decode method_5_code 188 = .ok (.dup, 1) := by decide +kernel
theorem d1_189 : decode method_5_code 189 = .ok (.bipush 6, 2) := by decide +kernel
theorem d1_191 : decode method_5_code 191 = .ok (.newarray .char, 2) := by decide +kernel
theorem d1_193 : decode method_5_code 193 = .ok (.dup, 1) := by decide +kernel
theorem d1_194 : decode method_5_code 194 = .ok (.iconst 0, 1) := by decide +kernel
theorem d1_195 : decode method_5_code 195 = .ok (.aload_n 1, 1) := by decide +kernel
theorem d1_196 : decode method_5_code 196 = .ok (.iconst 0, 1) := by decide +kernel
theorem d1_197 : decode method_5_code 197 = .ok (.caload, 1) := by decide +kernel
theorem d1_198 : decode method_5_code 198 = .ok (.castore, 1) := by decide +kernel
theorem d1_199 : decode method_5_code 199 = .ok (.dup, 1) := by decide +kernel
theorem d1_200 : decode method_5_code 200 = .ok (.iconst 1, 1) := by decide +kernel
theorem d1_201 : decode method_5_code 201 = .ok (.aload_n 1, 1) := by decide +kernel
theorem d1_202 : decode method_5_code 202 = .ok (.iconst 1, 1) := by decide +kernel
theorem d1_203 : decode method_5_code 203 = .ok (.caload, 1) := by decide +kernel
theorem d1_204 : decode method_5_code 204 = .ok (.castore, 1) := by decide +kernel
theorem d1_205 : decode method_5_code 205 = .ok (.dup, 1) := by decide +kernel
theorem d1_206 : decode method_5_code 206 = .ok (.iconst 2, 1) := by decide +kernel
theorem d1_207 : decode method_5_code 207 = .ok (.aload_n 1, 1) := by decide +kernel
theorem d1_208 : decode method_5_code 208 = .ok (.iconst 2, 1) := by decide +kernel
theorem d1_209 : decode method_5_code 209 = .ok (.caload, 1) := by decide +kernel
theorem d1_210 : decode method_5_code 210 = .ok (.castore, 1) := by decide +kernel
theorem d1_211 : decode method_5_code 211 = .ok (.dup, 1) := by decide +kernel
theorem d1_212 : decode method_5_code 212 = .ok (.iconst 3, 1) := by decide +kernel
theorem d1_213 : decode method_5_code 213 = .ok (.aload_n 1, 1) := by decide +kernel
theorem d1_214 : decode method_5_code 214 = .ok (.iconst 3, 1) := by decide +kernel
theorem d1_215 : decode method_5_code 215 = .ok (.caload, 1) := by decide +kernel
theorem d1_216 : decode method_5_code 216 = .ok (.castore, 1) := by decide +kernel
theorem d1_217 : decode method_5_code 217 = .ok (.dup, 1) := by decide +kernel
theorem d1_218 : decode method_5_code 218 = .ok (.iconst 4, 1) := by decide +kernel
theorem d1_219 : decode method_5_code 219 = .ok (.aload_n 1, 1) := by decide +kernel
theorem d1_220 : decode method_5_code 220 = .ok (.iconst 4, 1) := by decide +kernel
theorem d1_221 : decode method_5_code 221 = .ok (.caload, 1) := by decide +kernel
theorem d1_222 : decode method_5_code 222 = .ok (.castore, 1) := by decide +kernel
theorem d1_223 : decode method_5_code 223 = .ok (.dup, 1) := by decide +kernel
theorem d1_224 : decode method_5_code 224 = .ok (.iconst 5, 1) := by decide +kernel
theorem d1_225 : decode method_5_code 225 = .ok (.aload_n 1, 1) := by decide +kernel
theorem d1_226 : decode method_5_code 226 = .ok (.iconst 5, 1) := by decide +kernel
theorem d1_227 : decode method_5_code 227 = .ok (.caload, 1) := by decide +kernel
theorem d1_228 : decode method_5_code 228 = .ok (.castore, 1) := by decide +kernel
theorem d1_229 : decode method_5_code 229 = .ok (.invokespecial 30, 3) := by decide +kernel
theorem d1_232 : decode method_5_code 232 = .ok (.areturn, 1) := by decide +kernel
set_option maxRecDepth 65536 in
set_option maxHeartbeats 40000000 in
theorem c_make (l : Launch) (Z : State) (a0 : Array Value) (hw : ∀ d ∈ tables_1, d.before a0 Z = true) (hEL : EW Z a0 EL) (h0 : Heap) (z : Int32) (n : Nat) (cA : Addr) (kc : ClassId) (c0 c1 c2 c3 c4 c5 : Int32) (hn : n ≤ 6) (S : Sta Z h0 "java/lang/String" "COMPACT_STRINGS" "Z" (.int z)) (hz : ¬ z = 0) (A : Ow.AL Z h0 cA kc .char [.int c0, .int c1, .int c2, .int c3, .int c4, .int c5]) (h8 : ∀ c ∈ [c0, c1, c2, c3, c4, c5], ∃ k : Fin 256, c = Int32.ofNat k.val) : Ow.PayW l Z EL [] (⟨"com/example/mortise/mortise/pack/NamespacedPathAfterNamespacePinLaw", "make", "(I[C)Ljava/lang/String;"⟩ : MethodName) method_5_code 2 (some (.object "java/lang/String")) ({ frames := 4, cells := 6, slots := 24, locals := 120 } : Room) #[(.int (Int32.ofNat n)), (.ref cA)] h0 (fun v h L => ∃ x t kb, v = some (.ref x) ∧ Ow.Eff h0 h [] L ∧ Ow.Str Z h x t kb ((List.take n [c0, c1, c2, c3, c4, c5]).map fun c => c.toInt8.toInt32)) := by
  refine Ow.PayW.of (Ls := #[.val (.int (Int32.ofNat n)), .val (.ref cA)]) (plainFor_of_name pn3) (fun m => by first | rfl | (simp [entryFrame, mkF, argsToLocals, Value.category]; done)) ?_
  intro p e s m below meth c T vm0 hx hby hml hown hnm hme hret hlk X eT D hsf
  have h8n : ∀ c ∈ [c0, c1, c2, c3, c4, c5], nar .char c = c := fun c hc => by obtain ⟨k, rfl⟩ := h8 c hc; exact (own_ch8 k).2.2.1
  have h7 : n = 0 ∨ n = 1 ∨ n = 2 ∨ n = 3 ∨ n = 4 ∨ n = 5 ∨ n = 6 := by omega
  rcases h7 with rfl | rfl | rfl | rfl | rfl | rfl | rfl
  · have F := Ow.Eff.refl h0 []
    refine Ow.iloadN X hx (pc := 0) (hb hby d1_0) rfl ?_
    refine Ow.if_ne X hx (pc := 1) (pc' := 15) (hb hby d1_1) (by decide) (by decide) (fun q => absurd (by decide) q) (fun h1 => ?_)
    refine Ow.new_ X hx D.hZ hown (ww hw 10 rfl) (ww hw 11 rfl) (ww hw 12 rfl) eT (pc := 4) (hb hby d1_4) (by decide) (by decide) ?_
    intro T h_x x ha_x X eT E_x A_x D_x U_x
    have l_x : h0.size ≤ x := by rw [ha_x]; exact F.size
    have ne_cA_x : cA ≠ x := by rw [ha_x]; exact Nat.ne_of_lt A.lt
    have S_x := D.safeNew E_x
    rw [← ha_x] at S_x
    have A := A.ext E_x
    have S := S.ext E_x
    have F := F.ext E_x
    have D := D.ext E_x
    have V0 := D_x (Or.inr (ww hw 25 rfl)) (ty := .array .byte) (by decide)
    have C0 := D_x (Or.inr (ww hw 26 rfl)) (ty := .byte) (by decide)
    refine Ow.dup X hx (pc := 7) (hb hby d1_7) rfl ?_
    refine Ow.iconst X hx (pc := 8) (0) (hb hby d1_8) (by decide) ?_
    refine Ow.newarrayL X hx D.hZ (ww hw 1 rfl) eT 0 (vs := []) rfl (pc := 9) (hb hby d1_9) (by decide) (by decide) (by decide) (by decide) (by decide) ?_
    intro T h_b k_b b ha_b X eT E_b B_b
    have l_b : h0.size ≤ b := by rw [ha_b]; exact F.size
    have ne_cA_b : cA ≠ b := by rw [ha_b]; exact Nat.ne_of_lt A.lt
    have ne_x_b : x ≠ b := by rw [ha_b]; exact Nat.ne_of_lt A_x.lt
    have S_b := D.safeNew E_b
    rw [← ha_b] at S_b
    have A := A.ext E_b
    have S := S.ext E_b
    have A_x := A_x.ext E_b
    have V0 := V0.ext E_b
    have C0 := C0.ext E_b
    have S_x := D.safeExt E_b S_x
    have F := F.ext E_b
    have D := D.ext E_b
    refine Ow.callIW X hx (c_new1e l Z a0 hw hEL _ _ _ _ _ A_x V0 C0 _ B_b) eT D hEL (fun y hy => by cases List.mem_singleton.mp hy; exact ⟨A_x.lt, S_x⟩) rfl hown (ww hw 13 rfl) (ww hw 14 rfl) (ww hw 12 rfl) (ww hw 15 rfl) (by decide) pd8 (by rw [hml]; rfl) (argsL := [_]) rfl rfl rfl (pc := 11) (hb hby d1_11) rfl rfl (by decide) (by decide) ?_
    rintro _ vm1 T L X ⟨rfl, F2, t_x, kb_x, St_x⟩ D hown C1
    dsimp only [Option.toList_some, Option.toList_none, List.cons_append, List.nil_append]
    have F := F.call F2 (fun y hy => by cases List.mem_singleton.mp hy; exact Or.inr l_x)
    have eT : T.heap = T.heap := rfl
    exact Ow.areturnW X hx eT D hEL hlk hret rfl rfl rfl (hb hby d1_14) ⟨_, _, _, rfl, F, St_x⟩ (by decide) (by decide)
  · have F := Ow.Eff.refl h0 []
    refine Ow.iloadN X hx (pc := 0) (hb hby d1_0) rfl ?_
    refine Ow.if_ne X hx (pc := 1) (pc' := 15) (hb hby d1_1) (by decide) (by decide) (fun h1 => ?_) (fun q => absurd q (by decide))
    refine Ow.iloadN X hx (pc := 15) (hb hby d1_15) rfl ?_
    refine Ow.iconst X hx (pc := 16) (1) (hb hby d1_16) (by decide) ?_
    refine Ow.icmp_ne X hx (pc := 17) (pc' := 37) (hb hby d1_17) (by decide) (by decide) (fun q => absurd (by decide) q) (fun h17 => ?_)
    refine Ow.new_ X hx D.hZ hown (ww hw 10 rfl) (ww hw 11 rfl) (ww hw 12 rfl) eT (pc := 20) (hb hby d1_20) (by decide) (by decide) ?_
    intro T h_x x ha_x X eT E_x A_x D_x U_x
    have l_x : h0.size ≤ x := by rw [ha_x]; exact F.size
    have ne_cA_x : cA ≠ x := by rw [ha_x]; exact Nat.ne_of_lt A.lt
    have S_x := D.safeNew E_x
    rw [← ha_x] at S_x
    have A := A.ext E_x
    have S := S.ext E_x
    have F := F.ext E_x
    have D := D.ext E_x
    have V0 := D_x (Or.inr (ww hw 25 rfl)) (ty := .array .byte) (by decide)
    have C0 := D_x (Or.inr (ww hw 26 rfl)) (ty := .byte) (by decide)
    refine Ow.dup X hx (pc := 23) (hb hby d1_23) rfl ?_
    refine Ow.iconst X hx (pc := 24) (1) (hb hby d1_24) (by decide) ?_
    refine Ow.newarrayL X hx D.hZ (ww hw 1 rfl) eT 1 (vs := [_]) rfl (pc := 25) (hb hby d1_25) (by decide) (by decide) (by decide) (by decide) (by decide) ?_
    intro T h_b k_b b ha_b X eT E_b B_b
    have l_b : h0.size ≤ b := by rw [ha_b]; exact F.size
    have ne_cA_b : cA ≠ b := by rw [ha_b]; exact Nat.ne_of_lt A.lt
    have ne_x_b : x ≠ b := by rw [ha_b]; exact Nat.ne_of_lt A_x.lt
    have S_b := D.safeNew E_b
    rw [← ha_b] at S_b
    have A := A.ext E_b
    have S := S.ext E_b
    have A_x := A_x.ext E_b
    have V0 := V0.ext E_b
    have C0 := C0.ext E_b
    have S_x := D.safeExt E_b S_x
    have F := F.ext E_b
    have D := D.ext E_b
    refine Ow.dup X hx (pc := 27) (hb hby d1_27) rfl ?_
    refine Ow.iconst X hx (pc := 28) (0) (hb hby d1_28) (by decide) ?_
    refine Ow.aloadN X hx (pc := 29) (hb hby d1_29) rfl rfl ?_
    refine Ow.iconst X hx (pc := 30) (0) (hb hby d1_30) (by decide) ?_
    refine Ow.caloadL X hx D.hZ eT A 0 (.int c0) (by decide) (by decide) rfl (pc := 31) (hb hby d1_31) ?_
    refine Ow.castoreL X hx D.hZ eT B_b 0 [_] (by decide) (by decide) rfl rfl (pc := 32) (hb hby d1_32) ?_
    intro T h_32 X eT W_32 B_b
    rw [h8n c0 (by simp)] at B_b W_32
    have A := A.other W_32 ne_cA_b
    have S := S.wr W_32
    have A_x := A_x.wr W_32
    have V0 := V0.other W_32 (Or.inl ne_x_b)
    have C0 := C0.other W_32 (Or.inl ne_x_b)
    have S_tmp := S_b
    have S_x := D.safeWr W_32 S_tmp S_x
    have S_b := D.safeWr W_32 S_tmp S_b
    have D := D.wr W_32 S_tmp
    have F := F.wr W_32 (Or.inr l_b)
    have H8 : ∀ c ∈ [c0], ∃ k : Fin 256, c = Int32.ofNat k.val := fun c hc => h8 c (List.mem_of_mem_take (i := 1) hc)
    refine strLat X hx D.hZ hw eT hown (ww hw 13 rfl) (cs := [c0]) A_x V0 C0 B_b S hz 1 rfl (by decide) (by decide) H8 (by rw [hml]; rfl) (pc := 33) (hb hby d1_33) rfl rfl (by decide) (by decide) ?_
    intro T L kb_x X F2 St_x
    have D := D.keep F2.1 (fun y hy => by cases List.mem_singleton.mp hy; exact S_x)
    have F := F.call F2 (fun y hy => by cases List.mem_singleton.mp hy; exact Or.inr l_x)
    have eT : T.heap = T.heap := rfl
    exact Ow.areturnW X hx eT D hEL hlk hret rfl rfl rfl (hb hby d1_36) ⟨_, _, _, rfl, F, St_x⟩ (by decide) (by decide)
  · have F := Ow.Eff.refl h0 []
    refine Ow.iloadN X hx (pc := 0) (hb hby d1_0) rfl ?_
    refine Ow.if_ne X hx (pc := 1) (pc' := 15) (hb hby d1_1) (by decide) (by decide) (fun h1 => ?_) (fun q => absurd q (by decide))
    refine Ow.iloadN X hx (pc := 15) (hb hby d1_15) rfl ?_
    refine Ow.iconst X hx (pc := 16) (1) (hb hby d1_16) (by decide) ?_
    refine Ow.icmp_ne X hx (pc := 17) (pc' := 37) (hb hby d1_17) (by decide) (by decide) (fun h17 => ?_) (fun q => absurd q (by decide))
    refine Ow.iloadN X hx (pc := 37) (hb hby d1_37) rfl ?_
    refine Ow.iconst X hx (pc := 38) (2) (hb hby d1_38) (by decide) ?_
    refine Ow.icmp_ne X hx (pc := 39) (pc' := 65) (hb hby d1_39) (by decide) (by decide) (fun q => absurd (by decide) q) (fun h39 => ?_)
    refine Ow.new_ X hx D.hZ hown (ww hw 10 rfl) (ww hw 11 rfl) (ww hw 12 rfl) eT (pc := 42) (hb hby d1_42) (by decide) (by decide) ?_
    intro T h_x x ha_x X eT E_x A_x D_x U_x
    have l_x : h0.size ≤ x := by rw [ha_x]; exact F.size
    have ne_cA_x : cA ≠ x := by rw [ha_x]; exact Nat.ne_of_lt A.lt
    have S_x := D.safeNew E_x
    rw [← ha_x] at S_x
    have A := A.ext E_x
    have S := S.ext E_x
    have F := F.ext E_x
    have D := D.ext E_x
    have V0 := D_x (Or.inr (ww hw 25 rfl)) (ty := .array .byte) (by decide)
    have C0 := D_x (Or.inr (ww hw 26 rfl)) (ty := .byte) (by decide)
    refine Ow.dup X hx (pc := 45) (hb hby d1_45) rfl ?_
    refine Ow.iconst X hx (pc := 46) (2) (hb hby d1_46) (by decide) ?_
    refine Ow.newarrayL X hx D.hZ (ww hw 1 rfl) eT 2 (vs := [_, _]) rfl (pc := 47) (hb hby d1_47) (by decide) (by decide) (by decide) (by decide) (by decide) ?_
    intro T h_b k_b b ha_b X eT E_b B_b
    have l_b : h0.size ≤ b := by rw [ha_b]; exact F.size
    have ne_cA_b : cA ≠ b := by rw [ha_b]; exact Nat.ne_of_lt A.lt
    have ne_x_b : x ≠ b := by rw [ha_b]; exact Nat.ne_of_lt A_x.lt
    have S_b := D.safeNew E_b
    rw [← ha_b] at S_b
    have A := A.ext E_b
    have S := S.ext E_b
    have A_x := A_x.ext E_b
    have V0 := V0.ext E_b
    have C0 := C0.ext E_b
    have S_x := D.safeExt E_b S_x
    have F := F.ext E_b
    have D := D.ext E_b
    refine Ow.dup X hx (pc := 49) (hb hby d1_49) rfl ?_
    refine Ow.iconst X hx (pc := 50) (0) (hb hby d1_50) (by decide) ?_
    refine Ow.aloadN X hx (pc := 51) (hb hby d1_51) rfl rfl ?_
    refine Ow.iconst X hx (pc := 52) (0) (hb hby d1_52) (by decide) ?_
    refine Ow.caloadL X hx D.hZ eT A 0 (.int c0) (by decide) (by decide) rfl (pc := 53) (hb hby d1_53) ?_
    refine Ow.castoreL X hx D.hZ eT B_b 0 [_, _] (by decide) (by decide) rfl rfl (pc := 54) (hb hby d1_54) ?_
    intro T h_54 X eT W_54 B_b
    rw [h8n c0 (by simp)] at B_b W_54
    have A := A.other W_54 ne_cA_b
    have S := S.wr W_54
    have A_x := A_x.wr W_54
    have V0 := V0.other W_54 (Or.inl ne_x_b)
    have C0 := C0.other W_54 (Or.inl ne_x_b)
    have S_tmp := S_b
    have S_x := D.safeWr W_54 S_tmp S_x
    have S_b := D.safeWr W_54 S_tmp S_b
    have D := D.wr W_54 S_tmp
    have F := F.wr W_54 (Or.inr l_b)
    refine Ow.dup X hx (pc := 55) (hb hby d1_55) rfl ?_
    refine Ow.iconst X hx (pc := 56) (1) (hb hby d1_56) (by decide) ?_
    refine Ow.aloadN X hx (pc := 57) (hb hby d1_57) rfl rfl ?_
    refine Ow.iconst X hx (pc := 58) (1) (hb hby d1_58) (by decide) ?_
    refine Ow.caloadL X hx D.hZ eT A 1 (.int c1) (by decide) (by decide) rfl (pc := 59) (hb hby d1_59) ?_
    refine Ow.castoreL X hx D.hZ eT B_b 1 [_, _] (by decide) (by decide) rfl rfl (pc := 60) (hb hby d1_60) ?_
    intro T h_60 X eT W_60 B_b
    rw [h8n c1 (by simp)] at B_b W_60
    have A := A.other W_60 ne_cA_b
    have S := S.wr W_60
    have A_x := A_x.wr W_60
    have V0 := V0.other W_60 (Or.inl ne_x_b)
    have C0 := C0.other W_60 (Or.inl ne_x_b)
    have S_tmp := S_b
    have S_x := D.safeWr W_60 S_tmp S_x
    have S_b := D.safeWr W_60 S_tmp S_b
    have D := D.wr W_60 S_tmp
    have F := F.wr W_60 (Or.inr l_b)
    have H8 : ∀ c ∈ [c0, c1], ∃ k : Fin 256, c = Int32.ofNat k.val := fun c hc => h8 c (List.mem_of_mem_take (i := 2) hc)
    refine strLat X hx D.hZ hw eT hown (ww hw 13 rfl) (cs := [c0, c1]) A_x V0 C0 B_b S hz 2 rfl (by decide) (by decide) H8 (by rw [hml]; rfl) (pc := 61) (hb hby d1_61) rfl rfl (by decide) (by decide) ?_
    intro T L kb_x X F2 St_x
    have D := D.keep F2.1 (fun y hy => by cases List.mem_singleton.mp hy; exact S_x)
    have F := F.call F2 (fun y hy => by cases List.mem_singleton.mp hy; exact Or.inr l_x)
    have eT : T.heap = T.heap := rfl
    exact Ow.areturnW X hx eT D hEL hlk hret rfl rfl rfl (hb hby d1_64) ⟨_, _, _, rfl, F, St_x⟩ (by decide) (by decide)
  · have F := Ow.Eff.refl h0 []
    refine Ow.iloadN X hx (pc := 0) (hb hby d1_0) rfl ?_
    refine Ow.if_ne X hx (pc := 1) (pc' := 15) (hb hby d1_1) (by decide) (by decide) (fun h1 => ?_) (fun q => absurd q (by decide))
    refine Ow.iloadN X hx (pc := 15) (hb hby d1_15) rfl ?_
    refine Ow.iconst X hx (pc := 16) (1) (hb hby d1_16) (by decide) ?_
    refine Ow.icmp_ne X hx (pc := 17) (pc' := 37) (hb hby d1_17) (by decide) (by decide) (fun h17 => ?_) (fun q => absurd q (by decide))
    refine Ow.iloadN X hx (pc := 37) (hb hby d1_37) rfl ?_
    refine Ow.iconst X hx (pc := 38) (2) (hb hby d1_38) (by decide) ?_
    refine Ow.icmp_ne X hx (pc := 39) (pc' := 65) (hb hby d1_39) (by decide) (by decide) (fun h39 => ?_) (fun q => absurd q (by decide))
    refine Ow.iloadN X hx (pc := 65) (hb hby d1_65) rfl ?_
    refine Ow.iconst X hx (pc := 66) (3) (hb hby d1_66) (by decide) ?_
    refine Ow.icmp_ne X hx (pc := 67) (pc' := 99) (hb hby d1_67) (by decide) (by decide) (fun q => absurd (by decide) q) (fun h67 => ?_)
    refine Ow.new_ X hx D.hZ hown (ww hw 10 rfl) (ww hw 11 rfl) (ww hw 12 rfl) eT (pc := 70) (hb hby d1_70) (by decide) (by decide) ?_
    intro T h_x x ha_x X eT E_x A_x D_x U_x
    have l_x : h0.size ≤ x := by rw [ha_x]; exact F.size
    have ne_cA_x : cA ≠ x := by rw [ha_x]; exact Nat.ne_of_lt A.lt
    have S_x := D.safeNew E_x
    rw [← ha_x] at S_x
    have A := A.ext E_x
    have S := S.ext E_x
    have F := F.ext E_x
    have D := D.ext E_x
    have V0 := D_x (Or.inr (ww hw 25 rfl)) (ty := .array .byte) (by decide)
    have C0 := D_x (Or.inr (ww hw 26 rfl)) (ty := .byte) (by decide)
    refine Ow.dup X hx (pc := 73) (hb hby d1_73) rfl ?_
    refine Ow.iconst X hx (pc := 74) (3) (hb hby d1_74) (by decide) ?_
    refine Ow.newarrayL X hx D.hZ (ww hw 1 rfl) eT 3 (vs := [_, _, _]) rfl (pc := 75) (hb hby d1_75) (by decide) (by decide) (by decide) (by decide) (by decide) ?_
    intro T h_b k_b b ha_b X eT E_b B_b
    have l_b : h0.size ≤ b := by rw [ha_b]; exact F.size
    have ne_cA_b : cA ≠ b := by rw [ha_b]; exact Nat.ne_of_lt A.lt
    have ne_x_b : x ≠ b := by rw [ha_b]; exact Nat.ne_of_lt A_x.lt
    have S_b := D.safeNew E_b
    rw [← ha_b] at S_b
    have A := A.ext E_b
    have S := S.ext E_b
    have A_x := A_x.ext E_b
    have V0 := V0.ext E_b
    have C0 := C0.ext E_b
    have S_x := D.safeExt E_b S_x
    have F := F.ext E_b
    have D := D.ext E_b
    refine Ow.dup X hx (pc := 77) (hb hby d1_77) rfl ?_
    refine Ow.iconst X hx (pc := 78) (0) (hb hby d1_78) (by decide) ?_
    refine Ow.aloadN X hx (pc := 79) (hb hby d1_79) rfl rfl ?_
    refine Ow.iconst X hx (pc := 80) (0) (hb hby d1_80) (by decide) ?_
    refine Ow.caloadL X hx D.hZ eT A 0 (.int c0) (by decide) (by decide) rfl (pc := 81) (hb hby d1_81) ?_
    refine Ow.castoreL X hx D.hZ eT B_b 0 [_, _, _] (by decide) (by decide) rfl rfl (pc := 82) (hb hby d1_82) ?_
    intro T h_82 X eT W_82 B_b
    rw [h8n c0 (by simp)] at B_b W_82
    have A := A.other W_82 ne_cA_b
    have S := S.wr W_82
    have A_x := A_x.wr W_82
    have V0 := V0.other W_82 (Or.inl ne_x_b)
    have C0 := C0.other W_82 (Or.inl ne_x_b)
    have S_tmp := S_b
    have S_x := D.safeWr W_82 S_tmp S_x
    have S_b := D.safeWr W_82 S_tmp S_b
    have D := D.wr W_82 S_tmp
    have F := F.wr W_82 (Or.inr l_b)
    refine Ow.dup X hx (pc := 83) (hb hby d1_83) rfl ?_
    refine Ow.iconst X hx (pc := 84) (1) (hb hby d1_84) (by decide) ?_
    refine Ow.aloadN X hx (pc := 85) (hb hby d1_85) rfl rfl ?_
    refine Ow.iconst X hx (pc := 86) (1) (hb hby d1_86) (by decide) ?_
    refine Ow.caloadL X hx D.hZ eT A 1 (.int c1) (by decide) (by decide) rfl (pc := 87) (hb hby d1_87) ?_
    refine Ow.castoreL X hx D.hZ eT B_b 1 [_, _, _] (by decide) (by decide) rfl rfl (pc := 88) (hb hby d1_88) ?_
    intro T h_88 X eT W_88 B_b
    rw [h8n c1 (by simp)] at B_b W_88
    have A := A.other W_88 ne_cA_b
    have S := S.wr W_88
    have A_x := A_x.wr W_88
    have V0 := V0.other W_88 (Or.inl ne_x_b)
    have C0 := C0.other W_88 (Or.inl ne_x_b)
    have S_tmp := S_b
    have S_x := D.safeWr W_88 S_tmp S_x
    have S_b := D.safeWr W_88 S_tmp S_b
    have D := D.wr W_88 S_tmp
    have F := F.wr W_88 (Or.inr l_b)
    refine Ow.dup X hx (pc := 89) (hb hby d1_89) rfl ?_
    refine Ow.iconst X hx (pc := 90) (2) (hb hby d1_90) (by decide) ?_
    refine Ow.aloadN X hx (pc := 91) (hb hby d1_91) rfl rfl ?_
    refine Ow.iconst X hx (pc := 92) (2) (hb hby d1_92) (by decide) ?_
    refine Ow.caloadL X hx D.hZ eT A 2 (.int c2) (by decide) (by decide) rfl (pc := 93) (hb hby d1_93) ?_
    refine Ow.castoreL X hx D.hZ eT B_b 2 [_, _, _] (by decide) (by decide) rfl rfl (pc := 94) (hb hby d1_94) ?_
    intro T h_94 X eT W_94 B_b
    rw [h8n c2 (by simp)] at B_b W_94
    have A := A.other W_94 ne_cA_b
    have S := S.wr W_94
    have A_x := A_x.wr W_94
    have V0 := V0.other W_94 (Or.inl ne_x_b)
    have C0 := C0.other W_94 (Or.inl ne_x_b)
    have S_tmp := S_b
    have S_x := D.safeWr W_94 S_tmp S_x
    have S_b := D.safeWr W_94 S_tmp S_b
    have D := D.wr W_94 S_tmp
    have F := F.wr W_94 (Or.inr l_b)
    have H8 : ∀ c ∈ [c0, c1, c2], ∃ k : Fin 256, c = Int32.ofNat k.val := fun c hc => h8 c (List.mem_of_mem_take (i := 3) hc)
    refine strLat X hx D.hZ hw eT hown (ww hw 13 rfl) (cs := [c0, c1, c2]) A_x V0 C0 B_b S hz 3 rfl (by decide) (by decide) H8 (by rw [hml]; rfl) (pc := 95) (hb hby d1_95) rfl rfl (by decide) (by decide) ?_
    intro T L kb_x X F2 St_x
    have D := D.keep F2.1 (fun y hy => by cases List.mem_singleton.mp hy; exact S_x)
    have F := F.call F2 (fun y hy => by cases List.mem_singleton.mp hy; exact Or.inr l_x)
    have eT : T.heap = T.heap := rfl
    exact Ow.areturnW X hx eT D hEL hlk hret rfl rfl rfl (hb hby d1_98) ⟨_, _, _, rfl, F, St_x⟩ (by decide) (by decide)
  · have F := Ow.Eff.refl h0 []
    refine Ow.iloadN X hx (pc := 0) (hb hby d1_0) rfl ?_
    refine Ow.if_ne X hx (pc := 1) (pc' := 15) (hb hby d1_1) (by decide) (by decide) (fun h1 => ?_) (fun q => absurd q (by decide))
    refine Ow.iloadN X hx (pc := 15) (hb hby d1_15) rfl ?_
    refine Ow.iconst X hx (pc := 16) (1) (hb hby d1_16) (by decide) ?_
    refine Ow.icmp_ne X hx (pc := 17) (pc' := 37) (hb hby d1_17) (by decide) (by decide) (fun h17 => ?_) (fun q => absurd q (by decide))
    refine Ow.iloadN X hx (pc := 37) (hb hby d1_37) rfl ?_
    refine Ow.iconst X hx (pc := 38) (2) (hb hby d1_38) (by decide) ?_
    refine Ow.icmp_ne X hx (pc := 39) (pc' := 65) (hb hby d1_39) (by decide) (by decide) (fun h39 => ?_) (fun q => absurd q (by decide))
    refine Ow.iloadN X hx (pc := 65) (hb hby d1_65) rfl ?_
    refine Ow.iconst X hx (pc := 66) (3) (hb hby d1_66) (by decide) ?_
    refine Ow.icmp_ne X hx (pc := 67) (pc' := 99) (hb hby d1_67) (by decide) (by decide) (fun h67 => ?_) (fun q => absurd q (by decide))
    refine Ow.iloadN X hx (pc := 99) (hb hby d1_99) rfl ?_
    refine Ow.iconst X hx (pc := 100) (4) (hb hby d1_100) (by decide) ?_
    refine Ow.icmp_ne X hx (pc := 101) (pc' := 139) (hb hby d1_101) (by decide) (by decide) (fun q => absurd (by decide) q) (fun h101 => ?_)
    refine Ow.new_ X hx D.hZ hown (ww hw 10 rfl) (ww hw 11 rfl) (ww hw 12 rfl) eT (pc := 104) (hb hby d1_104) (by decide) (by decide) ?_
    intro T h_x x ha_x X eT E_x A_x D_x U_x
    have l_x : h0.size ≤ x := by rw [ha_x]; exact F.size
    have ne_cA_x : cA ≠ x := by rw [ha_x]; exact Nat.ne_of_lt A.lt
    have S_x := D.safeNew E_x
    rw [← ha_x] at S_x
    have A := A.ext E_x
    have S := S.ext E_x
    have F := F.ext E_x
    have D := D.ext E_x
    have V0 := D_x (Or.inr (ww hw 25 rfl)) (ty := .array .byte) (by decide)
    have C0 := D_x (Or.inr (ww hw 26 rfl)) (ty := .byte) (by decide)
    refine Ow.dup X hx (pc := 107) (hb hby d1_107) rfl ?_
    refine Ow.iconst X hx (pc := 108) (4) (hb hby d1_108) (by decide) ?_
    refine Ow.newarrayL X hx D.hZ (ww hw 1 rfl) eT 4 (vs := [_, _, _, _]) rfl (pc := 109) (hb hby d1_109) (by decide) (by decide) (by decide) (by decide) (by decide) ?_
    intro T h_b k_b b ha_b X eT E_b B_b
    have l_b : h0.size ≤ b := by rw [ha_b]; exact F.size
    have ne_cA_b : cA ≠ b := by rw [ha_b]; exact Nat.ne_of_lt A.lt
    have ne_x_b : x ≠ b := by rw [ha_b]; exact Nat.ne_of_lt A_x.lt
    have S_b := D.safeNew E_b
    rw [← ha_b] at S_b
    have A := A.ext E_b
    have S := S.ext E_b
    have A_x := A_x.ext E_b
    have V0 := V0.ext E_b
    have C0 := C0.ext E_b
    have S_x := D.safeExt E_b S_x
    have F := F.ext E_b
    have D := D.ext E_b
    refine Ow.dup X hx (pc := 111) (hb hby d1_111) rfl ?_
    refine Ow.iconst X hx (pc := 112) (0) (hb hby d1_112) (by decide) ?_
    refine Ow.aloadN X hx (pc := 113) (hb hby d1_113) rfl rfl ?_
    refine Ow.iconst X hx (pc := 114) (0) (hb hby d1_114) (by decide) ?_
    refine Ow.caloadL X hx D.hZ eT A 0 (.int c0) (by decide) (by decide) rfl (pc := 115) (hb hby d1_115) ?_
    refine Ow.castoreL X hx D.hZ eT B_b 0 [_, _, _, _] (by decide) (by decide) rfl rfl (pc := 116) (hb hby d1_116) ?_
    intro T h_116 X eT W_116 B_b
    rw [h8n c0 (by simp)] at B_b W_116
    have A := A.other W_116 ne_cA_b
    have S := S.wr W_116
    have A_x := A_x.wr W_116
    have V0 := V0.other W_116 (Or.inl ne_x_b)
    have C0 := C0.other W_116 (Or.inl ne_x_b)
    have S_tmp := S_b
    have S_x := D.safeWr W_116 S_tmp S_x
    have S_b := D.safeWr W_116 S_tmp S_b
    have D := D.wr W_116 S_tmp
    have F := F.wr W_116 (Or.inr l_b)
    refine Ow.dup X hx (pc := 117) (hb hby d1_117) rfl ?_
    refine Ow.iconst X hx (pc := 118) (1) (hb hby d1_118) (by decide) ?_
    refine Ow.aloadN X hx (pc := 119) (hb hby d1_119) rfl rfl ?_
    refine Ow.iconst X hx (pc := 120) (1) (hb hby d1_120) (by decide) ?_
    refine Ow.caloadL X hx D.hZ eT A 1 (.int c1) (by decide) (by decide) rfl (pc := 121) (hb hby d1_121) ?_
    refine Ow.castoreL X hx D.hZ eT B_b 1 [_, _, _, _] (by decide) (by decide) rfl rfl (pc := 122) (hb hby d1_122) ?_
    intro T h_122 X eT W_122 B_b
    rw [h8n c1 (by simp)] at B_b W_122
    have A := A.other W_122 ne_cA_b
    have S := S.wr W_122
    have A_x := A_x.wr W_122
    have V0 := V0.other W_122 (Or.inl ne_x_b)
    have C0 := C0.other W_122 (Or.inl ne_x_b)
    have S_tmp := S_b
    have S_x := D.safeWr W_122 S_tmp S_x
    have S_b := D.safeWr W_122 S_tmp S_b
    have D := D.wr W_122 S_tmp
    have F := F.wr W_122 (Or.inr l_b)
    refine Ow.dup X hx (pc := 123) (hb hby d1_123) rfl ?_
    refine Ow.iconst X hx (pc := 124) (2) (hb hby d1_124) (by decide) ?_
    refine Ow.aloadN X hx (pc := 125) (hb hby d1_125) rfl rfl ?_
    refine Ow.iconst X hx (pc := 126) (2) (hb hby d1_126) (by decide) ?_
    refine Ow.caloadL X hx D.hZ eT A 2 (.int c2) (by decide) (by decide) rfl (pc := 127) (hb hby d1_127) ?_
    refine Ow.castoreL X hx D.hZ eT B_b 2 [_, _, _, _] (by decide) (by decide) rfl rfl (pc := 128) (hb hby d1_128) ?_
    intro T h_128 X eT W_128 B_b
    rw [h8n c2 (by simp)] at B_b W_128
    have A := A.other W_128 ne_cA_b
    have S := S.wr W_128
    have A_x := A_x.wr W_128
    have V0 := V0.other W_128 (Or.inl ne_x_b)
    have C0 := C0.other W_128 (Or.inl ne_x_b)
    have S_tmp := S_b
    have S_x := D.safeWr W_128 S_tmp S_x
    have S_b := D.safeWr W_128 S_tmp S_b
    have D := D.wr W_128 S_tmp
    have F := F.wr W_128 (Or.inr l_b)
    refine Ow.dup X hx (pc := 129) (hb hby d1_129) rfl ?_
    refine Ow.iconst X hx (pc := 130) (3) (hb hby d1_130) (by decide) ?_
    refine Ow.aloadN X hx (pc := 131) (hb hby d1_131) rfl rfl ?_
    refine Ow.iconst X hx (pc := 132) (3) (hb hby d1_132) (by decide) ?_
    refine Ow.caloadL X hx D.hZ eT A 3 (.int c3) (by decide) (by decide) rfl (pc := 133) (hb hby d1_133) ?_
    refine Ow.castoreL X hx D.hZ eT B_b 3 [_, _, _, _] (by decide) (by decide) rfl rfl (pc := 134) (hb hby d1_134) ?_
    intro T h_134 X eT W_134 B_b
    rw [h8n c3 (by simp)] at B_b W_134
    have A := A.other W_134 ne_cA_b
    have S := S.wr W_134
    have A_x := A_x.wr W_134
    have V0 := V0.other W_134 (Or.inl ne_x_b)
    have C0 := C0.other W_134 (Or.inl ne_x_b)
    have S_tmp := S_b
    have S_x := D.safeWr W_134 S_tmp S_x
    have S_b := D.safeWr W_134 S_tmp S_b
    have D := D.wr W_134 S_tmp
    have F := F.wr W_134 (Or.inr l_b)
    have H8 : ∀ c ∈ [c0, c1, c2, c3], ∃ k : Fin 256, c = Int32.ofNat k.val := fun c hc => h8 c (List.mem_of_mem_take (i := 4) hc)
    refine strLat X hx D.hZ hw eT hown (ww hw 13 rfl) (cs := [c0, c1, c2, c3]) A_x V0 C0 B_b S hz 4 rfl (by decide) (by decide) H8 (by rw [hml]; rfl) (pc := 135) (hb hby d1_135) rfl rfl (by decide) (by decide) ?_
    intro T L kb_x X F2 St_x
    have D := D.keep F2.1 (fun y hy => by cases List.mem_singleton.mp hy; exact S_x)
    have F := F.call F2 (fun y hy => by cases List.mem_singleton.mp hy; exact Or.inr l_x)
    have eT : T.heap = T.heap := rfl
    exact Ow.areturnW X hx eT D hEL hlk hret rfl rfl rfl (hb hby d1_138) ⟨_, _, _, rfl, F, St_x⟩ (by decide) (by decide)
  · have F := Ow.Eff.refl h0 []
    refine Ow.iloadN X hx (pc := 0) (hb hby d1_0) rfl ?_
    refine Ow.if_ne X hx (pc := 1) (pc' := 15) (hb hby d1_1) (by decide) (by decide) (fun h1 => ?_) (fun q => absurd q (by decide))
    refine Ow.iloadN X hx (pc := 15) (hb hby d1_15) rfl ?_
    refine Ow.iconst X hx (pc := 16) (1) (hb hby d1_16) (by decide) ?_
    refine Ow.icmp_ne X hx (pc := 17) (pc' := 37) (hb hby d1_17) (by decide) (by decide) (fun h17 => ?_) (fun q => absurd q (by decide))
    refine Ow.iloadN X hx (pc := 37) (hb hby d1_37) rfl ?_
    refine Ow.iconst X hx (pc := 38) (2) (hb hby d1_38) (by decide) ?_
    refine Ow.icmp_ne X hx (pc := 39) (pc' := 65) (hb hby d1_39) (by decide) (by decide) (fun h39 => ?_) (fun q => absurd q (by decide))
    refine Ow.iloadN X hx (pc := 65) (hb hby d1_65) rfl ?_
    refine Ow.iconst X hx (pc := 66) (3) (hb hby d1_66) (by decide) ?_
    refine Ow.icmp_ne X hx (pc := 67) (pc' := 99) (hb hby d1_67) (by decide) (by decide) (fun h67 => ?_) (fun q => absurd q (by decide))
    refine Ow.iloadN X hx (pc := 99) (hb hby d1_99) rfl ?_
    refine Ow.iconst X hx (pc := 100) (4) (hb hby d1_100) (by decide) ?_
    refine Ow.icmp_ne X hx (pc := 101) (pc' := 139) (hb hby d1_101) (by decide) (by decide) (fun h101 => ?_) (fun q => absurd q (by decide))
    refine Ow.iloadN X hx (pc := 139) (hb hby d1_139) rfl ?_
    refine Ow.iconst X hx (pc := 140) (5) (hb hby d1_140) (by decide) ?_
    refine Ow.icmp_ne X hx (pc := 141) (pc' := 185) (hb hby d1_141) (by decide) (by decide) (fun q => absurd (by decide) q) (fun h141 => ?_)
    refine Ow.new_ X hx D.hZ hown (ww hw 10 rfl) (ww hw 11 rfl) (ww hw 12 rfl) eT (pc := 144) (hb hby d1_144) (by decide) (by decide) ?_
    intro T h_x x ha_x X eT E_x A_x D_x U_x
    have l_x : h0.size ≤ x := by rw [ha_x]; exact F.size
    have ne_cA_x : cA ≠ x := by rw [ha_x]; exact Nat.ne_of_lt A.lt
    have S_x := D.safeNew E_x
    rw [← ha_x] at S_x
    have A := A.ext E_x
    have S := S.ext E_x
    have F := F.ext E_x
    have D := D.ext E_x
    have V0 := D_x (Or.inr (ww hw 25 rfl)) (ty := .array .byte) (by decide)
    have C0 := D_x (Or.inr (ww hw 26 rfl)) (ty := .byte) (by decide)
    refine Ow.dup X hx (pc := 147) (hb hby d1_147) rfl ?_
    refine Ow.iconst X hx (pc := 148) (5) (hb hby d1_148) (by decide) ?_
    refine Ow.newarrayL X hx D.hZ (ww hw 1 rfl) eT 5 (vs := [_, _, _, _, _]) rfl (pc := 149) (hb hby d1_149) (by decide) (by decide) (by decide) (by decide) (by decide) ?_
    intro T h_b k_b b ha_b X eT E_b B_b
    have l_b : h0.size ≤ b := by rw [ha_b]; exact F.size
    have ne_cA_b : cA ≠ b := by rw [ha_b]; exact Nat.ne_of_lt A.lt
    have ne_x_b : x ≠ b := by rw [ha_b]; exact Nat.ne_of_lt A_x.lt
    have S_b := D.safeNew E_b
    rw [← ha_b] at S_b
    have A := A.ext E_b
    have S := S.ext E_b
    have A_x := A_x.ext E_b
    have V0 := V0.ext E_b
    have C0 := C0.ext E_b
    have S_x := D.safeExt E_b S_x
    have F := F.ext E_b
    have D := D.ext E_b
    refine Ow.dup X hx (pc := 151) (hb hby d1_151) rfl ?_
    refine Ow.iconst X hx (pc := 152) (0) (hb hby d1_152) (by decide) ?_
    refine Ow.aloadN X hx (pc := 153) (hb hby d1_153) rfl rfl ?_
    refine Ow.iconst X hx (pc := 154) (0) (hb hby d1_154) (by decide) ?_
    refine Ow.caloadL X hx D.hZ eT A 0 (.int c0) (by decide) (by decide) rfl (pc := 155) (hb hby d1_155) ?_
    refine Ow.castoreL X hx D.hZ eT B_b 0 [_, _, _, _, _] (by decide) (by decide) rfl rfl (pc := 156) (hb hby d1_156) ?_
    intro T h_156 X eT W_156 B_b
    rw [h8n c0 (by simp)] at B_b W_156
    have A := A.other W_156 ne_cA_b
    have S := S.wr W_156
    have A_x := A_x.wr W_156
    have V0 := V0.other W_156 (Or.inl ne_x_b)
    have C0 := C0.other W_156 (Or.inl ne_x_b)
    have S_tmp := S_b
    have S_x := D.safeWr W_156 S_tmp S_x
    have S_b := D.safeWr W_156 S_tmp S_b
    have D := D.wr W_156 S_tmp
    have F := F.wr W_156 (Or.inr l_b)
    refine Ow.dup X hx (pc := 157) (hb hby d1_157) rfl ?_
    refine Ow.iconst X hx (pc := 158) (1) (hb hby d1_158) (by decide) ?_
    refine Ow.aloadN X hx (pc := 159) (hb hby d1_159) rfl rfl ?_
    refine Ow.iconst X hx (pc := 160) (1) (hb hby d1_160) (by decide) ?_
    refine Ow.caloadL X hx D.hZ eT A 1 (.int c1) (by decide) (by decide) rfl (pc := 161) (hb hby d1_161) ?_
    refine Ow.castoreL X hx D.hZ eT B_b 1 [_, _, _, _, _] (by decide) (by decide) rfl rfl (pc := 162) (hb hby d1_162) ?_
    intro T h_162 X eT W_162 B_b
    rw [h8n c1 (by simp)] at B_b W_162
    have A := A.other W_162 ne_cA_b
    have S := S.wr W_162
    have A_x := A_x.wr W_162
    have V0 := V0.other W_162 (Or.inl ne_x_b)
    have C0 := C0.other W_162 (Or.inl ne_x_b)
    have S_tmp := S_b
    have S_x := D.safeWr W_162 S_tmp S_x
    have S_b := D.safeWr W_162 S_tmp S_b
    have D := D.wr W_162 S_tmp
    have F := F.wr W_162 (Or.inr l_b)
    refine Ow.dup X hx (pc := 163) (hb hby d1_163) rfl ?_
    refine Ow.iconst X hx (pc := 164) (2) (hb hby d1_164) (by decide) ?_
    refine Ow.aloadN X hx (pc := 165) (hb hby d1_165) rfl rfl ?_
    refine Ow.iconst X hx (pc := 166) (2) (hb hby d1_166) (by decide) ?_
    refine Ow.caloadL X hx D.hZ eT A 2 (.int c2) (by decide) (by decide) rfl (pc := 167) (hb hby d1_167) ?_
    refine Ow.castoreL X hx D.hZ eT B_b 2 [_, _, _, _, _] (by decide) (by decide) rfl rfl (pc := 168) (hb hby d1_168) ?_
    intro T h_168 X eT W_168 B_b
    rw [h8n c2 (by simp)] at B_b W_168
    have A := A.other W_168 ne_cA_b
    have S := S.wr W_168
    have A_x := A_x.wr W_168
    have V0 := V0.other W_168 (Or.inl ne_x_b)
    have C0 := C0.other W_168 (Or.inl ne_x_b)
    have S_tmp := S_b
    have S_x := D.safeWr W_168 S_tmp S_x
    have S_b := D.safeWr W_168 S_tmp S_b
    have D := D.wr W_168 S_tmp
    have F := F.wr W_168 (Or.inr l_b)
    refine Ow.dup X hx (pc := 169) (hb hby d1_169) rfl ?_
    refine Ow.iconst X hx (pc := 170) (3) (hb hby d1_170) (by decide) ?_
    refine Ow.aloadN X hx (pc := 171) (hb hby d1_171) rfl rfl ?_
    refine Ow.iconst X hx (pc := 172) (3) (hb hby d1_172) (by decide) ?_
    refine Ow.caloadL X hx D.hZ eT A 3 (.int c3) (by decide) (by decide) rfl (pc := 173) (hb hby d1_173) ?_
    refine Ow.castoreL X hx D.hZ eT B_b 3 [_, _, _, _, _] (by decide) (by decide) rfl rfl (pc := 174) (hb hby d1_174) ?_
    intro T h_174 X eT W_174 B_b
    rw [h8n c3 (by simp)] at B_b W_174
    have A := A.other W_174 ne_cA_b
    have S := S.wr W_174
    have A_x := A_x.wr W_174
    have V0 := V0.other W_174 (Or.inl ne_x_b)
    have C0 := C0.other W_174 (Or.inl ne_x_b)
    have S_tmp := S_b
    have S_x := D.safeWr W_174 S_tmp S_x
    have S_b := D.safeWr W_174 S_tmp S_b
    have D := D.wr W_174 S_tmp
    have F := F.wr W_174 (Or.inr l_b)
    refine Ow.dup X hx (pc := 175) (hb hby d1_175) rfl ?_
    refine Ow.iconst X hx (pc := 176) (4) (hb hby d1_176) (by decide) ?_
    refine Ow.aloadN X hx (pc := 177) (hb hby d1_177) rfl rfl ?_
    refine Ow.iconst X hx (pc := 178) (4) (hb hby d1_178) (by decide) ?_
    refine Ow.caloadL X hx D.hZ eT A 4 (.int c4) (by decide) (by decide) rfl (pc := 179) (hb hby d1_179) ?_
    refine Ow.castoreL X hx D.hZ eT B_b 4 [_, _, _, _, _] (by decide) (by decide) rfl rfl (pc := 180) (hb hby d1_180) ?_
    intro T h_180 X eT W_180 B_b
    rw [h8n c4 (by simp)] at B_b W_180
    have A := A.other W_180 ne_cA_b
    have S := S.wr W_180
    have A_x := A_x.wr W_180
    have V0 := V0.other W_180 (Or.inl ne_x_b)
    have C0 := C0.other W_180 (Or.inl ne_x_b)
    have S_tmp := S_b
    have S_x := D.safeWr W_180 S_tmp S_x
    have S_b := D.safeWr W_180 S_tmp S_b
    have D := D.wr W_180 S_tmp
    have F := F.wr W_180 (Or.inr l_b)
    have H8 : ∀ c ∈ [c0, c1, c2, c3, c4], ∃ k : Fin 256, c = Int32.ofNat k.val := fun c hc => h8 c (List.mem_of_mem_take (i := 5) hc)
    refine strLat X hx D.hZ hw eT hown (ww hw 13 rfl) (cs := [c0, c1, c2, c3, c4]) A_x V0 C0 B_b S hz 5 rfl (by decide) (by decide) H8 (by rw [hml]; rfl) (pc := 181) (hb hby d1_181) rfl rfl (by decide) (by decide) ?_
    intro T L kb_x X F2 St_x
    have D := D.keep F2.1 (fun y hy => by cases List.mem_singleton.mp hy; exact S_x)
    have F := F.call F2 (fun y hy => by cases List.mem_singleton.mp hy; exact Or.inr l_x)
    have eT : T.heap = T.heap := rfl
    exact Ow.areturnW X hx eT D hEL hlk hret rfl rfl rfl (hb hby d1_184) ⟨_, _, _, rfl, F, St_x⟩ (by decide) (by decide)
  · have F := Ow.Eff.refl h0 []
    refine Ow.iloadN X hx (pc := 0) (hb hby d1_0) rfl ?_
    refine Ow.if_ne X hx (pc := 1) (pc' := 15) (hb hby d1_1) (by decide) (by decide) (fun h1 => ?_) (fun q => absurd q (by decide))
    refine Ow.iloadN X hx (pc := 15) (hb hby d1_15) rfl ?_
    refine Ow.iconst X hx (pc := 16) (1) (hb hby d1_16) (by decide) ?_
    refine Ow.icmp_ne X hx (pc := 17) (pc' := 37) (hb hby d1_17) (by decide) (by decide) (fun h17 => ?_) (fun q => absurd q (by decide))
    refine Ow.iloadN X hx (pc := 37) (hb hby d1_37) rfl ?_
    refine Ow.iconst X hx (pc := 38) (2) (hb hby d1_38) (by decide) ?_
    refine Ow.icmp_ne X hx (pc := 39) (pc' := 65) (hb hby d1_39) (by decide) (by decide) (fun h39 => ?_) (fun q => absurd q (by decide))
    refine Ow.iloadN X hx (pc := 65) (hb hby d1_65) rfl ?_
    refine Ow.iconst X hx (pc := 66) (3) (hb hby d1_66) (by decide) ?_
    refine Ow.icmp_ne X hx (pc := 67) (pc' := 99) (hb hby d1_67) (by decide) (by decide) (fun h67 => ?_) (fun q => absurd q (by decide))
    refine Ow.iloadN X hx (pc := 99) (hb hby d1_99) rfl ?_
    refine Ow.iconst X hx (pc := 100) (4) (hb hby d1_100) (by decide) ?_
    refine Ow.icmp_ne X hx (pc := 101) (pc' := 139) (hb hby d1_101) (by decide) (by decide) (fun h101 => ?_) (fun q => absurd q (by decide))
    refine Ow.iloadN X hx (pc := 139) (hb hby d1_139) rfl ?_
    refine Ow.iconst X hx (pc := 140) (5) (hb hby d1_140) (by decide) ?_
    refine Ow.icmp_ne X hx (pc := 141) (pc' := 185) (hb hby d1_141) (by decide) (by decide) (fun h141 => ?_) (fun q => absurd q (by decide))
    refine Ow.new_ X hx D.hZ hown (ww hw 10 rfl) (ww hw 11 rfl) (ww hw 12 rfl) eT (pc := 185) (hb hby d1_185) (by decide) (by decide) ?_
    intro T h_x x ha_x X eT E_x A_x D_x U_x
    have l_x : h0.size ≤ x := by rw [ha_x]; exact F.size
    have ne_cA_x : cA ≠ x := by rw [ha_x]; exact Nat.ne_of_lt A.lt
    have S_x := D.safeNew E_x
    rw [← ha_x] at S_x
    have A := A.ext E_x
    have S := S.ext E_x
    have F := F.ext E_x
    have D := D.ext E_x
    have V0 := D_x (Or.inr (ww hw 25 rfl)) (ty := .array .byte) (by decide)
    have C0 := D_x (Or.inr (ww hw 26 rfl)) (ty := .byte) (by decide)
    refine Ow.dup X hx (pc := 188) (hb hby d1_188) rfl ?_
    refine Ow.bipush X hx (pc := 189) (6) (hb hby d1_189) (by decide) ?_
    refine Ow.newarrayL X hx D.hZ (ww hw 1 rfl) eT 6 (vs := [_, _, _, _, _, _]) rfl (pc := 191) (hb hby d1_191) (by decide) (by decide) (by decide) (by decide) (by decide) ?_
    intro T h_b k_b b ha_b X eT E_b B_b
    have l_b : h0.size ≤ b := by rw [ha_b]; exact F.size
    have ne_cA_b : cA ≠ b := by rw [ha_b]; exact Nat.ne_of_lt A.lt
    have ne_x_b : x ≠ b := by rw [ha_b]; exact Nat.ne_of_lt A_x.lt
    have S_b := D.safeNew E_b
    rw [← ha_b] at S_b
    have A := A.ext E_b
    have S := S.ext E_b
    have A_x := A_x.ext E_b
    have V0 := V0.ext E_b
    have C0 := C0.ext E_b
    have S_x := D.safeExt E_b S_x
    have F := F.ext E_b
    have D := D.ext E_b
    refine Ow.dup X hx (pc := 193) (hb hby d1_193) rfl ?_
    refine Ow.iconst X hx (pc := 194) (0) (hb hby d1_194) (by decide) ?_
    refine Ow.aloadN X hx (pc := 195) (hb hby d1_195) rfl rfl ?_
    refine Ow.iconst X hx (pc := 196) (0) (hb hby d1_196) (by decide) ?_
    refine Ow.caloadL X hx D.hZ eT A 0 (.int c0) (by decide) (by decide) rfl (pc := 197) (hb hby d1_197) ?_
    refine Ow.castoreL X hx D.hZ eT B_b 0 [_, _, _, _, _, _] (by decide) (by decide) rfl rfl (pc := 198) (hb hby d1_198) ?_
    intro T h_198 X eT W_198 B_b
    rw [h8n c0 (by simp)] at B_b W_198
    have A := A.other W_198 ne_cA_b
    have S := S.wr W_198
    have A_x := A_x.wr W_198
    have V0 := V0.other W_198 (Or.inl ne_x_b)
    have C0 := C0.other W_198 (Or.inl ne_x_b)
    have S_tmp := S_b
    have S_x := D.safeWr W_198 S_tmp S_x
    have S_b := D.safeWr W_198 S_tmp S_b
    have D := D.wr W_198 S_tmp
    have F := F.wr W_198 (Or.inr l_b)
    refine Ow.dup X hx (pc := 199) (hb hby d1_199) rfl ?_
    refine Ow.iconst X hx (pc := 200) (1) (hb hby d1_200) (by decide) ?_
    refine Ow.aloadN X hx (pc := 201) (hb hby d1_201) rfl rfl ?_
    refine Ow.iconst X hx (pc := 202) (1) (hb hby d1_202) (by decide) ?_
    refine Ow.caloadL X hx D.hZ eT A 1 (.int c1) (by decide) (by decide) rfl (pc := 203) (hb hby d1_203) ?_
    refine Ow.castoreL X hx D.hZ eT B_b 1 [_, _, _, _, _, _] (by decide) (by decide) rfl rfl (pc := 204) (hb hby d1_204) ?_
    intro T h_204 X eT W_204 B_b
    rw [h8n c1 (by simp)] at B_b W_204
    have A := A.other W_204 ne_cA_b
    have S := S.wr W_204
    have A_x := A_x.wr W_204
    have V0 := V0.other W_204 (Or.inl ne_x_b)
    have C0 := C0.other W_204 (Or.inl ne_x_b)
    have S_tmp := S_b
    have S_x := D.safeWr W_204 S_tmp S_x
    have S_b := D.safeWr W_204 S_tmp S_b
    have D := D.wr W_204 S_tmp
    have F := F.wr W_204 (Or.inr l_b)
    refine Ow.dup X hx (pc := 205) (hb hby d1_205) rfl ?_
    refine Ow.iconst X hx (pc := 206) (2) (hb hby d1_206) (by decide) ?_
    refine Ow.aloadN X hx (pc := 207) (hb hby d1_207) rfl rfl ?_
    refine Ow.iconst X hx (pc := 208) (2) (hb hby d1_208) (by decide) ?_
    refine Ow.caloadL X hx D.hZ eT A 2 (.int c2) (by decide) (by decide) rfl (pc := 209) (hb hby d1_209) ?_
    refine Ow.castoreL X hx D.hZ eT B_b 2 [_, _, _, _, _, _] (by decide) (by decide) rfl rfl (pc := 210) (hb hby d1_210) ?_
    intro T h_210 X eT W_210 B_b
    rw [h8n c2 (by simp)] at B_b W_210
    have A := A.other W_210 ne_cA_b
    have S := S.wr W_210
    have A_x := A_x.wr W_210
    have V0 := V0.other W_210 (Or.inl ne_x_b)
    have C0 := C0.other W_210 (Or.inl ne_x_b)
    have S_tmp := S_b
    have S_x := D.safeWr W_210 S_tmp S_x
    have S_b := D.safeWr W_210 S_tmp S_b
    have D := D.wr W_210 S_tmp
    have F := F.wr W_210 (Or.inr l_b)
    refine Ow.dup X hx (pc := 211) (hb hby d1_211) rfl ?_
    refine Ow.iconst X hx (pc := 212) (3) (hb hby d1_212) (by decide) ?_
    refine Ow.aloadN X hx (pc := 213) (hb hby d1_213) rfl rfl ?_
    refine Ow.iconst X hx (pc := 214) (3) (hb hby d1_214) (by decide) ?_
    refine Ow.caloadL X hx D.hZ eT A 3 (.int c3) (by decide) (by decide) rfl (pc := 215) (hb hby d1_215) ?_
    refine Ow.castoreL X hx D.hZ eT B_b 3 [_, _, _, _, _, _] (by decide) (by decide) rfl rfl (pc := 216) (hb hby d1_216) ?_
    intro T h_216 X eT W_216 B_b
    rw [h8n c3 (by simp)] at B_b W_216
    have A := A.other W_216 ne_cA_b
    have S := S.wr W_216
    have A_x := A_x.wr W_216
    have V0 := V0.other W_216 (Or.inl ne_x_b)
    have C0 := C0.other W_216 (Or.inl ne_x_b)
    have S_tmp := S_b
    have S_x := D.safeWr W_216 S_tmp S_x
    have S_b := D.safeWr W_216 S_tmp S_b
    have D := D.wr W_216 S_tmp
    have F := F.wr W_216 (Or.inr l_b)
    refine Ow.dup X hx (pc := 217) (hb hby d1_217) rfl ?_
    refine Ow.iconst X hx (pc := 218) (4) (hb hby d1_218) (by decide) ?_
    refine Ow.aloadN X hx (pc := 219) (hb hby d1_219) rfl rfl ?_
    refine Ow.iconst X hx (pc := 220) (4) (hb hby d1_220) (by decide) ?_
    refine Ow.caloadL X hx D.hZ eT A 4 (.int c4) (by decide) (by decide) rfl (pc := 221) (hb hby d1_221) ?_
    refine Ow.castoreL X hx D.hZ eT B_b 4 [_, _, _, _, _, _] (by decide) (by decide) rfl rfl (pc := 222) (hb hby d1_222) ?_
    intro T h_222 X eT W_222 B_b
    rw [h8n c4 (by simp)] at B_b W_222
    have A := A.other W_222 ne_cA_b
    have S := S.wr W_222
    have A_x := A_x.wr W_222
    have V0 := V0.other W_222 (Or.inl ne_x_b)
    have C0 := C0.other W_222 (Or.inl ne_x_b)
    have S_tmp := S_b
    have S_x := D.safeWr W_222 S_tmp S_x
    have S_b := D.safeWr W_222 S_tmp S_b
    have D := D.wr W_222 S_tmp
    have F := F.wr W_222 (Or.inr l_b)
    refine Ow.dup X hx (pc := 223) (hb hby d1_223) rfl ?_
    refine Ow.iconst X hx (pc := 224) (5) (hb hby d1_224) (by decide) ?_
    refine Ow.aloadN X hx (pc := 225) (hb hby d1_225) rfl rfl ?_
    refine Ow.iconst X hx (pc := 226) (5) (hb hby d1_226) (by decide) ?_
    refine Ow.caloadL X hx D.hZ eT A 5 (.int c5) (by decide) (by decide) rfl (pc := 227) (hb hby d1_227) ?_
    refine Ow.castoreL X hx D.hZ eT B_b 5 [_, _, _, _, _, _] (by decide) (by decide) rfl rfl (pc := 228) (hb hby d1_228) ?_
    intro T h_228 X eT W_228 B_b
    rw [h8n c5 (by simp)] at B_b W_228
    have A := A.other W_228 ne_cA_b
    have S := S.wr W_228
    have A_x := A_x.wr W_228
    have V0 := V0.other W_228 (Or.inl ne_x_b)
    have C0 := C0.other W_228 (Or.inl ne_x_b)
    have S_tmp := S_b
    have S_x := D.safeWr W_228 S_tmp S_x
    have S_b := D.safeWr W_228 S_tmp S_b
    have D := D.wr W_228 S_tmp
    have F := F.wr W_228 (Or.inr l_b)
    have H8 : ∀ c ∈ [c0, c1, c2, c3, c4, c5], ∃ k : Fin 256, c = Int32.ofNat k.val := fun c hc => h8 c (List.mem_of_mem_take (i := 6) hc)
    refine strLat X hx D.hZ hw eT hown (ww hw 13 rfl) (cs := [c0, c1, c2, c3, c4, c5]) A_x V0 C0 B_b S hz 6 rfl (by decide) (by decide) H8 (by rw [hml]; rfl) (pc := 229) (hb hby d1_229) rfl rfl (by decide) (by decide) ?_
    intro T L kb_x X F2 St_x
    have D := D.keep F2.1 (fun y hy => by cases List.mem_singleton.mp hy; exact S_x)
    have F := F.call F2 (fun y hy => by cases List.mem_singleton.mp hy; exact Or.inr l_x)
    have eT : T.heap = T.heap := rfl
    exact Ow.areturnW X hx eT D hEL hlk hret rfl rfl rfl (hb hby d1_232) ⟨_, _, _, rfl, F, St_x⟩ (by decide) (by decide)
def own_b (j n : Nat) (c : Int32) : Int32 := if j < n ∧ c = 47 then 1 else 0
theorem own_b_nar (j n : Nat) (c : Int32) : nar .boolean (own_b j n c) = own_b j n c := by
  unfold own_b; split <;> rfl
theorem own_nch (v : Int32) : nar .char (own_ch v) = own_ch v := by
  obtain ⟨n, hn⟩ := own_ch_8 v
  rw [hn, (own_ch8 n).2.2.1]
theorem own_len7 (x : Int32) : ∃ n : Nat, n ≤ 6 ∧ (x &&& 2147483647) % 7 = Int32.ofNat n := by
  have h1 : 0 ≤ (x &&& 2147483647).toInt := by
    rw [Int32.toInt]
    have hm : (x &&& 2147483647).toBitVec.msb = false := by
      rw [Int32.toBitVec_and, BitVec.msb_and, show (2147483647 : Int32).toBitVec.msb = false from by decide, Bool.and_false]
    rw [BitVec.toInt_eq_msb_cond, hm]; simp
  have h2 : ((x &&& 2147483647) % 7).toInt = (x &&& 2147483647).toInt.tmod 7 := by
    rw [Int32.toInt_mod]; rfl
  have h3 : (x &&& 2147483647).toInt.tmod 7 = (x &&& 2147483647).toInt % 7 := Int.tmod_eq_emod_of_nonneg h1
  refine ⟨((x &&& 2147483647).toInt % 7).toNat, by omega, Int32.toInt_inj.mp ?_⟩
  rw [Int32.toInt_ofNat_of_lt (by omega), h2, h3]; omega
/-- the same, of whether a place holds 47 -/
def own_ixb (bl : List Bool) : Nat → Nat → Int32
  | _, 0 => -1
  | i, f + 1 => if bl.getD i false = true then Int32.ofNat i else own_ixb bl (i + 1) f
theorem own_ix_b {bs : List Int32} {bl : List Bool} (h : ∀ i, bs.getD i 0 = 47 ↔ bl.getD i false = true) : ∀ (f i : Nat), own_ix 47 bs i f = own_ixb bl i f
  | 0, _ => rfl
  | f + 1, i => by
    unfold own_ix own_ixb
    rw [own_ix_b h f (i + 1)]
    by_cases q : bl.getD i false = true
    · rw [if_pos q, if_pos ((h i).mpr q)]
    · rw [if_neg q, if_neg fun r => q ((h i).mp r)]
def own_ixbs (bl : List Bool) (fr : Nat) : Int32 := own_ixb bl fr (bl.length - fr)
def own_afterb (bl : List Bool) : Int32 := if 0 < own_ixbs bl 0 ∧ own_ixbs bl 0 + 1 < own_ixbs bl (own_ixbs bl 0 + 1).toNatClampNeg then own_ixbs bl (own_ixbs bl 0 + 1).toNatClampNeg else -1
def own_bb (j n : Nat) (c : Bool) : Int32 := if j < n ∧ c = true then 1 else 0
theorem own_plainB : ∀ (n : Fin 7) (a0 a1 a2 a3 a4 a5 : Bool), own_afterb (List.take n.val [a0, a1, a2, a3, a4, a5]) =
    (let fi := own_from (own_bb 0 n a0) (own_bb 1 n a1) (own_bb 2 n a2) (own_bb 3 n a3) (own_bb 4 n a4) (own_bb 5 n a5) 0
     let se := if fi < 0 then -1 else own_from (own_bb 0 n a0) (own_bb 1 n a1) (own_bb 2 n a2) (own_bb 3 n a3) (own_bb 4 n a4) (own_bb 5 n a5) (fi + 1)
     if ¬ fi < 1 ∧ ¬ se < fi + 2 then se else -1) := by decide +kernel
theorem own_c47 : ∀ k : Fin 256, ((Int32.ofNat k.val).toInt8.toInt32 = 47 ↔ Int32.ofNat k.val = 47) := by decide +kernel
theorem own_b_bb (j n : Nat) (c : Int32) : own_b j n c = own_bb j n (decide (c = 47)) := by
  unfold own_b own_bb; simp
theorem own_getD (cs : List Int32) (h8 : ∀ c ∈ cs, ∃ k : Fin 256, c = Int32.ofNat k.val) (i : Nat) : (cs.map fun c => c.toInt8.toInt32).getD i 0 = 47 ↔ (cs.map fun c => decide (c = 47)).getD i false = true := by
  simp only [List.getD_eq_getElem?_getD, List.getElem?_map]
  cases q : cs[i]? with
  | none => simp
  | some c =>
    obtain ⟨k, rfl⟩ := h8 c (List.mem_of_getElem? q)
    simpa using own_c47 k
theorem own_plain (n : Nat) (c0 c1 c2 c3 c4 c5 : Int32) (hn : n ≤ 6) (h8 : ∀ c ∈ [c0, c1, c2, c3, c4, c5], ∃ k : Fin 256, c = Int32.ofNat k.val) (fi se ex : Int32) (hfi : fi = own_from (own_b 0 n c0) (own_b 1 n c1) (own_b 2 n c2) (own_b 3 n c3) (own_b 4 n c4) (own_b 5 n c5) 0) (hse : se = if fi < 0 then -1 else own_from (own_b 0 n c0) (own_b 1 n c1) (own_b 2 n c2) (own_b 3 n c3) (own_b 4 n c4) (own_b 5 n c5) (fi + 1)) (hex : ex = if ¬ fi < 1 ∧ ¬ se < fi + 2 then se else -1) :
    own_after ((List.take n [c0, c1, c2, c3, c4, c5]).map fun c => c.toInt8.toInt32) = ex := by
  have hd := own_getD (List.take n [c0, c1, c2, c3, c4, c5]) (fun c hc => h8 c (List.mem_of_mem_take hc))
  have hi : ∀ fr, own_ixs 47 ((List.take n [c0, c1, c2, c3, c4, c5]).map fun c => c.toInt8.toInt32) fr = own_ixbs (List.take n [decide (c0 = 47), decide (c1 = 47), decide (c2 = 47), decide (c3 = 47), decide (c4 = 47), decide (c5 = 47)]) fr := fun fr => by
    unfold own_ixs own_ixbs
    rw [own_ix_b hd, List.map_take]
    simp
  have key := own_plainB ⟨n, by omega⟩ (decide (c0 = 47)) (decide (c1 = 47)) (decide (c2 = 47)) (decide (c3 = 47)) (decide (c4 = 47)) (decide (c5 = 47))
  have ha : own_after ((List.take n [c0, c1, c2, c3, c4, c5]).map fun c => c.toInt8.toInt32) = own_afterb (List.take n [decide (c0 = 47), decide (c1 = 47), decide (c2 = 47), decide (c3 = 47), decide (c4 = 47), decide (c5 = 47)]) := by
    unfold own_after own_afterb
    simp only [hi]
  rw [ha, key, hex, hse, hfi]
  simp only [own_b_bb]
set_option maxRecDepth 65536 in
set_option maxHeartbeats 40000000 in
theorem law_w (l : Launch) (Z : State) (a0 : Array Value) (hw : ∀ d ∈ tables_1, d.before a0 Z = true) (hEL : EW Z a0 EL) (h0 : Heap) (z p0 p1 p2 p3 : Int32) (S : Sta Z h0 "java/lang/String" "COMPACT_STRINGS" "Z" (.int z)) (hz : ¬ z = 0) : Ow.PayW l Z EL [] x code maxLocals ret room_1 #[(.int p0), (.int p1), (.int p2), (.int p3)] h0 (fun v h L => v = some (.int 1) ∧ Ow.Eff h0 h [] L) := by
  refine Ow.PayW.of (Ls := #[.val (.int p0), .val (.int p1), .val (.int p2), .val (.int p3), .unset, .unset, .unset, .unset, .unset, .unset, .unset]) (plainFor_of_name pn3) (fun m => by first | rfl | (simp [entryFrame, mkF, argsToLocals, Value.category, maxLocals]; done)) ?_
  intro p e s m below meth c T vm0 hx hby hml hown hnm hme hret hlk X eT D hsf
  have F := Ow.Eff.refl h0 []
  obtain ⟨n, hn6, hlen⟩ := own_len7 p0
  have hy6 : (7 : Int32) ≠ 0 := by decide
  refine Ow.iloadN X hx (pc := 0) (hb hby at_0) rfl ?_
  refine Ow.ldcI X hx (pc := 1) (2147483647) (hb hby at_1) hown (mvT D.hZ (ww hw 0 rfl)) ?_
  refine Ow.iand X hx (pc := 3) (hb hby at_3) ?_
  refine Ow.bipush X hx (pc := 4) (7) (hb hby at_4) (by decide) ?_
  refine Ow.irem X hx (pc := 6) (hb hby at_6) hy6 ?_
  rw [hlen]
  refine Ow.istore X hx (pc := 7) #[_, _, _, _, _, _, _, _, _, _, _] (hb hby at_7) rfl ?_
  refine Ow.bipush X hx (pc := 9) (6) (hb hby at_9) (by decide) ?_
  refine Ow.newarrayL X hx D.hZ (ww hw 1 rfl) eT 6 (vs := [_, _, _, _, _, _]) rfl (pc := 11) (hb hby at_11) (by decide) (by decide) (by decide) (by decide) (by decide) ?_
  intro T h_cA k_cA cA ha_cA X eT E_cA B_cA
  have l_cA : h0.size ≤ cA := by rw [ha_cA]; exact F.size
  have S_cA := D.safeNew E_cA
  rw [← ha_cA] at S_cA
  have S := S.ext E_cA
  have F := F.ext E_cA
  have D := D.ext E_cA
  refine Ow.dup X hx (pc := 13) (hb hby at_13) rfl ?_
  refine Ow.iconst X hx (pc := 14) (0) (hb hby at_14) (by decide) ?_
  refine Ow.iloadN X hx (pc := 15) (hb hby at_15) rfl ?_
  refine Ow.callSP X hx D.hZ (c_ch l Z a0 hw _ _) rfl rfl eT hown (ww hw 2 rfl) (ww hw 3 rfl) (ww hw 4 rfl) (ww hw 5 rfl) (by decide) pd10 (by rw [hml]; rfl) (argsL := [_]) rfl rfl rfl (pc := 16) (hb hby at_16) rfl rfl (by decide) (by decide) ?_   -- com/example/mortise/mortise/pack/NamespacedPathAfterNamespacePinLaw.ch:(I)C
  intro T X eT
  dsimp only [Option.toList_some, Option.toList_none, List.cons_append, List.nil_append]
  refine Ow.castoreL X hx D.hZ eT B_cA 0 [_, _, _, _, _, _] (by decide) (by decide) rfl rfl (pc := 19) (hb hby at_19) ?_
  intro T h_19 X eT W_19 B_cA
  rw [own_nch p1] at B_cA W_19
  have S := S.wr W_19
  have S_tmp := S_cA
  have S_cA := D.safeWr W_19 S_tmp S_cA
  have D := D.wr W_19 S_tmp
  have F := F.wr W_19 (Or.inr l_cA)
  refine Ow.dup X hx (pc := 20) (hb hby at_20) rfl ?_
  refine Ow.iconst X hx (pc := 21) (1) (hb hby at_21) (by decide) ?_
  refine Ow.iloadN X hx (pc := 22) (hb hby at_22) rfl ?_
  refine Ow.bipush X hx (pc := 23) (16) (hb hby at_23) (by decide) ?_
  refine Ow.iushr X hx (pc := 25) (hb hby at_25) ?_
  refine Ow.callSP X hx D.hZ (c_ch l Z a0 hw _ _) rfl rfl eT hown (ww hw 2 rfl) (ww hw 3 rfl) (ww hw 4 rfl) (ww hw 5 rfl) (by decide) pd10 (by rw [hml]; rfl) (argsL := [_]) rfl rfl rfl (pc := 26) (hb hby at_26) rfl rfl (by decide) (by decide) ?_   -- com/example/mortise/mortise/pack/NamespacedPathAfterNamespacePinLaw.ch:(I)C
  intro T X eT
  dsimp only [Option.toList_some, Option.toList_none, List.cons_append, List.nil_append]
  refine Ow.castoreL X hx D.hZ eT B_cA 1 [_, _, _, _, _, _] (by decide) (by decide) rfl rfl (pc := 29) (hb hby at_29) ?_
  intro T h_29 X eT W_29 B_cA
  rw [own_nch (XT.ushr p1 16)] at B_cA W_29
  have S := S.wr W_29
  have S_tmp := S_cA
  have S_cA := D.safeWr W_29 S_tmp S_cA
  have D := D.wr W_29 S_tmp
  have F := F.wr W_29 (Or.inr l_cA)
  refine Ow.dup X hx (pc := 30) (hb hby at_30) rfl ?_
  refine Ow.iconst X hx (pc := 31) (2) (hb hby at_31) (by decide) ?_
  refine Ow.iloadN X hx (pc := 32) (hb hby at_32) rfl ?_
  refine Ow.callSP X hx D.hZ (c_ch l Z a0 hw _ _) rfl rfl eT hown (ww hw 2 rfl) (ww hw 3 rfl) (ww hw 4 rfl) (ww hw 5 rfl) (by decide) pd10 (by rw [hml]; rfl) (argsL := [_]) rfl rfl rfl (pc := 33) (hb hby at_33) rfl rfl (by decide) (by decide) ?_   -- com/example/mortise/mortise/pack/NamespacedPathAfterNamespacePinLaw.ch:(I)C
  intro T X eT
  dsimp only [Option.toList_some, Option.toList_none, List.cons_append, List.nil_append]
  refine Ow.castoreL X hx D.hZ eT B_cA 2 [_, _, _, _, _, _] (by decide) (by decide) rfl rfl (pc := 36) (hb hby at_36) ?_
  intro T h_36 X eT W_36 B_cA
  rw [own_nch p2] at B_cA W_36
  have S := S.wr W_36
  have S_tmp := S_cA
  have S_cA := D.safeWr W_36 S_tmp S_cA
  have D := D.wr W_36 S_tmp
  have F := F.wr W_36 (Or.inr l_cA)
  refine Ow.dup X hx (pc := 37) (hb hby at_37) rfl ?_
  refine Ow.iconst X hx (pc := 38) (3) (hb hby at_38) (by decide) ?_
  refine Ow.iloadN X hx (pc := 39) (hb hby at_39) rfl ?_
  refine Ow.bipush X hx (pc := 40) (16) (hb hby at_40) (by decide) ?_
  refine Ow.iushr X hx (pc := 42) (hb hby at_42) ?_
  refine Ow.callSP X hx D.hZ (c_ch l Z a0 hw _ _) rfl rfl eT hown (ww hw 2 rfl) (ww hw 3 rfl) (ww hw 4 rfl) (ww hw 5 rfl) (by decide) pd10 (by rw [hml]; rfl) (argsL := [_]) rfl rfl rfl (pc := 43) (hb hby at_43) rfl rfl (by decide) (by decide) ?_   -- com/example/mortise/mortise/pack/NamespacedPathAfterNamespacePinLaw.ch:(I)C
  intro T X eT
  dsimp only [Option.toList_some, Option.toList_none, List.cons_append, List.nil_append]
  refine Ow.castoreL X hx D.hZ eT B_cA 3 [_, _, _, _, _, _] (by decide) (by decide) rfl rfl (pc := 46) (hb hby at_46) ?_
  intro T h_46 X eT W_46 B_cA
  rw [own_nch (XT.ushr p2 16)] at B_cA W_46
  have S := S.wr W_46
  have S_tmp := S_cA
  have S_cA := D.safeWr W_46 S_tmp S_cA
  have D := D.wr W_46 S_tmp
  have F := F.wr W_46 (Or.inr l_cA)
  refine Ow.dup X hx (pc := 47) (hb hby at_47) rfl ?_
  refine Ow.iconst X hx (pc := 48) (4) (hb hby at_48) (by decide) ?_
  refine Ow.iloadN X hx (pc := 49) (hb hby at_49) rfl ?_
  refine Ow.callSP X hx D.hZ (c_ch l Z a0 hw _ _) rfl rfl eT hown (ww hw 2 rfl) (ww hw 3 rfl) (ww hw 4 rfl) (ww hw 5 rfl) (by decide) pd10 (by rw [hml]; rfl) (argsL := [_]) rfl rfl rfl (pc := 50) (hb hby at_50) rfl rfl (by decide) (by decide) ?_   -- com/example/mortise/mortise/pack/NamespacedPathAfterNamespacePinLaw.ch:(I)C
  intro T X eT
  dsimp only [Option.toList_some, Option.toList_none, List.cons_append, List.nil_append]
  refine Ow.castoreL X hx D.hZ eT B_cA 4 [_, _, _, _, _, _] (by decide) (by decide) rfl rfl (pc := 53) (hb hby at_53) ?_
  intro T h_53 X eT W_53 B_cA
  rw [own_nch p3] at B_cA W_53
  have S := S.wr W_53
  have S_tmp := S_cA
  have S_cA := D.safeWr W_53 S_tmp S_cA
  have D := D.wr W_53 S_tmp
  have F := F.wr W_53 (Or.inr l_cA)
  refine Ow.dup X hx (pc := 54) (hb hby at_54) rfl ?_
  refine Ow.iconst X hx (pc := 55) (5) (hb hby at_55) (by decide) ?_
  refine Ow.iloadN X hx (pc := 56) (hb hby at_56) rfl ?_
  refine Ow.bipush X hx (pc := 57) (16) (hb hby at_57) (by decide) ?_
  refine Ow.iushr X hx (pc := 59) (hb hby at_59) ?_
  refine Ow.callSP X hx D.hZ (c_ch l Z a0 hw _ _) rfl rfl eT hown (ww hw 2 rfl) (ww hw 3 rfl) (ww hw 4 rfl) (ww hw 5 rfl) (by decide) pd10 (by rw [hml]; rfl) (argsL := [_]) rfl rfl rfl (pc := 60) (hb hby at_60) rfl rfl (by decide) (by decide) ?_   -- com/example/mortise/mortise/pack/NamespacedPathAfterNamespacePinLaw.ch:(I)C
  intro T X eT
  dsimp only [Option.toList_some, Option.toList_none, List.cons_append, List.nil_append]
  refine Ow.castoreL X hx D.hZ eT B_cA 5 [_, _, _, _, _, _] (by decide) (by decide) rfl rfl (pc := 63) (hb hby at_63) ?_
  intro T h_63 X eT W_63 B_cA
  rw [own_nch (XT.ushr p3 16)] at B_cA W_63
  have S := S.wr W_63
  have S_tmp := S_cA
  have S_cA := D.safeWr W_63 S_tmp S_cA
  have D := D.wr W_63 S_tmp
  have F := F.wr W_63 (Or.inr l_cA)
  refine Ow.astore X hx (pc := 64) #[_, _, _, _, _, _, _, _, _, _, _] (hb hby at_64) rfl rfl ?_
  refine Ow.bipush X hx (pc := 66) (6) (hb hby at_66) (by decide) ?_
  refine Ow.newarrayL X hx D.hZ (ww hw 6 rfl) eT 6 (vs := [_, _, _, _, _, _]) rfl (pc := 68) (hb hby at_68) (by decide) (by decide) (by decide) (by decide) (by decide) ?_
  intro T h_sA k_sA sA ha_sA X eT E_sA B_sA
  have l_sA : h0.size ≤ sA := by rw [ha_sA]; exact F.size
  have ne_cA_sA : cA ≠ sA := by rw [ha_sA]; exact Nat.ne_of_lt B_cA.lt
  have S_sA := D.safeNew E_sA
  rw [← ha_sA] at S_sA
  have S := S.ext E_sA
  have B_cA := B_cA.ext E_sA
  have S_cA := D.safeExt E_sA S_cA
  have F := F.ext E_sA
  have D := D.ext E_sA
  refine Ow.astore X hx (pc := 70) #[_, _, _, _, _, _, _, _, _, _, _] (hb hby at_70) rfl rfl ?_
  obtain ⟨c0, hc0⟩ : ∃ c, c = own_ch p1 := ⟨_, rfl⟩
  obtain ⟨c1, hc1⟩ : ∃ c, c = own_ch (XT.ushr p1 16) := ⟨_, rfl⟩
  obtain ⟨c2, hc2⟩ : ∃ c, c = own_ch p2 := ⟨_, rfl⟩
  obtain ⟨c3, hc3⟩ : ∃ c, c = own_ch (XT.ushr p2 16) := ⟨_, rfl⟩
  obtain ⟨c4, hc4⟩ : ∃ c, c = own_ch p3 := ⟨_, rfl⟩
  obtain ⟨c5, hc5⟩ : ∃ c, c = own_ch (XT.ushr p3 16) := ⟨_, rfl⟩
  rw [← hc0, ← hc1, ← hc2, ← hc3, ← hc4, ← hc5] at B_cA
  have h8 : ∀ c ∈ [c0, c1, c2, c3, c4, c5], ∃ k : Fin 256, c = Int32.ofNat k.val := by
    intro c hc
    simp only [List.mem_cons, List.not_mem_nil, or_false] at hc
    rcases hc with rfl | rfl | rfl | rfl | rfl | rfl
    · rw [hc0]; exact own_ch_8 _
    · rw [hc1]; exact own_ch_8 _
    · rw [hc2]; exact own_ch_8 _
    · rw [hc3]; exact own_ch_8 _
    · rw [hc4]; exact own_ch_8 _
    · rw [hc5]; exact own_ch_8 _
  refine Ow.aload X hx (pc := 72) (hb hby at_72) rfl rfl ?_
  refine Ow.iconst X hx (pc := 74) (0) (hb hby at_74) (by decide) ?_
  refine Ow.joinI X eT (fun v => v = own_b 0 n c0) 95 ?_ (fun J => ?_)
  rotate_left
  · refine Ow.iconst X hx (pc := 75) (0) (hb hby at_75) (by decide) ?_
    refine Ow.iload X hx (pc := 76) (hb hby at_76) rfl ?_
    refine Ow.icmp_ge X hx (pc := 78) (pc' := 94) (hb hby at_78) (by decide) (by decide) (fun h78 => ?_) (fun h78 => ?_)
    · refine Ow.iconst X hx (pc := 94) (0) (hb hby at_94) (by decide) ?_
      exact J _ T X eT (by unfold own_b; rw [if_neg (fun r => h78 ((Ow.n_lt (i := 0) (by omega) (by omega)).mpr r.1))])
    · refine Ow.aload X hx (pc := 81) (hb hby at_81) rfl rfl ?_
      refine Ow.iconst X hx (pc := 83) (0) (hb hby at_83) (by decide) ?_
      refine Ow.caloadL X hx D.hZ eT B_cA 0 (.int c0) (by decide) (by decide) rfl (pc := 84) (hb hby at_84) ?_
      refine Ow.bipush X hx (pc := 85) (47) (hb hby at_85) (by decide) ?_
      refine Ow.icmp_ne X hx (pc := 87) (pc' := 94) (hb hby at_87) (by decide) (by decide) (fun h87 => ?_) (fun h87 => ?_)
      · refine Ow.iconst X hx (pc := 94) (0) (hb hby at_94) (by decide) ?_
        exact J _ T X eT (by unfold own_b; rw [if_neg (fun r => h87 r.2)])
      · refine Ow.iconst X hx (pc := 90) (1) (hb hby at_90) (by decide) ?_
        refine Ow.goto X hx (pc := 91) (pc' := 95) (hb hby at_91) (by decide) (by decide) ?_
        exact J _ T X eT (by unfold own_b; rw [if_pos ⟨(Ow.n_lt (i := 0) (by omega) (by omega)).mp h78, h87⟩])
  rintro _ T X eT rfl
  refine Ow.zastoreL X hx D.hZ eT B_sA 0 [_, _, _, _, _, _] (by decide) (by decide) rfl rfl (pc := 95) (hb hby at_95) ?_
  intro T h_95 X eT W_95 B_sA
  rw [own_b_nar 0 n c0] at B_sA W_95
  have S := S.wr W_95
  have B_cA := B_cA.other W_95 ne_cA_sA
  have S_tmp := S_sA
  have S_cA := D.safeWr W_95 S_tmp S_cA
  have S_sA := D.safeWr W_95 S_tmp S_sA
  have D := D.wr W_95 S_tmp
  have F := F.wr W_95 (Or.inr l_sA)
  refine Ow.aload X hx (pc := 96) (hb hby at_96) rfl rfl ?_
  refine Ow.iconst X hx (pc := 98) (1) (hb hby at_98) (by decide) ?_
  refine Ow.joinI X eT (fun v => v = own_b 1 n c1) 119 ?_ (fun J => ?_)
  rotate_left
  · refine Ow.iconst X hx (pc := 99) (1) (hb hby at_99) (by decide) ?_
    refine Ow.iload X hx (pc := 100) (hb hby at_100) rfl ?_
    refine Ow.icmp_ge X hx (pc := 102) (pc' := 118) (hb hby at_102) (by decide) (by decide) (fun h102 => ?_) (fun h102 => ?_)
    · refine Ow.iconst X hx (pc := 118) (0) (hb hby at_118) (by decide) ?_
      exact J _ T X eT (by unfold own_b; rw [if_neg (fun r => h102 ((Ow.n_lt (i := 1) (by omega) (by omega)).mpr r.1))])
    · refine Ow.aload X hx (pc := 105) (hb hby at_105) rfl rfl ?_
      refine Ow.iconst X hx (pc := 107) (1) (hb hby at_107) (by decide) ?_
      refine Ow.caloadL X hx D.hZ eT B_cA 1 (.int c1) (by decide) (by decide) rfl (pc := 108) (hb hby at_108) ?_
      refine Ow.bipush X hx (pc := 109) (47) (hb hby at_109) (by decide) ?_
      refine Ow.icmp_ne X hx (pc := 111) (pc' := 118) (hb hby at_111) (by decide) (by decide) (fun h111 => ?_) (fun h111 => ?_)
      · refine Ow.iconst X hx (pc := 118) (0) (hb hby at_118) (by decide) ?_
        exact J _ T X eT (by unfold own_b; rw [if_neg (fun r => h111 r.2)])
      · refine Ow.iconst X hx (pc := 114) (1) (hb hby at_114) (by decide) ?_
        refine Ow.goto X hx (pc := 115) (pc' := 119) (hb hby at_115) (by decide) (by decide) ?_
        exact J _ T X eT (by unfold own_b; rw [if_pos ⟨(Ow.n_lt (i := 1) (by omega) (by omega)).mp h102, h111⟩])
  rintro _ T X eT rfl
  refine Ow.zastoreL X hx D.hZ eT B_sA 1 [_, _, _, _, _, _] (by decide) (by decide) rfl rfl (pc := 119) (hb hby at_119) ?_
  intro T h_119 X eT W_119 B_sA
  rw [own_b_nar 1 n c1] at B_sA W_119
  have S := S.wr W_119
  have B_cA := B_cA.other W_119 ne_cA_sA
  have S_tmp := S_sA
  have S_cA := D.safeWr W_119 S_tmp S_cA
  have S_sA := D.safeWr W_119 S_tmp S_sA
  have D := D.wr W_119 S_tmp
  have F := F.wr W_119 (Or.inr l_sA)
  refine Ow.aload X hx (pc := 120) (hb hby at_120) rfl rfl ?_
  refine Ow.iconst X hx (pc := 122) (2) (hb hby at_122) (by decide) ?_
  refine Ow.joinI X eT (fun v => v = own_b 2 n c2) 143 ?_ (fun J => ?_)
  rotate_left
  · refine Ow.iconst X hx (pc := 123) (2) (hb hby at_123) (by decide) ?_
    refine Ow.iload X hx (pc := 124) (hb hby at_124) rfl ?_
    refine Ow.icmp_ge X hx (pc := 126) (pc' := 142) (hb hby at_126) (by decide) (by decide) (fun h126 => ?_) (fun h126 => ?_)
    · refine Ow.iconst X hx (pc := 142) (0) (hb hby at_142) (by decide) ?_
      exact J _ T X eT (by unfold own_b; rw [if_neg (fun r => h126 ((Ow.n_lt (i := 2) (by omega) (by omega)).mpr r.1))])
    · refine Ow.aload X hx (pc := 129) (hb hby at_129) rfl rfl ?_
      refine Ow.iconst X hx (pc := 131) (2) (hb hby at_131) (by decide) ?_
      refine Ow.caloadL X hx D.hZ eT B_cA 2 (.int c2) (by decide) (by decide) rfl (pc := 132) (hb hby at_132) ?_
      refine Ow.bipush X hx (pc := 133) (47) (hb hby at_133) (by decide) ?_
      refine Ow.icmp_ne X hx (pc := 135) (pc' := 142) (hb hby at_135) (by decide) (by decide) (fun h135 => ?_) (fun h135 => ?_)
      · refine Ow.iconst X hx (pc := 142) (0) (hb hby at_142) (by decide) ?_
        exact J _ T X eT (by unfold own_b; rw [if_neg (fun r => h135 r.2)])
      · refine Ow.iconst X hx (pc := 138) (1) (hb hby at_138) (by decide) ?_
        refine Ow.goto X hx (pc := 139) (pc' := 143) (hb hby at_139) (by decide) (by decide) ?_
        exact J _ T X eT (by unfold own_b; rw [if_pos ⟨(Ow.n_lt (i := 2) (by omega) (by omega)).mp h126, h135⟩])
  rintro _ T X eT rfl
  refine Ow.zastoreL X hx D.hZ eT B_sA 2 [_, _, _, _, _, _] (by decide) (by decide) rfl rfl (pc := 143) (hb hby at_143) ?_
  intro T h_143 X eT W_143 B_sA
  rw [own_b_nar 2 n c2] at B_sA W_143
  have S := S.wr W_143
  have B_cA := B_cA.other W_143 ne_cA_sA
  have S_tmp := S_sA
  have S_cA := D.safeWr W_143 S_tmp S_cA
  have S_sA := D.safeWr W_143 S_tmp S_sA
  have D := D.wr W_143 S_tmp
  have F := F.wr W_143 (Or.inr l_sA)
  refine Ow.aload X hx (pc := 144) (hb hby at_144) rfl rfl ?_
  refine Ow.iconst X hx (pc := 146) (3) (hb hby at_146) (by decide) ?_
  refine Ow.joinI X eT (fun v => v = own_b 3 n c3) 167 ?_ (fun J => ?_)
  rotate_left
  · refine Ow.iconst X hx (pc := 147) (3) (hb hby at_147) (by decide) ?_
    refine Ow.iload X hx (pc := 148) (hb hby at_148) rfl ?_
    refine Ow.icmp_ge X hx (pc := 150) (pc' := 166) (hb hby at_150) (by decide) (by decide) (fun h150 => ?_) (fun h150 => ?_)
    · refine Ow.iconst X hx (pc := 166) (0) (hb hby at_166) (by decide) ?_
      exact J _ T X eT (by unfold own_b; rw [if_neg (fun r => h150 ((Ow.n_lt (i := 3) (by omega) (by omega)).mpr r.1))])
    · refine Ow.aload X hx (pc := 153) (hb hby at_153) rfl rfl ?_
      refine Ow.iconst X hx (pc := 155) (3) (hb hby at_155) (by decide) ?_
      refine Ow.caloadL X hx D.hZ eT B_cA 3 (.int c3) (by decide) (by decide) rfl (pc := 156) (hb hby at_156) ?_
      refine Ow.bipush X hx (pc := 157) (47) (hb hby at_157) (by decide) ?_
      refine Ow.icmp_ne X hx (pc := 159) (pc' := 166) (hb hby at_159) (by decide) (by decide) (fun h159 => ?_) (fun h159 => ?_)
      · refine Ow.iconst X hx (pc := 166) (0) (hb hby at_166) (by decide) ?_
        exact J _ T X eT (by unfold own_b; rw [if_neg (fun r => h159 r.2)])
      · refine Ow.iconst X hx (pc := 162) (1) (hb hby at_162) (by decide) ?_
        refine Ow.goto X hx (pc := 163) (pc' := 167) (hb hby at_163) (by decide) (by decide) ?_
        exact J _ T X eT (by unfold own_b; rw [if_pos ⟨(Ow.n_lt (i := 3) (by omega) (by omega)).mp h150, h159⟩])
  rintro _ T X eT rfl
  refine Ow.zastoreL X hx D.hZ eT B_sA 3 [_, _, _, _, _, _] (by decide) (by decide) rfl rfl (pc := 167) (hb hby at_167) ?_
  intro T h_167 X eT W_167 B_sA
  rw [own_b_nar 3 n c3] at B_sA W_167
  have S := S.wr W_167
  have B_cA := B_cA.other W_167 ne_cA_sA
  have S_tmp := S_sA
  have S_cA := D.safeWr W_167 S_tmp S_cA
  have S_sA := D.safeWr W_167 S_tmp S_sA
  have D := D.wr W_167 S_tmp
  have F := F.wr W_167 (Or.inr l_sA)
  refine Ow.aload X hx (pc := 168) (hb hby at_168) rfl rfl ?_
  refine Ow.iconst X hx (pc := 170) (4) (hb hby at_170) (by decide) ?_
  refine Ow.joinI X eT (fun v => v = own_b 4 n c4) 191 ?_ (fun J => ?_)
  rotate_left
  · refine Ow.iconst X hx (pc := 171) (4) (hb hby at_171) (by decide) ?_
    refine Ow.iload X hx (pc := 172) (hb hby at_172) rfl ?_
    refine Ow.icmp_ge X hx (pc := 174) (pc' := 190) (hb hby at_174) (by decide) (by decide) (fun h174 => ?_) (fun h174 => ?_)
    · refine Ow.iconst X hx (pc := 190) (0) (hb hby at_190) (by decide) ?_
      exact J _ T X eT (by unfold own_b; rw [if_neg (fun r => h174 ((Ow.n_lt (i := 4) (by omega) (by omega)).mpr r.1))])
    · refine Ow.aload X hx (pc := 177) (hb hby at_177) rfl rfl ?_
      refine Ow.iconst X hx (pc := 179) (4) (hb hby at_179) (by decide) ?_
      refine Ow.caloadL X hx D.hZ eT B_cA 4 (.int c4) (by decide) (by decide) rfl (pc := 180) (hb hby at_180) ?_
      refine Ow.bipush X hx (pc := 181) (47) (hb hby at_181) (by decide) ?_
      refine Ow.icmp_ne X hx (pc := 183) (pc' := 190) (hb hby at_183) (by decide) (by decide) (fun h183 => ?_) (fun h183 => ?_)
      · refine Ow.iconst X hx (pc := 190) (0) (hb hby at_190) (by decide) ?_
        exact J _ T X eT (by unfold own_b; rw [if_neg (fun r => h183 r.2)])
      · refine Ow.iconst X hx (pc := 186) (1) (hb hby at_186) (by decide) ?_
        refine Ow.goto X hx (pc := 187) (pc' := 191) (hb hby at_187) (by decide) (by decide) ?_
        exact J _ T X eT (by unfold own_b; rw [if_pos ⟨(Ow.n_lt (i := 4) (by omega) (by omega)).mp h174, h183⟩])
  rintro _ T X eT rfl
  refine Ow.zastoreL X hx D.hZ eT B_sA 4 [_, _, _, _, _, _] (by decide) (by decide) rfl rfl (pc := 191) (hb hby at_191) ?_
  intro T h_191 X eT W_191 B_sA
  rw [own_b_nar 4 n c4] at B_sA W_191
  have S := S.wr W_191
  have B_cA := B_cA.other W_191 ne_cA_sA
  have S_tmp := S_sA
  have S_cA := D.safeWr W_191 S_tmp S_cA
  have S_sA := D.safeWr W_191 S_tmp S_sA
  have D := D.wr W_191 S_tmp
  have F := F.wr W_191 (Or.inr l_sA)
  refine Ow.aload X hx (pc := 192) (hb hby at_192) rfl rfl ?_
  refine Ow.iconst X hx (pc := 194) (5) (hb hby at_194) (by decide) ?_
  refine Ow.joinI X eT (fun v => v = own_b 5 n c5) 215 ?_ (fun J => ?_)
  rotate_left
  · refine Ow.iconst X hx (pc := 195) (5) (hb hby at_195) (by decide) ?_
    refine Ow.iload X hx (pc := 196) (hb hby at_196) rfl ?_
    refine Ow.icmp_ge X hx (pc := 198) (pc' := 214) (hb hby at_198) (by decide) (by decide) (fun h198 => ?_) (fun h198 => ?_)
    · refine Ow.iconst X hx (pc := 214) (0) (hb hby at_214) (by decide) ?_
      exact J _ T X eT (by unfold own_b; rw [if_neg (fun r => h198 ((Ow.n_lt (i := 5) (by omega) (by omega)).mpr r.1))])
    · refine Ow.aload X hx (pc := 201) (hb hby at_201) rfl rfl ?_
      refine Ow.iconst X hx (pc := 203) (5) (hb hby at_203) (by decide) ?_
      refine Ow.caloadL X hx D.hZ eT B_cA 5 (.int c5) (by decide) (by decide) rfl (pc := 204) (hb hby at_204) ?_
      refine Ow.bipush X hx (pc := 205) (47) (hb hby at_205) (by decide) ?_
      refine Ow.icmp_ne X hx (pc := 207) (pc' := 214) (hb hby at_207) (by decide) (by decide) (fun h207 => ?_) (fun h207 => ?_)
      · refine Ow.iconst X hx (pc := 214) (0) (hb hby at_214) (by decide) ?_
        exact J _ T X eT (by unfold own_b; rw [if_neg (fun r => h207 r.2)])
      · refine Ow.iconst X hx (pc := 210) (1) (hb hby at_210) (by decide) ?_
        refine Ow.goto X hx (pc := 211) (pc' := 215) (hb hby at_211) (by decide) (by decide) ?_
        exact J _ T X eT (by unfold own_b; rw [if_pos ⟨(Ow.n_lt (i := 5) (by omega) (by omega)).mp h198, h207⟩])
  rintro _ T X eT rfl
  refine Ow.zastoreL X hx D.hZ eT B_sA 5 [_, _, _, _, _, _] (by decide) (by decide) rfl rfl (pc := 215) (hb hby at_215) ?_
  intro T h_215 X eT W_215 B_sA
  rw [own_b_nar 5 n c5] at B_sA W_215
  have S := S.wr W_215
  have B_cA := B_cA.other W_215 ne_cA_sA
  have S_tmp := S_sA
  have S_cA := D.safeWr W_215 S_tmp S_cA
  have S_sA := D.safeWr W_215 S_tmp S_sA
  have D := D.wr W_215 S_tmp
  have F := F.wr W_215 (Or.inr l_sA)
  refine Ow.iload X hx (pc := 216) (hb hby at_216) rfl ?_
  refine Ow.aload X hx (pc := 218) (hb hby at_218) rfl rfl ?_
  refine Ow.callSW X hx (c_make l Z a0 hw hEL _ z n cA _ c0 c1 c2 c3 c4 c5 hn6 S hz B_cA h8) eT D hEL (fun _ q => nomatch q) hown (ww hw 7 rfl) (ww hw 8 rfl) (ww hw 4 rfl) (ww hw 9 rfl) (by decide) pd11 (by rw [hml]; rfl) (argsL := [_, _]) rfl rfl rfl (pc := 220) (hb hby at_220) rfl rfl (by decide) (by decide) ?_
  rintro _ vm1 T L X ⟨xs, t, kb, rfl, F2, St⟩ D hown C1
  dsimp only [Option.toList_some, Option.toList_none, List.cons_append, List.nil_append]
  have E2 := Ow.Keep.ext0 F2.1
  have F := F.call F2 (fun _ q => nomatch q)
  have B_sA := B_sA.ext E2
  have S := S.ext E2
  have eT : T.heap = T.heap := rfl
  obtain ⟨hh, ehh⟩ : ∃ q, q = T.heap := ⟨_, rfl⟩
  rw [← ehh] at B_sA S St F D
  have eT : T.heap = hh := ehh.symm
  refine Ow.astore X hx (pc := 223) #[_, _, _, _, _, _, _, _, _, _, _] (hb hby at_223) rfl rfl ?_
  refine Ow.aload X hx (pc := 225) (hb hby at_225) rfl rfl ?_
  refine Ow.iconst X hx (pc := 227) (0) (hb hby at_227) (by decide) ?_
  refine Ow.callSP X hx D.hZ (c_from l Z a0 hw hh sA _ _ _ _ _ _ _ _ B_sA) rfl rfl eT hown (ww hw 31 rfl) (ww hw 32 rfl) (ww hw 4 rfl) (ww hw 33 rfl) (by decide) pd12 (by rw [hml]; rfl) (argsL := [_, _]) rfl rfl rfl (pc := 228) (hb hby at_228) rfl rfl (by decide) (by decide) ?_   -- com/example/mortise/mortise/pack/NamespacedPathAfterNamespacePinLaw.from:([ZI)I
  intro T X eT
  dsimp only [Option.toList_some, Option.toList_none, List.cons_append, List.nil_append]
  refine Ow.istore X hx (pc := 231) #[_, _, _, _, _, _, _, _, _, _, _] (hb hby at_231) rfl ?_
  obtain ⟨fi, hfi⟩ : ∃ q, q = own_from (own_b 0 n c0) (own_b 1 n c1) (own_b 2 n c2) (own_b 3 n c3) (own_b 4 n c4) (own_b 5 n c5) 0 := ⟨_, rfl⟩
  rw [← hfi]
  refine Ow.joinI X eT (fun v => v = if fi < 0 then -1 else own_from (own_b 0 n c0) (own_b 1 n c1) (own_b 2 n c2) (own_b 3 n c3) (own_b 4 n c4) (own_b 5 n c5) (fi + 1)) 251 ?_ (fun J => ?_)
  rotate_left
  · refine Ow.iload X hx (pc := 233) (hb hby at_233) rfl ?_
    refine Ow.if_ge X hx (pc := 235) (pc' := 242) (hb hby at_235) (by decide) (by decide) (fun h235 => ?_) (fun h235 => ?_)
    · refine Ow.aload X hx (pc := 242) (hb hby at_242) rfl rfl ?_
      refine Ow.iload X hx (pc := 244) (hb hby at_244) rfl ?_
      refine Ow.iconst X hx (pc := 246) (1) (hb hby at_246) (by decide) ?_
      refine Ow.iadd X hx (pc := 247) (hb hby at_247) ?_
      refine Ow.callSP X hx D.hZ (c_from l Z a0 hw hh sA _ _ _ _ _ _ _ _ B_sA) rfl rfl eT hown (ww hw 31 rfl) (ww hw 32 rfl) (ww hw 4 rfl) (ww hw 33 rfl) (by decide) pd12 (by rw [hml]; rfl) (argsL := [_, _]) rfl rfl rfl (pc := 248) (hb hby at_248) rfl rfl (by decide) (by decide) ?_   -- com/example/mortise/mortise/pack/NamespacedPathAfterNamespacePinLaw.from:([ZI)I
      intro T X eT
      dsimp only [Option.toList_some, Option.toList_none, List.cons_append, List.nil_append]
      exact J _ T X eT (by rw [if_neg h235])
    · refine Ow.iconst X hx (pc := 238) (-1) (hb hby at_238) (by decide) ?_
      refine Ow.goto X hx (pc := 239) (pc' := 251) (hb hby at_239) (by decide) (by decide) ?_
      exact J _ T X eT (by rw [if_pos h235])
  rintro se T X eT hse
  refine Ow.istore X hx (pc := 251) #[_, _, _, _, _, _, _, _, _, _, _] (hb hby at_251) rfl ?_
  refine Ow.joinI X eT (fun v => v = if ¬ fi < 1 ∧ ¬ se < fi + 2 then se else -1) 274 ?_ (fun J => ?_)
  rotate_left
  · refine Ow.iload X hx (pc := 253) (hb hby at_253) rfl ?_
    refine Ow.iconst X hx (pc := 255) (1) (hb hby at_255) (by decide) ?_
    refine Ow.icmp_lt X hx (pc := 256) (pc' := 273) (hb hby at_256) (by decide) (by decide) (fun h256 => ?_) (fun h256 => ?_)
    · refine Ow.iconst X hx (pc := 273) (-1) (hb hby at_273) (by decide) ?_
      exact J _ T X eT (by rw [if_neg (fun r => r.1 h256)])
    · refine Ow.iload X hx (pc := 259) (hb hby at_259) rfl ?_
      refine Ow.iload X hx (pc := 261) (hb hby at_261) rfl ?_
      refine Ow.iconst X hx (pc := 263) (2) (hb hby at_263) (by decide) ?_
      refine Ow.iadd X hx (pc := 264) (hb hby at_264) ?_
      refine Ow.icmp_lt X hx (pc := 265) (pc' := 273) (hb hby at_265) (by decide) (by decide) (fun h265 => ?_) (fun h265 => ?_)
      · refine Ow.iconst X hx (pc := 273) (-1) (hb hby at_273) (by decide) ?_
        exact J _ T X eT (by rw [if_neg (fun r => r.2 h265)])
      · refine Ow.iload X hx (pc := 268) (hb hby at_268) rfl ?_
        refine Ow.goto X hx (pc := 270) (pc' := 274) (hb hby at_270) (by decide) (by decide) ?_
        exact J _ T X eT (by rw [if_pos ⟨h256, h265⟩])
  rintro ex T X eT hex
  refine Ow.istore X hx (pc := 274) #[_, _, _, _, _, _, _, _, _, _, _] (hb hby at_274) rfl ?_
  refine Ow.aload X hx (pc := 276) (hb hby at_276) rfl rfl ?_
  refine Ow.callSP X hx D.hZ (c_after l Z a0 hw hh z xs t kb _ S hz St (by simp; omega)) rfl rfl eT hown (ww hw 34 rfl) (ww hw 35 rfl) (ww hw 36 rfl) (ww hw 37 rfl) (by decide) pd13 (by rw [hml]; rfl) (argsL := [_]) rfl rfl rfl (pc := 278) (hb hby at_278) rfl rfl (by decide) (by decide) ?_   -- com/example/mortise/mortise/pack/NamespacedPath.afterNamespace:(Ljava/lang/String;)I
  intro T X eT
  dsimp only [Option.toList_some, Option.toList_none, List.cons_append, List.nil_append]
  refine Ow.iload X hx (pc := 281) (hb hby at_281) rfl ?_
  refine Ow.icmp_ne X hx (pc := 283) (pc' := 290) (hb hby at_283) (by decide) (by decide) (fun q => absurd (own_plain n c0 c1 c2 c3 c4 c5 hn6 h8 fi se ex hfi hse hex) q) (fun h283 => ?_)
  refine Ow.iconst X hx (pc := 286) (1) (hb hby at_286) (by decide) ?_
  refine Ow.goto X hx (pc := 287) (pc' := 291) (hb hby at_287) (by decide) (by decide) ?_
  exact Ow.nreturnW X hx eT D hEL hlk hret (Or.inl rfl) (hb hby at_291) ⟨rfl, by rw [eT]; exact F⟩ (by decide) (by decide)
set_option maxRecDepth 65536 in
set_option maxHeartbeats 40000000 in
theorem comes_1 {Post : Tables → Env → Array Value → State → Outcome → State → Prop} (hpost : ∀ tb e args s v u, (limb_1_1.after args s (.returned v) u = true ∧ limb_1_2.after args s (.returned v) u = true ∧ True) → ReturnedEndW s (.returned v) u (Jvm.fieldLocs frame_1_writes args s ++ Jvm.arrayLocs frame_1_arrays args s ++ Jvm.staticLocs frame_1_statics s) 24 1152 → Post tb e args s (.returned v) u) :
    ArmFor flags0 classFile x code maxLocals ret World_1 tables_1 room_1 Calls_1 rest_1 Pre_1 Post := by
  intro l hfl _ _ p e ha hc hk s m args below hf hA hF happ hP
  obtain ⟨hcalls, hrest, hpre⟩ := hP
  obtain ⟨-, -, -, hnamed, -, -, -, hat⟩ := (Spec.applies_iff hf).mp happ
  obtain ⟨hg, hnar⟩ := and_e (Cond.before_iff.mp (show (Jvm.Cond.and given_1 narrow_1).before args s = true from hpre))
  obtain ⟨g0, g1⟩ := and_e hg
  obtain ⟨q0, g2⟩ := and_e g1
  obtain ⟨q1, g3⟩ := and_e g2
  obtain ⟨q2, g4⟩ := and_e g3
  have q3 := g4
  obtain ⟨w0, w1, w2, w3, rfl⟩ : ∃ w0 w1 w2 w3 : Value, args = #[w0, w1, w2, w3] := by
    have hs : args.size = 4 := by simpa [Cond.value, given_1] using g0
    obtain ⟨L⟩ := args
    match L, hs with
    | [w0, w1, w2, w3], _ => exact ⟨w0, w1, w2, w3, rfl⟩
  have hw := fun d (hd : d ∈ tables_1) => atoms_spec (ws := Jvm.Cond.code x code maxLocals ret :: tables_1) hat d (List.mem_cons_of_mem _ hd)
  obtain ⟨hsets, hown0⟩ := atoms_of _ (rest_1_c_eq ▸ (show rest_1_c.before _ s = true from hrest))
  have hfit : Fit s := fun {y c} hc i hi => by
    obtain ⟨ha, rfl⟩ := Array.getElem?_eq_some_iff.mp hc
    have q := List.all_eq_true.mp ((Array.all_eq_true_iff_forall_mem.mp hF) _ (Array.getElem_mem ha)) i (List.mem_range.mpr hi)
    simpa [Array.getElem?_eq_getElem hi] using q
  obtain ⟨i0, e0⟩ := is_v q0
  obtain rfl : w0 = (.int i0) := Option.some.inj e0
  obtain ⟨i1, e1⟩ := is_v q1
  obtain rfl : w1 = (.int i1) := Option.some.inj e1
  obtain ⟨i2, e2⟩ := is_v q2
  obtain rfl : w2 = (.int i2) := Option.some.inj e2
  obtain ⟨i3, e3⟩ := is_v q3
  obtain rfl : w3 = (.int i3) := Option.some.inj e3
  have n5 := not_v (Cond.before_iff.mp (hsets _ (List.mem_of_getElem? (i := 2) rfl)))
  obtain ⟨z, ez⟩ := is_v (Cond.before_iff.mp (hsets _ (List.mem_of_getElem? (i := 1) rfl)))
  have S : Sta s s.heap "java/lang/String" "COMPACT_STRINGS" "Z" (.int z) := Sta.start ez (Or.inl (hsets _ (List.mem_of_getElem? (i := 0) rfl)))
  have hz : ¬ (z = (0 : Int32)) := gotF (Cond.eq_ints ez (Term.int_eval (0))) n5
  have hEL : EW s _ EL := EW.cons (ww hw 23 rfl) (by decide) (EW.nil)
  have H : CHv s EL s.vm s.heap := CHv.start hEL hcalls.1 (hsets _ (List.mem_of_getElem? (i := 2) rfl)) (ww hw 24 rfl) (ww hw 11 rfl)
  obtain ⟨n, o, h1, h2, h3, _, L, rfl, ⟨rfl, F⟩, -, hq⟩ := law_w l s _ hw hEL s.heap z i0 i1 i2 i3 S hz tables_1 p e ha hc hk s m _ below hf ((Spec.applies_iff_loose hf).mp happ).1 ⟨rfl, State.Warmed39.refl s, rfl, H, fun _ q => nomatch q⟩ trivial
  refine ⟨n, _, h1, h2, h3, hpost _ _ _ _ _ _ ⟨Cond.after_iff.mpr rfl, Cond.after_iff.mpr (eq_i res_at (Term.int_eval (1)) rfl), trivial⟩ ⟨hq.1, hq.2.1, hq.2.2.1, (hq.2.2.2.sift fun y hy => Or.inr (F.fr y hy)).mono (by decide) (by decide)⟩⟩
theorem main_1_1 : Claimed_1_1 := comes_1 fun _ _ _ _ _ _ h hF => ⟨h.1, hF⟩
theorem main_1_2 : Claimed_1_2 := comes_1 fun _ _ _ _ _ _ h hF => ⟨h.2.1, hF⟩
end Jvm.Pilot.@@N@@
namespace Jvm.Pilot.@@N@@
open Jvm Jvm.ClassFile Sem Op Lib Jvm.Free Jvm.Stand Jvm.Pilot.@@N@@.Jvm.D
/-! MADE BY PROGRAM (witnessworld.py) out of the Statement's table words and the real class files: 24 classes; the members and pool entries that the words name. The judged class is class 1, her method 1. -/
namespace start1
open Jvm.ClassFile
def u (s : String) : CpInfo := .utf8 (stringToUtf16 s)
/-- a pool by its gaps: so many unusable entries, then the entry; so many at the end -/
def gap : Nat → List CpInfo → List CpInfo
  | 0, r => r
  | n + 1, r => .unusable :: gap n r
def poolList (es : List (Nat × CpInfo)) (last : Nat) : List CpInfo := es.foldr (fun e r => gap e.1 (e.2 :: r)) (gap last [])
def pool (es : List (Nat × CpInfo)) (last : Nat) : Array CpInfo := ⟨poolList es last⟩
def fileOf (pool : Array CpInfo) (this : Nat) (attrs : Array Attribute := #[]) (ms : Array MethodInfo := #[]) (fl : Nat := 33) (sup : Nat := 0) (ifs : Array Nat := #[]) (fds : Array FieldInfo := #[]) : ClassFile where
  minorVersion := 0
  majorVersion := 65
  constantPool := pool
  accessFlags := fl
  thisClass := this
  superClass := sup
  interfaces := ifs
  fields := fds
  methods := ms
  attributes := attrs
def plain (name : String) (sup : Option ClassId) : Class where
  name := name
  kind := .ordinary
  loader := none
  accessFlags := 33
  super := sup
  interfaces := #[]
  cf := none
  fields := #[]
  methods := #[]
  instanceTypes := #[]
  staticTypes := #[]
  resolved := #[]
  callSites := []
  init := .initialized
  statics := none
  mirror := none

def pool0 : Array CpInfo := pool [(5, u "<init>"), (0, u "()V"), (1, .class_ 10), (1, u "java/lang/Object")] 113

def k0c0 : Code := { maxStack := 0, maxLocals := 1, code := object_method_1_code, exceptionTable := #[], attributes := #[] }
def k0m0 : Method := { name := "<init>", desc := "()V", sig := { parameters := [], returnType := none }, accessFlags := 1, code := some k0c0 }
/-- java/lang/Object -/
def k0 : Class := { plain "java/lang/Object" none with
  accessFlags := 33
  interfaces := #[]
  cf := some (fileOf pool0 8 #[] #[{ accessFlags := 1, nameIndex := 5, descriptorIndex := 6, attributes := #[] }] 33 0 #[] #[])
  fields := #[]
  methods := #[k0m0]
  instanceTypes := #[]
  staticTypes := #[]
  resolved := Array.replicate 124 none
  statics := none }

def pool1 : Array CpInfo := pool [(2, .class_ 4), (1, u "java/lang/Object"), (0, u "<init>"), (0, u "()V"), (0, .integer 2147483647), (0, .methodref 9 10), (0, .class_ 11), (0, .nameAndType 12 13), (0, u "com/example/mortise/mortise/pack/NamespacedPathAfterNamespacePinLaw"), (0, u "ch"), (0, u "(I)C"), (0, .methodref 9 15), (0, .nameAndType 16 17), (0, u "make"), (0, u "(I[C)Ljava/lang/String;"), (0, .methodref 9 19), (0, .nameAndType 20 21), (0, u "from"), (0, u "([ZI)I"), (0, .methodref 23 24), (0, .class_ 25), (0, .nameAndType 26 27), (0, u "com/example/mortise/mortise/pack/NamespacedPath"), (0, u "afterNamespace"), (0, u "(Ljava/lang/String;)I"), (0, .class_ 29), (0, u "java/lang/String"), (0, .methodref 28 31), (0, .nameAndType 5 32), (0, u "([C)V"), (2, u "law"), (0, u "(IIII)Z")] 7

def k1m0 : Method := { name := "<init>", desc := "()V", sig := { parameters := [], returnType := none }, accessFlags := 1, code := none }
def k1c1 : Code := { maxStack := 5, maxLocals := 11, code := code, exceptionTable := #[], attributes := #[] }
def k1m1 : Method := { name := "law", desc := "(IIII)Z", sig := { parameters := [.int, .int, .int, .int], returnType := some .boolean }, accessFlags := 9, code := some k1c1 }
def k1c2 : Code := { maxStack := 2, maxLocals := 1, code := method_3_code, exceptionTable := #[], attributes := #[] }
def k1m2 : Method := { name := "ch", desc := "(I)C", sig := { parameters := [.int], returnType := some .char }, accessFlags := 10, code := some k1c2 }
def k1c3 : Code := { maxStack := 2, maxLocals := 2, code := method_4_code, exceptionTable := #[], attributes := #[] }
def k1m3 : Method := { name := "from", desc := "([ZI)I", sig := { parameters := [(.array .boolean), .int], returnType := some .int }, accessFlags := 10, code := some k1c3 }
def k1c4 : Code := { maxStack := 7, maxLocals := 2, code := method_5_code, exceptionTable := #[], attributes := #[] }
def k1m4 : Method := { name := "make", desc := "(I[C)Ljava/lang/String;", sig := { parameters := [.int, (.array .char)], returnType := some (.object "java/lang/String") }, accessFlags := 10, code := some k1c4 }
/-- com/example/mortise/mortise/pack/NamespacedPathAfterNamespacePinLaw -/
def k1 : Class := { plain "com/example/mortise/mortise/pack/NamespacedPathAfterNamespacePinLaw" (some 0) with
  accessFlags := 49
  interfaces := #[]
  cf := some (fileOf pool1 9 #[] #[{ accessFlags := 1, nameIndex := 5, descriptorIndex := 6, attributes := #[] }, { accessFlags := 9, nameIndex := 35, descriptorIndex := 36, attributes := #[] }, { accessFlags := 10, nameIndex := 12, descriptorIndex := 13, attributes := #[] }, { accessFlags := 10, nameIndex := 20, descriptorIndex := 21, attributes := #[] }, { accessFlags := 10, nameIndex := 16, descriptorIndex := 17, attributes := #[] }] 49 2 #[] #[])
  fields := #[]
  methods := #[k1m0, k1m1, k1m2, k1m3, k1m4]
  instanceTypes := #[]
  staticTypes := #[]
  resolved := Array.replicate 44 none
  statics := none }

def pool2 : Array CpInfo := pool [(1, .class_ 2), (0, u "java/io/Serializable"), (0, .class_ 4), (0, u "java/lang/Object")] 2

/-- java/io/Serializable -/
def k2 : Class := { plain "java/io/Serializable" (some 0) with
  accessFlags := 1537
  interfaces := #[]
  cf := some (fileOf pool2 1 #[] #[] 1537 3 #[] #[])
  fields := #[]
  methods := #[]
  instanceTypes := #[]
  staticTypes := #[]
  resolved := Array.replicate 7 none
  statics := none }

def pool3 : Array CpInfo := pool [(1, .class_ 2), (0, u "java/lang/Comparable"), (0, .class_ 4), (0, u "java/lang/Object")] 7

/-- java/lang/Comparable -/
def k3 : Class := { plain "java/lang/Comparable" (some 0) with
  accessFlags := 1537
  interfaces := #[]
  cf := some (fileOf pool3 1 #[] #[] 1537 3 #[] #[])
  fields := #[]
  methods := #[]
  instanceTypes := #[]
  staticTypes := #[]
  resolved := Array.replicate 12 none
  statics := none }

def pool4 : Array CpInfo := pool [(2, .class_ 4), (1, u "java/lang/CharSequence"), (42, .class_ 48), (0, u "java/lang/CharSequence$1CodePointIterator"), (10, .class_ 60), (0, u "java/lang/CharSequence$1CharIterator"), (5, .class_ 67), (0, u "java/lang/Object")] 63

/-- java/lang/CharSequence -/
def k4 : Class := { plain "java/lang/CharSequence" (some 0) with
  accessFlags := 1537
  interfaces := #[]
  cf := some (fileOf pool4 2 #[.nestMembers #[47, 59]] #[] 1537 66 #[] #[])
  fields := #[]
  methods := #[]
  instanceTypes := #[]
  staticTypes := #[]
  resolved := Array.replicate 131 none
  statics := none }

def pool5 : Array CpInfo := pool [(1, .class_ 2), (0, u "java/lang/constant/Constable"), (0, .class_ 4), (0, u "java/lang/Object")] 6

/-- java/lang/constant/Constable -/
def k5 : Class := { plain "java/lang/constant/Constable" (some 0) with
  accessFlags := 1537
  interfaces := #[]
  cf := some (fileOf pool5 1 #[] #[] 1537 3 #[] #[])
  fields := #[]
  methods := #[]
  instanceTypes := #[]
  staticTypes := #[]
  resolved := Array.replicate 11 none
  statics := none }

def pool6 : Array CpInfo := pool [(1, .class_ 2), (0, u "java/lang/constant/ConstantDesc"), (0, .class_ 4), (0, u "java/lang/Object")] 32

/-- java/lang/constant/ConstantDesc -/
def k6 : Class := { plain "java/lang/constant/ConstantDesc" (some 0) with
  accessFlags := 1537
  interfaces := #[]
  cf := some (fileOf pool6 1 #[] #[] 1537 3 #[] #[])
  fields := #[]
  methods := #[]
  instanceTypes := #[]
  staticTypes := #[]
  resolved := Array.replicate 37 none
  statics := none }

def pool7 : Array CpInfo := pool [(1, .methodref 2 3), (0, .class_ 4), (0, .nameAndType 5 6), (0, u "java/lang/Object"), (0, u "<init>"), (0, u "()V"), (0, .string 8), (0, u ""), (0, .fieldref 10 11), (0, .class_ 12), (0, .nameAndType 13 14), (0, u "java/lang/String"), (0, u "value"), (0, u "[B"), (0, .fieldref 10 16), (0, .nameAndType 17 18), (0, u "coder"), (0, u "B"), (2, u "hash"), (0, u "I"), (2, u "hashIsZero"), (0, u "Z"), (0, .methodref 10 28), (0, .nameAndType 5 29), (0, u "([CIILjava/lang/Void;)V"), (8, .fieldref 10 39), (0, .nameAndType 40 26), (0, u "COMPACT_STRINGS"), (1, .class_ 44), (1, u "java/lang/StringUTF16"), (0, u "compress"), (1, .methodref 42 48), (0, .nameAndType 49 50), (0, u "coderFromArrayLen"), (0, u "([BI)B"), (56, .class_ 109), (1, u "java/lang/StringLatin1"), (32, u "()Z"), (34, .methodref 42 178), (0, .nameAndType 45 179), (0, u "([CII)[B"), (154, u "()I"), (0, .methodref 10 336), (0, .nameAndType 17 337), (0, u "()B"), (154, .methodref 10 493), (0, .nameAndType 494 142), (0, u "isLatin1"), (10, .methodref 10 506), (0, .nameAndType 507 334), (0, u "length"), (67, .class_ 576), (0, u "java/lang/CharSequence"), (22, u "CASE_INSENSITIVE_ORDER"), (0, u "Ljava/util/Comparator;"), (32, .methodref 10 634), (0, .nameAndType 635 636), (0, u "indexOf"), (0, u "(II)I"), (0, .methodref 107 638), (0, .nameAndType 635 639), (0, u "([BIII)I"), (125, u "(I)I"), (244, u "([C)V"), (90, u "serialPersistentFields"), (0, u "[Ljava/io/ObjectStreamField;"), (0, .class_ 1104), (0, u "java/lang/String$CaseInsensitiveComparator"), (1, .class_ 1107), (0, u "java/io/Serializable"), (0, .class_ 1109), (0, u "java/lang/Comparable"), (0, .class_ 1111), (0, u "java/lang/constant/Constable"), (0, .class_ 1113), (0, u "java/lang/constant/ConstantDesc"), (2, u "serialVersionUID"), (0, u "J"), (3, u "REPL"), (0, u "C"), (2, u "LATIN1"), (1, u "UTF16")] 323

def k7m0 : Method := { name := "<init>", desc := "()V", sig := { parameters := [], returnType := none }, accessFlags := 1, code := none }
def k7c1 : Code := { maxStack := 5, maxLocals := 2, code := jdk_42_method_3_code, exceptionTable := #[], attributes := #[] }
def k7m1 : Method := { name := "<init>", desc := "([C)V", sig := { parameters := [(.array .char)], returnType := none }, accessFlags := 1, code := some k7c1 }
def k7c2 : Code := { maxStack := 2, maxLocals := 1, code := jdk_42_method_54_code, exceptionTable := #[], attributes := #[] }
def k7m2 : Method := { name := "length", desc := "()I", sig := { parameters := [], returnType := some .int }, accessFlags := 1, code := some k7c2 }
def k7c3 : Code := { maxStack := 3, maxLocals := 2, code := jdk_42_method_79_code, exceptionTable := #[], attributes := #[] }
def k7m3 : Method := { name := "indexOf", desc := "(I)I", sig := { parameters := [.int], returnType := some .int }, accessFlags := 1, code := some k7c3 }
def k7c4 : Code := { maxStack := 4, maxLocals := 3, code := jdk_42_method_80_code, exceptionTable := #[], attributes := #[] }
def k7m4 : Method := { name := "indexOf", desc := "(II)I", sig := { parameters := [.int, .int], returnType := some .int }, accessFlags := 1, code := some k7c4 }
def k7c5 : Code := { maxStack := 4, maxLocals := 6, code := jdk_42_method_149_code, exceptionTable := #[], attributes := #[] }
def k7m5 : Method := { name := "<init>", desc := "([CIILjava/lang/Void;)V", sig := { parameters := [(.array .char), .int, .int, (.object "java/lang/Void")], returnType := none }, accessFlags := 2, code := some k7c5 }
def k7c6 : Code := { maxStack := 1, maxLocals := 1, code := jdk_42_method_152_code, exceptionTable := #[], attributes := #[] }
def k7m6 : Method := { name := "coder", desc := "()B", sig := { parameters := [], returnType := some .byte }, accessFlags := 0, code := some k7c6 }
def k7c7 : Code := { maxStack := 1, maxLocals := 1, code := jdk_42_method_154_code, exceptionTable := #[], attributes := #[] }
def k7m7 : Method := { name := "isLatin1", desc := "()Z", sig := { parameters := [], returnType := some .boolean }, accessFlags := 0, code := some k7c7 }
/-- java/lang/String -/
def k7 : Class := { plain "java/lang/String" (some 0) with
  accessFlags := 49
  interfaces := #[2, 3, 4, 5, 6]
  cf := some (fileOf pool7 10 #[.nestMembers #[1103]] #[{ accessFlags := 1, nameIndex := 5, descriptorIndex := 6, attributes := #[] }, { accessFlags := 1, nameIndex := 5, descriptorIndex := 1010, attributes := #[] }, { accessFlags := 1, nameIndex := 507, descriptorIndex := 334, attributes := #[] }, { accessFlags := 1, nameIndex := 635, descriptorIndex := 765, attributes := #[] }, { accessFlags := 1, nameIndex := 635, descriptorIndex := 636, attributes := #[] }, { accessFlags := 2, nameIndex := 5, descriptorIndex := 29, attributes := #[] }, { accessFlags := 0, nameIndex := 17, descriptorIndex := 337, attributes := #[] }, { accessFlags := 0, nameIndex := 494, descriptorIndex := 142, attributes := #[] }] 49 2 #[1106, 1108, 575, 1110, 1112] #[{ accessFlags := 18, nameIndex := 13, descriptorIndex := 14, attributes := #[] }, { accessFlags := 18, nameIndex := 17, descriptorIndex := 18, attributes := #[] }, { accessFlags := 2, nameIndex := 21, descriptorIndex := 22, attributes := #[] }, { accessFlags := 2, nameIndex := 25, descriptorIndex := 26, attributes := #[] }, { accessFlags := 26, nameIndex := 1116, descriptorIndex := 1117, attributes := #[] }, { accessFlags := 24, nameIndex := 40, descriptorIndex := 26, attributes := #[] }, { accessFlags := 26, nameIndex := 1101, descriptorIndex := 1102, attributes := #[] }, { accessFlags := 26, nameIndex := 1121, descriptorIndex := 1122, attributes := #[] }, { accessFlags := 25, nameIndex := 599, descriptorIndex := 600, attributes := #[] }, { accessFlags := 24, nameIndex := 1125, descriptorIndex := 18, attributes := #[] }, { accessFlags := 24, nameIndex := 1127, descriptorIndex := 18, attributes := #[] }])
  fields := #[{ name := "value", type := (.array .byte), accessFlags := 18, slot := 0, constantValue := 0 }, { name := "coder", type := .byte, accessFlags := 18, slot := 1, constantValue := 0 }, { name := "hash", type := .int, accessFlags := 2, slot := 2, constantValue := 0 }, { name := "hashIsZero", type := .boolean, accessFlags := 2, slot := 3, constantValue := 0 }, { name := "serialVersionUID", type := .long, accessFlags := 26, slot := 0, constantValue := 0 }, { name := "COMPACT_STRINGS", type := .boolean, accessFlags := 24, slot := 1, constantValue := 0 }, { name := "serialPersistentFields", type := (.array (.object "java/io/ObjectStreamField")), accessFlags := 26, slot := 2, constantValue := 0 }, { name := "REPL", type := .char, accessFlags := 26, slot := 3, constantValue := 0 }, { name := "CASE_INSENSITIVE_ORDER", type := (.object "java/util/Comparator"), accessFlags := 25, slot := 4, constantValue := 0 }, { name := "LATIN1", type := .byte, accessFlags := 24, slot := 5, constantValue := 0 }, { name := "UTF16", type := .byte, accessFlags := 24, slot := 6, constantValue := 0 }]
  methods := #[k7m0, k7m1, k7m2, k7m3, k7m4, k7m5, k7m6, k7m7]
  instanceTypes := #[(.array .byte), .byte, .int, .boolean]
  staticTypes := #[.long, .boolean, (.array (.object "java/io/ObjectStreamField")), .char, (.object "java/util/Comparator"), .byte, .byte]
  resolved := Array.replicate 1451 none
  statics := some 0 }

def pool8 : Array CpInfo := pool [(2, .class_ 4), (1, u "java/lang/Object"), (0, u "<init>"), (0, u "()V"), (0, .class_ 8), (0, u "java/lang/Record")] 13

def k8m0 : Method := { name := "<init>", desc := "()V", sig := { parameters := [], returnType := none }, accessFlags := 4, code := none }
/-- java/lang/Record -/
def k8 : Class := { plain "java/lang/Record" (some 0) with
  accessFlags := 1057
  interfaces := #[]
  cf := some (fileOf pool8 7 #[] #[{ accessFlags := 4, nameIndex := 5, descriptorIndex := 6, attributes := #[] }] 1057 2 #[] #[])
  fields := #[]
  methods := #[k8m0]
  instanceTypes := #[]
  staticTypes := #[]
  resolved := Array.replicate 22 none
  statics := none }

def pool9 : Array CpInfo := pool [(2, .class_ 4), (1, u "java/lang/Record"), (3, u "top"), (7, u "namespace"), (1, u "below"), (1, .class_ 22), (1, u "com/example/mortise/mortise/pack/NamespacedPath"), (0, u "Ljava/lang/String;"), (6, u "afterNamespace"), (0, u "(Ljava/lang/String;)I"), (6, .methodref 39 40), (0, .class_ 41), (0, .nameAndType 42 43), (0, u "java/lang/String"), (0, u "indexOf"), (0, u "(I)I"), (25, .methodref 39 70), (0, .nameAndType 42 71), (0, u "(II)I")] 45

def k9c0 : Code := { maxStack := 4, maxLocals := 3, code := prog_5_method_4_code, exceptionTable := #[], attributes := #[] }
def k9m0 : Method := { name := "afterNamespace", desc := "(Ljava/lang/String;)I", sig := { parameters := [(.object "java/lang/String")], returnType := some .int }, accessFlags := 8, code := some k9c0 }
/-- com/example/mortise/mortise/pack/NamespacedPath -/
def k9 : Class := { plain "com/example/mortise/mortise/pack/NamespacedPath" (some 8) with
  accessFlags := 49
  interfaces := #[]
  cf := some (fileOf pool9 20 #[] #[{ accessFlags := 8, nameIndex := 30, descriptorIndex := 31, attributes := #[] }] 49 2 #[] #[{ accessFlags := 18, nameIndex := 8, descriptorIndex := 23, attributes := #[] }, { accessFlags := 18, nameIndex := 16, descriptorIndex := 23, attributes := #[] }, { accessFlags := 18, nameIndex := 18, descriptorIndex := 23, attributes := #[] }])
  fields := #[{ name := "top", type := (.object "java/lang/String"), accessFlags := 18, slot := 0, constantValue := 0 }, { name := "namespace", type := (.object "java/lang/String"), accessFlags := 18, slot := 1, constantValue := 0 }, { name := "below", type := (.object "java/lang/String"), accessFlags := 18, slot := 2, constantValue := 0 }]
  methods := #[k9m0]
  instanceTypes := #[(.object "java/lang/String"), (.object "java/lang/String"), (.object "java/lang/String")]
  staticTypes := #[]
  resolved := Array.replicate 117 none
  statics := none }

def pool10 : Array CpInfo := pool [(4, .class_ 6), (1, u "java/lang/Object"), (0, u "<init>"), (0, u "()V"), (5, .class_ 16), (1, u "java/lang/StringLatin1"), (21, .methodref 39 40), (0, .class_ 41), (0, .nameAndType 42 43), (0, u "java/lang/Math"), (0, u "min"), (0, u "(II)I"), (44, .methodref 14 89), (0, .nameAndType 90 91), (0, u "canEncode"), (0, u "(I)Z"), (0, .methodref 39 93), (0, .nameAndType 94 43), (0, u "max"), (0, .methodref 14 96), (0, .nameAndType 97 98), (0, u "indexOfChar"), (0, u "([BIII)I"), (2, u "indexOf"), (19, u "$assertionsDisabled"), (0, u "Z"), (98, .class_ 223), (1, u "java/lang/StringLatin1$LinesSpliterator"), (166, .class_ 391), (0, u "java/lang/StringLatin1$CharsSpliterator")] 3

def k10m0 : Method := { name := "<init>", desc := "()V", sig := { parameters := [], returnType := none }, accessFlags := 0, code := none }
def k10c1 : Code := { maxStack := 2, maxLocals := 1, code := jdk_43_method_4_code, exceptionTable := #[], attributes := #[] }
def k10m1 : Method := { name := "canEncode", desc := "(I)Z", sig := { parameters := [.int], returnType := some .boolean }, accessFlags := 9, code := some k10c1 }
def k10c2 : Code := { maxStack := 4, maxLocals := 4, code := jdk_43_method_22_code, exceptionTable := #[], attributes := #[] }
def k10m2 : Method := { name := "indexOf", desc := "([BIII)I", sig := { parameters := [(.array .byte), .int, .int, .int], returnType := some .int }, accessFlags := 9, code := some k10c2 }
def k10c3 : Code := { maxStack := 2, maxLocals := 6, code := jdk_43_method_23_code, exceptionTable := #[], attributes := #[] }
def k10m3 : Method := { name := "indexOfChar", desc := "([BIII)I", sig := { parameters := [(.array .byte), .int, .int, .int], returnType := some .int }, accessFlags := 10, code := some k10c3 }
/-- java/lang/StringLatin1 -/
def k10 : Class := { plain "java/lang/StringLatin1" (some 0) with
  accessFlags := 48
  interfaces := #[]
  cf := some (fileOf pool10 14 #[.nestMembers #[390, 221]] #[{ accessFlags := 0, nameIndex := 7, descriptorIndex := 8, attributes := #[] }, { accessFlags := 9, nameIndex := 90, descriptorIndex := 91, attributes := #[] }, { accessFlags := 9, nameIndex := 101, descriptorIndex := 98, attributes := #[] }, { accessFlags := 10, nameIndex := 97, descriptorIndex := 98, attributes := #[] }] 48 4 #[] #[{ accessFlags := 4120, nameIndex := 121, descriptorIndex := 122, attributes := #[] }])
  fields := #[{ name := "$assertionsDisabled", type := .boolean, accessFlags := 4120, slot := 0, constantValue := 0 }]
  methods := #[k10m0, k10m1, k10m2, k10m3]
  instanceTypes := #[]
  staticTypes := #[.boolean]
  resolved := Array.replicate 395 none
  statics := none }

def pool11 : Array CpInfo := pool [(1, .class_ 2), (0, u "java/lang/Math"), (1, .class_ 6), (1, u "java/lang/Object"), (0, u "<init>"), (0, u "()V"), (89, .class_ 100), (1, u "java/lang/Math$RandomNumberGeneratorHolder"), (71, u "negativeZeroFloatBits"), (0, u "J"), (2, u "negativeZeroDoubleBits"), (21, u "max"), (2, u "min"), (43, u "$assertionsDisabled"), (0, u "Z"), (88, u "(II)I"), (2, u "twoToTheDoubleScaleDown"), (0, u "D"), (4, u "twoToTheDoubleScaleUp"), (9, u "E"), (3, u "PI"), (2, u "TAU"), (2, u "DEGREES_TO_RADIANS"), (0, u "RADIANS_TO_DEGREES")] 94

def k11m0 : Method := { name := "<init>", desc := "()V", sig := { parameters := [], returnType := none }, accessFlags := 2, code := none }
def k11c1 : Code := { maxStack := 2, maxLocals := 2, code := jdk_29_method_65_code, exceptionTable := #[], attributes := #[] }
def k11m1 : Method := { name := "max", desc := "(II)I", sig := { parameters := [.int, .int], returnType := some .int }, accessFlags := 9, code := some k11c1 }
def k11c2 : Code := { maxStack := 2, maxLocals := 2, code := jdk_29_method_69_code, exceptionTable := #[], attributes := #[] }
def k11m2 : Method := { name := "min", desc := "(II)I", sig := { parameters := [.int, .int], returnType := some .int }, accessFlags := 9, code := some k11c2 }
/-- java/lang/Math -/
def k11 : Class := { plain "java/lang/Math" (some 0) with
  accessFlags := 49
  interfaces := #[]
  cf := some (fileOf pool11 1 #[.nestMembers #[98]] #[{ accessFlags := 2, nameIndex := 7, descriptorIndex := 8, attributes := #[] }, { accessFlags := 9, nameIndex := 198, descriptorIndex := 335, attributes := #[] }, { accessFlags := 9, nameIndex := 201, descriptorIndex := 335, attributes := #[] }] 49 4 #[] #[{ accessFlags := 25, nameIndex := 354, descriptorIndex := 339, attributes := #[] }, { accessFlags := 25, nameIndex := 358, descriptorIndex := 339, attributes := #[] }, { accessFlags := 25, nameIndex := 361, descriptorIndex := 339, attributes := #[] }, { accessFlags := 26, nameIndex := 364, descriptorIndex := 339, attributes := #[] }, { accessFlags := 26, nameIndex := 365, descriptorIndex := 339, attributes := #[] }, { accessFlags := 26, nameIndex := 172, descriptorIndex := 173, attributes := #[] }, { accessFlags := 26, nameIndex := 176, descriptorIndex := 173, attributes := #[] }, { accessFlags := 8, nameIndex := 344, descriptorIndex := 339, attributes := #[] }, { accessFlags := 8, nameIndex := 338, descriptorIndex := 339, attributes := #[] }, { accessFlags := 4120, nameIndex := 245, descriptorIndex := 246, attributes := #[] }])
  fields := #[{ name := "E", type := .double, accessFlags := 25, slot := 0, constantValue := 0 }, { name := "PI", type := .double, accessFlags := 25, slot := 1, constantValue := 0 }, { name := "TAU", type := .double, accessFlags := 25, slot := 2, constantValue := 0 }, { name := "DEGREES_TO_RADIANS", type := .double, accessFlags := 26, slot := 3, constantValue := 0 }, { name := "RADIANS_TO_DEGREES", type := .double, accessFlags := 26, slot := 4, constantValue := 0 }, { name := "negativeZeroFloatBits", type := .long, accessFlags := 26, slot := 5, constantValue := 0 }, { name := "negativeZeroDoubleBits", type := .long, accessFlags := 26, slot := 6, constantValue := 0 }, { name := "twoToTheDoubleScaleUp", type := .double, accessFlags := 8, slot := 7, constantValue := 0 }, { name := "twoToTheDoubleScaleDown", type := .double, accessFlags := 8, slot := 8, constantValue := 0 }, { name := "$assertionsDisabled", type := .boolean, accessFlags := 4120, slot := 9, constantValue := 0 }]
  methods := #[k11m0, k11m1, k11m2]
  instanceTypes := #[]
  staticTypes := #[.double, .double, .double, .double, .double, .long, .long, .double, .double, .boolean]
  resolved := Array.replicate 460 none
  statics := none }

def pool12 : Array CpInfo := pool [(6, .class_ 8), (1, u "java/lang/Object"), (0, u "<init>"), (0, u "()V"), (1, .class_ 14), (1, u "java/lang/StringUTF16"), (31, u "$assertionsDisabled"), (0, u "Z"), (13, u "HI_BYTE_SHIFT"), (0, u "I"), (2, u "LO_BYTE_SHIFT"), (49, .methodref 12 116), (0, .nameAndType 117 118), (0, u "compress"), (0, u "([CI[BII)I"), (3, u "([CII)[B"), (138, u "coderFromArrayLen"), (0, u "([BI)B"), (106, .class_ 371), (1, u "java/lang/StringUTF16$LinesSpliterator"), (58, u "MAX_LENGTH"), (196, .class_ 628), (0, u "java/lang/StringUTF16$CodePointsSpliterator"), (0, .class_ 630), (0, u "java/lang/StringUTF16$CharsSpliterator")] 4

def k12m0 : Method := { name := "<init>", desc := "()V", sig := { parameters := [], returnType := none }, accessFlags := 0, code := none }
def k12c1 : Code := { maxStack := 2, maxLocals := 2, code := jdk_52_method_15_code, exceptionTable := #[], attributes := #[] }
def k12m1 : Method := { name := "coderFromArrayLen", desc := "([BI)B", sig := { parameters := [(.array .byte), .int], returnType := some .byte }, accessFlags := 8, code := some k12c1 }
def k12c2 : Code := { maxStack := 5, maxLocals := 6, code := jdk_52_method_16_code, exceptionTable := #[], attributes := #[] }
def k12m2 : Method := { name := "compress", desc := "([CII)[B", sig := { parameters := [(.array .char), .int, .int], returnType := some (.array .byte) }, accessFlags := 9, code := some k12c2 }
def k12c3 : Code := { maxStack := 3, maxLocals := 7, code := jdk_52_method_21_code, exceptionTable := #[], attributes := #[] }
def k12m3 : Method := { name := "compress", desc := "([CI[BII)I", sig := { parameters := [(.array .char), .int, (.array .byte), .int, .int], returnType := some .int }, accessFlags := 9, code := some k12c3 }
/-- java/lang/StringUTF16 -/
def k12 : Class := { plain "java/lang/StringUTF16" (some 0) with
  accessFlags := 48
  interfaces := #[]
  cf := some (fileOf pool12 12 #[.nestMembers #[627, 629, 369]] #[{ accessFlags := 0, nameIndex := 9, descriptorIndex := 10, attributes := #[] }, { accessFlags := 8, nameIndex := 261, descriptorIndex := 262, attributes := #[] }, { accessFlags := 9, nameIndex := 117, descriptorIndex := 122, attributes := #[] }, { accessFlags := 9, nameIndex := 117, descriptorIndex := 118, attributes := #[] }] 48 6 #[] #[{ accessFlags := 26, nameIndex := 61, descriptorIndex := 62, attributes := #[] }, { accessFlags := 26, nameIndex := 65, descriptorIndex := 62, attributes := #[] }, { accessFlags := 24, nameIndex := 430, descriptorIndex := 62, attributes := #[] }, { accessFlags := 4120, nameIndex := 46, descriptorIndex := 47, attributes := #[] }])
  fields := #[{ name := "HI_BYTE_SHIFT", type := .int, accessFlags := 26, slot := 0, constantValue := 0 }, { name := "LO_BYTE_SHIFT", type := .int, accessFlags := 26, slot := 1, constantValue := 0 }, { name := "MAX_LENGTH", type := .int, accessFlags := 24, slot := 2, constantValue := 0 }, { name := "$assertionsDisabled", type := .boolean, accessFlags := 4120, slot := 3, constantValue := 0 }]
  methods := #[k12m0, k12m1, k12m2, k12m3]
  instanceTypes := #[]
  staticTypes := #[.int, .int, .int, .boolean]
  resolved := Array.replicate 635 none
  statics := none }

def pool13 : Array CpInfo := pool [(2, .class_ 4), (1, u "java/lang/Object"), (0, u "<init>"), (0, u "()V"), (17, .class_ 26), (1, u "jdk/internal/util/Preconditions"), (28, .class_ 56), (0, u "jdk/internal/util/Preconditions$4"), (57, .class_ 115), (0, u "jdk/internal/util/Preconditions$1"), (7, u "SIOOBE_FORMATTER"), (0, u "Ljava/util/function/BiFunction;"), (0, .class_ 126), (0, u "jdk/internal/util/Preconditions$2"), (3, u "AIOOBE_FORMATTER"), (0, .class_ 132), (0, u "jdk/internal/util/Preconditions$3"), (3, u "IOOBE_FORMATTER")] 57

def k13m0 : Method := { name := "<init>", desc := "()V", sig := { parameters := [], returnType := none }, accessFlags := 1, code := none }
/-- jdk/internal/util/Preconditions -/
def k13 : Class := { plain "jdk/internal/util/Preconditions" (some 0) with
  accessFlags := 33
  interfaces := #[]
  cf := some (fileOf pool13 24 #[.nestMembers #[55, 131, 125, 114]] #[{ accessFlags := 1, nameIndex := 5, descriptorIndex := 6, attributes := #[] }] 33 2 #[] #[{ accessFlags := 25, nameIndex := 123, descriptorIndex := 124, attributes := #[] }, { accessFlags := 25, nameIndex := 130, descriptorIndex := 124, attributes := #[] }, { accessFlags := 25, nameIndex := 136, descriptorIndex := 124, attributes := #[] }])
  fields := #[{ name := "SIOOBE_FORMATTER", type := (.object "java/util/function/BiFunction"), accessFlags := 25, slot := 0, constantValue := 0 }, { name := "AIOOBE_FORMATTER", type := (.object "java/util/function/BiFunction"), accessFlags := 25, slot := 1, constantValue := 0 }, { name := "IOOBE_FORMATTER", type := (.object "java/util/function/BiFunction"), accessFlags := 25, slot := 2, constantValue := 0 }]
  methods := #[k13m0]
  instanceTypes := #[]
  staticTypes := #[(.object "java/util/function/BiFunction"), (.object "java/util/function/BiFunction"), (.object "java/util/function/BiFunction")]
  resolved := Array.replicate 194 none
  statics := some 1 }

def pool14 : Array CpInfo := pool [(9, u "<init>"), (6, .class_ 18), (1, u "java/lang/Object"), (0, u "()V"), (1, .class_ 23), (1, u "jdk/internal/util/ArraysSupport"), (0, u "LOG2_ARRAY_LONG_INDEX_SCALE"), (0, u "I"), (2, u "U"), (0, u "Ljdk/internal/misc/Unsafe;"), (8, u "BIG_ENDIAN"), (0, u "Z"), (8, u "LOG2_BYTE_BIT_SIZE"), (4, u "LOG2_ARRAY_INT_INDEX_SCALE"), (54, u "JLA"), (0, u "Ljdk/internal/access/JavaLangAccess;"), (11, u "LOG2_ARRAY_BOOLEAN_INDEX_SCALE"), (9, u "LOG2_ARRAY_BYTE_INDEX_SCALE"), (5, u "LOG2_ARRAY_CHAR_INDEX_SCALE"), (5, u "LOG2_ARRAY_SHORT_INDEX_SCALE"), (18, u "LOG2_ARRAY_FLOAT_INDEX_SCALE"), (24, u "LOG2_ARRAY_DOUBLE_INDEX_SCALE"), (89, u "T_BOOLEAN"), (2, u "T_CHAR"), (1, u "T_FLOAT"), (1, u "T_DOUBLE"), (1, u "T_BYTE"), (1, u "T_SHORT"), (1, u "T_INT"), (1, u "T_LONG"), (1, u "SOFT_MAX_ARRAY_LENGTH")] 83

def k14m0 : Method := { name := "<init>", desc := "()V", sig := { parameters := [], returnType := none }, accessFlags := 2, code := none }
/-- jdk/internal/util/ArraysSupport -/
def k14 : Class := { plain "jdk/internal/util/ArraysSupport" (some 0) with
  accessFlags := 33
  interfaces := #[]
  cf := some (fileOf pool14 21 #[] #[{ accessFlags := 2, nameIndex := 9, descriptorIndex := 19, attributes := #[] }] 33 16 #[] #[{ accessFlags := 24, nameIndex := 28, descriptorIndex := 29, attributes := #[] }, { accessFlags := 26, nameIndex := 38, descriptorIndex := 39, attributes := #[] }, { accessFlags := 25, nameIndex := 121, descriptorIndex := 25, attributes := #[] }, { accessFlags := 25, nameIndex := 131, descriptorIndex := 25, attributes := #[] }, { accessFlags := 25, nameIndex := 137, descriptorIndex := 25, attributes := #[] }, { accessFlags := 25, nameIndex := 143, descriptorIndex := 25, attributes := #[] }, { accessFlags := 25, nameIndex := 53, descriptorIndex := 25, attributes := #[] }, { accessFlags := 25, nameIndex := 24, descriptorIndex := 25, attributes := #[] }, { accessFlags := 25, nameIndex := 162, descriptorIndex := 25, attributes := #[] }, { accessFlags := 25, nameIndex := 187, descriptorIndex := 25, attributes := #[] }, { accessFlags := 26, nameIndex := 48, descriptorIndex := 25, attributes := #[] }, { accessFlags := 25, nameIndex := 277, descriptorIndex := 25, attributes := #[] }, { accessFlags := 25, nameIndex := 280, descriptorIndex := 25, attributes := #[] }, { accessFlags := 25, nameIndex := 282, descriptorIndex := 25, attributes := #[] }, { accessFlags := 25, nameIndex := 284, descriptorIndex := 25, attributes := #[] }, { accessFlags := 25, nameIndex := 286, descriptorIndex := 25, attributes := #[] }, { accessFlags := 25, nameIndex := 288, descriptorIndex := 25, attributes := #[] }, { accessFlags := 25, nameIndex := 290, descriptorIndex := 25, attributes := #[] }, { accessFlags := 25, nameIndex := 292, descriptorIndex := 25, attributes := #[] }, { accessFlags := 26, nameIndex := 108, descriptorIndex := 109, attributes := #[] }, { accessFlags := 25, nameIndex := 294, descriptorIndex := 25, attributes := #[] }])
  fields := #[{ name := "U", type := (.object "jdk/internal/misc/Unsafe"), accessFlags := 24, slot := 0, constantValue := 0 }, { name := "BIG_ENDIAN", type := .boolean, accessFlags := 26, slot := 1, constantValue := 0 }, { name := "LOG2_ARRAY_BOOLEAN_INDEX_SCALE", type := .int, accessFlags := 25, slot := 2, constantValue := 0 }, { name := "LOG2_ARRAY_BYTE_INDEX_SCALE", type := .int, accessFlags := 25, slot := 3, constantValue := 0 }, { name := "LOG2_ARRAY_CHAR_INDEX_SCALE", type := .int, accessFlags := 25, slot := 4, constantValue := 0 }, { name := "LOG2_ARRAY_SHORT_INDEX_SCALE", type := .int, accessFlags := 25, slot := 5, constantValue := 0 }, { name := "LOG2_ARRAY_INT_INDEX_SCALE", type := .int, accessFlags := 25, slot := 6, constantValue := 0 }, { name := "LOG2_ARRAY_LONG_INDEX_SCALE", type := .int, accessFlags := 25, slot := 7, constantValue := 0 }, { name := "LOG2_ARRAY_FLOAT_INDEX_SCALE", type := .int, accessFlags := 25, slot := 8, constantValue := 0 }, { name := "LOG2_ARRAY_DOUBLE_INDEX_SCALE", type := .int, accessFlags := 25, slot := 9, constantValue := 0 }, { name := "LOG2_BYTE_BIT_SIZE", type := .int, accessFlags := 26, slot := 10, constantValue := 0 }, { name := "T_BOOLEAN", type := .int, accessFlags := 25, slot := 11, constantValue := 0 }, { name := "T_CHAR", type := .int, accessFlags := 25, slot := 12, constantValue := 0 }, { name := "T_FLOAT", type := .int, accessFlags := 25, slot := 13, constantValue := 0 }, { name := "T_DOUBLE", type := .int, accessFlags := 25, slot := 14, constantValue := 0 }, { name := "T_BYTE", type := .int, accessFlags := 25, slot := 15, constantValue := 0 }, { name := "T_SHORT", type := .int, accessFlags := 25, slot := 16, constantValue := 0 }, { name := "T_INT", type := .int, accessFlags := 25, slot := 17, constantValue := 0 }, { name := "T_LONG", type := .int, accessFlags := 25, slot := 18, constantValue := 0 }, { name := "JLA", type := (.object "jdk/internal/access/JavaLangAccess"), accessFlags := 26, slot := 19, constantValue := 0 }, { name := "SOFT_MAX_ARRAY_LENGTH", type := .int, accessFlags := 25, slot := 20, constantValue := 0 }]
  methods := #[k14m0]
  instanceTypes := #[]
  staticTypes := #[(.object "jdk/internal/misc/Unsafe"), .boolean, .int, .int, .int, .int, .int, .int, .int, .int, .int, .int, .int, .int, .int, .int, .int, .int, .int, (.object "jdk/internal/access/JavaLangAccess"), .int]
  resolved := Array.replicate 378 none
  statics := none }

def pool15 : Array CpInfo := pool [(1, u "java/lang/Cloneable"), (0, .class_ 1), (0, u "java/lang/Object"), (0, .class_ 3)] 3

/-- java/lang/Cloneable -/
def k15 : Class := { plain "java/lang/Cloneable" (some 0) with
  accessFlags := 1537
  interfaces := #[]
  cf := some (fileOf pool15 2 #[] #[] 1537 4 #[] #[])
  fields := #[]
  methods := #[]
  instanceTypes := #[]
  staticTypes := #[]
  resolved := Array.replicate 8 none
  statics := none }

/-- the primitive boolean -/
def k16 : Class := { plain "boolean" none with kind := .primitive 'Z', accessFlags := 0x411 }
/-- [Z -/
def k17 : Class := { plain "[Z" (some 0) with kind := .array 16 .boolean, interfaces := #[15, 2], accessFlags := 1041 }

/-- the primitive byte -/
def k18 : Class := { plain "byte" none with kind := .primitive 'B', accessFlags := 0x411 }
/-- [B -/
def k19 : Class := { plain "[B" (some 0) with kind := .array 18 .byte, interfaces := #[15, 2], accessFlags := 1041 }

/-- the primitive char -/
def k20 : Class := { plain "char" none with kind := .primitive 'C', accessFlags := 0x411 }
/-- [C -/
def k21 : Class := { plain "[C" (some 0) with kind := .array 20 .char, interfaces := #[15, 2], accessFlags := 1041 }

/-- the primitive int -/
def k22 : Class := { plain "int" none with kind := .primitive 'I', accessFlags := 0x411 }
/-- [I -/
def k23 : Class := { plain "[I" (some 0) with kind := .array 22 .int, interfaces := #[15, 2], accessFlags := 1041 }

def heap : Heap := #[{ cls := 7, slots := #[.long 0, .int 1, .null, .int 0, .null, .int 0, .int 0], vm := .statics 7 },
  { cls := 13, slots := #[.null, .null, .null], vm := .statics 13 }]
def classes : Array Class := #[k0, k1, k2, k3, k4, k5, k6, k7, k8, k9, k10, k11, k12, k13, k14, k15, k16, k17, k18, k19, k20, k21, k22, k23]
def interned : List (Array UInt16 × Addr) := []
def slotsUsed : Nat := 10
def theMethod : MethodId := ⟨1, 1⟩
def args0 : Array Value := #[.int 5, .int 6, .int 7, .int 8]
def aboutOver (below : List Frame) : State where
  vm := { classes := classes, interned := interned.toArray }
  heap := heap
  slotsUsed := slotsUsed
  threads := #[{ frames := .invoking theMethod args0 :: below }]
def below0 : List Frame := [.native { method := ⟨0, 0⟩, args := #[] }]
def about1 : State := aboutOver below0
def p0 : Program := .bare "" "" ""
def e0 : Env := launch0.env 0 0 0
theorem w_frames : about1.frames = Frame.invoking theMethod args0 :: below0 := rfl
set_option maxRecDepth 65536 in
theorem w_args : argsFit about1.vm theMethod args0 = true := by decide +kernel
set_option maxRecDepth 65536 in
theorem w_heap : heapFits about1 = true := by decide +kernel
set_option maxRecDepth 65536 in
theorem w_runnable : about1.curStatus? = some .runnable := by decide +kernel
set_option maxRecDepth 65536 in
theorem w_alone : about1.alone = true := by decide +kernel
set_option maxRecDepth 65536 in
theorem w_named : about1.methodNamed? x = some theMethod := by decide +kernel
set_option maxRecDepth 65536 in
theorem w_hears : about1.hears theMethod below0 = true := by decide +kernel
set_option maxRecDepth 65536 in
theorem w_ripe : about1.ripe theMethod args0 below0 = true := by decide +kernel
theorem w_running : about1.status = .running := rfl
set_option maxRecDepth 65536 in
theorem w_room : about1.hasRoom e0.platform room_1 = true :=
  launch0.hasRoom_least _ room_1 (by decide +kernel) (by decide +kernel) (by decide +kernel) (by decide +kernel) (by decide +kernel) (by decide +kernel)
theorem allAtoms_all (ts : List Jvm.Cond) (a : Array Jvm.Value) (st : Jvm.State) : (allAtoms ts).before a st = ts.all (fun c => c.before a st) := by
  induction ts with
  | nil => rfl
  | cons c t ih =>
    show (Jvm.Cond.and c (allAtoms t)).before a st = _
    rw [Jvm.Cond.before_and, ih, List.all_cons]
def words1 : List Jvm.Cond := Jvm.Cond.code x code maxLocals ret :: tables_1
/-- a 'code' word, met by the world's own term for the bytes: nothing is compared byte by byte -/
theorem code_word {y : MethodName} {bytes : ByteArray} {mx : Nat} {rt : Option FieldType} {a : Array Value} {s : State} {m : MethodId} {meth : Method} {c : Code} (h1 : s.methodNamed? y = some m) (h2 : s.vm.method? m = some meth) (h3 : meth.code = some c) (h4 : c.code = bytes)
    (h5 : (c.maxLocals == mx && c.exceptionTable.isEmpty && decide (c.maxStack ≤ mostOperands) && decide (meth.sig.returnType = rt) && !meth.locks && decide (parseMethodDescriptor y.desc = some meth.sig)) = true) : (Jvm.Cond.code y bytes mx rt).before a s = true := by
  simp only [Bool.and_eq_true, beq_iff_eq, Bool.not_eq_true', decide_eq_true_eq] at h5
  obtain ⟨⟨⟨⟨⟨g1, g2⟩, g3⟩, g4⟩, g5⟩, g6⟩ := h5
  simp [Cond.before, Cond.holds, Cond.value, h1, h2, h3, h4, g1, g2, g3, g4, g5, g6]
def isCode : Jvm.Cond → Bool
  | .code _ _ _ _ => true
  | _ => false
theorem all_split {L : List Jvm.Cond} {P : Jvm.Cond → Bool} (h1 : L.all (fun c => isCode c || P c) = true) (h2 : ∀ c ∈ L.filter isCode, P c = true) : L.all P = true := by
  refine List.all_eq_true.mpr fun c hc => ?_
  have h := List.all_eq_true.mp h1 c hc
  rcases Bool.eq_false_or_eq_true (isCode c) with hi | hi
  · exact h2 c (List.mem_filter.mpr ⟨hc, hi⟩)
  · simpa [hi] using h
set_option maxRecDepth 65536 in
theorem w_c0 : (Jvm.Cond.code x code maxLocals ret).before args0 about1 = true := code_word (m := ⟨1, 1⟩) (meth := k1m1) (c := k1c1) (by decide +kernel) rfl rfl rfl (by decide +kernel)
set_option maxRecDepth 65536 in
theorem w_c1 : (Jvm.Cond.code ({ cls := "com/example/mortise/mortise/pack/NamespacedPathAfterNamespacePinLaw", name := "ch", desc := "(I)C" } : Jvm.MethodName) method_3_code (1 : Nat) (Option.some Jvm.ClassFile.FieldType.char)).before args0 about1 = true := code_word (m := ⟨1, 2⟩) (meth := k1m2) (c := k1c2) (by decide +kernel) rfl rfl rfl (by decide +kernel)
set_option maxRecDepth 65536 in
theorem w_c2 : (Jvm.Cond.code ({ cls := "com/example/mortise/mortise/pack/NamespacedPathAfterNamespacePinLaw", name := "make", desc := "(I[C)Ljava/lang/String;" } : Jvm.MethodName) method_5_code (2 : Nat) (Option.some (Jvm.ClassFile.FieldType.object "java/lang/String"))).before args0 about1 = true := code_word (m := ⟨1, 4⟩) (meth := k1m4) (c := k1c4) (by decide +kernel) rfl rfl rfl (by decide +kernel)
set_option maxRecDepth 65536 in
theorem w_c3 : (Jvm.Cond.code ({ cls := "java/lang/String", name := "<init>", desc := "([C)V" } : Jvm.MethodName) jdk_42_method_3_code (2 : Nat) (Option.none : Option Jvm.ClassFile.FieldType)).before args0 about1 = true := code_word (m := ⟨7, 1⟩) (meth := k7m1) (c := k7c1) (by decide +kernel) rfl rfl rfl (by decide +kernel)
set_option maxRecDepth 65536 in
theorem w_c4 : (Jvm.Cond.code ({ cls := "java/lang/String", name := "<init>", desc := "([CIILjava/lang/Void;)V" } : Jvm.MethodName) jdk_42_method_149_code (6 : Nat) (Option.none : Option Jvm.ClassFile.FieldType)).before args0 about1 = true := code_word (m := ⟨7, 5⟩) (meth := k7m5) (c := k7c5) (by decide +kernel) rfl rfl rfl (by decide +kernel)
set_option maxRecDepth 65536 in
theorem w_c5 : (Jvm.Cond.code ({ cls := "java/lang/Object", name := "<init>", desc := "()V" } : Jvm.MethodName) object_method_1_code (1 : Nat) (Option.none : Option Jvm.ClassFile.FieldType)).before args0 about1 = true := code_word (m := ⟨0, 0⟩) (meth := k0m0) (c := k0c0) (by decide +kernel) rfl rfl rfl (by decide +kernel)
set_option maxRecDepth 65536 in
theorem w_c6 : (Jvm.Cond.code ({ cls := "com/example/mortise/mortise/pack/NamespacedPathAfterNamespacePinLaw", name := "from", desc := "([ZI)I" } : Jvm.MethodName) method_4_code (2 : Nat) (Option.some Jvm.ClassFile.FieldType.int)).before args0 about1 = true := code_word (m := ⟨1, 3⟩) (meth := k1m3) (c := k1c3) (by decide +kernel) rfl rfl rfl (by decide +kernel)
set_option maxRecDepth 65536 in
theorem w_c7 : (Jvm.Cond.code ({ cls := "com/example/mortise/mortise/pack/NamespacedPath", name := "afterNamespace", desc := "(Ljava/lang/String;)I" } : Jvm.MethodName) prog_5_method_4_code (3 : Nat) (Option.some Jvm.ClassFile.FieldType.int)).before args0 about1 = true := code_word (m := ⟨9, 0⟩) (meth := k9m0) (c := k9c0) (by decide +kernel) rfl rfl rfl (by decide +kernel)
set_option maxRecDepth 65536 in
theorem w_c8 : (Jvm.Cond.code ({ cls := "java/lang/String", name := "indexOf", desc := "(I)I" } : Jvm.MethodName) jdk_42_method_79_code (2 : Nat) (Option.some Jvm.ClassFile.FieldType.int)).before args0 about1 = true := code_word (m := ⟨7, 3⟩) (meth := k7m3) (c := k7c3) (by decide +kernel) rfl rfl rfl (by decide +kernel)
set_option maxRecDepth 65536 in
theorem w_c9 : (Jvm.Cond.code ({ cls := "java/lang/String", name := "indexOf", desc := "(II)I" } : Jvm.MethodName) jdk_42_method_80_code (3 : Nat) (Option.some Jvm.ClassFile.FieldType.int)).before args0 about1 = true := code_word (m := ⟨7, 4⟩) (meth := k7m4) (c := k7c4) (by decide +kernel) rfl rfl rfl (by decide +kernel)
set_option maxRecDepth 65536 in
theorem w_c10 : (Jvm.Cond.code ({ cls := "java/lang/String", name := "isLatin1", desc := "()Z" } : Jvm.MethodName) jdk_42_method_154_code (1 : Nat) (Option.some Jvm.ClassFile.FieldType.boolean)).before args0 about1 = true := code_word (m := ⟨7, 7⟩) (meth := k7m7) (c := k7c7) (by decide +kernel) rfl rfl rfl (by decide +kernel)
set_option maxRecDepth 65536 in
theorem w_c11 : (Jvm.Cond.code ({ cls := "java/lang/String", name := "length", desc := "()I" } : Jvm.MethodName) jdk_42_method_54_code (1 : Nat) (Option.some Jvm.ClassFile.FieldType.int)).before args0 about1 = true := code_word (m := ⟨7, 2⟩) (meth := k7m2) (c := k7c2) (by decide +kernel) rfl rfl rfl (by decide +kernel)
set_option maxRecDepth 65536 in
theorem w_c12 : (Jvm.Cond.code ({ cls := "java/lang/String", name := "coder", desc := "()B" } : Jvm.MethodName) jdk_42_method_152_code (1 : Nat) (Option.some Jvm.ClassFile.FieldType.byte)).before args0 about1 = true := code_word (m := ⟨7, 6⟩) (meth := k7m6) (c := k7c6) (by decide +kernel) rfl rfl rfl (by decide +kernel)
set_option maxRecDepth 65536 in
theorem w_c13 : (Jvm.Cond.code ({ cls := "java/lang/StringLatin1", name := "indexOf", desc := "([BIII)I" } : Jvm.MethodName) jdk_43_method_22_code (4 : Nat) (Option.some Jvm.ClassFile.FieldType.int)).before args0 about1 = true := code_word (m := ⟨10, 2⟩) (meth := k10m2) (c := k10c2) (by decide +kernel) rfl rfl rfl (by decide +kernel)
set_option maxRecDepth 65536 in
theorem w_c14 : (Jvm.Cond.code ({ cls := "java/lang/StringLatin1", name := "canEncode", desc := "(I)Z" } : Jvm.MethodName) jdk_43_method_4_code (1 : Nat) (Option.some Jvm.ClassFile.FieldType.boolean)).before args0 about1 = true := code_word (m := ⟨10, 1⟩) (meth := k10m1) (c := k10c1) (by decide +kernel) rfl rfl rfl (by decide +kernel)
set_option maxRecDepth 65536 in
theorem w_c15 : (Jvm.Cond.code ({ cls := "java/lang/Math", name := "max", desc := "(II)I" } : Jvm.MethodName) jdk_29_method_65_code (2 : Nat) (Option.some Jvm.ClassFile.FieldType.int)).before args0 about1 = true := code_word (m := ⟨11, 1⟩) (meth := k11m1) (c := k11c1) (by decide +kernel) rfl rfl rfl (by decide +kernel)
set_option maxRecDepth 65536 in
theorem w_c16 : (Jvm.Cond.code ({ cls := "java/lang/Math", name := "min", desc := "(II)I" } : Jvm.MethodName) jdk_29_method_69_code (2 : Nat) (Option.some Jvm.ClassFile.FieldType.int)).before args0 about1 = true := code_word (m := ⟨11, 2⟩) (meth := k11m2) (c := k11c2) (by decide +kernel) rfl rfl rfl (by decide +kernel)
set_option maxRecDepth 65536 in
theorem w_c17 : (Jvm.Cond.code ({ cls := "java/lang/StringUTF16", name := "compress", desc := "([CII)[B" } : Jvm.MethodName) jdk_52_method_16_code (6 : Nat) (Option.some (Jvm.ClassFile.FieldType.array Jvm.ClassFile.FieldType.byte))).before args0 about1 = true := code_word (m := ⟨12, 2⟩) (meth := k12m2) (c := k12c2) (by decide +kernel) rfl rfl rfl (by decide +kernel)
set_option maxRecDepth 65536 in
theorem w_c18 : (Jvm.Cond.code ({ cls := "java/lang/StringUTF16", name := "compress", desc := "([CI[BII)I" } : Jvm.MethodName) jdk_52_method_21_code (7 : Nat) (Option.some Jvm.ClassFile.FieldType.int)).before args0 about1 = true := code_word (m := ⟨12, 3⟩) (meth := k12m3) (c := k12c3) (by decide +kernel) rfl rfl rfl (by decide +kernel)
set_option maxRecDepth 65536 in
theorem w_c19 : (Jvm.Cond.code ({ cls := "java/lang/StringUTF16", name := "coderFromArrayLen", desc := "([BI)B" } : Jvm.MethodName) jdk_52_method_15_code (2 : Nat) (Option.some Jvm.ClassFile.FieldType.byte)).before args0 about1 = true := code_word (m := ⟨12, 1⟩) (meth := k12m1) (c := k12c1) (by decide +kernel) rfl rfl rfl (by decide +kernel)
set_option maxRecDepth 65536 in
theorem w_c20 : (Jvm.Cond.code ({ cls := "java/lang/StringLatin1", name := "indexOfChar", desc := "([BIII)I" } : Jvm.MethodName) jdk_43_method_23_code (6 : Nat) (Option.some Jvm.ClassFile.FieldType.int)).before args0 about1 = true := code_word (m := ⟨10, 3⟩) (meth := k10m3) (c := k10c3) (by decide +kernel) rfl rfl rfl (by decide +kernel)
def codes1 : List Jvm.Cond := [Jvm.Cond.code x code maxLocals ret, Jvm.Cond.code ({ cls := "com/example/mortise/mortise/pack/NamespacedPathAfterNamespacePinLaw", name := "ch", desc := "(I)C" } : Jvm.MethodName) method_3_code (1 : Nat) (Option.some Jvm.ClassFile.FieldType.char), Jvm.Cond.code ({ cls := "com/example/mortise/mortise/pack/NamespacedPathAfterNamespacePinLaw", name := "make", desc := "(I[C)Ljava/lang/String;" } : Jvm.MethodName) method_5_code (2 : Nat) (Option.some (Jvm.ClassFile.FieldType.object "java/lang/String")), Jvm.Cond.code ({ cls := "java/lang/String", name := "<init>", desc := "([C)V" } : Jvm.MethodName) jdk_42_method_3_code (2 : Nat) (Option.none : Option Jvm.ClassFile.FieldType), Jvm.Cond.code ({ cls := "java/lang/String", name := "<init>", desc := "([CIILjava/lang/Void;)V" } : Jvm.MethodName) jdk_42_method_149_code (6 : Nat) (Option.none : Option Jvm.ClassFile.FieldType), Jvm.Cond.code ({ cls := "java/lang/Object", name := "<init>", desc := "()V" } : Jvm.MethodName) object_method_1_code (1 : Nat) (Option.none : Option Jvm.ClassFile.FieldType), Jvm.Cond.code ({ cls := "com/example/mortise/mortise/pack/NamespacedPathAfterNamespacePinLaw", name := "from", desc := "([ZI)I" } : Jvm.MethodName) method_4_code (2 : Nat) (Option.some Jvm.ClassFile.FieldType.int), Jvm.Cond.code ({ cls := "com/example/mortise/mortise/pack/NamespacedPath", name := "afterNamespace", desc := "(Ljava/lang/String;)I" } : Jvm.MethodName) prog_5_method_4_code (3 : Nat) (Option.some Jvm.ClassFile.FieldType.int), Jvm.Cond.code ({ cls := "java/lang/String", name := "indexOf", desc := "(I)I" } : Jvm.MethodName) jdk_42_method_79_code (2 : Nat) (Option.some Jvm.ClassFile.FieldType.int), Jvm.Cond.code ({ cls := "java/lang/String", name := "indexOf", desc := "(II)I" } : Jvm.MethodName) jdk_42_method_80_code (3 : Nat) (Option.some Jvm.ClassFile.FieldType.int), Jvm.Cond.code ({ cls := "java/lang/String", name := "isLatin1", desc := "()Z" } : Jvm.MethodName) jdk_42_method_154_code (1 : Nat) (Option.some Jvm.ClassFile.FieldType.boolean), Jvm.Cond.code ({ cls := "java/lang/String", name := "length", desc := "()I" } : Jvm.MethodName) jdk_42_method_54_code (1 : Nat) (Option.some Jvm.ClassFile.FieldType.int), Jvm.Cond.code ({ cls := "java/lang/String", name := "coder", desc := "()B" } : Jvm.MethodName) jdk_42_method_152_code (1 : Nat) (Option.some Jvm.ClassFile.FieldType.byte), Jvm.Cond.code ({ cls := "java/lang/StringLatin1", name := "indexOf", desc := "([BIII)I" } : Jvm.MethodName) jdk_43_method_22_code (4 : Nat) (Option.some Jvm.ClassFile.FieldType.int), Jvm.Cond.code ({ cls := "java/lang/StringLatin1", name := "canEncode", desc := "(I)Z" } : Jvm.MethodName) jdk_43_method_4_code (1 : Nat) (Option.some Jvm.ClassFile.FieldType.boolean), Jvm.Cond.code ({ cls := "java/lang/Math", name := "max", desc := "(II)I" } : Jvm.MethodName) jdk_29_method_65_code (2 : Nat) (Option.some Jvm.ClassFile.FieldType.int), Jvm.Cond.code ({ cls := "java/lang/Math", name := "min", desc := "(II)I" } : Jvm.MethodName) jdk_29_method_69_code (2 : Nat) (Option.some Jvm.ClassFile.FieldType.int), Jvm.Cond.code ({ cls := "java/lang/StringUTF16", name := "compress", desc := "([CII)[B" } : Jvm.MethodName) jdk_52_method_16_code (6 : Nat) (Option.some (Jvm.ClassFile.FieldType.array Jvm.ClassFile.FieldType.byte)), Jvm.Cond.code ({ cls := "java/lang/StringUTF16", name := "compress", desc := "([CI[BII)I" } : Jvm.MethodName) jdk_52_method_21_code (7 : Nat) (Option.some Jvm.ClassFile.FieldType.int), Jvm.Cond.code ({ cls := "java/lang/StringUTF16", name := "coderFromArrayLen", desc := "([BI)B" } : Jvm.MethodName) jdk_52_method_15_code (2 : Nat) (Option.some Jvm.ClassFile.FieldType.byte), Jvm.Cond.code ({ cls := "java/lang/StringLatin1", name := "indexOfChar", desc := "([BIII)I" } : Jvm.MethodName) jdk_43_method_23_code (6 : Nat) (Option.some Jvm.ClassFile.FieldType.int)]
set_option maxRecDepth 65536 in
theorem codes_eq : words1.filter isCode = codes1 := rfl
theorem w_codes : ∀ c ∈ words1.filter isCode, c.before args0 about1 = true := by
  rw [codes_eq]
  intro c hc
  simp only [codes1, List.mem_cons, List.not_mem_nil, or_false] at hc
  rcases hc with rfl | rfl | rfl | rfl | rfl | rfl | rfl | rfl | rfl | rfl | rfl | rfl | rfl | rfl | rfl | rfl | rfl | rfl | rfl | rfl | rfl
  · exact w_c0
  · exact w_c1
  · exact w_c2
  · exact w_c3
  · exact w_c4
  · exact w_c5
  · exact w_c6
  · exact w_c7
  · exact w_c8
  · exact w_c9
  · exact w_c10
  · exact w_c11
  · exact w_c12
  · exact w_c13
  · exact w_c14
  · exact w_c15
  · exact w_c16
  · exact w_c17
  · exact w_c18
  · exact w_c19
  · exact w_c20
set_option maxRecDepth 65536 in
theorem w_t1 : (words1.take 24).all (fun c => isCode c || c.before args0 about1) = true := by decide +kernel
set_option maxRecDepth 65536 in
theorem w_t2 : ((words1.drop 24).take 24).all (fun c => isCode c || c.before args0 about1) = true := by decide +kernel
set_option maxRecDepth 65536 in
theorem w_t3 : (((words1.drop 24).drop 24).take 24).all (fun c => isCode c || c.before args0 about1) = true := by decide +kernel
set_option maxRecDepth 65536 in
theorem w_t4 : (((words1.drop 24).drop 24).drop 24).all (fun c => isCode c || c.before args0 about1) = true := by decide +kernel
theorem w_tables : (allAtoms (Jvm.Cond.code x code maxLocals ret :: tables_1)).before args0 about1 = true := by
  rw [allAtoms_all]
  show words1.all (fun c => c.before args0 about1) = true
  refine all_split ?_ w_codes
  rw [← List.take_append_drop 24 words1, List.all_append, w_t1, ← List.take_append_drop 24 (words1.drop 24), List.all_append, w_t2, ← List.take_append_drop 24 ((words1.drop 24).drop 24), List.all_append, w_t3, w_t4]
  rfl
set_option maxRecDepth 65536 in
theorem w_rest : rest_1_c.before args0 about1 = true := by decide +kernel
set_option maxRecDepth 65536 in
theorem w_case : (Jvm.Cond.and given_1 narrow_1).before args0 about1 = true := by decide +kernel
set_option maxRecDepth 65536 in
theorem w_consts : constsHeld consts_1 about1 := Jvm.Lit.constsHeldB_iff.mp (by decide +kernel)
theorem w_applies : (headSpec (Jvm.Cond.code x code maxLocals ret :: tables_1) room_1).applies x e0.platform about1 = true :=
  (Spec.applies_iff w_frames).mpr ⟨w_running, w_runnable, w_alone, w_named, w_hears, w_ripe, w_room, w_tables⟩
theorem atStart : AtStart classFile x code maxLocals ret World_1 tables_1 room_1 Calls_1 rest_1 Pre_1 launch0 p0 e0 about1 theMethod args0 below0 :=
  ⟨lists_1, trivial, launch0.admits_env _ _ _, launch0.least_env, fairChoices_fair.cas, fairChoices_fair.clock, w_frames, w_args, w_heap, w_applies, ⟨w_consts, trivial⟩, w_rest, w_case⟩
end start1
theorem witness_1 : WitnessClaimed_1 := ⟨start1.p0, start1.e0, start1.about1, start1.theMethod, start1.args0, start1.below0, start1.atStart⟩
end Jvm.Pilot.@@N@@
