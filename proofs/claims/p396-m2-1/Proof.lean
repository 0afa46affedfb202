import JvmDerived
import JvmDerived.Pilot.@@N@@Statement
import JvmDerived.Pilot.@@N@@Code
set_option linter.unusedVariables false
set_option linter.unusedSimpArgs false
namespace Jvm.Ow
open Sem ClassFile Op Lib Jvm.Stand Jvm.Free Jvm.LawKit Jvm.RoadKit
/-- from S the run goes on to an end that G accepts -/
def Go (tb : Tables) (e : Env) (below : List Frame) (G : Outcome → State → Prop) (S : State) : Prop := ∃ t o, Steps tb e below S t ∧ t.status = .running ∧ Ended t below o ∧ G o t
theorem Go.via {tb : Tables} {e : Env} {below : List Frame} {G : Outcome → State → Prop} {S S' : State} (st : ∀ target, Steps tb e below S' target → Steps tb e below S target) (K : Go tb e below G S') : Go tb e below G S := by
  obtain ⟨t, o, h1, h2⟩ := K
  exact ⟨t, o, st t h1, h2⟩
theorem Go.thru {tb : Tables} {e : Env} {below : List Frame} {G : Outcome → State → Prop} {S S' : State} (st : Steps tb e below S S') (K : Go tb e below G S') : Go tb e below G S := by
  obtain ⟨t, o, h1, h2⟩ := K
  exact ⟨t, o, st.trans h1, h2⟩
section Steps1
variable {p : Program} {l : Launch} {e : Env} {R : Room} {s : State} {m : MethodId} {args : Array Value} {below : List Frame} {meth : Method} {c : Code} {T : State} {locs : List Loc} {cells slots : Nat} {G : Outcome → State → Prop} {pc pc' : Nat} {Ls : Array Slot} {rest : List Value}
theorem aloadN (X : Stand p l e R s m args below meth c T locs cells slots) (hx : p.tables.exec = Jvm.exec) {k : Fin 4} {v : Value} (hd : decode c.code pc = .ok (.aload_n k, 1)) (hl : Ls[k.val]? = some (.val v)) (hv : v.isRef = true) (K : Go p.tables e below G (T.setTop (mkF m (pc + 1) Ls (v :: rest)))) : Go p.tables e below G (T.setTop (mkF m (pc) Ls rest)) := K.via fun _ r => XS.aloadN X.here hx rfl hd hl hv r
theorem aload (X : Stand p l e R s m args below meth c T locs cells slots) (hx : p.tables.exec = Jvm.exec) {k : Nat} {v : Value} (hd : decode c.code pc = .ok (.aload k, 2)) (hl : Ls[k]? = some (.val v)) (hv : v.isRef = true) (K : Go p.tables e below G (T.setTop (mkF m (pc + 2) Ls (v :: rest)))) : Go p.tables e below G (T.setTop (mkF m (pc) Ls rest)) := K.via fun _ r => XS.aload X.here hx rfl hd hl hv r
theorem iloadN (X : Stand p l e R s m args below meth c T locs cells slots) (hx : p.tables.exec = Jvm.exec) {k : Fin 4} {v : Int32} (hd : decode c.code pc = .ok (.iload_n k, 1)) (hl : Ls[k.val]? = some (.val (.int v))) (K : Go p.tables e below G (T.setTop (mkF m (pc + 1) Ls (.int v :: rest)))) : Go p.tables e below G (T.setTop (mkF m (pc) Ls rest)) := K.via fun _ r => XS.iloadN X.here hx rfl hd hl r
theorem iload (X : Stand p l e R s m args below meth c T locs cells slots) (hx : p.tables.exec = Jvm.exec) {k : Nat} {v : Int32} (hd : decode c.code pc = .ok (.iload k, 2)) (hl : Ls[k]? = some (.val (.int v))) (K : Go p.tables e below G (T.setTop (mkF m (pc + 2) Ls (.int v :: rest)))) : Go p.tables e below G (T.setTop (mkF m (pc) Ls rest)) := K.via fun _ r => XS.iload X.here hx rfl hd hl r
theorem lloadN (X : Stand p l e R s m args below meth c T locs cells slots) (hx : p.tables.exec = Jvm.exec) {k : Fin 4} {v : Int64} (hd : decode c.code pc = .ok (.lload_n k, 1)) (hl : Ls[k.val]? = some (.val (.long v))) (K : Go p.tables e below G (T.setTop (mkF m (pc + 1) Ls (.long v :: rest)))) : Go p.tables e below G (T.setTop (mkF m (pc) Ls rest)) := K.via fun _ r => XT.lloadN X.here hx rfl hd hl r
theorem lload (X : Stand p l e R s m args below meth c T locs cells slots) (hx : p.tables.exec = Jvm.exec) {k : Nat} {v : Int64} (hd : decode c.code pc = .ok (.lload k, 2)) (hl : Ls[k]? = some (.val (.long v))) (K : Go p.tables e below G (T.setTop (mkF m (pc + 2) Ls (.long v :: rest)))) : Go p.tables e below G (T.setTop (mkF m (pc) Ls rest)) := K.via fun _ r => XT.lload X.here hx rfl hd hl r
theorem iconst (X : Stand p l e R s m args below meth c T locs cells slots) (hx : p.tables.exec = Jvm.exec) {i : Int} (v : Int32) (hd : decode c.code pc = .ok (.iconst i, 1)) (hv : Int32.ofInt i = v) (K : Go p.tables e below G (T.setTop (mkF m (pc + 1) Ls (.int v :: rest)))) : Go p.tables e below G (T.setTop (mkF m (pc) Ls rest)) := K.via fun _ r => XT.iconstV X.here hx rfl v hd hv r
theorem bipush (X : Stand p l e R s m args below meth c T locs cells slots) (hx : p.tables.exec = Jvm.exec) {i : Int} (v : Int32) (hd : decode c.code pc = .ok (.bipush i, 2)) (hv : (Int8.ofInt i).toInt32 = v) (K : Go p.tables e below G (T.setTop (mkF m (pc + 2) Ls (.int v :: rest)))) : Go p.tables e below G (T.setTop (mkF m (pc) Ls rest)) := K.via fun _ r => XT.bipushV X.here hx rfl v hd hv r
theorem sipush (X : Stand p l e R s m args below meth c T locs cells slots) (hx : p.tables.exec = Jvm.exec) {i : Int} (v : Int32) (hd : decode c.code pc = .ok (.sipush i, 3)) (hv : (Int16.ofInt i).toInt32 = v) (K : Go p.tables e below G (T.setTop (mkF m (pc + 3) Ls (.int v :: rest)))) : Go p.tables e below G (T.setTop (mkF m (pc) Ls rest)) := K.via fun _ r => XT.sipushV X.here hx rfl v hd hv r
theorem lconst (X : Stand p l e R s m args below meth c T locs cells slots) (hx : p.tables.exec = Jvm.exec) {k : Fin 2} (v : Int64) (hd : decode c.code pc = .ok (.lconst k, 1)) (hv : Int64.ofNat k = v) (K : Go p.tables e below G (T.setTop (mkF m (pc + 1) Ls (.long v :: rest)))) : Go p.tables e below G (T.setTop (mkF m (pc) Ls rest)) := K.via fun _ r => XT.lconstV X.here hx rfl v hd hv r
theorem aconst_null (X : Stand p l e R s m args below meth c T locs cells slots) (hx : p.tables.exec = Jvm.exec)  (hd : decode c.code pc = .ok (.aconst_null, 1))  (K : Go p.tables e below G (T.setTop (mkF m (pc + 1) Ls (.null :: rest)))) : Go p.tables e below G (T.setTop (mkF m (pc) Ls rest)) := K.via fun _ r => XS.aconstNull X.here hx rfl hd r
theorem ldcI (X : Stand p l e R s m args below meth c T locs cells slots) (hx : p.tables.exec = Jvm.exec) {own : String} {index : Nat} (v : Int32) (hd : decode c.code pc = .ok (.ldc index, 2)) (hown : s.vm.findClass own = some m.cls) (hc : (Cond.constant own index v).before args s = true) (K : Go p.tables e below G (T.setTop (mkF m (pc + 2) Ls (.int v :: rest)))) : Go p.tables e below G (T.setTop (mkF m (pc) Ls rest)) := K.via fun _ r => X.ldcI hx hown hc rfl hd r
theorem ldcWI (X : Stand p l e R s m args below meth c T locs cells slots) (hx : p.tables.exec = Jvm.exec) {own : String} {index : Nat} (v : Int32) (hd : decode c.code pc = .ok (.ldc_w index, 3)) (hown : s.vm.findClass own = some m.cls) (hc : (Cond.constant own index v).before args s = true) (K : Go p.tables e below G (T.setTop (mkF m (pc + 3) Ls (.int v :: rest)))) : Go p.tables e below G (T.setTop (mkF m (pc) Ls rest)) := K.via fun _ r => X.ldcWI hx hown hc rfl hd r
theorem ldc2J (X : Stand p l e R s m args below meth c T locs cells slots) (hx : p.tables.exec = Jvm.exec) {own : String} {index : Nat} (v : Int64) (hd : decode c.code pc = .ok (.ldc2_w index, 3)) (hown : s.vm.findClass own = some m.cls) (hc : (Cond.constantLong own index v).before args s = true) (K : Go p.tables e below G (T.setTop (mkF m (pc + 3) Ls (.long v :: rest)))) : Go p.tables e below G (T.setTop (mkF m (pc) Ls rest)) := K.via fun _ r => X.ldc2J hx hown hc rfl hd r
theorem iadd (X : Stand p l e R s m args below meth c T locs cells slots) (hx : p.tables.exec = Jvm.exec) {x y : Int32} (hd : decode c.code pc = .ok (.iadd, 1))  (K : Go p.tables e below G (T.setTop (mkF m (pc + 1) Ls (.int (x + y) :: rest)))) : Go p.tables e below G (T.setTop (mkF m (pc) Ls (.int y :: .int x :: rest))) := K.via fun _ r => XS.iadd X.here hx rfl hd rfl r
theorem isub (X : Stand p l e R s m args below meth c T locs cells slots) (hx : p.tables.exec = Jvm.exec) {x y : Int32} (hd : decode c.code pc = .ok (.isub, 1))  (K : Go p.tables e below G (T.setTop (mkF m (pc + 1) Ls (.int (x - y) :: rest)))) : Go p.tables e below G (T.setTop (mkF m (pc) Ls (.int y :: .int x :: rest))) := K.via fun _ r => XS.isub X.here hx rfl hd rfl r
theorem iand (X : Stand p l e R s m args below meth c T locs cells slots) (hx : p.tables.exec = Jvm.exec) {x y : Int32} (hd : decode c.code pc = .ok (.iand, 1))  (K : Go p.tables e below G (T.setTop (mkF m (pc + 1) Ls (.int (x &&& y) :: rest)))) : Go p.tables e below G (T.setTop (mkF m (pc) Ls (.int y :: .int x :: rest))) := K.via fun _ r => XS.iand X.here hx rfl hd rfl r
theorem imul (X : Stand p l e R s m args below meth c T locs cells slots) (hx : p.tables.exec = Jvm.exec) {x y : Int32} (hd : decode c.code pc = .ok (.imul, 1))  (K : Go p.tables e below G (T.setTop (mkF m (pc + 1) Ls (.int (x * y) :: rest)))) : Go p.tables e below G (T.setTop (mkF m (pc) Ls (.int y :: .int x :: rest))) := K.via fun _ r => XS.imul X.here hx rfl hd rfl r
theorem ixor (X : Stand p l e R s m args below meth c T locs cells slots) (hx : p.tables.exec = Jvm.exec) {x y : Int32} (hd : decode c.code pc = .ok (.ixor, 1))  (K : Go p.tables e below G (T.setTop (mkF m (pc + 1) Ls (.int (x ^^^ y) :: rest)))) : Go p.tables e below G (T.setTop (mkF m (pc) Ls (.int y :: .int x :: rest))) := K.via fun _ r => XT.ixor X.here hx rfl hd rfl r
theorem ior (X : Stand p l e R s m args below meth c T locs cells slots) (hx : p.tables.exec = Jvm.exec) {x y : Int32} (hd : decode c.code pc = .ok (.ior, 1))  (K : Go p.tables e below G (T.setTop (mkF m (pc + 1) Ls (.int (x ||| y) :: rest)))) : Go p.tables e below G (T.setTop (mkF m (pc) Ls (.int y :: .int x :: rest))) := K.via fun _ r => XT.ior X.here hx rfl hd rfl r
theorem ishl (X : Stand p l e R s m args below meth c T locs cells slots) (hx : p.tables.exec = Jvm.exec) {x y : Int32} (hd : decode c.code pc = .ok (.ishl, 1))  (K : Go p.tables e below G (T.setTop (mkF m (pc + 1) Ls (.int (x <<< (y &&& 31)) :: rest)))) : Go p.tables e below G (T.setTop (mkF m (pc) Ls (.int y :: .int x :: rest))) := K.via fun _ r => XT.ishl X.here hx rfl hd rfl r
theorem ishr (X : Stand p l e R s m args below meth c T locs cells slots) (hx : p.tables.exec = Jvm.exec) {x y : Int32} (hd : decode c.code pc = .ok (.ishr, 1))  (K : Go p.tables e below G (T.setTop (mkF m (pc + 1) Ls (.int (x >>> (y &&& 31)) :: rest)))) : Go p.tables e below G (T.setTop (mkF m (pc) Ls (.int y :: .int x :: rest))) := K.via fun _ r => XT.ishr X.here hx rfl hd rfl r
theorem iushr (X : Stand p l e R s m args below meth c T locs cells slots) (hx : p.tables.exec = Jvm.exec) {x y : Int32} (hd : decode c.code pc = .ok (.iushr, 1))  (K : Go p.tables e below G (T.setTop (mkF m (pc + 1) Ls (.int (XT.ushr x y) :: rest)))) : Go p.tables e below G (T.setTop (mkF m (pc) Ls (.int y :: .int x :: rest))) := K.via fun _ r => XT.iushr X.here hx rfl hd rfl r
theorem idiv (X : Stand p l e R s m args below meth c T locs cells slots) (hx : p.tables.exec = Jvm.exec) {x y : Int32} (hd : decode c.code pc = .ok (.idiv, 1)) (hy : y ≠ 0) (K : Go p.tables e below G (T.setTop (mkF m (pc + 1) Ls (.int (x / y) :: rest)))) : Go p.tables e below G (T.setTop (mkF m (pc) Ls (.int y :: .int x :: rest))) := K.via fun _ r => XS.idiv X.here hx rfl hd rfl hy r
theorem irem (X : Stand p l e R s m args below meth c T locs cells slots) (hx : p.tables.exec = Jvm.exec) {x y : Int32} (hd : decode c.code pc = .ok (.irem, 1)) (hy : y ≠ 0) (K : Go p.tables e below G (T.setTop (mkF m (pc + 1) Ls (.int (x % y) :: rest)))) : Go p.tables e below G (T.setTop (mkF m (pc) Ls (.int y :: .int x :: rest))) := K.via fun _ r => RoadKit.iremM X hx rfl hd rfl hy r
theorem ineg (X : Stand p l e R s m args below meth c T locs cells slots) (hx : p.tables.exec = Jvm.exec) {x : Int32} (hd : decode c.code pc = .ok (.ineg, 1))  (K : Go p.tables e below G (T.setTop (mkF m (pc + 1) Ls (.int (-x) :: rest)))) : Go p.tables e below G (T.setTop (mkF m (pc) Ls (.int x :: rest))) := K.via fun _ r => XS.ineg X.here hx rfl hd rfl r
theorem ladd (X : Stand p l e R s m args below meth c T locs cells slots) (hx : p.tables.exec = Jvm.exec) {x y : Int64} (hd : decode c.code pc = .ok (.ladd, 1))  (K : Go p.tables e below G (T.setTop (mkF m (pc + 1) Ls (.long (x + y) :: rest)))) : Go p.tables e below G (T.setTop (mkF m (pc) Ls (.long y :: .long x :: rest))) := K.via fun _ r => XT.ladd X.here hx rfl hd rfl r
theorem lsub (X : Stand p l e R s m args below meth c T locs cells slots) (hx : p.tables.exec = Jvm.exec) {x y : Int64} (hd : decode c.code pc = .ok (.lsub, 1))  (K : Go p.tables e below G (T.setTop (mkF m (pc + 1) Ls (.long (x - y) :: rest)))) : Go p.tables e below G (T.setTop (mkF m (pc) Ls (.long y :: .long x :: rest))) := K.via fun _ r => XT.lsub X.here hx rfl hd rfl r
theorem lmul (X : Stand p l e R s m args below meth c T locs cells slots) (hx : p.tables.exec = Jvm.exec) {x y : Int64} (hd : decode c.code pc = .ok (.lmul, 1))  (K : Go p.tables e below G (T.setTop (mkF m (pc + 1) Ls (.long (x * y) :: rest)))) : Go p.tables e below G (T.setTop (mkF m (pc) Ls (.long y :: .long x :: rest))) := K.via fun _ r => XT.lmul X.here hx rfl hd rfl r
theorem land (X : Stand p l e R s m args below meth c T locs cells slots) (hx : p.tables.exec = Jvm.exec) {x y : Int64} (hd : decode c.code pc = .ok (.land, 1))  (K : Go p.tables e below G (T.setTop (mkF m (pc + 1) Ls (.long (x &&& y) :: rest)))) : Go p.tables e below G (T.setTop (mkF m (pc) Ls (.long y :: .long x :: rest))) := K.via fun _ r => XT.land X.here hx rfl hd rfl r
theorem lor (X : Stand p l e R s m args below meth c T locs cells slots) (hx : p.tables.exec = Jvm.exec) {x y : Int64} (hd : decode c.code pc = .ok (.lor, 1))  (K : Go p.tables e below G (T.setTop (mkF m (pc + 1) Ls (.long (x ||| y) :: rest)))) : Go p.tables e below G (T.setTop (mkF m (pc) Ls (.long y :: .long x :: rest))) := K.via fun _ r => XT.lor X.here hx rfl hd rfl r
theorem lxor (X : Stand p l e R s m args below meth c T locs cells slots) (hx : p.tables.exec = Jvm.exec) {x y : Int64} (hd : decode c.code pc = .ok (.lxor, 1))  (K : Go p.tables e below G (T.setTop (mkF m (pc + 1) Ls (.long (x ^^^ y) :: rest)))) : Go p.tables e below G (T.setTop (mkF m (pc) Ls (.long y :: .long x :: rest))) := K.via fun _ r => XT.lxor X.here hx rfl hd rfl r
theorem ldiv (X : Stand p l e R s m args below meth c T locs cells slots) (hx : p.tables.exec = Jvm.exec) {x y : Int64} (hd : decode c.code pc = .ok (.ldiv, 1)) (hy : y ≠ 0) (K : Go p.tables e below G (T.setTop (mkF m (pc + 1) Ls (.long (x / y) :: rest)))) : Go p.tables e below G (T.setTop (mkF m (pc) Ls (.long y :: .long x :: rest))) := K.via fun _ r => XT.ldiv X.here hx rfl hd rfl hy r
theorem lrem (X : Stand p l e R s m args below meth c T locs cells slots) (hx : p.tables.exec = Jvm.exec) {x y : Int64} (hd : decode c.code pc = .ok (.lrem, 1)) (hy : y ≠ 0) (K : Go p.tables e below G (T.setTop (mkF m (pc + 1) Ls (.long (x - (x / y) * y) :: rest)))) : Go p.tables e below G (T.setTop (mkF m (pc) Ls (.long y :: .long x :: rest))) := K.via fun _ r => XT.lrem X.here hx rfl hd rfl hy r
theorem lshl (X : Stand p l e R s m args below meth c T locs cells slots) (hx : p.tables.exec = Jvm.exec) {x : Int64} {y : Int32} (hd : decode c.code pc = .ok (.lshl, 1))  (K : Go p.tables e below G (T.setTop (mkF m (pc + 1) Ls (.long (x <<< (y.toInt64 &&& 63)) :: rest)))) : Go p.tables e below G (T.setTop (mkF m (pc) Ls (.int y :: .long x :: rest))) := K.via fun _ r => XT.lshl X.here hx rfl hd rfl r
theorem lshr (X : Stand p l e R s m args below meth c T locs cells slots) (hx : p.tables.exec = Jvm.exec) {x : Int64} {y : Int32} (hd : decode c.code pc = .ok (.lshr, 1))  (K : Go p.tables e below G (T.setTop (mkF m (pc + 1) Ls (.long (x >>> (y.toInt64 &&& 63)) :: rest)))) : Go p.tables e below G (T.setTop (mkF m (pc) Ls (.int y :: .long x :: rest))) := K.via fun _ r => XT.lshr X.here hx rfl hd rfl r
theorem lushr (X : Stand p l e R s m args below meth c T locs cells slots) (hx : p.tables.exec = Jvm.exec) {x : Int64} {y : Int32} (hd : decode c.code pc = .ok (.lushr, 1))  (K : Go p.tables e below G (T.setTop (mkF m (pc + 1) Ls (.long (XT.ushrL x y) :: rest)))) : Go p.tables e below G (T.setTop (mkF m (pc) Ls (.int y :: .long x :: rest))) := K.via fun _ r => XT.lushr X.here hx rfl hd rfl r
theorem lneg (X : Stand p l e R s m args below meth c T locs cells slots) (hx : p.tables.exec = Jvm.exec) {x : Int64} (hd : decode c.code pc = .ok (.lneg, 1))  (K : Go p.tables e below G (T.setTop (mkF m (pc + 1) Ls (.long (-x) :: rest)))) : Go p.tables e below G (T.setTop (mkF m (pc) Ls (.long x :: rest))) := K.via fun _ r => XT.lneg X.here hx rfl hd rfl r
theorem lcmp (X : Stand p l e R s m args below meth c T locs cells slots) (hx : p.tables.exec = Jvm.exec) {x y : Int64} (hd : decode c.code pc = .ok (.lcmp, 1))  (K : Go p.tables e below G (T.setTop (mkF m (pc + 1) Ls (.int (XT.cmpL x y) :: rest)))) : Go p.tables e below G (T.setTop (mkF m (pc) Ls (.long y :: .long x :: rest))) := K.via fun _ r => XT.lcmp X.here hx rfl hd rfl r
theorem i2l (X : Stand p l e R s m args below meth c T locs cells slots) (hx : p.tables.exec = Jvm.exec) {x : Int32} (hd : decode c.code pc = .ok (.i2l, 1))  (K : Go p.tables e below G (T.setTop (mkF m (pc + 1) Ls (.long (x.toInt64) :: rest)))) : Go p.tables e below G (T.setTop (mkF m (pc) Ls (.int x :: rest))) := K.via fun _ r => XT.i2l X.here hx rfl hd rfl r
theorem l2i (X : Stand p l e R s m args below meth c T locs cells slots) (hx : p.tables.exec = Jvm.exec) {x : Int64} (hd : decode c.code pc = .ok (.l2i, 1))  (K : Go p.tables e below G (T.setTop (mkF m (pc + 1) Ls (.int (x.toInt32) :: rest)))) : Go p.tables e below G (T.setTop (mkF m (pc) Ls (.long x :: rest))) := K.via fun _ r => XT.l2i X.here hx rfl hd rfl r
theorem i2b (X : Stand p l e R s m args below meth c T locs cells slots) (hx : p.tables.exec = Jvm.exec) {x : Int32} (hd : decode c.code pc = .ok (.i2b, 1))  (K : Go p.tables e below G (T.setTop (mkF m (pc + 1) Ls (.int (x.toInt8.toInt32) :: rest)))) : Go p.tables e below G (T.setTop (mkF m (pc) Ls (.int x :: rest))) := K.via fun _ r => XT.i2b X.here hx rfl hd rfl r
theorem i2c (X : Stand p l e R s m args below meth c T locs cells slots) (hx : p.tables.exec = Jvm.exec) {x : Int32} (hd : decode c.code pc = .ok (.i2c, 1))  (K : Go p.tables e below G (T.setTop (mkF m (pc + 1) Ls (.int (x.toUInt32.toUInt16.toUInt32.toInt32) :: rest)))) : Go p.tables e below G (T.setTop (mkF m (pc) Ls (.int x :: rest))) := K.via fun _ r => XT.i2c X.here hx rfl hd rfl r
theorem i2s (X : Stand p l e R s m args below meth c T locs cells slots) (hx : p.tables.exec = Jvm.exec) {x : Int32} (hd : decode c.code pc = .ok (.i2s, 1))  (K : Go p.tables e below G (T.setTop (mkF m (pc + 1) Ls (.int (x.toInt16.toInt32) :: rest)))) : Go p.tables e below G (T.setTop (mkF m (pc) Ls (.int x :: rest))) := K.via fun _ r => XT.i2s X.here hx rfl hd rfl r
theorem dup (X : Stand p l e R s m args below meth c T locs cells slots) (hx : p.tables.exec = Jvm.exec) {v : Value} (hd : decode c.code pc = .ok (.dup, 1)) (hv : v.category = 1) (K : Go p.tables e below G (T.setTop (mkF m (pc + 1) Ls (v :: v :: rest)))) : Go p.tables e below G (T.setTop (mkF m (pc) Ls (v :: rest))) := K.via fun _ r => XS.dup X.here hx rfl hd rfl hv r
theorem pop (X : Stand p l e R s m args below meth c T locs cells slots) (hx : p.tables.exec = Jvm.exec) {v : Value} (hd : decode c.code pc = .ok (.pop, 1)) (hv : v.category = 1) (K : Go p.tables e below G (T.setTop (mkF m (pc + 1) Ls rest))) : Go p.tables e below G (T.setTop (mkF m (pc) Ls (v :: rest))) := K.via fun _ r => XT.pop X.here hx rfl hd rfl hv r
theorem dup_x1 (X : Stand p l e R s m args below meth c T locs cells slots) (hx : p.tables.exec = Jvm.exec) {v w : Value} (hd : decode c.code pc = .ok (.dup_x1, 1)) (hv : v.category = 1) (hw : w.category = 1) (K : Go p.tables e below G (T.setTop (mkF m (pc + 1) Ls (v :: w :: v :: rest)))) : Go p.tables e below G (T.setTop (mkF m (pc) Ls (v :: w :: rest))) := K.via fun _ r => XT.dupX1 X.here hx rfl hd rfl hv hw r
theorem dup2 (X : Stand p l e R s m args below meth c T locs cells slots) (hx : p.tables.exec = Jvm.exec) {v w : Value} (hd : decode c.code pc = .ok (.dup2, 1)) (hv : v.category = 1) (hw : w.category = 1) (K : Go p.tables e below G (T.setTop (mkF m (pc + 1) Ls (v :: w :: v :: w :: rest)))) : Go p.tables e below G (T.setTop (mkF m (pc) Ls (v :: w :: rest))) := K.via fun _ r => XT.dup2 X.here hx rfl hd rfl hv hw r
theorem dup2L (X : Stand p l e R s m args below meth c T locs cells slots) (hx : p.tables.exec = Jvm.exec) {x : Int64} (hd : decode c.code pc = .ok (.dup2, 1))  (K : Go p.tables e below G (T.setTop (mkF m (pc + 1) Ls (.long x :: .long x :: rest)))) : Go p.tables e below G (T.setTop (mkF m (pc) Ls (.long x :: rest))) := K.via fun _ r => XT.dup2L X.here hx rfl hd rfl r
theorem istoreN (X : Stand p l e R s m args below meth c T locs cells slots) (hx : p.tables.exec = Jvm.exec) {k : Fin 4} {x : Int32} (L2 : Array Slot) (hd : decode c.code pc = .ok (.istore_n k, 1))  (hl : storeLocals Ls k.val (.int x) = some L2) (K : Go p.tables e below G (T.setTop (mkF m (pc + 1) L2 rest))) : Go p.tables e below G (T.setTop (mkF m (pc) Ls ((.int x) :: rest))) := K.via fun _ r => XS.istoreN X.here hx rfl hd rfl hl r
theorem istore (X : Stand p l e R s m args below meth c T locs cells slots) (hx : p.tables.exec = Jvm.exec) {k : Nat} {x : Int32} (L2 : Array Slot) (hd : decode c.code pc = .ok (.istore k, 2))  (hl : storeLocals Ls k (.int x) = some L2) (K : Go p.tables e below G (T.setTop (mkF m (pc + 2) L2 rest))) : Go p.tables e below G (T.setTop (mkF m (pc) Ls ((.int x) :: rest))) := K.via fun _ r => XS.istore X.here hx rfl hd rfl hl r
theorem astoreN (X : Stand p l e R s m args below meth c T locs cells slots) (hx : p.tables.exec = Jvm.exec) {k : Fin 4} {v : Value} (L2 : Array Slot) (hd : decode c.code pc = .ok (.astore_n k, 1)) (hv : v.isRef = true) (hl : storeLocals Ls k.val v = some L2) (K : Go p.tables e below G (T.setTop (mkF m (pc + 1) L2 rest))) : Go p.tables e below G (T.setTop (mkF m (pc) Ls (v :: rest))) := K.via fun _ r => XS.astoreN X.here hx rfl hd rfl hv hl r
theorem astore (X : Stand p l e R s m args below meth c T locs cells slots) (hx : p.tables.exec = Jvm.exec) {k : Nat} {v : Value} (L2 : Array Slot) (hd : decode c.code pc = .ok (.astore k, 2)) (hv : v.isRef = true) (hl : storeLocals Ls k v = some L2) (K : Go p.tables e below G (T.setTop (mkF m (pc + 2) L2 rest))) : Go p.tables e below G (T.setTop (mkF m (pc) Ls (v :: rest))) := K.via fun _ r => XS.astore X.here hx rfl hd rfl hv hl r
theorem lstoreN (X : Stand p l e R s m args below meth c T locs cells slots) (hx : p.tables.exec = Jvm.exec) {k : Fin 4} {x : Int64} (L2 : Array Slot) (hd : decode c.code pc = .ok (.lstore_n k, 1))  (hl : storeLocals Ls k.val (.long x) = some L2) (K : Go p.tables e below G (T.setTop (mkF m (pc + 1) L2 rest))) : Go p.tables e below G (T.setTop (mkF m (pc) Ls ((.long x) :: rest))) := K.via fun _ r => XT.lstoreN X.here hx rfl hd rfl hl r
theorem lstore (X : Stand p l e R s m args below meth c T locs cells slots) (hx : p.tables.exec = Jvm.exec) {k : Nat} {x : Int64} (L2 : Array Slot) (hd : decode c.code pc = .ok (.lstore k, 2))  (hl : storeLocals Ls k (.long x) = some L2) (K : Go p.tables e below G (T.setTop (mkF m (pc + 2) L2 rest))) : Go p.tables e below G (T.setTop (mkF m (pc) Ls ((.long x) :: rest))) := K.via fun _ r => XT.lstore X.here hx rfl hd rfl hl r
theorem iinc (X : Stand p l e R s m args below meth c T locs cells slots) (hx : p.tables.exec = Jvm.exec) {k : Nat} {cst : Int} {x : Int32} (v : Int32) (L2 : Array Slot) (hd : decode c.code pc = .ok (.iinc k cst, 3)) (hv : Int32.ofInt cst = v) (hl : Ls[k]? = some (.val (.int x))) (hl' : storeLocals Ls k (.int (x + v)) = some L2) (K : Go p.tables e below G (T.setTop (mkF m (pc + 3) L2 rest))) : Go p.tables e below G (T.setTop (mkF m (pc) Ls rest)) := K.via fun _ r => XT.iincV X.here hx rfl v hd hv hl hl' r
theorem goto (X : Stand p l e R s m args below meth c T locs cells slots) (hx : p.tables.exec = Jvm.exec) {o : Int} (hd : decode c.code pc = .ok (.goto o, 3)) (ho : 0 ≤ (pc : Int) + o) (hp : ((pc : Int) + o).toNat = pc') (K : Go p.tables e below G (T.setTop (mkF m (pc') Ls rest))) : Go p.tables e below G (T.setTop (mkF m (pc) Ls rest)) := K.via fun _ r => XS.goto X.here hx rfl rfl hd ho hp r
theorem if_eq (X : Stand p l e R s m args below meth c T locs cells slots) (hx : p.tables.exec = Jvm.exec) {x : Int32} {o : Int} (hd : decode c.code pc = .ok (.ifCond .eq o, 3)) (ho : 0 ≤ (pc : Int) + o) (hp : ((pc : Int) + o).toNat = pc') (KT : x = 0 → Go p.tables e below G (T.setTop (mkF m (pc') Ls rest))) (KF : ¬ x = 0 → Go p.tables e below G (T.setTop (mkF m (pc + 3) Ls rest))) : Go p.tables e below G (T.setTop (mkF m (pc) Ls (.int x :: rest))) := by
  by_cases h : x = 0
  · exact (KT h).via fun _ r => XS.ifYes X.here hx rfl rfl hd rfl (XT.i0_eq_t h) ho hp r
  · exact (KF h).via fun _ r => XS.ifNo X.here hx rfl hd rfl (XT.i0_eq_f h) r
theorem if_ne (X : Stand p l e R s m args below meth c T locs cells slots) (hx : p.tables.exec = Jvm.exec) {x : Int32} {o : Int} (hd : decode c.code pc = .ok (.ifCond .ne o, 3)) (ho : 0 ≤ (pc : Int) + o) (hp : ((pc : Int) + o).toNat = pc') (KT : ¬ x = 0 → Go p.tables e below G (T.setTop (mkF m (pc') Ls rest))) (KF : x = 0 → Go p.tables e below G (T.setTop (mkF m (pc + 3) Ls rest))) : Go p.tables e below G (T.setTop (mkF m (pc) Ls (.int x :: rest))) := by
  by_cases h : x = 0
  · exact (KF h).via fun _ r => XS.ifNo X.here hx rfl hd rfl (XT.i0_ne_f h) r
  · exact (KT h).via fun _ r => XS.ifYes X.here hx rfl rfl hd rfl (XT.i0_ne_t h) ho hp r
theorem if_lt (X : Stand p l e R s m args below meth c T locs cells slots) (hx : p.tables.exec = Jvm.exec) {x : Int32} {o : Int} (hd : decode c.code pc = .ok (.ifCond .lt o, 3)) (ho : 0 ≤ (pc : Int) + o) (hp : ((pc : Int) + o).toNat = pc') (KT : x < 0 → Go p.tables e below G (T.setTop (mkF m (pc') Ls rest))) (KF : ¬ x < 0 → Go p.tables e below G (T.setTop (mkF m (pc + 3) Ls rest))) : Go p.tables e below G (T.setTop (mkF m (pc) Ls (.int x :: rest))) := by
  by_cases h : x < 0
  · exact (KT h).via fun _ r => XS.ifYes X.here hx rfl rfl hd rfl (XT.i0_lt_t h) ho hp r
  · exact (KF h).via fun _ r => XS.ifNo X.here hx rfl hd rfl (XT.i0_lt_f h) r
theorem if_ge (X : Stand p l e R s m args below meth c T locs cells slots) (hx : p.tables.exec = Jvm.exec) {x : Int32} {o : Int} (hd : decode c.code pc = .ok (.ifCond .ge o, 3)) (ho : 0 ≤ (pc : Int) + o) (hp : ((pc : Int) + o).toNat = pc') (KT : ¬ x < 0 → Go p.tables e below G (T.setTop (mkF m (pc') Ls rest))) (KF : x < 0 → Go p.tables e below G (T.setTop (mkF m (pc + 3) Ls rest))) : Go p.tables e below G (T.setTop (mkF m (pc) Ls (.int x :: rest))) := by
  by_cases h : x < 0
  · exact (KF h).via fun _ r => XS.ifNo X.here hx rfl hd rfl (XT.i0_ge_f h) r
  · exact (KT h).via fun _ r => XS.ifYes X.here hx rfl rfl hd rfl (XT.i0_ge_t h) ho hp r
theorem if_gt (X : Stand p l e R s m args below meth c T locs cells slots) (hx : p.tables.exec = Jvm.exec) {x : Int32} {o : Int} (hd : decode c.code pc = .ok (.ifCond .gt o, 3)) (ho : 0 ≤ (pc : Int) + o) (hp : ((pc : Int) + o).toNat = pc') (KT : 0 < x → Go p.tables e below G (T.setTop (mkF m (pc') Ls rest))) (KF : ¬ 0 < x → Go p.tables e below G (T.setTop (mkF m (pc + 3) Ls rest))) : Go p.tables e below G (T.setTop (mkF m (pc) Ls (.int x :: rest))) := by
  by_cases h : 0 < x
  · exact (KT h).via fun _ r => XS.ifYes X.here hx rfl rfl hd rfl (XT.i0_gt_t h) ho hp r
  · exact (KF h).via fun _ r => XS.ifNo X.here hx rfl hd rfl (XT.i0_gt_f h) r
theorem if_le (X : Stand p l e R s m args below meth c T locs cells slots) (hx : p.tables.exec = Jvm.exec) {x : Int32} {o : Int} (hd : decode c.code pc = .ok (.ifCond .le o, 3)) (ho : 0 ≤ (pc : Int) + o) (hp : ((pc : Int) + o).toNat = pc') (KT : ¬ 0 < x → Go p.tables e below G (T.setTop (mkF m (pc') Ls rest))) (KF : 0 < x → Go p.tables e below G (T.setTop (mkF m (pc + 3) Ls rest))) : Go p.tables e below G (T.setTop (mkF m (pc) Ls (.int x :: rest))) := by
  by_cases h : 0 < x
  · exact (KF h).via fun _ r => XS.ifNo X.here hx rfl hd rfl (XT.i0_le_f h) r
  · exact (KT h).via fun _ r => XS.ifYes X.here hx rfl rfl hd rfl (XT.i0_le_t h) ho hp r
theorem icmp_eq (X : Stand p l e R s m args below meth c T locs cells slots) (hx : p.tables.exec = Jvm.exec) {x y : Int32} {o : Int} (hd : decode c.code pc = .ok (.if_icmp .eq o, 3)) (ho : 0 ≤ (pc : Int) + o) (hp : ((pc : Int) + o).toNat = pc') (KT : x = y → Go p.tables e below G (T.setTop (mkF m (pc') Ls rest))) (KF : ¬ x = y → Go p.tables e below G (T.setTop (mkF m (pc + 3) Ls rest))) : Go p.tables e below G (T.setTop (mkF m (pc) Ls (.int y :: .int x :: rest))) := by
  by_cases h : x = y
  · exact (KT h).via fun _ r => XS.icmpYes X.here hx rfl rfl hd rfl (XT.ii_eq_t h) ho hp r
  · exact (KF h).via fun _ r => XS.icmpNo X.here hx rfl hd rfl (XT.ii_eq_f h) r
theorem icmp_ne (X : Stand p l e R s m args below meth c T locs cells slots) (hx : p.tables.exec = Jvm.exec) {x y : Int32} {o : Int} (hd : decode c.code pc = .ok (.if_icmp .ne o, 3)) (ho : 0 ≤ (pc : Int) + o) (hp : ((pc : Int) + o).toNat = pc') (KT : ¬ x = y → Go p.tables e below G (T.setTop (mkF m (pc') Ls rest))) (KF : x = y → Go p.tables e below G (T.setTop (mkF m (pc + 3) Ls rest))) : Go p.tables e below G (T.setTop (mkF m (pc) Ls (.int y :: .int x :: rest))) := by
  by_cases h : x = y
  · exact (KF h).via fun _ r => XS.icmpNo X.here hx rfl hd rfl (XT.ii_ne_f h) r
  · exact (KT h).via fun _ r => XS.icmpYes X.here hx rfl rfl hd rfl (XT.ii_ne_t h) ho hp r
theorem icmp_lt (X : Stand p l e R s m args below meth c T locs cells slots) (hx : p.tables.exec = Jvm.exec) {x y : Int32} {o : Int} (hd : decode c.code pc = .ok (.if_icmp .lt o, 3)) (ho : 0 ≤ (pc : Int) + o) (hp : ((pc : Int) + o).toNat = pc') (KT : x < y → Go p.tables e below G (T.setTop (mkF m (pc') Ls rest))) (KF : ¬ x < y → Go p.tables e below G (T.setTop (mkF m (pc + 3) Ls rest))) : Go p.tables e below G (T.setTop (mkF m (pc) Ls (.int y :: .int x :: rest))) := by
  by_cases h : x < y
  · exact (KT h).via fun _ r => XS.icmpYes X.here hx rfl rfl hd rfl (XT.ii_lt_t h) ho hp r
  · exact (KF h).via fun _ r => XS.icmpNo X.here hx rfl hd rfl (XT.ii_lt_f h) r
theorem icmp_ge (X : Stand p l e R s m args below meth c T locs cells slots) (hx : p.tables.exec = Jvm.exec) {x y : Int32} {o : Int} (hd : decode c.code pc = .ok (.if_icmp .ge o, 3)) (ho : 0 ≤ (pc : Int) + o) (hp : ((pc : Int) + o).toNat = pc') (KT : ¬ x < y → Go p.tables e below G (T.setTop (mkF m (pc') Ls rest))) (KF : x < y → Go p.tables e below G (T.setTop (mkF m (pc + 3) Ls rest))) : Go p.tables e below G (T.setTop (mkF m (pc) Ls (.int y :: .int x :: rest))) := by
  by_cases h : x < y
  · exact (KF h).via fun _ r => XS.icmpNo X.here hx rfl hd rfl (XT.ii_ge_f h) r
  · exact (KT h).via fun _ r => XS.icmpYes X.here hx rfl rfl hd rfl (XT.ii_ge_t h) ho hp r
theorem icmp_gt (X : Stand p l e R s m args below meth c T locs cells slots) (hx : p.tables.exec = Jvm.exec) {x y : Int32} {o : Int} (hd : decode c.code pc = .ok (.if_icmp .gt o, 3)) (ho : 0 ≤ (pc : Int) + o) (hp : ((pc : Int) + o).toNat = pc') (KT : y < x → Go p.tables e below G (T.setTop (mkF m (pc') Ls rest))) (KF : ¬ y < x → Go p.tables e below G (T.setTop (mkF m (pc + 3) Ls rest))) : Go p.tables e below G (T.setTop (mkF m (pc) Ls (.int y :: .int x :: rest))) := by
  by_cases h : y < x
  · exact (KT h).via fun _ r => XS.icmpYes X.here hx rfl rfl hd rfl (XT.ii_gt_t h) ho hp r
  · exact (KF h).via fun _ r => XS.icmpNo X.here hx rfl hd rfl (XT.ii_gt_f h) r
theorem icmp_le (X : Stand p l e R s m args below meth c T locs cells slots) (hx : p.tables.exec = Jvm.exec) {x y : Int32} {o : Int} (hd : decode c.code pc = .ok (.if_icmp .le o, 3)) (ho : 0 ≤ (pc : Int) + o) (hp : ((pc : Int) + o).toNat = pc') (KT : ¬ y < x → Go p.tables e below G (T.setTop (mkF m (pc') Ls rest))) (KF : y < x → Go p.tables e below G (T.setTop (mkF m (pc + 3) Ls rest))) : Go p.tables e below G (T.setTop (mkF m (pc) Ls (.int y :: .int x :: rest))) := by
  by_cases h : y < x
  · exact (KF h).via fun _ r => XS.icmpNo X.here hx rfl hd rfl (XT.ii_le_f h) r
  · exact (KT h).via fun _ r => XS.icmpYes X.here hx rfl rfl hd rfl (XT.ii_le_t h) ho hp r
theorem ifnull_n (X : Stand p l e R s m args below meth c T locs cells slots) (hx : p.tables.exec = Jvm.exec) {o : Int} (hd : decode c.code pc = .ok (.ifnull o, 3)) (ho : 0 ≤ (pc : Int) + o) (hp : ((pc : Int) + o).toNat = pc') (K : Go p.tables e below G (T.setTop (mkF m (pc') Ls rest))) : Go p.tables e below G (T.setTop (mkF m (pc) Ls (.null :: rest))) := K.via fun _ r => XS.ifnullYes X.here hx rfl rfl hd rfl ho hp r
theorem ifnull_r (X : Stand p l e R s m args below meth c T locs cells slots) (hx : p.tables.exec = Jvm.exec) {o : Int} {b : Addr} (hd : decode c.code pc = .ok (.ifnull o, 3)) (K : Go p.tables e below G (T.setTop (mkF m (pc + 3) Ls rest))) : Go p.tables e below G (T.setTop (mkF m (pc) Ls (.ref b :: rest))) := K.via fun _ r => XS.ifnullNo X.here hx rfl hd rfl r
theorem ifnonnull_r (X : Stand p l e R s m args below meth c T locs cells slots) (hx : p.tables.exec = Jvm.exec) {o : Int} {b : Addr} (hd : decode c.code pc = .ok (.ifnonnull o, 3)) (ho : 0 ≤ (pc : Int) + o) (hp : ((pc : Int) + o).toNat = pc') (K : Go p.tables e below G (T.setTop (mkF m (pc') Ls rest))) : Go p.tables e below G (T.setTop (mkF m (pc) Ls (.ref b :: rest))) := K.via fun _ r => XT.ifnonnullYes X.here hx rfl rfl hd rfl ho hp r
theorem ifnonnull_n (X : Stand p l e R s m args below meth c T locs cells slots) (hx : p.tables.exec = Jvm.exec) {o : Int} (hd : decode c.code pc = .ok (.ifnonnull o, 3)) (K : Go p.tables e below G (T.setTop (mkF m (pc + 3) Ls rest))) : Go p.tables e below G (T.setTop (mkF m (pc) Ls (.null :: rest))) := K.via fun _ r => XT.ifnonnullNo X.here hx rfl hd rfl r
theorem acmp_eq (X : Stand p l e R s m args below meth c T locs cells slots) (hx : p.tables.exec = Jvm.exec) {v w : Value} {o : Int} (hd : decode c.code pc = .ok (.if_acmp .eq o, 3)) (h1 : v.isRef = true) (h2 : w.isRef = true) (ho : 0 ≤ (pc : Int) + o) (hp : ((pc : Int) + o).toNat = pc') (KT : v = w → Go p.tables e below G (T.setTop (mkF m (pc') Ls rest))) (KF : ¬ v = w → Go p.tables e below G (T.setTop (mkF m (pc + 3) Ls rest))) : Go p.tables e below G (T.setTop (mkF m (pc) Ls (w :: v :: rest))) := by
  by_cases h : v = w
  · exact (KT h).via fun _ r => XT.acmpYes X.here hx rfl rfl hd rfl h1 h2 (XT.aa_eq_t h) ho hp r
  · exact (KF h).via fun _ r => XT.acmpNo X.here hx rfl hd rfl h1 h2 (XT.aa_eq_f h) r
theorem acmp_ne (X : Stand p l e R s m args below meth c T locs cells slots) (hx : p.tables.exec = Jvm.exec) {v w : Value} {o : Int} (hd : decode c.code pc = .ok (.if_acmp .ne o, 3)) (h1 : v.isRef = true) (h2 : w.isRef = true) (ho : 0 ≤ (pc : Int) + o) (hp : ((pc : Int) + o).toNat = pc') (KT : ¬ v = w → Go p.tables e below G (T.setTop (mkF m (pc') Ls rest))) (KF : v = w → Go p.tables e below G (T.setTop (mkF m (pc + 3) Ls rest))) : Go p.tables e below G (T.setTop (mkF m (pc) Ls (w :: v :: rest))) := by
  by_cases h : v = w
  · exact (KF h).via fun _ r => XT.acmpNo X.here hx rfl hd rfl h1 h2 (XT.aa_ne_f h) r
  · exact (KT h).via fun _ r => XT.acmpYes X.here hx rfl rfl hd rfl h1 h2 (XT.aa_ne_t h) ho hp r
theorem iaload (X : Stand p l e R s m args below meth c T locs cells slots) (hx : p.tables.exec = Jvm.exec) {Z : State} {h : Heap} (hZ : Z.Warmed39 s.vm) (eT : T.heap = h) {a : Addr} {cell : Cell} {j : Int32} (v : Value) (A : Arr Z h a cell .int) (hin : ¬ (j < 0 ∨ cell.slots.size ≤ j.toNatClampNeg)) (hv : cell.slots[j.toNatClampNeg]? = some v) (hd : decode c.code pc = .ok (.iaload, 1)) (K : Go p.tables e below G (T.setTop (mkF m (pc + 1) Ls (v :: rest)))) : Go p.tables e below G (T.setTop (mkF m (pc) Ls (.int j :: .ref a :: rest))) := K.via fun t r => X.iaload hx (g := mkF m pc Ls (.int j :: .ref a :: rest)) (by rw [eT]; exact A.1) (State.isArrayOf_alike hZ.alike A.2.1) A.2.2 hin hv rfl rfl hd t r
theorem caload (X : Stand p l e R s m args below meth c T locs cells slots) (hx : p.tables.exec = Jvm.exec) {Z : State} {h : Heap} (hZ : Z.Warmed39 s.vm) (eT : T.heap = h) {a : Addr} {cell : Cell} {j : Int32} (v : Value) (A : Arr Z h a cell .char) (hin : ¬ (j < 0 ∨ cell.slots.size ≤ j.toNatClampNeg)) (hv : cell.slots[j.toNatClampNeg]? = some v) (hd : decode c.code pc = .ok (.caload, 1)) (K : Go p.tables e below G (T.setTop (mkF m (pc + 1) Ls (v :: rest)))) : Go p.tables e below G (T.setTop (mkF m (pc) Ls (.int j :: .ref a :: rest))) := K.via fun t r => X.caload hx (g := mkF m pc Ls (.int j :: .ref a :: rest)) (by rw [eT]; exact A.1) (State.isArrayOf_alike hZ.alike A.2.1) A.2.2 hin hv rfl rfl hd t r
theorem laload (X : Stand p l e R s m args below meth c T locs cells slots) (hx : p.tables.exec = Jvm.exec) {Z : State} {h : Heap} (hZ : Z.Warmed39 s.vm) (eT : T.heap = h) {a : Addr} {cell : Cell} {j : Int32} (v : Value) (A : Arr Z h a cell .long) (hin : ¬ (j < 0 ∨ cell.slots.size ≤ j.toNatClampNeg)) (hv : cell.slots[j.toNatClampNeg]? = some v) (hd : decode c.code pc = .ok (.laload, 1)) (K : Go p.tables e below G (T.setTop (mkF m (pc + 1) Ls (v :: rest)))) : Go p.tables e below G (T.setTop (mkF m (pc) Ls (.int j :: .ref a :: rest))) := K.via fun t r => X.laload hx (g := mkF m pc Ls (.int j :: .ref a :: rest)) (by rw [eT]; exact A.1) (State.isArrayOf_alike hZ.alike A.2.1) A.2.2 hin hv rfl rfl hd t r
theorem baload (X : Stand p l e R s m args below meth c T locs cells slots) (hx : p.tables.exec = Jvm.exec) {Z : State} {h : Heap} (hZ : Z.Warmed39 s.vm) (eT : T.heap = h) {a : Addr} {cell : Cell} {j : Int32} (v : Value) (A : Arr Z h a cell .byte) (hin : ¬ (j < 0 ∨ cell.slots.size ≤ j.toNatClampNeg)) (hv : cell.slots[j.toNatClampNeg]? = some v) (hd : decode c.code pc = .ok (.baload, 1)) (K : Go p.tables e below G (T.setTop (mkF m (pc + 1) Ls (v :: rest)))) : Go p.tables e below G (T.setTop (mkF m (pc) Ls (.int j :: .ref a :: rest))) := K.via fun t r => X.baloadBytes hx (g := mkF m pc Ls (.int j :: .ref a :: rest)) (by rw [eT]; exact A.1) (State.isArrayOf_alike hZ.alike A.2.1) A.2.2 hin hv rfl rfl hd t r
theorem zaload (X : Stand p l e R s m args below meth c T locs cells slots) (hx : p.tables.exec = Jvm.exec) {Z : State} {h : Heap} (hZ : Z.Warmed39 s.vm) (eT : T.heap = h) {a : Addr} {cell : Cell} {j : Int32} (v : Value) (A : Arr Z h a cell .boolean) (hin : ¬ (j < 0 ∨ cell.slots.size ≤ j.toNatClampNeg)) (hv : cell.slots[j.toNatClampNeg]? = some v) (hd : decode c.code pc = .ok (.baload, 1)) (K : Go p.tables e below G (T.setTop (mkF m (pc + 1) Ls (v :: rest)))) : Go p.tables e below G (T.setTop (mkF m (pc) Ls (.int j :: .ref a :: rest))) := K.via fun t r => X.baloadBooleans hx (g := mkF m pc Ls (.int j :: .ref a :: rest)) (by rw [eT]; exact A.1) (State.isArrayOf_alike hZ.alike A.2.1) A.2.2 hin hv rfl rfl hd t r
theorem aaload (X : Stand p l e R s m args below meth c T locs cells slots) (hx : p.tables.exec = Jvm.exec) {Z : State} {h : Heap} (hZ : Z.Warmed39 s.vm) (eT : T.heap = h) {a : Addr} {cell : Cell} {ty : FieldType} {j : Int32} (v : Value) (A : Arr Z h a cell ty) (hty : ty.isReference = true) (hin : ¬ (j < 0 ∨ cell.slots.size ≤ j.toNatClampNeg)) (hv : cell.slots[j.toNatClampNeg]? = some v) (hd : decode c.code pc = .ok (.aaload, 1)) (K : Go p.tables e below G (T.setTop (mkF m (pc + 1) Ls (v :: rest)))) : Go p.tables e below G (T.setTop (mkF m (pc) Ls (.int j :: .ref a :: rest))) := K.via fun t r => X.aaload hx (g := mkF m pc Ls (.int j :: .ref a :: rest)) (by rw [eT]; exact A.1) (State.isArrayOf_alike hZ.alike A.2.1) hty A.2.2 hin hv rfl rfl hd t r
theorem arraylength (X : Stand p l e R s m args below meth c T locs cells slots) (hx : p.tables.exec = Jvm.exec) {Z : State} {h : Heap} (hZ : Z.Warmed39 s.vm) (eT : T.heap = h) {a : Addr} {cell : Cell} {ty : FieldType} (N : Int32) (A : Arr Z h a cell ty) (hN : cell.slots.size.toInt32 = N) (hd : decode c.code pc = .ok (.arraylength, 1)) (K : Go p.tables e below G (T.setTop (mkF m (pc + 1) Ls (.int N :: rest)))) : Go p.tables e below G (T.setTop (mkF m (pc) Ls (.ref a :: rest))) := K.via fun t r => X.arraylength hx (g := mkF m pc Ls (.ref a :: rest)) (by rw [eT]; exact A.1) (State.isArrayOf_alike hZ.alike A.2.1) rfl rfl hd t (by rw [hN]; exact r)
end Steps1
section Ends
variable {p : Program} {l : Launch} {e : Env} {R : Room} {s : State} {m : MethodId} {args : Array Value} {below : List Frame} {meth : Method} {c : Code} {T : State} {locs : List Loc} {cells slots : Nat} {pc pc' : Nat} {Ls : Array Slot} {rest : List Value} {Q : Option Value → Heap → List Loc → Prop} {k n : Nat}
/-- what a narrow contract says of its end -/
abbrev EndN (s : State) (Q : Option Value → Heap → List Loc → Prop) (k n : Nat) : Outcome → State → Prop := fun o t => ∃ v L, o = .returned v ∧ Q v t.heap L ∧ FrameEnd s o t L k n
theorem fin_of (X : Stand p l e R s m args below meth c T locs cells slots) (hlk : meth.locks = false) {v : Option Value} (hv : meth.sig.returnType = none → v = none) {g : JFrame} (st : ∀ fs, (∀ (f : JFrame) (acts : List Action), f.method = m → f.locked = none → f.entered = [] → (doReturn e (T.setTop f) acts v).1 = T.setFrames fs) → Steps p.tables e below (T.setTop g) (T.setFrames fs)) (hQ : Q v T.heap locs) (hk : cells ≤ k) (hn : slots ≤ n) : Go p.tables e below (EndN s Q k n) (T.setTop g) := by
  obtain ⟨fs, hr, hrun, hended, hW, hsame⟩ := X.leave (v := v) hv hlk
  exact ⟨_, _, st fs hr, hrun, hended, _, _, rfl, hQ, ⟨_, rfl⟩, hW, hsame.mono hk hn⟩
theorem ireturn (X : Stand p l e R s m args below meth c T locs cells slots) (hx : p.tables.exec = Jvm.exec) (hlk : meth.locks = false) {z : Int32} (hret : meth.sig.returnType = some .int) (hd : decode c.code pc = .ok (.ireturn, 1)) (hQ : Q (some (.int z)) T.heap locs) (hk : cells ≤ k) (hn : slots ≤ n) : Go p.tables e below (EndN s Q k n) (T.setTop (mkF m pc Ls (.int z :: rest))) :=
  fin_of X hlk (v := some (.int z)) (fun h => by rw [hret] at h; cases h) (fun fs hr => retOut X hx hret rfl (Or.inl ⟨rfl, Or.inl rfl, z, rfl⟩) hd hr) hQ hk hn
theorem nreturn (X : Stand p l e R s m args below meth c T locs cells slots) (hx : p.tables.exec = Jvm.exec) (hlk : meth.locks = false) {z : Int32} {t : FieldType} (hret : meth.sig.returnType = some t) (ht : t = .boolean ∨ t = .byte ∨ t = .char ∨ t = .short) (hd : decode c.code pc = .ok (.ireturn, 1)) (hQ : Q (some (.int (nar t z))) T.heap locs) (hk : cells ≤ k) (hn : slots ≤ n) : Go p.tables e below (EndN s Q k n) (T.setTop (mkF m pc Ls (.int z :: rest))) :=
  fin_of X hlk (v := some (.int (nar t z))) (fun h => by rw [hret] at h; cases h) (fun fs hr => retN X hx hret ht hd hr) hQ hk hn
theorem areturn (X : Stand p l e R s m args below meth c T locs cells slots) (hx : p.tables.exec = Jvm.exec) (hlk : meth.locks = false) {w : Value} {t : FieldType} (hret : meth.sig.returnType = some t) (ht : t.isReference = true) (hw : w.isRef = true) (hna : narrow t w = w) (hd : decode c.code pc = .ok (.areturn, 1)) (hQ : Q (some w) T.heap locs) (hk : cells ≤ k) (hn : slots ≤ n) : Go p.tables e below (EndN s Q k n) (T.setTop (mkF m pc Ls (w :: rest))) :=
  fin_of X hlk (v := some w) (fun h => by rw [hret] at h; cases h) (fun fs hr => retOut X hx hret hna (Or.inr (Or.inr (Or.inr (Or.inr ⟨rfl, ht, hw⟩)))) hd hr) hQ hk hn
theorem lreturn (X : Stand p l e R s m args below meth c T locs cells slots) (hx : p.tables.exec = Jvm.exec) (hlk : meth.locks = false) {z : Int64} (hret : meth.sig.returnType = some .long) (hd : decode c.code pc = .ok (.lreturn, 1)) (hQ : Q (some (.long z)) T.heap locs) (hk : cells ≤ k) (hn : slots ≤ n) : Go p.tables e below (EndN s Q k n) (T.setTop (mkF m pc Ls (.long z :: rest))) :=
  fin_of X hlk (v := some (.long z)) (fun h => by rw [hret] at h; cases h) (fun fs hr => retOut X hx hret rfl (Or.inr (Or.inl ⟨rfl, rfl, z, rfl⟩)) hd hr) hQ hk hn
theorem vreturn (X : Stand p l e R s m args below meth c T locs cells slots) (hx : p.tables.exec = Jvm.exec) (hlk : meth.locks = false) (hret : meth.sig.returnType = none) (hd : decode c.code pc = .ok (.return_, 1)) (hQ : Q none T.heap locs) (hk : cells ≤ k) (hn : slots ≤ n) : Go p.tables e below (EndN s Q k n) (T.setTop (mkF m pc Ls [])) :=
  fin_of X hlk (v := none) (fun _ => rfl) (fun fs hr => X.returnOut hx hret hd hr) hQ hk hn
end Ends
section Pays
/-- a narrow contract: called with as' at a heap h0 the method returns v, Q v says of the heap behind -/
def Pay (l : Launch) (Z : State) (y : MethodName) (bytes : ByteArray) (maxL : Nat) (ret : Option FieldType) (rm : Room) (as' : Array Value) (h0 : Heap) (Q : Option Value → Heap → List Loc → Prop) : Prop :=
  ∀ ws : List Jvm.Cond, MetFree l y (head1 (Jvm.Cond.code y bytes maxL ret :: ws) rm) (fun a U => a = as' ∧ Z.Warmed39 U.vm ∧ U.heap = h0) (fun _ _ _ _ _ => True) (fun _ U o U' => ∃ v L, o = .returned v ∧ Q v U'.heap L ∧ FrameEnd U o U' L rm.cells rm.slots)
variable {l : Launch} {Z : State} {y : MethodName} {bytes : ByteArray} {maxL : Nat} {ret : Option FieldType} {rm : Room} {as' : Array Value} {h0 : Heap} {Q : Option Value → Heap → List Loc → Prop}
theorem Pay.of {Ls : Array Slot} (hpn : plainFor y = true) (hef : ∀ m, entryFrame m as' maxL = mkF m 0 Ls [])
    (body : ∀ (p : Program) (e : Env) (s : State) (m : MethodId) (below : List Frame) (meth : Method) (c : Code) (T : State), p.tables.exec = Jvm.exec → c.code = bytes → c.maxLocals = maxL → s.vm.findClass y.cls = some m.cls → s.methodNamed? y = some m → s.vm.method? m = some meth → Z.Warmed39 s.vm → meth.sig.returnType = ret → meth.locks = false → Stand p l e rm s m as' below meth c T [] 0 0 → T.heap = h0 →
      Go p.tables e below (EndN s Q rm.cells rm.slots) (T.setTop (mkF m 0 Ls []))) : Pay l Z y bytes maxL ret rm as' h0 Q := by
  intro ws
  refine MetFree.of_bodySF hpn hisR ?_
  intro p e s m args below meth c s₁ Bd hml0 hP hK
  obtain ⟨rfl, hZ, hh⟩ := hP
  rw [hef m]
  exact body p e s m below meth c s₁ Bd.exec Bd.bytes hml0 (findClass_of_methodNamed Bd.named) Bd.named Bd.method hZ Bd.returns Bd.notSynchronized (Stand.of_body Bd) (by rw [← hh, Bd.state]; rfl)
theorem Pay.mono {Q' : Option Value → Heap → List Loc → Prop} (P : Pay l Z y bytes maxL ret rm as' h0 Q) (h : ∀ v h L, Q v h L → Q' v h L) : Pay l Z y bytes maxL ret rm as' h0 Q' := fun ws =>
  (P ws).mono (fun _ _ q => q) (fun _ _ _ _ _ q => q) fun _ _ _ _ _ ⟨v, L, h1, h2, h3⟩ => ⟨v, L, h1, h _ _ _ h2, h3⟩
variable {p : Program} {e : Env} {R : Room} {s : State} {m : MethodId} {args : Array Value} {below : List Frame} {meth : Method} {c : Code} {T : State} {locs : List Loc} {cells slots : Nat} {G : Outcome → State → Prop} {pc : Nat} {Ls : Array Slot} {a0 : Array Value}
/-- invokestatic, by whoever pays it -/
theorem callSB (X : Stand p l e R s m args below meth c T locs cells slots) (hx : p.tables.exec = Jvm.exec) (hZ : Z.Warmed39 s.vm) {argsL rest st : List Value} {kc ks : Nat}
    (hK : Back l R p e below s args y 3 ((rest.map fun v => v.category).sum) (fun A a => a = as' ∧ A.U.heap = h0 ∧ A.cells + kc ≤ R.cells ∧ A.slots + ks ≤ R.slots) (fun A _ v B => ∃ L, Q v B.U.heap L ∧ B.locs = A.locs ++ L ∧ B.cells = A.cells + kc ∧ B.slots = A.slots + ks)) (eT : T.heap = h0) {own : String} {index : Nat} (hown : s.vm.findClass own = some m.cls)
    (wl : (Cond.methodLink own index y).before a0 Z = true) (wst : (Cond.static y).before a0 Z = true) (wz : (Cond.initialized y.cls).before a0 Z = true) (wc : (Cond.code y bytes maxL ret).before a0 Z = true)
    (hy : y.cls ≠ "java/lang/invoke/MethodHandle" ∧ y.cls ≠ "java/lang/invoke/VarHandle") {ps : List FieldType} {rt : Option FieldType} (hpd : parseMethodDescriptor y.desc = some ⟨ps, rt⟩) (hsz : Ls.size = c.maxLocals)
    (has : argsL.toArray = as') (hlen : argsL.length = ps.length) (hst : st = argsL.reverse ++ rest) (hd : decode c.code pc = .ok (.invokestatic index, 3)) (hce : cells + kc ≤ R.cells) (hsl : slots + ks ≤ R.slots)
    (K : ∀ (v : Option Value) (T' : State) (L : List Loc), Stand p l e R s m args below meth c T' (locs ++ L) (cells + kc) (slots + ks) → Q v T'.heap L → Go p.tables e below G (T'.setTop (mkF m (pc + 3) Ls (v.toList ++ rest)))) :
    Go p.tables e below G (T.setTop (mkF m pc Ls st)) := by
  obtain ⟨_, _, ⟨T1, L1, k1, n1⟩, -, X1, ⟨Lc, hQ, l1, y1, z1⟩, st1⟩ := Jvm.LawKit.callS X hx (y := y) hown (mvT hZ wl) (mvT hZ wst) (mvT hZ wz) (mvT hZ wc) hy hK (g := mkF m pc Ls st) rfl hsz (argsL := argsL) (rest := rest) (lenOf hpd hlen) hst (by show 2 * 0 + _ ≤ _; omega) hd (fun _ _ => ⟨has, eT, hce, hsl⟩)
  dsimp only [Pt.U, Pt.locs, Pt.cells, Pt.slots] at X1 l1 y1 z1 st1 hQ
  subst l1 y1 z1
  exact (K _ _ _ X1 hQ).via st1
/-- invokestatic by a narrow contract -/
theorem callS (X : Stand p l e R s m args below meth c T locs cells slots) (hx : p.tables.exec = Jvm.exec) (hZ : Z.Warmed39 s.vm) (hP : Pay l Z y bytes maxL ret rm as' h0 Q) (eT : T.heap = h0) {own : String} {index : Nat} (hown : s.vm.findClass own = some m.cls)
    (wl : (Cond.methodLink own index y).before a0 Z = true) (wst : (Cond.static y).before a0 Z = true) (wz : (Cond.initialized y.cls).before a0 Z = true) (wc : (Cond.code y bytes maxL ret).before a0 Z = true)
    (hy : y.cls ≠ "java/lang/invoke/MethodHandle" ∧ y.cls ≠ "java/lang/invoke/VarHandle") {ps : List FieldType} {rt : Option FieldType} (hpd : parseMethodDescriptor y.desc = some ⟨ps, rt⟩) (hsz : Ls.size = c.maxLocals)
    {argsL rest st : List Value} (has : argsL.toArray = as') (hlen : argsL.length = ps.length) (hst : st = argsL.reverse ++ rest) (hd : decode c.code pc = .ok (.invokestatic index, 3))
    (hf : (rm.frames + 1).ble R.frames = true) (hlo : ((rest.map fun v => v.category).sum + (maxL + 11) + rm.locals).ble R.locals = true) (hce : cells + rm.cells ≤ R.cells) (hsl : slots + rm.slots ≤ R.slots)
    (K : ∀ (v : Option Value) (T' : State) (L : List Loc), Stand p l e R s m args below meth c T' (locs ++ L) (cells + rm.cells) (slots + rm.slots) → Q v T'.heap L → Go p.tables e below G (T'.setTop (mkF m (pc + 3) Ls (v.toList ++ rest)))) :
    Go p.tables e below G (T.setTop (mkF m pc Ls st)) :=
  callSB X hx hZ (backOf (W := (rest.map fun v => v.category).sum) (hP []) hZ wc wz (Nat.le_of_ble_eq_true hf) (Nat.le_of_ble_eq_true hlo)) eT hown wl wst wz wc hy hpd hsz has hlen hst hd hce hsl K
/-- .. that moves nothing -/
theorem callSP (X : Stand p l e R s m args below meth c T locs cells slots) (hx : p.tables.exec = Jvm.exec) (hZ : Z.Warmed39 s.vm) {r : Option Value} (hP : Pay l Z y bytes maxL ret rm as' h0 (fun v h L => v = r ∧ h = h0 ∧ L = [])) (h0c : rm.cells = 0) (h0s : rm.slots = 0) (eT : T.heap = h0) {own : String} {index : Nat} (hown : s.vm.findClass own = some m.cls)
    (wl : (Cond.methodLink own index y).before a0 Z = true) (wst : (Cond.static y).before a0 Z = true) (wz : (Cond.initialized y.cls).before a0 Z = true) (wc : (Cond.code y bytes maxL ret).before a0 Z = true)
    (hy : y.cls ≠ "java/lang/invoke/MethodHandle" ∧ y.cls ≠ "java/lang/invoke/VarHandle") {ps : List FieldType} {rt : Option FieldType} (hpd : parseMethodDescriptor y.desc = some ⟨ps, rt⟩) (hsz : Ls.size = c.maxLocals)
    {argsL rest st : List Value} (has : argsL.toArray = as') (hlen : argsL.length = ps.length) (hst : st = argsL.reverse ++ rest) (hd : decode c.code pc = .ok (.invokestatic index, 3))
    (hf : (rm.frames + 1).ble R.frames = true) (hlo : ((rest.map fun v => v.category).sum + (maxL + 11) + rm.locals).ble R.locals = true) (hce : cells ≤ R.cells) (hsl : slots ≤ R.slots)
    (K : ∀ (T' : State), Stand p l e R s m args below meth c T' locs cells slots → T'.heap = h0 → Go p.tables e below G (T'.setTop (mkF m (pc + 3) Ls (r.toList ++ rest)))) :
    Go p.tables e below G (T.setTop (mkF m pc Ls st)) := by
  refine callS X hx hZ hP eT hown wl wst wz wc hy hpd hsz has hlen hst hd hf hlo (by rw [h0c]; exact hce) (by rw [h0s]; exact hsl) ?_
  rintro v T' L X' ⟨rfl, hh, rfl⟩
  rw [h0c, h0s, List.append_nil] at X'
  exact K T' X' hh
end Pays
end Jvm.Ow
namespace Jvm.Ow
open Sem ClassFile Op Lib Jvm.Stand Jvm.Free Jvm.LawKit Jvm.RoadKit
section Heaps
variable {p : Program} {l : Launch} {e : Env} {R : Room} {s : State} {m : MethodId} {args : Array Value} {below : List Frame} {meth : Method} {c : Code} {T : State} {locs : List Loc} {cells slots : Nat} {G : Outcome → State → Prop} {pc pc' : Nat} {Ls : Array Slot} {rest : List Value} {Z : State} {a0 : Array Value} {h : Heap}
theorem new_ (X : Stand p l e R s m args below meth c T locs cells slots) (hx : p.tables.exec = Jvm.exec) (hZ : Z.Warmed39 s.vm) {own C : String} {index n : Nat} (hown : s.vm.findClass own = some m.cls) (w : (Cond.classLink own index C).before a0 Z = true) (wi : (Cond.instantiable C n).before a0 Z = true) (wz : (Cond.initialized C).before a0 Z = true) (eT : T.heap = h)
    (hd : decode c.code pc = .ok (.new index, 3)) (hc : cells + 1 ≤ R.cells) (hl : slots + n ≤ R.slots)
    (K : ∀ T' h' (a : Addr), a = h.size → Stand p l e R s m args below meth c T' locs (cells + 1) (slots + n) → T'.heap = h' → Ext h h' → Exa Z h' a C → (∀ {O nm d : String} {ty : FieldType}, Laid Z a0 C O nm d → parseFieldDescriptor d = some ty → Fld Z h' a O nm d (defaultValue ty)) → (∃ cell : Cell, h'[a]? = some cell ∧ cell.vm = .none ∧ cell.monitor = {}) →
      Go p.tables e below G (T'.setTop (mkF m (pc + 3) Ls (.ref a :: rest)))) : Go p.tables e below G (T.setTop (mkF m pc Ls rest)) := by
  obtain ⟨T', h', X', e', E, A, D, U, st⟩ := newO X hx hZ hown w wi wz eT (g := mkF m pc Ls rest) rfl hd hc hl
  exact (K T' h' _ rfl X' e' E A D U).via st
theorem newarray (X : Stand p l e R s m args below meth c T locs cells slots) (hx : p.tables.exec = Jvm.exec) (hZ : Z.Warmed39 s.vm) {aty : ArrayType} (w : (Cond.arrayClass (newarray.typeOf aty)).before a0 Z = true) (eT : T.heap = h) (cap : Nat) {n : Int32}
    (hd : decode c.code pc = .ok (.newarray aty, 2)) (hn : ¬ n < 0) (hcap : n.toNatClampNeg ≤ cap) (hb : cap * 8 ≤ 536870912) (hc : cells + 1 ≤ R.cells) (hl : slots + cap ≤ R.slots)
    (K : ∀ T' h' cA (a : Addr), a = h.size → Stand p l e R s m args below meth c T' locs (cells + 1) (slots + cap) → T'.heap = h' → Ext h h' → Arr Z h' a (newA cA (newarray.typeOf aty) n) (newarray.typeOf aty) →
      Go p.tables e below G (T'.setTop (mkF m (pc + 2) Ls (.ref a :: rest)))) : Go p.tables e below G (T.setTop (mkF m pc Ls (.int n :: rest))) := by
  obtain ⟨T', h', cA, X', e', E, A, st⟩ := newP X hx hZ w eT (g := mkF m pc Ls (.int n :: rest)) rfl hd rfl hn hcap hb hc hl
  exact (K T' h' cA _ rfl X' e' E A).via st
theorem getfield (X : Stand p l e R s m args below meth c T locs cells slots) (hx : p.tables.exec = Jvm.exec) (hZ : Z.Warmed39 s.vm) {own R0 O n d : String} {index : Nat} (hown : s.vm.findClass own = some m.cls) (w : (Cond.fieldLink own index R0 n d).before a0 Z = true) (via : Via Z R0 O n d) (eT : T.heap = h) {a : Addr} {v : Value} (F : Fld Z h a O n d v)
    (hd : decode c.code pc = .ok (.getfield index, 3)) (K : ∀ T', Stand p l e R s m args below meth c T' locs cells slots → T'.heap = h → Go p.tables e below G (T'.setTop (mkF m (pc + 3) Ls (v :: rest)))) : Go p.tables e below G (T.setTop (mkF m pc Ls (.ref a :: rest))) := by
  obtain ⟨T', X', e', st⟩ := getF X hx hZ hown (host := "") (Or.inl w) via eT F (g := mkF m pc Ls (.ref a :: rest)) rfl rfl hd
  exact (K T' X' e').via st
theorem putfield (X : Stand p l e R s m args below meth c T locs cells slots) (hx : p.tables.exec = Jvm.exec) (hZ : Z.Warmed39 s.vm) {own R0 O n d C : String} {index kk : Nat} {ty : FieldType} (hown : s.vm.findClass own = some m.cls) (w : (Cond.fieldLink own index R0 n d).before a0 Z = true) (via : Via Z R0 O n d)
    (eT : T.heap = h) {a : Addr} {v old : Value} (F : Fld Z h a O n d old) (E : Exa Z h a C) (L : (Cond.lays C O n d).before a0 Z = true ∨ ((Cond.laysFinal C O n d).before a0 Z = true ∧ own = O ∧ meth.name = "<init>")) (wi : (Cond.instantiable C kk).before a0 Z = true)
    (hty : parseFieldDescriptor d = some ty) (hn : narrow ty v = v) (hf : fits ty v = true) (hd : decode c.code pc = .ok (.putfield index, 3))
    (K : ∀ T' h', Stand p l e R s m args below meth c T' (locs ++ [⟨a, RoadKit.slotOf Z O n d⟩]) cells slots → T'.heap = h' → Wr h h' a (RoadKit.slotOf Z O n d) v → Go p.tables e below G (T'.setTop (mkF m (pc + 3) Ls rest))) : Go p.tables e below G (T.setTop (mkF m pc Ls (v :: .ref a :: rest))) := by
  obtain ⟨T', h', X', e', W, st⟩ := putF X hx hZ hown (host := "") (Or.inl w) via eT F E L wi hty hn hf (g := mkF m pc Ls (v :: .ref a :: rest)) rfl rfl hd
  exact (K T' h' X' e' W).via st
theorem getstatic (X : Stand p l e R s m args below meth c T locs cells slots) (hx : p.tables.exec = Jvm.exec) (hZ : Z.Warmed39 s.vm) {own R0 O n d : String} {index : Nat} (hown : s.vm.findClass own = some m.cls) (w : (Cond.fieldLink own index R0 n d).before a0 Z = true) (via : Via Z R0 O n d) (eT : T.heap = h) {v : Value} (F : Sta Z h O n d v)
    (hd : decode c.code pc = .ok (.getstatic index, 3)) (K : ∀ T', Stand p l e R s m args below meth c T' locs cells slots → T'.heap = h → Go p.tables e below G (T'.setTop (mkF m (pc + 3) Ls (v :: rest)))) : Go p.tables e below G (T.setTop (mkF m pc Ls rest)) := by
  obtain ⟨T', X', e', st⟩ := getS (host := "") X hx hZ hown w via eT F (g := mkF m pc Ls rest) rfl hd
  exact (K T' X' e').via st
theorem objinit (X : Stand p l e R s m args below meth c T locs cells slots) (hx : p.tables.exec = Jvm.exec) (hZ : Z.Warmed39 s.vm) {own : String} {idx : Nat} (hown : s.vm.findClass own = some m.cls) (w1 : (Cond.methodLink own idx Lib.objectInit).before a0 Z = true) (w2 : (Cond.instanceMethod Lib.objectInit).before a0 Z = true)
    (w3 : (Cond.code Lib.objectInit ⟨#[0xb1]⟩ 1 none).before a0 Z = true) (eT : T.heap = h) (hsz : Ls.size = c.maxLocals) {a : Addr} (hd : decode c.code pc = .ok (.invokespecial idx, 3)) (hf : (1 : Nat).ble R.frames = true) (hl : ((rest.map fun v => v.category).sum + 12).ble R.locals = true)
    (K : ∀ T', Stand p l e R s m args below meth c T' locs cells slots → T'.heap = h → Go p.tables e below G (T'.setTop (mkF m (pc + 3) Ls rest))) : Go p.tables e below G (T.setTop (mkF m pc Ls (.ref a :: rest))) := by
  obtain ⟨T', X', e', st⟩ := initO X hx hZ hown w1 w2 w3 eT (g := mkF m pc Ls (.ref a :: rest)) rfl hsz rfl hd (Nat.le_of_ble_eq_true hf) (W := (rest.map fun v => v.category).sum) (by show 2 * 0 + _ ≤ _; omega) (Nat.le_of_ble_eq_true hl)
  exact (K T' X' e').via st
theorem castore (X : Stand p l e R s m args below meth c T locs cells slots) (hx : p.tables.exec = Jvm.exec) (hZ : Z.Warmed39 s.vm) (eT : T.heap = h) {a : Addr} {cl : Cell} (A : Arr Z h a cl .char) {j x : Int32} (hj : ¬ (j < 0 ∨ cl.slots.size ≤ j.toNatClampNeg)) (hd : decode c.code pc = .ok (.castore, 1))
    (K : ∀ T' h', Stand p l e R s m args below meth c T' (locs ++ [⟨a, j.toNatClampNeg⟩]) cells slots → T'.heap = h' → Wr h h' a j.toNatClampNeg (.int (nar .char x)) → Go p.tables e below G (T'.setTop (mkF m (pc + 1) Ls rest))) : Go p.tables e below G (T.setTop (mkF m pc Ls (.int x :: .int j :: .ref a :: rest))) := by
  obtain ⟨T', h', X', e', W, st⟩ := stC X hx hZ eT A hj (g := mkF m pc Ls (.int x :: .int j :: .ref a :: rest)) rfl rfl hd
  exact (K T' h' X' e' W).via st
theorem bastore (X : Stand p l e R s m args below meth c T locs cells slots) (hx : p.tables.exec = Jvm.exec) (hZ : Z.Warmed39 s.vm) (eT : T.heap = h) {a : Addr} {cl : Cell} (A : Arr Z h a cl .byte) {j x : Int32} (hj : ¬ (j < 0 ∨ cl.slots.size ≤ j.toNatClampNeg)) (hd : decode c.code pc = .ok (.bastore, 1))
    (K : ∀ T' h', Stand p l e R s m args below meth c T' (locs ++ [⟨a, j.toNatClampNeg⟩]) cells slots → T'.heap = h' → Wr h h' a j.toNatClampNeg (.int (nar .byte x)) → Go p.tables e below G (T'.setTop (mkF m (pc + 1) Ls rest))) : Go p.tables e below G (T.setTop (mkF m pc Ls (.int x :: .int j :: .ref a :: rest))) := by
  obtain ⟨T', h', X', e', W, st⟩ := stB X hx hZ eT A hj (g := mkF m pc Ls (.int x :: .int j :: .ref a :: rest)) rfl rfl hd
  exact (K T' h' X' e' W).via st
theorem zastore (X : Stand p l e R s m args below meth c T locs cells slots) (hx : p.tables.exec = Jvm.exec) (hZ : Z.Warmed39 s.vm) (eT : T.heap = h) {a : Addr} {cl : Cell} (A : Arr Z h a cl .boolean) {j x : Int32} (hj : ¬ (j < 0 ∨ cl.slots.size ≤ j.toNatClampNeg)) (hd : decode c.code pc = .ok (.bastore, 1))
    (K : ∀ T' h', Stand p l e R s m args below meth c T' (locs ++ [⟨a, j.toNatClampNeg⟩]) cells slots → T'.heap = h' → Wr h h' a j.toNatClampNeg (.int (nar .boolean x)) → Go p.tables e below G (T'.setTop (mkF m (pc + 1) Ls rest))) : Go p.tables e below G (T.setTop (mkF m pc Ls (.int x :: .int j :: .ref a :: rest))) := by
  obtain ⟨T', h', X', e', W, st⟩ := stZ X hx hZ eT A hj (g := mkF m pc Ls (.int x :: .int j :: .ref a :: rest)) rfl rfl hd
  exact (K T' h' X' e' W).via st
theorem iastore (X : Stand p l e R s m args below meth c T locs cells slots) (hx : p.tables.exec = Jvm.exec) (hZ : Z.Warmed39 s.vm) (eT : T.heap = h) {a : Addr} {cl : Cell} (A : Arr Z h a cl .int) {j x : Int32} (hj : ¬ (j < 0 ∨ cl.slots.size ≤ j.toNatClampNeg)) (hd : decode c.code pc = .ok (.iastore, 1))
    (K : ∀ T' h', Stand p l e R s m args below meth c T' (locs ++ [⟨a, j.toNatClampNeg⟩]) cells slots → T'.heap = h' → Wr h h' a j.toNatClampNeg (.int x) → Go p.tables e below G (T'.setTop (mkF m (pc + 1) Ls rest))) : Go p.tables e below G (T.setTop (mkF m pc Ls (.int x :: .int j :: .ref a :: rest))) := by
  obtain ⟨T', h', X', e', W, st⟩ := stI X hx hZ eT A hj (g := mkF m pc Ls (.int x :: .int j :: .ref a :: rest)) rfl rfl hd
  exact (K T' h' X' e' W).via st
theorem checkcast (X : Stand p l e R s m args below meth c T locs cells slots) (hx : p.tables.exec = Jvm.exec) (hZ : Z.Warmed39 s.vm) {own K0 : String} {index : Nat} (hown : s.vm.findClass own = some m.cls) (w : (Cond.classLink own index K0).before a0 Z = true) (eT : T.heap = h) {a : Addr} (F : Ins Z h a K0 true) (hd : decode c.code pc = .ok (.checkcast index, 3))
    (K : ∀ T', Stand p l e R s m args below meth c T' locs cells slots → T'.heap = h → Go p.tables e below G (T'.setTop (mkF m (pc + 3) Ls (.ref a :: rest)))) : Go p.tables e below G (T.setTop (mkF m pc Ls (.ref a :: rest))) := by
  obtain ⟨T', X', e', st⟩ := castY X hx hZ hown w eT F (g := mkF m pc Ls (.ref a :: rest)) rfl rfl hd
  exact (K T' X' e').via st
theorem instanceofY (X : Stand p l e R s m args below meth c T locs cells slots) (hx : p.tables.exec = Jvm.exec) (hZ : Z.Warmed39 s.vm) {own K0 : String} {index : Nat} (hown : s.vm.findClass own = some m.cls) (w : (Cond.classLink own index K0).before a0 Z = true) (eT : T.heap = h) {a : Addr} (F : Ins Z h a K0 true) (hd : decode c.code pc = .ok (.instanceof index, 3))
    (K : ∀ T', Stand p l e R s m args below meth c T' locs cells slots → T'.heap = h → Go p.tables e below G (T'.setTop (mkF m (pc + 3) Ls (.int 1 :: rest)))) : Go p.tables e below G (T.setTop (mkF m pc Ls (.ref a :: rest))) := by
  obtain ⟨T', X', e', st⟩ := instY X hx hZ hown w eT F (g := mkF m pc Ls (.ref a :: rest)) rfl rfl hd
  exact (K T' X' e').via st
end Heaps
section Calls
variable {l : Launch} {Z : State} {y : MethodName} {bytes : ByteArray} {maxL : Nat} {ret : Option FieldType} {rm : Room} {as' : Array Value} {h0 : Heap} {Q : Option Value → Heap → List Loc → Prop}
variable {p : Program} {e : Env} {R : Room} {s : State} {m : MethodId} {args : Array Value} {below : List Frame} {meth : Method} {c : Code} {T : State} {locs : List Loc} {cells slots : Nat} {G : Outcome → State → Prop} {pc : Nat} {Ls : Array Slot} {a0 : Array Value}
/-- invokespecial of a constructor, by whoever pays it -/
theorem callIB (X : Stand p l e R s m args below meth c T locs cells slots) (hx : p.tables.exec = Jvm.exec) (hZ : Z.Warmed39 s.vm) {a : Addr} {argsL rest st : List Value} {kc ks : Nat}
    (hK : Back l R p e below s args y 3 ((rest.map fun v => v.category).sum) (fun A a => a = as' ∧ A.U.heap = h0 ∧ A.cells + kc ≤ R.cells ∧ A.slots + ks ≤ R.slots) (fun A _ v B => ∃ L, Q v B.U.heap L ∧ B.locs = A.locs ++ L ∧ B.cells = A.cells + kc ∧ B.slots = A.slots + ks)) (eT : T.heap = h0) (hni : y.name = "<init>") {own : String} {index : Nat} (hown : s.vm.findClass own = some m.cls)
    (wl : (Cond.methodLink own index y).before a0 Z = true) (win : (Cond.instanceMethod y).before a0 Z = true) (wc : (Cond.code y bytes maxL none).before a0 Z = true)
    (hy : y.cls ≠ "java/lang/invoke/MethodHandle" ∧ y.cls ≠ "java/lang/invoke/VarHandle") {ps : List FieldType} {rt : Option FieldType} (hpd : parseMethodDescriptor y.desc = some ⟨ps, rt⟩) (hsz : Ls.size = c.maxLocals)
    (has : (.ref a :: argsL).toArray = as') (hlen : argsL.length = ps.length) (hst : st = argsL.reverse ++ .ref a :: rest) (hd : decode c.code pc = .ok (.invokespecial index, 3)) (hce : cells + kc ≤ R.cells) (hsl : slots + ks ≤ R.slots)
    (K : ∀ (v : Option Value) (T' : State) (L : List Loc), Stand p l e R s m args below meth c T' (locs ++ L) (cells + kc) (slots + ks) → Q v T'.heap L → Go p.tables e below G (T'.setTop (mkF m (pc + 3) Ls (v.toList ++ rest)))) :
    Go p.tables e below G (T.setTop (mkF m pc Ls st)) := by
  obtain ⟨_, _, ⟨T1, L1, k1, n1⟩, -, X1, ⟨Lc, hQ, l1, y1, z1⟩, st1⟩ := X.specialBack hx (y := y) hni hown (mvT hZ wl) (mvT hZ win) (mvT hZ wc) hy hK (g := mkF m pc Ls st) rfl hsz (Steps.refl _) (a := a) (argsL := argsL) (rest := rest) (lenOf hpd hlen) hst (by show 2 * 0 + _ ≤ _; omega) hd (fun _ _ => ⟨has, eT, hce, hsl⟩)
  dsimp only [Pt.U, Pt.locs, Pt.cells, Pt.slots] at X1 l1 y1 z1 st1 hQ
  subst l1 y1 z1
  exact (K _ _ _ X1 hQ).thru st1
/-- invokespecial of a constructor by a narrow contract -/
theorem callI (X : Stand p l e R s m args below meth c T locs cells slots) (hx : p.tables.exec = Jvm.exec) (hZ : Z.Warmed39 s.vm) (hP : Pay l Z y bytes maxL none rm as' h0 Q) (eT : T.heap = h0) (hni : y.name = "<init>") {own : String} {index : Nat} (hown : s.vm.findClass own = some m.cls)
    (wl : (Cond.methodLink own index y).before a0 Z = true) (win : (Cond.instanceMethod y).before a0 Z = true) (wz : (Cond.initialized y.cls).before a0 Z = true) (wc : (Cond.code y bytes maxL none).before a0 Z = true)
    (hy : y.cls ≠ "java/lang/invoke/MethodHandle" ∧ y.cls ≠ "java/lang/invoke/VarHandle") {ps : List FieldType} {rt : Option FieldType} (hpd : parseMethodDescriptor y.desc = some ⟨ps, rt⟩) (hsz : Ls.size = c.maxLocals)
    {a : Addr} {argsL rest st : List Value} (has : (.ref a :: argsL).toArray = as') (hlen : argsL.length = ps.length) (hst : st = argsL.reverse ++ .ref a :: rest) (hd : decode c.code pc = .ok (.invokespecial index, 3))
    (hf : (rm.frames + 1).ble R.frames = true) (hlo : ((rest.map fun v => v.category).sum + (maxL + 11) + rm.locals).ble R.locals = true) (hce : cells + rm.cells ≤ R.cells) (hsl : slots + rm.slots ≤ R.slots)
    (K : ∀ (v : Option Value) (T' : State) (L : List Loc), Stand p l e R s m args below meth c T' (locs ++ L) (cells + rm.cells) (slots + rm.slots) → Q v T'.heap L → Go p.tables e below G (T'.setTop (mkF m (pc + 3) Ls (v.toList ++ rest)))) :
    Go p.tables e below G (T.setTop (mkF m pc Ls st)) :=
  callIB X hx hZ (backOf (W := (rest.map fun v => v.category).sum) (hP []) hZ wc wz (Nat.le_of_ble_eq_true hf) (Nat.le_of_ble_eq_true hlo)) eT hni hown wl win wc hy hpd hsz has hlen hst hd hce hsl K
/-- invokevirtual, by whoever pays it: x is named, y is selected -/
theorem callVB (X : Stand p l e R s m args below meth c T locs cells slots) (hx : p.tables.exec = Jvm.exec) (hZ : Z.Warmed39 s.vm) {a : Addr} {argsL rest st : List Value} {kc ks : Nat}
    (hK : Back l R p e below s args y 3 ((rest.map fun v => v.category).sum) (fun A a => a = as' ∧ A.U.heap = h0 ∧ A.cells + kc ≤ R.cells ∧ A.slots + ks ≤ R.slots) (fun A _ v B => ∃ L, Q v B.U.heap L ∧ B.locs = A.locs ++ L ∧ B.cells = A.cells + kc ∧ B.slots = A.slots + ks)) (eT : T.heap = h0) {C : String} {own : String} {index : Nat} (hown : s.vm.findClass own = some m.cls)
    (wl : (Cond.methodLink own index y).before a0 Z = true) (wd : (Cond.declares y).before a0 Z = true) (wse : (Cond.selects C y y).before a0 Z = true) (win : (Cond.instanceMethod y).before a0 Z = true)
    (hy : y.cls ≠ "java/lang/invoke/MethodHandle" ∧ y.cls ≠ "java/lang/invoke/VarHandle") {ps : List FieldType} {rt : Option FieldType} (hpd : parseMethodDescriptor y.desc = some ⟨ps, rt⟩) (hsz : Ls.size = c.maxLocals)
    (E : Exa Z h0 a C) (has : (.ref a :: argsL).toArray = as') (hlen : argsL.length = ps.length) (hst : st = argsL.reverse ++ .ref a :: rest) (hd : decode c.code pc = .ok (.invokevirtual index, 3)) (hce : cells + kc ≤ R.cells) (hsl : slots + ks ≤ R.slots)
    (K : ∀ (v : Option Value) (T' : State) (L : List Loc), Stand p l e R s m args below meth c T' (locs ++ L) (cells + kc) (slots + ks) → Q v T'.heap L → Go p.tables e below G (T'.setTop (mkF m (pc + 3) Ls (v.toList ++ rest)))) :
    Go p.tables e below G (T.setTop (mkF m pc Ls st)) := by
  obtain ⟨cq, kq, qa, qb, qc⟩ := isOf hZ eT E
  obtain ⟨_, _, ⟨T1, L1, k1, n1⟩, -, X1, ⟨Lc, hQ, l1, y1, z1⟩, st1⟩ := X.virtualBack hx (y := y) (z := y) hown (mvT hZ wl) (mvT hZ wd) (notFace_of_selects (args := #[]) (mvT hZ wse)) (mvT hZ wse) (mvT hZ win) hy hK qa qc (g := mkF m pc Ls st) rfl hsz (Steps.refl _) (argsL := argsL) (rest := rest) (lenOf hpd hlen) hst (by show 2 * 0 + _ ≤ _; omega) hd (fun _ _ => ⟨has, eT, hce, hsl⟩)
  dsimp only [Pt.U, Pt.locs, Pt.cells, Pt.slots] at X1 l1 y1 z1 st1 hQ
  subst l1 y1 z1
  exact (K _ _ _ X1 hQ).thru st1
/-- invokevirtual by a narrow contract -/
theorem callV (X : Stand p l e R s m args below meth c T locs cells slots) (hx : p.tables.exec = Jvm.exec) (hZ : Z.Warmed39 s.vm) (hP : Pay l Z y bytes maxL ret rm as' h0 Q) (eT : T.heap = h0) {C : String} {own : String} {index : Nat} (hown : s.vm.findClass own = some m.cls)
    (wl : (Cond.methodLink own index y).before a0 Z = true) (wd : (Cond.declares y).before a0 Z = true) (wse : (Cond.selects C y y).before a0 Z = true) (win : (Cond.instanceMethod y).before a0 Z = true) (wz : (Cond.initialized y.cls).before a0 Z = true) (wc : (Cond.code y bytes maxL ret).before a0 Z = true)
    (hy : y.cls ≠ "java/lang/invoke/MethodHandle" ∧ y.cls ≠ "java/lang/invoke/VarHandle") {ps : List FieldType} {rt : Option FieldType} (hpd : parseMethodDescriptor y.desc = some ⟨ps, rt⟩) (hsz : Ls.size = c.maxLocals)
    {a : Addr} (E : Exa Z h0 a C) {argsL rest st : List Value} (has : (.ref a :: argsL).toArray = as') (hlen : argsL.length = ps.length) (hst : st = argsL.reverse ++ .ref a :: rest) (hd : decode c.code pc = .ok (.invokevirtual index, 3))
    (hf : (rm.frames + 1).ble R.frames = true) (hlo : ((rest.map fun v => v.category).sum + (maxL + 11) + rm.locals).ble R.locals = true) (hce : cells + rm.cells ≤ R.cells) (hsl : slots + rm.slots ≤ R.slots)
    (K : ∀ (v : Option Value) (T' : State) (L : List Loc), Stand p l e R s m args below meth c T' (locs ++ L) (cells + rm.cells) (slots + rm.slots) → Q v T'.heap L → Go p.tables e below G (T'.setTop (mkF m (pc + 3) Ls (v.toList ++ rest)))) :
    Go p.tables e below G (T.setTop (mkF m pc Ls st)) :=
  callVB X hx hZ (backOf (W := (rest.map fun v => v.category).sum) (hP []) hZ wc wz (Nat.le_of_ble_eq_true hf) (Nat.le_of_ble_eq_true hlo)) eT hown wl wd wse win hy hpd hsz E has hlen hst hd hce hsl K
/-- .. that moves nothing -/
theorem callVP (X : Stand p l e R s m args below meth c T locs cells slots) (hx : p.tables.exec = Jvm.exec) (hZ : Z.Warmed39 s.vm) {r : Option Value} (hP : Pay l Z y bytes maxL ret rm as' h0 (fun v h L => v = r ∧ h = h0 ∧ L = [])) (h0c : rm.cells = 0) (h0s : rm.slots = 0) (eT : T.heap = h0) {C : String} {own : String} {index : Nat} (hown : s.vm.findClass own = some m.cls)
    (wl : (Cond.methodLink own index y).before a0 Z = true) (wd : (Cond.declares y).before a0 Z = true) (wse : (Cond.selects C y y).before a0 Z = true) (win : (Cond.instanceMethod y).before a0 Z = true) (wz : (Cond.initialized y.cls).before a0 Z = true) (wc : (Cond.code y bytes maxL ret).before a0 Z = true)
    (hy : y.cls ≠ "java/lang/invoke/MethodHandle" ∧ y.cls ≠ "java/lang/invoke/VarHandle") {ps : List FieldType} {rt : Option FieldType} (hpd : parseMethodDescriptor y.desc = some ⟨ps, rt⟩) (hsz : Ls.size = c.maxLocals)
    {a : Addr} (E : Exa Z h0 a C) {argsL rest st : List Value} (has : (.ref a :: argsL).toArray = as') (hlen : argsL.length = ps.length) (hst : st = argsL.reverse ++ .ref a :: rest) (hd : decode c.code pc = .ok (.invokevirtual index, 3))
    (hf : (rm.frames + 1).ble R.frames = true) (hlo : ((rest.map fun v => v.category).sum + (maxL + 11) + rm.locals).ble R.locals = true) (hce : cells ≤ R.cells) (hsl : slots ≤ R.slots)
    (K : ∀ (T' : State), Stand p l e R s m args below meth c T' locs cells slots → T'.heap = h0 → Go p.tables e below G (T'.setTop (mkF m (pc + 3) Ls (r.toList ++ rest)))) :
    Go p.tables e below G (T.setTop (mkF m pc Ls st)) := by
  refine callV X hx hZ hP eT hown wl wd wse win wz wc hy hpd hsz E has hlen hst hd hf hlo (by rw [h0c]; exact hce) (by rw [h0s]; exact hsl) ?_
  rintro v T' L X' ⟨rfl, hh, rfl⟩
  rw [h0c, h0s, List.append_nil] at X'
  exact K T' X' hh
end Calls
end Jvm.Ow
namespace Jvm.Ow
open Sem ClassFile Op Lib Jvm.Stand Jvm.Free Jvm.LawKit Jvm.RoadKit
/-- an array whose slots are known, one by one -/
def AL (Z : State) (h : Heap) (a : Addr) (k : ClassId) (ty : FieldType) (vs : List Value) : Prop := ∃ c : Cell, Arr Z h a c ty ∧ c.cls = k ∧ c.slots = vs.toArray
/-- what has moved from h0 to h: the cells ws and new ones -/
def Eff (h0 h : Heap) (ws : List Addr) (L : List Loc) : Prop := Keep h0 h ws ∧ ∀ y ∈ L, y.base ∈ ws ∨ h0.size ≤ y.base
section ALs
variable {Z : State} {h h' h0 : Heap} {a b : Addr} {k : ClassId} {ty : FieldType} {vs : List Value} {v : Value} {ws ws' : List Addr} {L L' : List Loc} {sl : Nat} {C n d : String}
theorem AL.lt (A : AL Z h a k ty vs) : a < h.size := by obtain ⟨c, A, -⟩ := A; exact A.lt
theorem AL.ext (A : AL Z h a k ty vs) (E : Ext h h') : AL Z h' a k ty vs := by obtain ⟨c, A, r⟩ := A; exact ⟨c, A.ext E, r⟩
theorem AL.other (A : AL Z h b k ty vs) (W : Wr h h' a sl v) (q : b ≠ a) : AL Z h' b k ty vs := by obtain ⟨c, A, r⟩ := A; exact ⟨c, A.other W q, r⟩
theorem AL.keep (A : AL Z h a k ty vs) (K : Keep h h' ws) (q : a ∉ ws) : AL Z h' a k ty vs := by obtain ⟨c, A, r⟩ := A; exact ⟨c, ⟨K.2.1 a c A.1 q, A.2⟩, r⟩
theorem AL.new {z : Int32} (A : Arr Z h a (newA k ty z) ty) (vs : List Value) (q : List.replicate z.toNatClampNeg (defaultValue ty) = vs) : AL Z h a k ty vs := ⟨_, A, rfl, by rw [← q]; simp [newA]⟩
theorem AL.set (A : AL Z h a k ty vs) {i : Nat} (W : Wr h h' a i v) (vs' : List Value) (q : vs.set i v = vs') : AL Z h' a k ty vs' := by
  obtain ⟨c, A, r1, r2⟩ := A
  refine ⟨_, A.same W, r1, ?_⟩
  show c.slots.setIfInBounds i v = _
  rw [r2, ← q]; simp
theorem AL.arr (A : AL Z h a k ty vs) : ∃ c : Cell, Arr Z h a c ty ∧ c.cls = k ∧ c.slots.size = vs.length ∧ ∀ i : Nat, c.slots[i]? = vs[i]? := by
  obtain ⟨c, A, r1, r2⟩ := A
  exact ⟨c, A, r1, by rw [r2]; simp, fun i => by rw [r2]; simp⟩
theorem AL.arv (A : AL Z h a k ty vs) {z : Int32} {dv : Value} (hz : ¬ z < 0) (hl : z.toNatClampNeg = vs.length) (hf : ∀ v ∈ vs, fits ty v = true) : Arv Z h a k ty z vs dv := by
  obtain ⟨c, A, r1, r2, r3⟩ := A.arr
  refine ⟨c, A, r1, by rw [r2, hl], hz, fun i hi => ?_, fun i hi => ?_⟩
  · rw [r3, List.getD_eq_getElem?_getD, List.getElem?_eq_getElem (by omega)]; rfl
  · rw [List.getD_eq_getElem?_getD, List.getElem?_eq_getElem (by omega)]; exact hf _ (List.getElem_mem _)
theorem AL.of_arv {z : Int32} {dv : Value} (A : Arv Z h a k ty z vs dv) (hl : z.toNatClampNeg = vs.length) : AL Z h a k ty vs := by
  obtain ⟨c, A, r1, r2, r3, H, -⟩ := A
  refine ⟨c, A, r1, Array.ext_getElem? fun i => ?_⟩
  by_cases q : i < c.slots.size
  · rw [H i q, List.getD_eq_getElem?_getD]
    have : i < vs.length := by omega
    simp [this]
  · rw [Array.getElem?_eq_none (by omega)]
    have : vs.length ≤ i := by omega
    simp [this]
theorem Eff.refl (h : Heap) (ws : List Addr) : Eff h h ws [] := ⟨Keep.refl h ws, fun _ q => nomatch q⟩
theorem Eff.size (F : Eff h0 h ws L) : h0.size ≤ h.size := F.1.1
theorem Eff.ext (F : Eff h0 h ws L) (E : Ext h h') : Eff h0 h' ws L := ⟨F.1.ext E, F.2⟩
theorem Eff.wr (F : Eff h0 h ws L) (W : Wr h h' a sl v) (q : a ∈ ws ∨ h0.size ≤ a) : Eff h0 h' ws (L ++ [⟨a, sl⟩]) := ⟨F.1.wr W q, fun y hy => by
  rcases List.mem_append.mp hy with hy | hy
  · exact F.2 y hy
  · cases List.mem_singleton.mp hy; exact q⟩
theorem Eff.call (F : Eff h0 h ws L) (F' : Eff h h' ws' L') (q : ∀ x ∈ ws', x ∈ ws ∨ h0.size ≤ x) : Eff h0 h' ws (L ++ L') := ⟨F.1.trans F'.1 q, fun y hy => by
  rcases List.mem_append.mp hy with hy | hy
  · exact F.2 y hy
  · rcases F'.2 y hy with r | r
    · exact q _ r
    · exact Or.inr (Nat.le_trans F.1.1 r)⟩
theorem Eff.app0 (F : Eff h0 h ws L) : Eff h0 h ws (L ++ []) := by rw [List.append_nil]; exact F
theorem Eff.fr (F : Eff h0 h [] L) : Fr h0.size L := fun y hy => (F.2 y hy).elim (fun q => nomatch q) id
theorem Eff.keep (F : Eff h0 h ws L) : Keep h0 h ws := F.1
theorem ext_ne (q : a < h.size) : a ≠ h.size := Nat.ne_of_lt q
theorem Keep.ext0 (K : Keep h h' []) : Ext h h' := ⟨K.1, fun x c q => K.2.1 x c q nin0⟩
end ALs
section ALsteps
variable {p : Program} {l : Launch} {e : Env} {R : Room} {s : State} {m : MethodId} {args : Array Value} {below : List Frame} {meth : Method} {c : Code} {T : State} {locs : List Loc} {cells slots : Nat} {G : Outcome → State → Prop} {pc pc' : Nat} {Ls : Array Slot} {rest : List Value} {Z : State} {a0 : Array Value} {h : Heap} {a : Addr} {kc : ClassId} {vs : List Value}
theorem inb {c : Cell} {j : Int32} (hs : c.slots.size = vs.length) (h0 : ¬ j < 0) {i : Nat} (hi : j.toNatClampNeg = i) (hl : i < vs.length) : ¬ (j < 0 ∨ c.slots.size ≤ j.toNatClampNeg) := by
  rw [hi, hs]; exact fun q => q.elim h0 (Nat.not_le.mpr hl)
/-- newarray: all slots at their first value -/
theorem newarrayL (X : Stand p l e R s m args below meth c T locs cells slots) (hx : p.tables.exec = Jvm.exec) (hZ : Z.Warmed39 s.vm) {aty : ArrayType} (w : (Cond.arrayClass (newarray.typeOf aty)).before a0 Z = true) (eT : T.heap = h) (cap : Nat) {n : Int32} (vs : List Value) (hvs : List.replicate n.toNatClampNeg (defaultValue (newarray.typeOf aty)) = vs)
    (hd : decode c.code pc = .ok (.newarray aty, 2)) (hn : ¬ n < 0) (hcap : n.toNatClampNeg ≤ cap) (hb : cap * 8 ≤ 536870912) (hc : cells + 1 ≤ R.cells) (hl : slots + cap ≤ R.slots)
    (K : ∀ T' h' cA (a : Addr), a = h.size → Stand p l e R s m args below meth c T' locs (cells + 1) (slots + cap) → T'.heap = h' → Ext h h' → AL Z h' a cA (newarray.typeOf aty) vs →
      Go p.tables e below G (T'.setTop (mkF m (pc + 2) Ls (.ref a :: rest)))) : Go p.tables e below G (T.setTop (mkF m pc Ls (.int n :: rest))) :=
  newarray X hx hZ w eT cap hd hn hcap hb hc hl fun T' h' cA a ha X' e' E A => K T' h' cA a ha X' e' E (AL.new A vs hvs)
theorem castoreL (X : Stand p l e R s m args below meth c T locs cells slots) (hx : p.tables.exec = Jvm.exec) (hZ : Z.Warmed39 s.vm) (eT : T.heap = h) (A : AL Z h a kc .char vs) {j x : Int32} (i : Nat) (vs' : List Value) (hj0 : ¬ j < 0) (hj : j.toNatClampNeg = i) (hi : i.blt vs.length = true) (hvs : vs.set i (.int (nar .char x)) = vs') (hd : decode c.code pc = .ok (.castore, 1))
    (K : ∀ T' h', Stand p l e R s m args below meth c T' (locs ++ [⟨a, i⟩]) cells slots → T'.heap = h' → Wr h h' a i (.int (nar .char x)) → AL Z h' a kc .char vs' → Go p.tables e below G (T'.setTop (mkF m (pc + 1) Ls rest))) : Go p.tables e below G (T.setTop (mkF m pc Ls (.int x :: .int j :: .ref a :: rest))) := by
  obtain ⟨cl, Ar, -, q2, -⟩ := A.arr
  have hi' : i < vs.length := by simpa [Nat.blt_eq] using hi
  refine castore X hx hZ eT Ar (inb q2 hj0 hj hi') hd ?_
  rw [hj]
  exact fun T' h' X' e' W => K T' h' X' e' W (A.set W vs' hvs)
theorem bastoreL (X : Stand p l e R s m args below meth c T locs cells slots) (hx : p.tables.exec = Jvm.exec) (hZ : Z.Warmed39 s.vm) (eT : T.heap = h) (A : AL Z h a kc .byte vs) {j x : Int32} (i : Nat) (vs' : List Value) (hj0 : ¬ j < 0) (hj : j.toNatClampNeg = i) (hi : i.blt vs.length = true) (hvs : vs.set i (.int (nar .byte x)) = vs') (hd : decode c.code pc = .ok (.bastore, 1))
    (K : ∀ T' h', Stand p l e R s m args below meth c T' (locs ++ [⟨a, i⟩]) cells slots → T'.heap = h' → Wr h h' a i (.int (nar .byte x)) → AL Z h' a kc .byte vs' → Go p.tables e below G (T'.setTop (mkF m (pc + 1) Ls rest))) : Go p.tables e below G (T.setTop (mkF m pc Ls (.int x :: .int j :: .ref a :: rest))) := by
  obtain ⟨cl, Ar, -, q2, -⟩ := A.arr
  have hi' : i < vs.length := by simpa [Nat.blt_eq] using hi
  refine bastore X hx hZ eT Ar (inb q2 hj0 hj hi') hd ?_
  rw [hj]
  exact fun T' h' X' e' W => K T' h' X' e' W (A.set W vs' hvs)
theorem zastoreL (X : Stand p l e R s m args below meth c T locs cells slots) (hx : p.tables.exec = Jvm.exec) (hZ : Z.Warmed39 s.vm) (eT : T.heap = h) (A : AL Z h a kc .boolean vs) {j x : Int32} (i : Nat) (vs' : List Value) (hj0 : ¬ j < 0) (hj : j.toNatClampNeg = i) (hi : i.blt vs.length = true) (hvs : vs.set i (.int (nar .boolean x)) = vs') (hd : decode c.code pc = .ok (.bastore, 1))
    (K : ∀ T' h', Stand p l e R s m args below meth c T' (locs ++ [⟨a, i⟩]) cells slots → T'.heap = h' → Wr h h' a i (.int (nar .boolean x)) → AL Z h' a kc .boolean vs' → Go p.tables e below G (T'.setTop (mkF m (pc + 1) Ls rest))) : Go p.tables e below G (T.setTop (mkF m pc Ls (.int x :: .int j :: .ref a :: rest))) := by
  obtain ⟨cl, Ar, -, q2, -⟩ := A.arr
  have hi' : i < vs.length := by simpa [Nat.blt_eq] using hi
  refine zastore X hx hZ eT Ar (inb q2 hj0 hj hi') hd ?_
  rw [hj]
  exact fun T' h' X' e' W => K T' h' X' e' W (A.set W vs' hvs)
theorem caloadL (X : Stand p l e R s m args below meth c T locs cells slots) (hx : p.tables.exec = Jvm.exec) (hZ : Z.Warmed39 s.vm) (eT : T.heap = h) (A : AL Z h a kc .char vs) {j : Int32} (i : Nat) (v : Value) (hj0 : ¬ j < 0) (hj : j.toNatClampNeg = i) (hv : vs[i]? = some v) (hd : decode c.code pc = .ok (.caload, 1)) (K : Go p.tables e below G (T.setTop (mkF m (pc + 1) Ls (v :: rest)))) : Go p.tables e below G (T.setTop (mkF m pc Ls (.int j :: .ref a :: rest))) := by
  obtain ⟨cl, Ar, -, q2, q3⟩ := A.arr
  exact caload X hx hZ eT v Ar (inb q2 hj0 hj (List.getElem?_eq_some_iff.mp hv).1) (by rw [hj, q3]; exact hv) hd K
theorem baloadL (X : Stand p l e R s m args below meth c T locs cells slots) (hx : p.tables.exec = Jvm.exec) (hZ : Z.Warmed39 s.vm) (eT : T.heap = h) (A : AL Z h a kc .byte vs) {j : Int32} (i : Nat) (v : Value) (hj0 : ¬ j < 0) (hj : j.toNatClampNeg = i) (hv : vs[i]? = some v) (hd : decode c.code pc = .ok (.baload, 1)) (K : Go p.tables e below G (T.setTop (mkF m (pc + 1) Ls (v :: rest)))) : Go p.tables e below G (T.setTop (mkF m pc Ls (.int j :: .ref a :: rest))) := by
  obtain ⟨cl, Ar, -, q2, q3⟩ := A.arr
  exact baload X hx hZ eT v Ar (inb q2 hj0 hj (List.getElem?_eq_some_iff.mp hv).1) (by rw [hj, q3]; exact hv) hd K
theorem zaloadL (X : Stand p l e R s m args below meth c T locs cells slots) (hx : p.tables.exec = Jvm.exec) (hZ : Z.Warmed39 s.vm) (eT : T.heap = h) (A : AL Z h a kc .boolean vs) {j : Int32} (i : Nat) (v : Value) (hj0 : ¬ j < 0) (hj : j.toNatClampNeg = i) (hv : vs[i]? = some v) (hd : decode c.code pc = .ok (.baload, 1)) (K : Go p.tables e below G (T.setTop (mkF m (pc + 1) Ls (v :: rest)))) : Go p.tables e below G (T.setTop (mkF m pc Ls (.int j :: .ref a :: rest))) := by
  obtain ⟨cl, Ar, -, q2, q3⟩ := A.arr
  exact zaload X hx hZ eT v Ar (inb q2 hj0 hj (List.getElem?_eq_some_iff.mp hv).1) (by rw [hj, q3]; exact hv) hd K
theorem aaloadL (X : Stand p l e R s m args below meth c T locs cells slots) (hx : p.tables.exec = Jvm.exec) (hZ : Z.Warmed39 s.vm) (eT : T.heap = h) {ty : FieldType} (A : AL Z h a kc ty vs) (hty : ty.isReference = true) {j : Int32} (i : Nat) (v : Value) (hj0 : ¬ j < 0) (hj : j.toNatClampNeg = i) (hv : vs[i]? = some v) (hd : decode c.code pc = .ok (.aaload, 1)) (K : Go p.tables e below G (T.setTop (mkF m (pc + 1) Ls (v :: rest)))) : Go p.tables e below G (T.setTop (mkF m pc Ls (.int j :: .ref a :: rest))) := by
  obtain ⟨cl, Ar, -, q2, q3⟩ := A.arr
  exact aaload X hx hZ eT v Ar hty (inb q2 hj0 hj (List.getElem?_eq_some_iff.mp hv).1) (by rw [hj, q3]; exact hv) hd K
theorem lengthL (X : Stand p l e R s m args below meth c T locs cells slots) (hx : p.tables.exec = Jvm.exec) (hZ : Z.Warmed39 s.vm) (eT : T.heap = h) {ty : FieldType} (A : AL Z h a kc ty vs) (N : Int32) (hN : vs.length.toInt32 = N) (hd : decode c.code pc = .ok (.arraylength, 1)) (K : Go p.tables e below G (T.setTop (mkF m (pc + 1) Ls (.int N :: rest)))) : Go p.tables e below G (T.setTop (mkF m pc Ls (.ref a :: rest))) := by
  obtain ⟨cl, Ar, -, q2, -⟩ := A.arr
  exact arraylength X hx hZ eT N Ar (by rw [q2]; exact hN) hd K
/-- a place where roads meet with an int on the stack: first what lies behind it, then the roads -/
theorem joinI (X : Stand p l e R s m args below meth c T locs cells slots) (eT : T.heap = h) (P : Int32 → Prop) (pcJ : Nat) {st : List Value}
    (J : ∀ v T', Stand p l e R s m args below meth c T' locs cells slots → T'.heap = h → P v → Go p.tables e below G (T'.setTop (mkF m pcJ Ls (.int v :: st))))
    (K : (∀ v T', Stand p l e R s m args below meth c T' locs cells slots → T'.heap = h → P v → Go p.tables e below G (T'.setTop (mkF m pcJ Ls (.int v :: st)))) → Go p.tables e below G (T.setTop (mkF m pc Ls st))) : Go p.tables e below G (T.setTop (mkF m pc Ls st)) := K J
/-- .. with other locals and nothing new on the stack -/
theorem join0 (X : Stand p l e R s m args below meth c T locs cells slots) (eT : T.heap = h) (P : Array Slot → Prop) (pcJ : Nat) {st : List Value}
    (J : ∀ L2 T', Stand p l e R s m args below meth c T' locs cells slots → T'.heap = h → P L2 → Go p.tables e below G (T'.setTop (mkF m pcJ L2 st)))
    (K : (∀ L2 T', Stand p l e R s m args below meth c T' locs cells slots → T'.heap = h → P L2 → Go p.tables e below G (T'.setTop (mkF m pcJ L2 st))) → Go p.tables e below G (T.setTop (mkF m pc Ls st))) : Go p.tables e below G (T.setTop (mkF m pc Ls st)) := K J
end ALsteps
end Jvm.Ow
namespace Jvm.Ow
open Sem ClassFile Op Lib Jvm.Stand Jvm.Free Jvm.LawKit Jvm.RoadKit
/-- what a walk that may load literals bears besides its Stand over (s.setVm vm0): s is the method's start, h the heap at hand -/
def Wd (s Z : State) (EL : List (String × Nat)) (vm0 : Vm) (h : Heap) : Prop := (∃ k0, s.Since vm0 k0 ∧ k0 ≤ h.size) ∧ Z.Warmed39 vm0 ∧ CHr Z EL s.vm s.heap vm0 h
section Wides
variable {s Z : State} {EL : List (String × Nat)} {vm0 vm1 : Vm} {h h' : Heap}
theorem Wd.hZ (D : Wd s Z EL vm0 h) : Z.Warmed39 vm0 := D.2.1
theorem Wd.ch (D : Wd s Z EL vm0 h) : CHv Z EL vm0 h := D.2.2.1
theorem Wd.start (hZ : Z.Warmed39 s.vm) (H : CHv Z EL s.vm s.heap) : Wd s Z EL s.vm s.heap := ⟨⟨_, (State.WarmedH.refl s).since s.heap.size, Nat.le_refl _⟩, hZ, CHr.refl H⟩
theorem Wd.to (D : Wd s Z EL vm0 h) (C : CHr Z EL vm0 h vm0 h') : Wd s Z EL vm0 h' := by
  obtain ⟨⟨k0, h1, h2⟩, h3, h4⟩ := D
  exact ⟨⟨k0, h1, Nat.le_trans h2 C.2.1⟩, h3, h4.trans C⟩
theorem Wd.ext (D : Wd s Z EL vm0 h) (E : Ext h h') : Wd s Z EL vm0 h' := D.to (CHr.ext E D.ch)
theorem Wd.wr (D : Wd s Z EL vm0 h) {a : Addr} {sl : Nat} {v : Value} (W : Wr h h' a sl v) (S : Safe Z EL vm0 h a) : Wd s Z EL vm0 h' := D.to (CHr.wr W S D.ch)
theorem Wd.keep (D : Wd s Z EL vm0 h) {ws : List Addr} (K : Keep h h' ws) (S : ∀ x ∈ ws, Safe Z EL vm0 h x) : Wd s Z EL vm0 h' := D.to (CHr.keep K S D.ch)
theorem Wd.safeExt (D : Wd s Z EL vm0 h) (E : Ext h h') {x : Addr} (S : Safe Z EL vm0 h x) : Safe Z EL vm0 h' x := S.ext E D.ch
theorem Wd.safeNew (D : Wd s Z EL vm0 h) (E : Ext h h') : Safe Z EL vm0 h' h.size := (Safe.new (Nat.le_refl _)).ext E D.ch
theorem Wd.safeWr (D : Wd s Z EL vm0 h) {a : Addr} {sl : Nat} {v : Value} (W : Wr h h' a sl v) (S : Safe Z EL vm0 h a) {x : Addr} (Sx : Safe Z EL vm0 h x) : Safe Z EL vm0 h' x := Safe.wr W S D.ch Sx
theorem Wd.safeKeep (D : Wd s Z EL vm0 h) {ws : List Addr} (K : Keep h h' ws) (S : ∀ x ∈ ws, Safe Z EL vm0 h x) {x : Addr} (Sx : Safe Z EL vm0 h x) : Safe Z EL vm0 h' x := Sx.keep K S D.ch
/-- what a wide contract says of its end -/
abbrev EndW (Z : State) (EL : List (String × Nat)) (s : State) (Q : Option Value → Heap → List Loc → Prop) (k n : Nat) : Outcome → State → Prop := fun o t => ∃ v L, o = .returned v ∧ Q v t.heap L ∧ CHr Z EL s.vm s.heap t.vm t.heap ∧ ReturnedEndW s o t L k n
variable {p : Program} {l : Launch} {e : Env} {R : Room} {m : MethodId} {args : Array Value} {below : List Frame} {meth : Method} {c : Code} {T : State} {locs : List Loc} {cells slots : Nat} {pc pc' : Nat} {Ls : Array Slot} {rest : List Value} {Q : Option Value → Heap → List Loc → Prop} {k n : Nat} {a0 : Array Value}
theorem sbn_mono {s t : State} {o : Outcome} {L : List Loc} {k n k' n' : Nat} (h : ReturnedEndW s o t L k n) (hk : k ≤ k') (hn : n ≤ n') : ReturnedEndW s o t L k' n' := ⟨h.1, h.2.1, h.2.2.1, h.2.2.2.mono hk hn⟩
theorem fin_ofW (X : Stand p l e R (s.setVm vm0) m args below meth c T locs cells slots) (eT : T.heap = h) (D : Wd s Z EL vm0 h) (hEL : EW Z a0 EL) (hlk : meth.locks = false) {v : Option Value} (hv : meth.sig.returnType = none → v = none) {g : JFrame} (st : ∀ fs, (∀ (f : JFrame) (acts : List Action), f.method = m → f.locked = none → f.entered = [] → (doReturn e (T.setTop f) acts v).1 = T.setFrames fs) → Steps p.tables e below (T.setTop g) (T.setFrames fs)) (hQ : Q v T.heap locs) (hk : cells ≤ k) (hn : slots ≤ n) : Go p.tables e below (EndW Z EL s Q k n) (T.setTop g) := by
  subst eT
  obtain ⟨⟨k0, hS, hk0⟩, hZ, C⟩ := D
  have A : CHr Z EL s.vm s.heap T.vm T.heap := C.trans (CHv.at X hZ hEL C.1)
  obtain ⟨fs, hr, hrun, hended, hE⟩ := X.leaveW hS hk0 (v := v) hv hlk
  exact ⟨_, _, st fs hr, hrun, hended, _, _, rfl, hQ, A, sbn_mono hE hk hn⟩
theorem ireturnW (X : Stand p l e R (s.setVm vm0) m args below meth c T locs cells slots) (hx : p.tables.exec = Jvm.exec) (eT : T.heap = h) (D : Wd s Z EL vm0 h) (hEL : EW Z a0 EL) (hlk : meth.locks = false) {z : Int32} (hret : meth.sig.returnType = some .int) (hd : decode c.code pc = .ok (.ireturn, 1)) (hQ : Q (some (.int z)) T.heap locs) (hk : cells ≤ k) (hn : slots ≤ n) : Go p.tables e below (EndW Z EL s Q k n) (T.setTop (mkF m pc Ls (.int z :: rest))) :=
  fin_ofW X eT D hEL hlk (v := some (.int z)) (fun h => by rw [hret] at h; cases h) (fun fs hr => retOut X hx hret rfl (Or.inl ⟨rfl, Or.inl rfl, z, rfl⟩) hd hr) hQ hk hn
theorem nreturnW (X : Stand p l e R (s.setVm vm0) m args below meth c T locs cells slots) (hx : p.tables.exec = Jvm.exec) (eT : T.heap = h) (D : Wd s Z EL vm0 h) (hEL : EW Z a0 EL) (hlk : meth.locks = false) {z : Int32} {t : FieldType} (hret : meth.sig.returnType = some t) (ht : t = .boolean ∨ t = .byte ∨ t = .char ∨ t = .short) (hd : decode c.code pc = .ok (.ireturn, 1)) (hQ : Q (some (.int (nar t z))) T.heap locs) (hk : cells ≤ k) (hn : slots ≤ n) : Go p.tables e below (EndW Z EL s Q k n) (T.setTop (mkF m pc Ls (.int z :: rest))) :=
  fin_ofW X eT D hEL hlk (v := some (.int (nar t z))) (fun h => by rw [hret] at h; cases h) (fun fs hr => retN X hx hret ht hd hr) hQ hk hn
theorem areturnW (X : Stand p l e R (s.setVm vm0) m args below meth c T locs cells slots) (hx : p.tables.exec = Jvm.exec) (eT : T.heap = h) (D : Wd s Z EL vm0 h) (hEL : EW Z a0 EL) (hlk : meth.locks = false) {w : Value} {t : FieldType} (hret : meth.sig.returnType = some t) (ht : t.isReference = true) (hw : w.isRef = true) (hna : narrow t w = w) (hd : decode c.code pc = .ok (.areturn, 1)) (hQ : Q (some w) T.heap locs) (hk : cells ≤ k) (hn : slots ≤ n) : Go p.tables e below (EndW Z EL s Q k n) (T.setTop (mkF m pc Ls (w :: rest))) :=
  fin_ofW X eT D hEL hlk (v := some w) (fun h => by rw [hret] at h; cases h) (fun fs hr => retOut X hx hret hna (Or.inr (Or.inr (Or.inr (Or.inr ⟨rfl, ht, hw⟩)))) hd hr) hQ hk hn
theorem vreturnW (X : Stand p l e R (s.setVm vm0) m args below meth c T locs cells slots) (hx : p.tables.exec = Jvm.exec) (eT : T.heap = h) (D : Wd s Z EL vm0 h) (hEL : EW Z a0 EL) (hlk : meth.locks = false) (hret : meth.sig.returnType = none) (hd : decode c.code pc = .ok (.return_, 1)) (hQ : Q none T.heap locs) (hk : cells ≤ k) (hn : slots ≤ n) : Go p.tables e below (EndW Z EL s Q k n) (T.setTop (mkF m pc Ls [])) :=
  fin_ofW X eT D hEL hlk (v := none) (fun _ => rfl) (fun fs hr => X.returnOut hx hret hd hr) hQ hk hn
/-- ldc of a literal whose text is held -/
theorem ldcS {G : Outcome → State → Prop} (X : Stand p l e R (s.setVm vm0) m args below meth c T locs cells slots) (hx : p.tables.exec = Jvm.exec) (eT : T.heap = h) (D : Wd s Z EL vm0 h) (hEL : EW Z a0 EL) {own text : String} {index : Nat} (hown : vm0.findClass own = some m.cls) (w : (Cond.stringLink own index text).before a0 Z = true) (wS : ∀ a ∈ Bundle.stringAtoms, a.before a0 Z = true) (hmem : (own, index) ∈ EL)
    {vs : List Value} {z : Int32} (ht : (∀ c ∈ text.toList, c.toNat < 256) ∧ text.toList.map (fun c => Value.int (Jvm.Lit.byteI c.toNat.toUInt16)) = vs) (hz : ¬ z < 0) (hl : z.toNatClampNeg = vs.length) (hd : decode c.code pc = .ok (.ldc index, 2)) (n : Nat) (hn : 4 * text.toList.length ≤ n) (hbig : n ≤ 536870912) (hc : cells + 2 ≤ R.cells) (hl' : slots + (n + 4) ≤ R.slots)
    (K : ∀ (vm1 : Vm) (a : Addr) (T' : State) (h' : Heap) (b : Addr) (kc : ClassId), Stand p l e R (s.setVm vm1) m args below meth c T' locs (cells + 2) (slots + (n + 4)) → T'.heap = h' → Ext h h' → Wd s Z EL vm1 h' → vm1.findClass own = some m.cls → CHr Z EL vm0 h vm1 h' →
      Exa Z h' a "java/lang/String" → Fld Z h' a "java/lang/String" "coder" "B" (.int 0) → Fld Z h' a "java/lang/String" "value" "[B" (.ref b) → Arv Z h' b kc .byte z vs (.int 0) → (∀ x, Safe Z EL vm1 h' x → x ≠ a ∧ x ≠ b) → Go p.tables e below G (T'.setTop (mkF m (pc + 2) Ls (.ref a :: rest)))) : Go p.tables e below G (T.setTop (mkF m pc Ls rest)) := by
  obtain ⟨⟨k0, hS, hk0⟩, hZ, C⟩ := D
  obtain ⟨a, T', h', k1, b, kc, X', e', E, hS', hk1, hW, hf, A, F1, F2, V, -, -, C', -, hne, st⟩ := ldcCH X hx hZ hown w wS eT hS hk0 hEL hmem C.1 ht hz hl (g := mkF m pc Ls rest) rfl hd hn hbig hc hl'
  exact (K T'.vm a T' h' b kc X' e' E ⟨⟨k1, hS', hk1⟩, hW, C.trans C'⟩ hf C' A F1 F2 V hne).via st
/-- ldc of any literal, its text unread -/
theorem ldcO {G : Outcome → State → Prop} (X : Stand p l e R (s.setVm vm0) m args below meth c T locs cells slots) (hx : p.tables.exec = Jvm.exec) (eT : T.heap = h) (D : Wd s Z EL vm0 h) (hEL : EW Z a0 EL) {own text : String} {index : Nat} (hown : vm0.findClass own = some m.cls) (w : (Cond.stringLink own index text).before a0 Z = true) (wS : ∀ a ∈ Bundle.stringAtoms, a.before a0 Z = true)
    (hd : decode c.code pc = .ok (.ldc index, 2)) (n : Nat) (hn : 4 * text.toList.length ≤ n) (hbig : n ≤ 536870912) (hc : cells + 2 ≤ R.cells) (hl' : slots + (n + 4) ≤ R.slots)
    (K : ∀ (vm1 : Vm) (a : Addr) (T' : State) (h' : Heap), Stand p l e R (s.setVm vm1) m args below meth c T' locs (cells + 2) (slots + (n + 4)) → T'.heap = h' → Ext h h' → Wd s Z EL vm1 h' → vm1.findClass own = some m.cls → CHr Z EL vm0 h vm1 h' → Go p.tables e below G (T'.setTop (mkF m (pc + 2) Ls (.ref a :: rest)))) : Go p.tables e below G (T.setTop (mkF m pc Ls rest)) := by
  obtain ⟨⟨k0, hS, hk0⟩, hZ, C⟩ := D
  obtain ⟨a, T', h', k1, X', e', E, hS', hk1, hW, hf, C', -, st⟩ := ldcOH X hx hZ hown w wS eT hS hk0 hEL C.1 (g := mkF m pc Ls rest) rfl hd hn hbig hc hl'
  exact (K T'.vm a T' h' X' e' E ⟨⟨k1, hS', hk1⟩, hW, C.trans C'⟩ hf C').via st
end Wides
section PaysW
/-- a wide contract; the cells sf are none of a booked literal's -/
def PayW (l : Launch) (Z : State) (EL : List (String × Nat)) (sf : List Addr) (y : MethodName) (bytes : ByteArray) (maxL : Nat) (ret : Option FieldType) (rm : Room) (as' : Array Value) (h0 : Heap) (Q : Option Value → Heap → List Loc → Prop) : Prop :=
  ∀ ws : List Jvm.Cond, MetFree l y (head1 (Jvm.Cond.code y bytes maxL ret :: ws) rm) (fun a U => a = as' ∧ Z.Warmed39 U.vm ∧ U.heap = h0 ∧ CHv Z EL U.vm h0 ∧ ∀ x ∈ sf, Safe Z EL U.vm h0 x) (fun _ _ _ _ _ => True) (fun _ U o U' => ∃ v L, o = .returned v ∧ Q v U'.heap L ∧ CHr Z EL U.vm U.heap U'.vm U'.heap ∧ ReturnedEndW U o U' L rm.cells rm.slots)
variable {l : Launch} {Z : State} {EL : List (String × Nat)} {sf : List Addr} {y : MethodName} {bytes : ByteArray} {maxL : Nat} {ret : Option FieldType} {rm : Room} {as' : Array Value} {h0 : Heap} {Q : Option Value → Heap → List Loc → Prop}
theorem PayW.of {Ls : Array Slot} (hpn : plainFor y = true) (hef : ∀ m, entryFrame m as' maxL = mkF m 0 Ls [])
    (body : ∀ (p : Program) (e : Env) (s : State) (m : MethodId) (below : List Frame) (meth : Method) (c : Code) (T : State) (vm0 : Vm), p.tables.exec = Jvm.exec → c.code = bytes → c.maxLocals = maxL → vm0.findClass y.cls = some m.cls → s.methodNamed? y = some m → s.vm.method? m = some meth → meth.sig.returnType = ret → meth.locks = false → Stand p l e rm (s.setVm vm0) m as' below meth c T [] 0 0 → T.heap = h0 → Wd s Z EL vm0 h0 → (∀ x ∈ sf, Safe Z EL vm0 h0 x) →
      Go p.tables e below (EndW Z EL s Q rm.cells rm.slots) (T.setTop (mkF m 0 Ls []))) : PayW l Z EL sf y bytes maxL ret rm as' h0 Q := by
  intro ws
  refine MetFree.of_bodySF hpn hisR ?_
  intro p e s m args below meth c s₁ Bd hml0 hP hK
  obtain ⟨rfl, hZ, hh, H, hsf⟩ := hP
  rw [hef m]
  subst hh
  exact body p e s m below meth c s₁ s.vm Bd.exec Bd.bytes hml0 (findClass_of_methodNamed Bd.named) Bd.named Bd.method Bd.returns Bd.notSynchronized (Stand.of_body Bd) (by rw [Bd.state]; rfl) (Wd.start hZ H) hsf
variable {p : Program} {e : Env} {R : Room} {s : State} {vm0 : Vm} {m : MethodId} {args : Array Value} {below : List Frame} {meth : Method} {c : Code} {T : State} {locs : List Loc} {cells slots : Nat} {G : Outcome → State → Prop} {pc : Nat} {Ls : Array Slot} {a0 : Array Value}
/-- its payer -/
theorem backW {len W : Nat} (hP : PayW l Z EL sf y bytes maxL ret rm as' h0 Q) (hZ : Z.Warmed39 vm0) (wc : (Cond.code y bytes maxL ret).before a0 Z = true) (wz : (Cond.initialized y.cls).before a0 Z = true) (hf : rm.frames + 1 ≤ R.frames) (hl : W + (maxL + 11) + rm.locals ≤ R.locals) (hEL : EW Z a0 EL) (H : CHv Z EL vm0 h0) (hsf : ∀ x ∈ sf, x < h0.size ∧ Safe Z EL vm0 h0 x) :
    BackS l R p e below (s.setVm vm0) args y len W (fun A a => a = as' ∧ A.U.heap = h0 ∧ A.cells + rm.cells ≤ R.cells ∧ A.slots + rm.slots ≤ R.slots)
      (fun A _ v B => ∃ L, Q v B.U.heap L ∧ B.locs = A.locs ++ L ∧ B.cells = A.cells + rm.cells ∧ B.slots = A.slots + rm.slots ∧ CHr Z EL vm0 h0 B.U.vm B.U.heap) := by
  have at' : ∀ (m : MethodId) (meth : Method) (c : Code) (A : Pt), Stand p l e R (s.setVm vm0) m args below meth c A.U A.locs A.cells A.slots → Z.Warmed39 A.U.vm ∧ CHr Z EL vm0 h0 A.U.vm h0 := fun m meth c A Y => ⟨wtrans (s := s.setVm vm0) hZ Y.warmed, CHv.at Y hZ hEL H⟩
  refine BackS.of_freeW (bytes := bytes) (maxL := maxL) (ret := ret) (E := fun _ first o t L k n => k = rm.cells ∧ n = rm.slots ∧ (∃ v, o = .returned v ∧ Q v t.heap L) ∧ CHr Z EL first.vm first.heap t.vm t.heap) (hP []) hf hl ?_ ?_ (fun _ _ _ _ _ _ _ _ _ => trivial) ?_ ?_
  · intro m meth c A a Y hp
    have hU := (at' m meth c A Y).1
    refine ⟨?_, mv hU wc, mv hU wz, hp.2.2.1, hp.2.2.2⟩
    show (Cond.and _ .tt).before a A.U = true
    rw [Cond.before_and, mv hU wc]; rfl
  · intro m meth c A a g mk Y hp
    obtain ⟨hU, hC⟩ := at' m meth c A Y
    exact ⟨hp.1, hU, hp.2.1, hC.1, fun x hx => hC.safe (hsf x hx).1 (hsf x hx).2⟩
  · rintro _ _ _ _ ⟨v, L, h1, h2, h3, h4⟩
    exact ⟨L, _, _, h4, rfl, rfl, ⟨v, h1, h2⟩, h3⟩
  · rintro m meth c A a g mk v t L k n Y hp _ _ ⟨e1, e2, ⟨v', e3, e4⟩, e5⟩
    cases e3; subst e1 e2
    refine ⟨L, e4, rfl, rfl, rfl, (at' m meth c A Y).2.trans ?_⟩
    rw [← hp.2.1]; exact e5
/-- invokestatic by a wide contract -/
theorem callSW (X : Stand p l e R (s.setVm vm0) m args below meth c T locs cells slots) (hx : p.tables.exec = Jvm.exec) (hP : PayW l Z EL sf y bytes maxL ret rm as' h0 Q) (eT : T.heap = h0) (D : Wd s Z EL vm0 h0) (hEL : EW Z a0 EL) (hsf : ∀ x ∈ sf, x < h0.size ∧ Safe Z EL vm0 h0 x) {own : String} {index : Nat} (hown : vm0.findClass own = some m.cls)
    (wl : (Cond.methodLink own index y).before a0 Z = true) (wst : (Cond.static y).before a0 Z = true) (wz : (Cond.initialized y.cls).before a0 Z = true) (wc : (Cond.code y bytes maxL ret).before a0 Z = true)
    (hy : y.cls ≠ "java/lang/invoke/MethodHandle" ∧ y.cls ≠ "java/lang/invoke/VarHandle") {ps : List FieldType} {rt : Option FieldType} (hpd : parseMethodDescriptor y.desc = some ⟨ps, rt⟩) (hsz : Ls.size = c.maxLocals)
    {argsL rest st : List Value} (has : argsL.toArray = as') (hlen : argsL.length = ps.length) (hst : st = argsL.reverse ++ rest) (hd : decode c.code pc = .ok (.invokestatic index, 3))
    (hf : (rm.frames + 1).ble R.frames = true) (hlo : ((rest.map fun v => v.category).sum + (maxL + 11) + rm.locals).ble R.locals = true) (hce : cells + rm.cells ≤ R.cells) (hsl : slots + rm.slots ≤ R.slots)
    (K : ∀ (v : Option Value) (vm1 : Vm) (T' : State) (L : List Loc), Stand p l e R (s.setVm vm1) m args below meth c T' (locs ++ L) (cells + rm.cells) (slots + rm.slots) → Q v T'.heap L → Wd s Z EL vm1 T'.heap → vm1.findClass own = some m.cls → CHr Z EL vm0 h0 vm1 T'.heap → Go p.tables e below G (T'.setTop (mkF m (pc + 3) Ls (v.toList ++ rest)))) :
    Go p.tables e below G (T.setTop (mkF m pc Ls st)) := by
  have hy' := hy
  obtain ⟨⟨k0, hS, hk0⟩, hZ, C⟩ := D
  have hZ' : Z.Warmed39 (s.setVm vm0).vm := hZ
  have hown' : (s.setVm vm0).vm.findClass own = some m.cls := hown
  obtain ⟨_, _, ⟨T1, L1, k1, n1⟩, -, X1, S1, g1, ⟨Lc, hQ, l1, y1, z1, C1⟩, st1⟩ := callSS X hx (y := y) hown' (mvT hZ' wl) (mvT hZ' wst) (mvT hZ' wz) (mvT hZ' wc) hy' (backW (W := (rest.map fun v => v.category).sum) hP hZ wc wz (Nat.le_of_ble_eq_true hf) (Nat.le_of_ble_eq_true hlo) hEL C.1 hsf) (g := mkF m pc Ls st) rfl hsz (argsL := argsL) (rest := rest) (lenOf hpd hlen) hst (by show 2 * 0 + _ ≤ _; omega) hd (fun _ _ => ⟨has, eT, hce, hsl⟩)
  dsimp only [Pt.U, Pt.locs, Pt.cells, Pt.slots] at X1 l1 y1 z1 st1 hQ S1 g1 C1
  subst l1 y1 z1
  obtain ⟨X2, S2, Z2, O2⟩ := rebS hS (by rw [← eT] at hk0; exact hk0) X1 S1 g1 hZ' hown'
  exact (K _ T1.vm _ _ X2 hQ ⟨⟨_, S2, Nat.le_refl _⟩, Z2, C.trans C1⟩ O2 C1).thru st1
/-- invokespecial of a constructor by a wide contract -/
theorem callIW (X : Stand p l e R (s.setVm vm0) m args below meth c T locs cells slots) (hx : p.tables.exec = Jvm.exec) (hP : PayW l Z EL sf y bytes maxL none rm as' h0 Q) (eT : T.heap = h0) (D : Wd s Z EL vm0 h0) (hEL : EW Z a0 EL) (hsf : ∀ x ∈ sf, x < h0.size ∧ Safe Z EL vm0 h0 x) (hni : y.name = "<init>") {own : String} {index : Nat} (hown : vm0.findClass own = some m.cls)
    (wl : (Cond.methodLink own index y).before a0 Z = true) (win : (Cond.instanceMethod y).before a0 Z = true) (wz : (Cond.initialized y.cls).before a0 Z = true) (wc : (Cond.code y bytes maxL none).before a0 Z = true)
    (hy : y.cls ≠ "java/lang/invoke/MethodHandle" ∧ y.cls ≠ "java/lang/invoke/VarHandle") {ps : List FieldType} {rt : Option FieldType} (hpd : parseMethodDescriptor y.desc = some ⟨ps, rt⟩) (hsz : Ls.size = c.maxLocals)
    {a : Addr} {argsL rest st : List Value} (has : (.ref a :: argsL).toArray = as') (hlen : argsL.length = ps.length) (hst : st = argsL.reverse ++ .ref a :: rest) (hd : decode c.code pc = .ok (.invokespecial index, 3))
    (hf : (rm.frames + 1).ble R.frames = true) (hlo : ((rest.map fun v => v.category).sum + (maxL + 11) + rm.locals).ble R.locals = true) (hce : cells + rm.cells ≤ R.cells) (hsl : slots + rm.slots ≤ R.slots)
    (K : ∀ (v : Option Value) (vm1 : Vm) (T' : State) (L : List Loc), Stand p l e R (s.setVm vm1) m args below meth c T' (locs ++ L) (cells + rm.cells) (slots + rm.slots) → Q v T'.heap L → Wd s Z EL vm1 T'.heap → vm1.findClass own = some m.cls → CHr Z EL vm0 h0 vm1 T'.heap → Go p.tables e below G (T'.setTop (mkF m (pc + 3) Ls (v.toList ++ rest)))) :
    Go p.tables e below G (T.setTop (mkF m pc Ls st)) := by
  have hy' := hy
  obtain ⟨⟨k0, hS, hk0⟩, hZ, C⟩ := D
  have hZ' : Z.Warmed39 (s.setVm vm0).vm := hZ
  have hown' : (s.setVm vm0).vm.findClass own = some m.cls := hown
  obtain ⟨_, _, ⟨T1, L1, k1, n1⟩, -, X1, S1, g1, ⟨Lc, hQ, l1, y1, z1, C1⟩, st1⟩ := X.specialBackS hx (y := y) hni hown' (mvT hZ' wl) (mvT hZ' win) (mvT hZ' wc) hy' (backW (W := (rest.map fun v => v.category).sum) hP hZ wc wz (Nat.le_of_ble_eq_true hf) (Nat.le_of_ble_eq_true hlo) hEL C.1 hsf) (g := mkF m pc Ls st) rfl hsz (Steps.refl _) (a := a) (argsL := argsL) (rest := rest) (lenOf hpd hlen) hst (by show 2 * 0 + _ ≤ _; omega) hd (fun _ _ => ⟨has, eT, hce, hsl⟩)
  dsimp only [Pt.U, Pt.locs, Pt.cells, Pt.slots] at X1 l1 y1 z1 st1 hQ S1 g1 C1
  subst l1 y1 z1
  obtain ⟨X2, S2, Z2, O2⟩ := rebS hS (by rw [← eT] at hk0; exact hk0) X1 S1 g1 hZ' hown'
  exact (K _ T1.vm _ _ X2 hQ ⟨⟨_, S2, Nat.le_refl _⟩, Z2, C.trans C1⟩ O2 C1).thru st1
/-- invokevirtual by a wide contract -/
theorem callVW (X : Stand p l e R (s.setVm vm0) m args below meth c T locs cells slots) (hx : p.tables.exec = Jvm.exec) (hP : PayW l Z EL sf y bytes maxL ret rm as' h0 Q) (eT : T.heap = h0) (D : Wd s Z EL vm0 h0) (hEL : EW Z a0 EL) (hsf : ∀ x ∈ sf, x < h0.size ∧ Safe Z EL vm0 h0 x) {C : String} {own : String} {index : Nat} (hown : vm0.findClass own = some m.cls)
    (wl : (Cond.methodLink own index y).before a0 Z = true) (wd : (Cond.declares y).before a0 Z = true) (wse : (Cond.selects C y y).before a0 Z = true) (win : (Cond.instanceMethod y).before a0 Z = true) (wz : (Cond.initialized y.cls).before a0 Z = true) (wc : (Cond.code y bytes maxL ret).before a0 Z = true)
    (hy : y.cls ≠ "java/lang/invoke/MethodHandle" ∧ y.cls ≠ "java/lang/invoke/VarHandle") {ps : List FieldType} {rt : Option FieldType} (hpd : parseMethodDescriptor y.desc = some ⟨ps, rt⟩) (hsz : Ls.size = c.maxLocals)
    {a : Addr} (E : Exa Z h0 a C) {argsL rest st : List Value} (has : (.ref a :: argsL).toArray = as') (hlen : argsL.length = ps.length) (hst : st = argsL.reverse ++ .ref a :: rest) (hd : decode c.code pc = .ok (.invokevirtual index, 3))
    (hf : (rm.frames + 1).ble R.frames = true) (hlo : ((rest.map fun v => v.category).sum + (maxL + 11) + rm.locals).ble R.locals = true) (hce : cells + rm.cells ≤ R.cells) (hsl : slots + rm.slots ≤ R.slots)
    (K : ∀ (v : Option Value) (vm1 : Vm) (T' : State) (L : List Loc), Stand p l e R (s.setVm vm1) m args below meth c T' (locs ++ L) (cells + rm.cells) (slots + rm.slots) → Q v T'.heap L → Wd s Z EL vm1 T'.heap → vm1.findClass own = some m.cls → CHr Z EL vm0 h0 vm1 T'.heap → Go p.tables e below G (T'.setTop (mkF m (pc + 3) Ls (v.toList ++ rest)))) :
    Go p.tables e below G (T.setTop (mkF m pc Ls st)) := by
  have hy' := hy
  obtain ⟨⟨k0, hS, hk0⟩, hZ, C2⟩ := D
  have hZ' : Z.Warmed39 (s.setVm vm0).vm := hZ
  have hown' : (s.setVm vm0).vm.findClass own = some m.cls := hown
  obtain ⟨cq, kq, qa, qb, qc⟩ := isOf hZ' eT E
  obtain ⟨_, _, ⟨T1, L1, k1, n1⟩, -, X1, S1, g1, ⟨Lc, hQ, l1, y1, z1, C1⟩, st1⟩ := X.virtualBackS hx (y := y) (z := y) hown' (mvT hZ' wl) (mvT hZ' wd) (notFace_of_selects (args := #[]) (mvT hZ' wse)) (mvT hZ' wse) (mvT hZ' win) hy' (backW (W := (rest.map fun v => v.category).sum) hP hZ wc wz (Nat.le_of_ble_eq_true hf) (Nat.le_of_ble_eq_true hlo) hEL C2.1 hsf) qa qc (g := mkF m pc Ls st) rfl hsz (Steps.refl _) (argsL := argsL) (rest := rest) (lenOf hpd hlen) hst (by show 2 * 0 + _ ≤ _; omega) hd (fun _ _ => ⟨has, eT, hce, hsl⟩)
  dsimp only [Pt.U, Pt.locs, Pt.cells, Pt.slots] at X1 l1 y1 z1 st1 hQ S1 g1 C1
  subst l1 y1 z1
  obtain ⟨X2, S2, Z2, O2⟩ := rebS hS (by rw [← eT] at hk0; exact hk0) X1 S1 g1 hZ' hown'
  exact (K _ T1.vm _ _ X2 hQ ⟨⟨_, S2, Nat.le_refl _⟩, Z2, C2.trans C1⟩ O2 C1).thru st1
end PaysW
end Jvm.Ow
namespace Jvm.Ow
open Sem ClassFile Op Lib Jvm.Stand Jvm.Free Jvm.LawKit Jvm.RoadKit
/-- a compact String at x, its bytes bs at t -/
def Str (Z : State) (h : Heap) (x t : Addr) (kb : ClassId) (bs : List Int32) : Prop := Exa Z h x "java/lang/String" ∧ Fld Z h x "java/lang/String" "coder" "B" (.int 0) ∧ Fld Z h x "java/lang/String" "value" "[B" (.ref t) ∧ AL Z h t kb .byte (bs.map Value.int)
section Strs
variable {Z : State} {h h' : Heap} {x t : Addr} {kb : ClassId} {bs : List Int32} {ws : List Addr}
theorem Str.ext (S : Str Z h x t kb bs) (E : Ext h h') : Str Z h' x t kb bs := ⟨S.1.ext E, S.2.1.ext E, S.2.2.1.ext E, S.2.2.2.ext E⟩
theorem Str.keep (S : Str Z h x t kb bs) (K : Keep h h' ws) (q1 : x ∉ ws) (q2 : t ∉ ws) : Str Z h' x t kb bs := ⟨S.1.keep K, S.2.1.keep K q1, S.2.2.1.keep K q1, S.2.2.2.keep K q2⟩
theorem Str.lt (S : Str Z h x t kb bs) : x < h.size := S.1.lt
theorem Str.ltB (S : Str Z h x t kb bs) : t < h.size := S.2.2.2.lt
theorem shr0 (c : Int32) : c >>> ((0 : Int32) &&& 31) = c := by
  have h : ((0 : Int32) &&& 31) = 0 := by decide
  rw [h]
  apply Int32.toBitVec_inj.mp
  simp
theorem n_cl {n : Nat} (hn : n < 2147483648) : (Int32.ofNat n).toNatClampNeg = n := by
  rw [Int32.toNatClampNeg, Int32.toInt_ofNat_of_lt hn]; rfl
theorem n_nn {n : Nat} (hn : n < 2147483648) : ¬ Int32.ofNat n < 0 := by
  rw [Int32.lt_iff_toInt_lt, Int32.toInt_ofNat_of_lt hn, show (0 : Int32).toInt = 0 from rfl]; omega
theorem n_lt {i n : Nat} (hi : i < 2147483648) (hn : n < 2147483648) : Int32.ofNat i < Int32.ofNat n ↔ i < n := by
  rw [Int32.lt_iff_toInt_lt, Int32.toInt_ofNat_of_lt hi, Int32.toInt_ofNat_of_lt hn]; omega
theorem n_one (i : Nat) : Int32.ofNat i + (1 : Int32) = Int32.ofNat (i + 1) := (Int32.ofNat_add i 1).symm
theorem n_eq {i n : Nat} (hi : i < 2147483648) (hn : n < 2147483648) : Int32.ofNat i = Int32.ofNat n ↔ i = n := by
  refine ⟨fun h => ?_, fun h => by rw [h]⟩
  have := congrArg Int32.toNatClampNeg h
  rwa [n_cl hi, n_cl hn] at this
end Strs
end Jvm.Ow
namespace Jvm.Ow
open Sem ClassFile Op Lib Jvm.Stand Jvm.Free Jvm.LawKit Jvm.RoadKit
theorem staKeep {Z : State} {h h' : Heap} {C n d : String} {v : Value} {ws : List Addr} (S : Sta Z h C n d v) (K : Keep h h' ws) (q : ∀ x ∈ ws, ∃ c : Cell, h[x]? = some c ∧ c.vm.isStatics = false) : Sta Z h' C n d v := by
  obtain ⟨cf, i, k, f, st, cell, h1, h2, h3, h4, h5, h6, h7⟩ := S
  refine ⟨cf, i, k, f, st, cell, h1, h2, h3, h4, K.2.1 st cell h5 fun hm => ?_, h6, h7⟩
  obtain ⟨c, hc, hs⟩ := q st hm
  cases h5.symm.trans hc
  rw [hs] at h6; cases h6
theorem Exa.plain {Z : State} {h : Heap} {a : Addr} {C : String} (A : Exa Z h a C) : ∃ c : Cell, h[a]? = some c ∧ c.vm.isStatics = false := by
  obtain ⟨c, _, h1, -, -, h4, -⟩ := A; exact ⟨c, h1, h4⟩
theorem AL.plain {Z : State} {h : Heap} {a : Addr} {k : ClassId} {ty : FieldType} {vs : List Value} (A : AL Z h a k ty vs) : ∃ c : Cell, h[a]? = some c ∧ c.vm.isStatics = false := by
  obtain ⟨c, A, -⟩ := A; exact ⟨c, A.1, A.plain⟩
theorem AL.safe {Z : State} {EL : List (String × Nat)} {vm : Vm} {h : Heap} {a : Addr} {k : ClassId} {ty : FieldType} {vs : List Value} (A : AL Z h a k ty vs) (hal : Z.vm.Alike vm) (ht : ty ≠ .byte) : Safe Z EL vm h a := by
  obtain ⟨c, A, -⟩ := A; exact Safe.arr hal A ht
theorem nin1 {x y : Addr} (q : x ≠ y) : x ∉ [y] := fun z => q (List.mem_singleton.mp z)
end Jvm.Ow
namespace Jvm.Ow
open Sem ClassFile Op Lib Jvm.Stand Jvm.Free Jvm.LawKit Jvm.RoadKit
section Starts
variable {args : Array Value} {s : State} {t u : Term} {x : Addr} {C n d : String} {cl : Cell} {ty : FieldType}
theorem eqI_at {k : Int32} (h : (Cond.eq t (.int k)).value args s none s [] = some true) : t.eval args s none [] s = some (.int k) := by
  simp only [Cond.value, Term.eval] at h
  cases ht : t.eval args s none [] s with
  | none => simp [ht] at h
  | some v => cases v <;> simp [ht] at h ⊢ <;> exact h
theorem eqJ_at {k : Int64} (h : (Cond.eq t (.long k)).value args s none s [] = some true) : t.eval args s none [] s = some (.long k) := by
  simp only [Cond.value, Term.eval] at h
  cases ht : t.eval args s none [] s with
  | none => simp [ht] at h
  | some v => cases v <;> simp [ht] at h ⊢ <;> exact h
theorem eqR_at (h : (Cond.eq t u).value args s none s [] = some true) (hu : u.eval args s none [] s = some (.ref x)) : t.eval args s none [] s = some (.ref x) := by
  simp only [Cond.value, hu] at h
  cases ht : t.eval args s none [] s with
  | none => simp [ht] at h
  | some v => cases v <;> simp [ht] at h ⊢ <;> exact h
theorem fldI {k : Int32} (h : (Cond.eq (.field t C n d) (.int k)).value args s none s [] = some true) (ht : t.eval args s none [] s = some (.ref x)) : Fld s s.heap x C n d (.int k) := Fld.start (by rw [← fld_at ht]; exact eqI_at h)
theorem fldJ {k : Int64} (h : (Cond.eq (.field t C n d) (.long k)).value args s none s [] = some true) (ht : t.eval args s none [] s = some (.ref x)) : Fld s s.heap x C n d (.long k) := Fld.start (by rw [← fld_at ht]; exact eqJ_at h)
theorem fldR {y : Addr} (h : (Term.field t C n d).eval args s none [] s = some (.ref y)) (ht : t.eval args s none [] s = some (.ref x)) : Fld s s.heap x C n d (.ref y) := Fld.start (by rw [← fld_at ht]; exact h)
theorem lenAt {k : Int32} (h : (Cond.eq (.length t) (.int k)).value args s none s [] = some true) (ht : t.eval args s none [] s = some (.ref x)) (A : Arr s s.heap x cl ty) : cl.slots.size < 2147483648 ∧ cl.slots.size.toInt32 = k := by
  have q := eqI_at h
  have ha : s.arrayAt? x = some cl := A.fin (Vm.Alike.refl _)
  simp only [Term.eval, ht, ha, Option.bind_eq_bind, Option.bind_some] at q
  split at q
  · rename_i hl
    exact ⟨hl, by simpa using q⟩
  · cases q
theorem elemAt {k : Int32} {v : Value} (h : (Term.elem t (.int k)).eval args s none [] s = some v) (ht : t.eval args s none [] s = some (.ref x)) (A : Arr s s.heap x cl ty) : cl.slots[k.toNatClampNeg]? = some v := (elem_in h ht rfl A.1).2
end Starts
end Jvm.Ow
namespace Jvm.Ow
open Sem ClassFile Op Lib Jvm.Stand Jvm.Free Jvm.LawKit Jvm.RoadKit
section Copies
variable {p : Program} {l : Launch} {e : Env} {R : Room} {s : State} {m : MethodId} {args : Array Value} {below : List Frame} {meth : Method} {c : Code} {T : State} {locs : List Loc} {cells slots : Nat} {G : Outcome → State → Prop} {pc : Nat} {Ls : Array Slot} {rest : List Value} {Z : State} {a0 : Array Value} {h : Heap}
theorem setKeep {h : Heap} {a : Addr} {c c' : Cell} (hc : h[a]? = some c) (q1 : c'.cls = c.cls) (q2 : c'.vm = c.vm) (q3 : c'.slots.size = c.slots.size) : Keep h (h.setIfInBounds a c') [a] := by
  refine ⟨by simp, fun x d q r => ?_, fun x d q => ?_⟩
  · have : a ≠ x := fun z => r (by simp [z])
    rw [Array.getElem?_setIfInBounds_ne this]; exact q
  · by_cases z : a = x
    · subst z; cases hc.symm.trans q
      exact ⟨c', by rw [Array.getElem?_setIfInBounds_self_of_lt (Array.getElem?_eq_some_iff.mp hc).1], q1, q2, q3⟩
    · exact ⟨d, by rw [Array.getElem?_setIfInBounds_ne z]; exact q, rfl, rfl, rfl⟩
theorem fitsByte_int {v : Value} (h : fits .byte v = true) : ∃ z, v = .int z := by
  cases v <;> simp [fits] at h ⊢
/-- System.arraycopy of bytes -/
theorem arraycopyB (X : Stand p l e R s m args below meth c T locs cells slots) (hx : p.tables.exec = Jvm.exec) (hZ : Z.Warmed39 s.vm) (eT : T.heap = h) {own : String} {index : Nat} (hown : s.vm.findClass own = some m.cls)
    (wl : (Cond.methodLink own index arraycopyName).before a0 Z = true) (wn : (Cond.native arraycopyName).before a0 Z = true) (wst : (Cond.static arraycopyName).before a0 Z = true) (wz : (Cond.initialized "java/lang/System").before a0 Z = true)
    {src dst : Addr} {k1 k2 : ClassId} {vs ds : List Value} (As : AL Z h src k1 .byte vs) (Ad : AL Z h dst k2 .byte ds) (hfit : ∀ v ∈ vs, fits .byte v = true) (sp dp n : Nat) (h1 : sp + n ≤ vs.length) (h2 : dp + n ≤ ds.length) (hb1 : vs.length < 2147483648) (hb2 : ds.length < 2147483648) (vs' : List Value) (hvs : ds.take dp ++ ((vs.drop sp).take n ++ ds.drop (dp + n)) = vs')
    (hsz : Ls.size = c.maxLocals) (hd : decode c.code pc = .ok (.invokestatic index, 3)) (hf : (1 : Nat).ble R.frames = true) (hlo : ((rest.map fun v => v.category).sum + 18).ble R.locals = true)
    (K : ∀ T' h' L, Stand p l e R s m args below meth c T' (locs ++ L) cells slots → T'.heap = h' → Eff h h' [dst] L → AL Z h' dst k2 .byte vs' → Go p.tables e below G (T'.setTop (mkF m (pc + 3) Ls rest))) :
    Go p.tables e below G (T.setTop (mkF m pc Ls (.int (Int32.ofNat n) :: .int (Int32.ofNat dp) :: .ref dst :: .int (Int32.ofNat sp) :: .ref src :: rest))) := by
  obtain ⟨cs, A1, r1, r2⟩ := As
  obtain ⟨cd, A2, q1, q2⟩ := Ad
  obtain ⟨o1, kS, hkS, cpS, hkindS⟩ := A1.2.1
  obtain ⟨o2, kD, hkD, cpD, hkindD⟩ := A2.2.1
  obtain ⟨kS', hkS', eS⟩ := hZ.alike.2.2 _ _ hkS
  obtain ⟨kD', hkD', eD⟩ := hZ.alike.2.2 _ _ hkD
  have z1 : cs.slots.size = vs.length := by rw [r2]; simp
  have z2 : cd.slots.size = ds.length := by rw [q2]; simp
  have t1 : (Int32.ofNat sp).toInt = sp := Int32.toInt_ofNat_of_lt (by omega)
  have t2 : (Int32.ofNat dp).toInt = dp := Int32.toInt_ofNat_of_lt (by omega)
  have t3 : (Int32.ofNat n).toInt = n := Int32.toInt_ofNat_of_lt (by omega)
  have c1 : (Int32.ofNat sp).toNatClampNeg = sp := by rw [Int32.toNatClampNeg, t1]; rfl
  have c2 : (Int32.ofNat dp).toNatClampNeg = dp := by rw [Int32.toNatClampNeg, t2]; rfl
  have c3 : (Int32.ofNat n).toNatClampNeg = n := by rw [Int32.toNatClampNeg, t3]; rfl
  have n0 : ∀ k : Nat, k < 2147483648 → ¬ Int32.ofNat k < 0 := fun k hk => by
    rw [Int32.lt_iff_toInt_lt, Int32.toInt_ofNat_of_lt hk, show (0 : Int32).toInt = 0 from rfl]; omega
  have hget : ∀ i, i < n → ∃ z, cs.slots.getD (sp + i) .null = .int z ∧ fits .byte (.int z) = true ∧ vs[sp + i]? = some (.int z) := fun i hi => by
    have hl : sp + i < vs.length := by omega
    have hv := hfit vs[sp + i] (List.getElem_mem _)
    obtain ⟨z, hz⟩ := fitsByte_int hv
    refine ⟨z, ?_, by rw [← hz]; exact hv, by rw [List.getElem?_eq_getElem hl, hz]⟩
    rw [r2]; simp [Array.getD, hl, hz]
  have e7 : nativeFrameWords "java/lang/System" "arraycopy" 5 = 7 := by decide
  have hl9 : 2 * 0 + (rest.map fun v => v.category).sum + (nativeFrameWords "java/lang/System" "arraycopy" 5 + 11) ≤ R.locals := by
    have := Nat.le_of_ble_eq_true hlo
    rw [e7]; omega
  obtain ⟨vm', X', st⟩ := X.arraycopy hx hown (mvT hZ wl) (mvT hZ wn) (mvT hZ wst) (mvT hZ wz) (srcPos := Int32.ofNat sp) (destPos := Int32.ofNat dp) (n := Int32.ofNat n) (cs := cs) (cd := cd) (by rw [eT]; exact A1.1) (by rw [eT]; exact A2.1) o1 o2 A1.2.2 A2.2.2 hkS' hkD' (sComp := cpS) (dComp := cpD) (sType := .byte) (dType := .byte) (by rw [eS]; exact hkindS) (by rw [eD]; exact hkindD) rfl (n0 _ (by omega)) (n0 _ (by omega)) (n0 _ (by omega)) (by rw [t1, t3, z1]; omega) (by rw [t2, t3, z2]; omega)
    (fun vm' _ i hi => by
      rw [c3] at hi
      obtain ⟨z, e1, e2, -⟩ := hget i hi
      rw [c1, e1]; exact ⟨e2, trivial⟩)
    (g := mkF m pc Ls (.int (Int32.ofNat n) :: .int (Int32.ofNat dp) :: .ref dst :: .int (Int32.ofNat sp) :: .ref src :: rest)) rfl hsz (rest := rest) rfl hd (Nat.le_of_ble_eq_true hf) hl9
  refine (K _ _ _ X' rfl ?_ ?_).via st
  · refine ⟨?_, fun y hy => ?_⟩
    · have f := Cell.storeRun_facts cd (Int32.ofNat dp).toNatClampNeg (cs.stretch (Int32.ofNat sp).toNatClampNeg (Int32.ofNat n).toNatClampNeg)
      rw [← eT]
      exact setKeep (by rw [eT]; exact A2.1) f.1 f.2.1 f.2.2.1
    · obtain ⟨q, -, rfl⟩ := List.mem_map.mp hy
      exact Or.inl (by simp)
  · have f := Cell.storeRun_facts cd (Int32.ofNat dp).toNatClampNeg (cs.stretch (Int32.ofNat sp).toNatClampNeg (Int32.ofNat n).toNatClampNeg)
    have hlt : dst < T.heap.size := by rw [eT]; exact A2.lt
    refine ⟨copied cs cd (Int32.ofNat sp) (Int32.ofNat dp) (Int32.ofNat n), ⟨?_, ?_, ?_⟩, ?_, ?_⟩
    · show (T.heap.setIfInBounds dst _)[dst]? = _
      simp [hlt]
    · obtain ⟨i1, i2⟩ := A2.2.1
      refine ⟨fun k => ?_, ?_⟩
      · show (Cell.storeRun cd _ _).vm ≠ _
        rw [f.2.1]; exact i1 k
      · show ∃ k, Z.vm.classes[(Cell.storeRun cd _ _).cls]? = some k ∧ _
        rw [f.1]; exact i2
    · show (Cell.storeRun cd _ _).vm ≠ _
      rw [f.2.1]; exact A2.2.2
    · show (Cell.storeRun cd _ _).cls = _
      rw [f.1]; exact q1
    · show (Cell.storeRun cd _ _).slots = _
      have hsl : (cs.stretch (Int32.ofNat sp).toNatClampNeg (Int32.ofNat n).toNatClampNeg).length = n := by rw [c3]; simp [Cell.stretch]
      refine Array.ext_getElem? fun j => ?_
      rw [Cell.storeRun_get _ _ _ _ (by rw [hsl, c2, z2]; omega), hsl, c2, ← hvs]
      rw [show ((ds.take dp ++ ((vs.drop sp).take n ++ ds.drop (dp + n))).toArray)[j]? = (ds.take dp ++ ((vs.drop sp).take n ++ ds.drop (dp + n)))[j]? from List.getElem?_toArray]
      by_cases j1 : j < dp
      · rw [if_neg (by omega), List.getElem?_append_left (by simp; omega), q2]
        simp [List.getElem?_take, j1]
      · by_cases j2 : j < dp + n
        · rw [if_pos ⟨by omega, j2⟩, List.getElem?_append_right (by simp; omega)]
          have ht : (ds.take dp).length = dp := by simp; omega
          rw [ht, List.getElem?_append_left (by simp; omega)]
          obtain ⟨z, e1, -, e3⟩ := hget (j - dp) (by omega)
          have hl : j - dp < n := by omega
          rw [List.getElem?_take, if_pos hl, List.getElem?_drop, e3]
          rw [c1, c3]
          simp only [Cell.stretch, List.getElem?_map, List.getElem?_range hl, Option.map_some, e1]
        · rw [if_neg (by omega), List.getElem?_append_right (by simp; omega)]
          have ht : (ds.take dp).length = dp := by simp; omega
          have hm : ((vs.drop sp).take n).length = n := by simp; omega
          rw [ht, List.getElem?_append_right (by omega), hm, List.getElem?_drop, q2]
          simp
          congr 1; omega
end Copies
end Jvm.Ow
namespace Jvm.Owl
open Sem ClassFile Op Lib Jvm.Stand Jvm.Free Jvm.LawKit Jvm.RoadKit
theorem monAL {Z : State} {h h' : Heap} {a : Addr} {k : ClassId} {ty : FieldType} {vs : List Value} (A : Jvm.Ow.AL Z h a k ty vs) (M : Mon h h') : Jvm.Ow.AL Z h' a k ty vs := by
  obtain ⟨c, A, r1, r2⟩ := A
  obtain ⟨mo, q⟩ := M.2 _ _ A.1
  exact ⟨_, ⟨q, A.2⟩, r1, r2⟩
end Jvm.Owl
/- laws to paste: Road.backV (cut by pick.py; bodies as the Statement names them) -/
namespace Jvm.Pilot.@@N@@
namespace StrChars
open Jvm Sem ClassFile Op Lib Jvm.Stand Jvm.Free.XT Jvm.Free.ALB Jvm.Free.JM Jvm.Free
open Jvm.Lib.Cold (StaticIs)
/-- a char array whose places are chars -/
def Ch (a : Addr) (A : Cell) (U : State) : Prop := Arr .char a A U ∧ Typed .char A
theorem Ch.mv {a : Addr} {A : Cell} {U U' : State} (h : Ch a A U) (hal : U.vm.Alike U'.vm) (hh : U'.heap = U.heap) : Ch a A U' := ⟨h.1.mv hal hh, h.2⟩
theorem Ch.keep {a : Addr} {A : Cell} {U U' : State} (h : Ch a A U) (hal : U.vm.Alike U'.vm) (hk : U'.heap[a]? = some A) : Ch a A U' := ⟨h.1.keep hal hk, h.2⟩
/-- what place i of a char[]'s cell holds -/
def cv (A : Cell) (i : Nat) : Int32 := match A.slots[i]? with | some (.int x) => x | _ => 0
theorem Ch.get {a : Addr} {A : Cell} {U : State} (h : Ch a A U) {i : Nat} (hi : i < A.slots.size) : A.slots[i]? = some (.int (cv A i)) := by
  have e := Array.getElem?_eq_getElem hi
  have f := h.2 i _ e
  unfold cv; rw [e]
  generalize A.slots[i] = v at f
  cases v <;> simp [fits] at f ⊢
/-- the byte that i2b leaves of a char -/
def lo8 (x : Int32) : Int32 := x.toInt8.toInt32
theorem fits_lo8 (y : Int32) : fits .byte (.int (lo8 y)) = true := by
  have h1 := y.toInt8.le_toInt
  have h2 := y.toInt8.toInt_lt
  simp only [lo8, fits, Bool.and_eq_true, decide_eq_true_eq, Int32.le_iff_toInt_le, Int8.toInt_toInt32, show (-128 : Int32).toInt = -128 from by decide, show (127 : Int32).toInt = 127 from by decide]
  omega
/-- A' is A but that each place j of lo .. hi - 1 holds f j -/
def Laid (A A' : Cell) (lo hi : Nat) (f : Nat → Value) : Prop := A'.cls = A.cls ∧ A'.vm = A.vm ∧ A'.slots.size = A.slots.size ∧ ∀ i, A'.slots[i]? = if lo ≤ i ∧ i < hi then some (f i) else A.slots[i]?
theorem Laid.zero (A : Cell) (lo : Nat) (f : Nat → Value) : Laid A A lo (lo + 0) f := ⟨rfl, rfl, rfl, fun i => by rw [if_neg (by omega)]⟩
theorem Laid.step {A Ak : Cell} {lo k : Nat} {f : Nat → Value} {v : Value} (h : Laid A Ak lo k f) (hlo : lo ≤ k) (hk : k < Ak.slots.size) (hv : v = f k) : Laid A (Ak.setSlot k v) lo (k + 1) f := by
  refine ⟨h.1, h.2.1, by simpa [Cell.setSlot] using h.2.2.1, fun i => ?_⟩
  by_cases e : k = i
  · subst e; rw [Cell.slots_setSlot_self v hk, if_pos (by omega), hv]
  · rw [Cell.slots_setSlot_ne v e, h.2.2.2 i]
    by_cases q : lo ≤ i ∧ i < k
    · rw [if_pos q, if_pos (by omega)]
    · rw [if_neg q, if_neg (by omega)]
def U16 : String := "java/lang/StringUTF16"
namespace Cmp5
def yN : MethodName := ⟨"java/lang/StringUTF16", "compress", "([CI[BII)I"⟩
abbrev yB : ByteArray := jdk_52_method_21_code
theorem d0 : decode yB 0 = .ok (.iconst 0, 1) := by decide +kernel
theorem d1 : decode yB 1 = .ok (.istore 5, 2) := by decide +kernel
theorem d3 : decode yB 3 = .ok (.iload 5, 2) := by decide +kernel
theorem d5 : decode yB 5 = .ok (.iload 4, 2) := by decide +kernel
theorem d7 : decode yB 7 = .ok (.if_icmp (.ge) 37, 3) := by decide +kernel
theorem d10 : decode yB 10 = .ok (.aload_n 0, 1) := by decide +kernel
theorem d11 : decode yB 11 = .ok (.iload_n 1, 1) := by decide +kernel
theorem d12 : decode yB 12 = .ok (.caload, 1) := by decide +kernel
theorem d13 : decode yB 13 = .ok (.istore 6, 2) := by decide +kernel
theorem d15 : decode yB 15 = .ok (.iload 6, 2) := by decide +kernel
theorem d17 : decode yB 17 = .ok (.sipush 255, 3) := by decide +kernel
theorem d20 : decode yB 20 = .ok (.if_icmp (.le) 6, 3) := by decide +kernel
theorem d26 : decode yB 26 = .ok (.aload_n 2, 1) := by decide +kernel
theorem d27 : decode yB 27 = .ok (.iload_n 3, 1) := by decide +kernel
theorem d28 : decode yB 28 = .ok (.iload 6, 2) := by decide +kernel
theorem d30 : decode yB 30 = .ok (.i2b, 1) := by decide +kernel
theorem d31 : decode yB 31 = .ok (.bastore, 1) := by decide +kernel
theorem d32 : decode yB 32 = .ok (.iinc 1 1, 3) := by decide +kernel
theorem d35 : decode yB 35 = .ok (.iinc 3 1, 3) := by decide +kernel
theorem d38 : decode yB 38 = .ok (.iinc 5 1, 3) := by decide +kernel
theorem d41 : decode yB 41 = .ok (.goto (-38), 3) := by decide +kernel
theorem d44 : decode yB 44 = .ok (.iload 4, 2) := by decide +kernel
theorem d46 : decode yB 46 = .ok (.ireturn, 1) := by decide +kernel
def site : List Cond := []
def tab : Cond := tabOf yN yB 7 (some .int) site
def P (b : Addr) (A : Cell) (d : Addr) (B : Cell) (o q len : Nat) (args : Array Value) (s : State) : Prop := args = #[.ref b, .int (Int32.ofNat o), .ref d, .int (Int32.ofNat q), .int (Int32.ofNat len)] ∧ Ch b A s ∧ Arr .byte d B s ∧ b ≠ d ∧ o + len ≤ A.slots.size ∧ q + len ≤ B.slots.size ∧ ∀ i, i < len → ¬ 255 < cv A (o + i)
def E (b : Addr) (A : Cell) (d : Addr) (B : Cell) (o q len : Nat) (r : Option Value) (s u : State) : Prop := r = some (.int (Int32.ofNat len)) ∧ ∃ B', Put d B' s u ∧ Laid B B' q (q + len) (fun j => Value.int (lo8 (cv A (o + (j - q)))))
/-- no char of the range above 255: len; the places written hold each char's low byte -/
theorem law (l : Launch) (b : Addr) (A : Cell) (d : Addr) (B : Cell) (o q len : Nat) : Law l yN 5 5 0 0 yB 7 (some .int) site (P b A d B o q len) (E b A d B o q len) (copyLocs d q len) 0 0 := by
  refine Law.of_walk (plainFor_of_name (by decide +kernel)) (by decide +kernel) (by decide +kernel) (by decide) (fun _ _ h => by rw [h.1]; rfl) (fun _ U U' hal hh h => ⟨h.1, h.2.1.mv hal hh, h.2.2.1.mv hal hh, h.2.2.2⟩) (fun r U U' V V' h1 hal h2 h => ⟨h.1, h.2.elim fun B' q => ⟨B', q.1.mv h1 h2, q.2⟩⟩) ?_
  intro p e s m args below meth c s₁ X0 hexec hbytes hml hret hlk hnm hown hh0 W hP
  obtain ⟨rfl, hA, hB, hne, l1, l2, hp⟩ := hP
  have c1 : Steps p.tables e below (s₁.setTop (entryFrame m #[.ref b, .int (Int32.ofNat o), .ref d, .int (Int32.ofNat q), .int (Int32.ofNat len)] 7)) (s₁.setTop (mkF m 0 #[.val (.ref b), .val (.int (Int32.ofNat o)), .val (.ref d), .val (.int (Int32.ofNat q)), .val (.int (Int32.ofNat len)), .unset, .unset] [])) := entry rfl
  have hA0 := hA.1.mv X0.warmed.alike hh0
  have hB0 := hB.mv X0.warmed.alike hh0
  have a31 := hA.1.2.2.2
  have c2 : Steps p.tables e below (s₁.setTop (entryFrame m #[.ref b, .int (Int32.ofNat o), .ref d, .int (Int32.ofNat q), .int (Int32.ofNat len)] 7)) (s₁.setTop (mkF m 3 #[.val (.ref b), .val (.int (Int32.ofNat o)), .val (.ref d), .val (.int (Int32.ofNat q)), .val (.int (Int32.ofNat len)), .val (.int 0), .unset] [])) := c1.trans (by
    refine iconstV X0.here hexec rfl 0 (hb hbytes d0) (by decide) ?_
    refine XS.istore X0.here hexec rfl (hb hbytes d1) rfl rfl ?_
    exact Steps.refl _)
  have loop : ∀ (r i : Nat), i + r = len → ∀ (z : Slot), (z = .unset ∨ ∃ w, z = .val w ∧ w.category = 1) → ∀ (Tl : State) (Bk : Cell), Stand p l e { frames := 0, locals := 0, cells := 0, slots := 0 } s m #[.ref b, .int (Int32.ofNat o), .ref d, .int (Int32.ofNat q), .int (Int32.ofNat len)] below meth c Tl ([] ++ copyLocs d q i) 0 0 → Put d Bk s₁ Tl → Laid B Bk q (q + i) (fun j => Value.int (lo8 (cv A (o + (j - q))))) →
      Steps p.tables e below (s₁.setTop (entryFrame m #[.ref b, .int (Int32.ofNat o), .ref d, .int (Int32.ofNat q), .int (Int32.ofNat len)] 7)) (Tl.setTop (mkF m 3 #[.val (.ref b), .val (.int (Int32.ofNat (o + i))), .val (.ref d), .val (.int (Int32.ofNat (q + i))), .val (.int (Int32.ofNat len)), .val (.int (Int32.ofNat i)), z] [])) → ∃ (T' : State) (B' : Cell) (z' : Slot), Stand p l e { frames := 0, locals := 0, cells := 0, slots := 0 } s m #[.ref b, .int (Int32.ofNat o), .ref d, .int (Int32.ofNat q), .int (Int32.ofNat len)] below meth c T' ([] ++ copyLocs d q len) 0 0 ∧ Put d B' s₁ T' ∧ Laid B B' q (q + len) (fun j => Value.int (lo8 (cv A (o + (j - q))))) ∧
      Steps p.tables e below (s₁.setTop (entryFrame m #[.ref b, .int (Int32.ofNat o), .ref d, .int (Int32.ofNat q), .int (Int32.ofNat len)] 7)) (T'.setTop (mkF m 3 #[.val (.ref b), .val (.int (Int32.ofNat (o + len))), .val (.ref d), .val (.int (Int32.ofNat (q + len))), .val (.int (Int32.ofNat len)), .val (.int (Int32.ofNat len)), z'] [])) := by
    intro r
    induction r with
    | zero =>
      intro i hi z hz Tl Bk Xl pl fl cl
      have hil : i = len := by omega
      rw [hil] at Xl fl cl
      exact ⟨Tl, Bk, z, Xl, pl, fl, cl⟩
    | succ r ih =>
      intro i hi z hz Tl Bk Xl pl fl cl
      have all := X0.warmed.alike.symm.trans Xl.warmed.alike
      have hAl := hA0.keep all (pl.other hne hA0.1)
      have hBk := hB0.like all pl.1 fl.1 fl.2.1 fl.2.2.1
      have hlt : q + i < Bk.slots.size := by rw [fl.2.2.1]; omega
      have c3 : Steps p.tables e below (s₁.setTop (entryFrame m #[.ref b, .int (Int32.ofNat o), .ref d, .int (Int32.ofNat q), .int (Int32.ofNat len)] 7)) (Tl.setTop (mkF m 12 #[.val (.ref b), .val (.int (Int32.ofNat (o + i))), .val (.ref d), .val (.int (Int32.ofNat (q + i))), .val (.int (Int32.ofNat len)), .val (.int (Int32.ofNat i)), z] [.int (Int32.ofNat (o + i)), .ref b])) := cl.trans (by
        refine XS.iload Xl.here hexec rfl (hb hbytes d3) rfl ?_
        refine XS.iload Xl.here hexec rfl (hb hbytes d5) rfl ?_
        refine XS.icmpNo Xl.here hexec rfl (hb hbytes d7) rfl (ii_ge_f (lt32 (by omega) (by omega))) ?_
        refine XS.aloadN Xl.here hexec rfl (hb hbytes d10) rfl rfl ?_
        refine XS.iloadN Xl.here hexec rfl (hb hbytes d11) rfl ?_
        exact Steps.refl _)
      have c4 : Steps p.tables e below (s₁.setTop (entryFrame m #[.ref b, .int (Int32.ofNat o), .ref d, .int (Int32.ofNat q), .int (Int32.ofNat len)] 7)) (Tl.setTop (mkF m 13 #[.val (.ref b), .val (.int (Int32.ofNat (o + i))), .val (.ref d), .val (.int (Int32.ofNat (q + i))), .val (.int (Int32.ofNat len)), .val (.int (Int32.ofNat i)), z] [.int (cv A (o + i))])) := c3.trans (by
        refine Xl.aget hexec hAl rfl (hA.get (i := o + i) (by omega)) rfl rfl (hb hbytes d12) ?_
        exact Steps.refl _)
      have c5 : Steps p.tables e below (s₁.setTop (entryFrame m #[.ref b, .int (Int32.ofNat o), .ref d, .int (Int32.ofNat q), .int (Int32.ofNat len)] 7)) (Tl.setTop (mkF m 15 #[.val (.ref b), .val (.int (Int32.ofNat (o + i))), .val (.ref d), .val (.int (Int32.ofNat (q + i))), .val (.int (Int32.ofNat len)), .val (.int (Int32.ofNat i)), .val (.int (cv A (o + i)))] [])) := c4.trans (by
        refine XS.istoreS Xl.here hexec rfl (hb hbytes d13) rfl rfl hz ?_
        exact Steps.refl _)
      have c6 : Steps p.tables e below (s₁.setTop (entryFrame m #[.ref b, .int (Int32.ofNat o), .ref d, .int (Int32.ofNat q), .int (Int32.ofNat len)] 7)) (Tl.setTop (mkF m 31 #[.val (.ref b), .val (.int (Int32.ofNat (o + i))), .val (.ref d), .val (.int (Int32.ofNat (q + i))), .val (.int (Int32.ofNat len)), .val (.int (Int32.ofNat i)), .val (.int (cv A (o + i)))] [.int (lo8 (cv A (o + i))), .int (Int32.ofNat (q + i)), .ref d])) := c5.trans (by
        refine XS.iload Xl.here hexec rfl (hb hbytes d15) rfl ?_
        refine sipushV Xl.here hexec rfl 255 (hb hbytes d17) (by decide) ?_
        refine XS.icmpYes Xl.here hexec rfl (pc0 := 20) rfl (hb hbytes d20) rfl (ii_le_t (hp i (by omega))) (by decide) rfl ?_
        refine XS.aloadN Xl.here hexec rfl (hb hbytes d26) rfl rfl ?_
        refine XS.iloadN Xl.here hexec rfl (hb hbytes d27) rfl ?_
        refine XS.iload Xl.here hexec rfl (hb hbytes d28) rfl ?_
        refine i2b Xl.here hexec rfl (hb hbytes d30) rfl ?_
        exact Steps.refl _)
      obtain ⟨T7, X7, p7, st7⟩ := Xl.aput hexec hBk rfl hlt rfl (fits_lo8 (cv A (o + i))) (g := (mkF m 31 #[.val (.ref b), .val (.int (Int32.ofNat (o + i))), .val (.ref d), .val (.int (Int32.ofNat (q + i))), .val (.int (Int32.ofNat len)), .val (.int (Int32.ofNat i)), .val (.int (cv A (o + i)))] [.int (lo8 (cv A (o + i))), .int (Int32.ofNat (q + i)), .ref d])) rfl (rest := []) rfl (hb hbytes d31)
      have c8 : Steps p.tables e below (s₁.setTop (entryFrame m #[.ref b, .int (Int32.ofNat o), .ref d, .int (Int32.ofNat q), .int (Int32.ofNat len)] 7)) (T7.setTop (mkF m 32 #[.val (.ref b), .val (.int (Int32.ofNat (o + i))), .val (.ref d), .val (.int (Int32.ofNat (q + i))), .val (.int (Int32.ofNat len)), .val (.int (Int32.ofNat i)), .val (.int (cv A (o + i)))] [])) := c6.trans (st7 _ (Steps.refl _))
      have c9 : Steps p.tables e below (s₁.setTop (entryFrame m #[.ref b, .int (Int32.ofNat o), .ref d, .int (Int32.ofNat q), .int (Int32.ofNat len)] 7)) (T7.setTop (mkF m 3 #[.val (.ref b), .val (.int (Int32.ofNat (o + i) + 1)), .val (.ref d), .val (.int (Int32.ofNat (q + i) + 1)), .val (.int (Int32.ofNat len)), .val (.int (Int32.ofNat i + 1)), .val (.int (cv A (o + i)))] [])) := c8.trans (by
        refine iincV X7.here hexec rfl 1 (hb hbytes d32) (by decide) rfl rfl ?_
        refine iincV X7.here hexec rfl 1 (hb hbytes d35) (by decide) rfl rfl ?_
        refine iincV X7.here hexec rfl 1 (hb hbytes d38) (by decide) rfl rfl ?_
        refine XS.goto X7.here hexec rfl (pc0 := 41) rfl (hb hbytes d41) (by decide) rfl ?_
        exact Steps.refl _)
      have c10 : Steps p.tables e below (s₁.setTop (entryFrame m #[.ref b, .int (Int32.ofNat o), .ref d, .int (Int32.ofNat q), .int (Int32.ofNat len)] 7)) (T7.setTop (mkF m 3 #[.val (.ref b), .val (.int (Int32.ofNat (o + (i + 1)))), .val (.ref d), .val (.int (Int32.ofNat (q + (i + 1)))), .val (.int (Int32.ofNat len)), .val (.int (Int32.ofNat (i + 1))), .val (.int (cv A (o + i)))] [])) := by
        have := c9
        rw [succ32, succ32, succ32] at this
        exact this
      exact ih (i + 1) (by omega) _ (Or.inr ⟨_, rfl, rfl⟩) T7 _ (by rw [copyLocs_step, ← List.append_assoc]; exact X7) (pl.trans p7) (fl.step (by omega) hlt (by simp)) c10
  obtain ⟨T9, B9, z9, X9, p9, f9, g9⟩ := loop len 0 (by omega) .unset (Or.inl rfl) s₁ B (by simpa [copyLocs] using X0) ⟨hB0.1, fun _ _ => rfl, rfl⟩ (Laid.zero _ _ _) c2
  have c11 : Steps p.tables e below (s₁.setTop (entryFrame m #[.ref b, .int (Int32.ofNat o), .ref d, .int (Int32.ofNat q), .int (Int32.ofNat len)] 7)) (T9.setTop (mkF m 46 #[.val (.ref b), .val (.int (Int32.ofNat (o + len))), .val (.ref d), .val (.int (Int32.ofNat (q + len))), .val (.int (Int32.ofNat len)), .val (.int (Int32.ofNat len)), z9] [.int (Int32.ofNat len)])) := g9.trans (by
    refine XS.iload X9.here hexec rfl (hb hbytes d3) rfl ?_
    refine XS.iload X9.here hexec rfl (hb hbytes d5) rfl ?_
    refine XS.icmpYes X9.here hexec rfl (pc0 := 7) rfl (hb hbytes d7) rfl (ii_ge_t (nlt32 (by omega) (Nat.le_refl _))) (by decide) rfl ?_
    refine XS.iload X9.here hexec rfl (hb hbytes d44) rfl ?_
    exact Steps.refl _)
  exact ⟨T9, some (.int (Int32.ofNat len)), _, _, _, X9, by simp, rfl, rfl, (fun h => by cases h), ⟨rfl, B9, p9.from hh0, f9⟩, fun fs hl => c11.trans (X9.ireturnOut hexec hret rfl (Or.inl rfl) (hb hbytes d46) hl)⟩
end Cmp5
namespace Cmp3
def yN : MethodName := ⟨"java/lang/StringUTF16", "compress", "([CII)[B"⟩
abbrev yB : ByteArray := jdk_52_method_16_code
theorem d0 : decode yB 0 = .ok (.iload_n 2, 1) := by decide +kernel
theorem d1 : decode yB 1 = .ok (.newarray .byte, 2) := by decide +kernel
theorem d3 : decode yB 3 = .ok (.astore_n 3, 1) := by decide +kernel
theorem d4 : decode yB 4 = .ok (.aload_n 0, 1) := by decide +kernel
theorem d5 : decode yB 5 = .ok (.iload_n 1, 1) := by decide +kernel
theorem d6 : decode yB 6 = .ok (.aload_n 3, 1) := by decide +kernel
theorem d7 : decode yB 7 = .ok (.iconst 0, 1) := by decide +kernel
theorem d8 : decode yB 8 = .ok (.iload_n 2, 1) := by decide +kernel
theorem d9 : decode yB 9 = .ok (.invokestatic 115, 3) := by decide +kernel
theorem d12 : decode yB 12 = .ok (.istore 4, 2) := by decide +kernel
theorem d14 : decode yB 14 = .ok (.iload 4, 2) := by decide +kernel
theorem d16 : decode yB 16 = .ok (.iload_n 2, 1) := by decide +kernel
theorem d17 : decode yB 17 = .ok (.if_icmp (.eq) 40, 3) := by decide +kernel
theorem d57 : decode yB 57 = .ok (.aload_n 3, 1) := by decide +kernel
theorem d58 : decode yB 58 = .ok (.areturn, 1) := by decide +kernel
def site : List Cond := [.arrayClass .byte, Cmp5.tab] ++ staticW U16 115 Cmp5.yN
def tab : Cond := tabOf yN yB 6 (some (.array .byte)) site
def P (b : Addr) (A : Cell) (o len : Nat) (args : Array Value) (s : State) : Prop := args = #[.ref b, .int (Int32.ofNat o), .int (Int32.ofNat len)] ∧ Ch b A s ∧ o + len ≤ A.slots.size ∧ len ≤ 536870912 ∧ ∀ i, i < len → ¬ 255 < cv A (o + i)
def E (b : Addr) (A : Cell) (o len : Nat) (r : Option Value) (s u : State) : Prop := NewArr .byte "[B" len (fun j => .int (lo8 (cv A (o + j)))) r s u ∧ u.heap.size = s.heap.size + 1
/-- no char of the range above 255: a new byte[] of their low bytes -/
theorem law (l : Launch) (b : Addr) (A : Cell) (o len : Nat) : Law l yN 3 3 1 18 yB 6 (some (.array .byte)) site (P b A o len) (E b A o len) [] 1 len := by
  refine Law.of_walk (plainFor_of_name (by decide +kernel)) (by decide +kernel) (by decide +kernel) (by decide) (fun _ _ h => by rw [h.1]; rfl) (fun _ U U' hal hh h => ⟨h.1, h.2.1.mv hal hh, h.2.2⟩) (fun r U U' V V' h1 hal h2 h => ⟨NewArr.mv r U U' V V' h1 hal h2 h.1, by rw [h1, h2]; exact h.2⟩) ?_
  intro p e s m args below meth c s₁ X0 hexec hbytes hml hret hlk hnm hown hh0 W hP
  obtain ⟨rfl, hA, l1, l2, hp⟩ := hP
  have a31 := hA.1.2.2.2
  have c1 : Steps p.tables e below (s₁.setTop (entryFrame m #[.ref b, .int (Int32.ofNat o), .int (Int32.ofNat len)] 6)) (s₁.setTop (mkF m 0 #[.val (.ref b), .val (.int (Int32.ofNat o)), .val (.int (Int32.ofNat len)), .unset, .unset, .unset] [])) := entry rfl
  have c2 : Steps p.tables e below (s₁.setTop (entryFrame m #[.ref b, .int (Int32.ofNat o), .int (Int32.ofNat len)] 6)) (s₁.setTop (mkF m 1 #[.val (.ref b), .val (.int (Int32.ofNat o)), .val (.int (Int32.ofNat len)), .unset, .unset, .unset] [.int (Int32.ofNat len)])) := c1.trans (by
    refine XS.iloadN X0.here hexec rfl (hb hbytes d0) rfl ?_
    exact Steps.refl _)
  obtain ⟨T3, B3, X3, ba3, bs3, bv3, bh3, bf3, st3⟩ := X0.anew hexec (atype := .byte) (wk W (.arrayClass .byte)) rfl (by show len * 1 ≤ _; omega) (by omega) (g := (mkF m 1 #[.val (.ref b), .val (.int (Int32.ofNat o)), .val (.int (Int32.ofNat len)), .unset, .unset, .unset] [.int (Int32.ofNat len)])) rfl (hb hbytes d1) (rest := []) rfl (Nat.le_refl _) (by show 0 + len ≤ len; omega)
  rw [hh0] at ba3 st3
  have kp3 : XT.Kept s T3 := (XT.Kept.of_eq hh0).push bh3
  have hA3 := hA.keep X3.warmed.alike (kp3 _ _ hA.1.1)
  have hne : b ≠ s.heap.size := hA.1.ne
  have c4 : Steps p.tables e below (s₁.setTop (entryFrame m #[.ref b, .int (Int32.ofNat o), .int (Int32.ofNat len)] 6)) (T3.setTop (mkF m 3 #[.val (.ref b), .val (.int (Int32.ofNat o)), .val (.int (Int32.ofNat len)), .unset, .unset, .unset] [.ref s.heap.size])) := c2.trans (st3 _ (Steps.refl _))
  have c5 : Steps p.tables e below (s₁.setTop (entryFrame m #[.ref b, .int (Int32.ofNat o), .int (Int32.ofNat len)] 6)) (T3.setTop (mkF m 9 #[.val (.ref b), .val (.int (Int32.ofNat o)), .val (.int (Int32.ofNat len)), .val (.ref s.heap.size), .unset, .unset] [.int (Int32.ofNat len), .int 0, .ref s.heap.size, .int (Int32.ofNat o), .ref b])) := c4.trans (by
    refine XS.astoreN X3.here hexec rfl (hb hbytes d3) rfl rfl rfl ?_
    refine XS.aloadN X3.here hexec rfl (hb hbytes d4) rfl rfl ?_
    refine XS.iloadN X3.here hexec rfl (hb hbytes d5) rfl ?_
    refine XS.aloadN X3.here hexec rfl (hb hbytes d6) rfl rfl ?_
    refine iconstV X3.here hexec rfl 0 (hb hbytes d7) (by decide) ?_
    refine XS.iloadN X3.here hexec rfl (hb hbytes d8) rfl ?_
    exact Steps.refl _)
  obtain ⟨v6, T6, X6, E6, g6⟩ := X3.callS hexec (Cmp5.law l b A s.heap.size B3 o 0 len) hown (wks W (staticW U16 115 Cmp5.yN)) (wk W Cmp5.tab) (W := 0) (Nat.le_of_ble_eq_true rfl) (Nat.le_of_ble_eq_true rfl) (Nat.le_refl _) (by show 0 + len + 0 ≤ len; omega) (g := (mkF m 9 #[.val (.ref b), .val (.int (Int32.ofNat o)), .val (.int (Int32.ofNat len)), .val (.ref s.heap.size), .unset, .unset] [.int (Int32.ofNat len), .int (Int32.ofNat 0), .ref s.heap.size, .int (Int32.ofNat o), .ref b])) rfl (by rw [hml]; rfl) c5 (argsL := [.ref b, .int (Int32.ofNat o), .ref s.heap.size, .int (Int32.ofNat 0), .int (Int32.ofNat len)]) (rest := []) rfl rfl (by show 2 * 0 + 0 ≤ _; decide) (hb hbytes d9) (⟨rfl, hA3, ba3, hne, l1, by rw [bs3]; simp, hp⟩)
  obtain ⟨rfl, B6, p6, f6⟩ := E6
  have c7 : Steps p.tables e below (s₁.setTop (entryFrame m #[.ref b, .int (Int32.ofNat o), .int (Int32.ofNat len)] 6)) (T6.setTop (mkF m 12 #[.val (.ref b), .val (.int (Int32.ofNat o)), .val (.int (Int32.ofNat len)), .val (.ref s.heap.size), .unset, .unset] [.int (Int32.ofNat len)])) := g6
  have c8 : Steps p.tables e below (s₁.setTop (entryFrame m #[.ref b, .int (Int32.ofNat o), .int (Int32.ofNat len)] 6)) (T6.setTop (mkF m 58 #[.val (.ref b), .val (.int (Int32.ofNat o)), .val (.int (Int32.ofNat len)), .val (.ref s.heap.size), .val (.int (Int32.ofNat len)), .unset] [.ref s.heap.size])) := c7.trans (by
    refine XS.istore X6.here hexec rfl (hb hbytes d12) rfl rfl ?_
    refine XS.iload X6.here hexec rfl (hb hbytes d14) rfl ?_
    refine XS.iloadN X6.here hexec rfl (hb hbytes d16) rfl ?_
    refine XS.icmpYes X6.here hexec rfl (pc0 := 17) rfl (hb hbytes d17) rfl (ii_eq_t rfl) (by decide) rfl ?_
    refine XS.aloadN X6.here hexec rfl (hb hbytes d57) rfl rfl ?_
    exact Steps.refl _)
  have X8 := X6.wide (L' := []) (cells' := 1) (slots' := len) (fun x hx hlt => by
    simp only [List.nil_append, copyLocs, List.mem_map, List.mem_range] at hx
    obtain ⟨i, -, rfl⟩ := hx
    exact absurd hlt (Nat.lt_irrefl _)) (Nat.le_refl _) (by omega)
  exact ⟨T6, some (.ref s.heap.size), _, _, _, X8, rfl, rfl, rfl, (fun h => by cases h), ⟨⟨rfl, B6, ba3.like (X3.warmed.alike.symm.trans X6.warmed.alike) p6.1 f6.1 f6.2.1 f6.2.2.1, f6.2.1.trans bv3, by rw [X6.warmed.alike.findClass, f6.1]; exact bf3, by rw [f6.2.2.1, bs3]; simp, fun j hj => by rw [f6.2.2.2 j, if_pos (by omega)]; rfl, kp3.put p6 (Nat.le_refl _)⟩, by rw [p6.2.2, bh3, hh0]; simp⟩, fun fs hl => c8.trans (X8.areturnOut hexec rfl hret rfl (hb hbytes d58) hl)⟩
end Cmp3
namespace CodL
def yN : MethodName := ⟨"java/lang/StringUTF16", "coderFromArrayLen", "([BI)B"⟩
abbrev yB : ByteArray := jdk_52_method_15_code
theorem d0 : decode yB 0 = .ok (.iload_n 1, 1) := by decide +kernel
theorem d1 : decode yB 1 = .ok (.aload_n 0, 1) := by decide +kernel
theorem d2 : decode yB 2 = .ok (.arraylength, 1) := by decide +kernel
theorem d3 : decode yB 3 = .ok (.isub, 1) := by decide +kernel
theorem d4 : decode yB 4 = .ok (.bipush 31, 2) := by decide +kernel
theorem d6 : decode yB 6 = .ok (.iushr, 1) := by decide +kernel
theorem d7 : decode yB 7 = .ok (.i2b, 1) := by decide +kernel
theorem d8 : decode yB 8 = .ok (.ireturn, 1) := by decide +kernel
def site : List Cond := []
def tab : Cond := tabOf yN yB 2 (some .byte) site
def P (d : Addr) (B : Cell) (args : Array Value) (s : State) : Prop := args = #[.ref d, .int (Int32.ofNat B.slots.size)] ∧ Arr .byte d B s
def E (r : Option Value) (s u : State) : Prop := XT.PureE (some (.int 0)) r s u
/-- an array as long as the number of chars: LATIN1 -/
theorem law (l : Launch) (d : Addr) (B : Cell) : Law l yN 2 2 0 0 yB 2 (some .byte) site (P d B) E [] 0 0 := by
  refine Law.of_walk (plainFor_of_name (by decide +kernel)) (by decide +kernel) (by decide +kernel) (by decide) (fun _ _ h => by rw [h.1]; rfl) (fun _ U U' hal hh h => ⟨h.1, h.2.mv hal hh⟩) (fun r U U' V V' h1 hal h2 h => XT.PureE.mv r U U' V V' h1 hal h2 h) ?_
  intro p e s m args below meth c s₁ X0 hexec hbytes hml hret hlk hnm hown hh0 W hP
  obtain ⟨rfl, hB⟩ := hP
  have hB0 := hB.mv X0.warmed.alike hh0
  have c1 : Steps p.tables e below (s₁.setTop (entryFrame m #[.ref d, .int (Int32.ofNat B.slots.size)] 2)) (s₁.setTop (mkF m 0 #[.val (.ref d), .val (.int (Int32.ofNat B.slots.size))] [])) := entry rfl
  have c2 : Steps p.tables e below (s₁.setTop (entryFrame m #[.ref d, .int (Int32.ofNat B.slots.size)] 2)) (s₁.setTop (mkF m 2 #[.val (.ref d), .val (.int (Int32.ofNat B.slots.size))] [.ref d, .int (Int32.ofNat B.slots.size)])) := c1.trans (by
    refine XS.iloadN X0.here hexec rfl (hb hbytes d0) rfl ?_
    refine XS.aloadN X0.here hexec rfl (hb hbytes d1) rfl rfl ?_
    exact Steps.refl _)
  have c3 : Steps p.tables e below (s₁.setTop (entryFrame m #[.ref d, .int (Int32.ofNat B.slots.size)] 2)) (s₁.setTop (mkF m 8 #[.val (.ref d), .val (.int (Int32.ofNat B.slots.size))] [.int (lo8 (ushr (Int32.ofNat B.slots.size - Int32.ofNat B.slots.size) 31))])) := c2.trans (by
    refine X0.alen hexec hB0 rfl rfl (hb hbytes d2) ?_
    refine XS.isub X0.here hexec rfl (hb hbytes d3) rfl ?_
    refine bipushV X0.here hexec rfl 31 (hb hbytes d4) (by decide) ?_
    refine iushr X0.here hexec rfl (hb hbytes d6) rfl ?_
    refine i2b X0.here hexec rfl (hb hbytes d7) rfl ?_
    exact Steps.refl _)
  have e0 : lo8 (ushr (Int32.ofNat B.slots.size - Int32.ofNat B.slots.size) 31) = 0 := by rw [Int32.sub_self]; decide
  rw [e0] at c3
  exact ⟨s₁, some (.int 0), _, _, _, X0, rfl, rfl, rfl, (fun h => by cases h), ⟨rfl, hh0⟩, fun fs hl => c3.trans (X0.ireturnOut hexec hret rfl (Or.inr (Or.inr (Or.inl rfl))) (hb hbytes d8) hl)⟩
end CodL
/-- the String at a is Latin-1 over a new byte[] (the heap's one new cell): the low bytes of the len chars of A from o on; every cell but a is kept -/
def Got (a : Addr) (D : Cell) (fV fC : Field) (A : Cell) (o len : Nat) (r : Option Value) (s u : State) : Prop := r = none ∧ ∃ D' V : Cell, Blank "java/lang/String" a D' u ∧ Same D D' [fV.slot, fC.slot] ∧ D'.slots[fV.slot]? = some (.ref s.heap.size) ∧ D'.slots[fC.slot]? = some (.int 0) ∧ Arr .byte s.heap.size V u ∧ V.vm = .none ∧ u.vm.findClass "[B" = some V.cls ∧ V.slots.size = len ∧ (∀ j, j < len → V.slots[j]? = some (.int (lo8 (cv A (o + j))))) ∧ (∀ (y : Addr) (c : Cell), y ≠ a → s.heap[y]? = some c → u.heap[y]? = some c) ∧ u.heap.size = s.heap.size + 1
theorem Got.mv {a : Addr} {D A : Cell} {fV fC : Field} {o len : Nat} : ∀ r (U U' V V' : State), U'.heap = U.heap → V.vm.Alike V'.vm → V'.heap = V.heap → Got a D fV fC A o len r U V → Got a D fV fC A o len r U' V' :=
  fun r U U' V V' h1 hal h2 ⟨e0, D', X, a1, a2, a3, a4, a5, a6, a7, a8, a9, a10, a11⟩ => ⟨e0, D', X, a1.mv hal h2, a2, by rw [h1]; exact a3, a4, by rw [h1]; exact a5.mv hal h2, a6, by rw [hal.findClass]; exact a7, a8, a9, by rw [h1, h2]; exact a10, by rw [h1, h2]; exact a11⟩
namespace New4
def yN : MethodName := ⟨"java/lang/String", "<init>", "([CIILjava/lang/Void;)V"⟩
abbrev yB : ByteArray := jdk_42_method_149_code
theorem d0 : decode yB 0 = .ok (.aload_n 0, 1) := by decide +kernel
theorem d1 : decode yB 1 = .ok (.invokespecial 1, 3) := by decide +kernel
theorem d4 : decode yB 4 = .ok (.iload_n 3, 1) := by decide +kernel
theorem d5 : decode yB 5 = .ok (.ifCond (.ne) 22, 3) := by decide +kernel
theorem d27 : decode yB 27 = .ok (.getstatic 38, 3) := by decide +kernel
theorem d30 : decode yB 30 = .ok (.ifCond (.eq) 28, 3) := by decide +kernel
theorem d33 : decode yB 33 = .ok (.aload_n 1, 1) := by decide +kernel
theorem d34 : decode yB 34 = .ok (.iload_n 2, 1) := by decide +kernel
theorem d35 : decode yB 35 = .ok (.iload_n 3, 1) := by decide +kernel
theorem d36 : decode yB 36 = .ok (.invokestatic 177, 3) := by decide +kernel
theorem d39 : decode yB 39 = .ok (.astore 5, 2) := by decide +kernel
theorem d41 : decode yB 41 = .ok (.aload_n 0, 1) := by decide +kernel
theorem d42 : decode yB 42 = .ok (.aload 5, 2) := by decide +kernel
theorem d44 : decode yB 44 = .ok (.iload_n 3, 1) := by decide +kernel
theorem d45 : decode yB 45 = .ok (.invokestatic 47, 3) := by decide +kernel
theorem d48 : decode yB 48 = .ok (.putfield 15, 3) := by decide +kernel
theorem d51 : decode yB 51 = .ok (.aload_n 0, 1) := by decide +kernel
theorem d52 : decode yB 52 = .ok (.aload 5, 2) := by decide +kernel
theorem d54 : decode yB 54 = .ok (.putfield 9, 3) := by decide +kernel
theorem d57 : decode yB 57 = .ok (.return_, 1) := by decide +kernel
def site : List Cond := [.fieldLink "java/lang/String" 38 "java/lang/String" "COMPACT_STRINGS" "Z", Cmp3.tab, CodL.tab, .laysFinal "java/lang/String" "java/lang/String" "value" "[B", .fieldLink "java/lang/String" 9 "java/lang/String" "value" "[B", .laysFinal "java/lang/String" "java/lang/String" "coder" "B", .fieldLink "java/lang/String" 15 "java/lang/String" "coder" "B"] ++ objW "java/lang/String" 1 ++ staticW "java/lang/String" 177 Cmp3.yN ++ staticW "java/lang/String" 47 CodL.yN
def tab : Cond := tabOf yN yB 6 none site
def P (a : Addr) (D : Cell) (fV fC : Field) (b : Addr) (A : Cell) (z : Int32) (o len : Nat) (args : Array Value) (s : State) : Prop := args = #[.ref a, .ref b, .int (Int32.ofNat o), .int (Int32.ofNat len), .null] ∧ Blank "java/lang/String" a D s ∧ Found "java/lang/String" "value" "[B" fV s ∧ Found "java/lang/String" "coder" "B" fC s ∧ Ch b A s ∧ StaticIs s "java/lang/String" "COMPACT_STRINGS" "Z" (.int z) ∧ ¬ z = 0 ∧ 0 < len ∧ o + len ≤ A.slots.size ∧ len ≤ 536870912 ∧ ∀ i, i < len → ¬ 255 < cv A (o + i)
def E (a : Addr) (D : Cell) (fV fC : Field) (A : Cell) (o len : Nat) (r : Option Value) (s u : State) : Prop := Got a D fV fC A o len r s u
/-- len > 0, no char of the range above 255: a Latin-1 String of their low bytes -/
theorem law (l : Launch) (a : Addr) (D : Cell) (fV fC : Field) (b : Addr) (A : Cell) (z : Int32) (o len : Nat) : Law l yN 5 4 2 35 yB 6 none site (P a D fV fC b A z o len) (E a D fV fC A o len) [⟨a, fC.slot⟩, ⟨a, fV.slot⟩] 1 len := by
  refine Law.of_walk (plainFor_of_name (by decide +kernel)) (by decide +kernel) (by decide +kernel) (by decide) (fun _ _ h => by rw [h.1]; rfl) (fun _ U U' hal hh h => ⟨h.1, h.2.1.mv hal hh, h.2.2.1.al hal, h.2.2.2.1.al hal, h.2.2.2.2.1.mv hal hh, h.2.2.2.2.2.1.there hal hh, h.2.2.2.2.2.2⟩) (fun r U U' V V' h1 hal h2 h => Got.mv r U U' V V' h1 hal h2 h) ?_
  intro p e s m args below meth c s₁ X0 hexec hbytes hml hret hlk hnm hown hh0 W hP
  obtain ⟨rfl, hB, f1, f2, hA, s1, hz, l0, l1, l2, hp⟩ := hP
  have a31 := hA.1.2.2.2
  have c1 : Steps p.tables e below (s₁.setTop (entryFrame m #[.ref a, .ref b, .int (Int32.ofNat o), .int (Int32.ofNat len), .null] 6)) (s₁.setTop (mkF m 0 #[.val (.ref a), .val (.ref b), .val (.int (Int32.ofNat o)), .val (.int (Int32.ofNat len)), .val .null, .unset] [])) := entry rfl
  have c2 : Steps p.tables e below (s₁.setTop (entryFrame m #[.ref a, .ref b, .int (Int32.ofNat o), .int (Int32.ofNat len), .null] 6)) (s₁.setTop (mkF m 1 #[.val (.ref a), .val (.ref b), .val (.int (Int32.ofNat o)), .val (.int (Int32.ofNat len)), .val .null, .unset] [.ref a])) := c1.trans (by
    refine XS.aloadN X0.here hexec rfl (hb hbytes d0) rfl rfl ?_
    exact Steps.refl _)
  obtain ⟨T3, X3, q3, st3⟩ := X0.oinit hexec hown (wks W (objW "java/lang/String" 1)) (g := (mkF m 1 #[.val (.ref a), .val (.ref b), .val (.int (Int32.ofNat o)), .val (.int (Int32.ofNat len)), .val .null, .unset] [.ref a])) rfl (by rw [hml]; rfl) (rest := []) rfl (hb hbytes d1) (W := 0) (by show 2 * 0 + 0 ≤ _; decide) (Nat.le_of_ble_eq_true rfl) (Nat.le_of_ble_eq_true rfl)
  have hh3 := q3.trans hh0
  have c4 : Steps p.tables e below (s₁.setTop (entryFrame m #[.ref a, .ref b, .int (Int32.ofNat o), .int (Int32.ofNat len), .null] 6)) (T3.setTop (mkF m 27 #[.val (.ref a), .val (.ref b), .val (.int (Int32.ofNat o)), .val (.int (Int32.ofNat len)), .val .null, .unset] [])) := (c2.trans (st3 _ (Steps.refl _))).trans (by
    refine XS.iloadN X3.here hexec rfl (hb hbytes d4) rfl ?_
    refine XS.ifYes X3.here hexec rfl (pc0 := 5) rfl (hb hbytes d5) rfl (i0_ne_t (nz32 (by omega) l0)) (by decide) rfl ?_
    exact Steps.refl _)
  obtain ⟨T5, X5, q5, st5⟩ := X3.sget hexec hown (wk W (.fieldLink "java/lang/String" 38 "java/lang/String" "COMPACT_STRINGS" "Z")) s1 (fun _ _ h => by rw [hh3]; exact h) (g := (mkF m 27 #[.val (.ref a), .val (.ref b), .val (.int (Int32.ofNat o)), .val (.int (Int32.ofNat len)), .val .null, .unset] [])) rfl (hb hbytes d27)
  have hh5 := q5.trans hh3
  have c6 : Steps p.tables e below (s₁.setTop (entryFrame m #[.ref a, .ref b, .int (Int32.ofNat o), .int (Int32.ofNat len), .null] 6)) (T5.setTop (mkF m 30 #[.val (.ref a), .val (.ref b), .val (.int (Int32.ofNat o)), .val (.int (Int32.ofNat len)), .val .null, .unset] [.int z])) := c4.trans (st5 _ (Steps.refl _))
  have c7 : Steps p.tables e below (s₁.setTop (entryFrame m #[.ref a, .ref b, .int (Int32.ofNat o), .int (Int32.ofNat len), .null] 6)) (T5.setTop (mkF m 36 #[.val (.ref a), .val (.ref b), .val (.int (Int32.ofNat o)), .val (.int (Int32.ofNat len)), .val .null, .unset] [.int (Int32.ofNat len), .int (Int32.ofNat o), .ref b])) := c6.trans (by
    refine XS.ifNo X5.here hexec rfl (hb hbytes d30) rfl (i0_eq_f hz) ?_
    refine XS.aloadN X5.here hexec rfl (hb hbytes d33) rfl rfl ?_
    refine XS.iloadN X5.here hexec rfl (hb hbytes d34) rfl ?_
    refine XS.iloadN X5.here hexec rfl (hb hbytes d35) rfl ?_
    exact Steps.refl _)
  obtain ⟨v8, T8, X8, E8, g8⟩ := X5.callS hexec (Cmp3.law l b A o len) hown (wks W (staticW "java/lang/String" 177 Cmp3.yN)) (wk W Cmp3.tab) (W := 0) (Nat.le_of_ble_eq_true rfl) (Nat.le_of_ble_eq_true rfl) (Nat.le_refl _) (by show 0 + len ≤ len; omega) (g := (mkF m 36 #[.val (.ref a), .val (.ref b), .val (.int (Int32.ofNat o)), .val (.int (Int32.ofNat len)), .val .null, .unset] [.int (Int32.ofNat len), .int (Int32.ofNat o), .ref b])) rfl (by rw [hml]; rfl) c7 (argsL := [.ref b, .int (Int32.ofNat o), .int (Int32.ofNat len)]) (rest := []) rfl rfl (by show 2 * 0 + 0 ≤ _; decide) (hb hbytes d36) (⟨rfl, hA.mv X5.warmed.alike hh5, l1, l2, hp⟩)
  obtain ⟨e8, z8⟩ := E8
  obtain ⟨rfl, N, n1, n2, n3, n4, n5, n6⟩ := NewArr.mv _ T5 s _ _ hh5.symm (Vm.Alike.refl _) rfl e8
  rw [hh5] at z8
  have hB1 := hB.keep X8.warmed.alike (n6 _ _ hB.1)
  have hne : s.heap.size ≠ a := (Nat.ne_of_lt (Array.getElem?_eq_some_iff.mp hB.1).1).symm
  have c9 : Steps p.tables e below (s₁.setTop (entryFrame m #[.ref a, .ref b, .int (Int32.ofNat o), .int (Int32.ofNat len), .null] 6)) (T8.setTop (mkF m 39 #[.val (.ref a), .val (.ref b), .val (.int (Int32.ofNat o)), .val (.int (Int32.ofNat len)), .val .null, .unset] [.ref s.heap.size])) := g8
  have c10 : Steps p.tables e below (s₁.setTop (entryFrame m #[.ref a, .ref b, .int (Int32.ofNat o), .int (Int32.ofNat len), .null] 6)) (T8.setTop (mkF m 45 #[.val (.ref a), .val (.ref b), .val (.int (Int32.ofNat o)), .val (.int (Int32.ofNat len)), .val .null, .val (.ref s.heap.size)] [.int (Int32.ofNat N.slots.size), .ref s.heap.size, .ref a])) := by
    have hc : Steps p.tables e below (s₁.setTop (entryFrame m #[.ref a, .ref b, .int (Int32.ofNat o), .int (Int32.ofNat len), .null] 6)) (T8.setTop (mkF m 45 #[.val (.ref a), .val (.ref b), .val (.int (Int32.ofNat o)), .val (.int (Int32.ofNat len)), .val .null, .val (.ref s.heap.size)] [.int (Int32.ofNat len), .ref s.heap.size, .ref a])) := c9.trans (by
      refine XS.astore X8.here hexec rfl (hb hbytes d39) rfl rfl rfl ?_
      refine XS.aloadN X8.here hexec rfl (hb hbytes d41) rfl rfl ?_
      refine XS.aload X8.here hexec rfl (hb hbytes d42) rfl rfl ?_
      refine XS.iloadN X8.here hexec rfl (hb hbytes d44) rfl ?_
      exact Steps.refl _)
    rw [n4]; exact hc
  obtain ⟨v11, T11, X11, E11, g11⟩ := X8.callS hexec (CodL.law l s.heap.size N) hown (wks W (staticW "java/lang/String" 47 CodL.yN)) (wk W CodL.tab) (W := 1) (Nat.le_of_ble_eq_true rfl) (Nat.le_of_ble_eq_true rfl) (Nat.le_refl _) (by show 0 + len + 0 ≤ len; omega) (g := (mkF m 45 #[.val (.ref a), .val (.ref b), .val (.int (Int32.ofNat o)), .val (.int (Int32.ofNat len)), .val .null, .val (.ref s.heap.size)] [.int (Int32.ofNat N.slots.size), .ref s.heap.size, .ref a])) rfl (by rw [hml]; rfl) c10 (argsL := [.ref s.heap.size, .int (Int32.ofNat N.slots.size)]) (rest := [.ref a]) rfl rfl (by show 2 * 0 + (1 + 0) ≤ _; decide) (hb hbytes d45) (⟨rfl, n1⟩)
  obtain ⟨rfl, q11⟩ := E11
  have hB11 := hB1.mv (X8.warmed.alike.symm.trans X11.warmed.alike) q11
  have c12 : Steps p.tables e below (s₁.setTop (entryFrame m #[.ref a, .ref b, .int (Int32.ofNat o), .int (Int32.ofNat len), .null] 6)) (T11.setTop (mkF m 48 #[.val (.ref a), .val (.ref b), .val (.int (Int32.ofNat o)), .val (.int (Int32.ofNat len)), .val .null, .val (.ref s.heap.size)] [.int 0, .ref a])) := g11
  obtain ⟨T13, X13, p13, bl13, sl13, st13⟩ := X11.finit hexec hown (wk W (.fieldLink "java/lang/String" 15 "java/lang/String" "coder" "B")) (Or.inr ⟨_, (wk W (.laysFinal "java/lang/String" "java/lang/String" "coder" "B"))⟩) (Or.inl ⟨rfl, hnm⟩) f2 (Or.inl rfl) hB11 (t := .byte) (by decide +kernel) rfl (g := (mkF m 48 #[.val (.ref a), .val (.ref b), .val (.int (Int32.ofNat o)), .val (.int (Int32.ofNat len)), .val .null, .val (.ref s.heap.size)] [.int 0, .ref a])) rfl (rest := []) rfl (hb hbytes d48)
  have c14 : Steps p.tables e below (s₁.setTop (entryFrame m #[.ref a, .ref b, .int (Int32.ofNat o), .int (Int32.ofNat len), .null] 6)) (T13.setTop (mkF m 54 #[.val (.ref a), .val (.ref b), .val (.int (Int32.ofNat o)), .val (.int (Int32.ofNat len)), .val .null, .val (.ref s.heap.size)] [.ref s.heap.size, .ref a])) := (c12.trans (st13 _ (Steps.refl _))).trans (by
    refine XS.aloadN X13.here hexec rfl (hb hbytes d51) rfl rfl ?_
    refine XS.aload X13.here hexec rfl (hb hbytes d52) rfl rfl ?_
    exact Steps.refl _)
  obtain ⟨T15, X15, p15, bl15, sl15, st15⟩ := X13.finit hexec hown (wk W (.fieldLink "java/lang/String" 9 "java/lang/String" "value" "[B")) (Or.inr ⟨_, (wk W (.laysFinal "java/lang/String" "java/lang/String" "value" "[B"))⟩) (Or.inl ⟨rfl, hnm⟩) f1 (Or.inl rfl) bl13 (t := (.array .byte)) (by decide +kernel) rfl (g := (mkF m 54 #[.val (.ref a), .val (.ref b), .val (.int (Int32.ofNat o)), .val (.int (Int32.ofNat len)), .val .null, .val (.ref s.heap.size)] [.ref s.heap.size, .ref a])) rfl (rest := []) rfl (hb hbytes d54)
  have c16 : Steps p.tables e below (s₁.setTop (entryFrame m #[.ref a, .ref b, .int (Int32.ofNat o), .int (Int32.ofNat len), .null] 6)) (T15.setTop (mkF m 57 #[.val (.ref a), .val (.ref b), .val (.int (Int32.ofNat o)), .val (.int (Int32.ofNat len)), .val .null, .val (.ref s.heap.size)] [])) := c14.trans (st15 _ (Steps.refl _))
  have ap := apart (Or.inr ⟨_, (wk W (.laysFinal "java/lang/String" "java/lang/String" "value" "[B"))⟩) (Or.inr ⟨_, (wk W (.laysFinal "java/lang/String" "java/lang/String" "coder" "B"))⟩) f1 f2 (t₁ := .array .byte) (t₂ := .byte) (by decide +kernel) (by decide +kernel) (by decide)
  have al := X8.warmed.alike.symm.trans X15.warmed.alike
  have n7 : T11.heap[s.heap.size]? = some N := by rw [q11]; exact n1.1
  exact ⟨T15, none, _, _, _, X15, by simp, rfl, by omega, (fun _ => rfl), ⟨rfl, _, N, bl15, ((Same.refl D _).set _ (by simp)).set _ (by simp), sl15, (Cell.slots_setSlot_ne _ ap).trans sl13, n1.keep al (p15.other hne (p13.other hne n7)), n2, by rw [al.findClass]; exact n3, n4, n5, fun y c h1 h2 => p15.other h1 (p13.other h1 (by rw [q11]; exact n6 y c h2)), by rw [p15.2.2, p13.2.2, q11]; exact z8⟩, fun fs hl => c16.trans (X15.returnOut hexec hret (hb hbytes d57) hl)⟩
end New4
namespace New1
def yN : MethodName := ⟨"java/lang/String", "<init>", "([C)V"⟩
abbrev yB : ByteArray := jdk_42_method_3_code
theorem d0 : decode yB 0 = .ok (.aload_n 0, 1) := by decide +kernel
theorem d1 : decode yB 1 = .ok (.aload_n 1, 1) := by decide +kernel
theorem d2 : decode yB 2 = .ok (.iconst 0, 1) := by decide +kernel
theorem d3 : decode yB 3 = .ok (.aload_n 1, 1) := by decide +kernel
theorem d4 : decode yB 4 = .ok (.arraylength, 1) := by decide +kernel
theorem d5 : decode yB 5 = .ok (.aconst_null, 1) := by decide +kernel
theorem d6 : decode yB 6 = .ok (.invokespecial 27, 3) := by decide +kernel
theorem d9 : decode yB 9 = .ok (.return_, 1) := by decide +kernel
def site : List Cond := [New4.tab] ++ initW "java/lang/String" 27 New4.yN
def tab : Cond := tabOf yN yB 2 none site
def P (a : Addr) (D : Cell) (fV fC : Field) (b : Addr) (A : Cell) (z : Int32) (args : Array Value) (s : State) : Prop := args = #[.ref a, .ref b] ∧ Blank "java/lang/String" a D s ∧ Found "java/lang/String" "value" "[B" fV s ∧ Found "java/lang/String" "coder" "B" fC s ∧ Ch b A s ∧ StaticIs s "java/lang/String" "COMPACT_STRINGS" "Z" (.int z) ∧ ¬ z = 0 ∧ 0 < A.slots.size ∧ A.slots.size ≤ 536870912 ∧ ∀ i, i < A.slots.size → ¬ 255 < cv A i
def E (a : Addr) (D : Cell) (fV fC : Field) (A : Cell) (r : Option Value) (s u : State) : Prop := Got a D fV fC A 0 A.slots.size r s u
/-- new String(chars), not empty, no char above 255: a Latin-1 String of their low bytes -/
theorem law (l : Launch) (a : Addr) (D : Cell) (fV fC : Field) (b : Addr) (A : Cell) (z : Int32) : Law l yN 2 1 3 52 yB 2 none site (P a D fV fC b A z) (E a D fV fC A) [⟨a, fC.slot⟩, ⟨a, fV.slot⟩] 1 A.slots.size := by
  refine Law.of_walk (plainFor_of_name (by decide +kernel)) (by decide +kernel) (by decide +kernel) (by decide) (fun _ _ h => by rw [h.1]; rfl) (fun _ U U' hal hh h => ⟨h.1, h.2.1.mv hal hh, h.2.2.1.al hal, h.2.2.2.1.al hal, h.2.2.2.2.1.mv hal hh, h.2.2.2.2.2.1.there hal hh, h.2.2.2.2.2.2⟩) (fun r U U' V V' h1 hal h2 h => Got.mv r U U' V V' h1 hal h2 h) ?_
  intro p e s m args below meth c s₁ X0 hexec hbytes hml hret hlk hnm hown hh0 W hP
  obtain ⟨rfl, hB, f1, f2, hA, s1, hz, l0, l2, hp⟩ := hP
  have c1 : Steps p.tables e below (s₁.setTop (entryFrame m #[.ref a, .ref b] 2)) (s₁.setTop (mkF m 0 #[.val (.ref a), .val (.ref b)] [])) := entry rfl
  have c2 : Steps p.tables e below (s₁.setTop (entryFrame m #[.ref a, .ref b] 2)) (s₁.setTop (mkF m 6 #[.val (.ref a), .val (.ref b)] [.null, .int (Int32.ofNat A.slots.size), .int 0, .ref b, .ref a])) := c1.trans (by
    refine XS.aloadN X0.here hexec rfl (hb hbytes d0) rfl rfl ?_
    refine XS.aloadN X0.here hexec rfl (hb hbytes d1) rfl rfl ?_
    refine iconstV X0.here hexec rfl 0 (hb hbytes d2) (by decide) ?_
    refine XS.aloadN X0.here hexec rfl (hb hbytes d3) rfl rfl ?_
    refine X0.alen hexec (hA.1.mv X0.warmed.alike hh0) rfl rfl (hb hbytes d4) ?_
    refine XS.aconstNull X0.here hexec rfl (hb hbytes d5) ?_
    exact Steps.refl _)
  obtain ⟨v3, T3, X3, E3, g3⟩ := X0.callN hexec (New4.law l a D fV fC b A z 0 A.slots.size) rfl hown (wks W (initW "java/lang/String" 27 New4.yN)) (W New4.tab (by simp only [site, List.mem_cons, List.mem_append, true_or, or_true])) (W := 0) (Nat.le_of_ble_eq_true rfl) (Nat.le_of_ble_eq_true rfl) (Nat.le_refl _) (by show 0 + A.slots.size ≤ A.slots.size; omega) (g := (mkF m 6 #[.val (.ref a), .val (.ref b)] [.null, .int (Int32.ofNat A.slots.size), .int (Int32.ofNat 0), .ref b, .ref a])) rfl (by rw [hml]; rfl) c2 (argsL := [.ref b, .int (Int32.ofNat 0), .int (Int32.ofNat A.slots.size), .null]) (rest := []) rfl rfl (by show 2 * 0 + 0 ≤ _; decide) (hb hbytes d6) (⟨rfl, hB.mv X0.warmed.alike hh0, f1.al X0.warmed.alike, f2.al X0.warmed.alike, hA.mv X0.warmed.alike hh0, s1.there X0.warmed.alike hh0, hz, l0, by omega, l2, fun i hi => by rw [Nat.zero_add]; exact hp i hi⟩)
  have e0 := Got.mv _ s₁ s _ _ hh0.symm (Vm.Alike.refl _) rfl E3
  obtain rfl := e0.1
  have c4 : Steps p.tables e below (s₁.setTop (entryFrame m #[.ref a, .ref b] 2)) (T3.setTop (mkF m 9 #[.val (.ref a), .val (.ref b)] [])) := g3
  exact ⟨T3, none, _, _, _, X3, by simp, rfl, by omega, (fun _ => rfl), e0, fun fs hl => c4.trans (X3.returnOut hexec hret (hb hbytes d9) hl)⟩
theorem pays {l : Launch} {R : Room} {p : Program} {e : Env} {below : List Frame} {s : State} {sargs : Array Value} {len W : Nat} (a : Addr) (D : Cell) (fV fC : Field) (b : Addr) (A : Cell) (z : Int32) (htab : tab.before sargs s = true) (hfr : 4 ≤ R.frames) (hlo : W + 65 ≤ R.locals) :
    Back l R p e below s sargs yN len W (fun A₁ a₁ => A₁.cells + 1 ≤ R.cells ∧ A₁.slots + A.slots.size ≤ R.slots ∧ P a D fV fC b A z a₁ A₁.U) (fun A₁ _ v₁ B₁ => E a D fV fC A v₁ A₁.U B₁.U ∧ B₁.locs = A₁.locs ++ [⟨a, fC.slot⟩, ⟨a, fV.slot⟩] ∧ B₁.cells = A₁.cells + 1 ∧ B₁.slots = A₁.slots + A.slots.size) :=
  (law l a D fV fC b A z).pays htab hfr (by omega)
end New1
end StrChars
namespace StrChars.Road
open Jvm Sem ClassFile Op Lib Jvm.Stand Jvm.Free Jvm.Free.XT
open Jvm.Lib.Cold (StaticIs)
abbrev ST : String := "java/lang/String"
/-- every table word that New1's law asks, flat -/
abbrev words : List Jvm.Cond := [.code New1.yN New1.yB 2 none, .initialized ST, .methodLink ST 27 New4.yN, .instanceMethod New4.yN,
  .code New4.yN New4.yB 6 none, .fieldLink ST 38 ST "COMPACT_STRINGS" "Z", .laysFinal ST ST "value" "[B", .fieldLink ST 9 ST "value" "[B", .laysFinal ST ST "coder" "B", .fieldLink ST 15 ST "coder" "B",
  .methodLink ST 1 Lib.objectInit, .instanceMethod Lib.objectInit, .code Lib.objectInit ⟨#[0xb1]⟩ 1 none, .methodLink ST 177 Cmp3.yN, .static Cmp3.yN, .methodLink ST 47 CodL.yN, .static CodL.yN,
  .code Cmp3.yN Cmp3.yB 6 (some (.array .byte)), .initialized U16, .arrayClass .byte, .methodLink U16 115 Cmp5.yN, .static Cmp5.yN, .code Cmp5.yN Cmp5.yB 7 (some .int), .code CodL.yN CodL.yB 2 (some .byte)]
theorem tab_of {a : Array Value} {s : State} (h : ∀ w ∈ words, w.before a s = true) : New1.tab.before a s = true := by
  have h5 : Cmp5.tab.before a s = true := unparts (wk h (.code Cmp5.yN Cmp5.yB 7 (some .int))) (wks h (.initialized Cmp5.yN.cls :: Cmp5.site))
  have hc : CodL.tab.before a s = true := unparts (wk h (.code CodL.yN CodL.yB 2 (some .byte))) (wks h (.initialized CodL.yN.cls :: CodL.site))
  have q5 : ∀ w ∈ Cmp5.tab :: words, w.before a s = true := fun w hw => (List.mem_cons.mp hw).elim (fun e => e ▸ h5) (h w)
  have h3 : Cmp3.tab.before a s = true := unparts (wk q5 (.code Cmp3.yN Cmp3.yB 6 (some (.array .byte)))) (wks q5 (.initialized Cmp3.yN.cls :: Cmp3.site))
  have q3 : ∀ w ∈ Cmp3.tab :: CodL.tab :: words, w.before a s = true := fun w hw => (List.mem_cons.mp hw).elim (fun e => e ▸ h3) fun hw => (List.mem_cons.mp hw).elim (fun e => e ▸ hc) (h w)
  have h4 : New4.tab.before a s = true := unparts (wk q3 (.code New4.yN New4.yB 6 none)) (wks q3 (.initialized New4.yN.cls :: New4.site))
  have q4 : ∀ w ∈ New4.tab :: words, w.before a s = true := fun w hw => (List.mem_cons.mp hw).elim (fun e => e ▸ h4) (h w)
  exact unparts (wk q4 (.code New1.yN New1.yB 2 none)) (wks q4 (.initialized New1.yN.cls :: New1.site))
/-- the words ride from the start Z to the walk's own state -/
theorem moved {Z s : State} {a0 args : Array Value} (hZ : Z.Warmed39 s.vm) (hw : ∀ d ∈ words, d.before a0 Z = true) : ∀ d ∈ words, d.before args s = true := fun d hd => by
  have q := hw d hd
  have t : ∀ d ∈ words, d = .arrayClass .byte ∨ (d.onTables && d.keepsFace) = true := by decide +kernel
  rcases t d hd with rfl | t
  · exact RoadKit.mvA hZ q
  · exact RoadKit.mv hZ q t
/-- WHAT COMES BACK, over the tables of the start Z: h the heap at the call, h' behind it -/
def Q (Z : State) (x : Addr) (A : Cell) (h : Heap) (v : Option Value) (h' : Heap) (L : List Loc) : Prop := v = none ∧ (∀ y ∈ L, y.base = x) ∧ RoadKit.Keep h h' [x] ∧ h'.size = h.size + 1 ∧ RoadKit.Exa Z h' x ST ∧ RoadKit.Fld Z h' x ST "value" "[B" (.ref h.size) ∧ RoadKit.Fld Z h' x ST "coder" "B" (.int 0) ∧
  (∃ V : Cell, RoadKit.Arr Z h' h.size V .byte ∧ V.vm = .none ∧ Z.vm.findClass "[B" = some V.cls ∧ V.slots.size = A.slots.size ∧ ∀ j, j < A.slots.size → V.slots[j]? = some (.int (lo8 (cv A j)))) ∧
  ∀ (O n d : String) (w : Value), RoadKit.Fld Z h x O n d w → RoadKit.slotOf Z O n d ≠ RoadKit.slotOf Z ST "value" "[B" → RoadKit.slotOf Z O n d ≠ RoadKit.slotOf Z ST "coder" "B" → RoadKit.Fld Z h' x O n d w
/-- **new String(chars) AT A CALL, IN THE ROAD'S FORM**: for specialBack behind newO: x the fresh String, b the char[] with the cell A -/
theorem back {p : Program} {l : Launch} {e : Env} {R : Room} {s : State} {args : Array Value} {below : List Frame} {len W : Nat} {Z : State} {a0 : Array Value} {h : Heap} (hZ : Z.Warmed39 s.vm) (hw : ∀ d ∈ words, d.before a0 Z = true) {kI : Nat} (wi : (Jvm.Cond.instantiable ST kI).before a0 Z = true)
    {x b : Addr} {A : Cell} {z : Int32} {v0 c0 : Value} (E : RoadKit.Exa Z h x ST) (V : RoadKit.Fld Z h x ST "value" "[B" v0) (C : RoadKit.Fld Z h x ST "coder" "B" c0) (K : RoadKit.Arr Z h b A .char) (hty : Typed .char A) (S : RoadKit.Sta Z h ST "COMPACT_STRINGS" "Z" (.int z)) (hz : ¬ z = 0)
    (l0 : 0 < A.slots.size) (l2 : A.slots.size ≤ 536870912) (hp : ∀ i, i < A.slots.size → ¬ 255 < cv A i) (hfr : 4 ≤ R.frames) (hlo : W + 65 ≤ R.locals) :
    Back l R p e below s args New1.yN len W (fun P a => a = #[.ref x, .ref b] ∧ P.U.heap = h ∧ P.cells + 1 ≤ R.cells ∧ P.slots + A.slots.size ≤ R.slots)
      (fun P _ v B => ∃ L, Q Z x A h v B.U.heap L ∧ B.locs = P.locs ++ L ∧ B.cells = P.cells + 1 ∧ B.slots = P.slots + A.slots.size) := by
  intro m meth c P g ig mk a X hg hsize hdg hW hn hp'
  obtain ⟨rfl, rfl, r1, r2⟩ := hp'
  have al : Z.vm.Alike P.U.vm := hZ.alike.trans X.warmed.alike
  obtain ⟨D, cfV, kV, iV, fV, hD, gV, stV, knV, obV, asV, slV⟩ := id V
  obtain ⟨D', cfC, kC, iC, fC, hD', gC, stC, -, -, asC, slC⟩ := id C
  cases hD.symm.trans hD'
  obtain ⟨D2, kD, e1, e2, e3, e4, e5⟩ := id E
  cases hD.symm.trans e1
  obtain ⟨c2, k2, i1, i2, i3, -⟩ := Cond.instantiable_spec wi
  cases e2.symm.trans i1
  cases e3.symm.trans i2
  obtain ⟨kU, u1, u2⟩ := al.2.2 _ _ e3
  have hB : Blank ST x D P.U := ⟨hD, ⟨knV, fun q hq => by rw [hq] at obV; cases obV⟩, by rw [al.findClass]; exact e2, kU, u1, by rw [u2]; exact i3, by rw [u2]; exact e5 i3⟩
  have F1 : Found ST "value" "[B" fV P.U := ⟨SBG.found_only al ⟨cfV, kV, iV, gV⟩, stV⟩
  have F2 : Found ST "coder" "B" fC P.U := ⟨SBG.found_only al ⟨cfC, kC, iC, gC⟩, stC⟩
  have hA : Ch b A P.U := ⟨⟨K.1, State.isArrayOf_alike al K.2.1, K.2.2, by omega⟩, hty⟩
  have hS : StaticIs P.U ST "COMPACT_STRINGS" "Z" (.int z) := by
    obtain ⟨cfS, iS, kS, fS, st, cS, t1, t2, t3, t4, t5, t6, t7⟩ := S
    exact StaticIs.there (s := { Z with heap := P.U.heap }) ⟨cfS, iS, kS, fS, st, cS, t1, t2, t3, t4, t5, (fun q => by rw [q] at t6; cases t6), t7⟩ al rfl
  obtain ⟨v, B, X', ⟨⟨hv, E', V', q1, q2, q3, q4, q5, q6, q7, q8, q9, q10, q11⟩, hl, hc, hs⟩, st⟩ := New1.pays x D fV fC b A z (tab_of (moved hZ hw)) hfr hlo m meth c P g ig mk _ X hg hsize hdg hW hn ⟨r1, r2, rfl, hB, F1, F2, hA, hS, hz, l0, l2, hp⟩
  have al' : Z.vm.Alike B.U.vm := hZ.alike.trans X'.warmed.alike
  have hsz : E'.slots.size = D.slots.size := by
    obtain ⟨-, -, -, kB, w1, w2, w3⟩ := q1
    obtain ⟨kB', y1, y2⟩ := al'.2.2 _ _ e3
    rw [q2.2.1] at w1
    cases w1.symm.trans y1
    rw [w3, e5 i3, y2]
  refine ⟨v, B, X', ⟨_, ⟨hv, ?_, ⟨by omega, fun y cy hy hn' => q10 y cy (by simpa using hn') hy, fun y cy hy => ?_⟩, q11, ⟨E', _, q1.1, by rw [q2.2.1]; exact e2, by rw [q2.2.1]; exact e3, by rw [q2.1]; exact obV, fun _ => by rw [hsz]; exact e5 i3⟩,
    ⟨E', cfV, kV, iV, fV, q1.1, gV, stV, by rw [q2.1]; exact knV, by rw [q2.1]; exact obV, by rw [q2.2.1]; exact asV, q3⟩, ⟨E', cfC, kC, iC, fC, q1.1, gC, stC, by rw [q2.1]; exact knV, by rw [q2.1]; exact obV, by rw [q2.2.1]; exact asC, q4⟩,
    ⟨V', ⟨q5.1, State.isArrayOf_alike al'.symm q5.2.1, q5.2.2.1⟩, q6, by rw [← al'.findClass]; exact q7, q8, fun j hj => by have := q9 j hj; rwa [Nat.zero_add] at this⟩, fun O n d w F n1 n2 => ?_⟩, hl, hc, hs⟩, st⟩
  · intro y hy
    simp only [List.mem_cons, List.not_mem_nil, or_false] at hy
    rcases hy with rfl | rfl <;> rfl
  · by_cases q : y = x
    · subst q
      cases hD.symm.trans hy
      exact ⟨E', q1.1, q2.2.1, q2.1, hsz⟩
    · exact ⟨cy, q10 y cy q hy, rfl, rfl, rfl⟩
  · obtain ⟨D3, cf, k, i, f, g1, g2, g3, g4, g5, g6, g7⟩ := F
    cases hD.symm.trans g1
    simp only [RoadKit.slotOf, g2, gV, gC, Option.map_some, Option.getD_some] at n1 n2
    exact ⟨E', cf, k, i, f, q1.1, g2, g3, by rw [q2.1]; exact g4, by rw [q2.1]; exact g5, by rw [q2.2.1]; exact g6, by rw [q2.2.2 f.slot (by simp [n1, n2])]; exact g7⟩
end StrChars.Road
namespace StrChars.Road
open Jvm Sem ClassFile Op Lib Jvm.Stand Jvm.Free Jvm.Free.XT
/-- WHAT COMES BACK, the byte[] as a list of values -/
def QA (Z : State) (x : Addr) (zn : Int32) (cs : List Int32) (h : Heap) (v : Option Value) (h' : Heap) (L : List Loc) : Prop := v = none ∧ (∀ y ∈ L, y.base = x) ∧ RoadKit.Keep h h' [x] ∧ h'.size = h.size + 1 ∧ RoadKit.Exa Z h' x ST ∧ RoadKit.Fld Z h' x ST "value" "[B" (.ref h.size) ∧ RoadKit.Fld Z h' x ST "coder" "B" (.int 0) ∧
  (∃ kb, Z.vm.findClass "[B" = some kb ∧ RoadKit.Arv Z h' h.size kb .byte zn (cs.map fun c => .int (lo8 c)) (.int 0)) ∧
  ∀ (O n d : String) (w : Value), RoadKit.Fld Z h x O n d w → RoadKit.slotOf Z O n d ≠ RoadKit.slotOf Z ST "value" "[B" → RoadKit.slotOf Z O n d ≠ RoadKit.slotOf Z ST "coder" "B" → RoadKit.Fld Z h' x O n d w
/-- **new String(chars) AT A CALL, THE ARRAYS AS LISTS**: the char[] at b holds cs, not empty, no char above 255 -/
theorem backArv {p : Program} {l : Launch} {e : Env} {R : Room} {s : State} {args : Array Value} {below : List Frame} {len W : Nat} {Z : State} {a0 : Array Value} {h : Heap} (hZ : Z.Warmed39 s.vm) (hw : ∀ d ∈ words, d.before a0 Z = true) {kI : Nat} (wi : (Jvm.Cond.instantiable ST kI).before a0 Z = true)
    {x b : Addr} {k : ClassId} {zn z : Int32} {cs : List Int32} {dv v0 c0 : Value} (E : RoadKit.Exa Z h x ST) (V : RoadKit.Fld Z h x ST "value" "[B" v0) (C : RoadKit.Fld Z h x ST "coder" "B" c0) (K : RoadKit.Arv Z h b k .char zn (cs.map Value.int) dv) (S : RoadKit.Sta Z h ST "COMPACT_STRINGS" "Z" (.int z)) (hz : ¬ z = 0)
    (hlen : zn.toNatClampNeg = cs.length) (h0 : 0 < cs.length) (hbig : cs.length ≤ 536870912) (hall : ∀ c ∈ cs, ¬ 255 < c) (hfr : 4 ≤ R.frames) (hlo : W + 65 ≤ R.locals) :
    Back l R p e below s args New1.yN len W (fun P a => a = #[.ref x, .ref b] ∧ P.U.heap = h ∧ P.cells + 1 ≤ R.cells ∧ P.slots + cs.length ≤ R.slots)
      (fun P _ v B => ∃ L, QA Z x zn cs h v B.U.heap L ∧ B.locs = P.locs ++ L ∧ B.cells = P.cells + 1 ∧ B.slots = P.slots + cs.length) := by
  obtain ⟨A, K1, K2, K3, K4, K5, K6⟩ := K
  have e : A.slots.size = cs.length := K3.trans hlen
  have hat : ∀ (i : Nat) (hi : i < cs.length), A.slots[i]? = some (.int cs[i]) := fun i hi => by rw [K5 i (by omega)]; simp [List.getD_eq_getElem?_getD, hi]
  have hcv : ∀ (i : Nat) (hi : i < cs.length), cv A i = cs[i] := fun i hi => by unfold cv; rw [hat i hi]
  have hty : Typed .char A := fun i v hv => by
    have hi : i < A.slots.size := (Array.getElem?_eq_some_iff.mp hv).1
    have q := K5 i hi
    rw [hv] at q
    rw [Option.some.inj q]
    exact K6 i hi
  refine Back.mono (back hZ hw wi E V C K1 hty S hz (by omega) (by omega) (fun i hi => by rw [hcv i (by omega)]; exact hall _ (List.getElem_mem _)) hfr hlo) (fun P a hp => ⟨hp.1, hp.2.1, hp.2.2.1, by rw [e]; exact hp.2.2.2⟩) (fun P a v B hp hq => ?_)
  obtain ⟨L, ⟨q1, q2, q3, q4, q5, q6, q7, ⟨V', v1, v2, v3, v4, v5⟩, q9⟩, hl, hc, hs⟩ := hq
  refine ⟨L, ⟨q1, q2, q3, q4, q5, q6, q7, ⟨V'.cls, v3, V', v1, rfl, by rw [v4, e, hlen], K4, fun i hi => ?_, fun i hi => ?_⟩, q9⟩, hl, hc, by rw [hs, e]⟩
  · have hi' : i < cs.length := by omega
    rw [v5 i (by omega), hcv i hi']; simp [List.getD_eq_getElem?_getD, hi']
  · have hi' : i < cs.length := by omega
    simp only [List.getD_eq_getElem?_getD, List.getElem?_map, List.getElem?_eq_getElem hi', Option.map_some, Option.getD_some]
    exact fits_lo8 _
end StrChars.Road
namespace StrChars.Road
open Jvm Sem ClassFile Op Lib Jvm.Stand Jvm.Free Jvm.Free.XT
/-- WHAT COMES BACK, in the writer's own shape -/
def QV (Z : State) (x : Addr) (N : Int32) (bs : List Int32) (h : Heap) (n0 : Nat) (v : Option Value) (h' : Heap) (L : List Loc) : Prop := v = none ∧ RoadKit.Fr n0 L ∧ RoadKit.Keep h h' [x] ∧ RoadKit.Exa Z h' x ST ∧ RoadKit.Fld Z h' x ST "coder" "B" (.int 0) ∧
  ∃ (t : Addr) (kb : ClassId), n0 ≤ t ∧ h.size ≤ t ∧ ¬ t = x ∧ RoadKit.Fld Z h' x ST "value" "[B" (.ref t) ∧ RoadKit.Arv Z h' t kb .byte N (bs.map Value.int) (.int 0)
/-- **new String(chars) AT A CALL, FOR THE WRITER**: a char[] of n known ints, each 0 to 255 -/
theorem backV {p : Program} {l : Launch} {e : Env} {R : Room} {s : State} {args : Array Value} {below : List Frame} {len W : Nat} {Z : State} {a0 : Array Value} {h : Heap} (hZ : Z.Warmed39 s.vm) (hw : ∀ d ∈ words, d.before a0 Z = true) {kI : Nat} (wi : (Jvm.Cond.instantiable ST kI).before a0 Z = true)
    {x b : Addr} {kC : ClassId} {cs bs : List Int32} {d v0 c0 : Value} {z N : Int32} {n n0 : Nat} (hx0 : n0 ≤ x) (hh0 : n0 ≤ h.size) (E : RoadKit.Exa Z h x ST) (V : RoadKit.Fld Z h x ST "value" "[B" v0) (C : RoadKit.Fld Z h x ST "coder" "B" c0) (K : RoadKit.Arv Z h b kC .char N (cs.map Value.int) d) (S : RoadKit.Sta Z h ST "COMPACT_STRINGS" "Z" (.int z)) (hz : ¬ z = 0)
    (hn : cs.length = n) (hN : N = Int32.ofNat n) (l0 : 0 < n) (l2 : n ≤ 4000) (hp : ∀ c ∈ cs, ¬ c < 0 ∧ ¬ (255 : Int32) < c) (hb : bs = cs.map (fun c => c.toInt8.toInt32)) (hfr : 4 ≤ R.frames) (hlo : W + 65 ≤ R.locals) :
    Back l R p e below s args (⟨"java/lang/String", "<init>", "([C)V"⟩ : MethodName) len W (fun P a => a = #[.ref x, .ref b] ∧ P.U.heap = h ∧ P.cells + 1 ≤ R.cells ∧ P.slots + n ≤ R.slots)
      (fun P _ v B => ∃ L, QV Z x N bs h n0 v B.U.heap L ∧ B.locs = P.locs ++ L ∧ B.cells = P.cells + 1 ∧ B.slots = P.slots + n) := by
  subst hn hN hb
  refine Back.mono (backArv hZ hw wi E V C K S hz (n32 (by omega)) l0 (by omega) (fun c hc => (hp c hc).2) hfr hlo) (fun P a hp => hp) (fun P a v B hp hq => ?_)
  obtain ⟨L, ⟨q1, q2, q3, q4, q5, q6, q7, ⟨kb, v1, v2⟩, q9⟩, hl, hc, hs⟩ := hq
  exact ⟨L, ⟨q1, fun y hy => by rw [q2 y hy]; exact hx0, q3, q5, q7, h.size, kb, hh0, Nat.le_refl _, Nat.ne_of_gt E.lt, q6, by rw [List.map_map]; exact v2⟩, hl, hc, hs⟩
end StrChars.Road
end Jvm.Pilot.@@N@@

namespace Jvm.Pilot.@@N@@
open Jvm.Ow (Go Wd)
open Jvm Jvm.ClassFile Sem Op Lib Jvm.Free Jvm.Stand Jvm.LawKit Jvm.RoadKit Bundle Jvm.Pilot.@@N@@.Jvm.D
theorem ww {a0 : Array Value} {Z : State} (hw : ∀ d ∈ tables_1, d.before a0 Z = true) (k : Nat) {d : Jvm.Cond} (h : tables_1[k]? = some d) : d.before a0 Z = true := hw d (List.mem_of_getElem? h)
theorem pd0 : parseMethodDescriptor "()B" = some ⟨[], (some .byte)⟩ := by decide +kernel
theorem pd1 : parseMethodDescriptor "(I)Z" = some ⟨[.int], (some .boolean)⟩ := by decide +kernel
theorem pd2 : parseMethodDescriptor "(II)I" = some ⟨[.int, .int], (some .int)⟩ := by decide +kernel
theorem pd3 : parseMethodDescriptor "([BIII)I" = some ⟨[(.array .byte), .int, .int, .int], (some .int)⟩ := by decide +kernel
theorem pd4 : parseMethodDescriptor "()Z" = some ⟨[], (some .boolean)⟩ := by decide +kernel
theorem pd5 : parseMethodDescriptor "()I" = some ⟨[], (some .int)⟩ := by decide +kernel
theorem pd6 : parseMethodDescriptor "()V" = some ⟨[], none⟩ := by decide +kernel
theorem pd7 : parseMethodDescriptor "([CIILjava/lang/Void;)V" = some ⟨[(.array .char), .int, .int, (.object "java/lang/Void")], none⟩ := by decide +kernel
theorem pd8 : parseMethodDescriptor "([C)V" = some ⟨[(.array .char)], none⟩ := by decide +kernel
theorem pd9 : parseMethodDescriptor "(IILjava/util/function/BiFunction;)I" = some ⟨[.int, .int, (.object "java/util/function/BiFunction")], (some .int)⟩ := by decide +kernel
theorem pd10 : parseMethodDescriptor "(II)V" = some ⟨[.int, .int], none⟩ := by decide +kernel
theorem pd11 : parseMethodDescriptor "([BI)C" = some ⟨[(.array .byte), .int], (some .char)⟩ := by decide +kernel
theorem pd12 : parseMethodDescriptor "(IIILjava/util/function/BiFunction;)I" = some ⟨[.int, .int, .int, (.object "java/util/function/BiFunction")], (some .int)⟩ := by decide +kernel
theorem pd13 : parseMethodDescriptor "([BII)[B" = some ⟨[(.array .byte), .int, .int], (some (.array .byte))⟩ := by decide +kernel
theorem pd14 : parseMethodDescriptor "([BB)V" = some ⟨[(.array .byte), .byte], none⟩ := by decide +kernel
theorem pd15 : parseMethodDescriptor "([BII)Ljava/lang/String;" = some ⟨[(.array .byte), .int, .int], (some (.object "java/lang/String"))⟩ := by decide +kernel
theorem pd16 : parseMethodDescriptor "(III)V" = some ⟨[.int, .int, .int], none⟩ := by decide +kernel
theorem pd17 : parseMethodDescriptor "(II)Ljava/lang/String;" = some ⟨[.int, .int], (some (.object "java/lang/String"))⟩ := by decide +kernel
theorem pd18 : parseMethodDescriptor "(I)I" = some ⟨[.int], (some .int)⟩ := by decide +kernel
theorem pd19 : parseMethodDescriptor "(Ljava/lang/Object;)Ljava/lang/Object;" = some ⟨[(.object "java/lang/Object")], (some (.object "java/lang/Object"))⟩ := by decide +kernel
theorem pd20 : parseMethodDescriptor "(Ljava/lang/Object;)V" = some ⟨[(.object "java/lang/Object")], none⟩ := by decide +kernel
theorem pd21 : parseMethodDescriptor "(Ljava/lang/Object;Ljava/lang/String;)Ljava/lang/Object;" = some ⟨[(.object "java/lang/Object"), (.object "java/lang/String")], (some (.object "java/lang/Object"))⟩ := by decide +kernel
theorem pd22 : parseMethodDescriptor "(Ljava/lang/String;)I" = some ⟨[(.object "java/lang/String")], (some .int)⟩ := by decide +kernel
theorem pd23 : parseMethodDescriptor "()Ljava/util/Optional;" = some ⟨[], (some (.object "java/util/Optional"))⟩ := by decide +kernel
theorem pd24 : parseMethodDescriptor "(I)Ljava/lang/String;" = some ⟨[.int], (some (.object "java/lang/String"))⟩ := by decide +kernel
theorem pd25 : parseMethodDescriptor "(Ljava/lang/String;Ljava/lang/String;Ljava/lang/String;)V" = some ⟨[(.object "java/lang/String"), (.object "java/lang/String"), (.object "java/lang/String")], none⟩ := by decide +kernel
theorem pd26 : parseMethodDescriptor "(Ljava/lang/Object;)Ljava/util/Optional;" = some ⟨[(.object "java/lang/Object")], (some (.object "java/util/Optional"))⟩ := by decide +kernel
theorem pd27 : parseMethodDescriptor "([CII)Z" = some ⟨[(.array .char), .int, .int], (some .boolean)⟩ := by decide +kernel
theorem pd28 : parseMethodDescriptor "(I)C" = some ⟨[.int], (some .char)⟩ := by decide +kernel
theorem pd29 : parseMethodDescriptor "(Ljava/lang/String;[CII)Z" = some ⟨[(.object "java/lang/String"), (.array .char), .int, .int], (some .boolean)⟩ := by decide +kernel
theorem pd30 : parseMethodDescriptor "(III)C" = some ⟨[.int, .int, .int], (some .char)⟩ := by decide +kernel
theorem pd31 : parseMethodDescriptor "([CI)I" = some ⟨[(.array .char), .int], (some .int)⟩ := by decide +kernel
theorem pd32 : parseMethodDescriptor "(Ljava/lang/String;)Ljava/util/Optional;" = some ⟨[(.object "java/lang/String")], (some (.object "java/util/Optional"))⟩ := by decide +kernel
theorem pd33 : parseMethodDescriptor "()Ljava/lang/Object;" = some ⟨[], (some (.object "java/lang/Object"))⟩ := by decide +kernel
theorem pd34 : parseMethodDescriptor "()Ljava/lang/String;" = some ⟨[], (some (.object "java/lang/String"))⟩ := by decide +kernel
theorem pn0 : plainName "java/lang/String" = true := by first | (simp [plainName, overriddenIn]; done) | decide +kernel
theorem pn1 : plainName "java/lang/StringLatin1" = true := by first | (simp [plainName, overriddenIn]; done) | decide +kernel
theorem pn2 : plainName "jdk/internal/util/Preconditions" = true := by first | (simp [plainName, overriddenIn]; done) | decide +kernel
theorem pn3 : plainName "java/util/Arrays" = true := by first | (simp [plainName, overriddenIn]; done) | decide +kernel
theorem pn4 : plainName "com/example/mortise/mortise/pack/NamespacedPath" = true := by first | (simp [plainName, overriddenIn]; done) | decide +kernel
theorem pn5 : plainName "java/util/Optional" = true := by first | (simp [plainName, overriddenIn]; done) | decide +kernel
theorem pn6 : plainName "java/util/Objects" = true := by first | (simp [plainName, overriddenIn]; done) | decide +kernel
theorem pn7 : plainName "java/lang/Record" = true := by first | (simp [plainName, overriddenIn]; done) | decide +kernel
theorem pn8 : plainName "com/example/mortise/mortise/pack/NamespacedPathOfPinLaw" = true := by first | (simp [plainName, overriddenIn]; done) | decide +kernel
abbrev EL : List (String × Nat) := consts_1
theorem d12_0 : decode jdk_42_method_152_code 0 = .ok (.getstatic 38, 3) := by decide +kernel
theorem d12_3 : decode jdk_42_method_152_code 3 = .ok (.ifCond .eq 10, 3) := by decide +kernel
theorem d12_6 : decode jdk_42_method_152_code 6 = .ok (.aload_n 0, 1) := by decide +kernel
theorem d12_7 : decode jdk_42_method_152_code 7 = .ok (.getfield 15, 3) := by decide +kernel
theorem d12_10 : decode jdk_42_method_152_code 10 = .ok (.goto 4, 3) := by decide +kernel
theorem d12_13 : decode jdk_42_method_152_code 13 = .ok (.iconst 1, 1) := by decide +kernel
theorem d12_14 : decode jdk_42_method_152_code 14 = .ok (.ireturn, 1) := by decide +kernel
set_option maxRecDepth 65536 in
set_option maxHeartbeats 4000000 in
theorem c_coder (l : Launch) (Z : State) (a0 : Array Value) (hw : ∀ d ∈ tables_1, d.before a0 Z = true) (h0 : Heap) (z : Int32) (x : Addr) (S : Sta Z h0 "java/lang/String" "COMPACT_STRINGS" "Z" (.int z)) (hz : ¬ z = 0) (C0 : Fld Z h0 x "java/lang/String" "coder" "B" (.int 0)) : Ow.Pay l Z (⟨"java/lang/String", "coder", "()B"⟩ : MethodName) jdk_42_method_152_code 1 (some .byte) ({ frames := 0, cells := 0, slots := 0, locals := 0 } : Room) #[(.ref x)] h0 (fun v h L => v = some (.int 0) ∧ h = h0 ∧ L = []) := by
  refine Ow.Pay.of (Ls := #[.val (.ref x)]) (plainFor_of_name pn0) (fun m => by first | rfl | (simp [entryFrame, mkF, argsToLocals, Value.category]; done)) ?_
  intro p e s m below meth c T hx hby hml hown hnm hme hZ hret hlk X eT
  refine Ow.getstatic X hx hZ hown (ww hw 54 rfl) Via.refl eT S (pc := 0) (hb hby d12_0) ?_   -- "java/lang/String" "COMPACT_STRINGS" "Z"
  intro T X eT
  refine Ow.if_eq X hx (pc := 3) (pc' := 13) (hb hby d12_3) (by decide) (by decide) (fun q => absurd q hz) (fun h3 => ?_)
  refine Ow.aloadN X hx (pc := 6) (hb hby d12_6) rfl rfl ?_
  refine Ow.getfield X hx hZ hown (ww hw 25 rfl) Via.refl eT C0 (pc := 7) (hb hby d12_7) ?_   -- "java/lang/String" "coder" "B"
  intro T X eT
  refine Ow.goto X hx (pc := 10) (pc' := 14) (hb hby d12_10) (by decide) (by decide) ?_
  exact Ow.nreturn X hx hlk hret (Or.inr (Or.inl rfl)) (hb hby d12_14) ⟨rfl, eT, rfl⟩ (by decide) (by decide)
theorem d10_0 : decode jdk_42_method_154_code 0 = .ok (.getstatic 38, 3) := by decide +kernel
theorem d10_3 : decode jdk_42_method_154_code 3 = .ok (.ifCond .eq 14, 3) := by decide +kernel
theorem d10_6 : decode jdk_42_method_154_code 6 = .ok (.aload_n 0, 1) := by decide +kernel
theorem d10_7 : decode jdk_42_method_154_code 7 = .ok (.getfield 15, 3) := by decide +kernel
theorem d10_10 : decode jdk_42_method_154_code 10 = .ok (.ifCond .ne 7, 3) := by decide +kernel
theorem d10_13 : decode jdk_42_method_154_code 13 = .ok (.iconst 1, 1) := by decide +kernel
theorem d10_14 : decode jdk_42_method_154_code 14 = .ok (.goto 4, 3) := by decide +kernel
theorem d10_17 : decode jdk_42_method_154_code 17 = .ok (.iconst 0, 1) := by decide +kernel
theorem d10_18 : decode jdk_42_method_154_code 18 = .ok (.ireturn, 1) := by decide +kernel
set_option maxRecDepth 65536 in
set_option maxHeartbeats 4000000 in
theorem c_isLatin1 (l : Launch) (Z : State) (a0 : Array Value) (hw : ∀ d ∈ tables_1, d.before a0 Z = true) (h0 : Heap) (z : Int32) (x : Addr) (S : Sta Z h0 "java/lang/String" "COMPACT_STRINGS" "Z" (.int z)) (hz : ¬ z = 0) (C0 : Fld Z h0 x "java/lang/String" "coder" "B" (.int 0)) : Ow.Pay l Z (⟨"java/lang/String", "isLatin1", "()Z"⟩ : MethodName) jdk_42_method_154_code 1 (some .boolean) ({ frames := 0, cells := 0, slots := 0, locals := 0 } : Room) #[(.ref x)] h0 (fun v h L => v = some (.int 1) ∧ h = h0 ∧ L = []) := by
  refine Ow.Pay.of (Ls := #[.val (.ref x)]) (plainFor_of_name pn0) (fun m => by first | rfl | (simp [entryFrame, mkF, argsToLocals, Value.category]; done)) ?_
  intro p e s m below meth c T hx hby hml hown hnm hme hZ hret hlk X eT
  refine Ow.getstatic X hx hZ hown (ww hw 54 rfl) Via.refl eT S (pc := 0) (hb hby d10_0) ?_   -- "java/lang/String" "COMPACT_STRINGS" "Z"
  intro T X eT
  refine Ow.if_eq X hx (pc := 3) (pc' := 17) (hb hby d10_3) (by decide) (by decide) (fun q => absurd q hz) (fun h3 => ?_)
  refine Ow.aloadN X hx (pc := 6) (hb hby d10_6) rfl rfl ?_
  refine Ow.getfield X hx hZ hown (ww hw 25 rfl) Via.refl eT C0 (pc := 7) (hb hby d10_7) ?_   -- "java/lang/String" "coder" "B"
  intro T X eT
  refine Ow.if_ne X hx (pc := 10) (pc' := 17) (hb hby d10_10) (by decide) (by decide) (fun q => absurd rfl q) (fun h10 => ?_)
  refine Ow.iconst X hx (pc := 13) (1) (hb hby d10_13) (by decide) ?_
  refine Ow.goto X hx (pc := 14) (pc' := 18) (hb hby d10_14) (by decide) (by decide) ?_
  exact Ow.nreturn X hx hlk hret (Or.inl rfl) (hb hby d10_18) ⟨rfl, eT, rfl⟩ (by decide) (by decide)
theorem d11_0 : decode jdk_42_method_54_code 0 = .ok (.aload_n 0, 1) := by decide +kernel
theorem d11_1 : decode jdk_42_method_54_code 1 = .ok (.getfield 9, 3) := by decide +kernel
theorem d11_4 : decode jdk_42_method_54_code 4 = .ok (.arraylength, 1) := by decide +kernel
theorem d11_5 : decode jdk_42_method_54_code 5 = .ok (.aload_n 0, 1) := by decide +kernel
theorem d11_6 : decode jdk_42_method_54_code 6 = .ok (.invokevirtual 335, 3) := by decide +kernel
theorem d11_9 : decode jdk_42_method_54_code 9 = .ok (.ishr, 1) := by decide +kernel
theorem d11_10 : decode jdk_42_method_54_code 10 = .ok (.ireturn, 1) := by decide +kernel
set_option maxRecDepth 65536 in
set_option maxHeartbeats 4000000 in
theorem c_length (l : Launch) (Z : State) (a0 : Array Value) (hw : ∀ d ∈ tables_1, d.before a0 Z = true) (h0 : Heap) (z : Int32) (x t : Addr) (kb : ClassId) (bs : List Int32) (S : Sta Z h0 "java/lang/String" "COMPACT_STRINGS" "Z" (.int z)) (hz : ¬ z = 0) (St : Ow.Str Z h0 x t kb bs) : Ow.Pay l Z (⟨"java/lang/String", "length", "()I"⟩ : MethodName) jdk_42_method_54_code 1 (some .int) ({ frames := 1, cells := 0, slots := 0, locals := 13 } : Room) #[(.ref x)] h0 (fun v h L => v = some (.int (Int32.ofNat bs.length)) ∧ h = h0 ∧ L = []) := by
  refine Ow.Pay.of (Ls := #[.val (.ref x)]) (plainFor_of_name pn0) (fun m => by first | rfl | (simp [entryFrame, mkF, argsToLocals, Value.category]; done)) ?_
  intro p e s m below meth c T hx hby hml hown hnm hme hZ hret hlk X eT
  refine Ow.aloadN X hx (pc := 0) (hb hby d11_0) rfl rfl ?_
  refine Ow.getfield X hx hZ hown (ww hw 24 rfl) Via.refl eT St.2.2.1 (pc := 1) (hb hby d11_1) ?_   -- "java/lang/String" "value" "[B"
  intro T X eT
  refine Ow.lengthL X hx hZ eT St.2.2.2 (Int32.ofNat bs.length) (by rw [List.length_map]) (pc := 4) (hb hby d11_4) ?_
  refine Ow.aloadN X hx (pc := 5) (hb hby d11_5) rfl rfl ?_
  refine Ow.callVP X hx hZ (c_coder l Z a0 hw h0 z x S hz St.2.1) rfl rfl eT hown (ww hw 60 rfl) (ww hw 61 rfl) (ww hw 63 rfl) (ww hw 62 rfl) (ww hw 7 rfl) (ww hw 64 rfl) (by decide) pd0 (by rw [hml]; rfl) St.1 (argsL := []) rfl rfl rfl (pc := 6) (hb hby d11_6) rfl rfl (by decide) (by decide) ?_   -- java/lang/String.coder:()B
  intro T X eT
  dsimp only [Option.toList_some, Option.toList_none, List.cons_append, List.nil_append]
  refine Ow.ishr X hx (pc := 9) (hb hby d11_9) ?_
  exact Ow.ireturn X hx hlk hret (hb hby d11_10) ⟨by rw [Ow.shr0], eT, rfl⟩ (by decide) (by decide)
theorem d15_0 : decode jdk_29_method_65_code 0 = .ok (.iload_n 0, 1) := by decide +kernel
theorem d15_1 : decode jdk_29_method_65_code 1 = .ok (.iload_n 1, 1) := by decide +kernel
theorem d15_2 : decode jdk_29_method_65_code 2 = .ok (.if_icmp .lt 7, 3) := by decide +kernel
theorem d15_5 : decode jdk_29_method_65_code 5 = .ok (.iload_n 0, 1) := by decide +kernel
theorem d15_6 : decode jdk_29_method_65_code 6 = .ok (.goto 4, 3) := by decide +kernel
theorem d15_9 : decode jdk_29_method_65_code 9 = .ok (.iload_n 1, 1) := by decide +kernel
theorem d15_10 : decode jdk_29_method_65_code 10 = .ok (.ireturn, 1) := by decide +kernel
set_option maxRecDepth 65536 in
set_option maxHeartbeats 4000000 in
theorem c_max (l : Launch) (Z : State) (a0 : Array Value) (hw : ∀ d ∈ tables_1, d.before a0 Z = true) (h0 : Heap) (a b : Int32) : Ow.Pay l Z (⟨"java/lang/Math", "max", "(II)I"⟩ : MethodName) jdk_29_method_65_code 2 (some .int) ({ frames := 0, cells := 0, slots := 0, locals := 0 } : Room) #[(.int a), (.int b)] h0 (fun v h L => v = some (.int (if a < b then b else a)) ∧ h = h0 ∧ L = []) := by
  refine Ow.Pay.of (Ls := #[.val (.int a), .val (.int b)]) (Jvm.Free.JP.mathPlain rfl (by decide)) (fun m => by first | rfl | (simp [entryFrame, mkF, argsToLocals, Value.category]; done)) ?_
  intro p e s m below meth c T hx hby hml hown hnm hme hZ hret hlk X eT
  refine Ow.iloadN X hx (pc := 0) (hb hby d15_0) rfl ?_
  refine Ow.iloadN X hx (pc := 1) (hb hby d15_1) rfl ?_
  refine Ow.icmp_lt X hx (pc := 2) (pc' := 9) (hb hby d15_2) (by decide) (by decide) (fun h2 => ?_) (fun h2 => ?_)
  · refine Ow.iloadN X hx (pc := 9) (hb hby d15_9) rfl ?_
    exact Ow.ireturn X hx hlk hret (hb hby d15_10) ⟨by simp [h2], eT, rfl⟩ (by decide) (by decide)
  · refine Ow.iloadN X hx (pc := 5) (hb hby d15_5) rfl ?_
    refine Ow.goto X hx (pc := 6) (pc' := 10) (hb hby d15_6) (by decide) (by decide) ?_
    exact Ow.ireturn X hx hlk hret (hb hby d15_10) ⟨by simp [h2], eT, rfl⟩ (by decide) (by decide)
theorem d16_0 : decode jdk_29_method_69_code 0 = .ok (.iload_n 0, 1) := by decide +kernel
theorem d16_1 : decode jdk_29_method_69_code 1 = .ok (.iload_n 1, 1) := by decide +kernel
theorem d16_2 : decode jdk_29_method_69_code 2 = .ok (.if_icmp .gt 7, 3) := by decide +kernel
theorem d16_5 : decode jdk_29_method_69_code 5 = .ok (.iload_n 0, 1) := by decide +kernel
theorem d16_6 : decode jdk_29_method_69_code 6 = .ok (.goto 4, 3) := by decide +kernel
theorem d16_9 : decode jdk_29_method_69_code 9 = .ok (.iload_n 1, 1) := by decide +kernel
theorem d16_10 : decode jdk_29_method_69_code 10 = .ok (.ireturn, 1) := by decide +kernel
set_option maxRecDepth 65536 in
set_option maxHeartbeats 4000000 in
theorem c_min (l : Launch) (Z : State) (a0 : Array Value) (hw : ∀ d ∈ tables_1, d.before a0 Z = true) (h0 : Heap) (a b : Int32) : Ow.Pay l Z (⟨"java/lang/Math", "min", "(II)I"⟩ : MethodName) jdk_29_method_69_code 2 (some .int) ({ frames := 0, cells := 0, slots := 0, locals := 0 } : Room) #[(.int a), (.int b)] h0 (fun v h L => v = some (.int (if b < a then b else a)) ∧ h = h0 ∧ L = []) := by
  refine Ow.Pay.of (Ls := #[.val (.int a), .val (.int b)]) (Jvm.Free.JP.mathPlain rfl (by decide)) (fun m => by first | rfl | (simp [entryFrame, mkF, argsToLocals, Value.category]; done)) ?_
  intro p e s m below meth c T hx hby hml hown hnm hme hZ hret hlk X eT
  refine Ow.iloadN X hx (pc := 0) (hb hby d16_0) rfl ?_
  refine Ow.iloadN X hx (pc := 1) (hb hby d16_1) rfl ?_
  refine Ow.icmp_gt X hx (pc := 2) (pc' := 9) (hb hby d16_2) (by decide) (by decide) (fun h2 => ?_) (fun h2 => ?_)
  · refine Ow.iloadN X hx (pc := 9) (hb hby d16_9) rfl ?_
    exact Ow.ireturn X hx hlk hret (hb hby d16_10) ⟨by simp [h2], eT, rfl⟩ (by decide) (by decide)
  · refine Ow.iloadN X hx (pc := 5) (hb hby d16_5) rfl ?_
    refine Ow.goto X hx (pc := 6) (pc' := 10) (hb hby d16_6) (by decide) (by decide) ?_
    exact Ow.ireturn X hx hlk hret (hb hby d16_10) ⟨by simp [h2], eT, rfl⟩ (by decide) (by decide)
theorem d14_0 : decode jdk_43_method_4_code 0 = .ok (.iload_n 0, 1) := by decide +kernel
theorem d14_1 : decode jdk_43_method_4_code 1 = .ok (.ifCond .lt 14, 3) := by decide +kernel
theorem d14_4 : decode jdk_43_method_4_code 4 = .ok (.iload_n 0, 1) := by decide +kernel
theorem d14_5 : decode jdk_43_method_4_code 5 = .ok (.sipush 255, 3) := by decide +kernel
theorem d14_8 : decode jdk_43_method_4_code 8 = .ok (.if_icmp .gt 7, 3) := by decide +kernel
theorem d14_11 : decode jdk_43_method_4_code 11 = .ok (.iconst 1, 1) := by decide +kernel
theorem d14_12 : decode jdk_43_method_4_code 12 = .ok (.goto 4, 3) := by decide +kernel
theorem d14_15 : decode jdk_43_method_4_code 15 = .ok (.iconst 0, 1) := by decide +kernel
theorem d14_16 : decode jdk_43_method_4_code 16 = .ok (.ireturn, 1) := by decide +kernel
set_option maxRecDepth 65536 in
set_option maxHeartbeats 4000000 in
theorem c_canEncode (l : Launch) (Z : State) (a0 : Array Value) (hw : ∀ d ∈ tables_1, d.before a0 Z = true) (h0 : Heap) : Ow.Pay l Z (⟨"java/lang/StringLatin1", "canEncode", "(I)Z"⟩ : MethodName) jdk_43_method_4_code 1 (some .boolean) ({ frames := 0, cells := 0, slots := 0, locals := 0 } : Room) #[(.int 47)] h0 (fun v h L => v = some (.int 1) ∧ h = h0 ∧ L = []) := by
  refine Ow.Pay.of (Ls := #[.val (.int 47)]) (plainFor_of_name pn1) (fun m => by first | rfl | (simp [entryFrame, mkF, argsToLocals, Value.category]; done)) ?_
  intro p e s m below meth c T hx hby hml hown hnm hme hZ hret hlk X eT
  refine Ow.iloadN X hx (pc := 0) (hb hby d14_0) rfl ?_
  refine Ow.if_lt X hx (pc := 1) (pc' := 15) (hb hby d14_1) (by decide) (by decide) (fun q => absurd q (by decide)) (fun h1 => ?_)
  refine Ow.iloadN X hx (pc := 4) (hb hby d14_4) rfl ?_
  refine Ow.sipush X hx (pc := 5) (255) (hb hby d14_5) (by decide) ?_
  refine Ow.icmp_gt X hx (pc := 8) (pc' := 15) (hb hby d14_8) (by decide) (by decide) (fun q => absurd q (by decide)) (fun h8 => ?_)
  refine Ow.iconst X hx (pc := 11) (1) (hb hby d14_11) (by decide) ?_
  refine Ow.goto X hx (pc := 12) (pc' := 16) (hb hby d14_12) (by decide) (by decide) ?_
  exact Ow.nreturn X hx hlk hret (Or.inl rfl) (hb hby d14_16) ⟨rfl, eT, rfl⟩ (by decide) (by decide)
/-- the first place from i on, of f places, that holds c; -1 if none -/
def own_ix (c : Int32) (bs : List Int32) : Nat → Nat → Int32
  | _, 0 => -1
  | i, f + 1 => if bs.getD i 0 = c then Int32.ofNat i else own_ix c bs (i + 1) f
theorem own_ix_succ (c : Int32) (bs : List Int32) (i f : Nat) : own_ix c bs i (f + 1) = if bs.getD i 0 = c then Int32.ofNat i else own_ix c bs (i + 1) f := rfl
def own_ixs (c : Int32) (bs : List Int32) (fr : Nat) : Int32 := own_ix c bs fr (bs.length - fr)
theorem own_ix_cases (c : Int32) (bs : List Int32) : ∀ (f i : Nat), own_ix c bs i f = -1 ∨ ∃ k, i ≤ k ∧ k < i + f ∧ own_ix c bs i f = Int32.ofNat k
  | 0, i => Or.inl rfl
  | f + 1, i => by
    unfold own_ix
    by_cases h : bs.getD i 0 = c
    · rw [if_pos h]; exact Or.inr ⟨i, by omega, by omega, rfl⟩
    · rw [if_neg h]
      rcases own_ix_cases c bs f (i + 1) with q | ⟨k, h1, h2, h3⟩
      · exact Or.inl q
      · exact Or.inr ⟨k, by omega, by omega, h3⟩
theorem d22_0 : decode jdk_43_method_23_code 0 = .ok (.iload_n 1, 1) := by decide +kernel
theorem d22_1 : decode jdk_43_method_23_code 1 = .ok (.i2b, 1) := by decide +kernel
theorem d22_2 : decode jdk_43_method_23_code 2 = .ok (.istore 4, 2) := by decide +kernel
theorem d22_4 : decode jdk_43_method_23_code 4 = .ok (.iload_n 2, 1) := by decide +kernel
theorem d22_5 : decode jdk_43_method_23_code 5 = .ok (.istore 5, 2) := by decide +kernel
theorem d22_7 : decode jdk_43_method_23_code 7 = .ok (.iload 5, 2) := by decide +kernel
theorem d22_9 : decode jdk_43_method_23_code 9 = .ok (.iload_n 3, 1) := by decide +kernel
theorem d22_10 : decode jdk_43_method_23_code 10 = .ok (.if_icmp .ge 21, 3) := by decide +kernel
theorem d22_13 : decode jdk_43_method_23_code 13 = .ok (.aload_n 0, 1) := by decide +kernel
theorem d22_14 : decode jdk_43_method_23_code 14 = .ok (.iload 5, 2) := by decide +kernel
theorem d22_16 : decode jdk_43_method_23_code 16 = .ok (.baload, 1) := by decide +kernel
theorem d22_17 : decode jdk_43_method_23_code 17 = .ok (.iload 4, 2) := by decide +kernel
theorem d22_19 : decode jdk_43_method_23_code 19 = .ok (.if_icmp .ne 6, 3) := by decide +kernel
theorem d22_22 : decode jdk_43_method_23_code 22 = .ok (.iload 5, 2) := by decide +kernel
theorem d22_24 : decode jdk_43_method_23_code 24 = .ok (.ireturn, 1) := by decide +kernel
theorem d22_25 : decode jdk_43_method_23_code 25 = .ok (.iinc 5 1, 3) := by decide +kernel
theorem d22_28 : decode jdk_43_method_23_code 28 = .ok (.goto (-21), 3) := by decide +kernel
theorem d22_31 : decode jdk_43_method_23_code 31 = .ok (.iconst (-1), 1) := by decide +kernel
theorem d22_32 : decode jdk_43_method_23_code 32 = .ok (.ireturn, 1) := by decide +kernel
set_option maxRecDepth 65536 in
set_option maxHeartbeats 4000000 in
theorem c_indexOfChar (l : Launch) (Z : State) (a0 : Array Value) (hw : ∀ d ∈ tables_1, d.before a0 Z = true) (h0 : Heap) (t : Addr) (kb : ClassId) (bs : List Int32) (fr to : Nat) (A : Ow.AL Z h0 t kb .byte (bs.map Value.int)) (hfr : fr ≤ to) (hto : to ≤ bs.length) (hbig : bs.length < 2147483648) : Ow.Pay l Z (⟨"java/lang/StringLatin1", "indexOfChar", "([BIII)I"⟩ : MethodName) jdk_43_method_23_code 6 (some .int) ({ frames := 0, cells := 0, slots := 0, locals := 0 } : Room) #[(.ref t), (.int 47), (.int (Int32.ofNat fr)), (.int (Int32.ofNat to))] h0 (fun v h L => v = some (.int (own_ix 47 bs fr (to - fr))) ∧ h = h0 ∧ L = []) := by
  refine Ow.Pay.of (Ls := #[.val (.ref t), .val (.int 47), .val (.int (Int32.ofNat fr)), .val (.int (Int32.ofNat to)), .unset, .unset]) (plainFor_of_name pn1) (fun m => by first | rfl | (simp [entryFrame, mkF, argsToLocals, Value.category]; done)) ?_
  intro p e s m below meth c T hx hby hml hown hnm hme hZ hret hlk X eT
  have lp : ∀ (f i : Nat), i + f = to → own_ix 47 bs fr (to - fr) = own_ix 47 bs i f → ∀ T, Stand p l e ({ frames := 0, cells := 0, slots := 0, locals := 0 } : Room) s m #[(.ref t), (.int 47), (.int (Int32.ofNat fr)), (.int (Int32.ofNat to))] below meth c T [] 0 0 → T.heap = h0 → Go p.tables e below (Ow.EndN s (fun v h L => v = some (.int (own_ix 47 bs fr (to - fr))) ∧ h = h0 ∧ L = []) 0 0) (T.setTop (mkF m 7 #[.val (.ref t), .val (.int 47), .val (.int (Int32.ofNat fr)), .val (.int (Int32.ofNat to)), .val (.int 47), .val (.int (Int32.ofNat i))] [])) := by
    intro f
    induction f with
    | zero =>
      intro i hi hv T X eT
      refine Ow.iload X hx (pc := 7) (hb hby d22_7) rfl ?_
      refine Ow.iloadN X hx (pc := 9) (hb hby d22_9) rfl ?_
      refine Ow.icmp_ge X hx (pc := 10) (pc' := 31) (hb hby d22_10) (by decide) (by decide) (fun h10 => ?_) (fun q => absurd ((Ow.n_lt (by omega) (by omega)).mp q) (by omega))
      refine Ow.iconst X hx (pc := 31) (-1) (hb hby d22_31) (by decide) ?_
      exact Ow.ireturn X hx hlk hret (hb hby d22_32) ⟨by rw [hv]; rfl, eT, rfl⟩ (by decide) (by decide)
    | succ f ih =>
      intro i hi hv T X eT
      have hib : i < bs.length := by omega
      have hg : (bs.map Value.int)[i]? = some (.int (bs.getD i 0)) := by simp [hib]
      rw [own_ix_succ] at hv
      refine Ow.iload X hx (pc := 7) (hb hby d22_7) rfl ?_
      refine Ow.iloadN X hx (pc := 9) (hb hby d22_9) rfl ?_
      refine Ow.icmp_ge X hx (pc := 10) (pc' := 31) (hb hby d22_10) (by decide) (by decide) (fun q => absurd ((Ow.n_lt (by omega) (by omega)).mpr (show i < to by omega)) q) (fun h10 => ?_)
      refine Ow.aloadN X hx (pc := 13) (hb hby d22_13) rfl rfl ?_
      refine Ow.iload X hx (pc := 14) (hb hby d22_14) rfl ?_
      refine Ow.baloadL X hx hZ eT A i (.int (bs.getD i 0)) (Ow.n_nn (by omega)) (Ow.n_cl (by omega)) hg (pc := 16) (hb hby d22_16) ?_
      refine Ow.iload X hx (pc := 17) (hb hby d22_17) rfl ?_
      refine Ow.icmp_ne X hx (pc := 19) (pc' := 25) (hb hby d22_19) (by decide) (by decide) (fun h19 => ?_) (fun h19 => ?_)
      · refine Ow.iinc X hx (pc := 25) 1 #[_, _, _, _, _, _] (hb hby d22_25) (by decide) rfl rfl ?_
        rw [Ow.n_one]
        refine Ow.goto X hx (pc := 28) (pc' := 7) (hb hby d22_28) (by decide) (by decide) ?_
        rw [if_neg h19] at hv
        exact ih (i + 1) (by omega) hv T X eT
      · refine Ow.iload X hx (pc := 22) (hb hby d22_22) rfl ?_
        exact Ow.ireturn X hx hlk hret (hb hby d22_24) ⟨by rw [hv, if_pos h19], eT, rfl⟩ (by decide) (by decide)
  refine Ow.iloadN X hx (pc := 0) (hb hby d22_0) rfl ?_
  refine Ow.i2b X hx (pc := 1) (hb hby d22_1) ?_
  rw [show (47 : Int32).toInt8.toInt32 = 47 from by decide]
  refine Ow.istore X hx (pc := 2) #[_, _, _, _, _, _] (hb hby d22_2) rfl ?_
  refine Ow.iloadN X hx (pc := 4) (hb hby d22_4) rfl ?_
  refine Ow.istore X hx (pc := 5) #[_, _, _, _, _, _] (hb hby d22_5) rfl ?_
  exact lp (to - fr) fr (by omega) rfl T X eT
theorem d13_0 : decode jdk_43_method_22_code 0 = .ok (.iload_n 1, 1) := by decide +kernel
theorem d13_1 : decode jdk_43_method_22_code 1 = .ok (.invokestatic 88, 3) := by decide +kernel
theorem d13_4 : decode jdk_43_method_22_code 4 = .ok (.ifCond .ne 5, 3) := by decide +kernel
theorem d13_7 : decode jdk_43_method_22_code 7 = .ok (.iconst (-1), 1) := by decide +kernel
theorem d13_8 : decode jdk_43_method_22_code 8 = .ok (.ireturn, 1) := by decide +kernel
theorem d13_9 : decode jdk_43_method_22_code 9 = .ok (.iload_n 2, 1) := by decide +kernel
theorem d13_10 : decode jdk_43_method_22_code 10 = .ok (.iconst 0, 1) := by decide +kernel
theorem d13_11 : decode jdk_43_method_22_code 11 = .ok (.invokestatic 92, 3) := by decide +kernel
theorem d13_14 : decode jdk_43_method_22_code 14 = .ok (.istore_n 2, 1) := by decide +kernel
theorem d13_15 : decode jdk_43_method_22_code 15 = .ok (.iload_n 3, 1) := by decide +kernel
theorem d13_16 : decode jdk_43_method_22_code 16 = .ok (.aload_n 0, 1) := by decide +kernel
theorem d13_17 : decode jdk_43_method_22_code 17 = .ok (.arraylength, 1) := by decide +kernel
theorem d13_18 : decode jdk_43_method_22_code 18 = .ok (.invokestatic 38, 3) := by decide +kernel
theorem d13_21 : decode jdk_43_method_22_code 21 = .ok (.istore_n 3, 1) := by decide +kernel
theorem d13_22 : decode jdk_43_method_22_code 22 = .ok (.iload_n 2, 1) := by decide +kernel
theorem d13_23 : decode jdk_43_method_22_code 23 = .ok (.iload_n 3, 1) := by decide +kernel
theorem d13_24 : decode jdk_43_method_22_code 24 = .ok (.if_icmp .lt 5, 3) := by decide +kernel
theorem d13_27 : decode jdk_43_method_22_code 27 = .ok (.iconst (-1), 1) := by decide +kernel
theorem d13_28 : decode jdk_43_method_22_code 28 = .ok (.ireturn, 1) := by decide +kernel
theorem d13_29 : decode jdk_43_method_22_code 29 = .ok (.aload_n 0, 1) := by decide +kernel
theorem d13_30 : decode jdk_43_method_22_code 30 = .ok (.iload_n 1, 1) := by decide +kernel
theorem d13_31 : decode jdk_43_method_22_code 31 = .ok (.iload_n 2, 1) := by decide +kernel
theorem d13_32 : decode jdk_43_method_22_code 32 = .ok (.iload_n 3, 1) := by decide +kernel
theorem d13_33 : decode jdk_43_method_22_code 33 = .ok (.invokestatic 95, 3) := by decide +kernel
theorem d13_36 : decode jdk_43_method_22_code 36 = .ok (.ireturn, 1) := by decide +kernel
set_option maxRecDepth 65536 in
set_option maxHeartbeats 4000000 in
theorem c_latIndexOf (l : Launch) (Z : State) (a0 : Array Value) (hw : ∀ d ∈ tables_1, d.before a0 Z = true) (h0 : Heap) (t : Addr) (kb : ClassId) (bs : List Int32) (fr : Nat) (A : Ow.AL Z h0 t kb .byte (bs.map Value.int)) (hfr : fr ≤ bs.length) (hbig : bs.length < 2147483648) : Ow.Pay l Z (⟨"java/lang/StringLatin1", "indexOf", "([BIII)I"⟩ : MethodName) jdk_43_method_22_code 4 (some .int) ({ frames := 1, cells := 0, slots := 0, locals := 17 } : Room) #[(.ref t), (.int 47), (.int (Int32.ofNat fr)), (.int (Int32.ofNat bs.length))] h0 (fun v h L => v = some (.int (own_ixs 47 bs fr)) ∧ h = h0 ∧ L = []) := by
  refine Ow.Pay.of (Ls := #[.val (.ref t), .val (.int 47), .val (.int (Int32.ofNat fr)), .val (.int (Int32.ofNat bs.length))]) (plainFor_of_name pn1) (fun m => by first | rfl | (simp [entryFrame, mkF, argsToLocals, Value.category]; done)) ?_
  intro p e s m below meth c T hx hby hml hown hnm hme hZ hret hlk X eT
  refine Ow.iloadN X hx (pc := 0) (hb hby d13_0) rfl ?_
  refine Ow.callSP X hx hZ (c_canEncode l Z a0 hw h0) rfl rfl eT hown (ww hw 69 rfl) (ww hw 70 rfl) (ww hw 67 rfl) (ww hw 71 rfl) (by decide) pd1 (by rw [hml]; rfl) (argsL := [_]) rfl rfl rfl (pc := 1) (hb hby d13_1) rfl rfl (by decide) (by decide) ?_   -- java/lang/StringLatin1.canEncode:(I)Z
  intro T X eT
  dsimp only [Option.toList_some, Option.toList_none, List.cons_append, List.nil_append]
  refine Ow.if_ne X hx (pc := 4) (pc' := 9) (hb hby d13_4) (by decide) (by decide) (fun h4 => ?_) (fun q => absurd q (by decide))
  refine Ow.iloadN X hx (pc := 9) (hb hby d13_9) rfl ?_
  refine Ow.iconst X hx (pc := 10) (0) (hb hby d13_10) (by decide) ?_
  refine Ow.callSP X hx hZ (c_max l Z a0 hw h0 _ _) rfl rfl eT hown (ww hw 72 rfl) (ww hw 73 rfl) (ww hw 74 rfl) (ww hw 75 rfl) (by decide) pd2 (by rw [hml]; rfl) (argsL := [_, _]) rfl rfl rfl (pc := 11) (hb hby d13_11) rfl rfl (by decide) (by decide) ?_   -- java/lang/Math.max:(II)I
  intro T X eT
  dsimp only [Option.toList_some, Option.toList_none, List.cons_append, List.nil_append]
  rw [if_neg (Ow.n_nn (by omega))]
  refine Ow.istoreN X hx (pc := 14) #[_, _, _, _] (hb hby d13_14) rfl ?_
  refine Ow.iloadN X hx (pc := 15) (hb hby d13_15) rfl ?_
  refine Ow.aloadN X hx (pc := 16) (hb hby d13_16) rfl rfl ?_
  refine Ow.lengthL X hx hZ eT A (Int32.ofNat bs.length) (by rw [List.length_map]) (pc := 17) (hb hby d13_17) ?_
  refine Ow.callSP X hx hZ (c_min l Z a0 hw h0 _ _) rfl rfl eT hown (ww hw 76 rfl) (ww hw 77 rfl) (ww hw 74 rfl) (ww hw 78 rfl) (by decide) pd2 (by rw [hml]; rfl) (argsL := [_, _]) rfl rfl rfl (pc := 18) (hb hby d13_18) rfl rfl (by decide) (by decide) ?_   -- java/lang/Math.min:(II)I
  intro T X eT
  dsimp only [Option.toList_some, Option.toList_none, List.cons_append, List.nil_append]
  rw [if_neg Int32.lt_irrefl]
  refine Ow.istoreN X hx (pc := 21) #[_, _, _, _] (hb hby d13_21) rfl ?_
  refine Ow.iloadN X hx (pc := 22) (hb hby d13_22) rfl ?_
  refine Ow.iloadN X hx (pc := 23) (hb hby d13_23) rfl ?_
  refine Ow.icmp_lt X hx (pc := 24) (pc' := 29) (hb hby d13_24) (by decide) (by decide) (fun h24 => ?_) (fun h24 => ?_)
  · refine Ow.aloadN X hx (pc := 29) (hb hby d13_29) rfl rfl ?_
    refine Ow.iloadN X hx (pc := 30) (hb hby d13_30) rfl ?_
    refine Ow.iloadN X hx (pc := 31) (hb hby d13_31) rfl ?_
    refine Ow.iloadN X hx (pc := 32) (hb hby d13_32) rfl ?_
    refine Ow.callSP X hx hZ (c_indexOfChar l Z a0 hw h0 t kb bs fr bs.length A (by omega) (Nat.le_refl _) hbig) rfl rfl eT hown (ww hw 102 rfl) (ww hw 103 rfl) (ww hw 67 rfl) (ww hw 104 rfl) (by decide) pd3 (by rw [hml]; rfl) (argsL := [_, _, _, _]) rfl rfl rfl (pc := 33) (hb hby d13_33) rfl rfl (by decide) (by decide) ?_   -- java/lang/StringLatin1.indexOfChar:([BIII)I
    intro T X eT
    dsimp only [Option.toList_some, Option.toList_none, List.cons_append, List.nil_append]
    exact Ow.ireturn X hx hlk hret (hb hby d13_36) ⟨rfl, eT, rfl⟩ (by decide) (by decide)
  · refine Ow.iconst X hx (pc := 27) (-1) (hb hby d13_27) (by decide) ?_
    refine Ow.ireturn X hx hlk hret (hb hby d13_28) ⟨?_, eT, rfl⟩ (by decide) (by decide)
    have hq : bs.length - fr = 0 := by have : ¬ fr < bs.length := fun r => h24 ((Ow.n_lt (by omega) (by omega)).mpr r); omega
    unfold own_ixs; rw [hq]; rfl
theorem d9_0 : decode jdk_42_method_80_code 0 = .ok (.aload_n 0, 1) := by decide +kernel
theorem d9_1 : decode jdk_42_method_80_code 1 = .ok (.invokevirtual 492, 3) := by decide +kernel
theorem d9_4 : decode jdk_42_method_80_code 4 = .ok (.ifCond .eq 19, 3) := by decide +kernel
theorem d9_7 : decode jdk_42_method_80_code 7 = .ok (.aload_n 0, 1) := by decide +kernel
theorem d9_8 : decode jdk_42_method_80_code 8 = .ok (.getfield 9, 3) := by decide +kernel
theorem d9_11 : decode jdk_42_method_80_code 11 = .ok (.iload_n 1, 1) := by decide +kernel
theorem d9_12 : decode jdk_42_method_80_code 12 = .ok (.iload_n 2, 1) := by decide +kernel
theorem d9_13 : decode jdk_42_method_80_code 13 = .ok (.aload_n 0, 1) := by decide +kernel
theorem d9_14 : decode jdk_42_method_80_code 14 = .ok (.invokevirtual 505, 3) := by decide +kernel
theorem d9_17 : decode jdk_42_method_80_code 17 = .ok (.invokestatic 637, 3) := by decide +kernel
theorem d9_20 : decode jdk_42_method_80_code 20 = .ok (.goto 16, 3) := by decide +kernel
theorem d9_23 : decode jdk_42_method_80_code 23 = .ok (.aload_n 0, 1) := by decide +kernel
theorem d9_24 : decode jdk_42_method_80_code 24 = .ok (.getfield 9, 3) := by decide +kernel
theorem d9_27 : decode jdk_42_method_80_code 27 = .ok (.iload_n 1, 1) := by decide +kernel
theorem d9_28 : decode jdk_42_method_80_code 28 = .ok (.iload_n 2, 1) := by decide +kernel
theorem d9_29 : decode jdk_42_method_80_code 29 = .ok (.aload_n 0, 1) := by decide +kernel
theorem d9_30 : decode jdk_42_method_80_code 30 = .ok (.invokevirtual 505, 3) := by decide +kernel
theorem d9_33 : decode jdk_42_method_80_code 33 = .ok (.invokestatic 640, 3) := by decide +kernel
theorem d9_36 : decode jdk_42_method_80_code 36 = .ok (.ireturn, 1) := by decide +kernel
set_option maxRecDepth 65536 in
set_option maxHeartbeats 4000000 in
theorem c_indexOf2 (l : Launch) (Z : State) (a0 : Array Value) (hw : ∀ d ∈ tables_1, d.before a0 Z = true) (h0 : Heap) (z : Int32) (x t : Addr) (kb : ClassId) (bs : List Int32) (fr : Nat) (S : Sta Z h0 "java/lang/String" "COMPACT_STRINGS" "Z" (.int z)) (hz : ¬ z = 0) (St : Ow.Str Z h0 x t kb bs) (hfr : fr ≤ bs.length) (hbig : bs.length < 2147483648) : Ow.Pay l Z (⟨"java/lang/String", "indexOf", "(II)I"⟩ : MethodName) jdk_42_method_80_code 3 (some .int) ({ frames := 2, cells := 0, slots := 0, locals := 40 } : Room) #[(.ref x), (.int 47), (.int (Int32.ofNat fr))] h0 (fun v h L => v = some (.int (own_ixs 47 bs fr)) ∧ h = h0 ∧ L = []) := by
  refine Ow.Pay.of (Ls := #[.val (.ref x), .val (.int 47), .val (.int (Int32.ofNat fr))]) (plainFor_of_name pn0) (fun m => by first | rfl | (simp [entryFrame, mkF, argsToLocals, Value.category]; done)) ?_
  intro p e s m below meth c T hx hby hml hown hnm hme hZ hret hlk X eT
  refine Ow.aloadN X hx (pc := 0) (hb hby d9_0) rfl rfl ?_
  refine Ow.callVP X hx hZ (c_isLatin1 l Z a0 hw h0 z x S hz St.2.1) rfl rfl eT hown (ww hw 49 rfl) (ww hw 50 rfl) (ww hw 52 rfl) (ww hw 51 rfl) (ww hw 7 rfl) (ww hw 53 rfl) (by decide) pd4 (by rw [hml]; rfl) St.1 (argsL := []) rfl rfl rfl (pc := 1) (hb hby d9_1) rfl rfl (by decide) (by decide) ?_   -- java/lang/String.isLatin1:()Z
  intro T X eT
  dsimp only [Option.toList_some, Option.toList_none, List.cons_append, List.nil_append]
  refine Ow.if_eq X hx (pc := 4) (pc' := 23) (hb hby d9_4) (by decide) (by decide) (fun q => absurd q (by decide)) (fun h4 => ?_)
  refine Ow.aloadN X hx (pc := 7) (hb hby d9_7) rfl rfl ?_
  refine Ow.getfield X hx hZ hown (ww hw 24 rfl) Via.refl eT St.2.2.1 (pc := 8) (hb hby d9_8) ?_   -- "java/lang/String" "value" "[B"
  intro T X eT
  refine Ow.iloadN X hx (pc := 11) (hb hby d9_11) rfl ?_
  refine Ow.iloadN X hx (pc := 12) (hb hby d9_12) rfl ?_
  refine Ow.aloadN X hx (pc := 13) (hb hby d9_13) rfl rfl ?_
  refine Ow.callVP X hx hZ (c_length l Z a0 hw h0 z x t kb bs S hz St) rfl rfl eT hown (ww hw 55 rfl) (ww hw 56 rfl) (ww hw 58 rfl) (ww hw 57 rfl) (ww hw 7 rfl) (ww hw 59 rfl) (by decide) pd5 (by rw [hml]; rfl) St.1 (argsL := []) rfl rfl rfl (pc := 14) (hb hby d9_14) rfl rfl (by decide) (by decide) ?_   -- java/lang/String.length:()I
  intro T X eT
  dsimp only [Option.toList_some, Option.toList_none, List.cons_append, List.nil_append]
  refine Ow.callSP X hx hZ (c_latIndexOf l Z a0 hw h0 t kb bs fr St.2.2.2 hfr hbig) rfl rfl eT hown (ww hw 65 rfl) (ww hw 66 rfl) (ww hw 67 rfl) (ww hw 68 rfl) (by decide) pd3 (by rw [hml]; rfl) (argsL := [_, _, _, _]) rfl rfl rfl (pc := 17) (hb hby d9_17) rfl rfl (by decide) (by decide) ?_   -- java/lang/StringLatin1.indexOf:([BIII)I
  intro T X eT
  dsimp only [Option.toList_some, Option.toList_none, List.cons_append, List.nil_append]
  refine Ow.goto X hx (pc := 20) (pc' := 36) (hb hby d9_20) (by decide) (by decide) ?_
  exact Ow.ireturn X hx hlk hret (hb hby d9_36) ⟨rfl, eT, rfl⟩ (by decide) (by decide)
theorem d8_0 : decode jdk_42_method_79_code 0 = .ok (.aload_n 0, 1) := by decide +kernel
theorem d8_1 : decode jdk_42_method_79_code 1 = .ok (.iload_n 1, 1) := by decide +kernel
theorem d8_2 : decode jdk_42_method_79_code 2 = .ok (.iconst 0, 1) := by decide +kernel
theorem d8_3 : decode jdk_42_method_79_code 3 = .ok (.invokevirtual 633, 3) := by decide +kernel
theorem d8_6 : decode jdk_42_method_79_code 6 = .ok (.ireturn, 1) := by decide +kernel
set_option maxRecDepth 65536 in
set_option maxHeartbeats 4000000 in
theorem c_indexOf1 (l : Launch) (Z : State) (a0 : Array Value) (hw : ∀ d ∈ tables_1, d.before a0 Z = true) (h0 : Heap) (z : Int32) (x t : Addr) (kb : ClassId) (bs : List Int32) (S : Sta Z h0 "java/lang/String" "COMPACT_STRINGS" "Z" (.int z)) (hz : ¬ z = 0) (St : Ow.Str Z h0 x t kb bs) (hbig : bs.length < 2147483648) : Ow.Pay l Z (⟨"java/lang/String", "indexOf", "(I)I"⟩ : MethodName) jdk_42_method_79_code 2 (some .int) ({ frames := 3, cells := 0, slots := 0, locals := 60 } : Room) #[(.ref x), (.int 47)] h0 (fun v h L => v = some (.int (own_ixs 47 bs 0)) ∧ h = h0 ∧ L = []) := by
  refine Ow.Pay.of (Ls := #[.val (.ref x), .val (.int 47)]) (plainFor_of_name pn0) (fun m => by first | rfl | (simp [entryFrame, mkF, argsToLocals, Value.category]; done)) ?_
  intro p e s m below meth c T hx hby hml hown hnm hme hZ hret hlk X eT
  refine Ow.aloadN X hx (pc := 0) (hb hby d8_0) rfl rfl ?_
  refine Ow.iloadN X hx (pc := 1) (hb hby d8_1) rfl ?_
  refine Ow.iconst X hx (pc := 2) (0) (hb hby d8_2) (by decide) ?_
  refine Ow.callVP X hx hZ (c_indexOf2 l Z a0 hw h0 z x t kb bs 0 S hz St (Nat.zero_le _) hbig) rfl rfl eT hown (ww hw 44 rfl) (ww hw 45 rfl) (ww hw 47 rfl) (ww hw 46 rfl) (ww hw 7 rfl) (ww hw 48 rfl) (by decide) pd2 (by rw [hml]; rfl) St.1 (argsL := [_, _]) rfl rfl rfl (pc := 3) (hb hby d8_3) rfl rfl (by decide) (by decide) ?_   -- java/lang/String.indexOf:(II)I
  intro T X eT
  dsimp only [Option.toList_some, Option.toList_none, List.cons_append, List.nil_append]
  exact Ow.ireturn X hx hlk hret (hb hby d8_6) ⟨rfl, eT, rfl⟩ (by decide) (by decide)
theorem d2_0 : decode jdk_42_method_149_code 0 = .ok (.aload_n 0, 1) := by decide +kernel
theorem d2_1 : decode jdk_42_method_149_code 1 = .ok (.invokespecial 1, 3) := by decide +kernel
theorem d2_4 : decode jdk_42_method_149_code 4 = .ok (.iload_n 3, 1) := by decide +kernel
theorem d2_5 : decode jdk_42_method_149_code 5 = .ok (.ifCond .ne 22, 3) := by decide +kernel
theorem d2_8 : decode jdk_42_method_149_code 8 = .ok (.aload_n 0, 1) := by decide +kernel
theorem d2_9 : decode jdk_42_method_149_code 9 = .ok (.ldc 7, 2) := by decide +kernel
theorem d2_11 : decode jdk_42_method_149_code 11 = .ok (.getfield 9, 3) := by decide +kernel
theorem d2_14 : decode jdk_42_method_149_code 14 = .ok (.putfield 9, 3) := by decide +kernel
theorem d2_17 : decode jdk_42_method_149_code 17 = .ok (.aload_n 0, 1) := by decide +kernel
theorem d2_18 : decode jdk_42_method_149_code 18 = .ok (.ldc 7, 2) := by decide +kernel
theorem d2_20 : decode jdk_42_method_149_code 20 = .ok (.getfield 15, 3) := by decide +kernel
theorem d2_23 : decode jdk_42_method_149_code 23 = .ok (.putfield 15, 3) := by decide +kernel
theorem d2_26 : decode jdk_42_method_149_code 26 = .ok (.return_, 1) := by decide +kernel
theorem d2_27 : decode jdk_42_method_149_code 27 = .ok (.getstatic 38, 3) := by decide +kernel
theorem d2_30 : decode jdk_42_method_149_code 30 = .ok (.ifCond .eq 28, 3) := by decide +kernel
theorem d2_33 : decode jdk_42_method_149_code 33 = .ok (.aload_n 1, 1) := by decide +kernel
theorem d2_34 : decode jdk_42_method_149_code 34 = .ok (.iload_n 2, 1) := by decide +kernel
theorem d2_35 : decode jdk_42_method_149_code 35 = .ok (.iload_n 3, 1) := by decide +kernel
theorem d2_36 : decode jdk_42_method_149_code 36 = .ok (.invokestatic 177, 3) := by decide +kernel
theorem d2_39 : decode jdk_42_method_149_code 39 = .ok (.astore 5, 2) := by decide +kernel
theorem d2_41 : decode jdk_42_method_149_code 41 = .ok (.aload_n 0, 1) := by decide +kernel
theorem d2_42 : decode jdk_42_method_149_code 42 = .ok (.aload 5, 2) := by decide +kernel
theorem d2_44 : decode jdk_42_method_149_code 44 = .ok (.iload_n 3, 1) := by decide +kernel
theorem d2_45 : decode jdk_42_method_149_code 45 = .ok (.invokestatic 47, 3) := by decide +kernel
theorem d2_48 : decode jdk_42_method_149_code 48 = .ok (.putfield 15, 3) := by decide +kernel
theorem d2_51 : decode jdk_42_method_149_code 51 = .ok (.aload_n 0, 1) := by decide +kernel
theorem d2_52 : decode jdk_42_method_149_code 52 = .ok (.aload 5, 2) := by decide +kernel
theorem d2_54 : decode jdk_42_method_149_code 54 = .ok (.putfield 9, 3) := by decide +kernel
theorem d2_57 : decode jdk_42_method_149_code 57 = .ok (.return_, 1) := by decide +kernel
theorem d2_58 : decode jdk_42_method_149_code 58 = .ok (.aload_n 0, 1) := by decide +kernel
theorem d2_59 : decode jdk_42_method_149_code 59 = .ok (.iconst 1, 1) := by decide +kernel
theorem d2_60 : decode jdk_42_method_149_code 60 = .ok (.putfield 15, 3) := by decide +kernel
theorem d2_63 : decode jdk_42_method_149_code 63 = .ok (.aload_n 0, 1) := by decide +kernel
theorem d2_64 : decode jdk_42_method_149_code 64 = .ok (.aload_n 1, 1) := by decide +kernel
theorem d2_65 : decode jdk_42_method_149_code 65 = .ok (.iload_n 2, 1) := by decide +kernel
theorem d2_66 : decode jdk_42_method_149_code 66 = .ok (.iload_n 3, 1) := by decide +kernel
theorem d2_67 : decode jdk_42_method_149_code 67 = .ok (.invokestatic 180, 3) := by decide +kernel
theorem d2_70 : decode jdk_42_method_149_code 70 = .ok (.putfield 9, 3) := by decide +kernel
theorem d2_73 : decode jdk_42_method_149_code 73 = .ok (.return_, 1) := by decide +kernel
set_option maxRecDepth 65536 in
set_option maxHeartbeats 4000000 in
theorem c_new4e (l : Launch) (Z : State) (a0 : Array Value) (hw : ∀ d ∈ tables_1, d.before a0 Z = true) (hEL : EW Z a0 EL) (h0 : Heap) (x b : Addr) (v0 c0 : Value) (E : Exa Z h0 x "java/lang/String") (V : Fld Z h0 x "java/lang/String" "value" "[B" v0) (C0 : Fld Z h0 x "java/lang/String" "coder" "B" c0) : Ow.PayW l Z EL [x] (⟨"java/lang/String", "<init>", "([CIILjava/lang/Void;)V"⟩ : MethodName) jdk_42_method_149_code 6 none ({ frames := 1, cells := 4, slots := 8, locals := 40 } : Room) #[(.ref x), (.ref b), (.int 0), (.int 0), (.null)] h0 (fun v h L => v = none ∧ Ow.Eff h0 h [x] L ∧ ∃ t kb, Ow.Str Z h x t kb []) := by
  refine Ow.PayW.of (Ls := #[.val (.ref x), .val (.ref b), .val (.int 0), .val (.int 0), .val (.null), .unset]) (plainFor_of_name pn0) (fun m => by first | rfl | (simp [entryFrame, mkF, argsToLocals, Value.category]; done)) ?_
  intro p e s m below meth c T vm0 hx hby hml hown hnm hme hret hlk X eT D hsf
  have wS : ∀ a ∈ Bundle.stringAtoms, a.before a0 Z = true := fun d hd => hw d ((by decide +kernel : ∀ d ∈ Bundle.stringAtoms, d ∈ tables_1) d hd)
  have hni := (name_of_methodNamed hnm hme).1
  have Sx : Safe Z EL vm0 h0 x := hsf x (by simp)
  have hlt := E.lt
  have hsl : RoadKit.slotOf Z "java/lang/String" "coder" "B" ≠ RoadKit.slotOf Z "java/lang/String" "value" "[B" := slot_ne (a0 := a0) (C := "java/lang/String") (Or.inr (ww hw 21 rfl)) (Or.inr (ww hw 20 rfl)) (by decide) (t := .byte) (t' := .array .byte) (by decide) (by decide)
  refine Ow.aloadN X hx (pc := 0) (hb hby d2_0) rfl rfl ?_
  refine Ow.objinit X hx D.hZ hown (ww hw 15 rfl) (ww hw 16 rfl) (ww hw 17 rfl) eT (by rw [hml]; rfl) (pc := 1) (hb hby d2_1) rfl rfl ?_
  intro T X eT
  refine Ow.iloadN X hx (pc := 4) (hb hby d2_4) rfl ?_
  refine Ow.if_ne X hx (pc := 5) (pc' := 27) (hb hby d2_5) (by decide) (by decide) (fun q => absurd rfl q) (fun h5 => ?_)
  refine Ow.aloadN X hx (pc := 8) (hb hby d2_8) rfl rfl ?_
  refine Ow.ldcS X hx eT D hEL hown (ww hw 18 rfl) wS (by decide) (vs := []) (z := 0) (by decide) (by decide) (by decide) (pc := 9) (hb hby d2_9) 0 (by decide) (by decide) (by decide) (by decide) ?_
  intro vm1 a1 T h1 b1 k1 X eT E1 D hown C1 A1 F1c F1v V1 ne1
  have Sx1 := C1.safe hlt Sx
  have ne := ne1 x Sx1
  refine Ow.getfield X hx D.hZ hown (ww hw 24 rfl) Via.refl eT F1v (pc := 11) (hb hby d2_11) ?_
  intro T X eT
  refine Ow.putfield X hx D.hZ hown (ww hw 24 rfl) Via.refl eT (V.ext E1) (E.ext E1) (Or.inr ⟨(ww hw 20 rfl), rfl, hni⟩) (ww hw 6 rfl) (ty := .array .byte) (by decide) rfl rfl (pc := 14) (hb hby d2_14) ?_
  intro T h2 X eT W2
  have Sx2 := D.safeWr W2 Sx1 Sx1
  have D := D.wr W2 Sx1
  refine Ow.aloadN X hx (pc := 17) (hb hby d2_17) rfl rfl ?_
  refine Ow.ldcS X hx eT D hEL hown (ww hw 18 rfl) wS (by decide) (vs := []) (z := 0) (by decide) (by decide) (by decide) (pc := 18) (hb hby d2_18) 0 (by decide) (by decide) (by decide) (by decide) ?_
  intro vm3 a3 T h3 b3 k3 X eT E3 D hown C3 A3 F3c F3v V3 ne3
  have Sx3 := C3.safe (by rw [W2.size]; exact Nat.lt_of_lt_of_le hlt E1.1) Sx2
  refine Ow.getfield X hx D.hZ hown (ww hw 25 rfl) Via.refl eT F3c (pc := 20) (hb hby d2_20) ?_
  intro T X eT
  refine Ow.putfield X hx D.hZ hown (ww hw 25 rfl) Via.refl eT (((C0.ext E1).other W2 (Or.inr hsl)).ext E3) (((E.ext E1).wr W2).ext E3) (Or.inr ⟨(ww hw 21 rfl), rfl, hni⟩) (ww hw 6 rfl) (ty := .byte) (by decide) rfl rfl (pc := 23) (hb hby d2_23) ?_
  intro T h4 X eT W4
  have D := D.wr W4 Sx3
  refine Ow.vreturnW X hx eT D hEL hlk hret (hb hby d2_26) ?_ (by decide) (by decide)
  rw [eT]
  refine ⟨rfl, (((((Ow.Eff.refl h0 [x]).ext E1).wr W2 (Or.inl (by simp))).ext E3).wr W4 (Or.inl (by simp))), b1, k1, ⟨(((E.ext E1).wr W2).ext E3).wr W4, (((C0.ext E1).other W2 (Or.inr hsl)).ext E3).same W4, (((V.ext E1).same W2).ext E3).other W4 (Or.inr (Ne.symm hsl)), ?_⟩⟩
  exact (((Ow.AL.of_arv V1 rfl).other W2 (Ne.symm ne.2)).ext E3).other W4 (Ne.symm ne.2)
theorem d1_0 : decode jdk_42_method_3_code 0 = .ok (.aload_n 0, 1) := by decide +kernel
theorem d1_1 : decode jdk_42_method_3_code 1 = .ok (.aload_n 1, 1) := by decide +kernel
theorem d1_2 : decode jdk_42_method_3_code 2 = .ok (.iconst 0, 1) := by decide +kernel
theorem d1_3 : decode jdk_42_method_3_code 3 = .ok (.aload_n 1, 1) := by decide +kernel
theorem d1_4 : decode jdk_42_method_3_code 4 = .ok (.arraylength, 1) := by decide +kernel
theorem d1_5 : decode jdk_42_method_3_code 5 = .ok (.aconst_null, 1) := by decide +kernel
theorem d1_6 : decode jdk_42_method_3_code 6 = .ok (.invokespecial 27, 3) := by decide +kernel
theorem d1_9 : decode jdk_42_method_3_code 9 = .ok (.return_, 1) := by decide +kernel
set_option maxRecDepth 65536 in
set_option maxHeartbeats 4000000 in
theorem c_new1e (l : Launch) (Z : State) (a0 : Array Value) (hw : ∀ d ∈ tables_1, d.before a0 Z = true) (hEL : EW Z a0 EL) (h0 : Heap) (x b : Addr) (v0 c0 : Value) (E : Exa Z h0 x "java/lang/String") (V : Fld Z h0 x "java/lang/String" "value" "[B" v0) (C0 : Fld Z h0 x "java/lang/String" "coder" "B" c0) (kc : ClassId) (A : Ow.AL Z h0 b kc .char []) : Ow.PayW l Z EL [x] (⟨"java/lang/String", "<init>", "([C)V"⟩ : MethodName) jdk_42_method_3_code 2 none ({ frames := 2, cells := 4, slots := 8, locals := 60 } : Room) #[(.ref x), (.ref b)] h0 (fun v h L => v = none ∧ Ow.Eff h0 h [x] L ∧ ∃ t kb, Ow.Str Z h x t kb []) := by
  refine Ow.PayW.of (Ls := #[.val (.ref x), .val (.ref b)]) (plainFor_of_name pn0) (fun m => by first | rfl | (simp [entryFrame, mkF, argsToLocals, Value.category]; done)) ?_
  intro p e s m below meth c T vm0 hx hby hml hown hnm hme hret hlk X eT D hsf
  refine Ow.aloadN X hx (pc := 0) (hb hby d1_0) rfl rfl ?_
  refine Ow.aloadN X hx (pc := 1) (hb hby d1_1) rfl rfl ?_
  refine Ow.iconst X hx (pc := 2) (0) (hb hby d1_2) (by decide) ?_
  refine Ow.aloadN X hx (pc := 3) (hb hby d1_3) rfl rfl ?_
  refine Ow.lengthL X hx D.hZ eT A 0 rfl (pc := 4) (hb hby d1_4) ?_
  refine Ow.aconst_null X hx (pc := 5) (hb hby d1_5) ?_
  refine Ow.callIW X hx (c_new4e l Z a0 hw hEL h0 x b v0 c0 E V C0) eT D hEL (fun y hy => by cases List.mem_singleton.mp hy; exact ⟨E.lt, hsf _ (by simp)⟩) rfl hown (ww hw 11 rfl) (ww hw 12 rfl) (ww hw 7 rfl) (ww hw 14 rfl) (by decide) pd7 (by rw [hml]; rfl) (argsL := [_, _, _, _]) rfl rfl rfl (pc := 6) (hb hby d1_6) rfl rfl (by decide) (by decide) ?_
  rintro _ vm1 T L X ⟨rfl, F, t, kb, St⟩ D hown C1
  dsimp only [Option.toList_some, Option.toList_none, List.cons_append, List.nil_append]
  exact Ow.vreturnW X hx rfl D hEL hlk hret (hb hby d1_9) ⟨rfl, F, t, kb, St⟩ (by decide) (by decide)
theorem own_ch8 : ∀ n : Fin 256, fits .char (.int (Int32.ofNat n.val)) = true ∧ ¬ (255 : Int32) < Int32.ofNat n.val ∧ nar .char (Int32.ofNat n.val) = Int32.ofNat n.val ∧ (Int32.ofNat n.val).toUInt32.toUInt16.toUInt32.toInt32 = Int32.ofNat n.val := by decide +kernel
/-- new String(cs), cs not empty, each a Latin-1 char: as a step -/
theorem strLat {p : Program} {l : Launch} {e : Env} {R : Room} {s : State} {m : MethodId} {args : Array Value} {below : List Frame} {meth : Method} {c : Code} {T : State} {locs : List Loc} {cells slots : Nat} {G : Outcome → State → Prop} {pc : Nat} {Ls : Array Slot} {rest : List Value} {Z : State} {a0 : Array Value} {h : Heap}
    (X : Stand p l e R s m args below meth c T locs cells slots) (hx : p.tables.exec = Jvm.exec) (hZ : Z.Warmed39 s.vm) (hw : ∀ d ∈ tables_1, d.before a0 Z = true) (eT : T.heap = h) {own : String} {index : Nat} (hown : s.vm.findClass own = some m.cls) (wl : (Cond.methodLink own index (⟨"java/lang/String", "<init>", "([C)V"⟩ : MethodName)).before a0 Z = true)
    {x b : Addr} {kc : ClassId} {cs : List Int32} {v0 c0 : Value} {z : Int32} (E : Exa Z h x "java/lang/String") (V : Fld Z h x "java/lang/String" "value" "[B" v0) (C0 : Fld Z h x "java/lang/String" "coder" "B" c0) (A : Ow.AL Z h b kc .char (cs.map Value.int)) (S : Sta Z h "java/lang/String" "COMPACT_STRINGS" "Z" (.int z)) (hz : ¬ z = 0) (n : Nat) (hn : cs.length = n) (h0 : 0 < n) (hbig : n ≤ 4000) (hall : ∀ c ∈ cs, ∃ k : Fin 256, c = Int32.ofNat k.val) (hsz : Ls.size = c.maxLocals)
    (hd : decode c.code pc = .ok (.invokespecial index, 3)) (hf : (4 : Nat).ble R.frames = true) (hlo : ((rest.map fun v => v.category).sum + 65).ble R.locals = true) (hce : cells + 1 ≤ R.cells) (hsl : slots + n ≤ R.slots)
    (K : ∀ (T' : State) (L : List Loc) (kb : ClassId), Stand p l e R s m args below meth c T' (locs ++ L) (cells + 1) (slots + n) → Ow.Eff h T'.heap [x] L → Ow.Str Z T'.heap x h.size kb (cs.map fun c => c.toInt8.toInt32) → Go p.tables e below G (T'.setTop (mkF m (pc + 3) Ls rest))) :
    Go p.tables e below G (T.setTop (mkF m pc Ls (.ref b :: .ref x :: rest))) := by
  subst hn
  have hws : ∀ d ∈ StrChars.Road.words, d.before a0 Z = true := fun d hd => hw d ((by decide +kernel : ∀ d ∈ StrChars.Road.words, d ∈ tables_1) d hd)
  have hb31 : cs.length < 2147483648 := by omega
  refine Ow.callIB X hx hZ (StrChars.Road.backArv (kI := 4) hZ hws (ww hw 6 rfl) E V C0 (A.arv (z := Int32.ofNat cs.length) (dv := .int 0) (Ow.n_nn hb31) (by rw [Ow.n_cl hb31, List.length_map]) (fun v hv => ?_)) S hz (Ow.n_cl hb31) h0 (by omega) (fun c hc => ?_) (Nat.le_of_ble_eq_true hf) (Nat.le_of_ble_eq_true hlo)) eT rfl hown wl (ww hw 9 rfl) (ww hw 10 rfl) (by decide) pd8 hsz (a := x) (argsL := [.ref b]) rfl rfl rfl hd hce hsl ?_
  · obtain ⟨c, hc, rfl⟩ := List.mem_map.mp hv
    obtain ⟨k, rfl⟩ := hall c hc
    exact (own_ch8 k).1
  · obtain ⟨k, rfl⟩ := hall c hc
    exact (own_ch8 k).2.1
  · rintro _ T' L X' ⟨rfl, q2, q3, q4, q5, q6, q7, ⟨kb, -, q8⟩, -⟩
    refine K T' L kb X' ⟨q3, fun y hy => Or.inl (by rw [q2 y hy]; simp)⟩ ⟨q5, q7, q6, ?_⟩
    have q9 := Ow.AL.of_arv q8 (by rw [Ow.n_cl hb31, List.length_map])
    rw [List.map_map]; exact q9
theorem own_mask8 (x : Int32) : ∃ n : Fin 256, (x &&& (255 : Int32)) = Int32.ofNat n.val := by
  refine ⟨⟨(x &&& 255).toBitVec.toNat, ?_⟩, ?_⟩
  · simp only [Int32.toBitVec_and, BitVec.toNat_and]
    exact Nat.lt_of_le_of_lt Nat.and_le_right (by decide)
  · apply Int32.toBitVec_inj.mp
    show _ = BitVec.ofNat 32 _
    rw [BitVec.ofNat_toNat]; simp
theorem d45_0 : decode jdk_41_method_11_code 0 = .ok (.iload_n 0, 1) := by decide +kernel
theorem d45_1 : decode jdk_41_method_11_code 1 = .ok (.ifCond .lt 8, 3) := by decide +kernel
theorem d45_4 : decode jdk_41_method_11_code 4 = .ok (.iload_n 0, 1) := by decide +kernel
theorem d45_5 : decode jdk_41_method_11_code 5 = .ok (.iload_n 1, 1) := by decide +kernel
theorem d45_6 : decode jdk_41_method_11_code 6 = .ok (.if_icmp .lt 10, 3) := by decide +kernel
theorem d45_9 : decode jdk_41_method_11_code 9 = .ok (.aload_n 2, 1) := by decide +kernel
theorem d45_10 : decode jdk_41_method_11_code 10 = .ok (.iload_n 0, 1) := by decide +kernel
theorem d45_11 : decode jdk_41_method_11_code 11 = .ok (.iload_n 1, 1) := by decide +kernel
theorem d45_12 : decode jdk_41_method_11_code 12 = .ok (.invokestatic 95, 3) := by decide +kernel
theorem d45_15 : decode jdk_41_method_11_code 15 = .ok (.athrow, 1) := by decide +kernel
theorem d45_16 : decode jdk_41_method_11_code 16 = .ok (.iload_n 0, 1) := by decide +kernel
theorem d45_17 : decode jdk_41_method_11_code 17 = .ok (.ireturn, 1) := by decide +kernel
set_option maxRecDepth 65536 in
set_option maxHeartbeats 4000000 in
theorem c_pcheckIndex (l : Launch) (Z : State) (a0 : Array Value) (hw : ∀ d ∈ tables_1, d.before a0 Z = true) (h0 : Heap) (fm : Value) (hfm : fm.isRef = true) (i n : Nat) (hin : i < n) (hn : n < 2147483648) : Ow.Pay l Z (⟨"jdk/internal/util/Preconditions", "checkIndex", "(IILjava/util/function/BiFunction;)I"⟩ : MethodName) jdk_41_method_11_code 3 (some .int) ({ frames := 0, cells := 0, slots := 0, locals := 0 } : Room) #[(.int (Int32.ofNat i)), (.int (Int32.ofNat n)), (fm)] h0 (fun v h L => v = some (.int (Int32.ofNat i)) ∧ h = h0 ∧ L = []) := by
  refine Ow.Pay.of (Ls := #[.val (.int (Int32.ofNat i)), .val (.int (Int32.ofNat n)), .val (fm)]) (plainFor_of_name pn2) (fun m => by rcases ref_cases hfm with rfl | ⟨r, rfl⟩ <;> rfl) ?_
  intro p e s m below meth c T hx hby hml hown hnm hme hZ hret hlk X eT
  refine Ow.iloadN X hx (pc := 0) (hb hby d45_0) rfl ?_
  refine Ow.if_lt X hx (pc := 1) (pc' := 9) (hb hby d45_1) (by decide) (by decide) (fun q => absurd q (Ow.n_nn (by omega))) (fun h1 => ?_)
  refine Ow.iloadN X hx (pc := 4) (hb hby d45_4) rfl ?_
  refine Ow.iloadN X hx (pc := 5) (hb hby d45_5) rfl ?_
  refine Ow.icmp_lt X hx (pc := 6) (pc' := 16) (hb hby d45_6) (by decide) (by decide) (fun h6 => ?_) (fun q => absurd ((Ow.n_lt (by omega) (by omega)).mpr hin) q)
  refine Ow.iloadN X hx (pc := 16) (hb hby d45_16) rfl ?_
  exact Ow.ireturn X hx hlk hret (hb hby d45_17) ⟨rfl, eT, rfl⟩ (by decide) (by decide)
theorem d44_0 : decode jdk_42_method_155_code 0 = .ok (.iload_n 0, 1) := by decide +kernel
theorem d44_1 : decode jdk_42_method_155_code 1 = .ok (.iload_n 1, 1) := by decide +kernel
theorem d44_2 : decode jdk_42_method_155_code 2 = .ok (.getstatic 1053, 3) := by decide +kernel
theorem d44_5 : decode jdk_42_method_155_code 5 = .ok (.invokestatic 1059, 3) := by decide +kernel
theorem d44_8 : decode jdk_42_method_155_code 8 = .ok (.pop, 1) := by decide +kernel
theorem d44_9 : decode jdk_42_method_155_code 9 = .ok (.return_, 1) := by decide +kernel
set_option maxRecDepth 65536 in
set_option maxHeartbeats 4000000 in
theorem c_scheckIndex (l : Launch) (Z : State) (a0 : Array Value) (hw : ∀ d ∈ tables_1, d.before a0 Z = true) (h0 : Heap) (fm : Value) (Sf : Sta Z h0 "jdk/internal/util/Preconditions" "SIOOBE_FORMATTER" "Ljava/util/function/BiFunction;" fm) (hfm : fm.isRef = true) (i n : Nat) (hin : i < n) (hn : n < 2147483648) : Ow.Pay l Z (⟨"java/lang/String", "checkIndex", "(II)V"⟩ : MethodName) jdk_42_method_155_code 2 none ({ frames := 1, cells := 0, slots := 0, locals := 14 } : Room) #[(.int (Int32.ofNat i)), (.int (Int32.ofNat n))] h0 (fun v h L => v = none ∧ h = h0 ∧ L = []) := by
  refine Ow.Pay.of (Ls := #[.val (.int (Int32.ofNat i)), .val (.int (Int32.ofNat n))]) (plainFor_of_name pn0) (fun m => by first | rfl | (simp [entryFrame, mkF, argsToLocals, Value.category]; done)) ?_
  intro p e s m below meth c T hx hby hml hown hnm hme hZ hret hlk X eT
  refine Ow.iloadN X hx (pc := 0) (hb hby d44_0) rfl ?_
  refine Ow.iloadN X hx (pc := 1) (hb hby d44_1) rfl ?_
  refine Ow.getstatic X hx hZ hown (ww hw 115 rfl) Via.refl eT Sf (pc := 2) (hb hby d44_2) ?_   -- "jdk/internal/util/Preconditions" "SIOOBE_FORMATTER" "Ljava/util/function/BiFunction;"
  intro T X eT
  refine Ow.callSP X hx hZ (c_pcheckIndex l Z a0 hw h0 fm hfm i n hin hn) rfl rfl eT hown (ww hw 213 rfl) (ww hw 214 rfl) (ww hw 116 rfl) (ww hw 215 rfl) (by decide) pd9 (by rw [hml]; rfl) (argsL := [_, _, _]) rfl rfl rfl (pc := 5) (hb hby d44_5) rfl rfl (by decide) (by decide) ?_   -- jdk/internal/util/Preconditions.checkIndex:(IILjava/util/function/BiFunction;)I
  intro T X eT
  dsimp only [Option.toList_some, Option.toList_none, List.cons_append, List.nil_append]
  refine Ow.pop X hx (pc := 8) (hb hby d44_8) rfl ?_
  exact Ow.vreturn X hx hlk hret (hb hby d44_9) ⟨rfl, eT, rfl⟩ (by decide) (by decide)
theorem own_i2c8 (v : Int32) : nar .char ((v &&& 255).toUInt32.toUInt16.toUInt32.toInt32) = v &&& 255 := by
  obtain ⟨n, hn⟩ := own_mask8 v
  rw [hn, (own_ch8 n).2.2.2, (own_ch8 n).2.2.1]
theorem d43_0 : decode jdk_43_method_2_code 0 = .ok (.iload_n 1, 1) := by decide +kernel
theorem d43_1 : decode jdk_43_method_2_code 1 = .ok (.aload_n 0, 1) := by decide +kernel
theorem d43_2 : decode jdk_43_method_2_code 2 = .ok (.arraylength, 1) := by decide +kernel
theorem d43_3 : decode jdk_43_method_2_code 3 = .ok (.invokestatic 9, 3) := by decide +kernel
theorem d43_6 : decode jdk_43_method_2_code 6 = .ok (.aload_n 0, 1) := by decide +kernel
theorem d43_7 : decode jdk_43_method_2_code 7 = .ok (.iload_n 1, 1) := by decide +kernel
theorem d43_8 : decode jdk_43_method_2_code 8 = .ok (.baload, 1) := by decide +kernel
theorem d43_9 : decode jdk_43_method_2_code 9 = .ok (.sipush 255, 3) := by decide +kernel
theorem d43_12 : decode jdk_43_method_2_code 12 = .ok (.iand, 1) := by decide +kernel
theorem d43_13 : decode jdk_43_method_2_code 13 = .ok (.i2c, 1) := by decide +kernel
theorem d43_14 : decode jdk_43_method_2_code 14 = .ok (.ireturn, 1) := by decide +kernel
set_option maxRecDepth 65536 in
set_option maxHeartbeats 4000000 in
theorem c_latCharAt (l : Launch) (Z : State) (a0 : Array Value) (hw : ∀ d ∈ tables_1, d.before a0 Z = true) (h0 : Heap) (fm : Value) (Sf : Sta Z h0 "jdk/internal/util/Preconditions" "SIOOBE_FORMATTER" "Ljava/util/function/BiFunction;" fm) (hfm : fm.isRef = true) (t : Addr) (kb : ClassId) (bs : List Int32) (i : Nat) (A : Ow.AL Z h0 t kb .byte (bs.map Value.int)) (hi : i < bs.length) (hbig : bs.length < 2147483648) : Ow.Pay l Z (⟨"java/lang/StringLatin1", "charAt", "([BI)C"⟩ : MethodName) jdk_43_method_2_code 2 (some .char) ({ frames := 2, cells := 0, slots := 0, locals := 30 } : Room) #[(.ref t), (.int (Int32.ofNat i))] h0 (fun v h L => v = some (.int (bs.getD i 0 &&& 255)) ∧ h = h0 ∧ L = []) := by
  refine Ow.Pay.of (Ls := #[.val (.ref t), .val (.int (Int32.ofNat i))]) (plainFor_of_name pn1) (fun m => by first | rfl | (simp [entryFrame, mkF, argsToLocals, Value.category]; done)) ?_
  intro p e s m below meth c T hx hby hml hown hnm hme hZ hret hlk X eT
  refine Ow.iloadN X hx (pc := 0) (hb hby d43_0) rfl ?_
  refine Ow.aloadN X hx (pc := 1) (hb hby d43_1) rfl rfl ?_
  refine Ow.lengthL X hx hZ eT A (Int32.ofNat bs.length) (by rw [List.length_map]) (pc := 2) (hb hby d43_2) ?_
  refine Ow.callSP X hx hZ (c_scheckIndex l Z a0 hw h0 fm Sf hfm i bs.length hi hbig) rfl rfl eT hown (ww hw 210 rfl) (ww hw 211 rfl) (ww hw 7 rfl) (ww hw 212 rfl) (by decide) pd10 (by rw [hml]; rfl) (argsL := [_, _]) rfl rfl rfl (pc := 3) (hb hby d43_3) rfl rfl (by decide) (by decide) ?_   -- java/lang/String.checkIndex:(II)V
  intro T X eT
  dsimp only [Option.toList_some, Option.toList_none, List.cons_append, List.nil_append]
  refine Ow.aloadN X hx (pc := 6) (hb hby d43_6) rfl rfl ?_
  refine Ow.iloadN X hx (pc := 7) (hb hby d43_7) rfl ?_
  refine Ow.baloadL X hx hZ eT A i (.int (bs.getD i 0)) (Ow.n_nn (by omega)) (Ow.n_cl (by omega)) (by simp [hi]) (pc := 8) (hb hby d43_8) ?_
  refine Ow.sipush X hx (pc := 9) (255) (hb hby d43_9) (by decide) ?_
  refine Ow.iand X hx (pc := 12) (hb hby d43_12) ?_
  refine Ow.i2c X hx (pc := 13) (hb hby d43_13) ?_
  exact Ow.nreturn X hx hlk hret (Or.inr (Or.inr (Or.inl rfl))) (hb hby d43_14) ⟨by rw [own_i2c8], eT, rfl⟩ (by decide) (by decide)
theorem d42_0 : decode jdk_42_method_56_code 0 = .ok (.aload_n 0, 1) := by decide +kernel
theorem d42_1 : decode jdk_42_method_56_code 1 = .ok (.invokevirtual 492, 3) := by decide +kernel
theorem d42_4 : decode jdk_42_method_56_code 4 = .ok (.ifCond .eq 12, 3) := by decide +kernel
theorem d42_7 : decode jdk_42_method_56_code 7 = .ok (.aload_n 0, 1) := by decide +kernel
theorem d42_8 : decode jdk_42_method_56_code 8 = .ok (.getfield 9, 3) := by decide +kernel
theorem d42_11 : decode jdk_42_method_56_code 11 = .ok (.iload_n 1, 1) := by decide +kernel
theorem d42_12 : decode jdk_42_method_56_code 12 = .ok (.invokestatic 495, 3) := by decide +kernel
theorem d42_15 : decode jdk_42_method_56_code 15 = .ok (.ireturn, 1) := by decide +kernel
theorem d42_16 : decode jdk_42_method_56_code 16 = .ok (.aload_n 0, 1) := by decide +kernel
theorem d42_17 : decode jdk_42_method_56_code 17 = .ok (.getfield 9, 3) := by decide +kernel
theorem d42_20 : decode jdk_42_method_56_code 20 = .ok (.iload_n 1, 1) := by decide +kernel
theorem d42_21 : decode jdk_42_method_56_code 21 = .ok (.invokestatic 498, 3) := by decide +kernel
theorem d42_24 : decode jdk_42_method_56_code 24 = .ok (.ireturn, 1) := by decide +kernel
set_option maxRecDepth 65536 in
set_option maxHeartbeats 4000000 in
theorem c_charAt (l : Launch) (Z : State) (a0 : Array Value) (hw : ∀ d ∈ tables_1, d.before a0 Z = true) (h0 : Heap) (z : Int32) (fm : Value) (S : Sta Z h0 "java/lang/String" "COMPACT_STRINGS" "Z" (.int z)) (hz : ¬ z = 0) (Sf : Sta Z h0 "jdk/internal/util/Preconditions" "SIOOBE_FORMATTER" "Ljava/util/function/BiFunction;" fm) (hfm : fm.isRef = true) (x t : Addr) (kb : ClassId) (bs : List Int32) (i : Nat) (St : Ow.Str Z h0 x t kb bs) (hi : i < bs.length) (hbig : bs.length < 2147483648) : Ow.Pay l Z (⟨"java/lang/String", "charAt", "(I)C"⟩ : MethodName) jdk_42_method_56_code 2 (some .char) ({ frames := 3, cells := 0, slots := 0, locals := 50 } : Room) #[(.ref x), (.int (Int32.ofNat i))] h0 (fun v h L => v = some (.int (bs.getD i 0 &&& 255)) ∧ h = h0 ∧ L = []) := by
  refine Ow.Pay.of (Ls := #[.val (.ref x), .val (.int (Int32.ofNat i))]) (plainFor_of_name pn0) (fun m => by first | rfl | (simp [entryFrame, mkF, argsToLocals, Value.category]; done)) ?_
  intro p e s m below meth c T hx hby hml hown hnm hme hZ hret hlk X eT
  refine Ow.aloadN X hx (pc := 0) (hb hby d42_0) rfl rfl ?_
  refine Ow.callVP X hx hZ (c_isLatin1 l Z a0 hw h0 z x S hz St.2.1) rfl rfl eT hown (ww hw 49 rfl) (ww hw 50 rfl) (ww hw 52 rfl) (ww hw 51 rfl) (ww hw 7 rfl) (ww hw 53 rfl) (by decide) pd4 (by rw [hml]; rfl) St.1 (argsL := []) rfl rfl rfl (pc := 1) (hb hby d42_1) rfl rfl (by decide) (by decide) ?_   -- java/lang/String.isLatin1:()Z
  intro T X eT
  dsimp only [Option.toList_some, Option.toList_none, List.cons_append, List.nil_append]
  refine Ow.if_eq X hx (pc := 4) (pc' := 16) (hb hby d42_4) (by decide) (by decide) (fun q => absurd q (by decide)) (fun h4 => ?_)
  refine Ow.aloadN X hx (pc := 7) (hb hby d42_7) rfl rfl ?_
  refine Ow.getfield X hx hZ hown (ww hw 24 rfl) Via.refl eT St.2.2.1 (pc := 8) (hb hby d42_8) ?_   -- "java/lang/String" "value" "[B"
  intro T X eT
  refine Ow.iloadN X hx (pc := 11) (hb hby d42_11) rfl ?_
  refine Ow.callSP X hx hZ (c_latCharAt l Z a0 hw h0 fm Sf hfm t kb bs i St.2.2.2 hi hbig) rfl rfl eT hown (ww hw 207 rfl) (ww hw 208 rfl) (ww hw 67 rfl) (ww hw 209 rfl) (by decide) pd11 (by rw [hml]; rfl) (argsL := [_, _]) rfl rfl rfl (pc := 12) (hb hby d42_12) rfl rfl (by decide) (by decide) ?_   -- java/lang/StringLatin1.charAt:([BI)C
  intro T X eT
  dsimp only [Option.toList_some, Option.toList_none, List.cons_append, List.nil_append]
  exact Ow.nreturn X hx hlk hret (Or.inr (Or.inr (Or.inl rfl))) (hb hby d42_15) ⟨by obtain ⟨n, hn⟩ := own_mask8 (bs.getD i 0); rw [hn, (own_ch8 n).2.2.1], eT, rfl⟩ (by decide) (by decide)
theorem own_sub {i j : Nat} (h : i ≤ j) : Int32.ofNat j - Int32.ofNat i = Int32.ofNat (j - i) := by
  have q := Int32.ofNat_add i (j - i)
  rw [Nat.add_sub_cancel' h] at q
  rw [q, Int32.add_comm, Int32.add_sub_cancel]
theorem own_neAL {Z : State} {a0 : Array Value} {h : Heap} {x b : Addr} {C : String} {k : ClassId} {ty : FieldType} {vs : List Value} {n : Nat} (E : Exa Z h x C) (F : Ow.AL Z h b k ty vs) (w : (Cond.instantiable C n).before a0 Z = true) : x ≠ b := fun q => by
  subst q
  obtain ⟨c1, k1, e1, f1, g1, -⟩ := E
  obtain ⟨c2, ⟨e2, hA, -⟩, -⟩ := F
  cases e1.symm.trans e2
  simp only [Cond.before, Cond.holds, Cond.value, f1, Option.bind_some, g1, Option.map_some] at w
  have ho : k1.kind = .ordinary := by
    simp only [beq_iff_eq, Option.some.injEq, Bool.and_eq_true, decide_eq_true_eq] at w; exact w.1.1.1
  obtain ⟨-, kk, hk, comp, hkind⟩ := hA
  rw [g1] at hk; cases hk; rw [ho] at hkind; cases hkind
theorem d25_0 : decode jdk_41_method_12_code 0 = .ok (.iload_n 0, 1) := by decide +kernel
theorem d25_1 : decode jdk_41_method_12_code 1 = .ok (.ifCond .lt 13, 3) := by decide +kernel
theorem d25_4 : decode jdk_41_method_12_code 4 = .ok (.iload_n 0, 1) := by decide +kernel
theorem d25_5 : decode jdk_41_method_12_code 5 = .ok (.iload_n 1, 1) := by decide +kernel
theorem d25_6 : decode jdk_41_method_12_code 6 = .ok (.if_icmp .gt 8, 3) := by decide +kernel
theorem d25_9 : decode jdk_41_method_12_code 9 = .ok (.iload_n 1, 1) := by decide +kernel
theorem d25_10 : decode jdk_41_method_12_code 10 = .ok (.iload_n 2, 1) := by decide +kernel
theorem d25_11 : decode jdk_41_method_12_code 11 = .ok (.if_icmp .le 11, 3) := by decide +kernel
theorem d25_14 : decode jdk_41_method_12_code 14 = .ok (.aload_n 3, 1) := by decide +kernel
theorem d25_15 : decode jdk_41_method_12_code 15 = .ok (.iload_n 0, 1) := by decide +kernel
theorem d25_16 : decode jdk_41_method_12_code 16 = .ok (.iload_n 1, 1) := by decide +kernel
theorem d25_17 : decode jdk_41_method_12_code 17 = .ok (.iload_n 2, 1) := by decide +kernel
theorem d25_18 : decode jdk_41_method_12_code 18 = .ok (.invokestatic 99, 3) := by decide +kernel
theorem d25_21 : decode jdk_41_method_12_code 21 = .ok (.athrow, 1) := by decide +kernel
theorem d25_22 : decode jdk_41_method_12_code 22 = .ok (.iload_n 0, 1) := by decide +kernel
theorem d25_23 : decode jdk_41_method_12_code 23 = .ok (.ireturn, 1) := by decide +kernel
set_option maxRecDepth 65536 in
set_option maxHeartbeats 4000000 in
theorem c_pcheckFT (l : Launch) (Z : State) (a0 : Array Value) (hw : ∀ d ∈ tables_1, d.before a0 Z = true) (h0 : Heap) (fm : Value) (hfm : fm.isRef = true) (i j n : Nat) (hij : i ≤ j) (hjn : j ≤ n) (hn : n < 2147483648) : Ow.Pay l Z (⟨"jdk/internal/util/Preconditions", "checkFromToIndex", "(IIILjava/util/function/BiFunction;)I"⟩ : MethodName) jdk_41_method_12_code 4 (some .int) ({ frames := 0, cells := 0, slots := 0, locals := 0 } : Room) #[(.int (Int32.ofNat i)), (.int (Int32.ofNat j)), (.int (Int32.ofNat n)), (fm)] h0 (fun v h L => v = some (.int (Int32.ofNat i)) ∧ h = h0 ∧ L = []) := by
  refine Ow.Pay.of (Ls := #[.val (.int (Int32.ofNat i)), .val (.int (Int32.ofNat j)), .val (.int (Int32.ofNat n)), .val (fm)]) (plainFor_of_name pn2) (fun m => by rcases ref_cases hfm with rfl | ⟨r, rfl⟩ <;> rfl) ?_
  intro p e s m below meth c T hx hby hml hown hnm hme hZ hret hlk X eT
  refine Ow.iloadN X hx (pc := 0) (hb hby d25_0) rfl ?_
  refine Ow.if_lt X hx (pc := 1) (pc' := 14) (hb hby d25_1) (by decide) (by decide) (fun q => absurd q (Ow.n_nn (by omega))) (fun h1 => ?_)
  refine Ow.iloadN X hx (pc := 4) (hb hby d25_4) rfl ?_
  refine Ow.iloadN X hx (pc := 5) (hb hby d25_5) rfl ?_
  refine Ow.icmp_gt X hx (pc := 6) (pc' := 14) (hb hby d25_6) (by decide) (by decide) (fun q => absurd ((Ow.n_lt (by omega) (by omega)).mp q) (by omega)) (fun h6 => ?_)
  refine Ow.iloadN X hx (pc := 9) (hb hby d25_9) rfl ?_
  refine Ow.iloadN X hx (pc := 10) (hb hby d25_10) rfl ?_
  refine Ow.icmp_le X hx (pc := 11) (pc' := 22) (hb hby d25_11) (by decide) (by decide) (fun h11 => ?_) (fun q => absurd ((Ow.n_lt (by omega) (by omega)).mp q) (by omega))
  refine Ow.iloadN X hx (pc := 22) (hb hby d25_22) rfl ?_
  exact Ow.ireturn X hx hlk hret (hb hby d25_23) ⟨rfl, eT, rfl⟩ (by decide) (by decide)
theorem d24_0 : decode jdk_42_method_158_code 0 = .ok (.iload_n 0, 1) := by decide +kernel
theorem d24_1 : decode jdk_42_method_158_code 1 = .ok (.iload_n 1, 1) := by decide +kernel
theorem d24_2 : decode jdk_42_method_158_code 2 = .ok (.iload_n 2, 1) := by decide +kernel
theorem d24_3 : decode jdk_42_method_158_code 3 = .ok (.getstatic 1053, 3) := by decide +kernel
theorem d24_6 : decode jdk_42_method_158_code 6 = .ok (.invokestatic 1062, 3) := by decide +kernel
theorem d24_9 : decode jdk_42_method_158_code 9 = .ok (.pop, 1) := by decide +kernel
theorem d24_10 : decode jdk_42_method_158_code 10 = .ok (.return_, 1) := by decide +kernel
set_option maxRecDepth 65536 in
set_option maxHeartbeats 4000000 in
theorem c_checkBBE (l : Launch) (Z : State) (a0 : Array Value) (hw : ∀ d ∈ tables_1, d.before a0 Z = true) (h0 : Heap) (fm : Value) (Sf : Sta Z h0 "jdk/internal/util/Preconditions" "SIOOBE_FORMATTER" "Ljava/util/function/BiFunction;" fm) (hfm : fm.isRef = true) (i j n : Nat) (hij : i ≤ j) (hjn : j ≤ n) (hn : n < 2147483648) : Ow.Pay l Z (⟨"java/lang/String", "checkBoundsBeginEnd", "(III)V"⟩ : MethodName) jdk_42_method_158_code 3 none ({ frames := 1, cells := 0, slots := 0, locals := 15 } : Room) #[(.int (Int32.ofNat i)), (.int (Int32.ofNat j)), (.int (Int32.ofNat n))] h0 (fun v h L => v = none ∧ h = h0 ∧ L = []) := by
  refine Ow.Pay.of (Ls := #[.val (.int (Int32.ofNat i)), .val (.int (Int32.ofNat j)), .val (.int (Int32.ofNat n))]) (plainFor_of_name pn0) (fun m => by first | rfl | (simp [entryFrame, mkF, argsToLocals, Value.category]; done)) ?_
  intro p e s m below meth c T hx hby hml hown hnm hme hZ hret hlk X eT
  refine Ow.iloadN X hx (pc := 0) (hb hby d24_0) rfl ?_
  refine Ow.iloadN X hx (pc := 1) (hb hby d24_1) rfl ?_
  refine Ow.iloadN X hx (pc := 2) (hb hby d24_2) rfl ?_
  refine Ow.getstatic X hx hZ hown (ww hw 115 rfl) Via.refl eT Sf (pc := 3) (hb hby d24_3) ?_   -- "jdk/internal/util/Preconditions" "SIOOBE_FORMATTER" "Ljava/util/function/BiFunction;"
  intro T X eT
  refine Ow.callSP X hx hZ (c_pcheckFT l Z a0 hw h0 fm hfm i j n hij hjn hn) rfl rfl eT hown (ww hw 117 rfl) (ww hw 118 rfl) (ww hw 116 rfl) (ww hw 119 rfl) (by decide) pd12 (by rw [hml]; rfl) (argsL := [_, _, _, _]) rfl rfl rfl (pc := 6) (hb hby d24_6) rfl rfl (by decide) (by decide) ?_   -- jdk/internal/util/Preconditions.checkFromToIndex:(IIILjava/util/function/BiFunction;)I
  intro T X eT
  dsimp only [Option.toList_some, Option.toList_none, List.cons_append, List.nil_append]
  refine Ow.pop X hx (pc := 9) (hb hby d24_9) rfl ?_
  exact Ow.vreturn X hx hlk hret (hb hby d24_10) ⟨rfl, eT, rfl⟩ (by decide) (by decide)
theorem d29_0 : decode jdk_65_method_131_code 0 = .ok (.iload_n 1, 1) := by decide +kernel
theorem d29_1 : decode jdk_65_method_131_code 1 = .ok (.iload_n 0, 1) := by decide +kernel
theorem d29_2 : decode jdk_65_method_131_code 2 = .ok (.if_icmp .ge 35, 3) := by decide +kernel
theorem d29_5 : decode jdk_65_method_131_code 5 = .ok (.new 43, 3) := by decide +kernel
theorem d29_8 : decode jdk_65_method_131_code 8 = .ok (.dup, 1) := by decide +kernel
theorem d29_9 : decode jdk_65_method_131_code 9 = .ok (.new 45, 3) := by decide +kernel
theorem d29_12 : decode jdk_65_method_131_code 12 = .ok (.dup, 1) := by decide +kernel
theorem d29_13 : decode jdk_65_method_131_code 13 = .ok (.invokespecial 47, 3) := by decide +kernel
theorem d29_16 : decode jdk_65_method_131_code 16 = .ok (.iload_n 0, 1) := by decide +kernel
theorem d29_17 : decode jdk_65_method_131_code 17 = .ok (.invokevirtual 54, 3) := by decide +kernel
theorem d29_20 : decode jdk_65_method_131_code 20 = .ok (.ldc_w 337, 3) := by decide +kernel
theorem d29_23 : decode jdk_65_method_131_code 23 = .ok (.invokevirtual 50, 3) := by decide +kernel
theorem d29_26 : decode jdk_65_method_131_code 26 = .ok (.iload_n 1, 1) := by decide +kernel
theorem d29_27 : decode jdk_65_method_131_code 27 = .ok (.invokevirtual 54, 3) := by decide +kernel
theorem d29_30 : decode jdk_65_method_131_code 30 = .ok (.invokevirtual 61, 3) := by decide +kernel
theorem d29_33 : decode jdk_65_method_131_code 33 = .ok (.invokespecial 65, 3) := by decide +kernel
theorem d29_36 : decode jdk_65_method_131_code 36 = .ok (.athrow, 1) := by decide +kernel
theorem d29_37 : decode jdk_65_method_131_code 37 = .ok (.return_, 1) := by decide +kernel
set_option maxRecDepth 65536 in
set_option maxHeartbeats 4000000 in
theorem c_checkLength (l : Launch) (Z : State) (a0 : Array Value) (hw : ∀ d ∈ tables_1, d.before a0 Z = true) (h0 : Heap) (i j : Nat) (hij : i ≤ j) (hj : j < 2147483648) : Ow.Pay l Z (⟨"java/util/Arrays", "checkLength", "(II)V"⟩ : MethodName) jdk_65_method_131_code 2 none ({ frames := 0, cells := 0, slots := 0, locals := 0 } : Room) #[(.int (Int32.ofNat i)), (.int (Int32.ofNat j))] h0 (fun v h L => v = none ∧ h = h0 ∧ L = []) := by
  refine Ow.Pay.of (Ls := #[.val (.int (Int32.ofNat i)), .val (.int (Int32.ofNat j))]) (plainFor_of_name pn3) (fun m => by first | rfl | (simp [entryFrame, mkF, argsToLocals, Value.category]; done)) ?_
  intro p e s m below meth c T hx hby hml hown hnm hme hZ hret hlk X eT
  refine Ow.iloadN X hx (pc := 0) (hb hby d29_0) rfl ?_
  refine Ow.iloadN X hx (pc := 1) (hb hby d29_1) rfl ?_
  refine Ow.icmp_ge X hx (pc := 2) (pc' := 37) (hb hby d29_2) (by decide) (by decide) (fun h2 => ?_) (fun q => absurd ((Ow.n_lt (by omega) (by omega)).mp q) (by omega))
  exact Ow.vreturn X hx hlk hret (hb hby d29_37) ⟨rfl, eT, rfl⟩ (by decide) (by decide)
theorem d28_0 : decode jdk_65_method_133_code 0 = .ok (.iload_n 1, 1) := by decide +kernel
theorem d28_1 : decode jdk_65_method_133_code 1 = .ok (.iload_n 2, 1) := by decide +kernel
theorem d28_2 : decode jdk_65_method_133_code 2 = .ok (.invokestatic 343, 3) := by decide +kernel
theorem d28_5 : decode jdk_65_method_133_code 5 = .ok (.iload_n 2, 1) := by decide +kernel
theorem d28_6 : decode jdk_65_method_133_code 6 = .ok (.iload_n 1, 1) := by decide +kernel
theorem d28_7 : decode jdk_65_method_133_code 7 = .ok (.isub, 1) := by decide +kernel
theorem d28_8 : decode jdk_65_method_133_code 8 = .ok (.istore_n 3, 1) := by decide +kernel
theorem d28_9 : decode jdk_65_method_133_code 9 = .ok (.iload_n 3, 1) := by decide +kernel
theorem d28_10 : decode jdk_65_method_133_code 10 = .ok (.newarray .byte, 2) := by decide +kernel
theorem d28_12 : decode jdk_65_method_133_code 12 = .ok (.astore 4, 2) := by decide +kernel
theorem d28_14 : decode jdk_65_method_133_code 14 = .ok (.aload_n 0, 1) := by decide +kernel
theorem d28_15 : decode jdk_65_method_133_code 15 = .ok (.iload_n 1, 1) := by decide +kernel
theorem d28_16 : decode jdk_65_method_133_code 16 = .ok (.aload 4, 2) := by decide +kernel
theorem d28_18 : decode jdk_65_method_133_code 18 = .ok (.iconst 0, 1) := by decide +kernel
theorem d28_19 : decode jdk_65_method_133_code 19 = .ok (.aload_n 0, 1) := by decide +kernel
theorem d28_20 : decode jdk_65_method_133_code 20 = .ok (.arraylength, 1) := by decide +kernel
theorem d28_21 : decode jdk_65_method_133_code 21 = .ok (.iload_n 1, 1) := by decide +kernel
theorem d28_22 : decode jdk_65_method_133_code 22 = .ok (.isub, 1) := by decide +kernel
theorem d28_23 : decode jdk_65_method_133_code 23 = .ok (.iload_n 3, 1) := by decide +kernel
theorem d28_24 : decode jdk_65_method_133_code 24 = .ok (.invokestatic 304, 3) := by decide +kernel
theorem d28_27 : decode jdk_65_method_133_code 27 = .ok (.invokestatic 150, 3) := by decide +kernel
theorem d28_30 : decode jdk_65_method_133_code 30 = .ok (.aload 4, 2) := by decide +kernel
theorem d28_32 : decode jdk_65_method_133_code 32 = .ok (.areturn, 1) := by decide +kernel
set_option maxRecDepth 65536 in
set_option maxHeartbeats 4000000 in
theorem c_corb (l : Launch) (Z : State) (a0 : Array Value) (hw : ∀ d ∈ tables_1, d.before a0 Z = true) (h0 : Heap) (t : Addr) (kb : ClassId) (bs : List Int32) (i j : Nat) (A : Ow.AL Z h0 t kb .byte (bs.map Value.int)) (hfit : ∀ v ∈ bs.map Value.int, fits .byte v = true) (hij : i ≤ j) (hj : j ≤ bs.length) (hcap : bs.length ≤ 6) : Ow.Pay l Z (⟨"java/util/Arrays", "copyOfRangeByte", "([BII)[B"⟩ : MethodName) jdk_65_method_133_code 5 (some (.array .byte)) ({ frames := 1, cells := 1, slots := 6, locals := 18 } : Room) #[(.ref t), (.int (Int32.ofNat i)), (.int (Int32.ofNat j))] h0 (fun v h L => ∃ d kd, v = some (.ref d) ∧ Ow.Eff h0 h [] L ∧ h0.size ≤ d ∧ Ow.AL Z h d kd .byte (((bs.drop i).take (j - i)).map Value.int)) := by
  refine Ow.Pay.of (Ls := #[.val (.ref t), .val (.int (Int32.ofNat i)), .val (.int (Int32.ofNat j)), .unset, .unset]) (plainFor_of_name pn3) (fun m => by first | rfl | (simp [entryFrame, mkF, argsToLocals, Value.category]; done)) ?_
  intro p e s m below meth c T hx hby hml hown hnm hme hZ hret hlk X eT
  have F := Ow.Eff.refl h0 []
  refine Ow.iloadN X hx (pc := 0) (hb hby d28_0) rfl ?_
  refine Ow.iloadN X hx (pc := 1) (hb hby d28_1) rfl ?_
  refine Ow.callSP X hx hZ (c_checkLength l Z a0 hw _ i j hij (by omega)) rfl rfl eT hown (ww hw 131 rfl) (ww hw 132 rfl) (ww hw 126 rfl) (ww hw 133 rfl) (by decide) pd10 (by rw [hml]; rfl) (argsL := [_, _]) rfl rfl rfl (pc := 2) (hb hby d28_2) rfl rfl (by decide) (by decide) ?_   -- java/util/Arrays.checkLength:(II)V
  intro T X eT
  dsimp only [Option.toList_some, Option.toList_none, List.cons_append, List.nil_append]
  refine Ow.iloadN X hx (pc := 5) (hb hby d28_5) rfl ?_
  refine Ow.iloadN X hx (pc := 6) (hb hby d28_6) rfl ?_
  refine Ow.isub X hx (pc := 7) (hb hby d28_7) ?_
  rw [own_sub hij]
  refine Ow.istoreN X hx (pc := 8) #[_, _, _, _, _] (hb hby d28_8) rfl ?_
  refine Ow.iloadN X hx (pc := 9) (hb hby d28_9) rfl ?_
  refine Ow.newarrayL X hx hZ (ww hw 19 rfl) eT 6 (List.replicate (j - i) (.int 0)) (by rw [Ow.n_cl (by omega)]; rfl) (pc := 10) (hb hby d28_10) (Ow.n_nn (by omega)) (by rw [Ow.n_cl (by omega)]; omega) (by decide) (by decide) (by decide) ?_
  intro T h_d k_d d ha_d X eT E_d B_d
  have l_d : h0.size ≤ d := by rw [ha_d]; exact F.size
  have ne_t_d : t ≠ d := by rw [ha_d]; exact Nat.ne_of_lt A.lt
  have A := A.ext E_d
  have F := F.ext E_d
  refine Ow.astore X hx (pc := 12) #[_, _, _, _, _] (hb hby d28_12) rfl rfl ?_
  refine Ow.aloadN X hx (pc := 14) (hb hby d28_14) rfl rfl ?_
  refine Ow.iloadN X hx (pc := 15) (hb hby d28_15) rfl ?_
  refine Ow.aload X hx (pc := 16) (hb hby d28_16) rfl rfl ?_
  refine Ow.iconst X hx (pc := 18) (0) (hb hby d28_18) (by decide) ?_
  refine Ow.aloadN X hx (pc := 19) (hb hby d28_19) rfl rfl ?_
  refine Ow.lengthL X hx hZ eT A (Int32.ofNat bs.length) (by rw [List.length_map]) (pc := 20) (hb hby d28_20) ?_
  refine Ow.iloadN X hx (pc := 21) (hb hby d28_21) rfl ?_
  refine Ow.isub X hx (pc := 22) (hb hby d28_22) ?_
  rw [own_sub (show i ≤ bs.length by omega)]
  refine Ow.iloadN X hx (pc := 23) (hb hby d28_23) rfl ?_
  refine Ow.callSP X hx hZ (c_min l Z a0 hw _ _ _) rfl rfl eT hown (ww hw 134 rfl) (ww hw 77 rfl) (ww hw 74 rfl) (ww hw 78 rfl) (by decide) pd2 (by rw [hml]; rfl) (argsL := [_, _]) rfl rfl rfl (pc := 24) (hb hby d28_24) rfl rfl (by decide) (by decide) ?_   -- java/lang/Math.min:(II)I
  intro T X eT
  dsimp only [Option.toList_some, Option.toList_none, List.cons_append, List.nil_append]
  rw [show (if Int32.ofNat (j - i) < Int32.ofNat (bs.length - i) then Int32.ofNat (j - i) else Int32.ofNat (bs.length - i)) = Int32.ofNat (j - i) from by
    split
    · rfl
    · rename_i q; rw [Ow.n_lt (by omega) (by omega)] at q; congr 1; omega]
  refine Ow.arraycopyB X hx hZ eT hown (ww hw 135 rfl) (ww hw 138 rfl) (ww hw 136 rfl) (ww hw 137 rfl) A B_d hfit i 0 (j - i) (by rw [List.length_map]; omega) (by rw [List.length_replicate]; omega) (by rw [List.length_map]; omega) (by rw [List.length_replicate]; omega) (((bs.drop i).take (j - i)).map Value.int) (by simp [List.map_take, List.map_drop]) (by rw [hml]; rfl) (pc := 27) (hb hby d28_27) rfl rfl ?_
  intro T h_27 L X eT F2 B_d
  have F := F.call F2 (fun y hy => by cases List.mem_singleton.mp hy; exact Or.inr l_d)
  refine Ow.aload X hx (pc := 30) (hb hby d28_30) rfl rfl ?_
  exact Ow.areturn X hx hlk hret rfl rfl rfl (hb hby d28_32) ⟨d, _, rfl, by rw [eT]; exact F, l_d, by rw [eT]; exact B_d⟩ (by decide) (by decide)
theorem d27_0 : decode jdk_65_method_132_code 0 = .ok (.iload_n 1, 1) := by decide +kernel
theorem d27_1 : decode jdk_65_method_132_code 1 = .ok (.ifCond .ne 9, 3) := by decide +kernel
theorem d27_4 : decode jdk_65_method_132_code 4 = .ok (.iload_n 2, 1) := by decide +kernel
theorem d27_5 : decode jdk_65_method_132_code 5 = .ok (.aload_n 0, 1) := by decide +kernel
theorem d27_6 : decode jdk_65_method_132_code 6 = .ok (.arraylength, 1) := by decide +kernel
theorem d27_7 : decode jdk_65_method_132_code 7 = .ok (.if_icmp .eq 10, 3) := by decide +kernel
theorem d27_10 : decode jdk_65_method_132_code 10 = .ok (.aload_n 0, 1) := by decide +kernel
theorem d27_11 : decode jdk_65_method_132_code 11 = .ok (.iload_n 1, 1) := by decide +kernel
theorem d27_12 : decode jdk_65_method_132_code 12 = .ok (.iload_n 2, 1) := by decide +kernel
theorem d27_13 : decode jdk_65_method_132_code 13 = .ok (.invokestatic 339, 3) := by decide +kernel
theorem d27_16 : decode jdk_65_method_132_code 16 = .ok (.areturn, 1) := by decide +kernel
theorem d27_17 : decode jdk_65_method_132_code 17 = .ok (.aload_n 0, 1) := by decide +kernel
theorem d27_18 : decode jdk_65_method_132_code 18 = .ok (.invokevirtual 310, 3) := by decide +kernel
theorem d27_21 : decode jdk_65_method_132_code 21 = .ok (.checkcast 311, 3) := by decide +kernel
theorem d27_24 : decode jdk_65_method_132_code 24 = .ok (.areturn, 1) := by decide +kernel
set_option maxRecDepth 65536 in
set_option maxHeartbeats 4000000 in
theorem c_cor (l : Launch) (Z : State) (a0 : Array Value) (hw : ∀ d ∈ tables_1, d.before a0 Z = true) (h0 : Heap) (t : Addr) (kb : ClassId) (bs : List Int32) (i j : Nat) (A : Ow.AL Z h0 t kb .byte (bs.map Value.int)) (hfit : ∀ v ∈ bs.map Value.int, fits .byte v = true) (hij : i ≤ j) (hj : j ≤ bs.length) (hcap : bs.length ≤ 6) (hno : ¬ (i = 0 ∧ j = bs.length)) : Ow.Pay l Z (⟨"java/util/Arrays", "copyOfRange", "([BII)[B"⟩ : MethodName) jdk_65_method_132_code 3 (some (.array .byte)) ({ frames := 2, cells := 1, slots := 6, locals := 34 } : Room) #[(.ref t), (.int (Int32.ofNat i)), (.int (Int32.ofNat j))] h0 (fun v h L => ∃ d kd, v = some (.ref d) ∧ Ow.Eff h0 h [] L ∧ h0.size ≤ d ∧ Ow.AL Z h d kd .byte (((bs.drop i).take (j - i)).map Value.int)) := by
  refine Ow.Pay.of (Ls := #[.val (.ref t), .val (.int (Int32.ofNat i)), .val (.int (Int32.ofNat j))]) (plainFor_of_name pn3) (fun m => by first | rfl | (simp [entryFrame, mkF, argsToLocals, Value.category]; done)) ?_
  intro p e s m below meth c T hx hby hml hown hnm hme hZ hret hlk X eT
  refine Ow.iloadN X hx (pc := 0) (hb hby d27_0) rfl ?_
  refine Ow.if_ne X hx (pc := 1) (pc' := 10) (hb hby d27_1) (by decide) (by decide) (fun h1 => ?_) (fun h1 => ?_)
  · refine Ow.aloadN X hx (pc := 10) (hb hby d27_10) rfl rfl ?_
    refine Ow.iloadN X hx (pc := 11) (hb hby d27_11) rfl ?_
    refine Ow.iloadN X hx (pc := 12) (hb hby d27_12) rfl ?_
    refine Ow.callS X hx hZ (c_corb l Z a0 hw _ t kb bs i j A hfit hij hj hcap) eT hown (ww hw 128 rfl) (ww hw 129 rfl) (ww hw 126 rfl) (ww hw 130 rfl) (by decide) pd13 (by rw [hml]; rfl) (argsL := [_, _, _]) rfl rfl rfl (pc := 13) (hb hby d27_13) rfl rfl (by decide) (by decide) ?_
    rintro _ T L X ⟨d, kd, rfl, F2, l2, B2⟩
    dsimp only [Option.toList_some, Option.toList_none, List.cons_append, List.nil_append]
    exact Ow.areturn X hx hlk hret rfl rfl rfl (hb hby d27_16) ⟨d, kd, rfl, F2, l2, B2⟩ (by decide) (by decide)
  · refine Ow.iloadN X hx (pc := 4) (hb hby d27_4) rfl ?_
    refine Ow.aloadN X hx (pc := 5) (hb hby d27_5) rfl rfl ?_
    refine Ow.lengthL X hx hZ eT A (Int32.ofNat bs.length) (by rw [List.length_map]) (pc := 6) (hb hby d27_6) ?_
    refine Ow.icmp_eq X hx (pc := 7) (pc' := 17) (hb hby d27_7) (by decide) (by decide) (fun q => (hno ⟨(Ow.n_eq (n := 0) (by omega) (by omega)).mp h1, (Ow.n_eq (by omega) (by omega)).mp q⟩).elim) (fun h7 => ?_)
    refine Ow.aloadN X hx (pc := 10) (hb hby d27_10) rfl rfl ?_
    refine Ow.iloadN X hx (pc := 11) (hb hby d27_11) rfl ?_
    refine Ow.iloadN X hx (pc := 12) (hb hby d27_12) rfl ?_
    refine Ow.callS X hx hZ (c_corb l Z a0 hw _ t kb bs i j A hfit hij hj hcap) eT hown (ww hw 128 rfl) (ww hw 129 rfl) (ww hw 126 rfl) (ww hw 130 rfl) (by decide) pd13 (by rw [hml]; rfl) (argsL := [_, _, _]) rfl rfl rfl (pc := 13) (hb hby d27_13) rfl rfl (by decide) (by decide) ?_
    rintro _ T L X ⟨d, kd, rfl, F2, l2, B2⟩
    dsimp only [Option.toList_some, Option.toList_none, List.cons_append, List.nil_append]
    exact Ow.areturn X hx hlk hret rfl rfl rfl (hb hby d27_16) ⟨d, kd, rfl, F2, l2, B2⟩ (by decide) (by decide)
theorem d30_0 : decode jdk_42_method_151_code 0 = .ok (.aload_n 0, 1) := by decide +kernel
theorem d30_1 : decode jdk_42_method_151_code 1 = .ok (.invokespecial 1, 3) := by decide +kernel
theorem d30_4 : decode jdk_42_method_151_code 4 = .ok (.aload_n 0, 1) := by decide +kernel
theorem d30_5 : decode jdk_42_method_151_code 5 = .ok (.aload_n 1, 1) := by decide +kernel
theorem d30_6 : decode jdk_42_method_151_code 6 = .ok (.putfield 9, 3) := by decide +kernel
theorem d30_9 : decode jdk_42_method_151_code 9 = .ok (.aload_n 0, 1) := by decide +kernel
theorem d30_10 : decode jdk_42_method_151_code 10 = .ok (.iload_n 2, 1) := by decide +kernel
theorem d30_11 : decode jdk_42_method_151_code 11 = .ok (.putfield 15, 3) := by decide +kernel
theorem d30_14 : decode jdk_42_method_151_code 14 = .ok (.return_, 1) := by decide +kernel
set_option maxRecDepth 65536 in
set_option maxHeartbeats 4000000 in
theorem c_strBB (l : Launch) (Z : State) (a0 : Array Value) (hw : ∀ d ∈ tables_1, d.before a0 Z = true) (h0 : Heap) (a t : Addr) (v0 c0 : Value) (A : Exa Z h0 a "java/lang/String") (V0 : Fld Z h0 a "java/lang/String" "value" "[B" v0) (C0 : Fld Z h0 a "java/lang/String" "coder" "B" c0) : Ow.Pay l Z (⟨"java/lang/String", "<init>", "([BB)V"⟩ : MethodName) jdk_42_method_151_code 3 none ({ frames := 1, cells := 0, slots := 0, locals := 12 } : Room) #[(.ref a), (.ref t), (.int 0)] h0 (fun v h L => v = none ∧ Ow.Eff h0 h [a] L ∧ Exa Z h a "java/lang/String" ∧ Fld Z h a "java/lang/String" "coder" "B" (.int 0) ∧ Fld Z h a "java/lang/String" "value" "[B" (.ref t)) := by
  refine Ow.Pay.of (Ls := #[.val (.ref a), .val (.ref t), .val (.int 0)]) (plainFor_of_name pn0) (fun m => by first | rfl | (simp [entryFrame, mkF, argsToLocals, Value.category]; done)) ?_
  intro p e s m below meth c T hx hby hml hown hnm hme hZ hret hlk X eT
  have F := Ow.Eff.refl h0 [a]
  have hni := (name_of_methodNamed hnm hme).1
  have hsl : RoadKit.slotOf Z "java/lang/String" "coder" "B" ≠ RoadKit.slotOf Z "java/lang/String" "value" "[B" := slot_ne (a0 := a0) (C := "java/lang/String") (Or.inr (ww hw 21 rfl)) (Or.inr (ww hw 20 rfl)) (by decide) (t := .byte) (t' := .array .byte) (by decide) (by decide)
  refine Ow.aloadN X hx (pc := 0) (hb hby d30_0) rfl rfl ?_
  refine Ow.objinit X hx hZ hown (ww hw 15 rfl) (ww hw 16 rfl) (ww hw 17 rfl) eT (by rw [hml]; rfl) (pc := 1) (hb hby d30_1) rfl rfl ?_
  intro T X eT
  refine Ow.aloadN X hx (pc := 4) (hb hby d30_4) rfl rfl ?_
  refine Ow.aloadN X hx (pc := 5) (hb hby d30_5) rfl rfl ?_
  refine Ow.putfield X hx hZ hown (ww hw 24 rfl) Via.refl eT V0 A (Or.inr ⟨(ww hw 20 rfl), rfl, hni⟩) (ww hw 6 rfl) (ty := .array .byte) (by decide) rfl rfl (pc := 6) (hb hby d30_6) ?_
  intro T h_6 X eT W_6
  have V0 := V0.same W_6
  have C0 := C0.other W_6 (Or.inr hsl)
  have A := A.wr W_6
  have F := F.wr W_6 (Or.inl (by simp))
  refine Ow.aloadN X hx (pc := 9) (hb hby d30_9) rfl rfl ?_
  refine Ow.iloadN X hx (pc := 10) (hb hby d30_10) rfl ?_
  refine Ow.putfield X hx hZ hown (ww hw 25 rfl) Via.refl eT C0 A (Or.inr ⟨(ww hw 21 rfl), rfl, hni⟩) (ww hw 6 rfl) (ty := .byte) (by decide) rfl rfl (pc := 11) (hb hby d30_11) ?_
  intro T h_11 X eT W_11
  have V0 := V0.other W_11 (Or.inr (Ne.symm hsl))
  have C0 := C0.same W_11
  have A := A.wr W_11
  have F := F.wr W_11 (Or.inl (by simp))
  exact Ow.vreturn X hx hlk hret (hb hby d30_14) ⟨rfl, by rw [eT]; exact F, by rw [eT]; exact A, by rw [eT]; exact C0, by rw [eT]; exact V0⟩ (by decide) (by decide)
theorem d26_0 : decode jdk_43_method_47_code 0 = .ok (.iload_n 2, 1) := by decide +kernel
theorem d26_1 : decode jdk_43_method_47_code 1 = .ok (.ifCond .ne 6, 3) := by decide +kernel
theorem d26_4 : decode jdk_43_method_47_code 4 = .ok (.ldc 151, 2) := by decide +kernel
theorem d26_6 : decode jdk_43_method_47_code 6 = .ok (.areturn, 1) := by decide +kernel
theorem d26_7 : decode jdk_43_method_47_code 7 = .ok (.new 1, 3) := by decide +kernel
theorem d26_10 : decode jdk_43_method_47_code 10 = .ok (.dup, 1) := by decide +kernel
theorem d26_11 : decode jdk_43_method_47_code 11 = .ok (.aload_n 0, 1) := by decide +kernel
theorem d26_12 : decode jdk_43_method_47_code 12 = .ok (.iload_n 1, 1) := by decide +kernel
theorem d26_13 : decode jdk_43_method_47_code 13 = .ok (.iload_n 1, 1) := by decide +kernel
theorem d26_14 : decode jdk_43_method_47_code 14 = .ok (.iload_n 2, 1) := by decide +kernel
theorem d26_15 : decode jdk_43_method_47_code 15 = .ok (.iadd, 1) := by decide +kernel
theorem d26_16 : decode jdk_43_method_47_code 16 = .ok (.invokestatic 232, 3) := by decide +kernel
theorem d26_19 : decode jdk_43_method_47_code 19 = .ok (.iconst 0, 1) := by decide +kernel
theorem d26_20 : decode jdk_43_method_47_code 20 = .ok (.invokespecial 112, 3) := by decide +kernel
theorem d26_23 : decode jdk_43_method_47_code 23 = .ok (.areturn, 1) := by decide +kernel
set_option maxRecDepth 65536 in
set_option maxHeartbeats 4000000 in
theorem c_newString (l : Launch) (Z : State) (a0 : Array Value) (hw : ∀ d ∈ tables_1, d.before a0 Z = true) (h0 : Heap) (t : Addr) (kb : ClassId) (bs : List Int32) (i n : Nat) (A : Ow.AL Z h0 t kb .byte (bs.map Value.int)) (hfit : ∀ v ∈ bs.map Value.int, fits .byte v = true) (hn : 0 < n) (hj : i + n ≤ bs.length) (hcap : bs.length ≤ 6) (hno : ¬ (i = 0 ∧ i + n = bs.length)) : Ow.Pay l Z (⟨"java/lang/StringLatin1", "newString", "([BII)Ljava/lang/String;"⟩ : MethodName) jdk_43_method_47_code 3 (some (.object "java/lang/String")) ({ frames := 3, cells := 2, slots := 10, locals := 50 } : Room) #[(.ref t), (.int (Int32.ofNat i)), (.int (Int32.ofNat n))] h0 (fun v h L => ∃ x d kd, v = some (.ref x) ∧ Ow.Eff h0 h [] L ∧ Ow.Str Z h x d kd ((bs.drop i).take n)) := by
  refine Ow.Pay.of (Ls := #[.val (.ref t), .val (.int (Int32.ofNat i)), .val (.int (Int32.ofNat n))]) (plainFor_of_name pn1) (fun m => by first | rfl | (simp [entryFrame, mkF, argsToLocals, Value.category]; done)) ?_
  intro p e s m below meth c T hx hby hml hown hnm hme hZ hret hlk X eT
  have F := Ow.Eff.refl h0 []
  refine Ow.iloadN X hx (pc := 0) (hb hby d26_0) rfl ?_
  refine Ow.if_ne X hx (pc := 1) (pc' := 7) (hb hby d26_1) (by decide) (by decide) (fun h1 => ?_) (fun q => absurd ((Ow.n_eq (n := 0) (by omega) (by omega)).mp q) (by omega))
  refine Ow.new_ X hx hZ hown (ww hw 123 rfl) (ww hw 6 rfl) (ww hw 7 rfl) eT (pc := 7) (hb hby d26_7) (by decide) (by decide) ?_
  intro T h_x x ha_x X eT E_x A_x D_x U_x
  have l_x : h0.size ≤ x := by rw [ha_x]; exact F.size
  have ne_t_x : t ≠ x := by rw [ha_x]; exact Nat.ne_of_lt A.lt
  have A := A.ext E_x
  have F := F.ext E_x
  have V0 := D_x (Or.inr (ww hw 20 rfl)) (ty := .array .byte) (by decide)
  have C0 := D_x (Or.inr (ww hw 21 rfl)) (ty := .byte) (by decide)
  refine Ow.dup X hx (pc := 10) (hb hby d26_10) rfl ?_
  refine Ow.aloadN X hx (pc := 11) (hb hby d26_11) rfl rfl ?_
  refine Ow.iloadN X hx (pc := 12) (hb hby d26_12) rfl ?_
  refine Ow.iloadN X hx (pc := 13) (hb hby d26_13) rfl ?_
  refine Ow.iloadN X hx (pc := 14) (hb hby d26_14) rfl ?_
  refine Ow.iadd X hx (pc := 15) (hb hby d26_15) ?_
  rw [← Int32.ofNat_add]
  refine Ow.callS X hx hZ (c_cor l Z a0 hw _ t kb bs i (i + n) A hfit (by omega) (by omega) hcap hno) eT hown (ww hw 124 rfl) (ww hw 125 rfl) (ww hw 126 rfl) (ww hw 127 rfl) (by decide) pd13 (by rw [hml]; rfl) (argsL := [_, _, _]) rfl rfl rfl (pc := 16) (hb hby d26_16) rfl rfl (by decide) (by decide) ?_
  rintro _ T L X ⟨d, kd, rfl, F2, l2, B2⟩
  dsimp only [Option.toList_some, Option.toList_none, List.cons_append, List.nil_append]
  have E2 := Ow.Keep.ext0 F2.1
  have F := F.call F2 (fun _ q => nomatch q)
  have A := A.ext E2
  have A_x := A_x.ext E2
  have V0 := V0.ext E2
  have C0 := C0.ext E2
  have eT : T.heap = T.heap := rfl
  refine Ow.iconst X hx (pc := 19) (0) (hb hby d26_19) (by decide) ?_
  have A_x0 := A_x
  refine Ow.callI X hx hZ (c_strBB l Z a0 hw _ _ _ _ _ A_x V0 C0) eT rfl hown (ww hw 139 rfl) (ww hw 140 rfl) (ww hw 7 rfl) (ww hw 141 rfl) (by decide) pd14 (by rw [hml]; rfl) (argsL := [_, _]) rfl rfl rfl (pc := 20) (hb hby d26_20) rfl rfl (by decide) (by decide) ?_
  rintro _ T L X ⟨rfl, F3, A_x, C1, V1⟩
  dsimp only [Option.toList_some, Option.toList_none, List.cons_append, List.nil_append]
  have F := F.call F3 (fun y hy => by cases List.mem_singleton.mp hy; exact Or.inr l_x)
  have B2 := B2.keep F3.1 (Ow.nin1 (Ne.symm (own_neAL A_x0 B2 (ww hw 6 rfl))))
  exact Ow.areturn X hx hlk hret rfl rfl rfl (hb hby d26_23) ⟨x, d, kd, rfl, F, A_x, C1, V1, by rw [show i + n - i = n by omega] at B2; exact B2⟩ (by decide) (by decide)
set_option maxRecDepth 65536 in
set_option maxHeartbeats 4000000 in
theorem c_newStringE (l : Launch) (Z : State) (a0 : Array Value) (hw : ∀ d ∈ tables_1, d.before a0 Z = true) (hEL : EW Z a0 EL) (h0 : Heap) (t : Addr) (k : Int32) : Ow.PayW l Z EL [] (⟨"java/lang/StringLatin1", "newString", "([BII)Ljava/lang/String;"⟩ : MethodName) jdk_43_method_47_code 3 (some (.object "java/lang/String")) ({ frames := 0, cells := 2, slots := 4, locals := 0 } : Room) #[(.ref t), (.int k), (.int 0)] h0 (fun v h L => ∃ x d kd, v = some (.ref x) ∧ Ow.Eff h0 h [] L ∧ Ow.Str Z h x d kd []) := by
  refine Ow.PayW.of (Ls := #[.val (.ref t), .val (.int k), .val (.int 0)]) (plainFor_of_name pn1) (fun m => by first | rfl | (simp [entryFrame, mkF, argsToLocals, Value.category]; done)) ?_
  intro p e s m below meth c T vm0 hx hby hml hown hnm hme hret hlk X eT D hsf
  have wS : ∀ a ∈ Bundle.stringAtoms, a.before a0 Z = true := fun d hd => hw d ((by decide +kernel : ∀ d ∈ Bundle.stringAtoms, d ∈ tables_1) d hd)
  refine Ow.iloadN X hx (pc := 0) (hb hby d26_0) rfl ?_
  refine Ow.if_ne X hx (pc := 1) (pc' := 7) (hb hby d26_1) (by decide) (by decide) (fun q => absurd rfl q) (fun h1 => ?_)
  refine Ow.ldcS X hx eT D hEL hown (ww hw 226 rfl) wS (by decide) (vs := []) (z := 0) (by decide) (by decide) (by decide) (pc := 4) (hb hby d26_4) 0 (by decide) (by decide) (by decide) (by decide) ?_
  intro vm1 a1 T h1 b1 k1 X eT E1 D hown C1 A1 F1c F1v V1 ne1
  exact Ow.areturnW X hx eT D hEL hlk hret rfl rfl rfl (hb hby d26_6) ⟨a1, b1, k1, rfl, by rw [eT]; exact (Ow.Eff.refl h0 []).ext E1, by rw [eT]; exact ⟨A1, F1c, F1v, Ow.AL.of_arv V1 rfl⟩⟩ (by decide) (by decide)
theorem d23_0 : decode jdk_42_method_92_code 0 = .ok (.aload_n 0, 1) := by decide +kernel
theorem d23_1 : decode jdk_42_method_92_code 1 = .ok (.invokevirtual 505, 3) := by decide +kernel
theorem d23_4 : decode jdk_42_method_92_code 4 = .ok (.istore_n 3, 1) := by decide +kernel
theorem d23_5 : decode jdk_42_method_92_code 5 = .ok (.iload_n 1, 1) := by decide +kernel
theorem d23_6 : decode jdk_42_method_92_code 6 = .ok (.iload_n 2, 1) := by decide +kernel
theorem d23_7 : decode jdk_42_method_92_code 7 = .ok (.iload_n 3, 1) := by decide +kernel
theorem d23_8 : decode jdk_42_method_92_code 8 = .ok (.invokestatic 521, 3) := by decide +kernel
theorem d23_11 : decode jdk_42_method_92_code 11 = .ok (.iload_n 1, 1) := by decide +kernel
theorem d23_12 : decode jdk_42_method_92_code 12 = .ok (.ifCond .ne 10, 3) := by decide +kernel
theorem d23_15 : decode jdk_42_method_92_code 15 = .ok (.iload_n 2, 1) := by decide +kernel
theorem d23_16 : decode jdk_42_method_92_code 16 = .ok (.iload_n 3, 1) := by decide +kernel
theorem d23_17 : decode jdk_42_method_92_code 17 = .ok (.if_icmp .ne 5, 3) := by decide +kernel
theorem d23_20 : decode jdk_42_method_92_code 20 = .ok (.aload_n 0, 1) := by decide +kernel
theorem d23_21 : decode jdk_42_method_92_code 21 = .ok (.areturn, 1) := by decide +kernel
theorem d23_22 : decode jdk_42_method_92_code 22 = .ok (.iload_n 2, 1) := by decide +kernel
theorem d23_23 : decode jdk_42_method_92_code 23 = .ok (.iload_n 1, 1) := by decide +kernel
theorem d23_24 : decode jdk_42_method_92_code 24 = .ok (.isub, 1) := by decide +kernel
theorem d23_25 : decode jdk_42_method_92_code 25 = .ok (.istore 4, 2) := by decide +kernel
theorem d23_27 : decode jdk_42_method_92_code 27 = .ok (.aload_n 0, 1) := by decide +kernel
theorem d23_28 : decode jdk_42_method_92_code 28 = .ok (.invokevirtual 492, 3) := by decide +kernel
theorem d23_31 : decode jdk_42_method_92_code 31 = .ok (.ifCond .eq 16, 3) := by decide +kernel
theorem d23_34 : decode jdk_42_method_92_code 34 = .ok (.aload_n 0, 1) := by decide +kernel
theorem d23_35 : decode jdk_42_method_92_code 35 = .ok (.getfield 9, 3) := by decide +kernel
theorem d23_38 : decode jdk_42_method_92_code 38 = .ok (.iload_n 1, 1) := by decide +kernel
theorem d23_39 : decode jdk_42_method_92_code 39 = .ok (.iload 4, 2) := by decide +kernel
theorem d23_41 : decode jdk_42_method_92_code 41 = .ok (.invokestatic 685, 3) := by decide +kernel
theorem d23_44 : decode jdk_42_method_92_code 44 = .ok (.goto 13, 3) := by decide +kernel
theorem d23_47 : decode jdk_42_method_92_code 47 = .ok (.aload_n 0, 1) := by decide +kernel
theorem d23_48 : decode jdk_42_method_92_code 48 = .ok (.getfield 9, 3) := by decide +kernel
theorem d23_51 : decode jdk_42_method_92_code 51 = .ok (.iload_n 1, 1) := by decide +kernel
theorem d23_52 : decode jdk_42_method_92_code 52 = .ok (.iload 4, 2) := by decide +kernel
theorem d23_54 : decode jdk_42_method_92_code 54 = .ok (.invokestatic 689, 3) := by decide +kernel
theorem d23_57 : decode jdk_42_method_92_code 57 = .ok (.areturn, 1) := by decide +kernel
set_option maxRecDepth 65536 in
set_option maxHeartbeats 4000000 in
theorem c_sub2 (l : Launch) (Z : State) (a0 : Array Value) (hw : ∀ d ∈ tables_1, d.before a0 Z = true) (h0 : Heap) (z : Int32) (fm : Value) (S : Sta Z h0 "java/lang/String" "COMPACT_STRINGS" "Z" (.int z)) (hz : ¬ z = 0) (Sf : Sta Z h0 "jdk/internal/util/Preconditions" "SIOOBE_FORMATTER" "Ljava/util/function/BiFunction;" fm) (hfm : fm.isRef = true) (x : Addr) (t : Addr) (kb : ClassId) (bs : List Int32) (St : Ow.Str Z h0 x t kb bs) (hfit : ∀ v ∈ bs.map Value.int, fits .byte v = true) (i j : Nat) (hcap : bs.length ≤ 6) (hij : i ≤ j) (hj : j ≤ bs.length) (hlt : i < j) (hno : ¬ (i = 0 ∧ j = bs.length)) : Ow.Pay l Z (⟨"java/lang/String", "substring", "(II)Ljava/lang/String;"⟩ : MethodName) jdk_42_method_92_code 5 (some (.object "java/lang/String")) ({ frames := 4, cells := 2, slots := 10, locals := 70 } : Room) #[(.ref x), (.int (Int32.ofNat i)), (.int (Int32.ofNat j))] h0 (fun v h L => ∃ x d kd, v = some (.ref x) ∧ Ow.Eff h0 h [] L ∧ Ow.Str Z h x d kd ((bs.drop i).take (j - i))) := by
  refine Ow.Pay.of (Ls := #[.val (.ref x), .val (.int (Int32.ofNat i)), .val (.int (Int32.ofNat j)), .unset, .unset]) (plainFor_of_name pn0) (fun m => by first | rfl | (simp [entryFrame, mkF, argsToLocals, Value.category]; done)) ?_
  intro p e s m below meth c T hx hby hml hown hnm hme hZ hret hlk X eT
  refine Ow.aloadN X hx (pc := 0) (hb hby d23_0) rfl rfl ?_
  refine Ow.callVP X hx hZ (c_length l Z a0 hw h0 z x t kb bs S hz St) rfl rfl eT hown (ww hw 55 rfl) (ww hw 56 rfl) (ww hw 58 rfl) (ww hw 57 rfl) (ww hw 7 rfl) (ww hw 59 rfl) (by decide) pd5 (by rw [hml]; rfl) St.1 (argsL := []) rfl rfl rfl (pc := 1) (hb hby d23_1) rfl rfl (by decide) (by decide) ?_   -- java/lang/String.length:()I
  intro T X eT
  dsimp only [Option.toList_some, Option.toList_none, List.cons_append, List.nil_append]
  refine Ow.istoreN X hx (pc := 4) #[_, _, _, _, _] (hb hby d23_4) rfl ?_
  refine Ow.iloadN X hx (pc := 5) (hb hby d23_5) rfl ?_
  refine Ow.iloadN X hx (pc := 6) (hb hby d23_6) rfl ?_
  refine Ow.iloadN X hx (pc := 7) (hb hby d23_7) rfl ?_
  refine Ow.callSP X hx hZ (c_checkBBE l Z a0 hw h0 fm Sf hfm i j bs.length hij hj (by omega)) rfl rfl eT hown (ww hw 112 rfl) (ww hw 113 rfl) (ww hw 7 rfl) (ww hw 114 rfl) (by decide) pd16 (by rw [hml]; rfl) (argsL := [_, _, _]) rfl rfl rfl (pc := 8) (hb hby d23_8) rfl rfl (by decide) (by decide) ?_   -- java/lang/String.checkBoundsBeginEnd:(III)V
  intro T X eT
  dsimp only [Option.toList_some, Option.toList_none, List.cons_append, List.nil_append]
  refine Ow.iloadN X hx (pc := 11) (hb hby d23_11) rfl ?_
  refine Ow.if_ne X hx (pc := 12) (pc' := 22) (hb hby d23_12) (by decide) (by decide) (fun h12 => ?_) (fun h12 => ?_)
  · refine Ow.iloadN X hx (pc := 22) (hb hby d23_22) rfl ?_
    refine Ow.iloadN X hx (pc := 23) (hb hby d23_23) rfl ?_
    refine Ow.isub X hx (pc := 24) (hb hby d23_24) ?_
    rw [own_sub hij]
    refine Ow.istore X hx (pc := 25) #[_, _, _, _, _] (hb hby d23_25) rfl ?_
    refine Ow.aloadN X hx (pc := 27) (hb hby d23_27) rfl rfl ?_
    refine Ow.callVP X hx hZ (c_isLatin1 l Z a0 hw h0 z x S hz St.2.1) rfl rfl eT hown (ww hw 49 rfl) (ww hw 50 rfl) (ww hw 52 rfl) (ww hw 51 rfl) (ww hw 7 rfl) (ww hw 53 rfl) (by decide) pd4 (by rw [hml]; rfl) St.1 (argsL := []) rfl rfl rfl (pc := 28) (hb hby d23_28) rfl rfl (by decide) (by decide) ?_   -- java/lang/String.isLatin1:()Z
    intro T X eT
    dsimp only [Option.toList_some, Option.toList_none, List.cons_append, List.nil_append]
    refine Ow.if_eq X hx (pc := 31) (pc' := 47) (hb hby d23_31) (by decide) (by decide) (fun q => absurd q (by decide)) (fun h31 => ?_)
    refine Ow.aloadN X hx (pc := 34) (hb hby d23_34) rfl rfl ?_
    refine Ow.getfield X hx hZ hown (ww hw 24 rfl) Via.refl eT St.2.2.1 (pc := 35) (hb hby d23_35) ?_   -- "java/lang/String" "value" "[B"
    intro T X eT
    refine Ow.iloadN X hx (pc := 38) (hb hby d23_38) rfl ?_
    refine Ow.iload X hx (pc := 39) (hb hby d23_39) rfl ?_
    refine Ow.callS X hx hZ (c_newString l Z a0 hw _ t kb bs i (j - i) St.2.2.2 hfit (by omega) (by omega) hcap (fun q => hno ⟨q.1, by omega⟩)) eT hown (ww hw 120 rfl) (ww hw 121 rfl) (ww hw 67 rfl) (ww hw 122 rfl) (by decide) pd15 (by rw [hml]; rfl) (argsL := [_, _, _]) rfl rfl rfl (pc := 41) (hb hby d23_41) rfl rfl (by decide) (by decide) ?_
    rintro _ T L X ⟨x1, d, kd, rfl, F2, S2⟩
    dsimp only [Option.toList_some, Option.toList_none, List.cons_append, List.nil_append]
    refine Ow.goto X hx (pc := 44) (pc' := 57) (hb hby d23_44) (by decide) (by decide) ?_
    exact Ow.areturn X hx hlk hret rfl rfl rfl (hb hby d23_57) ⟨x1, d, kd, rfl, F2, S2⟩ (by decide) (by decide)
  · refine Ow.iloadN X hx (pc := 15) (hb hby d23_15) rfl ?_
    refine Ow.iloadN X hx (pc := 16) (hb hby d23_16) rfl ?_
    refine Ow.icmp_ne X hx (pc := 17) (pc' := 22) (hb hby d23_17) (by decide) (by decide) (fun h17 => ?_) (fun q => (hno ⟨(Ow.n_eq (n := 0) (by omega) (by omega)).mp h12, (Ow.n_eq (by omega) (by omega)).mp q⟩).elim)
    refine Ow.iloadN X hx (pc := 22) (hb hby d23_22) rfl ?_
    refine Ow.iloadN X hx (pc := 23) (hb hby d23_23) rfl ?_
    refine Ow.isub X hx (pc := 24) (hb hby d23_24) ?_
    rw [own_sub hij]
    refine Ow.istore X hx (pc := 25) #[_, _, _, _, _] (hb hby d23_25) rfl ?_
    refine Ow.aloadN X hx (pc := 27) (hb hby d23_27) rfl rfl ?_
    refine Ow.callVP X hx hZ (c_isLatin1 l Z a0 hw h0 z x S hz St.2.1) rfl rfl eT hown (ww hw 49 rfl) (ww hw 50 rfl) (ww hw 52 rfl) (ww hw 51 rfl) (ww hw 7 rfl) (ww hw 53 rfl) (by decide) pd4 (by rw [hml]; rfl) St.1 (argsL := []) rfl rfl rfl (pc := 28) (hb hby d23_28) rfl rfl (by decide) (by decide) ?_   -- java/lang/String.isLatin1:()Z
    intro T X eT
    dsimp only [Option.toList_some, Option.toList_none, List.cons_append, List.nil_append]
    refine Ow.if_eq X hx (pc := 31) (pc' := 47) (hb hby d23_31) (by decide) (by decide) (fun q => absurd q (by decide)) (fun h31 => ?_)
    refine Ow.aloadN X hx (pc := 34) (hb hby d23_34) rfl rfl ?_
    refine Ow.getfield X hx hZ hown (ww hw 24 rfl) Via.refl eT St.2.2.1 (pc := 35) (hb hby d23_35) ?_   -- "java/lang/String" "value" "[B"
    intro T X eT
    refine Ow.iloadN X hx (pc := 38) (hb hby d23_38) rfl ?_
    refine Ow.iload X hx (pc := 39) (hb hby d23_39) rfl ?_
    refine Ow.callS X hx hZ (c_newString l Z a0 hw _ t kb bs i (j - i) St.2.2.2 hfit (by omega) (by omega) hcap (fun q => hno ⟨q.1, by omega⟩)) eT hown (ww hw 120 rfl) (ww hw 121 rfl) (ww hw 67 rfl) (ww hw 122 rfl) (by decide) pd15 (by rw [hml]; rfl) (argsL := [_, _, _]) rfl rfl rfl (pc := 41) (hb hby d23_41) rfl rfl (by decide) (by decide) ?_
    rintro _ T L X ⟨x1, d, kd, rfl, F2, S2⟩
    dsimp only [Option.toList_some, Option.toList_none, List.cons_append, List.nil_append]
    refine Ow.goto X hx (pc := 44) (pc' := 57) (hb hby d23_44) (by decide) (by decide) ?_
    exact Ow.areturn X hx hlk hret rfl rfl rfl (hb hby d23_57) ⟨x1, d, kd, rfl, F2, S2⟩ (by decide) (by decide)
set_option maxRecDepth 65536 in
set_option maxHeartbeats 4000000 in
theorem c_sub2E (l : Launch) (Z : State) (a0 : Array Value) (hw : ∀ d ∈ tables_1, d.before a0 Z = true) (hEL : EW Z a0 EL) (h0 : Heap) (z : Int32) (fm : Value) (S : Sta Z h0 "java/lang/String" "COMPACT_STRINGS" "Z" (.int z)) (hz : ¬ z = 0) (Sf : Sta Z h0 "jdk/internal/util/Preconditions" "SIOOBE_FORMATTER" "Ljava/util/function/BiFunction;" fm) (hfm : fm.isRef = true) (x : Addr) (t : Addr) (kb : ClassId) (bs : List Int32) (St : Ow.Str Z h0 x t kb bs) (hfit : ∀ v ∈ bs.map Value.int, fits .byte v = true) (i : Nat) (hcap : bs.length ≤ 6) (hj : i ≤ bs.length) (hno : ¬ (i = 0 ∧ i = bs.length)) : Ow.PayW l Z EL [] (⟨"java/lang/String", "substring", "(II)Ljava/lang/String;"⟩ : MethodName) jdk_42_method_92_code 5 (some (.object "java/lang/String")) ({ frames := 4, cells := 2, slots := 10, locals := 70 } : Room) #[(.ref x), (.int (Int32.ofNat i)), (.int (Int32.ofNat i))] h0 (fun v h L => ∃ x d kd, v = some (.ref x) ∧ Ow.Eff h0 h [] L ∧ Ow.Str Z h x d kd []) := by
  refine Ow.PayW.of (Ls := #[.val (.ref x), .val (.int (Int32.ofNat i)), .val (.int (Int32.ofNat i)), .unset, .unset]) (plainFor_of_name pn0) (fun m => by first | rfl | (simp [entryFrame, mkF, argsToLocals, Value.category]; done)) ?_
  intro p e s m below meth c T vm0 hx hby hml hown hnm hme hret hlk X eT D hsf
  refine Ow.aloadN X hx (pc := 0) (hb hby d23_0) rfl rfl ?_
  refine Ow.callVP X hx D.hZ (c_length l Z a0 hw h0 z x t kb bs S hz St) rfl rfl eT hown (ww hw 55 rfl) (ww hw 56 rfl) (ww hw 58 rfl) (ww hw 57 rfl) (ww hw 7 rfl) (ww hw 59 rfl) (by decide) pd5 (by rw [hml]; rfl) St.1 (argsL := []) rfl rfl rfl (pc := 1) (hb hby d23_1) rfl rfl (by decide) (by decide) ?_   -- java/lang/String.length:()I
  intro T X eT
  dsimp only [Option.toList_some, Option.toList_none, List.cons_append, List.nil_append]
  refine Ow.istoreN X hx (pc := 4) #[_, _, _, _, _] (hb hby d23_4) rfl ?_
  refine Ow.iloadN X hx (pc := 5) (hb hby d23_5) rfl ?_
  refine Ow.iloadN X hx (pc := 6) (hb hby d23_6) rfl ?_
  refine Ow.iloadN X hx (pc := 7) (hb hby d23_7) rfl ?_
  refine Ow.callSP X hx D.hZ (c_checkBBE l Z a0 hw h0 fm Sf hfm i i bs.length (Nat.le_refl _) hj (by omega)) rfl rfl eT hown (ww hw 112 rfl) (ww hw 113 rfl) (ww hw 7 rfl) (ww hw 114 rfl) (by decide) pd16 (by rw [hml]; rfl) (argsL := [_, _, _]) rfl rfl rfl (pc := 8) (hb hby d23_8) rfl rfl (by decide) (by decide) ?_   -- java/lang/String.checkBoundsBeginEnd:(III)V
  intro T X eT
  dsimp only [Option.toList_some, Option.toList_none, List.cons_append, List.nil_append]
  refine Ow.iloadN X hx (pc := 11) (hb hby d23_11) rfl ?_
  refine Ow.if_ne X hx (pc := 12) (pc' := 22) (hb hby d23_12) (by decide) (by decide) (fun h12 => ?_) (fun h12 => ?_)
  · refine Ow.iloadN X hx (pc := 22) (hb hby d23_22) rfl ?_
    refine Ow.iloadN X hx (pc := 23) (hb hby d23_23) rfl ?_
    refine Ow.isub X hx (pc := 24) (hb hby d23_24) ?_
    rw [show Int32.ofNat i - Int32.ofNat i = 0 from Int32.sub_self _]
    refine Ow.istore X hx (pc := 25) #[_, _, _, _, _] (hb hby d23_25) rfl ?_
    refine Ow.aloadN X hx (pc := 27) (hb hby d23_27) rfl rfl ?_
    refine Ow.callVP X hx D.hZ (c_isLatin1 l Z a0 hw h0 z x S hz St.2.1) rfl rfl eT hown (ww hw 49 rfl) (ww hw 50 rfl) (ww hw 52 rfl) (ww hw 51 rfl) (ww hw 7 rfl) (ww hw 53 rfl) (by decide) pd4 (by rw [hml]; rfl) St.1 (argsL := []) rfl rfl rfl (pc := 28) (hb hby d23_28) rfl rfl (by decide) (by decide) ?_   -- java/lang/String.isLatin1:()Z
    intro T X eT
    dsimp only [Option.toList_some, Option.toList_none, List.cons_append, List.nil_append]
    refine Ow.if_eq X hx (pc := 31) (pc' := 47) (hb hby d23_31) (by decide) (by decide) (fun q => absurd q (by decide)) (fun h31 => ?_)
    refine Ow.aloadN X hx (pc := 34) (hb hby d23_34) rfl rfl ?_
    refine Ow.getfield X hx D.hZ hown (ww hw 24 rfl) Via.refl eT St.2.2.1 (pc := 35) (hb hby d23_35) ?_   -- "java/lang/String" "value" "[B"
    intro T X eT
    refine Ow.iloadN X hx (pc := 38) (hb hby d23_38) rfl ?_
    refine Ow.iload X hx (pc := 39) (hb hby d23_39) rfl ?_
    refine Ow.callSW X hx (c_newStringE l Z a0 hw hEL _ t _) eT D hEL (fun _ q => nomatch q) hown (ww hw 120 rfl) (ww hw 121 rfl) (ww hw 67 rfl) (ww hw 122 rfl) (by decide) pd15 (by rw [hml]; rfl) (argsL := [_, _, _]) rfl rfl rfl (pc := 41) (hb hby d23_41) rfl rfl (by decide) (by decide) ?_
    rintro _ vm1 T L X ⟨x1, d, kd, rfl, F2, S2⟩ D hown C1
    dsimp only [Option.toList_some, Option.toList_none, List.cons_append, List.nil_append]
    have eT : T.heap = T.heap := rfl
    refine Ow.goto X hx (pc := 44) (pc' := 57) (hb hby d23_44) (by decide) (by decide) ?_
    exact Ow.areturnW X hx eT D hEL hlk hret rfl rfl rfl (hb hby d23_57) ⟨x1, d, kd, rfl, F2, S2⟩ (by decide) (by decide)
  · refine Ow.iloadN X hx (pc := 15) (hb hby d23_15) rfl ?_
    refine Ow.iloadN X hx (pc := 16) (hb hby d23_16) rfl ?_
    refine Ow.icmp_ne X hx (pc := 17) (pc' := 22) (hb hby d23_17) (by decide) (by decide) (fun h17 => ?_) (fun q => absurd ((Ow.n_eq (by omega) (by omega)).mp q) (fun r => hno ⟨(Ow.n_eq (n := 0) (by omega) (by omega)).mp h12, r⟩))
    refine Ow.iloadN X hx (pc := 22) (hb hby d23_22) rfl ?_
    refine Ow.iloadN X hx (pc := 23) (hb hby d23_23) rfl ?_
    refine Ow.isub X hx (pc := 24) (hb hby d23_24) ?_
    rw [show Int32.ofNat i - Int32.ofNat i = 0 from Int32.sub_self _]
    refine Ow.istore X hx (pc := 25) #[_, _, _, _, _] (hb hby d23_25) rfl ?_
    refine Ow.aloadN X hx (pc := 27) (hb hby d23_27) rfl rfl ?_
    refine Ow.callVP X hx D.hZ (c_isLatin1 l Z a0 hw h0 z x S hz St.2.1) rfl rfl eT hown (ww hw 49 rfl) (ww hw 50 rfl) (ww hw 52 rfl) (ww hw 51 rfl) (ww hw 7 rfl) (ww hw 53 rfl) (by decide) pd4 (by rw [hml]; rfl) St.1 (argsL := []) rfl rfl rfl (pc := 28) (hb hby d23_28) rfl rfl (by decide) (by decide) ?_   -- java/lang/String.isLatin1:()Z
    intro T X eT
    dsimp only [Option.toList_some, Option.toList_none, List.cons_append, List.nil_append]
    refine Ow.if_eq X hx (pc := 31) (pc' := 47) (hb hby d23_31) (by decide) (by decide) (fun q => absurd q (by decide)) (fun h31 => ?_)
    refine Ow.aloadN X hx (pc := 34) (hb hby d23_34) rfl rfl ?_
    refine Ow.getfield X hx D.hZ hown (ww hw 24 rfl) Via.refl eT St.2.2.1 (pc := 35) (hb hby d23_35) ?_   -- "java/lang/String" "value" "[B"
    intro T X eT
    refine Ow.iloadN X hx (pc := 38) (hb hby d23_38) rfl ?_
    refine Ow.iload X hx (pc := 39) (hb hby d23_39) rfl ?_
    refine Ow.callSW X hx (c_newStringE l Z a0 hw hEL _ t _) eT D hEL (fun _ q => nomatch q) hown (ww hw 120 rfl) (ww hw 121 rfl) (ww hw 67 rfl) (ww hw 122 rfl) (by decide) pd15 (by rw [hml]; rfl) (argsL := [_, _, _]) rfl rfl rfl (pc := 41) (hb hby d23_41) rfl rfl (by decide) (by decide) ?_
    rintro _ vm1 T L X ⟨x1, d, kd, rfl, F2, S2⟩ D hown C1
    dsimp only [Option.toList_some, Option.toList_none, List.cons_append, List.nil_append]
    have eT : T.heap = T.heap := rfl
    refine Ow.goto X hx (pc := 44) (pc' := 57) (hb hby d23_44) (by decide) (by decide) ?_
    exact Ow.areturnW X hx eT D hEL hlk hret rfl rfl rfl (hb hby d23_57) ⟨x1, d, kd, rfl, F2, S2⟩ (by decide) (by decide)
theorem d31_0 : decode jdk_42_method_91_code 0 = .ok (.aload_n 0, 1) := by decide +kernel
theorem d31_1 : decode jdk_42_method_91_code 1 = .ok (.iload_n 1, 1) := by decide +kernel
theorem d31_2 : decode jdk_42_method_91_code 2 = .ok (.aload_n 0, 1) := by decide +kernel
theorem d31_3 : decode jdk_42_method_91_code 3 = .ok (.invokevirtual 505, 3) := by decide +kernel
theorem d31_6 : decode jdk_42_method_91_code 6 = .ok (.invokevirtual 681, 3) := by decide +kernel
theorem d31_9 : decode jdk_42_method_91_code 9 = .ok (.areturn, 1) := by decide +kernel
set_option maxRecDepth 65536 in
set_option maxHeartbeats 4000000 in
theorem c_sub1 (l : Launch) (Z : State) (a0 : Array Value) (hw : ∀ d ∈ tables_1, d.before a0 Z = true) (h0 : Heap) (z : Int32) (fm : Value) (S : Sta Z h0 "java/lang/String" "COMPACT_STRINGS" "Z" (.int z)) (hz : ¬ z = 0) (Sf : Sta Z h0 "jdk/internal/util/Preconditions" "SIOOBE_FORMATTER" "Ljava/util/function/BiFunction;" fm) (hfm : fm.isRef = true) (x : Addr) (t : Addr) (kb : ClassId) (bs : List Int32) (St : Ow.Str Z h0 x t kb bs) (hfit : ∀ v ∈ bs.map Value.int, fits .byte v = true) (i : Nat) (hcap : bs.length ≤ 6) (hi0 : 0 < i) (hlt : i < bs.length) : Ow.Pay l Z (⟨"java/lang/String", "substring", "(I)Ljava/lang/String;"⟩ : MethodName) jdk_42_method_91_code 2 (some (.object "java/lang/String")) ({ frames := 5, cells := 2, slots := 10, locals := 90 } : Room) #[(.ref x), (.int (Int32.ofNat i))] h0 (fun v h L => ∃ x d kd, v = some (.ref x) ∧ Ow.Eff h0 h [] L ∧ Ow.Str Z h x d kd (bs.drop i)) := by
  refine Ow.Pay.of (Ls := #[.val (.ref x), .val (.int (Int32.ofNat i))]) (plainFor_of_name pn0) (fun m => by first | rfl | (simp [entryFrame, mkF, argsToLocals, Value.category]; done)) ?_
  intro p e s m below meth c T hx hby hml hown hnm hme hZ hret hlk X eT
  refine Ow.aloadN X hx (pc := 0) (hb hby d31_0) rfl rfl ?_
  refine Ow.iloadN X hx (pc := 1) (hb hby d31_1) rfl ?_
  refine Ow.aloadN X hx (pc := 2) (hb hby d31_2) rfl rfl ?_
  refine Ow.callVP X hx hZ (c_length l Z a0 hw h0 z x t kb bs S hz St) rfl rfl eT hown (ww hw 55 rfl) (ww hw 56 rfl) (ww hw 58 rfl) (ww hw 57 rfl) (ww hw 7 rfl) (ww hw 59 rfl) (by decide) pd5 (by rw [hml]; rfl) St.1 (argsL := []) rfl rfl rfl (pc := 3) (hb hby d31_3) rfl rfl (by decide) (by decide) ?_   -- java/lang/String.length:()I
  intro T X eT
  dsimp only [Option.toList_some, Option.toList_none, List.cons_append, List.nil_append]
  refine Ow.callV X hx hZ (c_sub2 l Z a0 hw _ z fm S hz Sf hfm x t kb bs St hfit i bs.length hcap (by omega) (Nat.le_refl _) hlt (fun q => by omega)) eT hown (ww hw 147 rfl) (ww hw 108 rfl) (ww hw 110 rfl) (ww hw 109 rfl) (ww hw 7 rfl) (ww hw 111 rfl) (by decide) pd17 (by rw [hml]; rfl) St.1 (argsL := [_, _]) rfl rfl rfl (pc := 6) (hb hby d31_6) rfl rfl (by decide) (by decide) ?_
  rintro _ T L X ⟨x1, d, kd, rfl, F2, S2⟩
  dsimp only [Option.toList_some, Option.toList_none, List.cons_append, List.nil_append]
  exact Ow.areturn X hx hlk hret rfl rfl rfl (hb hby d31_9) ⟨x1, d, kd, rfl, F2, by rw [List.take_of_length_le (by simp)] at S2; exact S2⟩ (by decide) (by decide)
set_option maxRecDepth 65536 in
set_option maxHeartbeats 4000000 in
theorem c_sub1E (l : Launch) (Z : State) (a0 : Array Value) (hw : ∀ d ∈ tables_1, d.before a0 Z = true) (hEL : EW Z a0 EL) (h0 : Heap) (z : Int32) (fm : Value) (S : Sta Z h0 "java/lang/String" "COMPACT_STRINGS" "Z" (.int z)) (hz : ¬ z = 0) (Sf : Sta Z h0 "jdk/internal/util/Preconditions" "SIOOBE_FORMATTER" "Ljava/util/function/BiFunction;" fm) (hfm : fm.isRef = true) (x : Addr) (t : Addr) (kb : ClassId) (bs : List Int32) (St : Ow.Str Z h0 x t kb bs) (hfit : ∀ v ∈ bs.map Value.int, fits .byte v = true)  (hcap : bs.length ≤ 6) (hi0 : 0 < bs.length) : Ow.PayW l Z EL [] (⟨"java/lang/String", "substring", "(I)Ljava/lang/String;"⟩ : MethodName) jdk_42_method_91_code 2 (some (.object "java/lang/String")) ({ frames := 5, cells := 2, slots := 10, locals := 90 } : Room) #[(.ref x), (.int (Int32.ofNat bs.length))] h0 (fun v h L => ∃ x d kd, v = some (.ref x) ∧ Ow.Eff h0 h [] L ∧ Ow.Str Z h x d kd []) := by
  refine Ow.PayW.of (Ls := #[.val (.ref x), .val (.int (Int32.ofNat bs.length))]) (plainFor_of_name pn0) (fun m => by first | rfl | (simp [entryFrame, mkF, argsToLocals, Value.category]; done)) ?_
  intro p e s m below meth c T vm0 hx hby hml hown hnm hme hret hlk X eT D hsf
  refine Ow.aloadN X hx (pc := 0) (hb hby d31_0) rfl rfl ?_
  refine Ow.iloadN X hx (pc := 1) (hb hby d31_1) rfl ?_
  refine Ow.aloadN X hx (pc := 2) (hb hby d31_2) rfl rfl ?_
  refine Ow.callVP X hx D.hZ (c_length l Z a0 hw h0 z x t kb bs S hz St) rfl rfl eT hown (ww hw 55 rfl) (ww hw 56 rfl) (ww hw 58 rfl) (ww hw 57 rfl) (ww hw 7 rfl) (ww hw 59 rfl) (by decide) pd5 (by rw [hml]; rfl) St.1 (argsL := []) rfl rfl rfl (pc := 3) (hb hby d31_3) rfl rfl (by decide) (by decide) ?_   -- java/lang/String.length:()I
  intro T X eT
  dsimp only [Option.toList_some, Option.toList_none, List.cons_append, List.nil_append]
  refine Ow.callVW X hx (c_sub2E l Z a0 hw hEL _ z fm S hz Sf hfm x t kb bs St hfit bs.length hcap (Nat.le_refl _) (fun q => by omega)) eT D hEL (fun _ q => nomatch q) hown (ww hw 147 rfl) (ww hw 108 rfl) (ww hw 110 rfl) (ww hw 109 rfl) (ww hw 7 rfl) (ww hw 111 rfl) (by decide) pd17 (by rw [hml]; rfl) St.1 (argsL := [_, _]) rfl rfl rfl (pc := 6) (hb hby d31_6) rfl rfl (by decide) (by decide) ?_
  rintro _ vm1 T L X ⟨x1, d, kd, rfl, F2, S2⟩ D hown C1
  dsimp only [Option.toList_some, Option.toList_none, List.cons_append, List.nil_append]
  have eT : T.heap = T.heap := rfl
  exact Ow.areturnW X hx eT D hEL hlk hret rfl rfl rfl (hb hby d31_9) ⟨x1, d, kd, rfl, F2, S2⟩ (by decide) (by decide)
theorem own_more {p : Program} {l : Launch} {e : Env} {R : Room} {s : State} {m : MethodId} {args : Array Value} {below : List Frame} {meth : Method} {c : Code} {T : State} {locs : List Loc} {c1 s1 c2 s2 : Nat} (X : Stand p l e R s m args below meth c T locs c1 s1) (h1 : c1 ≤ c2) (h2 : s1 ≤ s2) : Stand p l e R s m args below meth c T locs c2 s2 := { X with same := X.same.mono h1 h2 }
def own_after (bs : List Int32) : Int32 := if 0 < own_ixs 47 bs 0 ∧ own_ixs 47 bs 0 + 1 < own_ixs 47 bs (own_ixs 47 bs 0 + 1).toNatClampNeg then own_ixs 47 bs (own_ixs 47 bs 0 + 1).toNatClampNeg else -1
theorem own_next (c : Int32) (bs : List Int32) (hb : bs.length < 2147483647) : ∃ k, own_ixs c bs 0 + 1 = Int32.ofNat k ∧ k ≤ bs.length := by
  rcases own_ix_cases c bs (bs.length - 0) 0 with q | ⟨k, -, h2, h3⟩
  · exact ⟨0, by unfold own_ixs; rw [q]; decide, Nat.zero_le _⟩
  · exact ⟨k + 1, by unfold own_ixs; rw [h3, Ow.n_one], by omega⟩
/-- two slashes: where they are -/
theorem own_two {bs : List Int32} (hb : bs.length < 2147483647) (h : ¬ own_after bs < 0) : ∃ a b : Nat, own_ixs 47 bs 0 = Int32.ofNat a ∧ own_ixs 47 bs (a + 1) = Int32.ofNat b ∧ own_after bs = Int32.ofNat b ∧ 0 < a ∧ a + 1 < b ∧ b < bs.length := by
  unfold own_after at h ⊢
  by_cases q : 0 < own_ixs 47 bs 0 ∧ own_ixs 47 bs 0 + 1 < own_ixs 47 bs (own_ixs 47 bs 0 + 1).toNatClampNeg
  · rw [if_pos q] at h ⊢
    rcases own_ix_cases 47 bs (bs.length - 0) 0 with r | ⟨a, -, h2, h3⟩
    · have := q.1; unfold own_ixs at this; rw [r] at this; exact absurd this (by decide)
    · have h3' : own_ixs 47 bs 0 = Int32.ofNat a := h3
      rw [h3', Ow.n_one, Ow.n_cl (by omega)] at h q
      rw [h3', Ow.n_one, Ow.n_cl (by omega)]
      rcases own_ix_cases 47 bs (bs.length - (a + 1)) (a + 1) with r | ⟨b, h4, h5, h6⟩
      · have h7 : own_ixs 47 bs (a + 1) = -1 := r
        rw [h7] at h; exact absurd (by decide) h
      · have h7 : own_ixs 47 bs (a + 1) = Int32.ofNat b := h6
        rw [h7] at q ⊢
        have z1 : 0 < a := (Ow.n_lt (i := 0) (by omega) (by omega)).mp q.1
        have z2 : a + 1 < b := (Ow.n_lt (by omega) (by omega)).mp q.2
        exact ⟨a, b, rfl, h7, rfl, z1, z2, by omega⟩
  · rw [if_neg q] at h; exact absurd (by decide) h
theorem d7_0 : decode prog_5_method_4_code 0 = .ok (.aload_n 0, 1) := by decide +kernel
theorem d7_1 : decode prog_5_method_4_code 1 = .ok (.bipush 47, 2) := by decide +kernel
theorem d7_3 : decode prog_5_method_4_code 3 = .ok (.invokevirtual 38, 3) := by decide +kernel
theorem d7_6 : decode prog_5_method_4_code 6 = .ok (.istore_n 1, 1) := by decide +kernel
theorem d7_7 : decode prog_5_method_4_code 7 = .ok (.aload_n 0, 1) := by decide +kernel
theorem d7_8 : decode prog_5_method_4_code 8 = .ok (.bipush 47, 2) := by decide +kernel
theorem d7_10 : decode prog_5_method_4_code 10 = .ok (.iload_n 1, 1) := by decide +kernel
theorem d7_11 : decode prog_5_method_4_code 11 = .ok (.iconst 1, 1) := by decide +kernel
theorem d7_12 : decode prog_5_method_4_code 12 = .ok (.iadd, 1) := by decide +kernel
theorem d7_13 : decode prog_5_method_4_code 13 = .ok (.invokevirtual 69, 3) := by decide +kernel
theorem d7_16 : decode prog_5_method_4_code 16 = .ok (.istore_n 2, 1) := by decide +kernel
theorem d7_17 : decode prog_5_method_4_code 17 = .ok (.iload_n 1, 1) := by decide +kernel
theorem d7_18 : decode prog_5_method_4_code 18 = .ok (.ifCond .le 10, 3) := by decide +kernel
theorem d7_21 : decode prog_5_method_4_code 21 = .ok (.iload_n 2, 1) := by decide +kernel
theorem d7_22 : decode prog_5_method_4_code 22 = .ok (.iload_n 1, 1) := by decide +kernel
theorem d7_23 : decode prog_5_method_4_code 23 = .ok (.iconst 1, 1) := by decide +kernel
theorem d7_24 : decode prog_5_method_4_code 24 = .ok (.iadd, 1) := by decide +kernel
theorem d7_25 : decode prog_5_method_4_code 25 = .ok (.if_icmp .gt 7, 3) := by decide +kernel
theorem d7_28 : decode prog_5_method_4_code 28 = .ok (.iconst (-1), 1) := by decide +kernel
theorem d7_29 : decode prog_5_method_4_code 29 = .ok (.goto 4, 3) := by decide +kernel
theorem d7_32 : decode prog_5_method_4_code 32 = .ok (.iload_n 2, 1) := by decide +kernel
theorem d7_33 : decode prog_5_method_4_code 33 = .ok (.ireturn, 1) := by decide +kernel
set_option maxRecDepth 65536 in
set_option maxHeartbeats 4000000 in
theorem c_after (l : Launch) (Z : State) (a0 : Array Value) (hw : ∀ d ∈ tables_1, d.before a0 Z = true) (h0 : Heap) (z : Int32) (x t : Addr) (kb : ClassId) (bs : List Int32) (S : Sta Z h0 "java/lang/String" "COMPACT_STRINGS" "Z" (.int z)) (hz : ¬ z = 0) (St : Ow.Str Z h0 x t kb bs) (hbig : bs.length ≤ 4000) : Ow.Pay l Z (⟨"com/example/mortise/mortise/pack/NamespacedPath", "afterNamespace", "(Ljava/lang/String;)I"⟩ : MethodName) prog_5_method_4_code 3 (some .int) ({ frames := 4, cells := 0, slots := 0, locals := 80 } : Room) #[(.ref x)] h0 (fun v h L => v = some (.int (own_after bs)) ∧ h = h0 ∧ L = []) := by
  refine Ow.Pay.of (Ls := #[.val (.ref x), .unset, .unset]) (plainFor_of_name pn4) (fun m => by first | rfl | (simp [entryFrame, mkF, argsToLocals, Value.category]; done)) ?_
  intro p e s m below meth c T hx hby hml hown hnm hme hZ hret hlk X eT
  obtain ⟨k, hk, hkl⟩ := own_next 47 bs (by omega)
  have hkc : (own_ixs 47 bs 0 + 1).toNatClampNeg = k := by rw [hk, Ow.n_cl (by omega)]
  refine Ow.aloadN X hx (pc := 0) (hb hby d7_0) rfl rfl ?_
  refine Ow.bipush X hx (pc := 1) (47) (hb hby d7_1) (by decide) ?_
  refine Ow.callVP X hx hZ (c_indexOf1 l Z a0 hw h0 z x t kb bs S hz St (by omega)) rfl rfl eT hown (ww hw 39 rfl) (ww hw 40 rfl) (ww hw 42 rfl) (ww hw 41 rfl) (ww hw 7 rfl) (ww hw 43 rfl) (by decide) pd18 (by rw [hml]; rfl) St.1 (argsL := [_]) rfl rfl rfl (pc := 3) (hb hby d7_3) rfl rfl (by decide) (by decide) ?_   -- java/lang/String.indexOf:(I)I
  intro T X eT
  dsimp only [Option.toList_some, Option.toList_none, List.cons_append, List.nil_append]
  refine Ow.istoreN X hx (pc := 6) #[_, _, _] (hb hby d7_6) rfl ?_
  refine Ow.aloadN X hx (pc := 7) (hb hby d7_7) rfl rfl ?_
  refine Ow.bipush X hx (pc := 8) (47) (hb hby d7_8) (by decide) ?_
  refine Ow.iloadN X hx (pc := 10) (hb hby d7_10) rfl ?_
  refine Ow.iconst X hx (pc := 11) (1) (hb hby d7_11) (by decide) ?_
  refine Ow.iadd X hx (pc := 12) (hb hby d7_12) ?_
  rw [hk]
  refine Ow.callVP X hx hZ (c_indexOf2 l Z a0 hw h0 z x t kb bs k S hz St hkl (by omega)) rfl rfl eT hown (ww hw 79 rfl) (ww hw 45 rfl) (ww hw 47 rfl) (ww hw 46 rfl) (ww hw 7 rfl) (ww hw 48 rfl) (by decide) pd2 (by rw [hml]; rfl) St.1 (argsL := [_, _]) rfl rfl rfl (pc := 13) (hb hby d7_13) rfl rfl (by decide) (by decide) ?_   -- java/lang/String.indexOf:(II)I
  intro T X eT
  dsimp only [Option.toList_some, Option.toList_none, List.cons_append, List.nil_append]
  refine Ow.istoreN X hx (pc := 16) #[_, _, _] (hb hby d7_16) rfl ?_
  refine Ow.iloadN X hx (pc := 17) (hb hby d7_17) rfl ?_
  refine Ow.if_le X hx (pc := 18) (pc' := 28) (hb hby d7_18) (by decide) (by decide) (fun h18 => ?_) (fun h18 => ?_)
  · refine Ow.iconst X hx (pc := 28) (-1) (hb hby d7_28) (by decide) ?_
    refine Ow.goto X hx (pc := 29) (pc' := 33) (hb hby d7_29) (by decide) (by decide) ?_
    exact Ow.ireturn X hx hlk hret (hb hby d7_33) ⟨by unfold own_after; rw [hkc]; first | (rw [if_pos ⟨by assumption, by assumption⟩]; done) | (rw [if_neg (by rintro ⟨_, _⟩; contradiction)]; done), eT, rfl⟩ (by decide) (by decide)
  · refine Ow.iloadN X hx (pc := 21) (hb hby d7_21) rfl ?_
    refine Ow.iloadN X hx (pc := 22) (hb hby d7_22) rfl ?_
    refine Ow.iconst X hx (pc := 23) (1) (hb hby d7_23) (by decide) ?_
    refine Ow.iadd X hx (pc := 24) (hb hby d7_24) ?_
    refine Ow.icmp_gt X hx (pc := 25) (pc' := 32) (hb hby d7_25) (by decide) (by decide) (fun h25 => ?_) (fun h25 => ?_)
    · refine Ow.iloadN X hx (pc := 32) (hb hby d7_32) rfl ?_
      exact Ow.ireturn X hx hlk hret (hb hby d7_33) ⟨by unfold own_after; rw [hkc]; first | (rw [if_pos ⟨by assumption, by assumption⟩]; done) | (rw [if_neg (by rintro ⟨_, _⟩; contradiction)]; done), eT, rfl⟩ (by decide) (by decide)
    · refine Ow.iconst X hx (pc := 28) (-1) (hb hby d7_28) (by decide) ?_
      refine Ow.goto X hx (pc := 29) (pc' := 33) (hb hby d7_29) (by decide) (by decide) ?_
      exact Ow.ireturn X hx hlk hret (hb hby d7_33) ⟨by unfold own_after; rw [hkc]; first | (rw [if_pos ⟨by assumption, by assumption⟩]; done) | (rw [if_neg (by rintro ⟨_, _⟩; contradiction)]; done), eT, rfl⟩ (by decide) (by decide)
theorem d17_0 : decode jdk_32_method_1_code 0 = .ok (.getstatic 1, 3) := by decide +kernel
theorem d17_3 : decode jdk_32_method_1_code 3 = .ok (.astore_n 0, 1) := by decide +kernel
theorem d17_4 : decode jdk_32_method_1_code 4 = .ok (.aload_n 0, 1) := by decide +kernel
theorem d17_5 : decode jdk_32_method_1_code 5 = .ok (.areturn, 1) := by decide +kernel
set_option maxRecDepth 65536 in
set_option maxHeartbeats 4000000 in
theorem c_empty (l : Launch) (Z : State) (a0 : Array Value) (hw : ∀ d ∈ tables_1, d.before a0 Z = true) (h0 : Heap) (om : Addr) (So : Sta Z h0 "java/util/Optional" "EMPTY" "Ljava/util/Optional;" (.ref om)) : Ow.Pay l Z (⟨"java/util/Optional", "empty", "()Ljava/util/Optional;"⟩ : MethodName) jdk_32_method_1_code 1 (some (.object "java/util/Optional")) ({ frames := 0, cells := 0, slots := 0, locals := 0 } : Room) #[] h0 (fun v h L => v = some (.ref om) ∧ h = h0 ∧ L = []) := by
  refine Ow.Pay.of (Ls := #[.unset]) (plainFor_of_name pn5) (fun m => by first | rfl | (simp [entryFrame, mkF, argsToLocals, Value.category]; done)) ?_
  intro p e s m below meth c T hx hby hml hown hnm hme hZ hret hlk X eT
  refine Ow.getstatic X hx hZ hown (ww hw 84 rfl) Via.refl eT So (pc := 0) (hb hby d17_0) ?_   -- "java/util/Optional" "EMPTY" "Ljava/util/Optional;"
  intro T X eT
  refine Ow.astoreN X hx (pc := 3) #[_] (hb hby d17_3) rfl rfl ?_
  refine Ow.aloadN X hx (pc := 4) (hb hby d17_4) rfl rfl ?_
  exact Ow.areturn X hx hlk hret rfl rfl rfl (hb hby d17_5) ⟨rfl, eT, rfl⟩ (by decide) (by decide)
theorem d18_0 : decode jdk_32_method_6_code 0 = .ok (.aload_n 0, 1) := by decide +kernel
theorem d18_1 : decode jdk_32_method_6_code 1 = .ok (.getfield 13, 3) := by decide +kernel
theorem d18_4 : decode jdk_32_method_6_code 4 = .ok (.ifnull 7, 3) := by decide +kernel
theorem d18_7 : decode jdk_32_method_6_code 7 = .ok (.iconst 1, 1) := by decide +kernel
theorem d18_8 : decode jdk_32_method_6_code 8 = .ok (.goto 4, 3) := by decide +kernel
theorem d18_11 : decode jdk_32_method_6_code 11 = .ok (.iconst 0, 1) := by decide +kernel
theorem d18_12 : decode jdk_32_method_6_code 12 = .ok (.ireturn, 1) := by decide +kernel
set_option maxRecDepth 65536 in
set_option maxHeartbeats 4000000 in
theorem c_isPresentN (l : Launch) (Z : State) (a0 : Array Value) (hw : ∀ d ∈ tables_1, d.before a0 Z = true) (h0 : Heap) (a : Addr) (V : Fld Z h0 a "java/util/Optional" "value" "Ljava/lang/Object;" .null) : Ow.Pay l Z (⟨"java/util/Optional", "isPresent", "()Z"⟩ : MethodName) jdk_32_method_6_code 1 (some .boolean) ({ frames := 0, cells := 0, slots := 0, locals := 0 } : Room) #[(.ref a)] h0 (fun v h L => v = some (.int 0) ∧ h = h0 ∧ L = []) := by
  refine Ow.Pay.of (Ls := #[.val (.ref a)]) (plainFor_of_name pn5) (fun m => by first | rfl | (simp [entryFrame, mkF, argsToLocals, Value.category]; done)) ?_
  intro p e s m below meth c T hx hby hml hown hnm hme hZ hret hlk X eT
  refine Ow.aloadN X hx (pc := 0) (hb hby d18_0) rfl rfl ?_
  refine Ow.getfield X hx hZ hown (ww hw 90 rfl) Via.refl eT V (pc := 1) (hb hby d18_1) ?_   -- "java/util/Optional" "value" "Ljava/lang/Object;"
  intro T X eT
  refine Ow.ifnull_n X hx (pc := 4) (pc' := 11) (hb hby d18_4) (by decide) (by decide) ?_
  refine Ow.iconst X hx (pc := 11) (0) (hb hby d18_11) (by decide) ?_
  exact Ow.nreturn X hx hlk hret (Or.inl rfl) (hb hby d18_12) ⟨rfl, eT, rfl⟩ (by decide) (by decide)
set_option maxRecDepth 65536 in
set_option maxHeartbeats 4000000 in
theorem c_isPresentR (l : Launch) (Z : State) (a0 : Array Value) (hw : ∀ d ∈ tables_1, d.before a0 Z = true) (h0 : Heap) (a y : Addr) (V : Fld Z h0 a "java/util/Optional" "value" "Ljava/lang/Object;" (.ref y)) : Ow.Pay l Z (⟨"java/util/Optional", "isPresent", "()Z"⟩ : MethodName) jdk_32_method_6_code 1 (some .boolean) ({ frames := 0, cells := 0, slots := 0, locals := 0 } : Room) #[(.ref a)] h0 (fun v h L => v = some (.int 1) ∧ h = h0 ∧ L = []) := by
  refine Ow.Pay.of (Ls := #[.val (.ref a)]) (plainFor_of_name pn5) (fun m => by first | rfl | (simp [entryFrame, mkF, argsToLocals, Value.category]; done)) ?_
  intro p e s m below meth c T hx hby hml hown hnm hme hZ hret hlk X eT
  refine Ow.aloadN X hx (pc := 0) (hb hby d18_0) rfl rfl ?_
  refine Ow.getfield X hx hZ hown (ww hw 90 rfl) Via.refl eT V (pc := 1) (hb hby d18_1) ?_   -- "java/util/Optional" "value" "Ljava/lang/Object;"
  intro T X eT
  refine Ow.ifnull_r X hx (pc := 4) (hb hby d18_4) ?_
  refine Ow.iconst X hx (pc := 7) (1) (hb hby d18_7) (by decide) ?_
  refine Ow.goto X hx (pc := 8) (pc' := 12) (hb hby d18_8) (by decide) (by decide) ?_
  exact Ow.nreturn X hx hlk hret (Or.inl rfl) (hb hby d18_12) ⟨rfl, eT, rfl⟩ (by decide) (by decide)
theorem d38_0 : decode jdk_32_method_5_code 0 = .ok (.aload_n 0, 1) := by decide +kernel
theorem d38_1 : decode jdk_32_method_5_code 1 = .ok (.getfield 13, 3) := by decide +kernel
theorem d38_4 : decode jdk_32_method_5_code 4 = .ok (.ifnonnull 13, 3) := by decide +kernel
theorem d38_7 : decode jdk_32_method_5_code 7 = .ok (.new 26, 3) := by decide +kernel
theorem d38_10 : decode jdk_32_method_5_code 10 = .ok (.dup, 1) := by decide +kernel
theorem d38_11 : decode jdk_32_method_5_code 11 = .ok (.ldc 28, 2) := by decide +kernel
theorem d38_13 : decode jdk_32_method_5_code 13 = .ok (.invokespecial 30, 3) := by decide +kernel
theorem d38_16 : decode jdk_32_method_5_code 16 = .ok (.athrow, 1) := by decide +kernel
theorem d38_17 : decode jdk_32_method_5_code 17 = .ok (.aload_n 0, 1) := by decide +kernel
theorem d38_18 : decode jdk_32_method_5_code 18 = .ok (.getfield 13, 3) := by decide +kernel
theorem d38_21 : decode jdk_32_method_5_code 21 = .ok (.areturn, 1) := by decide +kernel
set_option maxRecDepth 65536 in
set_option maxHeartbeats 4000000 in
theorem c_get (l : Launch) (Z : State) (a0 : Array Value) (hw : ∀ d ∈ tables_1, d.before a0 Z = true) (h0 : Heap) (a y : Addr) (V : Fld Z h0 a "java/util/Optional" "value" "Ljava/lang/Object;" (.ref y)) : Ow.Pay l Z (⟨"java/util/Optional", "get", "()Ljava/lang/Object;"⟩ : MethodName) jdk_32_method_5_code 1 (some (.object "java/lang/Object")) ({ frames := 0, cells := 0, slots := 0, locals := 0 } : Room) #[(.ref a)] h0 (fun v h L => v = some (.ref y) ∧ h = h0 ∧ L = []) := by
  refine Ow.Pay.of (Ls := #[.val (.ref a)]) (plainFor_of_name pn5) (fun m => by first | rfl | (simp [entryFrame, mkF, argsToLocals, Value.category]; done)) ?_
  intro p e s m below meth c T hx hby hml hown hnm hme hZ hret hlk X eT
  refine Ow.aloadN X hx (pc := 0) (hb hby d38_0) rfl rfl ?_
  refine Ow.getfield X hx hZ hown (ww hw 90 rfl) Via.refl eT V (pc := 1) (hb hby d38_1) ?_   -- "java/util/Optional" "value" "Ljava/lang/Object;"
  intro T X eT
  refine Ow.ifnonnull_r X hx (pc := 4) (pc' := 17) (hb hby d38_4) (by decide) (by decide) ?_
  refine Ow.aloadN X hx (pc := 17) (hb hby d38_17) rfl rfl ?_
  refine Ow.getfield X hx hZ hown (ww hw 90 rfl) Via.refl eT V (pc := 18) (hb hby d38_18) ?_   -- "java/util/Optional" "value" "Ljava/lang/Object;"
  intro T X eT
  exact Ow.areturn X hx hlk hret rfl rfl rfl (hb hby d38_21) ⟨rfl, eT, rfl⟩ (by decide) (by decide)
theorem d36_0 : decode jdk_31_method_10_code 0 = .ok (.aload_n 0, 1) := by decide +kernel
theorem d36_1 : decode jdk_31_method_10_code 1 = .ok (.ifnonnull 11, 3) := by decide +kernel
theorem d36_4 : decode jdk_31_method_10_code 4 = .ok (.new 84, 3) := by decide +kernel
theorem d36_7 : decode jdk_31_method_10_code 7 = .ok (.dup, 1) := by decide +kernel
theorem d36_8 : decode jdk_31_method_10_code 8 = .ok (.invokespecial 86, 3) := by decide +kernel
theorem d36_11 : decode jdk_31_method_10_code 11 = .ok (.athrow, 1) := by decide +kernel
theorem d36_12 : decode jdk_31_method_10_code 12 = .ok (.aload_n 0, 1) := by decide +kernel
theorem d36_13 : decode jdk_31_method_10_code 13 = .ok (.areturn, 1) := by decide +kernel
set_option maxRecDepth 65536 in
set_option maxHeartbeats 4000000 in
theorem c_rnn1 (l : Launch) (Z : State) (a0 : Array Value) (hw : ∀ d ∈ tables_1, d.before a0 Z = true) (h0 : Heap) (a : Addr) : Ow.Pay l Z (⟨"java/util/Objects", "requireNonNull", "(Ljava/lang/Object;)Ljava/lang/Object;"⟩ : MethodName) jdk_31_method_10_code 1 (some (.object "java/lang/Object")) ({ frames := 0, cells := 0, slots := 0, locals := 0 } : Room) #[(.ref a)] h0 (fun v h L => v = some (.ref a) ∧ h = h0 ∧ L = []) := by
  refine Ow.Pay.of (Ls := #[.val (.ref a)]) (plainFor_of_name pn6) (fun m => by first | rfl | (simp [entryFrame, mkF, argsToLocals, Value.category]; done)) ?_
  intro p e s m below meth c T hx hby hml hown hnm hme hZ hret hlk X eT
  refine Ow.aloadN X hx (pc := 0) (hb hby d36_0) rfl rfl ?_
  refine Ow.ifnonnull_r X hx (pc := 1) (pc' := 12) (hb hby d36_1) (by decide) (by decide) ?_
  refine Ow.aloadN X hx (pc := 12) (hb hby d36_12) rfl rfl ?_
  exact Ow.areturn X hx hlk hret rfl rfl rfl (hb hby d36_13) ⟨rfl, eT, rfl⟩ (by decide) (by decide)
theorem d34_0 : decode jdk_31_method_11_code 0 = .ok (.aload_n 0, 1) := by decide +kernel
theorem d34_1 : decode jdk_31_method_11_code 1 = .ok (.ifnonnull 12, 3) := by decide +kernel
theorem d34_4 : decode jdk_31_method_11_code 4 = .ok (.new 84, 3) := by decide +kernel
theorem d34_7 : decode jdk_31_method_11_code 7 = .ok (.dup, 1) := by decide +kernel
theorem d34_8 : decode jdk_31_method_11_code 8 = .ok (.aload_n 1, 1) := by decide +kernel
theorem d34_9 : decode jdk_31_method_11_code 9 = .ok (.invokespecial 87, 3) := by decide +kernel
theorem d34_12 : decode jdk_31_method_11_code 12 = .ok (.athrow, 1) := by decide +kernel
theorem d34_13 : decode jdk_31_method_11_code 13 = .ok (.aload_n 0, 1) := by decide +kernel
theorem d34_14 : decode jdk_31_method_11_code 14 = .ok (.areturn, 1) := by decide +kernel
set_option maxRecDepth 65536 in
set_option maxHeartbeats 4000000 in
theorem c_rnn2 (l : Launch) (Z : State) (a0 : Array Value) (hw : ∀ d ∈ tables_1, d.before a0 Z = true) (h0 : Heap) (a b : Addr) : Ow.Pay l Z (⟨"java/util/Objects", "requireNonNull", "(Ljava/lang/Object;Ljava/lang/String;)Ljava/lang/Object;"⟩ : MethodName) jdk_31_method_11_code 2 (some (.object "java/lang/Object")) ({ frames := 0, cells := 0, slots := 0, locals := 0 } : Room) #[(.ref a), (.ref b)] h0 (fun v h L => v = some (.ref a) ∧ h = h0 ∧ L = []) := by
  refine Ow.Pay.of (Ls := #[.val (.ref a), .val (.ref b)]) (plainFor_of_name pn6) (fun m => by first | rfl | (simp [entryFrame, mkF, argsToLocals, Value.category]; done)) ?_
  intro p e s m below meth c T hx hby hml hown hnm hme hZ hret hlk X eT
  refine Ow.aloadN X hx (pc := 0) (hb hby d34_0) rfl rfl ?_
  refine Ow.ifnonnull_r X hx (pc := 1) (pc' := 13) (hb hby d34_1) (by decide) (by decide) ?_
  refine Ow.aloadN X hx (pc := 13) (hb hby d34_13) rfl rfl ?_
  exact Ow.areturn X hx hlk hret rfl rfl rfl (hb hby d34_14) ⟨rfl, eT, rfl⟩ (by decide) (by decide)
theorem d33_0 : decode jdk_30_method_1_code 0 = .ok (.aload_n 0, 1) := by decide +kernel
theorem d33_1 : decode jdk_30_method_1_code 1 = .ok (.invokespecial 1, 3) := by decide +kernel
theorem d33_4 : decode jdk_30_method_1_code 4 = .ok (.return_, 1) := by decide +kernel
set_option maxRecDepth 65536 in
set_option maxHeartbeats 4000000 in
theorem c_recinit (l : Launch) (Z : State) (a0 : Array Value) (hw : ∀ d ∈ tables_1, d.before a0 Z = true) (h0 : Heap) (a : Addr) : Ow.Pay l Z (⟨"java/lang/Record", "<init>", "()V"⟩ : MethodName) jdk_30_method_1_code 1 none ({ frames := 1, cells := 0, slots := 0, locals := 12 } : Room) #[(.ref a)] h0 (fun v h L => v = none ∧ h = h0 ∧ L = []) := by
  refine Ow.Pay.of (Ls := #[.val (.ref a)]) (plainFor_of_name pn7) (fun m => by first | rfl | (simp [entryFrame, mkF, argsToLocals, Value.category]; done)) ?_
  intro p e s m below meth c T hx hby hml hown hnm hme hZ hret hlk X eT
  refine Ow.aloadN X hx (pc := 0) (hb hby d33_0) rfl rfl ?_
  refine Ow.objinit X hx hZ hown (ww hw 156 rfl) (ww hw 16 rfl) (ww hw 17 rfl) eT (by rw [hml]; rfl) (pc := 1) (hb hby d33_1) rfl rfl ?_
  intro T X eT
  exact Ow.vreturn X hx hlk hret (hb hby d33_4) ⟨rfl, eT, rfl⟩ (by decide) (by decide)
theorem d37_0 : decode jdk_32_method_2_code 0 = .ok (.aload_n 0, 1) := by decide +kernel
theorem d37_1 : decode jdk_32_method_2_code 1 = .ok (.invokespecial 7, 3) := by decide +kernel
theorem d37_4 : decode jdk_32_method_2_code 4 = .ok (.aload_n 0, 1) := by decide +kernel
theorem d37_5 : decode jdk_32_method_2_code 5 = .ok (.aload_n 1, 1) := by decide +kernel
theorem d37_6 : decode jdk_32_method_2_code 6 = .ok (.putfield 13, 3) := by decide +kernel
theorem d37_9 : decode jdk_32_method_2_code 9 = .ok (.return_, 1) := by decide +kernel
set_option maxRecDepth 65536 in
set_option maxHeartbeats 4000000 in
theorem c_optinit (l : Launch) (Z : State) (a0 : Array Value) (hw : ∀ d ∈ tables_1, d.before a0 Z = true) (h0 : Heap) (a y : Addr) (v0 : Value) (A : Exa Z h0 a "java/util/Optional") (V0 : Fld Z h0 a "java/util/Optional" "value" "Ljava/lang/Object;" v0) : Ow.Pay l Z (⟨"java/util/Optional", "<init>", "(Ljava/lang/Object;)V"⟩ : MethodName) jdk_32_method_2_code 2 none ({ frames := 1, cells := 0, slots := 0, locals := 12 } : Room) #[(.ref a), (.ref y)] h0 (fun v h L => v = none ∧ Ow.Eff h0 h [a] L ∧ Exa Z h a "java/util/Optional" ∧ Fld Z h a "java/util/Optional" "value" "Ljava/lang/Object;" (.ref y)) := by
  refine Ow.Pay.of (Ls := #[.val (.ref a), .val (.ref y)]) (plainFor_of_name pn5) (fun m => by first | rfl | (simp [entryFrame, mkF, argsToLocals, Value.category]; done)) ?_
  intro p e s m below meth c T hx hby hml hown hnm hme hZ hret hlk X eT
  have F := Ow.Eff.refl h0 [a]
  have hni := (name_of_methodNamed hnm hme).1
  refine Ow.aloadN X hx (pc := 0) (hb hby d37_0) rfl rfl ?_
  refine Ow.objinit X hx hZ hown (ww hw 182 rfl) (ww hw 16 rfl) (ww hw 17 rfl) eT (by rw [hml]; rfl) (pc := 1) (hb hby d37_1) rfl rfl ?_
  intro T X eT
  refine Ow.aloadN X hx (pc := 4) (hb hby d37_4) rfl rfl ?_
  refine Ow.aloadN X hx (pc := 5) (hb hby d37_5) rfl rfl ?_
  refine Ow.putfield X hx hZ hown (ww hw 90 rfl) Via.refl eT V0 A (Or.inr ⟨(ww hw 91 rfl), rfl, hni⟩) (ww hw 174 rfl) (ty := .object "java/lang/Object") (by decide) rfl rfl (pc := 6) (hb hby d37_6) ?_
  intro T h_6 X eT W_6
  have V0 := V0.same W_6
  have A := A.wr W_6
  have F := F.wr W_6 (Or.inl (by simp))
  exact Ow.vreturn X hx hlk hret (hb hby d37_9) ⟨rfl, by rw [eT]; exact F, by rw [eT]; exact A, by rw [eT]; exact V0⟩ (by decide) (by decide)
theorem d35_0 : decode jdk_32_method_3_code 0 = .ok (.new 2, 3) := by decide +kernel
theorem d35_3 : decode jdk_32_method_3_code 3 = .ok (.dup, 1) := by decide +kernel
theorem d35_4 : decode jdk_32_method_3_code 4 = .ok (.aload_n 0, 1) := by decide +kernel
theorem d35_5 : decode jdk_32_method_3_code 5 = .ok (.invokestatic 17, 3) := by decide +kernel
theorem d35_8 : decode jdk_32_method_3_code 8 = .ok (.invokespecial 23, 3) := by decide +kernel
theorem d35_11 : decode jdk_32_method_3_code 11 = .ok (.areturn, 1) := by decide +kernel
set_option maxRecDepth 65536 in
set_option maxHeartbeats 4000000 in
theorem c_optof (l : Launch) (Z : State) (a0 : Array Value) (hw : ∀ d ∈ tables_1, d.before a0 Z = true) (h0 : Heap) (y : Addr) : Ow.Pay l Z (⟨"java/util/Optional", "of", "(Ljava/lang/Object;)Ljava/util/Optional;"⟩ : MethodName) jdk_32_method_3_code 1 (some (.object "java/util/Optional")) ({ frames := 2, cells := 1, slots := 1, locals := 30 } : Room) #[(.ref y)] h0 (fun v h L => ∃ o, v = some (.ref o) ∧ Ow.Eff h0 h [] L ∧ h0.size ≤ o ∧ Exa Z h o "java/util/Optional" ∧ Fld Z h o "java/util/Optional" "value" "Ljava/lang/Object;" (.ref y)) := by
  refine Ow.Pay.of (Ls := #[.val (.ref y)]) (plainFor_of_name pn5) (fun m => by first | rfl | (simp [entryFrame, mkF, argsToLocals, Value.category]; done)) ?_
  intro p e s m below meth c T hx hby hml hown hnm hme hZ hret hlk X eT
  have F := Ow.Eff.refl h0 []
  refine Ow.new_ X hx hZ hown (ww hw 173 rfl) (ww hw 174 rfl) (ww hw 82 rfl) eT (pc := 0) (hb hby d35_0) (by decide) (by decide) ?_
  intro T h_o o ha_o X eT E_o A_o D_o U_o
  have l_o : h0.size ≤ o := by rw [ha_o]; exact F.size
  have F := F.ext E_o
  have V0 := D_o (Or.inr (ww hw 91 rfl)) (ty := .object "java/lang/Object") (by decide)
  refine Ow.dup X hx (pc := 3) (hb hby d35_3) rfl ?_
  refine Ow.aloadN X hx (pc := 4) (hb hby d35_4) rfl rfl ?_
  refine Ow.callSP X hx hZ (c_rnn1 l Z a0 hw _ _) rfl rfl eT hown (ww hw 175 rfl) (ww hw 176 rfl) (ww hw 160 rfl) (ww hw 177 rfl) (by decide) pd19 (by rw [hml]; rfl) (argsL := [_]) rfl rfl rfl (pc := 5) (hb hby d35_5) rfl rfl (by decide) (by decide) ?_   -- java/util/Objects.requireNonNull:(Ljava/lang/Object;)Ljava/lang/Object;
  intro T X eT
  dsimp only [Option.toList_some, Option.toList_none, List.cons_append, List.nil_append]
  refine Ow.callI X hx hZ (c_optinit l Z a0 hw _ _ _ _ A_o V0) eT rfl hown (ww hw 178 rfl) (ww hw 179 rfl) (ww hw 82 rfl) (ww hw 181 rfl) (by decide) pd20 (by rw [hml]; rfl) (argsL := [_]) rfl rfl rfl (pc := 8) (hb hby d35_8) rfl rfl (by decide) (by decide) ?_
  rintro _ T L X ⟨rfl, F3, A_o, V1⟩
  dsimp only [Option.toList_some, Option.toList_none, List.cons_append, List.nil_append]
  have F := F.call F3 (fun y hy => by cases List.mem_singleton.mp hy; exact Or.inr l_o)
  exact Ow.areturn X hx hlk hret rfl rfl rfl (hb hby d35_11) ⟨o, rfl, F, l_o, A_o, V1⟩ (by decide) (by decide)
theorem d39_0 : decode prog_5_method_8_code 0 = .ok (.aload_n 0, 1) := by decide +kernel
theorem d39_1 : decode prog_5_method_8_code 1 = .ok (.getfield 19, 3) := by decide +kernel
theorem d39_4 : decode prog_5_method_8_code 4 = .ok (.areturn, 1) := by decide +kernel
set_option maxRecDepth 65536 in
set_option maxHeartbeats 4000000 in
theorem c_top (l : Launch) (Z : State) (a0 : Array Value) (hw : ∀ d ∈ tables_1, d.before a0 Z = true) (h0 : Heap) (a y : Addr) (F1 : Fld Z h0 a "com/example/mortise/mortise/pack/NamespacedPath" "top" "Ljava/lang/String;" (.ref y)) : Ow.Pay l Z (⟨"com/example/mortise/mortise/pack/NamespacedPath", "top", "()Ljava/lang/String;"⟩ : MethodName) prog_5_method_8_code 1 (some (.object "java/lang/String")) ({ frames := 0, cells := 0, slots := 0, locals := 0 } : Room) #[(.ref a)] h0 (fun v h L => v = some (.ref y) ∧ h = h0 ∧ L = []) := by
  refine Ow.Pay.of (Ls := #[.val (.ref a)]) (plainFor_of_name pn4) (fun m => by first | rfl | (simp [entryFrame, mkF, argsToLocals, Value.category]; done)) ?_
  intro p e s m below meth c T hx hby hml hown hnm hme hZ hret hlk X eT
  refine Ow.aloadN X hx (pc := 0) (hb hby d39_0) rfl rfl ?_
  refine Ow.getfield X hx hZ hown (ww hw 164 rfl) Via.refl eT F1 (pc := 1) (hb hby d39_1) ?_   -- "com/example/mortise/mortise/pack/NamespacedPath" "top" "Ljava/lang/String;"
  intro T X eT
  exact Ow.areturn X hx hlk hret rfl rfl rfl (hb hby d39_4) ⟨rfl, eT, rfl⟩ (by decide) (by decide)
theorem d46_0 : decode prog_5_method_9_code 0 = .ok (.aload_n 0, 1) := by decide +kernel
theorem d46_1 : decode prog_5_method_9_code 1 = .ok (.getfield 24, 3) := by decide +kernel
theorem d46_4 : decode prog_5_method_9_code 4 = .ok (.areturn, 1) := by decide +kernel
set_option maxRecDepth 65536 in
set_option maxHeartbeats 4000000 in
theorem c_namespace (l : Launch) (Z : State) (a0 : Array Value) (hw : ∀ d ∈ tables_1, d.before a0 Z = true) (h0 : Heap) (a y : Addr) (F1 : Fld Z h0 a "com/example/mortise/mortise/pack/NamespacedPath" "namespace" "Ljava/lang/String;" (.ref y)) : Ow.Pay l Z (⟨"com/example/mortise/mortise/pack/NamespacedPath", "namespace", "()Ljava/lang/String;"⟩ : MethodName) prog_5_method_9_code 1 (some (.object "java/lang/String")) ({ frames := 0, cells := 0, slots := 0, locals := 0 } : Room) #[(.ref a)] h0 (fun v h L => v = some (.ref y) ∧ h = h0 ∧ L = []) := by
  refine Ow.Pay.of (Ls := #[.val (.ref a)]) (plainFor_of_name pn4) (fun m => by first | rfl | (simp [entryFrame, mkF, argsToLocals, Value.category]; done)) ?_
  intro p e s m below meth c T hx hby hml hown hnm hme hZ hret hlk X eT
  refine Ow.aloadN X hx (pc := 0) (hb hby d46_0) rfl rfl ?_
  refine Ow.getfield X hx hZ hown (ww hw 166 rfl) Via.refl eT F1 (pc := 1) (hb hby d46_1) ?_   -- "com/example/mortise/mortise/pack/NamespacedPath" "namespace" "Ljava/lang/String;"
  intro T X eT
  exact Ow.areturn X hx hlk hret rfl rfl rfl (hb hby d46_4) ⟨rfl, eT, rfl⟩ (by decide) (by decide)
theorem d47_0 : decode prog_5_method_10_code 0 = .ok (.aload_n 0, 1) := by decide +kernel
theorem d47_1 : decode prog_5_method_10_code 1 = .ok (.getfield 26, 3) := by decide +kernel
theorem d47_4 : decode prog_5_method_10_code 4 = .ok (.areturn, 1) := by decide +kernel
set_option maxRecDepth 65536 in
set_option maxHeartbeats 4000000 in
theorem c_below (l : Launch) (Z : State) (a0 : Array Value) (hw : ∀ d ∈ tables_1, d.before a0 Z = true) (h0 : Heap) (a y : Addr) (F1 : Fld Z h0 a "com/example/mortise/mortise/pack/NamespacedPath" "below" "Ljava/lang/String;" (.ref y)) : Ow.Pay l Z (⟨"com/example/mortise/mortise/pack/NamespacedPath", "below", "()Ljava/lang/String;"⟩ : MethodName) prog_5_method_10_code 1 (some (.object "java/lang/String")) ({ frames := 0, cells := 0, slots := 0, locals := 0 } : Room) #[(.ref a)] h0 (fun v h L => v = some (.ref y) ∧ h = h0 ∧ L = []) := by
  refine Ow.Pay.of (Ls := #[.val (.ref a)]) (plainFor_of_name pn4) (fun m => by first | rfl | (simp [entryFrame, mkF, argsToLocals, Value.category]; done)) ?_
  intro p e s m below meth c T hx hby hml hown hnm hme hZ hret hlk X eT
  refine Ow.aloadN X hx (pc := 0) (hb hby d47_0) rfl rfl ?_
  refine Ow.getfield X hx hZ hown (ww hw 168 rfl) Via.refl eT F1 (pc := 1) (hb hby d47_1) ?_   -- "com/example/mortise/mortise/pack/NamespacedPath" "below" "Ljava/lang/String;"
  intro T X eT
  exact Ow.areturn X hx hlk hret rfl rfl rfl (hb hby d47_4) ⟨rfl, eT, rfl⟩ (by decide) (by decide)
theorem d32_0 : decode prog_5_method_1_code 0 = .ok (.aload_n 0, 1) := by decide +kernel
theorem d32_1 : decode prog_5_method_1_code 1 = .ok (.invokespecial 1, 3) := by decide +kernel
theorem d32_4 : decode prog_5_method_1_code 4 = .ok (.aload_n 1, 1) := by decide +kernel
theorem d32_5 : decode prog_5_method_1_code 5 = .ok (.ldc 7, 2) := by decide +kernel
theorem d32_7 : decode prog_5_method_1_code 7 = .ok (.invokestatic 9, 3) := by decide +kernel
theorem d32_10 : decode prog_5_method_1_code 10 = .ok (.pop, 1) := by decide +kernel
theorem d32_11 : decode prog_5_method_1_code 11 = .ok (.aload_n 2, 1) := by decide +kernel
theorem d32_12 : decode prog_5_method_1_code 12 = .ok (.ldc 15, 2) := by decide +kernel
theorem d32_14 : decode prog_5_method_1_code 14 = .ok (.invokestatic 9, 3) := by decide +kernel
theorem d32_17 : decode prog_5_method_1_code 17 = .ok (.pop, 1) := by decide +kernel
theorem d32_18 : decode prog_5_method_1_code 18 = .ok (.aload_n 3, 1) := by decide +kernel
theorem d32_19 : decode prog_5_method_1_code 19 = .ok (.ldc 17, 2) := by decide +kernel
theorem d32_21 : decode prog_5_method_1_code 21 = .ok (.invokestatic 9, 3) := by decide +kernel
theorem d32_24 : decode prog_5_method_1_code 24 = .ok (.pop, 1) := by decide +kernel
theorem d32_25 : decode prog_5_method_1_code 25 = .ok (.aload_n 0, 1) := by decide +kernel
theorem d32_26 : decode prog_5_method_1_code 26 = .ok (.aload_n 1, 1) := by decide +kernel
theorem d32_27 : decode prog_5_method_1_code 27 = .ok (.putfield 19, 3) := by decide +kernel
theorem d32_30 : decode prog_5_method_1_code 30 = .ok (.aload_n 0, 1) := by decide +kernel
theorem d32_31 : decode prog_5_method_1_code 31 = .ok (.aload_n 2, 1) := by decide +kernel
theorem d32_32 : decode prog_5_method_1_code 32 = .ok (.putfield 24, 3) := by decide +kernel
theorem d32_35 : decode prog_5_method_1_code 35 = .ok (.aload_n 0, 1) := by decide +kernel
theorem d32_36 : decode prog_5_method_1_code 36 = .ok (.aload_n 3, 1) := by decide +kernel
theorem d32_37 : decode prog_5_method_1_code 37 = .ok (.putfield 26, 3) := by decide +kernel
theorem d32_40 : decode prog_5_method_1_code 40 = .ok (.return_, 1) := by decide +kernel
set_option maxRecDepth 65536 in
set_option maxHeartbeats 4000000 in
theorem c_npinit (l : Launch) (Z : State) (a0 : Array Value) (hw : ∀ d ∈ tables_1, d.before a0 Z = true) (hEL : EW Z a0 EL) (h0 : Heap) (a y1 y2 y3 : Addr) (v1 v2 v3 : Value) (A : Exa Z h0 a "com/example/mortise/mortise/pack/NamespacedPath") (F_top : Fld Z h0 a "com/example/mortise/mortise/pack/NamespacedPath" "top" "Ljava/lang/String;" v1) (F_namespace : Fld Z h0 a "com/example/mortise/mortise/pack/NamespacedPath" "namespace" "Ljava/lang/String;" v2) (F_below : Fld Z h0 a "com/example/mortise/mortise/pack/NamespacedPath" "below" "Ljava/lang/String;" v3) : Ow.PayW l Z EL [a] (⟨"com/example/mortise/mortise/pack/NamespacedPath", "<init>", "(Ljava/lang/String;Ljava/lang/String;Ljava/lang/String;)V"⟩ : MethodName) prog_5_method_1_code 4 none ({ frames := 2, cells := 6, slots := 80, locals := 30 } : Room) #[(.ref a), (.ref y1), (.ref y2), (.ref y3)] h0 (fun v h L => v = none ∧ Ow.Eff h0 h [a] L ∧ Exa Z h a "com/example/mortise/mortise/pack/NamespacedPath" ∧ Fld Z h a "com/example/mortise/mortise/pack/NamespacedPath" "top" "Ljava/lang/String;" (.ref y1) ∧ Fld Z h a "com/example/mortise/mortise/pack/NamespacedPath" "namespace" "Ljava/lang/String;" (.ref y2) ∧ Fld Z h a "com/example/mortise/mortise/pack/NamespacedPath" "below" "Ljava/lang/String;" (.ref y3)) := by
  refine Ow.PayW.of (Ls := #[.val (.ref a), .val (.ref y1), .val (.ref y2), .val (.ref y3)]) (plainFor_of_name pn4) (fun m => by first | rfl | (simp [entryFrame, mkF, argsToLocals, Value.category]; done)) ?_
  intro p e s m below meth c T vm0 hx hby hml hown hnm hme hret hlk X eT D hsf
  have F := Ow.Eff.refl h0 [a]
  have wS : ∀ a ∈ Bundle.stringAtoms, a.before a0 Z = true := fun d hd => hw d ((by decide +kernel : ∀ d ∈ Bundle.stringAtoms, d ∈ tables_1) d hd)
  have hni := (name_of_methodNamed hnm hme).1
  have Sa : Safe Z EL vm0 h0 a := hsf a (by simp)
  have sn_top_namespace : RoadKit.slotOf Z "com/example/mortise/mortise/pack/NamespacedPath" "top" "Ljava/lang/String;" ≠ RoadKit.slotOf Z "com/example/mortise/mortise/pack/NamespacedPath" "namespace" "Ljava/lang/String;" := slot_ne (a0 := a0) (C := "com/example/mortise/mortise/pack/NamespacedPath") (Or.inr (ww hw 165 rfl)) (Or.inr (ww hw 167 rfl)) (by decide) (t := .object "java/lang/String") (t' := .object "java/lang/String") (by decide) (by decide)
  have sn_top_below : RoadKit.slotOf Z "com/example/mortise/mortise/pack/NamespacedPath" "top" "Ljava/lang/String;" ≠ RoadKit.slotOf Z "com/example/mortise/mortise/pack/NamespacedPath" "below" "Ljava/lang/String;" := slot_ne (a0 := a0) (C := "com/example/mortise/mortise/pack/NamespacedPath") (Or.inr (ww hw 165 rfl)) (Or.inr (ww hw 169 rfl)) (by decide) (t := .object "java/lang/String") (t' := .object "java/lang/String") (by decide) (by decide)
  have sn_namespace_below : RoadKit.slotOf Z "com/example/mortise/mortise/pack/NamespacedPath" "namespace" "Ljava/lang/String;" ≠ RoadKit.slotOf Z "com/example/mortise/mortise/pack/NamespacedPath" "below" "Ljava/lang/String;" := slot_ne (a0 := a0) (C := "com/example/mortise/mortise/pack/NamespacedPath") (Or.inr (ww hw 167 rfl)) (Or.inr (ww hw 169 rfl)) (by decide) (t := .object "java/lang/String") (t' := .object "java/lang/String") (by decide) (by decide)
  refine Ow.aloadN X hx (pc := 0) (hb hby d32_0) rfl rfl ?_
  refine Ow.callI X hx D.hZ (c_recinit l Z a0 hw _ _) eT rfl hown (ww hw 151 rfl) (ww hw 152 rfl) (ww hw 154 rfl) (ww hw 155 rfl) (by decide) pd6 (by rw [hml]; rfl) (argsL := []) rfl rfl rfl (pc := 1) (hb hby d32_1) rfl rfl (by decide) (by decide) ?_   -- java/lang/Record.<init>:()V
  rintro _ T L X ⟨rfl, eT, rfl⟩
  rw [List.append_nil] at X
  dsimp only [Option.toList_some, Option.toList_none, List.cons_append, List.nil_append]
  refine Ow.aloadN X hx (pc := 4) (hb hby d32_4) rfl rfl ?_
  have hlt0 := A.lt
  refine Ow.ldcO X hx eT D hEL hown (ww hw 157 rfl) wS (pc := 5) (hb hby d32_5) 12 (by decide) (by decide) (by decide) (by decide) ?_
  intro vm1 a1 T h1 X eT E1 D hown C1
  have Sa := C1.safe hlt0 Sa
  have A := A.ext E1
  have F_top := F_top.ext E1
  have F_namespace := F_namespace.ext E1
  have F_below := F_below.ext E1
  have F := F.ext E1
  refine Ow.callSP X hx D.hZ (c_rnn2 l Z a0 hw _ _ _) rfl rfl eT hown (ww hw 158 rfl) (ww hw 159 rfl) (ww hw 160 rfl) (ww hw 161 rfl) (by decide) pd21 (by rw [hml]; rfl) (argsL := [_, _]) rfl rfl rfl (pc := 7) (hb hby d32_7) rfl rfl (by decide) (by decide) ?_   -- java/util/Objects.requireNonNull:(Ljava/lang/Object;Ljava/lang/String;)Ljava/lang/Object;
  intro T X eT
  dsimp only [Option.toList_some, Option.toList_none, List.cons_append, List.nil_append]
  refine Ow.pop X hx (pc := 10) (hb hby d32_10) rfl ?_
  refine Ow.aloadN X hx (pc := 11) (hb hby d32_11) rfl rfl ?_
  have hlt1 := A.lt
  refine Ow.ldcO X hx eT D hEL hown (ww hw 162 rfl) wS (pc := 12) (hb hby d32_12) 36 (by decide) (by decide) (by decide) (by decide) ?_
  intro vm2 a2 T h2 X eT E2 D hown C2
  have Sa := C2.safe hlt1 Sa
  have A := A.ext E2
  have F_top := F_top.ext E2
  have F_namespace := F_namespace.ext E2
  have F_below := F_below.ext E2
  have F := F.ext E2
  refine Ow.callSP X hx D.hZ (c_rnn2 l Z a0 hw _ _ _) rfl rfl eT hown (ww hw 158 rfl) (ww hw 159 rfl) (ww hw 160 rfl) (ww hw 161 rfl) (by decide) pd21 (by rw [hml]; rfl) (argsL := [_, _]) rfl rfl rfl (pc := 14) (hb hby d32_14) rfl rfl (by decide) (by decide) ?_   -- java/util/Objects.requireNonNull:(Ljava/lang/Object;Ljava/lang/String;)Ljava/lang/Object;
  intro T X eT
  dsimp only [Option.toList_some, Option.toList_none, List.cons_append, List.nil_append]
  refine Ow.pop X hx (pc := 17) (hb hby d32_17) rfl ?_
  refine Ow.aloadN X hx (pc := 18) (hb hby d32_18) rfl rfl ?_
  have hlt2 := A.lt
  refine Ow.ldcO X hx eT D hEL hown (ww hw 163 rfl) wS (pc := 19) (hb hby d32_19) 20 (by decide) (by decide) (by decide) (by decide) ?_
  intro vm3 a3 T h3 X eT E3 D hown C3
  have Sa := C3.safe hlt2 Sa
  have A := A.ext E3
  have F_top := F_top.ext E3
  have F_namespace := F_namespace.ext E3
  have F_below := F_below.ext E3
  have F := F.ext E3
  refine Ow.callSP X hx D.hZ (c_rnn2 l Z a0 hw _ _ _) rfl rfl eT hown (ww hw 158 rfl) (ww hw 159 rfl) (ww hw 160 rfl) (ww hw 161 rfl) (by decide) pd21 (by rw [hml]; rfl) (argsL := [_, _]) rfl rfl rfl (pc := 21) (hb hby d32_21) rfl rfl (by decide) (by decide) ?_   -- java/util/Objects.requireNonNull:(Ljava/lang/Object;Ljava/lang/String;)Ljava/lang/Object;
  intro T X eT
  dsimp only [Option.toList_some, Option.toList_none, List.cons_append, List.nil_append]
  refine Ow.pop X hx (pc := 24) (hb hby d32_24) rfl ?_
  refine Ow.aloadN X hx (pc := 25) (hb hby d32_25) rfl rfl ?_
  refine Ow.aloadN X hx (pc := 26) (hb hby d32_26) rfl rfl ?_
  refine Ow.putfield X hx D.hZ hown (ww hw 164 rfl) Via.refl eT F_top A (Or.inr ⟨(ww hw 165 rfl), rfl, hni⟩) (ww hw 106 rfl) (ty := .object "java/lang/String") (by decide) rfl rfl (pc := 27) (hb hby d32_27) ?_
  intro T h_27 X eT W_27
  have F_top := F_top.same W_27
  have F_namespace := F_namespace.other W_27 (Or.inr (Ne.symm sn_top_namespace))
  have F_below := F_below.other W_27 (Or.inr (Ne.symm sn_top_below))
  have A := A.wr W_27
  have F := F.wr W_27 (Or.inl (by simp))
  have Sa2 := D.safeWr W_27 Sa Sa
  have D := D.wr W_27 Sa
  have Sa := Sa2
  refine Ow.aloadN X hx (pc := 30) (hb hby d32_30) rfl rfl ?_
  refine Ow.aloadN X hx (pc := 31) (hb hby d32_31) rfl rfl ?_
  refine Ow.putfield X hx D.hZ hown (ww hw 166 rfl) Via.refl eT F_namespace A (Or.inr ⟨(ww hw 167 rfl), rfl, hni⟩) (ww hw 106 rfl) (ty := .object "java/lang/String") (by decide) rfl rfl (pc := 32) (hb hby d32_32) ?_
  intro T h_32 X eT W_32
  have F_top := F_top.other W_32 (Or.inr sn_top_namespace)
  have F_namespace := F_namespace.same W_32
  have F_below := F_below.other W_32 (Or.inr (Ne.symm sn_namespace_below))
  have A := A.wr W_32
  have F := F.wr W_32 (Or.inl (by simp))
  have Sa2 := D.safeWr W_32 Sa Sa
  have D := D.wr W_32 Sa
  have Sa := Sa2
  refine Ow.aloadN X hx (pc := 35) (hb hby d32_35) rfl rfl ?_
  refine Ow.aloadN X hx (pc := 36) (hb hby d32_36) rfl rfl ?_
  refine Ow.putfield X hx D.hZ hown (ww hw 168 rfl) Via.refl eT F_below A (Or.inr ⟨(ww hw 169 rfl), rfl, hni⟩) (ww hw 106 rfl) (ty := .object "java/lang/String") (by decide) rfl rfl (pc := 37) (hb hby d32_37) ?_
  intro T h_37 X eT W_37
  have F_top := F_top.other W_37 (Or.inr sn_top_below)
  have F_namespace := F_namespace.other W_37 (Or.inr sn_namespace_below)
  have F_below := F_below.same W_37
  have A := A.wr W_37
  have F := F.wr W_37 (Or.inl (by simp))
  have Sa2 := D.safeWr W_37 Sa Sa
  have D := D.wr W_37 Sa
  have Sa := Sa2
  exact Ow.vreturnW X hx eT D hEL hlk hret (hb hby d32_40) ⟨rfl, by rw [eT]; exact F, by rw [eT]; exact A, by rw [eT]; exact F_top, by rw [eT]; exact F_namespace, by rw [eT]; exact F_below⟩ (by decide) (by decide)
theorem d6_0 : decode prog_5_method_2_code 0 = .ok (.aload_n 0, 1) := by decide +kernel
theorem d6_1 : decode prog_5_method_2_code 1 = .ok (.invokestatic 28, 3) := by decide +kernel
theorem d6_4 : decode prog_5_method_2_code 4 = .ok (.istore_n 1, 1) := by decide +kernel
theorem d6_5 : decode prog_5_method_2_code 5 = .ok (.iload_n 1, 1) := by decide +kernel
theorem d6_6 : decode prog_5_method_2_code 6 = .ok (.ifCond .ge 7, 3) := by decide +kernel
theorem d6_9 : decode prog_5_method_2_code 9 = .ok (.invokestatic 32, 3) := by decide +kernel
theorem d6_12 : decode prog_5_method_2_code 12 = .ok (.areturn, 1) := by decide +kernel
theorem d6_13 : decode prog_5_method_2_code 13 = .ok (.aload_n 0, 1) := by decide +kernel
theorem d6_14 : decode prog_5_method_2_code 14 = .ok (.bipush 47, 2) := by decide +kernel
theorem d6_16 : decode prog_5_method_2_code 16 = .ok (.invokevirtual 38, 3) := by decide +kernel
theorem d6_19 : decode prog_5_method_2_code 19 = .ok (.istore_n 2, 1) := by decide +kernel
theorem d6_20 : decode prog_5_method_2_code 20 = .ok (.new 20, 3) := by decide +kernel
theorem d6_23 : decode prog_5_method_2_code 23 = .ok (.dup, 1) := by decide +kernel
theorem d6_24 : decode prog_5_method_2_code 24 = .ok (.aload_n 0, 1) := by decide +kernel
theorem d6_25 : decode prog_5_method_2_code 25 = .ok (.iconst 0, 1) := by decide +kernel
theorem d6_26 : decode prog_5_method_2_code 26 = .ok (.iload_n 2, 1) := by decide +kernel
theorem d6_27 : decode prog_5_method_2_code 27 = .ok (.invokevirtual 44, 3) := by decide +kernel
theorem d6_30 : decode prog_5_method_2_code 30 = .ok (.aload_n 0, 1) := by decide +kernel
theorem d6_31 : decode prog_5_method_2_code 31 = .ok (.iload_n 2, 1) := by decide +kernel
theorem d6_32 : decode prog_5_method_2_code 32 = .ok (.iconst 1, 1) := by decide +kernel
theorem d6_33 : decode prog_5_method_2_code 33 = .ok (.iadd, 1) := by decide +kernel
theorem d6_34 : decode prog_5_method_2_code 34 = .ok (.iload_n 1, 1) := by decide +kernel
theorem d6_35 : decode prog_5_method_2_code 35 = .ok (.invokevirtual 44, 3) := by decide +kernel
theorem d6_38 : decode prog_5_method_2_code 38 = .ok (.aload_n 0, 1) := by decide +kernel
theorem d6_39 : decode prog_5_method_2_code 39 = .ok (.iload_n 1, 1) := by decide +kernel
theorem d6_40 : decode prog_5_method_2_code 40 = .ok (.iconst 1, 1) := by decide +kernel
theorem d6_41 : decode prog_5_method_2_code 41 = .ok (.iadd, 1) := by decide +kernel
theorem d6_42 : decode prog_5_method_2_code 42 = .ok (.invokevirtual 48, 3) := by decide +kernel
theorem d6_45 : decode prog_5_method_2_code 45 = .ok (.invokespecial 51, 3) := by decide +kernel
theorem d6_48 : decode prog_5_method_2_code 48 = .ok (.invokestatic 54, 3) := by decide +kernel
theorem d6_51 : decode prog_5_method_2_code 51 = .ok (.areturn, 1) := by decide +kernel
set_option maxRecDepth 65536 in
set_option maxHeartbeats 4000000 in
theorem c_ofE (l : Launch) (Z : State) (a0 : Array Value) (hw : ∀ d ∈ tables_1, d.before a0 Z = true) (h0 : Heap) (z : Int32) (x t om : Addr) (kb : ClassId) (bs : List Int32) (S : Sta Z h0 "java/lang/String" "COMPACT_STRINGS" "Z" (.int z)) (hz : ¬ z = 0) (So : Sta Z h0 "java/util/Optional" "EMPTY" "Ljava/util/Optional;" (.ref om)) (St : Ow.Str Z h0 x t kb bs) (hcap : bs.length ≤ 6) (hneg : own_after bs < 0) : Ow.Pay l Z (⟨"com/example/mortise/mortise/pack/NamespacedPath", "of", "(Ljava/lang/String;)Ljava/util/Optional;"⟩ : MethodName) prog_5_method_2_code 3 (some (.object "java/util/Optional")) ({ frames := 5, cells := 0, slots := 0, locals := 100 } : Room) #[(.ref x)] h0 (fun v h L => v = some (.ref om) ∧ h = h0 ∧ L = []) := by
  refine Ow.Pay.of (Ls := #[.val (.ref x), .unset, .unset]) (plainFor_of_name pn4) (fun m => by first | rfl | (simp [entryFrame, mkF, argsToLocals, Value.category]; done)) ?_
  intro p e s m below meth c T hx hby hml hown hnm hme hZ hret hlk X eT
  refine Ow.aloadN X hx (pc := 0) (hb hby d6_0) rfl rfl ?_
  refine Ow.callSP X hx hZ (c_after l Z a0 hw h0 z x t kb bs S hz St (by omega)) rfl rfl eT hown (ww hw 36 rfl) (ww hw 37 rfl) (ww hw 34 rfl) (ww hw 38 rfl) (by decide) pd22 (by rw [hml]; rfl) (argsL := [_]) rfl rfl rfl (pc := 1) (hb hby d6_1) rfl rfl (by decide) (by decide) ?_   -- com/example/mortise/mortise/pack/NamespacedPath.afterNamespace:(Ljava/lang/String;)I
  intro T X eT
  dsimp only [Option.toList_some, Option.toList_none, List.cons_append, List.nil_append]
  refine Ow.istoreN X hx (pc := 4) #[_, _, _] (hb hby d6_4) rfl ?_
  refine Ow.iloadN X hx (pc := 5) (hb hby d6_5) rfl ?_
  refine Ow.if_ge X hx (pc := 6) (pc' := 13) (hb hby d6_6) (by decide) (by decide) (fun q => absurd hneg q) (fun h6 => ?_)
  refine Ow.callSP X hx hZ (c_empty l Z a0 hw h0 om So) rfl rfl eT hown (ww hw 80 rfl) (ww hw 81 rfl) (ww hw 82 rfl) (ww hw 83 rfl) (by decide) pd23 (by rw [hml]; rfl) (argsL := []) rfl rfl rfl (pc := 9) (hb hby d6_9) rfl rfl (by decide) (by decide) ?_   -- java/util/Optional.empty:()Ljava/util/Optional;
  intro T X eT
  dsimp only [Option.toList_some, Option.toList_none, List.cons_append, List.nil_append]
  exact Ow.areturn X hx hlk hret rfl rfl rfl (hb hby d6_12) ⟨rfl, eT, rfl⟩ (by decide) (by decide)
set_option maxRecDepth 65536 in
set_option maxHeartbeats 4000000 in
theorem c_sub1W (l : Launch) (Z : State) (a0 : Array Value) (hw : ∀ d ∈ tables_1, d.before a0 Z = true) (hEL : EW Z a0 EL) (h0 : Heap) (z : Int32) (fm : Value) (S : Sta Z h0 "java/lang/String" "COMPACT_STRINGS" "Z" (.int z)) (hz : ¬ z = 0) (Sf : Sta Z h0 "jdk/internal/util/Preconditions" "SIOOBE_FORMATTER" "Ljava/util/function/BiFunction;" fm) (hfm : fm.isRef = true) (x : Addr) (t : Addr) (kb : ClassId) (bs : List Int32) (St : Ow.Str Z h0 x t kb bs) (hfit : ∀ v ∈ bs.map Value.int, fits .byte v = true) (i : Nat) (hcap : bs.length ≤ 6) (hi0 : 0 < i) (hle : i ≤ bs.length) : Ow.PayW l Z EL [] (⟨"java/lang/String", "substring", "(I)Ljava/lang/String;"⟩ : MethodName) jdk_42_method_91_code 2 (some (.object "java/lang/String")) ({ frames := 5, cells := 2, slots := 10, locals := 90 } : Room) #[(.ref x), (.int (Int32.ofNat i))] h0 (fun v h L => ∃ x d kd, v = some (.ref x) ∧ Ow.Eff h0 h [] L ∧ Ow.Str Z h x d kd (bs.drop i)) := by
  refine Ow.PayW.of (Ls := #[.val (.ref x), .val (.int (Int32.ofNat i))]) (plainFor_of_name pn0) (fun m => by first | rfl | (simp [entryFrame, mkF, argsToLocals, Value.category]; done)) ?_
  intro p e s m below meth c T vm0 hx hby hml hown hnm hme hret hlk X eT D hsf
  rcases Nat.lt_or_ge i bs.length with hlt | hge
  · refine Ow.aloadN X hx (pc := 0) (hb hby d31_0) rfl rfl ?_
    refine Ow.iloadN X hx (pc := 1) (hb hby d31_1) rfl ?_
    refine Ow.aloadN X hx (pc := 2) (hb hby d31_2) rfl rfl ?_
    refine Ow.callVP X hx D.hZ (c_length l Z a0 hw h0 z x t kb bs S hz St) rfl rfl eT hown (ww hw 55 rfl) (ww hw 56 rfl) (ww hw 58 rfl) (ww hw 57 rfl) (ww hw 7 rfl) (ww hw 59 rfl) (by decide) pd5 (by rw [hml]; rfl) St.1 (argsL := []) rfl rfl rfl (pc := 3) (hb hby d31_3) rfl rfl (by decide) (by decide) ?_   -- java/lang/String.length:()I
    intro T X eT
    dsimp only [Option.toList_some, Option.toList_none, List.cons_append, List.nil_append]
    refine Ow.callV X hx D.hZ (c_sub2 l Z a0 hw _ z fm S hz Sf hfm x t kb bs St hfit i bs.length hcap (by omega) (Nat.le_refl _) hlt (fun q => by omega)) eT hown (ww hw 147 rfl) (ww hw 108 rfl) (ww hw 110 rfl) (ww hw 109 rfl) (ww hw 7 rfl) (ww hw 111 rfl) (by decide) pd17 (by rw [hml]; rfl) St.1 (argsL := [_, _]) rfl rfl rfl (pc := 6) (hb hby d31_6) rfl rfl (by decide) (by decide) ?_
    rintro _ T L X ⟨x1, d, kd, rfl, F2, S2⟩
    dsimp only [Option.toList_some, Option.toList_none, List.cons_append, List.nil_append]
    have D := D.ext (Ow.Keep.ext0 F2.1)
    have eT : T.heap = T.heap := rfl
    exact Ow.areturnW X hx eT D hEL hlk hret rfl rfl rfl (hb hby d31_9) ⟨x1, d, kd, rfl, F2, by rw [List.take_of_length_le (by simp)] at S2; exact S2⟩ (by decide) (by decide)
  · obtain rfl : i = bs.length := by omega
    refine Ow.aloadN X hx (pc := 0) (hb hby d31_0) rfl rfl ?_
    refine Ow.iloadN X hx (pc := 1) (hb hby d31_1) rfl ?_
    refine Ow.aloadN X hx (pc := 2) (hb hby d31_2) rfl rfl ?_
    refine Ow.callVP X hx D.hZ (c_length l Z a0 hw h0 z x t kb bs S hz St) rfl rfl eT hown (ww hw 55 rfl) (ww hw 56 rfl) (ww hw 58 rfl) (ww hw 57 rfl) (ww hw 7 rfl) (ww hw 59 rfl) (by decide) pd5 (by rw [hml]; rfl) St.1 (argsL := []) rfl rfl rfl (pc := 3) (hb hby d31_3) rfl rfl (by decide) (by decide) ?_   -- java/lang/String.length:()I
    intro T X eT
    dsimp only [Option.toList_some, Option.toList_none, List.cons_append, List.nil_append]
    refine Ow.callVW X hx (c_sub2E l Z a0 hw hEL _ z fm S hz Sf hfm x t kb bs St hfit bs.length hcap (Nat.le_refl _) (fun q => by omega)) eT D hEL (fun _ q => nomatch q) hown (ww hw 147 rfl) (ww hw 108 rfl) (ww hw 110 rfl) (ww hw 109 rfl) (ww hw 7 rfl) (ww hw 111 rfl) (by decide) pd17 (by rw [hml]; rfl) St.1 (argsL := [_, _]) rfl rfl rfl (pc := 6) (hb hby d31_6) rfl rfl (by decide) (by decide) ?_
    rintro _ vm1 T L X ⟨x1, d, kd, rfl, F2, S2⟩ D hown C1
    dsimp only [Option.toList_some, Option.toList_none, List.cons_append, List.nil_append]
    have eT : T.heap = T.heap := rfl
    exact Ow.areturnW X hx eT D hEL hlk hret rfl rfl rfl (hb hby d31_9) ⟨x1, d, kd, rfl, F2, by rw [List.drop_length]; exact S2⟩ (by decide) (by decide)
set_option maxRecDepth 65536 in
set_option maxHeartbeats 40000000 in
theorem c_ofP (l : Launch) (Z : State) (a0 : Array Value) (hw : ∀ d ∈ tables_1, d.before a0 Z = true) (hEL : EW Z a0 EL) (h0 : Heap) (z : Int32) (fm : Value) (x t : Addr) (kb : ClassId) (bs : List Int32) (S : Sta Z h0 "java/lang/String" "COMPACT_STRINGS" "Z" (.int z)) (hz : ¬ z = 0) (Sf : Sta Z h0 "jdk/internal/util/Preconditions" "SIOOBE_FORMATTER" "Ljava/util/function/BiFunction;" fm) (hfm : fm.isRef = true) (St : Ow.Str Z h0 x t kb bs) (hfit : ∀ v ∈ bs.map Value.int, fits .byte v = true) (hcap : bs.length ≤ 6) (a b : Nat) (ha : own_ixs 47 bs 0 = Int32.ofNat a) (hab : own_after bs = Int32.ofNat b) (ha0 : 0 < a) (hlt : a + 1 < b) (hbl : b < bs.length) : Ow.PayW l Z EL [] (⟨"com/example/mortise/mortise/pack/NamespacedPath", "of", "(Ljava/lang/String;)Ljava/util/Optional;"⟩ : MethodName) prog_5_method_2_code 3 (some (.object "java/util/Optional")) ({ frames := 7, cells := 16, slots := 128, locals := 130 } : Room) #[(.ref x)] h0 (fun v h L => ∃ o np y1 y2 y3 t1 t2 t3 k1 k2 k3, v = some (.ref o) ∧ Ow.Eff h0 h [] L ∧ Exa Z h o "java/util/Optional" ∧ Fld Z h o "java/util/Optional" "value" "Ljava/lang/Object;" (.ref np) ∧ Exa Z h np "com/example/mortise/mortise/pack/NamespacedPath" ∧ Fld Z h np "com/example/mortise/mortise/pack/NamespacedPath" "top" "Ljava/lang/String;" (.ref y1) ∧ Fld Z h np "com/example/mortise/mortise/pack/NamespacedPath" "namespace" "Ljava/lang/String;" (.ref y2) ∧ Fld Z h np "com/example/mortise/mortise/pack/NamespacedPath" "below" "Ljava/lang/String;" (.ref y3) ∧ Ow.Str Z h y1 t1 k1 ((bs.drop 0).take (a - 0)) ∧ Ow.Str Z h y2 t2 k2 ((bs.drop (a + 1)).take (b - (a + 1))) ∧ Ow.Str Z h y3 t3 k3 (bs.drop (b + 1))) := by
  refine Ow.PayW.of (Ls := #[.val (.ref x), .unset, .unset]) (plainFor_of_name pn4) (fun m => by first | rfl | (simp [entryFrame, mkF, argsToLocals, Value.category]; done)) ?_
  intro p e s m below meth c T vm0 hx hby hml hown hnm hme hret hlk X eT D hsf
  have F := Ow.Eff.refl h0 []
  refine Ow.aloadN X hx (pc := 0) (hb hby d6_0) rfl rfl ?_
  refine Ow.callSP X hx D.hZ (c_after l Z a0 hw h0 z x t kb bs S hz St (by omega)) rfl rfl eT hown (ww hw 36 rfl) (ww hw 37 rfl) (ww hw 34 rfl) (ww hw 38 rfl) (by decide) pd22 (by rw [hml]; rfl) (argsL := [_]) rfl rfl rfl (pc := 1) (hb hby d6_1) rfl rfl (by decide) (by decide) ?_   -- com/example/mortise/mortise/pack/NamespacedPath.afterNamespace:(Ljava/lang/String;)I
  intro T X eT
  dsimp only [Option.toList_some, Option.toList_none, List.cons_append, List.nil_append]
  rw [hab]
  refine Ow.istoreN X hx (pc := 4) #[_, _, _] (hb hby d6_4) rfl ?_
  refine Ow.iloadN X hx (pc := 5) (hb hby d6_5) rfl ?_
  refine Ow.if_ge X hx (pc := 6) (pc' := 13) (hb hby d6_6) (by decide) (by decide) (fun h6 => ?_) (fun q => absurd q (Ow.n_nn (by omega)))
  refine Ow.aloadN X hx (pc := 13) (hb hby d6_13) rfl rfl ?_
  refine Ow.bipush X hx (pc := 14) (47) (hb hby d6_14) (by decide) ?_
  refine Ow.callVP X hx D.hZ (c_indexOf1 l Z a0 hw h0 z x t kb bs S hz St (by omega)) rfl rfl eT hown (ww hw 39 rfl) (ww hw 40 rfl) (ww hw 42 rfl) (ww hw 41 rfl) (ww hw 7 rfl) (ww hw 43 rfl) (by decide) pd18 (by rw [hml]; rfl) St.1 (argsL := [_]) rfl rfl rfl (pc := 16) (hb hby d6_16) rfl rfl (by decide) (by decide) ?_   -- java/lang/String.indexOf:(I)I
  intro T X eT
  dsimp only [Option.toList_some, Option.toList_none, List.cons_append, List.nil_append]
  rw [ha]
  refine Ow.istoreN X hx (pc := 19) #[_, _, _] (hb hby d6_19) rfl ?_
  refine Ow.new_ X hx D.hZ hown (ww hw 105 rfl) (ww hw 106 rfl) (ww hw 34 rfl) eT (pc := 20) (hb hby d6_20) (by decide) (by decide) ?_
  intro T h_np np ha_np X eT E_np A_np D_np U_np
  have l_np : h0.size ≤ np := by rw [ha_np]; exact F.size
  have ne_x_np : x ≠ np := by rw [ha_np]; exact Nat.ne_of_lt St.lt
  have ne_t_np : t ≠ np := by rw [ha_np]; exact Nat.ne_of_lt St.ltB
  have S_np := D.safeNew E_np
  rw [← ha_np] at S_np
  have S := S.ext E_np
  have Sf := Sf.ext E_np
  have St := St.ext E_np
  have F := F.ext E_np
  have D := D.ext E_np
  have F_top := D_np (Or.inr (ww hw 165 rfl)) (ty := .object "java/lang/String") (by decide)
  have F_namespace := D_np (Or.inr (ww hw 167 rfl)) (ty := .object "java/lang/String") (by decide)
  have F_below := D_np (Or.inr (ww hw 169 rfl)) (ty := .object "java/lang/String") (by decide)
  refine Ow.dup X hx (pc := 23) (hb hby d6_23) rfl ?_
  refine Ow.aloadN X hx (pc := 24) (hb hby d6_24) rfl rfl ?_
  refine Ow.iconst X hx (pc := 25) (0) (hb hby d6_25) (by decide) ?_
  refine Ow.iloadN X hx (pc := 26) (hb hby d6_26) rfl ?_
  refine Ow.callV X hx D.hZ (c_sub2 l Z a0 hw _ z fm S hz Sf hfm x t kb bs St hfit 0 a hcap (by omega) (by omega) (by omega) (fun q => by omega)) eT hown (ww hw 107 rfl) (ww hw 108 rfl) (ww hw 110 rfl) (ww hw 109 rfl) (ww hw 7 rfl) (ww hw 111 rfl) (by decide) pd17 (by rw [hml]; rfl) St.1 (argsL := [_, _]) rfl rfl rfl (pc := 27) (hb hby d6_27) rfl rfl (by decide) (by decide) ?_
  rintro _ T L X ⟨y1, t1, k1, rfl, F2, St1⟩
  dsimp only [Option.toList_some, Option.toList_none, List.cons_append, List.nil_append]
  have E2 := Ow.Keep.ext0 F2.1
  have F := F.call F2 (fun _ q => nomatch q)
  have S := S.ext E2
  have Sf := Sf.ext E2
  have St := St.ext E2
  have A_np := A_np.ext E2
  have F_top := F_top.ext E2
  have F_namespace := F_namespace.ext E2
  have F_below := F_below.ext E2
  have S_np := D.safeExt E2 S_np
  have D := D.ext E2
  obtain ⟨h_27, e_27⟩ : ∃ q, q = T.heap := ⟨_, rfl⟩
  rw [← e_27] at F D S_np S Sf St A_np F_top F_namespace F_below St1
  have eT : T.heap = h_27 := e_27.symm
  refine Ow.aloadN X hx (pc := 30) (hb hby d6_30) rfl rfl ?_
  refine Ow.iloadN X hx (pc := 31) (hb hby d6_31) rfl ?_
  refine Ow.iconst X hx (pc := 32) (1) (hb hby d6_32) (by decide) ?_
  refine Ow.iadd X hx (pc := 33) (hb hby d6_33) ?_
  rw [Ow.n_one]
  refine Ow.iloadN X hx (pc := 34) (hb hby d6_34) rfl ?_
  refine Ow.callV X hx D.hZ (c_sub2 l Z a0 hw _ z fm S hz Sf hfm x t kb bs St hfit (a + 1) b hcap (by omega) (by omega) (by omega) (fun q => by omega)) eT hown (ww hw 107 rfl) (ww hw 108 rfl) (ww hw 110 rfl) (ww hw 109 rfl) (ww hw 7 rfl) (ww hw 111 rfl) (by decide) pd17 (by rw [hml]; rfl) St.1 (argsL := [_, _]) rfl rfl rfl (pc := 35) (hb hby d6_35) rfl rfl (by decide) (by decide) ?_
  rintro _ T L X ⟨y2, t2, k2, rfl, F2, St2⟩
  dsimp only [Option.toList_some, Option.toList_none, List.cons_append, List.nil_append]
  have E2 := Ow.Keep.ext0 F2.1
  have F := F.call F2 (fun _ q => nomatch q)
  have S := S.ext E2
  have Sf := Sf.ext E2
  have St := St.ext E2
  have A_np := A_np.ext E2
  have F_top := F_top.ext E2
  have F_namespace := F_namespace.ext E2
  have F_below := F_below.ext E2
  have St1 := St1.ext E2
  have S_np := D.safeExt E2 S_np
  have D := D.ext E2
  obtain ⟨h_35, e_35⟩ : ∃ q, q = T.heap := ⟨_, rfl⟩
  rw [← e_35] at F D S_np S Sf St A_np F_top F_namespace F_below St1 St2
  have eT : T.heap = h_35 := e_35.symm
  refine Ow.aloadN X hx (pc := 38) (hb hby d6_38) rfl rfl ?_
  refine Ow.iloadN X hx (pc := 39) (hb hby d6_39) rfl ?_
  refine Ow.iconst X hx (pc := 40) (1) (hb hby d6_40) (by decide) ?_
  refine Ow.iadd X hx (pc := 41) (hb hby d6_41) ?_
  rw [Ow.n_one]
  refine Ow.callVW X hx (c_sub1W l Z a0 hw hEL _ z fm S hz Sf hfm x t kb bs St hfit (b + 1) hcap (by omega) (by omega)) eT D hEL (fun _ q => nomatch q) hown (ww hw 142 rfl) (ww hw 143 rfl) (ww hw 145 rfl) (ww hw 144 rfl) (ww hw 7 rfl) (ww hw 146 rfl) (by decide) pd24 (by rw [hml]; rfl) St.1 (argsL := [_]) rfl rfl rfl (pc := 42) (hb hby d6_42) rfl rfl (by decide) (by decide) ?_
  rintro _ vm1 T L X ⟨y3, t3, k3, rfl, F2, St3⟩ D hown C1
  dsimp only [Option.toList_some, Option.toList_none, List.cons_append, List.nil_append]
  have E2 := Ow.Keep.ext0 F2.1
  have F := F.call F2 (fun _ q => nomatch q)
  have S_np := C1.safe A_np.lt S_np
  have S := S.ext E2
  have Sf := Sf.ext E2
  have St := St.ext E2
  have A_np := A_np.ext E2
  have F_top := F_top.ext E2
  have F_namespace := F_namespace.ext E2
  have F_below := F_below.ext E2
  have St1 := St1.ext E2
  have St2 := St2.ext E2
  obtain ⟨h_42, e_42⟩ : ∃ q, q = T.heap := ⟨_, rfl⟩
  rw [← e_42] at F D S_np S Sf St A_np F_top F_namespace F_below St1 St2 St3
  have eT : T.heap = h_42 := e_42.symm
  have nx1 : y1 ≠ np := St1.1.ne A_np (by decide)
  have nx2 : y2 ≠ np := St2.1.ne A_np (by decide)
  have nx3 : y3 ≠ np := St3.1.ne A_np (by decide)
  have nt1 : t1 ≠ np := Ne.symm (own_neAL A_np St1.2.2.2 (ww hw 106 rfl))
  have nt2 : t2 ≠ np := Ne.symm (own_neAL A_np St2.2.2.2 (ww hw 106 rfl))
  have nt3 : t3 ≠ np := Ne.symm (own_neAL A_np St3.2.2.2 (ww hw 106 rfl))
  refine Ow.callIW X hx (c_npinit l Z a0 hw hEL _ np y1 y2 y3 _ _ _ A_np F_top F_namespace F_below) eT D hEL (fun y hy => by cases List.mem_singleton.mp hy; exact ⟨A_np.lt, S_np⟩) rfl hown (ww hw 148 rfl) (ww hw 149 rfl) (ww hw 34 rfl) (ww hw 150 rfl) (by decide) pd25 (by rw [hml]; rfl) (argsL := [_, _, _]) rfl rfl rfl (pc := 45) (hb hby d6_45) rfl rfl (by decide) (by decide) ?_
  rintro _ vm1 T L X ⟨rfl, F2, A_np, F_top, F_namespace, F_below⟩ D hown C1
  dsimp only [Option.toList_some, Option.toList_none, List.cons_append, List.nil_append]
  have F := F.call F2 (fun y hy => by cases List.mem_singleton.mp hy; exact Or.inr l_np)
  have St1 := St1.keep F2.1 (Ow.nin1 nx1) (Ow.nin1 nt1)
  have St2 := St2.keep F2.1 (Ow.nin1 nx2) (Ow.nin1 nt2)
  have St3 := St3.keep F2.1 (Ow.nin1 nx3) (Ow.nin1 nt3)
  obtain ⟨h_45, e_45⟩ : ∃ q, q = T.heap := ⟨_, rfl⟩
  rw [← e_45] at F D A_np F_top F_namespace F_below St1 St2 St3
  have eT : T.heap = h_45 := e_45.symm
  refine Ow.callS X hx D.hZ (c_optof l Z a0 hw _ np) eT hown (ww hw 170 rfl) (ww hw 171 rfl) (ww hw 82 rfl) (ww hw 172 rfl) (by decide) pd26 (by rw [hml]; rfl) (argsL := [_]) rfl rfl rfl (pc := 48) (hb hby d6_48) rfl rfl (by decide) (by decide) ?_
  rintro _ T L X ⟨o, rfl, F2, l_o, A_o, V_o⟩
  dsimp only [Option.toList_some, Option.toList_none, List.cons_append, List.nil_append]
  have E2 := Ow.Keep.ext0 F2.1
  have F := F.call F2 (fun _ q => nomatch q)
  have D := D.ext E2
  have A_np := A_np.ext E2
  have F_top := F_top.ext E2
  have F_namespace := F_namespace.ext E2
  have F_below := F_below.ext E2
  have St1 := St1.ext E2
  have St2 := St2.ext E2
  have St3 := St3.ext E2
  have eT : T.heap = T.heap := rfl
  exact Ow.areturnW X hx eT D hEL hlk hret rfl rfl rfl (hb hby d6_51) ⟨o, np, y1, y2, y3, t1, t2, t3, k1, k2, k3, rfl, F, A_o, V_o, A_np, F_top, F_namespace, F_below, St1, St2, St3⟩ (by decide) (by decide)
def own_pick (p sh v : Int32) : Int32 := if XT.ushr p sh &&& 1 = 0 then v &&& 255 else 47
theorem own_pick_8 (p sh v : Int32) : ∃ n : Fin 256, own_pick p sh v = Int32.ofNat n.val := by
  unfold own_pick
  split
  · exact own_mask8 v
  · exact ⟨47, rfl⟩
theorem own_npick (p sh v : Int32) : nar .char (own_pick p sh v) = own_pick p sh v := by
  obtain ⟨n, hn⟩ := own_pick_8 p sh v
  rw [hn, (own_ch8 n).2.2.1]
def own_sl (cs : List Int32) (fr : Int32) (j : Nat) : Int32 := if ¬ Int32.ofNat j < fr ∧ j < cs.length ∧ cs.getD j 0 = 47 then 1 else 0
def own_fs (cs : List Int32) (fr : Int32) : Int32 := if own_sl cs fr 0 = 0 then (if own_sl cs fr 1 = 0 then (if own_sl cs fr 2 = 0 then (if own_sl cs fr 3 = 0 then (if own_sl cs fr 4 = 0 then (if own_sl cs fr 5 = 0 then -1 else 5) else 4) else 3) else 2) else 1) else 0
theorem own_join {tb : Tables} {e : Env} {below : List Frame} {G : Outcome → State → Prop} {S : State} (P : (Outcome → State → Prop) → Prop) (J : P G) (K : P G → Go tb e below G S) : Go tb e below G S := K J
theorem d0_0 : decode method_3_code 0 = .ok (.iload_n 0, 1) := by decide +kernel
theorem d0_1 : decode method_3_code 1 = .ok (.iload_n 1, 1) := by decide +kernel
theorem d0_2 : decode method_3_code 2 = .ok (.iushr, 1) := by decide +kernel
theorem d0_3 : decode method_3_code 3 = .ok (.iconst 1, 1) := by decide +kernel
theorem d0_4 : decode method_3_code 4 = .ok (.iand, 1) := by decide +kernel
theorem d0_5 : decode method_3_code 5 = .ok (.ifCond .eq 6, 3) := by decide +kernel
theorem d0_8 : decode method_3_code 8 = .ok (.bipush 47, 2) := by decide +kernel
theorem d0_10 : decode method_3_code 10 = .ok (.ireturn, 1) := by decide +kernel
theorem d0_11 : decode method_3_code 11 = .ok (.iload_n 2, 1) := by decide +kernel
theorem d0_12 : decode method_3_code 12 = .ok (.sipush 255, 3) := by decide +kernel
theorem d0_15 : decode method_3_code 15 = .ok (.iand, 1) := by decide +kernel
theorem d0_16 : decode method_3_code 16 = .ok (.i2c, 1) := by decide +kernel
theorem d0_17 : decode method_3_code 17 = .ok (.ireturn, 1) := by decide +kernel
set_option maxRecDepth 65536 in
set_option maxHeartbeats 4000000 in
theorem c_pick (l : Launch) (Z : State) (a0 : Array Value) (hw : ∀ d ∈ tables_1, d.before a0 Z = true) (h0 : Heap) (p0 sh v0 : Int32) : Ow.Pay l Z (⟨"com/example/mortise/mortise/pack/NamespacedPathOfPinLaw", "pick", "(III)C"⟩ : MethodName) method_3_code 3 (some .char) ({ frames := 0, cells := 0, slots := 0, locals := 0 } : Room) #[(.int p0), (.int sh), (.int v0)] h0 (fun v h L => v = some (.int (own_pick p0 sh v0)) ∧ h = h0 ∧ L = []) := by
  refine Ow.Pay.of (Ls := #[.val (.int p0), .val (.int sh), .val (.int v0)]) (plainFor_of_name pn8) (fun m => by first | rfl | (simp [entryFrame, mkF, argsToLocals, Value.category]; done)) ?_
  intro p e s m below meth c T hx hby hml hown hnm hme hZ hret hlk X eT
  refine Ow.iloadN X hx (pc := 0) (hb hby d0_0) rfl ?_
  refine Ow.iloadN X hx (pc := 1) (hb hby d0_1) rfl ?_
  refine Ow.iushr X hx (pc := 2) (hb hby d0_2) ?_
  refine Ow.iconst X hx (pc := 3) (1) (hb hby d0_3) (by decide) ?_
  refine Ow.iand X hx (pc := 4) (hb hby d0_4) ?_
  refine Ow.if_eq X hx (pc := 5) (pc' := 11) (hb hby d0_5) (by decide) (by decide) (fun h5 => ?_) (fun h5 => ?_)
  · refine Ow.iloadN X hx (pc := 11) (hb hby d0_11) rfl ?_
    refine Ow.sipush X hx (pc := 12) (255) (hb hby d0_12) (by decide) ?_
    refine Ow.iand X hx (pc := 15) (hb hby d0_15) ?_
    refine Ow.i2c X hx (pc := 16) (hb hby d0_16) ?_
    exact Ow.nreturn X hx hlk hret (Or.inr (Or.inr (Or.inl rfl))) (hb hby d0_17) ⟨by unfold own_pick; rw [if_pos h5, own_i2c8], eT, rfl⟩ (by decide) (by decide)
  · refine Ow.bipush X hx (pc := 8) (47) (hb hby d0_8) (by decide) ?_
    exact Ow.nreturn X hx hlk hret (Or.inr (Or.inr (Or.inl rfl))) (hb hby d0_10) ⟨by unfold own_pick; rw [if_neg h5]; first | done | rfl, eT, rfl⟩ (by decide) (by decide)
theorem d5_0 : decode method_4_code 0 = .ok (.iload_n 2, 1) := by decide +kernel
theorem d5_1 : decode method_4_code 1 = .ok (.iload_n 1, 1) := by decide +kernel
theorem d5_2 : decode method_4_code 2 = .ok (.if_icmp .lt 21, 3) := by decide +kernel
theorem d5_5 : decode method_4_code 5 = .ok (.iload_n 2, 1) := by decide +kernel
theorem d5_6 : decode method_4_code 6 = .ok (.aload_n 0, 1) := by decide +kernel
theorem d5_7 : decode method_4_code 7 = .ok (.arraylength, 1) := by decide +kernel
theorem d5_8 : decode method_4_code 8 = .ok (.if_icmp .ge 15, 3) := by decide +kernel
theorem d5_11 : decode method_4_code 11 = .ok (.aload_n 0, 1) := by decide +kernel
theorem d5_12 : decode method_4_code 12 = .ok (.iload_n 2, 1) := by decide +kernel
theorem d5_13 : decode method_4_code 13 = .ok (.caload, 1) := by decide +kernel
theorem d5_14 : decode method_4_code 14 = .ok (.bipush 47, 2) := by decide +kernel
theorem d5_16 : decode method_4_code 16 = .ok (.if_icmp .ne 7, 3) := by decide +kernel
theorem d5_19 : decode method_4_code 19 = .ok (.iconst 1, 1) := by decide +kernel
theorem d5_20 : decode method_4_code 20 = .ok (.goto 4, 3) := by decide +kernel
theorem d5_23 : decode method_4_code 23 = .ok (.iconst 0, 1) := by decide +kernel
theorem d5_24 : decode method_4_code 24 = .ok (.ireturn, 1) := by decide +kernel
set_option maxRecDepth 65536 in
set_option maxHeartbeats 4000000 in
theorem c_slashAt (l : Launch) (Z : State) (a0 : Array Value) (hw : ∀ d ∈ tables_1, d.before a0 Z = true) (h0 : Heap) (b : Addr) (kc : ClassId) (cs : List Int32) (A : Ow.AL Z h0 b kc .char (cs.map Value.int)) (hcap : cs.length ≤ 6) (fr : Int32) (j : Nat) (hj : j < 6) : Ow.Pay l Z (⟨"com/example/mortise/mortise/pack/NamespacedPathOfPinLaw", "slashAt", "([CII)Z"⟩ : MethodName) method_4_code 3 (some .boolean) ({ frames := 0, cells := 0, slots := 0, locals := 0 } : Room) #[(.ref b), (.int fr), (.int (Int32.ofNat j))] h0 (fun v h L => v = some (.int (own_sl cs fr j)) ∧ h = h0 ∧ L = []) := by
  refine Ow.Pay.of (Ls := #[.val (.ref b), .val (.int fr), .val (.int (Int32.ofNat j))]) (plainFor_of_name pn8) (fun m => by first | rfl | (simp [entryFrame, mkF, argsToLocals, Value.category]; done)) ?_
  intro p e s m below meth c T hx hby hml hown hnm hme hZ hret hlk X eT
  refine Ow.iloadN X hx (pc := 0) (hb hby d5_0) rfl ?_
  refine Ow.iloadN X hx (pc := 1) (hb hby d5_1) rfl ?_
  refine Ow.icmp_lt X hx (pc := 2) (pc' := 23) (hb hby d5_2) (by decide) (by decide) (fun h2 => ?_) (fun h2 => ?_)
  · refine Ow.iconst X hx (pc := 23) (0) (hb hby d5_23) (by decide) ?_
    exact Ow.nreturn X hx hlk hret (Or.inl rfl) (hb hby d5_24) ⟨by unfold own_sl; first | exact congrArg (fun q => some (Value.int q)) (if_pos ⟨h2, (Ow.n_lt (by omega) (by omega)).mp h8, h16⟩).symm | exact congrArg (fun q => some (Value.int q)) (if_neg (fun r => h16 r.2.2)).symm | exact congrArg (fun q => some (Value.int q)) (if_neg (fun r => h8 ((Ow.n_lt (by omega) (by omega)).mpr r.2.1))).symm | exact congrArg (fun q => some (Value.int q)) (if_neg (fun r => r.1 h2)).symm, eT, rfl⟩ (by decide) (by decide)
  · refine Ow.iloadN X hx (pc := 5) (hb hby d5_5) rfl ?_
    refine Ow.aloadN X hx (pc := 6) (hb hby d5_6) rfl rfl ?_
    refine Ow.lengthL X hx hZ eT A (Int32.ofNat cs.length) (by rw [List.length_map]) (pc := 7) (hb hby d5_7) ?_
    refine Ow.icmp_ge X hx (pc := 8) (pc' := 23) (hb hby d5_8) (by decide) (by decide) (fun h8 => ?_) (fun h8 => ?_)
    · refine Ow.iconst X hx (pc := 23) (0) (hb hby d5_23) (by decide) ?_
      exact Ow.nreturn X hx hlk hret (Or.inl rfl) (hb hby d5_24) ⟨by unfold own_sl; first | exact congrArg (fun q => some (Value.int q)) (if_pos ⟨h2, (Ow.n_lt (by omega) (by omega)).mp h8, h16⟩).symm | exact congrArg (fun q => some (Value.int q)) (if_neg (fun r => h16 r.2.2)).symm | exact congrArg (fun q => some (Value.int q)) (if_neg (fun r => h8 ((Ow.n_lt (by omega) (by omega)).mpr r.2.1))).symm | exact congrArg (fun q => some (Value.int q)) (if_neg (fun r => r.1 h2)).symm, eT, rfl⟩ (by decide) (by decide)
    · refine Ow.aloadN X hx (pc := 11) (hb hby d5_11) rfl rfl ?_
      refine Ow.iloadN X hx (pc := 12) (hb hby d5_12) rfl ?_
      have hjl : j < cs.length := (Ow.n_lt (by omega) (by omega)).mp h8
      refine Ow.caloadL X hx hZ eT A j (.int (cs.getD j 0)) (Ow.n_nn (by omega)) (Ow.n_cl (by omega)) (by simp [hjl]) (pc := 13) (hb hby d5_13) ?_
      refine Ow.bipush X hx (pc := 14) (47) (hb hby d5_14) (by decide) ?_
      refine Ow.icmp_ne X hx (pc := 16) (pc' := 23) (hb hby d5_16) (by decide) (by decide) (fun h16 => ?_) (fun h16 => ?_)
      · refine Ow.iconst X hx (pc := 23) (0) (hb hby d5_23) (by decide) ?_
        exact Ow.nreturn X hx hlk hret (Or.inl rfl) (hb hby d5_24) ⟨by unfold own_sl; first | exact congrArg (fun q => some (Value.int q)) (if_pos ⟨h2, (Ow.n_lt (by omega) (by omega)).mp h8, h16⟩).symm | exact congrArg (fun q => some (Value.int q)) (if_neg (fun r => h16 r.2.2)).symm | exact congrArg (fun q => some (Value.int q)) (if_neg (fun r => h8 ((Ow.n_lt (by omega) (by omega)).mpr r.2.1))).symm | exact congrArg (fun q => some (Value.int q)) (if_neg (fun r => r.1 h2)).symm, eT, rfl⟩ (by decide) (by decide)
      · refine Ow.iconst X hx (pc := 19) (1) (hb hby d5_19) (by decide) ?_
        refine Ow.goto X hx (pc := 20) (pc' := 24) (hb hby d5_20) (by decide) (by decide) ?_
        exact Ow.nreturn X hx hlk hret (Or.inl rfl) (hb hby d5_24) ⟨by unfold own_sl; first | exact congrArg (fun q => some (Value.int q)) (if_pos ⟨h2, (Ow.n_lt (by omega) (by omega)).mp h8, h16⟩).symm | exact congrArg (fun q => some (Value.int q)) (if_neg (fun r => h16 r.2.2)).symm | exact congrArg (fun q => some (Value.int q)) (if_neg (fun r => h8 ((Ow.n_lt (by omega) (by omega)).mpr r.2.1))).symm | exact congrArg (fun q => some (Value.int q)) (if_neg (fun r => r.1 h2)).symm, eT, rfl⟩ (by decide) (by decide)
theorem d4_0 : decode method_5_code 0 = .ok (.aload_n 0, 1) := by decide +kernel
theorem d4_1 : decode method_5_code 1 = .ok (.iload_n 1, 1) := by decide +kernel
theorem d4_2 : decode method_5_code 2 = .ok (.iconst 0, 1) := by decide +kernel
theorem d4_3 : decode method_5_code 3 = .ok (.invokestatic 52, 3) := by decide +kernel
theorem d4_6 : decode method_5_code 6 = .ok (.ifCond .eq 5, 3) := by decide +kernel
theorem d4_9 : decode method_5_code 9 = .ok (.iconst 0, 1) := by decide +kernel
theorem d4_10 : decode method_5_code 10 = .ok (.ireturn, 1) := by decide +kernel
theorem d4_11 : decode method_5_code 11 = .ok (.aload_n 0, 1) := by decide +kernel
theorem d4_12 : decode method_5_code 12 = .ok (.iload_n 1, 1) := by decide +kernel
theorem d4_13 : decode method_5_code 13 = .ok (.iconst 1, 1) := by decide +kernel
theorem d4_14 : decode method_5_code 14 = .ok (.invokestatic 52, 3) := by decide +kernel
theorem d4_17 : decode method_5_code 17 = .ok (.ifCond .eq 5, 3) := by decide +kernel
theorem d4_20 : decode method_5_code 20 = .ok (.iconst 1, 1) := by decide +kernel
theorem d4_21 : decode method_5_code 21 = .ok (.ireturn, 1) := by decide +kernel
theorem d4_22 : decode method_5_code 22 = .ok (.aload_n 0, 1) := by decide +kernel
theorem d4_23 : decode method_5_code 23 = .ok (.iload_n 1, 1) := by decide +kernel
theorem d4_24 : decode method_5_code 24 = .ok (.iconst 2, 1) := by decide +kernel
theorem d4_25 : decode method_5_code 25 = .ok (.invokestatic 52, 3) := by decide +kernel
theorem d4_28 : decode method_5_code 28 = .ok (.ifCond .eq 5, 3) := by decide +kernel
theorem d4_31 : decode method_5_code 31 = .ok (.iconst 2, 1) := by decide +kernel
theorem d4_32 : decode method_5_code 32 = .ok (.ireturn, 1) := by decide +kernel
theorem d4_33 : decode method_5_code 33 = .ok (.aload_n 0, 1) := by decide +kernel
theorem d4_34 : decode method_5_code 34 = .ok (.iload_n 1, 1) := by decide +kernel
theorem d4_35 : decode method_5_code 35 = .ok (.iconst 3, 1) := by decide +kernel
theorem d4_36 : decode method_5_code 36 = .ok (.invokestatic 52, 3) := by decide +kernel
theorem d4_39 : decode method_5_code 39 = .ok (.ifCond .eq 5, 3) := by decide +kernel
theorem d4_42 : decode method_5_code 42 = .ok (.iconst 3, 1) := by decide +kernel
theorem d4_43 : decode method_5_code 43 = .ok (.ireturn, 1) := by decide +kernel
theorem d4_44 : decode method_5_code 44 = .ok (.aload_n 0, 1) := by decide +kernel
theorem d4_45 : decode method_5_code 45 = .ok (.iload_n 1, 1) := by decide +kernel
theorem d4_46 : decode method_5_code 46 = .ok (.iconst 4, 1) := by decide +kernel
theorem d4_47 : decode method_5_code 47 = .ok (.invokestatic 52, 3) := by decide +kernel
theorem d4_50 : decode method_5_code 50 = .ok (.ifCond .eq 5, 3) := by decide +kernel
theorem d4_53 : decode method_5_code 53 = .ok (.iconst 4, 1) := by decide +kernel
theorem d4_54 : decode method_5_code 54 = .ok (.ireturn, 1) := by decide +kernel
theorem d4_55 : decode method_5_code 55 = .ok (.aload_n 0, 1) := by decide +kernel
theorem d4_56 : decode method_5_code 56 = .ok (.iload_n 1, 1) := by decide +kernel
theorem d4_57 : decode method_5_code 57 = .ok (.iconst 5, 1) := by decide +kernel
theorem d4_58 : decode method_5_code 58 = .ok (.invokestatic 52, 3) := by decide +kernel
theorem d4_61 : decode method_5_code 61 = .ok (.ifCond .eq 5, 3) := by decide +kernel
theorem d4_64 : decode method_5_code 64 = .ok (.iconst 5, 1) := by decide +kernel
theorem d4_65 : decode method_5_code 65 = .ok (.ireturn, 1) := by decide +kernel
theorem d4_66 : decode method_5_code 66 = .ok (.iconst (-1), 1) := by decide +kernel
theorem d4_67 : decode method_5_code 67 = .ok (.ireturn, 1) := by decide +kernel
set_option maxRecDepth 65536 in
set_option maxHeartbeats 4000000 in
theorem c_firstSlash (l : Launch) (Z : State) (a0 : Array Value) (hw : ∀ d ∈ tables_1, d.before a0 Z = true) (h0 : Heap) (b : Addr) (kc : ClassId) (cs : List Int32) (A : Ow.AL Z h0 b kc .char (cs.map Value.int)) (hcap : cs.length ≤ 6) (fr : Int32) : Ow.Pay l Z (⟨"com/example/mortise/mortise/pack/NamespacedPathOfPinLaw", "firstSlash", "([CI)I"⟩ : MethodName) method_5_code 2 (some .int) ({ frames := 1, cells := 0, slots := 0, locals := 15 } : Room) #[(.ref b), (.int fr)] h0 (fun v h L => v = some (.int (own_fs cs fr)) ∧ h = h0 ∧ L = []) := by
  refine Ow.Pay.of (Ls := #[.val (.ref b), .val (.int fr)]) (plainFor_of_name pn8) (fun m => by first | rfl | (simp [entryFrame, mkF, argsToLocals, Value.category]; done)) ?_
  intro p e s m below meth c T hx hby hml hown hnm hme hZ hret hlk X eT
  refine Ow.aloadN X hx (pc := 0) (hb hby d4_0) rfl rfl ?_
  refine Ow.iloadN X hx (pc := 1) (hb hby d4_1) rfl ?_
  refine Ow.iconst X hx (pc := 2) (0) (hb hby d4_2) (by decide) ?_
  refine Ow.callSP X hx hZ (c_slashAt l Z a0 hw h0 b kc cs A hcap fr 0 (by decide)) rfl rfl eT hown (ww hw 29 rfl) (ww hw 30 rfl) (ww hw 3 rfl) (ww hw 31 rfl) (by decide) pd27 (by rw [hml]; rfl) (argsL := [_, _, _]) rfl rfl rfl (pc := 3) (hb hby d4_3) rfl rfl (by decide) (by decide) ?_   -- com/example/mortise/mortise/pack/NamespacedPathOfPinLaw.slashAt:([CII)Z
  intro T X eT
  dsimp only [Option.toList_some, Option.toList_none, List.cons_append, List.nil_append]
  refine Ow.if_eq X hx (pc := 6) (pc' := 11) (hb hby d4_6) (by decide) (by decide) (fun h6 => ?_) (fun h6 => ?_)
  · refine Ow.aloadN X hx (pc := 11) (hb hby d4_11) rfl rfl ?_
    refine Ow.iloadN X hx (pc := 12) (hb hby d4_12) rfl ?_
    refine Ow.iconst X hx (pc := 13) (1) (hb hby d4_13) (by decide) ?_
    refine Ow.callSP X hx hZ (c_slashAt l Z a0 hw h0 b kc cs A hcap fr 1 (by decide)) rfl rfl eT hown (ww hw 29 rfl) (ww hw 30 rfl) (ww hw 3 rfl) (ww hw 31 rfl) (by decide) pd27 (by rw [hml]; rfl) (argsL := [_, _, _]) rfl rfl rfl (pc := 14) (hb hby d4_14) rfl rfl (by decide) (by decide) ?_   -- com/example/mortise/mortise/pack/NamespacedPathOfPinLaw.slashAt:([CII)Z
    intro T X eT
    dsimp only [Option.toList_some, Option.toList_none, List.cons_append, List.nil_append]
    refine Ow.if_eq X hx (pc := 17) (pc' := 22) (hb hby d4_17) (by decide) (by decide) (fun h17 => ?_) (fun h17 => ?_)
    · refine Ow.aloadN X hx (pc := 22) (hb hby d4_22) rfl rfl ?_
      refine Ow.iloadN X hx (pc := 23) (hb hby d4_23) rfl ?_
      refine Ow.iconst X hx (pc := 24) (2) (hb hby d4_24) (by decide) ?_
      refine Ow.callSP X hx hZ (c_slashAt l Z a0 hw h0 b kc cs A hcap fr 2 (by decide)) rfl rfl eT hown (ww hw 29 rfl) (ww hw 30 rfl) (ww hw 3 rfl) (ww hw 31 rfl) (by decide) pd27 (by rw [hml]; rfl) (argsL := [_, _, _]) rfl rfl rfl (pc := 25) (hb hby d4_25) rfl rfl (by decide) (by decide) ?_   -- com/example/mortise/mortise/pack/NamespacedPathOfPinLaw.slashAt:([CII)Z
      intro T X eT
      dsimp only [Option.toList_some, Option.toList_none, List.cons_append, List.nil_append]
      refine Ow.if_eq X hx (pc := 28) (pc' := 33) (hb hby d4_28) (by decide) (by decide) (fun h28 => ?_) (fun h28 => ?_)
      · refine Ow.aloadN X hx (pc := 33) (hb hby d4_33) rfl rfl ?_
        refine Ow.iloadN X hx (pc := 34) (hb hby d4_34) rfl ?_
        refine Ow.iconst X hx (pc := 35) (3) (hb hby d4_35) (by decide) ?_
        refine Ow.callSP X hx hZ (c_slashAt l Z a0 hw h0 b kc cs A hcap fr 3 (by decide)) rfl rfl eT hown (ww hw 29 rfl) (ww hw 30 rfl) (ww hw 3 rfl) (ww hw 31 rfl) (by decide) pd27 (by rw [hml]; rfl) (argsL := [_, _, _]) rfl rfl rfl (pc := 36) (hb hby d4_36) rfl rfl (by decide) (by decide) ?_   -- com/example/mortise/mortise/pack/NamespacedPathOfPinLaw.slashAt:([CII)Z
        intro T X eT
        dsimp only [Option.toList_some, Option.toList_none, List.cons_append, List.nil_append]
        refine Ow.if_eq X hx (pc := 39) (pc' := 44) (hb hby d4_39) (by decide) (by decide) (fun h39 => ?_) (fun h39 => ?_)
        · refine Ow.aloadN X hx (pc := 44) (hb hby d4_44) rfl rfl ?_
          refine Ow.iloadN X hx (pc := 45) (hb hby d4_45) rfl ?_
          refine Ow.iconst X hx (pc := 46) (4) (hb hby d4_46) (by decide) ?_
          refine Ow.callSP X hx hZ (c_slashAt l Z a0 hw h0 b kc cs A hcap fr 4 (by decide)) rfl rfl eT hown (ww hw 29 rfl) (ww hw 30 rfl) (ww hw 3 rfl) (ww hw 31 rfl) (by decide) pd27 (by rw [hml]; rfl) (argsL := [_, _, _]) rfl rfl rfl (pc := 47) (hb hby d4_47) rfl rfl (by decide) (by decide) ?_   -- com/example/mortise/mortise/pack/NamespacedPathOfPinLaw.slashAt:([CII)Z
          intro T X eT
          dsimp only [Option.toList_some, Option.toList_none, List.cons_append, List.nil_append]
          refine Ow.if_eq X hx (pc := 50) (pc' := 55) (hb hby d4_50) (by decide) (by decide) (fun h50 => ?_) (fun h50 => ?_)
          · refine Ow.aloadN X hx (pc := 55) (hb hby d4_55) rfl rfl ?_
            refine Ow.iloadN X hx (pc := 56) (hb hby d4_56) rfl ?_
            refine Ow.iconst X hx (pc := 57) (5) (hb hby d4_57) (by decide) ?_
            refine Ow.callSP X hx hZ (c_slashAt l Z a0 hw h0 b kc cs A hcap fr 5 (by decide)) rfl rfl eT hown (ww hw 29 rfl) (ww hw 30 rfl) (ww hw 3 rfl) (ww hw 31 rfl) (by decide) pd27 (by rw [hml]; rfl) (argsL := [_, _, _]) rfl rfl rfl (pc := 58) (hb hby d4_58) rfl rfl (by decide) (by decide) ?_   -- com/example/mortise/mortise/pack/NamespacedPathOfPinLaw.slashAt:([CII)Z
            intro T X eT
            dsimp only [Option.toList_some, Option.toList_none, List.cons_append, List.nil_append]
            refine Ow.if_eq X hx (pc := 61) (pc' := 66) (hb hby d4_61) (by decide) (by decide) (fun h61 => ?_) (fun h61 => ?_)
            · refine Ow.iconst X hx (pc := 66) (-1) (hb hby d4_66) (by decide) ?_
              exact Ow.ireturn X hx hlk hret (hb hby d4_67) ⟨by simp [own_fs, h6, h17, h28, h39, h50, h61], eT, rfl⟩ (by decide) (by decide)
            · refine Ow.iconst X hx (pc := 64) (5) (hb hby d4_64) (by decide) ?_
              exact Ow.ireturn X hx hlk hret (hb hby d4_65) ⟨by simp [own_fs, h6, h17, h28, h39, h50, h61], eT, rfl⟩ (by decide) (by decide)
          · refine Ow.iconst X hx (pc := 53) (4) (hb hby d4_53) (by decide) ?_
            exact Ow.ireturn X hx hlk hret (hb hby d4_54) ⟨by simp [own_fs, h6, h17, h28, h39, h50], eT, rfl⟩ (by decide) (by decide)
        · refine Ow.iconst X hx (pc := 42) (3) (hb hby d4_42) (by decide) ?_
          exact Ow.ireturn X hx hlk hret (hb hby d4_43) ⟨by simp [own_fs, h6, h17, h28, h39], eT, rfl⟩ (by decide) (by decide)
      · refine Ow.iconst X hx (pc := 31) (2) (hb hby d4_31) (by decide) ?_
        exact Ow.ireturn X hx hlk hret (hb hby d4_32) ⟨by simp [own_fs, h6, h17, h28], eT, rfl⟩ (by decide) (by decide)
    · refine Ow.iconst X hx (pc := 20) (1) (hb hby d4_20) (by decide) ?_
      exact Ow.ireturn X hx hlk hret (hb hby d4_21) ⟨by simp [own_fs, h6, h17], eT, rfl⟩ (by decide) (by decide)
  · refine Ow.iconst X hx (pc := 9) (0) (hb hby d4_9) (by decide) ?_
    exact Ow.ireturn X hx hlk hret (hb hby d4_10) ⟨by simp [own_fs, h6], eT, rfl⟩ (by decide) (by decide)
theorem d41_0 : decode method_6_code 0 = .ok (.iload_n 3, 1) := by decide +kernel
theorem d41_1 : decode method_6_code 1 = .ok (.aload_n 0, 1) := by decide +kernel
theorem d41_2 : decode method_6_code 2 = .ok (.invokevirtual 56, 3) := by decide +kernel
theorem d41_5 : decode method_6_code 5 = .ok (.if_icmp .ge 16, 3) := by decide +kernel
theorem d41_8 : decode method_6_code 8 = .ok (.aload_n 0, 1) := by decide +kernel
theorem d41_9 : decode method_6_code 9 = .ok (.iload_n 3, 1) := by decide +kernel
theorem d41_10 : decode method_6_code 10 = .ok (.invokevirtual 60, 3) := by decide +kernel
theorem d41_13 : decode method_6_code 13 = .ok (.aload_n 1, 1) := by decide +kernel
theorem d41_14 : decode method_6_code 14 = .ok (.iload_n 2, 1) := by decide +kernel
theorem d41_15 : decode method_6_code 15 = .ok (.iload_n 3, 1) := by decide +kernel
theorem d41_16 : decode method_6_code 16 = .ok (.iadd, 1) := by decide +kernel
theorem d41_17 : decode method_6_code 17 = .ok (.caload, 1) := by decide +kernel
theorem d41_18 : decode method_6_code 18 = .ok (.if_icmp .ne 7, 3) := by decide +kernel
theorem d41_21 : decode method_6_code 21 = .ok (.iconst 1, 1) := by decide +kernel
theorem d41_22 : decode method_6_code 22 = .ok (.goto 4, 3) := by decide +kernel
theorem d41_25 : decode method_6_code 25 = .ok (.iconst 0, 1) := by decide +kernel
theorem d41_26 : decode method_6_code 26 = .ok (.ireturn, 1) := by decide +kernel
set_option maxRecDepth 65536 in
set_option maxHeartbeats 4000000 in
theorem c_eq (l : Launch) (Z : State) (a0 : Array Value) (hw : ∀ d ∈ tables_1, d.before a0 Z = true) (h0 : Heap) (z : Int32) (fm : Value) (S : Sta Z h0 "java/lang/String" "COMPACT_STRINGS" "Z" (.int z)) (hz : ¬ z = 0) (Sf : Sta Z h0 "jdk/internal/util/Preconditions" "SIOOBE_FORMATTER" "Ljava/util/function/BiFunction;" fm) (hfm : fm.isRef = true) (x t : Addr) (kb : ClassId) (bs : List Int32) (St : Ow.Str Z h0 x t kb bs) (b : Addr) (kc : ClassId) (cs : List Int32) (A : Ow.AL Z h0 b kc .char (cs.map Value.int)) (hcap : cs.length ≤ 6) (f : Nat) (hfl : f + bs.length ≤ cs.length) (heq : ∀ i, i < bs.length → bs.getD i 0 &&& 255 = cs.getD (f + i) 0) (j : Nat) (hj : j < 6) : Ow.Pay l Z (⟨"com/example/mortise/mortise/pack/NamespacedPathOfPinLaw", "eq", "(Ljava/lang/String;[CII)Z"⟩ : MethodName) method_6_code 4 (some .boolean) ({ frames := 4, cells := 0, slots := 0, locals := 70 } : Room) #[(.ref x), (.ref b), (.int (Int32.ofNat f)), (.int (Int32.ofNat j))] h0 (fun v h L => v = some (.int 1) ∧ h = h0 ∧ L = []) := by
  refine Ow.Pay.of (Ls := #[.val (.ref x), .val (.ref b), .val (.int (Int32.ofNat f)), .val (.int (Int32.ofNat j))]) (plainFor_of_name pn8) (fun m => by first | rfl | (simp [entryFrame, mkF, argsToLocals, Value.category]; done)) ?_
  intro p e s m below meth c T hx hby hml hown hnm hme hZ hret hlk X eT
  refine Ow.iloadN X hx (pc := 0) (hb hby d41_0) rfl ?_
  refine Ow.aloadN X hx (pc := 1) (hb hby d41_1) rfl rfl ?_
  refine Ow.callVP X hx hZ (c_length l Z a0 hw h0 z x t kb bs S hz St) rfl rfl eT hown (ww hw 198 rfl) (ww hw 56 rfl) (ww hw 58 rfl) (ww hw 57 rfl) (ww hw 7 rfl) (ww hw 59 rfl) (by decide) pd5 (by rw [hml]; rfl) St.1 (argsL := []) rfl rfl rfl (pc := 2) (hb hby d41_2) rfl rfl (by decide) (by decide) ?_   -- java/lang/String.length:()I
  intro T X eT
  dsimp only [Option.toList_some, Option.toList_none, List.cons_append, List.nil_append]
  refine Ow.icmp_ge X hx (pc := 5) (pc' := 21) (hb hby d41_5) (by decide) (by decide) (fun h5 => ?_) (fun h5 => ?_)
  · refine Ow.iconst X hx (pc := 21) (1) (hb hby d41_21) (by decide) ?_
    refine Ow.goto X hx (pc := 22) (pc' := 26) (hb hby d41_22) (by decide) (by decide) ?_
    exact Ow.nreturn X hx hlk hret (Or.inl rfl) (hb hby d41_26) ⟨rfl, eT, rfl⟩ (by decide) (by decide)
  · have hjl : j < bs.length := (Ow.n_lt (by omega) (by omega)).mp h5
    refine Ow.aloadN X hx (pc := 8) (hb hby d41_8) rfl rfl ?_
    refine Ow.iloadN X hx (pc := 9) (hb hby d41_9) rfl ?_
    refine Ow.callVP X hx hZ (c_charAt l Z a0 hw h0 z fm S hz Sf hfm x t kb bs j St hjl (by omega)) rfl rfl eT hown (ww hw 202 rfl) (ww hw 203 rfl) (ww hw 205 rfl) (ww hw 204 rfl) (ww hw 7 rfl) (ww hw 206 rfl) (by decide) pd28 (by rw [hml]; rfl) St.1 (argsL := [_]) rfl rfl rfl (pc := 10) (hb hby d41_10) rfl rfl (by decide) (by decide) ?_   -- java/lang/String.charAt:(I)C
    intro T X eT
    dsimp only [Option.toList_some, Option.toList_none, List.cons_append, List.nil_append]
    refine Ow.aloadN X hx (pc := 13) (hb hby d41_13) rfl rfl ?_
    refine Ow.iloadN X hx (pc := 14) (hb hby d41_14) rfl ?_
    refine Ow.iloadN X hx (pc := 15) (hb hby d41_15) rfl ?_
    refine Ow.iadd X hx (pc := 16) (hb hby d41_16) ?_
    rw [← Int32.ofNat_add]
    refine Ow.caloadL X hx hZ eT A (f + j) (.int (cs.getD (f + j) 0)) (Ow.n_nn (by omega)) (Ow.n_cl (by omega)) (by simp [show f + j < cs.length by omega]) (pc := 17) (hb hby d41_17) ?_
    refine Ow.icmp_ne X hx (pc := 18) (pc' := 25) (hb hby d41_18) (by decide) (by decide) (fun q => absurd (heq j hjl) q) (fun h18 => ?_)
    refine Ow.iconst X hx (pc := 21) (1) (hb hby d41_21) (by decide) ?_
    refine Ow.goto X hx (pc := 22) (pc' := 26) (hb hby d41_22) (by decide) (by decide) ?_
    exact Ow.nreturn X hx hlk hret (Or.inl rfl) (hb hby d41_26) ⟨rfl, eT, rfl⟩ (by decide) (by decide)
theorem d40_0 : decode method_7_code 0 = .ok (.aload_n 0, 1) := by decide +kernel
theorem d40_1 : decode method_7_code 1 = .ok (.invokevirtual 56, 3) := by decide +kernel
theorem d40_4 : decode method_7_code 4 = .ok (.iload_n 3, 1) := by decide +kernel
theorem d40_5 : decode method_7_code 5 = .ok (.iload_n 2, 1) := by decide +kernel
theorem d40_6 : decode method_7_code 6 = .ok (.isub, 1) := by decide +kernel
theorem d40_7 : decode method_7_code 7 = .ok (.if_icmp .eq 5, 3) := by decide +kernel
theorem d40_10 : decode method_7_code 10 = .ok (.iconst 0, 1) := by decide +kernel
theorem d40_11 : decode method_7_code 11 = .ok (.ireturn, 1) := by decide +kernel
theorem d40_12 : decode method_7_code 12 = .ok (.aload_n 0, 1) := by decide +kernel
theorem d40_13 : decode method_7_code 13 = .ok (.aload_n 1, 1) := by decide +kernel
theorem d40_14 : decode method_7_code 14 = .ok (.iload_n 2, 1) := by decide +kernel
theorem d40_15 : decode method_7_code 15 = .ok (.iconst 0, 1) := by decide +kernel
theorem d40_16 : decode method_7_code 16 = .ok (.invokestatic 64, 3) := by decide +kernel
theorem d40_19 : decode method_7_code 19 = .ok (.ifCond .eq 57, 3) := by decide +kernel
theorem d40_22 : decode method_7_code 22 = .ok (.aload_n 0, 1) := by decide +kernel
theorem d40_23 : decode method_7_code 23 = .ok (.aload_n 1, 1) := by decide +kernel
theorem d40_24 : decode method_7_code 24 = .ok (.iload_n 2, 1) := by decide +kernel
theorem d40_25 : decode method_7_code 25 = .ok (.iconst 1, 1) := by decide +kernel
theorem d40_26 : decode method_7_code 26 = .ok (.invokestatic 64, 3) := by decide +kernel
theorem d40_29 : decode method_7_code 29 = .ok (.ifCond .eq 47, 3) := by decide +kernel
theorem d40_32 : decode method_7_code 32 = .ok (.aload_n 0, 1) := by decide +kernel
theorem d40_33 : decode method_7_code 33 = .ok (.aload_n 1, 1) := by decide +kernel
theorem d40_34 : decode method_7_code 34 = .ok (.iload_n 2, 1) := by decide +kernel
theorem d40_35 : decode method_7_code 35 = .ok (.iconst 2, 1) := by decide +kernel
theorem d40_36 : decode method_7_code 36 = .ok (.invokestatic 64, 3) := by decide +kernel
theorem d40_39 : decode method_7_code 39 = .ok (.ifCond .eq 37, 3) := by decide +kernel
theorem d40_42 : decode method_7_code 42 = .ok (.aload_n 0, 1) := by decide +kernel
theorem d40_43 : decode method_7_code 43 = .ok (.aload_n 1, 1) := by decide +kernel
theorem d40_44 : decode method_7_code 44 = .ok (.iload_n 2, 1) := by decide +kernel
theorem d40_45 : decode method_7_code 45 = .ok (.iconst 3, 1) := by decide +kernel
theorem d40_46 : decode method_7_code 46 = .ok (.invokestatic 64, 3) := by decide +kernel
theorem d40_49 : decode method_7_code 49 = .ok (.ifCond .eq 27, 3) := by decide +kernel
theorem d40_52 : decode method_7_code 52 = .ok (.aload_n 0, 1) := by decide +kernel
theorem d40_53 : decode method_7_code 53 = .ok (.aload_n 1, 1) := by decide +kernel
theorem d40_54 : decode method_7_code 54 = .ok (.iload_n 2, 1) := by decide +kernel
theorem d40_55 : decode method_7_code 55 = .ok (.iconst 4, 1) := by decide +kernel
theorem d40_56 : decode method_7_code 56 = .ok (.invokestatic 64, 3) := by decide +kernel
theorem d40_59 : decode method_7_code 59 = .ok (.ifCond .eq 17, 3) := by decide +kernel
theorem d40_62 : decode method_7_code 62 = .ok (.aload_n 0, 1) := by decide +kernel
theorem d40_63 : decode method_7_code 63 = .ok (.aload_n 1, 1) := by decide +kernel
theorem d40_64 : decode method_7_code 64 = .ok (.iload_n 2, 1) := by decide +kernel
theorem d40_65 : decode method_7_code 65 = .ok (.iconst 5, 1) := by decide +kernel
theorem d40_66 : decode method_7_code 66 = .ok (.invokestatic 64, 3) := by decide +kernel
theorem d40_69 : decode method_7_code 69 = .ok (.ifCond .eq 7, 3) := by decide +kernel
theorem d40_72 : decode method_7_code 72 = .ok (.iconst 1, 1) := by decide +kernel
theorem d40_73 : decode method_7_code 73 = .ok (.goto 4, 3) := by decide +kernel
theorem d40_76 : decode method_7_code 76 = .ok (.iconst 0, 1) := by decide +kernel
theorem d40_77 : decode method_7_code 77 = .ok (.ireturn, 1) := by decide +kernel
set_option maxRecDepth 65536 in
set_option maxHeartbeats 4000000 in
theorem c_same (l : Launch) (Z : State) (a0 : Array Value) (hw : ∀ d ∈ tables_1, d.before a0 Z = true) (h0 : Heap) (z : Int32) (fm : Value) (S : Sta Z h0 "java/lang/String" "COMPACT_STRINGS" "Z" (.int z)) (hz : ¬ z = 0) (Sf : Sta Z h0 "jdk/internal/util/Preconditions" "SIOOBE_FORMATTER" "Ljava/util/function/BiFunction;" fm) (hfm : fm.isRef = true) (x t : Addr) (kb : ClassId) (bs : List Int32) (St : Ow.Str Z h0 x t kb bs) (b : Addr) (kc : ClassId) (cs : List Int32) (A : Ow.AL Z h0 b kc .char (cs.map Value.int)) (hcap : cs.length ≤ 6) (f : Nat) (hfl : f + bs.length ≤ cs.length) (heq : ∀ i, i < bs.length → bs.getD i 0 &&& 255 = cs.getD (f + i) 0) (g : Nat) (hfg : f ≤ g) (hg : bs.length = g - f) : Ow.Pay l Z (⟨"com/example/mortise/mortise/pack/NamespacedPathOfPinLaw", "same", "(Ljava/lang/String;[CII)Z"⟩ : MethodName) method_7_code 4 (some .boolean) ({ frames := 5, cells := 0, slots := 0, locals := 90 } : Room) #[(.ref x), (.ref b), (.int (Int32.ofNat f)), (.int (Int32.ofNat g))] h0 (fun v h L => v = some (.int 1) ∧ h = h0 ∧ L = []) := by
  refine Ow.Pay.of (Ls := #[.val (.ref x), .val (.ref b), .val (.int (Int32.ofNat f)), .val (.int (Int32.ofNat g))]) (plainFor_of_name pn8) (fun m => by first | rfl | (simp [entryFrame, mkF, argsToLocals, Value.category]; done)) ?_
  intro p e s m below meth c T hx hby hml hown hnm hme hZ hret hlk X eT
  refine Ow.aloadN X hx (pc := 0) (hb hby d40_0) rfl rfl ?_
  refine Ow.callVP X hx hZ (c_length l Z a0 hw h0 z x t kb bs S hz St) rfl rfl eT hown (ww hw 198 rfl) (ww hw 56 rfl) (ww hw 58 rfl) (ww hw 57 rfl) (ww hw 7 rfl) (ww hw 59 rfl) (by decide) pd5 (by rw [hml]; rfl) St.1 (argsL := []) rfl rfl rfl (pc := 1) (hb hby d40_1) rfl rfl (by decide) (by decide) ?_   -- java/lang/String.length:()I
  intro T X eT
  dsimp only [Option.toList_some, Option.toList_none, List.cons_append, List.nil_append]
  refine Ow.iloadN X hx (pc := 4) (hb hby d40_4) rfl ?_
  refine Ow.iloadN X hx (pc := 5) (hb hby d40_5) rfl ?_
  refine Ow.isub X hx (pc := 6) (hb hby d40_6) ?_
  rw [own_sub (show f ≤ g by omega)]
  refine Ow.icmp_eq X hx (pc := 7) (pc' := 12) (hb hby d40_7) (by decide) (by decide) (fun h7 => ?_) (fun q => (q (by rw [hg])).elim)
  refine Ow.aloadN X hx (pc := 12) (hb hby d40_12) rfl rfl ?_
  refine Ow.aloadN X hx (pc := 13) (hb hby d40_13) rfl rfl ?_
  refine Ow.iloadN X hx (pc := 14) (hb hby d40_14) rfl ?_
  refine Ow.iconst X hx (pc := 15) (0) (hb hby d40_15) (by decide) ?_
  refine Ow.callSP X hx hZ (c_eq l Z a0 hw h0 z fm S hz Sf hfm x t kb bs St b kc cs A hcap f hfl heq 0 (by decide)) rfl rfl eT hown (ww hw 199 rfl) (ww hw 200 rfl) (ww hw 3 rfl) (ww hw 201 rfl) (by decide) pd29 (by rw [hml]; rfl) (argsL := [_, _, _, _]) rfl rfl rfl (pc := 16) (hb hby d40_16) rfl rfl (by decide) (by decide) ?_   -- com/example/mortise/mortise/pack/NamespacedPathOfPinLaw.eq:(Ljava/lang/String;[CII)Z
  intro T X eT
  dsimp only [Option.toList_some, Option.toList_none, List.cons_append, List.nil_append]
  refine Ow.if_eq X hx (pc := 19) (pc' := 76) (hb hby d40_19) (by decide) (by decide) (fun q => absurd q (by decide)) (fun h19 => ?_)
  refine Ow.aloadN X hx (pc := 22) (hb hby d40_22) rfl rfl ?_
  refine Ow.aloadN X hx (pc := 23) (hb hby d40_23) rfl rfl ?_
  refine Ow.iloadN X hx (pc := 24) (hb hby d40_24) rfl ?_
  refine Ow.iconst X hx (pc := 25) (1) (hb hby d40_25) (by decide) ?_
  refine Ow.callSP X hx hZ (c_eq l Z a0 hw h0 z fm S hz Sf hfm x t kb bs St b kc cs A hcap f hfl heq 1 (by decide)) rfl rfl eT hown (ww hw 199 rfl) (ww hw 200 rfl) (ww hw 3 rfl) (ww hw 201 rfl) (by decide) pd29 (by rw [hml]; rfl) (argsL := [_, _, _, _]) rfl rfl rfl (pc := 26) (hb hby d40_26) rfl rfl (by decide) (by decide) ?_   -- com/example/mortise/mortise/pack/NamespacedPathOfPinLaw.eq:(Ljava/lang/String;[CII)Z
  intro T X eT
  dsimp only [Option.toList_some, Option.toList_none, List.cons_append, List.nil_append]
  refine Ow.if_eq X hx (pc := 29) (pc' := 76) (hb hby d40_29) (by decide) (by decide) (fun q => absurd q (by decide)) (fun h29 => ?_)
  refine Ow.aloadN X hx (pc := 32) (hb hby d40_32) rfl rfl ?_
  refine Ow.aloadN X hx (pc := 33) (hb hby d40_33) rfl rfl ?_
  refine Ow.iloadN X hx (pc := 34) (hb hby d40_34) rfl ?_
  refine Ow.iconst X hx (pc := 35) (2) (hb hby d40_35) (by decide) ?_
  refine Ow.callSP X hx hZ (c_eq l Z a0 hw h0 z fm S hz Sf hfm x t kb bs St b kc cs A hcap f hfl heq 2 (by decide)) rfl rfl eT hown (ww hw 199 rfl) (ww hw 200 rfl) (ww hw 3 rfl) (ww hw 201 rfl) (by decide) pd29 (by rw [hml]; rfl) (argsL := [_, _, _, _]) rfl rfl rfl (pc := 36) (hb hby d40_36) rfl rfl (by decide) (by decide) ?_   -- com/example/mortise/mortise/pack/NamespacedPathOfPinLaw.eq:(Ljava/lang/String;[CII)Z
  intro T X eT
  dsimp only [Option.toList_some, Option.toList_none, List.cons_append, List.nil_append]
  refine Ow.if_eq X hx (pc := 39) (pc' := 76) (hb hby d40_39) (by decide) (by decide) (fun q => absurd q (by decide)) (fun h39 => ?_)
  refine Ow.aloadN X hx (pc := 42) (hb hby d40_42) rfl rfl ?_
  refine Ow.aloadN X hx (pc := 43) (hb hby d40_43) rfl rfl ?_
  refine Ow.iloadN X hx (pc := 44) (hb hby d40_44) rfl ?_
  refine Ow.iconst X hx (pc := 45) (3) (hb hby d40_45) (by decide) ?_
  refine Ow.callSP X hx hZ (c_eq l Z a0 hw h0 z fm S hz Sf hfm x t kb bs St b kc cs A hcap f hfl heq 3 (by decide)) rfl rfl eT hown (ww hw 199 rfl) (ww hw 200 rfl) (ww hw 3 rfl) (ww hw 201 rfl) (by decide) pd29 (by rw [hml]; rfl) (argsL := [_, _, _, _]) rfl rfl rfl (pc := 46) (hb hby d40_46) rfl rfl (by decide) (by decide) ?_   -- com/example/mortise/mortise/pack/NamespacedPathOfPinLaw.eq:(Ljava/lang/String;[CII)Z
  intro T X eT
  dsimp only [Option.toList_some, Option.toList_none, List.cons_append, List.nil_append]
  refine Ow.if_eq X hx (pc := 49) (pc' := 76) (hb hby d40_49) (by decide) (by decide) (fun q => absurd q (by decide)) (fun h49 => ?_)
  refine Ow.aloadN X hx (pc := 52) (hb hby d40_52) rfl rfl ?_
  refine Ow.aloadN X hx (pc := 53) (hb hby d40_53) rfl rfl ?_
  refine Ow.iloadN X hx (pc := 54) (hb hby d40_54) rfl ?_
  refine Ow.iconst X hx (pc := 55) (4) (hb hby d40_55) (by decide) ?_
  refine Ow.callSP X hx hZ (c_eq l Z a0 hw h0 z fm S hz Sf hfm x t kb bs St b kc cs A hcap f hfl heq 4 (by decide)) rfl rfl eT hown (ww hw 199 rfl) (ww hw 200 rfl) (ww hw 3 rfl) (ww hw 201 rfl) (by decide) pd29 (by rw [hml]; rfl) (argsL := [_, _, _, _]) rfl rfl rfl (pc := 56) (hb hby d40_56) rfl rfl (by decide) (by decide) ?_   -- com/example/mortise/mortise/pack/NamespacedPathOfPinLaw.eq:(Ljava/lang/String;[CII)Z
  intro T X eT
  dsimp only [Option.toList_some, Option.toList_none, List.cons_append, List.nil_append]
  refine Ow.if_eq X hx (pc := 59) (pc' := 76) (hb hby d40_59) (by decide) (by decide) (fun q => absurd q (by decide)) (fun h59 => ?_)
  refine Ow.aloadN X hx (pc := 62) (hb hby d40_62) rfl rfl ?_
  refine Ow.aloadN X hx (pc := 63) (hb hby d40_63) rfl rfl ?_
  refine Ow.iloadN X hx (pc := 64) (hb hby d40_64) rfl ?_
  refine Ow.iconst X hx (pc := 65) (5) (hb hby d40_65) (by decide) ?_
  refine Ow.callSP X hx hZ (c_eq l Z a0 hw h0 z fm S hz Sf hfm x t kb bs St b kc cs A hcap f hfl heq 5 (by decide)) rfl rfl eT hown (ww hw 199 rfl) (ww hw 200 rfl) (ww hw 3 rfl) (ww hw 201 rfl) (by decide) pd29 (by rw [hml]; rfl) (argsL := [_, _, _, _]) rfl rfl rfl (pc := 66) (hb hby d40_66) rfl rfl (by decide) (by decide) ?_   -- com/example/mortise/mortise/pack/NamespacedPathOfPinLaw.eq:(Ljava/lang/String;[CII)Z
  intro T X eT
  dsimp only [Option.toList_some, Option.toList_none, List.cons_append, List.nil_append]
  refine Ow.if_eq X hx (pc := 69) (pc' := 76) (hb hby d40_69) (by decide) (by decide) (fun q => absurd q (by decide)) (fun h69 => ?_)
  refine Ow.iconst X hx (pc := 72) (1) (hb hby d40_72) (by decide) ?_
  refine Ow.goto X hx (pc := 73) (pc' := 77) (hb hby d40_73) (by decide) (by decide) ?_
  exact Ow.nreturn X hx hlk hret (Or.inl rfl) (hb hby d40_77) ⟨rfl, eT, rfl⟩ (by decide) (by decide)
def own_ixb (bl : List Bool) : Nat → Nat → Int32
  | _, 0 => -1
  | i, f + 1 => if bl.getD i false = true then Int32.ofNat i else own_ixb bl (i + 1) f
theorem own_ix_b {bs : List Int32} {bl : List Bool} (h : ∀ i, bs.getD i 0 = 47 ↔ bl.getD i false = true) : ∀ (f i : Nat), own_ix 47 bs i f = own_ixb bl i f
  | 0, _ => rfl
  | f + 1, i => by
    unfold own_ix own_ixb
    rw [own_ix_b h f (i + 1)]
    by_cases q : bl.getD i false = true
    · rw [if_pos q, if_pos ((h i).mpr q)]
    · rw [if_neg q, if_neg fun r => q ((h i).mp r)]
def own_ixbs (bl : List Bool) (fr : Nat) : Int32 := own_ixb bl fr (bl.length - fr)
def own_afterb (bl : List Bool) : Int32 := if 0 < own_ixbs bl 0 ∧ own_ixbs bl 0 + 1 < own_ixbs bl (own_ixbs bl 0 + 1).toNatClampNeg then own_ixbs bl (own_ixbs bl 0 + 1).toNatClampNeg else -1
def own_slb (bl : List Bool) (fr : Int32) (j : Nat) : Int32 := if ¬ Int32.ofNat j < fr ∧ j < bl.length ∧ bl.getD j false = true then 1 else 0
def own_fsb (bl : List Bool) (fr : Int32) : Int32 := if own_slb bl fr 0 = 0 then (if own_slb bl fr 1 = 0 then (if own_slb bl fr 2 = 0 then (if own_slb bl fr 3 = 0 then (if own_slb bl fr 4 = 0 then (if own_slb bl fr 5 = 0 then -1 else 5) else 4) else 3) else 2) else 1) else 0
theorem own_plainB : ∀ (n : Fin 7) (a0 a1 a2 a3 a4 a5 : Bool),
    (let bl := List.take n.val [a0, a1, a2, a3, a4, a5]
     let fi := own_fsb bl 0
     let se := if fi < 0 then -1 else own_fsb bl (fi + 1)
     ((if ¬ fi < 1 ∧ ¬ se < fi + 2 then (1 : Int32) else 0) = if own_afterb bl < 0 then 0 else 1) ∧ (own_afterb bl < 0 ∨ own_ixbs bl 0 = fi ∧ own_afterb bl = se)) := by decide +kernel
theorem own_c47 : ∀ k : Fin 256, ((Int32.ofNat k.val).toInt8.toInt32 = 47 ↔ Int32.ofNat k.val = 47) ∧ (Int32.ofNat k.val).toInt8.toInt32 &&& 255 = Int32.ofNat k.val ∧ fits .byte (.int (Int32.ofNat k.val).toInt8.toInt32) = true := by decide +kernel
theorem own_getD (cs : List Int32) (h8 : ∀ c ∈ cs, ∃ k : Fin 256, c = Int32.ofNat k.val) (i : Nat) : (cs.map fun c => c.toInt8.toInt32).getD i 0 = 47 ↔ (cs.map fun c => decide (c = 47)).getD i false = true := by
  simp only [List.getD_eq_getElem?_getD, List.getElem?_map]
  cases q : cs[i]? with
  | none => simp
  | some c =>
    obtain ⟨k, rfl⟩ := h8 c (List.mem_of_getElem? q)
    simpa using (own_c47 k).1
theorem own_slc (cs : List Int32) (fr : Int32) (j : Nat) : own_sl cs fr j = own_slb (cs.map fun c => decide (c = 47)) fr j := by
  unfold own_sl own_slb
  by_cases hj : j < cs.length
  · have e : (cs.getD j 0 = 47) = ((cs.map fun c => decide (c = 47)).getD j false = true) := by
      simp [List.getD_eq_getElem?_getD, hj]
    simp only [e, List.length_map]
  · simp [hj]
theorem own_list6 {cs : List Int32} (h : cs.length ≤ 6) : ∃ (n : Fin 7) (a0 a1 a2 a3 a4 a5 : Bool), (cs.map fun c => decide (c = 47)) = List.take n.val [a0, a1, a2, a3, a4, a5] := by
  match cs, h with
  | [], _ => exact ⟨0, false, false, false, false, false, false, rfl⟩
  | [c0], _ => exact ⟨1, decide (c0 = 47), false, false, false, false, false, rfl⟩
  | [c0, c1], _ => exact ⟨2, decide (c0 = 47), decide (c1 = 47), false, false, false, false, rfl⟩
  | [c0, c1, c2], _ => exact ⟨3, decide (c0 = 47), decide (c1 = 47), decide (c2 = 47), false, false, false, rfl⟩
  | [c0, c1, c2, c3], _ => exact ⟨4, decide (c0 = 47), decide (c1 = 47), decide (c2 = 47), decide (c3 = 47), false, false, rfl⟩
  | [c0, c1, c2, c3, c4], _ => exact ⟨5, decide (c0 = 47), decide (c1 = 47), decide (c2 = 47), decide (c3 = 47), decide (c4 = 47), false, rfl⟩
  | [c0, c1, c2, c3, c4, c5], _ => exact ⟨6, decide (c0 = 47), decide (c1 = 47), decide (c2 = 47), decide (c3 = 47), decide (c4 = 47), decide (c5 = 47), rfl⟩
  | _ :: _ :: _ :: _ :: _ :: _ :: _ :: _, h => exact absurd h (by simp)
theorem own_plain (cs : List Int32) (hn : cs.length ≤ 6) (h8 : ∀ c ∈ cs, ∃ k : Fin 256, c = Int32.ofNat k.val) (fi se : Int32) (hfi : fi = own_fs cs 0) (hse : se = if fi < 0 then -1 else own_fs cs (fi + 1)) :
    ((if ¬ fi < 1 ∧ ¬ se < fi + 2 then (1 : Int32) else 0) = if own_after (cs.map fun c => c.toInt8.toInt32) < 0 then 0 else 1) ∧ (own_after (cs.map fun c => c.toInt8.toInt32) < 0 ∨ own_ixs 47 (cs.map fun c => c.toInt8.toInt32) 0 = fi ∧ own_after (cs.map fun c => c.toInt8.toInt32) = se) := by
  have hi : ∀ fr, own_ixs 47 (cs.map fun c => c.toInt8.toInt32) fr = own_ixbs (cs.map fun c => decide (c = 47)) fr := fun fr => by
    unfold own_ixs own_ixbs
    rw [own_ix_b (own_getD cs h8)]
    simp
  have hf : ∀ fr, own_fs cs fr = own_fsb (cs.map fun c => decide (c = 47)) fr := fun fr => by
    unfold own_fs own_fsb; simp only [own_slc]
  have ha : own_after (cs.map fun c => c.toInt8.toInt32) = own_afterb (cs.map fun c => decide (c = 47)) := by
    unfold own_after own_afterb; simp only [hi]
  obtain ⟨n, a0, a1, a2, a3, a4, a5, e⟩ := own_list6 hn
  have key := own_plainB n a0 a1 a2 a3 a4 a5
  rw [ha, hi, hse, hfi]
  simp only [hf]
  rw [e]
  exact key
/-- a part of the bytes is that part of the chars -/
theorem own_part (cs : List Int32) (h8 : ∀ c ∈ cs, ∃ k : Fin 256, c = Int32.ofNat k.val) (f g : Nat) (hfg : f ≤ g) (hg : g ≤ cs.length) (ws : List Int32) (hws : ws = ((cs.map fun c => c.toInt8.toInt32).drop f).take (g - f)) : ws.length = g - f ∧ f + ws.length ≤ cs.length ∧ ∀ i, i < ws.length → ws.getD i 0 &&& 255 = cs.getD (f + i) 0 := by
  have hl : ws.length = g - f := by rw [hws]; simp; omega
  refine ⟨hl, by omega, fun i hi => ?_⟩
  have hc : f + i < cs.length := by omega
  obtain ⟨k, hk⟩ := h8 cs[f + i] (List.getElem_mem _)
  have e1 : ws.getD i 0 = (cs[f + i]).toInt8.toInt32 := by
    rw [hws, List.getD_eq_getElem?_getD, List.getElem?_take, if_pos (by omega), List.getElem?_drop, List.getElem?_map, List.getElem?_eq_getElem hc]; rfl
  have e2 : cs.getD (f + i) 0 = cs[f + i] := by rw [List.getD_eq_getElem?_getD, List.getElem?_eq_getElem hc]; rfl
  rw [e1, e2, hk]; exact (own_c47 k).2.1
theorem own_fit (cs : List Int32) (h8 : ∀ c ∈ cs, ∃ k : Fin 256, c = Int32.ofNat k.val) : ∀ v ∈ (cs.map fun c => c.toInt8.toInt32).map Value.int, fits .byte v = true := by
  intro v hv
  obtain ⟨w, hw, rfl⟩ := List.mem_map.mp hv
  obtain ⟨c, hc, rfl⟩ := List.mem_map.mp hw
  obtain ⟨k, rfl⟩ := h8 c hc
  exact (own_c47 k).2.2
theorem own_len7 (x : Int32) : ∃ n : Nat, n ≤ 6 ∧ (x &&& 7) % 7 = Int32.ofNat n := by
  have h : ∃ k : Fin 8, (x &&& 7) = Int32.ofNat k.val := by
    refine ⟨⟨(x &&& 7).toBitVec.toNat, ?_⟩, ?_⟩
    · simp only [Int32.toBitVec_and, BitVec.toNat_and]
      exact Nat.lt_of_le_of_lt Nat.and_le_right (by decide)
    · apply Int32.toBitVec_inj.mp
      show _ = BitVec.ofNat 32 _
      rw [BitVec.ofNat_toNat]; simp
  obtain ⟨k, hk⟩ := h
  rw [hk]
  revert k
  have : ∀ k : Fin 8, ∃ n : Fin 7, Int32.ofNat k.val % 7 = Int32.ofNat n.val := by decide +kernel
  intro k _
  obtain ⟨n, hn⟩ := this k
  exact ⟨n.val, by omega, hn⟩
set_option maxRecDepth 65536 in
set_option maxHeartbeats 40000000 in
theorem law_w (l : Launch) (Z : State) (a0 : Array Value) (hw : ∀ d ∈ tables_1, d.before a0 Z = true) (hEL : EW Z a0 EL) (h0 : Heap) (z p0 p1 p2 : Int32) (fm : Value) (om : Addr) (S : Sta Z h0 "java/lang/String" "COMPACT_STRINGS" "Z" (.int z)) (hz : ¬ z = 0) (Sf : Sta Z h0 "jdk/internal/util/Preconditions" "SIOOBE_FORMATTER" "Ljava/util/function/BiFunction;" fm) (hfm : fm.isRef = true) (So : Sta Z h0 "java/util/Optional" "EMPTY" "Ljava/util/Optional;" (.ref om)) (A_om : Exa Z h0 om "java/util/Optional") (V_om : Fld Z h0 om "java/util/Optional" "value" "Ljava/lang/Object;" .null) : Ow.PayW l Z EL [] x code maxLocals ret room_1 #[(.int p0), (.int p1), (.int p2)] h0 (fun v h L => v = some (.int 1) ∧ Ow.Eff h0 h [] L) := by
  refine Ow.PayW.of (Ls := #[.val (.int p0), .val (.int p1), .val (.int p2), .unset, .unset, .unset, .unset, .unset, .unset, .unset, .unset, .unset]) (plainFor_of_name pn8) (fun m => by first | rfl | (simp [entryFrame, mkF, argsToLocals, Value.category, maxLocals]; done)) ?_
  intro p e s m below meth c T vm0 hx hby hml hown hnm hme hret hlk X eT D hsf
  have F := Ow.Eff.refl h0 []
  obtain ⟨n, hn6, hlen⟩ := own_len7 p0
  have hy6 : (7 : Int32) ≠ 0 := by decide
  refine own_join (fun G => ∀ (cs : List Int32) (vm0 : Vm) (T : State) (h : Heap) (xs t kb b kc cA : Nat) (L : List Loc), cs.length ≤ 6 → (∀ c ∈ cs, ∃ k : Fin 256, c = Int32.ofNat k.val) → Stand p l e room_1 (s.setVm vm0) m #[(.int p0), (.int p1), (.int p2)] below meth c T L 12 80 → T.heap = h → Wd s Z EL vm0 h → vm0.findClass "com/example/mortise/mortise/pack/NamespacedPathOfPinLaw" = some m.cls → Ow.Eff h0 h [] L → Sta Z h "java/lang/String" "COMPACT_STRINGS" "Z" (.int z) → Sta Z h "jdk/internal/util/Preconditions" "SIOOBE_FORMATTER" "Ljava/util/function/BiFunction;" fm → Sta Z h "java/util/Optional" "EMPTY" "Ljava/util/Optional;" (.ref om) → Exa Z h om "java/util/Optional" → Fld Z h om "java/util/Optional" "value" "Ljava/lang/Object;" .null → Ow.AL Z h b kc .char (cs.map Value.int) → Ow.Str Z h xs t kb (cs.map fun c => c.toInt8.toInt32) → Go p.tables e below G (T.setTop (mkF m 180 #[.val (.int p0), .val (.int p1), .val (.int p2), .val (.int (Int32.ofNat cs.length)), .val (.ref cA), .val (.ref b), .unset, .unset, .unset, .unset, .unset, .unset] [.ref xs]))) ?_ (fun tail => ?_)
  rotate_left
  · refine Ow.iloadN X hx (pc := 0) (hb hby at_0) rfl ?_
    refine Ow.bipush X hx (pc := 1) (7) (hb hby at_1) (by decide) ?_
    refine Ow.iand X hx (pc := 3) (hb hby at_3) ?_
    refine Ow.bipush X hx (pc := 4) (7) (hb hby at_4) (by decide) ?_
    refine Ow.irem X hx (pc := 6) (hb hby at_6) hy6 ?_
    rw [hlen]
    refine Ow.istoreN X hx (pc := 7) #[_, _, _, _, _, _, _, _, _, _, _, _] (hb hby at_7) rfl ?_
    refine Ow.bipush X hx (pc := 8) (6) (hb hby at_8) (by decide) ?_
    refine Ow.newarrayL X hx D.hZ (ww hw 0 rfl) eT 6 (vs := [_, _, _, _, _, _]) rfl (pc := 10) (hb hby at_10) (by decide) (by decide) (by decide) (by decide) (by decide) ?_
    intro T h_cA k_cA cA ha_cA X eT E_cA B_cA
    have l_cA : h0.size ≤ cA := by rw [ha_cA]; exact F.size
    have ne_om_cA : om ≠ cA := by rw [ha_cA]; exact Nat.ne_of_lt A_om.lt
    have S_cA := D.safeNew E_cA
    rw [← ha_cA] at S_cA
    have S := S.ext E_cA
    have Sf := Sf.ext E_cA
    have So := So.ext E_cA
    have A_om := A_om.ext E_cA
    have V_om := V_om.ext E_cA
    have F := F.ext E_cA
    have D := D.ext E_cA
    refine Ow.astore X hx (pc := 12) #[_, _, _, _, _, _, _, _, _, _, _, _] (hb hby at_12) rfl rfl ?_
    refine Ow.aload X hx (pc := 14) (hb hby at_14) rfl rfl ?_
    refine Ow.iconst X hx (pc := 16) (0) (hb hby at_16) (by decide) ?_
    refine Ow.iloadN X hx (pc := 17) (hb hby at_17) rfl ?_
    refine Ow.iconst X hx (pc := 18) (3) (hb hby at_18) (by decide) ?_
    refine Ow.iloadN X hx (pc := 19) (hb hby at_19) rfl ?_
    refine Ow.callSP X hx D.hZ (c_pick l Z a0 hw _ _ _ _) rfl rfl eT hown (ww hw 1 rfl) (ww hw 2 rfl) (ww hw 3 rfl) (ww hw 4 rfl) (by decide) pd30 (by rw [hml]; rfl) (argsL := [_, _, _]) rfl rfl rfl (pc := 20) (hb hby at_20) rfl rfl (by decide) (by decide) ?_   -- com/example/mortise/mortise/pack/NamespacedPathOfPinLaw.pick:(III)C
    intro T X eT
    dsimp only [Option.toList_some, Option.toList_none, List.cons_append, List.nil_append]
    refine Ow.castoreL X hx D.hZ eT B_cA 0 [_, _, _, _, _, _] (by decide) (by decide) rfl rfl (pc := 23) (hb hby at_23) ?_
    intro T h_23 X eT W_23 B_cA
    rw [own_npick p0 3 p1] at B_cA W_23
    have S := S.wr W_23
    have Sf := Sf.wr W_23
    have So := So.wr W_23
    have A_om := A_om.wr W_23
    have V_om := V_om.other W_23 (Or.inl ne_om_cA)
    have S_tmp := S_cA
    have S_cA := D.safeWr W_23 S_tmp S_cA
    have D := D.wr W_23 S_tmp
    have F := F.wr W_23 (Or.inr l_cA)
    refine Ow.aload X hx (pc := 24) (hb hby at_24) rfl rfl ?_
    refine Ow.iconst X hx (pc := 26) (1) (hb hby at_26) (by decide) ?_
    refine Ow.iloadN X hx (pc := 27) (hb hby at_27) rfl ?_
    refine Ow.iconst X hx (pc := 28) (4) (hb hby at_28) (by decide) ?_
    refine Ow.iloadN X hx (pc := 29) (hb hby at_29) rfl ?_
    refine Ow.bipush X hx (pc := 30) (8) (hb hby at_30) (by decide) ?_
    refine Ow.iushr X hx (pc := 32) (hb hby at_32) ?_
    refine Ow.callSP X hx D.hZ (c_pick l Z a0 hw _ _ _ _) rfl rfl eT hown (ww hw 1 rfl) (ww hw 2 rfl) (ww hw 3 rfl) (ww hw 4 rfl) (by decide) pd30 (by rw [hml]; rfl) (argsL := [_, _, _]) rfl rfl rfl (pc := 33) (hb hby at_33) rfl rfl (by decide) (by decide) ?_   -- com/example/mortise/mortise/pack/NamespacedPathOfPinLaw.pick:(III)C
    intro T X eT
    dsimp only [Option.toList_some, Option.toList_none, List.cons_append, List.nil_append]
    refine Ow.castoreL X hx D.hZ eT B_cA 1 [_, _, _, _, _, _] (by decide) (by decide) rfl rfl (pc := 36) (hb hby at_36) ?_
    intro T h_36 X eT W_36 B_cA
    rw [own_npick p0 4 (XT.ushr p1 8)] at B_cA W_36
    have S := S.wr W_36
    have Sf := Sf.wr W_36
    have So := So.wr W_36
    have A_om := A_om.wr W_36
    have V_om := V_om.other W_36 (Or.inl ne_om_cA)
    have S_tmp := S_cA
    have S_cA := D.safeWr W_36 S_tmp S_cA
    have D := D.wr W_36 S_tmp
    have F := F.wr W_36 (Or.inr l_cA)
    refine Ow.aload X hx (pc := 37) (hb hby at_37) rfl rfl ?_
    refine Ow.iconst X hx (pc := 39) (2) (hb hby at_39) (by decide) ?_
    refine Ow.iloadN X hx (pc := 40) (hb hby at_40) rfl ?_
    refine Ow.iconst X hx (pc := 41) (5) (hb hby at_41) (by decide) ?_
    refine Ow.iloadN X hx (pc := 42) (hb hby at_42) rfl ?_
    refine Ow.bipush X hx (pc := 43) (16) (hb hby at_43) (by decide) ?_
    refine Ow.iushr X hx (pc := 45) (hb hby at_45) ?_
    refine Ow.callSP X hx D.hZ (c_pick l Z a0 hw _ _ _ _) rfl rfl eT hown (ww hw 1 rfl) (ww hw 2 rfl) (ww hw 3 rfl) (ww hw 4 rfl) (by decide) pd30 (by rw [hml]; rfl) (argsL := [_, _, _]) rfl rfl rfl (pc := 46) (hb hby at_46) rfl rfl (by decide) (by decide) ?_   -- com/example/mortise/mortise/pack/NamespacedPathOfPinLaw.pick:(III)C
    intro T X eT
    dsimp only [Option.toList_some, Option.toList_none, List.cons_append, List.nil_append]
    refine Ow.castoreL X hx D.hZ eT B_cA 2 [_, _, _, _, _, _] (by decide) (by decide) rfl rfl (pc := 49) (hb hby at_49) ?_
    intro T h_49 X eT W_49 B_cA
    rw [own_npick p0 5 (XT.ushr p1 16)] at B_cA W_49
    have S := S.wr W_49
    have Sf := Sf.wr W_49
    have So := So.wr W_49
    have A_om := A_om.wr W_49
    have V_om := V_om.other W_49 (Or.inl ne_om_cA)
    have S_tmp := S_cA
    have S_cA := D.safeWr W_49 S_tmp S_cA
    have D := D.wr W_49 S_tmp
    have F := F.wr W_49 (Or.inr l_cA)
    refine Ow.aload X hx (pc := 50) (hb hby at_50) rfl rfl ?_
    refine Ow.iconst X hx (pc := 52) (3) (hb hby at_52) (by decide) ?_
    refine Ow.iloadN X hx (pc := 53) (hb hby at_53) rfl ?_
    refine Ow.bipush X hx (pc := 54) (6) (hb hby at_54) (by decide) ?_
    refine Ow.iloadN X hx (pc := 56) (hb hby at_56) rfl ?_
    refine Ow.bipush X hx (pc := 57) (24) (hb hby at_57) (by decide) ?_
    refine Ow.iushr X hx (pc := 59) (hb hby at_59) ?_
    refine Ow.callSP X hx D.hZ (c_pick l Z a0 hw _ _ _ _) rfl rfl eT hown (ww hw 1 rfl) (ww hw 2 rfl) (ww hw 3 rfl) (ww hw 4 rfl) (by decide) pd30 (by rw [hml]; rfl) (argsL := [_, _, _]) rfl rfl rfl (pc := 60) (hb hby at_60) rfl rfl (by decide) (by decide) ?_   -- com/example/mortise/mortise/pack/NamespacedPathOfPinLaw.pick:(III)C
    intro T X eT
    dsimp only [Option.toList_some, Option.toList_none, List.cons_append, List.nil_append]
    refine Ow.castoreL X hx D.hZ eT B_cA 3 [_, _, _, _, _, _] (by decide) (by decide) rfl rfl (pc := 63) (hb hby at_63) ?_
    intro T h_63 X eT W_63 B_cA
    rw [own_npick p0 6 (XT.ushr p1 24)] at B_cA W_63
    have S := S.wr W_63
    have Sf := Sf.wr W_63
    have So := So.wr W_63
    have A_om := A_om.wr W_63
    have V_om := V_om.other W_63 (Or.inl ne_om_cA)
    have S_tmp := S_cA
    have S_cA := D.safeWr W_63 S_tmp S_cA
    have D := D.wr W_63 S_tmp
    have F := F.wr W_63 (Or.inr l_cA)
    refine Ow.aload X hx (pc := 64) (hb hby at_64) rfl rfl ?_
    refine Ow.iconst X hx (pc := 66) (4) (hb hby at_66) (by decide) ?_
    refine Ow.iloadN X hx (pc := 67) (hb hby at_67) rfl ?_
    refine Ow.bipush X hx (pc := 68) (7) (hb hby at_68) (by decide) ?_
    refine Ow.iloadN X hx (pc := 70) (hb hby at_70) rfl ?_
    refine Ow.callSP X hx D.hZ (c_pick l Z a0 hw _ _ _ _) rfl rfl eT hown (ww hw 1 rfl) (ww hw 2 rfl) (ww hw 3 rfl) (ww hw 4 rfl) (by decide) pd30 (by rw [hml]; rfl) (argsL := [_, _, _]) rfl rfl rfl (pc := 71) (hb hby at_71) rfl rfl (by decide) (by decide) ?_   -- com/example/mortise/mortise/pack/NamespacedPathOfPinLaw.pick:(III)C
    intro T X eT
    dsimp only [Option.toList_some, Option.toList_none, List.cons_append, List.nil_append]
    refine Ow.castoreL X hx D.hZ eT B_cA 4 [_, _, _, _, _, _] (by decide) (by decide) rfl rfl (pc := 74) (hb hby at_74) ?_
    intro T h_74 X eT W_74 B_cA
    rw [own_npick p0 7 p2] at B_cA W_74
    have S := S.wr W_74
    have Sf := Sf.wr W_74
    have So := So.wr W_74
    have A_om := A_om.wr W_74
    have V_om := V_om.other W_74 (Or.inl ne_om_cA)
    have S_tmp := S_cA
    have S_cA := D.safeWr W_74 S_tmp S_cA
    have D := D.wr W_74 S_tmp
    have F := F.wr W_74 (Or.inr l_cA)
    refine Ow.aload X hx (pc := 75) (hb hby at_75) rfl rfl ?_
    refine Ow.iconst X hx (pc := 77) (5) (hb hby at_77) (by decide) ?_
    refine Ow.iloadN X hx (pc := 78) (hb hby at_78) rfl ?_
    refine Ow.bipush X hx (pc := 79) (8) (hb hby at_79) (by decide) ?_
    refine Ow.iloadN X hx (pc := 81) (hb hby at_81) rfl ?_
    refine Ow.bipush X hx (pc := 82) (8) (hb hby at_82) (by decide) ?_
    refine Ow.iushr X hx (pc := 84) (hb hby at_84) ?_
    refine Ow.callSP X hx D.hZ (c_pick l Z a0 hw _ _ _ _) rfl rfl eT hown (ww hw 1 rfl) (ww hw 2 rfl) (ww hw 3 rfl) (ww hw 4 rfl) (by decide) pd30 (by rw [hml]; rfl) (argsL := [_, _, _]) rfl rfl rfl (pc := 85) (hb hby at_85) rfl rfl (by decide) (by decide) ?_   -- com/example/mortise/mortise/pack/NamespacedPathOfPinLaw.pick:(III)C
    intro T X eT
    dsimp only [Option.toList_some, Option.toList_none, List.cons_append, List.nil_append]
    refine Ow.castoreL X hx D.hZ eT B_cA 5 [_, _, _, _, _, _] (by decide) (by decide) rfl rfl (pc := 88) (hb hby at_88) ?_
    intro T h_88 X eT W_88 B_cA
    rw [own_npick p0 8 (XT.ushr p2 8)] at B_cA W_88
    have S := S.wr W_88
    have Sf := Sf.wr W_88
    have So := So.wr W_88
    have A_om := A_om.wr W_88
    have V_om := V_om.other W_88 (Or.inl ne_om_cA)
    have S_tmp := S_cA
    have S_cA := D.safeWr W_88 S_tmp S_cA
    have D := D.wr W_88 S_tmp
    have F := F.wr W_88 (Or.inr l_cA)
    obtain ⟨c0, hc0⟩ : ∃ c, c = own_pick p0 3 p1 := ⟨_, rfl⟩
    obtain ⟨c1, hc1⟩ : ∃ c, c = own_pick p0 4 (XT.ushr p1 8) := ⟨_, rfl⟩
    obtain ⟨c2, hc2⟩ : ∃ c, c = own_pick p0 5 (XT.ushr p1 16) := ⟨_, rfl⟩
    obtain ⟨c3, hc3⟩ : ∃ c, c = own_pick p0 6 (XT.ushr p1 24) := ⟨_, rfl⟩
    obtain ⟨c4, hc4⟩ : ∃ c, c = own_pick p0 7 p2 := ⟨_, rfl⟩
    obtain ⟨c5, hc5⟩ : ∃ c, c = own_pick p0 8 (XT.ushr p2 8) := ⟨_, rfl⟩
    rw [← hc0, ← hc1, ← hc2, ← hc3, ← hc4, ← hc5] at B_cA
    have h8 : ∀ c ∈ [c0, c1, c2, c3, c4, c5], ∃ k : Fin 256, c = Int32.ofNat k.val := by
      intro c hc
      simp only [List.mem_cons, List.not_mem_nil, or_false] at hc
      rcases hc with rfl | rfl | rfl | rfl | rfl | rfl
      · rw [hc0]; exact own_pick_8 _ _ _
      · rw [hc1]; exact own_pick_8 _ _ _
      · rw [hc2]; exact own_pick_8 _ _ _
      · rw [hc3]; exact own_pick_8 _ _ _
      · rw [hc4]; exact own_pick_8 _ _ _
      · rw [hc5]; exact own_pick_8 _ _ _
    have h8n : ∀ c ∈ [c0, c1, c2, c3, c4, c5], nar .char c = c := fun c hc => by obtain ⟨k, rfl⟩ := h8 c hc; exact (own_ch8 k).2.2.1
    have h7 : n = 0 ∨ n = 1 ∨ n = 2 ∨ n = 3 ∨ n = 4 ∨ n = 5 ∨ n = 6 := by omega
    rcases h7 with rfl | rfl | rfl | rfl | rfl | rfl | rfl
    · refine Ow.iloadN X hx (pc := 89) (hb hby at_89) rfl ?_
      refine Ow.newarrayL X hx D.hZ (ww hw 0 rfl) eT 0 (vs := []) rfl (pc := 90) (hb hby at_90) (by decide) (by decide) (by decide) (by decide) (by decide) ?_
      intro T h_b k_b b ha_b X eT E_b B_b
      have l_b : h0.size ≤ b := by rw [ha_b]; exact F.size
      have ne_om_b : om ≠ b := by rw [ha_b]; exact Nat.ne_of_lt A_om.lt
      have ne_cA_b : cA ≠ b := by rw [ha_b]; exact Nat.ne_of_lt B_cA.lt
      have S_b := D.safeNew E_b
      rw [← ha_b] at S_b
      have S := S.ext E_b
      have Sf := Sf.ext E_b
      have So := So.ext E_b
      have A_om := A_om.ext E_b
      have V_om := V_om.ext E_b
      have B_cA := B_cA.ext E_b
      have S_cA := D.safeExt E_b S_cA
      have F := F.ext E_b
      have D := D.ext E_b
      refine Ow.astore X hx (pc := 92) #[_, _, _, _, _, _, _, _, _, _, _, _] (hb hby at_92) rfl rfl ?_
      refine Ow.iloadN X hx (pc := 94) (hb hby at_94) rfl ?_
      refine Ow.if_le X hx (pc := 95) (pc' := 106) (hb hby at_95) (by decide) (by decide) (fun h95 => ?_) (fun q => absurd q (by decide))
      refine Ow.iloadN X hx (pc := 106) (hb hby at_106) rfl ?_
      refine Ow.iconst X hx (pc := 107) (1) (hb hby at_107) (by decide) ?_
      refine Ow.icmp_le X hx (pc := 108) (pc' := 119) (hb hby at_108) (by decide) (by decide) (fun h108 => ?_) (fun q => absurd q (by decide))
      refine Ow.iloadN X hx (pc := 119) (hb hby at_119) rfl ?_
      refine Ow.iconst X hx (pc := 120) (2) (hb hby at_120) (by decide) ?_
      refine Ow.icmp_le X hx (pc := 121) (pc' := 132) (hb hby at_121) (by decide) (by decide) (fun h121 => ?_) (fun q => absurd q (by decide))
      refine Ow.iloadN X hx (pc := 132) (hb hby at_132) rfl ?_
      refine Ow.iconst X hx (pc := 133) (3) (hb hby at_133) (by decide) ?_
      refine Ow.icmp_le X hx (pc := 134) (pc' := 145) (hb hby at_134) (by decide) (by decide) (fun h134 => ?_) (fun q => absurd q (by decide))
      refine Ow.iloadN X hx (pc := 145) (hb hby at_145) rfl ?_
      refine Ow.iconst X hx (pc := 146) (4) (hb hby at_146) (by decide) ?_
      refine Ow.icmp_le X hx (pc := 147) (pc' := 158) (hb hby at_147) (by decide) (by decide) (fun h147 => ?_) (fun q => absurd q (by decide))
      refine Ow.iloadN X hx (pc := 158) (hb hby at_158) rfl ?_
      refine Ow.iconst X hx (pc := 159) (5) (hb hby at_159) (by decide) ?_
      refine Ow.icmp_le X hx (pc := 160) (pc' := 171) (hb hby at_160) (by decide) (by decide) (fun h160 => ?_) (fun q => absurd q (by decide))
      refine Ow.new_ X hx D.hZ hown (ww hw 5 rfl) (ww hw 6 rfl) (ww hw 7 rfl) eT (pc := 171) (hb hby at_171) (by decide) (by decide) ?_
      intro T h_x x ha_x X eT E_x A_x D_x U_x
      have l_x : h0.size ≤ x := by rw [ha_x]; exact F.size
      have ne_om_x : om ≠ x := by rw [ha_x]; exact Nat.ne_of_lt A_om.lt
      have ne_cA_x : cA ≠ x := by rw [ha_x]; exact Nat.ne_of_lt B_cA.lt
      have ne_b_x : b ≠ x := by rw [ha_x]; exact Nat.ne_of_lt B_b.lt
      have S_x := D.safeNew E_x
      rw [← ha_x] at S_x
      have S := S.ext E_x
      have Sf := Sf.ext E_x
      have So := So.ext E_x
      have A_om := A_om.ext E_x
      have V_om := V_om.ext E_x
      have B_cA := B_cA.ext E_x
      have B_b := B_b.ext E_x
      have S_cA := D.safeExt E_x S_cA
      have S_b := D.safeExt E_x S_b
      have F := F.ext E_x
      have D := D.ext E_x
      have V0 := D_x (Or.inr (ww hw 20 rfl)) (ty := .array .byte) (by decide)
      have C0 := D_x (Or.inr (ww hw 21 rfl)) (ty := .byte) (by decide)
      refine Ow.dup X hx (pc := 174) (hb hby at_174) rfl ?_
      refine Ow.aload X hx (pc := 175) (hb hby at_175) rfl rfl ?_
      have hltx := A_x.lt
      refine Ow.callIW X hx (c_new1e l Z a0 hw hEL _ _ _ _ _ A_x V0 C0 _ B_b) eT D hEL (fun y hy => by cases List.mem_singleton.mp hy; exact ⟨A_x.lt, S_x⟩) rfl hown (ww hw 8 rfl) (ww hw 9 rfl) (ww hw 7 rfl) (ww hw 10 rfl) (by decide) pd8 (by rw [hml]; rfl) (argsL := [_]) rfl rfl rfl (pc := 177) (hb hby at_177) rfl rfl (by decide) (by decide) ?_
      rintro _ vm1 T L X ⟨rfl, F2, t_x, kb_x, St_x⟩ D hown C1
      dsimp only [Option.toList_some, Option.toList_none, List.cons_append, List.nil_append]
      have F := F.call F2 (fun y hy => by cases List.mem_singleton.mp hy; exact Or.inr l_x)
      have S := Ow.staKeep S F2.1 (fun y hy => by cases List.mem_singleton.mp hy; exact Ow.Exa.plain A_x)
      have Sf := Ow.staKeep Sf F2.1 (fun y hy => by cases List.mem_singleton.mp hy; exact Ow.Exa.plain A_x)
      have So := Ow.staKeep So F2.1 (fun y hy => by cases List.mem_singleton.mp hy; exact Ow.Exa.plain A_x)
      have A_om := A_om.keep F2.1
      have V_om := V_om.keep F2.1 (Ow.nin1 ne_om_x)
      have B_b := B_b.keep F2.1 (Ow.nin1 ne_b_x)
      exact tail [] _ T _ x _ _ b _ cA _ (Nat.le_of_ble_eq_true rfl) (fun _ q => nomatch q) (own_more X (by decide) (by decide)) rfl D hown F S Sf So A_om V_om B_b St_x
    · refine Ow.iloadN X hx (pc := 89) (hb hby at_89) rfl ?_
      refine Ow.newarrayL X hx D.hZ (ww hw 0 rfl) eT 1 (vs := [_]) rfl (pc := 90) (hb hby at_90) (by decide) (by decide) (by decide) (by decide) (by decide) ?_
      intro T h_b k_b b ha_b X eT E_b B_b
      have l_b : h0.size ≤ b := by rw [ha_b]; exact F.size
      have ne_om_b : om ≠ b := by rw [ha_b]; exact Nat.ne_of_lt A_om.lt
      have ne_cA_b : cA ≠ b := by rw [ha_b]; exact Nat.ne_of_lt B_cA.lt
      have S_b := D.safeNew E_b
      rw [← ha_b] at S_b
      have S := S.ext E_b
      have Sf := Sf.ext E_b
      have So := So.ext E_b
      have A_om := A_om.ext E_b
      have V_om := V_om.ext E_b
      have B_cA := B_cA.ext E_b
      have S_cA := D.safeExt E_b S_cA
      have F := F.ext E_b
      have D := D.ext E_b
      refine Ow.astore X hx (pc := 92) #[_, _, _, _, _, _, _, _, _, _, _, _] (hb hby at_92) rfl rfl ?_
      refine Ow.iloadN X hx (pc := 94) (hb hby at_94) rfl ?_
      refine Ow.if_le X hx (pc := 95) (pc' := 106) (hb hby at_95) (by decide) (by decide) (fun q => absurd (by decide) q) (fun h95 => ?_)
      refine Ow.aload X hx (pc := 98) (hb hby at_98) rfl rfl ?_
      refine Ow.iconst X hx (pc := 100) (0) (hb hby at_100) (by decide) ?_
      refine Ow.aload X hx (pc := 101) (hb hby at_101) rfl rfl ?_
      refine Ow.iconst X hx (pc := 103) (0) (hb hby at_103) (by decide) ?_
      refine Ow.caloadL X hx D.hZ eT B_cA 0 (.int c0) (by decide) (by decide) rfl (pc := 104) (hb hby at_104) ?_
      refine Ow.castoreL X hx D.hZ eT B_b 0 [_] (by decide) (by decide) rfl rfl (pc := 105) (hb hby at_105) ?_
      intro T h_105 X eT W_105 B_b
      rw [h8n c0 (by simp)] at B_b W_105
      have S := S.wr W_105
      have Sf := Sf.wr W_105
      have So := So.wr W_105
      have A_om := A_om.wr W_105
      have V_om := V_om.other W_105 (Or.inl ne_om_b)
      have B_cA := B_cA.other W_105 ne_cA_b
      have S_tmp := S_b
      have S_cA := D.safeWr W_105 S_tmp S_cA
      have S_b := D.safeWr W_105 S_tmp S_b
      have D := D.wr W_105 S_tmp
      have F := F.wr W_105 (Or.inr l_b)
      refine Ow.iloadN X hx (pc := 106) (hb hby at_106) rfl ?_
      refine Ow.iconst X hx (pc := 107) (1) (hb hby at_107) (by decide) ?_
      refine Ow.icmp_le X hx (pc := 108) (pc' := 119) (hb hby at_108) (by decide) (by decide) (fun h108 => ?_) (fun q => absurd q (by decide))
      refine Ow.iloadN X hx (pc := 119) (hb hby at_119) rfl ?_
      refine Ow.iconst X hx (pc := 120) (2) (hb hby at_120) (by decide) ?_
      refine Ow.icmp_le X hx (pc := 121) (pc' := 132) (hb hby at_121) (by decide) (by decide) (fun h121 => ?_) (fun q => absurd q (by decide))
      refine Ow.iloadN X hx (pc := 132) (hb hby at_132) rfl ?_
      refine Ow.iconst X hx (pc := 133) (3) (hb hby at_133) (by decide) ?_
      refine Ow.icmp_le X hx (pc := 134) (pc' := 145) (hb hby at_134) (by decide) (by decide) (fun h134 => ?_) (fun q => absurd q (by decide))
      refine Ow.iloadN X hx (pc := 145) (hb hby at_145) rfl ?_
      refine Ow.iconst X hx (pc := 146) (4) (hb hby at_146) (by decide) ?_
      refine Ow.icmp_le X hx (pc := 147) (pc' := 158) (hb hby at_147) (by decide) (by decide) (fun h147 => ?_) (fun q => absurd q (by decide))
      refine Ow.iloadN X hx (pc := 158) (hb hby at_158) rfl ?_
      refine Ow.iconst X hx (pc := 159) (5) (hb hby at_159) (by decide) ?_
      refine Ow.icmp_le X hx (pc := 160) (pc' := 171) (hb hby at_160) (by decide) (by decide) (fun h160 => ?_) (fun q => absurd q (by decide))
      refine Ow.new_ X hx D.hZ hown (ww hw 5 rfl) (ww hw 6 rfl) (ww hw 7 rfl) eT (pc := 171) (hb hby at_171) (by decide) (by decide) ?_
      intro T h_x x ha_x X eT E_x A_x D_x U_x
      have l_x : h0.size ≤ x := by rw [ha_x]; exact F.size
      have ne_om_x : om ≠ x := by rw [ha_x]; exact Nat.ne_of_lt A_om.lt
      have ne_cA_x : cA ≠ x := by rw [ha_x]; exact Nat.ne_of_lt B_cA.lt
      have ne_b_x : b ≠ x := by rw [ha_x]; exact Nat.ne_of_lt B_b.lt
      have S_x := D.safeNew E_x
      rw [← ha_x] at S_x
      have S := S.ext E_x
      have Sf := Sf.ext E_x
      have So := So.ext E_x
      have A_om := A_om.ext E_x
      have V_om := V_om.ext E_x
      have B_cA := B_cA.ext E_x
      have B_b := B_b.ext E_x
      have S_cA := D.safeExt E_x S_cA
      have S_b := D.safeExt E_x S_b
      have F := F.ext E_x
      have D := D.ext E_x
      have V0 := D_x (Or.inr (ww hw 20 rfl)) (ty := .array .byte) (by decide)
      have C0 := D_x (Or.inr (ww hw 21 rfl)) (ty := .byte) (by decide)
      refine Ow.dup X hx (pc := 174) (hb hby at_174) rfl ?_
      refine Ow.aload X hx (pc := 175) (hb hby at_175) rfl rfl ?_
      have H8 : ∀ c ∈ [c0], ∃ k : Fin 256, c = Int32.ofNat k.val := fun c hc => h8 c (List.mem_of_mem_take (i := 1) hc)
      refine strLat X hx D.hZ hw eT hown (ww hw 8 rfl) (cs := [c0]) A_x V0 C0 B_b S hz 1 rfl (by decide) (by decide) H8 (by rw [hml]; rfl) (pc := 177) (hb hby at_177) rfl rfl (by decide) (by decide) ?_
      intro T L kb_x X F2 St_x
      have D := D.keep F2.1 (fun y hy => by cases List.mem_singleton.mp hy; exact S_x)
      have F := F.call F2 (fun y hy => by cases List.mem_singleton.mp hy; exact Or.inr l_x)
      have S := Ow.staKeep S F2.1 (fun y hy => by cases List.mem_singleton.mp hy; exact Ow.Exa.plain A_x)
      have Sf := Ow.staKeep Sf F2.1 (fun y hy => by cases List.mem_singleton.mp hy; exact Ow.Exa.plain A_x)
      have So := Ow.staKeep So F2.1 (fun y hy => by cases List.mem_singleton.mp hy; exact Ow.Exa.plain A_x)
      have A_om := A_om.keep F2.1
      have V_om := V_om.keep F2.1 (Ow.nin1 ne_om_x)
      have B_b := B_b.keep F2.1 (Ow.nin1 ne_b_x)
      exact tail [c0] _ T _ x _ _ b _ cA _ (Nat.le_of_ble_eq_true rfl) H8 (own_more X (by decide) (by decide)) rfl D hown F S Sf So A_om V_om B_b St_x
    · refine Ow.iloadN X hx (pc := 89) (hb hby at_89) rfl ?_
      refine Ow.newarrayL X hx D.hZ (ww hw 0 rfl) eT 2 (vs := [_, _]) rfl (pc := 90) (hb hby at_90) (by decide) (by decide) (by decide) (by decide) (by decide) ?_
      intro T h_b k_b b ha_b X eT E_b B_b
      have l_b : h0.size ≤ b := by rw [ha_b]; exact F.size
      have ne_om_b : om ≠ b := by rw [ha_b]; exact Nat.ne_of_lt A_om.lt
      have ne_cA_b : cA ≠ b := by rw [ha_b]; exact Nat.ne_of_lt B_cA.lt
      have S_b := D.safeNew E_b
      rw [← ha_b] at S_b
      have S := S.ext E_b
      have Sf := Sf.ext E_b
      have So := So.ext E_b
      have A_om := A_om.ext E_b
      have V_om := V_om.ext E_b
      have B_cA := B_cA.ext E_b
      have S_cA := D.safeExt E_b S_cA
      have F := F.ext E_b
      have D := D.ext E_b
      refine Ow.astore X hx (pc := 92) #[_, _, _, _, _, _, _, _, _, _, _, _] (hb hby at_92) rfl rfl ?_
      refine Ow.iloadN X hx (pc := 94) (hb hby at_94) rfl ?_
      refine Ow.if_le X hx (pc := 95) (pc' := 106) (hb hby at_95) (by decide) (by decide) (fun q => absurd (by decide) q) (fun h95 => ?_)
      refine Ow.aload X hx (pc := 98) (hb hby at_98) rfl rfl ?_
      refine Ow.iconst X hx (pc := 100) (0) (hb hby at_100) (by decide) ?_
      refine Ow.aload X hx (pc := 101) (hb hby at_101) rfl rfl ?_
      refine Ow.iconst X hx (pc := 103) (0) (hb hby at_103) (by decide) ?_
      refine Ow.caloadL X hx D.hZ eT B_cA 0 (.int c0) (by decide) (by decide) rfl (pc := 104) (hb hby at_104) ?_
      refine Ow.castoreL X hx D.hZ eT B_b 0 [_, _] (by decide) (by decide) rfl rfl (pc := 105) (hb hby at_105) ?_
      intro T h_105 X eT W_105 B_b
      rw [h8n c0 (by simp)] at B_b W_105
      have S := S.wr W_105
      have Sf := Sf.wr W_105
      have So := So.wr W_105
      have A_om := A_om.wr W_105
      have V_om := V_om.other W_105 (Or.inl ne_om_b)
      have B_cA := B_cA.other W_105 ne_cA_b
      have S_tmp := S_b
      have S_cA := D.safeWr W_105 S_tmp S_cA
      have S_b := D.safeWr W_105 S_tmp S_b
      have D := D.wr W_105 S_tmp
      have F := F.wr W_105 (Or.inr l_b)
      refine Ow.iloadN X hx (pc := 106) (hb hby at_106) rfl ?_
      refine Ow.iconst X hx (pc := 107) (1) (hb hby at_107) (by decide) ?_
      refine Ow.icmp_le X hx (pc := 108) (pc' := 119) (hb hby at_108) (by decide) (by decide) (fun q => absurd (by decide) q) (fun h108 => ?_)
      refine Ow.aload X hx (pc := 111) (hb hby at_111) rfl rfl ?_
      refine Ow.iconst X hx (pc := 113) (1) (hb hby at_113) (by decide) ?_
      refine Ow.aload X hx (pc := 114) (hb hby at_114) rfl rfl ?_
      refine Ow.iconst X hx (pc := 116) (1) (hb hby at_116) (by decide) ?_
      refine Ow.caloadL X hx D.hZ eT B_cA 1 (.int c1) (by decide) (by decide) rfl (pc := 117) (hb hby at_117) ?_
      refine Ow.castoreL X hx D.hZ eT B_b 1 [_, _] (by decide) (by decide) rfl rfl (pc := 118) (hb hby at_118) ?_
      intro T h_118 X eT W_118 B_b
      rw [h8n c1 (by simp)] at B_b W_118
      have S := S.wr W_118
      have Sf := Sf.wr W_118
      have So := So.wr W_118
      have A_om := A_om.wr W_118
      have V_om := V_om.other W_118 (Or.inl ne_om_b)
      have B_cA := B_cA.other W_118 ne_cA_b
      have S_tmp := S_b
      have S_cA := D.safeWr W_118 S_tmp S_cA
      have S_b := D.safeWr W_118 S_tmp S_b
      have D := D.wr W_118 S_tmp
      have F := F.wr W_118 (Or.inr l_b)
      refine Ow.iloadN X hx (pc := 119) (hb hby at_119) rfl ?_
      refine Ow.iconst X hx (pc := 120) (2) (hb hby at_120) (by decide) ?_
      refine Ow.icmp_le X hx (pc := 121) (pc' := 132) (hb hby at_121) (by decide) (by decide) (fun h121 => ?_) (fun q => absurd q (by decide))
      refine Ow.iloadN X hx (pc := 132) (hb hby at_132) rfl ?_
      refine Ow.iconst X hx (pc := 133) (3) (hb hby at_133) (by decide) ?_
      refine Ow.icmp_le X hx (pc := 134) (pc' := 145) (hb hby at_134) (by decide) (by decide) (fun h134 => ?_) (fun q => absurd q (by decide))
      refine Ow.iloadN X hx (pc := 145) (hb hby at_145) rfl ?_
      refine Ow.iconst X hx (pc := 146) (4) (hb hby at_146) (by decide) ?_
      refine Ow.icmp_le X hx (pc := 147) (pc' := 158) (hb hby at_147) (by decide) (by decide) (fun h147 => ?_) (fun q => absurd q (by decide))
      refine Ow.iloadN X hx (pc := 158) (hb hby at_158) rfl ?_
      refine Ow.iconst X hx (pc := 159) (5) (hb hby at_159) (by decide) ?_
      refine Ow.icmp_le X hx (pc := 160) (pc' := 171) (hb hby at_160) (by decide) (by decide) (fun h160 => ?_) (fun q => absurd q (by decide))
      refine Ow.new_ X hx D.hZ hown (ww hw 5 rfl) (ww hw 6 rfl) (ww hw 7 rfl) eT (pc := 171) (hb hby at_171) (by decide) (by decide) ?_
      intro T h_x x ha_x X eT E_x A_x D_x U_x
      have l_x : h0.size ≤ x := by rw [ha_x]; exact F.size
      have ne_om_x : om ≠ x := by rw [ha_x]; exact Nat.ne_of_lt A_om.lt
      have ne_cA_x : cA ≠ x := by rw [ha_x]; exact Nat.ne_of_lt B_cA.lt
      have ne_b_x : b ≠ x := by rw [ha_x]; exact Nat.ne_of_lt B_b.lt
      have S_x := D.safeNew E_x
      rw [← ha_x] at S_x
      have S := S.ext E_x
      have Sf := Sf.ext E_x
      have So := So.ext E_x
      have A_om := A_om.ext E_x
      have V_om := V_om.ext E_x
      have B_cA := B_cA.ext E_x
      have B_b := B_b.ext E_x
      have S_cA := D.safeExt E_x S_cA
      have S_b := D.safeExt E_x S_b
      have F := F.ext E_x
      have D := D.ext E_x
      have V0 := D_x (Or.inr (ww hw 20 rfl)) (ty := .array .byte) (by decide)
      have C0 := D_x (Or.inr (ww hw 21 rfl)) (ty := .byte) (by decide)
      refine Ow.dup X hx (pc := 174) (hb hby at_174) rfl ?_
      refine Ow.aload X hx (pc := 175) (hb hby at_175) rfl rfl ?_
      have H8 : ∀ c ∈ [c0, c1], ∃ k : Fin 256, c = Int32.ofNat k.val := fun c hc => h8 c (List.mem_of_mem_take (i := 2) hc)
      refine strLat X hx D.hZ hw eT hown (ww hw 8 rfl) (cs := [c0, c1]) A_x V0 C0 B_b S hz 2 rfl (by decide) (by decide) H8 (by rw [hml]; rfl) (pc := 177) (hb hby at_177) rfl rfl (by decide) (by decide) ?_
      intro T L kb_x X F2 St_x
      have D := D.keep F2.1 (fun y hy => by cases List.mem_singleton.mp hy; exact S_x)
      have F := F.call F2 (fun y hy => by cases List.mem_singleton.mp hy; exact Or.inr l_x)
      have S := Ow.staKeep S F2.1 (fun y hy => by cases List.mem_singleton.mp hy; exact Ow.Exa.plain A_x)
      have Sf := Ow.staKeep Sf F2.1 (fun y hy => by cases List.mem_singleton.mp hy; exact Ow.Exa.plain A_x)
      have So := Ow.staKeep So F2.1 (fun y hy => by cases List.mem_singleton.mp hy; exact Ow.Exa.plain A_x)
      have A_om := A_om.keep F2.1
      have V_om := V_om.keep F2.1 (Ow.nin1 ne_om_x)
      have B_b := B_b.keep F2.1 (Ow.nin1 ne_b_x)
      exact tail [c0, c1] _ T _ x _ _ b _ cA _ (Nat.le_of_ble_eq_true rfl) H8 (own_more X (by decide) (by decide)) rfl D hown F S Sf So A_om V_om B_b St_x
    · refine Ow.iloadN X hx (pc := 89) (hb hby at_89) rfl ?_
      refine Ow.newarrayL X hx D.hZ (ww hw 0 rfl) eT 3 (vs := [_, _, _]) rfl (pc := 90) (hb hby at_90) (by decide) (by decide) (by decide) (by decide) (by decide) ?_
      intro T h_b k_b b ha_b X eT E_b B_b
      have l_b : h0.size ≤ b := by rw [ha_b]; exact F.size
      have ne_om_b : om ≠ b := by rw [ha_b]; exact Nat.ne_of_lt A_om.lt
      have ne_cA_b : cA ≠ b := by rw [ha_b]; exact Nat.ne_of_lt B_cA.lt
      have S_b := D.safeNew E_b
      rw [← ha_b] at S_b
      have S := S.ext E_b
      have Sf := Sf.ext E_b
      have So := So.ext E_b
      have A_om := A_om.ext E_b
      have V_om := V_om.ext E_b
      have B_cA := B_cA.ext E_b
      have S_cA := D.safeExt E_b S_cA
      have F := F.ext E_b
      have D := D.ext E_b
      refine Ow.astore X hx (pc := 92) #[_, _, _, _, _, _, _, _, _, _, _, _] (hb hby at_92) rfl rfl ?_
      refine Ow.iloadN X hx (pc := 94) (hb hby at_94) rfl ?_
      refine Ow.if_le X hx (pc := 95) (pc' := 106) (hb hby at_95) (by decide) (by decide) (fun q => absurd (by decide) q) (fun h95 => ?_)
      refine Ow.aload X hx (pc := 98) (hb hby at_98) rfl rfl ?_
      refine Ow.iconst X hx (pc := 100) (0) (hb hby at_100) (by decide) ?_
      refine Ow.aload X hx (pc := 101) (hb hby at_101) rfl rfl ?_
      refine Ow.iconst X hx (pc := 103) (0) (hb hby at_103) (by decide) ?_
      refine Ow.caloadL X hx D.hZ eT B_cA 0 (.int c0) (by decide) (by decide) rfl (pc := 104) (hb hby at_104) ?_
      refine Ow.castoreL X hx D.hZ eT B_b 0 [_, _, _] (by decide) (by decide) rfl rfl (pc := 105) (hb hby at_105) ?_
      intro T h_105 X eT W_105 B_b
      rw [h8n c0 (by simp)] at B_b W_105
      have S := S.wr W_105
      have Sf := Sf.wr W_105
      have So := So.wr W_105
      have A_om := A_om.wr W_105
      have V_om := V_om.other W_105 (Or.inl ne_om_b)
      have B_cA := B_cA.other W_105 ne_cA_b
      have S_tmp := S_b
      have S_cA := D.safeWr W_105 S_tmp S_cA
      have S_b := D.safeWr W_105 S_tmp S_b
      have D := D.wr W_105 S_tmp
      have F := F.wr W_105 (Or.inr l_b)
      refine Ow.iloadN X hx (pc := 106) (hb hby at_106) rfl ?_
      refine Ow.iconst X hx (pc := 107) (1) (hb hby at_107) (by decide) ?_
      refine Ow.icmp_le X hx (pc := 108) (pc' := 119) (hb hby at_108) (by decide) (by decide) (fun q => absurd (by decide) q) (fun h108 => ?_)
      refine Ow.aload X hx (pc := 111) (hb hby at_111) rfl rfl ?_
      refine Ow.iconst X hx (pc := 113) (1) (hb hby at_113) (by decide) ?_
      refine Ow.aload X hx (pc := 114) (hb hby at_114) rfl rfl ?_
      refine Ow.iconst X hx (pc := 116) (1) (hb hby at_116) (by decide) ?_
      refine Ow.caloadL X hx D.hZ eT B_cA 1 (.int c1) (by decide) (by decide) rfl (pc := 117) (hb hby at_117) ?_
      refine Ow.castoreL X hx D.hZ eT B_b 1 [_, _, _] (by decide) (by decide) rfl rfl (pc := 118) (hb hby at_118) ?_
      intro T h_118 X eT W_118 B_b
      rw [h8n c1 (by simp)] at B_b W_118
      have S := S.wr W_118
      have Sf := Sf.wr W_118
      have So := So.wr W_118
      have A_om := A_om.wr W_118
      have V_om := V_om.other W_118 (Or.inl ne_om_b)
      have B_cA := B_cA.other W_118 ne_cA_b
      have S_tmp := S_b
      have S_cA := D.safeWr W_118 S_tmp S_cA
      have S_b := D.safeWr W_118 S_tmp S_b
      have D := D.wr W_118 S_tmp
      have F := F.wr W_118 (Or.inr l_b)
      refine Ow.iloadN X hx (pc := 119) (hb hby at_119) rfl ?_
      refine Ow.iconst X hx (pc := 120) (2) (hb hby at_120) (by decide) ?_
      refine Ow.icmp_le X hx (pc := 121) (pc' := 132) (hb hby at_121) (by decide) (by decide) (fun q => absurd (by decide) q) (fun h121 => ?_)
      refine Ow.aload X hx (pc := 124) (hb hby at_124) rfl rfl ?_
      refine Ow.iconst X hx (pc := 126) (2) (hb hby at_126) (by decide) ?_
      refine Ow.aload X hx (pc := 127) (hb hby at_127) rfl rfl ?_
      refine Ow.iconst X hx (pc := 129) (2) (hb hby at_129) (by decide) ?_
      refine Ow.caloadL X hx D.hZ eT B_cA 2 (.int c2) (by decide) (by decide) rfl (pc := 130) (hb hby at_130) ?_
      refine Ow.castoreL X hx D.hZ eT B_b 2 [_, _, _] (by decide) (by decide) rfl rfl (pc := 131) (hb hby at_131) ?_
      intro T h_131 X eT W_131 B_b
      rw [h8n c2 (by simp)] at B_b W_131
      have S := S.wr W_131
      have Sf := Sf.wr W_131
      have So := So.wr W_131
      have A_om := A_om.wr W_131
      have V_om := V_om.other W_131 (Or.inl ne_om_b)
      have B_cA := B_cA.other W_131 ne_cA_b
      have S_tmp := S_b
      have S_cA := D.safeWr W_131 S_tmp S_cA
      have S_b := D.safeWr W_131 S_tmp S_b
      have D := D.wr W_131 S_tmp
      have F := F.wr W_131 (Or.inr l_b)
      refine Ow.iloadN X hx (pc := 132) (hb hby at_132) rfl ?_
      refine Ow.iconst X hx (pc := 133) (3) (hb hby at_133) (by decide) ?_
      refine Ow.icmp_le X hx (pc := 134) (pc' := 145) (hb hby at_134) (by decide) (by decide) (fun h134 => ?_) (fun q => absurd q (by decide))
      refine Ow.iloadN X hx (pc := 145) (hb hby at_145) rfl ?_
      refine Ow.iconst X hx (pc := 146) (4) (hb hby at_146) (by decide) ?_
      refine Ow.icmp_le X hx (pc := 147) (pc' := 158) (hb hby at_147) (by decide) (by decide) (fun h147 => ?_) (fun q => absurd q (by decide))
      refine Ow.iloadN X hx (pc := 158) (hb hby at_158) rfl ?_
      refine Ow.iconst X hx (pc := 159) (5) (hb hby at_159) (by decide) ?_
      refine Ow.icmp_le X hx (pc := 160) (pc' := 171) (hb hby at_160) (by decide) (by decide) (fun h160 => ?_) (fun q => absurd q (by decide))
      refine Ow.new_ X hx D.hZ hown (ww hw 5 rfl) (ww hw 6 rfl) (ww hw 7 rfl) eT (pc := 171) (hb hby at_171) (by decide) (by decide) ?_
      intro T h_x x ha_x X eT E_x A_x D_x U_x
      have l_x : h0.size ≤ x := by rw [ha_x]; exact F.size
      have ne_om_x : om ≠ x := by rw [ha_x]; exact Nat.ne_of_lt A_om.lt
      have ne_cA_x : cA ≠ x := by rw [ha_x]; exact Nat.ne_of_lt B_cA.lt
      have ne_b_x : b ≠ x := by rw [ha_x]; exact Nat.ne_of_lt B_b.lt
      have S_x := D.safeNew E_x
      rw [← ha_x] at S_x
      have S := S.ext E_x
      have Sf := Sf.ext E_x
      have So := So.ext E_x
      have A_om := A_om.ext E_x
      have V_om := V_om.ext E_x
      have B_cA := B_cA.ext E_x
      have B_b := B_b.ext E_x
      have S_cA := D.safeExt E_x S_cA
      have S_b := D.safeExt E_x S_b
      have F := F.ext E_x
      have D := D.ext E_x
      have V0 := D_x (Or.inr (ww hw 20 rfl)) (ty := .array .byte) (by decide)
      have C0 := D_x (Or.inr (ww hw 21 rfl)) (ty := .byte) (by decide)
      refine Ow.dup X hx (pc := 174) (hb hby at_174) rfl ?_
      refine Ow.aload X hx (pc := 175) (hb hby at_175) rfl rfl ?_
      have H8 : ∀ c ∈ [c0, c1, c2], ∃ k : Fin 256, c = Int32.ofNat k.val := fun c hc => h8 c (List.mem_of_mem_take (i := 3) hc)
      refine strLat X hx D.hZ hw eT hown (ww hw 8 rfl) (cs := [c0, c1, c2]) A_x V0 C0 B_b S hz 3 rfl (by decide) (by decide) H8 (by rw [hml]; rfl) (pc := 177) (hb hby at_177) rfl rfl (by decide) (by decide) ?_
      intro T L kb_x X F2 St_x
      have D := D.keep F2.1 (fun y hy => by cases List.mem_singleton.mp hy; exact S_x)
      have F := F.call F2 (fun y hy => by cases List.mem_singleton.mp hy; exact Or.inr l_x)
      have S := Ow.staKeep S F2.1 (fun y hy => by cases List.mem_singleton.mp hy; exact Ow.Exa.plain A_x)
      have Sf := Ow.staKeep Sf F2.1 (fun y hy => by cases List.mem_singleton.mp hy; exact Ow.Exa.plain A_x)
      have So := Ow.staKeep So F2.1 (fun y hy => by cases List.mem_singleton.mp hy; exact Ow.Exa.plain A_x)
      have A_om := A_om.keep F2.1
      have V_om := V_om.keep F2.1 (Ow.nin1 ne_om_x)
      have B_b := B_b.keep F2.1 (Ow.nin1 ne_b_x)
      exact tail [c0, c1, c2] _ T _ x _ _ b _ cA _ (Nat.le_of_ble_eq_true rfl) H8 (own_more X (by decide) (by decide)) rfl D hown F S Sf So A_om V_om B_b St_x
    · refine Ow.iloadN X hx (pc := 89) (hb hby at_89) rfl ?_
      refine Ow.newarrayL X hx D.hZ (ww hw 0 rfl) eT 4 (vs := [_, _, _, _]) rfl (pc := 90) (hb hby at_90) (by decide) (by decide) (by decide) (by decide) (by decide) ?_
      intro T h_b k_b b ha_b X eT E_b B_b
      have l_b : h0.size ≤ b := by rw [ha_b]; exact F.size
      have ne_om_b : om ≠ b := by rw [ha_b]; exact Nat.ne_of_lt A_om.lt
      have ne_cA_b : cA ≠ b := by rw [ha_b]; exact Nat.ne_of_lt B_cA.lt
      have S_b := D.safeNew E_b
      rw [← ha_b] at S_b
      have S := S.ext E_b
      have Sf := Sf.ext E_b
      have So := So.ext E_b
      have A_om := A_om.ext E_b
      have V_om := V_om.ext E_b
      have B_cA := B_cA.ext E_b
      have S_cA := D.safeExt E_b S_cA
      have F := F.ext E_b
      have D := D.ext E_b
      refine Ow.astore X hx (pc := 92) #[_, _, _, _, _, _, _, _, _, _, _, _] (hb hby at_92) rfl rfl ?_
      refine Ow.iloadN X hx (pc := 94) (hb hby at_94) rfl ?_
      refine Ow.if_le X hx (pc := 95) (pc' := 106) (hb hby at_95) (by decide) (by decide) (fun q => absurd (by decide) q) (fun h95 => ?_)
      refine Ow.aload X hx (pc := 98) (hb hby at_98) rfl rfl ?_
      refine Ow.iconst X hx (pc := 100) (0) (hb hby at_100) (by decide) ?_
      refine Ow.aload X hx (pc := 101) (hb hby at_101) rfl rfl ?_
      refine Ow.iconst X hx (pc := 103) (0) (hb hby at_103) (by decide) ?_
      refine Ow.caloadL X hx D.hZ eT B_cA 0 (.int c0) (by decide) (by decide) rfl (pc := 104) (hb hby at_104) ?_
      refine Ow.castoreL X hx D.hZ eT B_b 0 [_, _, _, _] (by decide) (by decide) rfl rfl (pc := 105) (hb hby at_105) ?_
      intro T h_105 X eT W_105 B_b
      rw [h8n c0 (by simp)] at B_b W_105
      have S := S.wr W_105
      have Sf := Sf.wr W_105
      have So := So.wr W_105
      have A_om := A_om.wr W_105
      have V_om := V_om.other W_105 (Or.inl ne_om_b)
      have B_cA := B_cA.other W_105 ne_cA_b
      have S_tmp := S_b
      have S_cA := D.safeWr W_105 S_tmp S_cA
      have S_b := D.safeWr W_105 S_tmp S_b
      have D := D.wr W_105 S_tmp
      have F := F.wr W_105 (Or.inr l_b)
      refine Ow.iloadN X hx (pc := 106) (hb hby at_106) rfl ?_
      refine Ow.iconst X hx (pc := 107) (1) (hb hby at_107) (by decide) ?_
      refine Ow.icmp_le X hx (pc := 108) (pc' := 119) (hb hby at_108) (by decide) (by decide) (fun q => absurd (by decide) q) (fun h108 => ?_)
      refine Ow.aload X hx (pc := 111) (hb hby at_111) rfl rfl ?_
      refine Ow.iconst X hx (pc := 113) (1) (hb hby at_113) (by decide) ?_
      refine Ow.aload X hx (pc := 114) (hb hby at_114) rfl rfl ?_
      refine Ow.iconst X hx (pc := 116) (1) (hb hby at_116) (by decide) ?_
      refine Ow.caloadL X hx D.hZ eT B_cA 1 (.int c1) (by decide) (by decide) rfl (pc := 117) (hb hby at_117) ?_
      refine Ow.castoreL X hx D.hZ eT B_b 1 [_, _, _, _] (by decide) (by decide) rfl rfl (pc := 118) (hb hby at_118) ?_
      intro T h_118 X eT W_118 B_b
      rw [h8n c1 (by simp)] at B_b W_118
      have S := S.wr W_118
      have Sf := Sf.wr W_118
      have So := So.wr W_118
      have A_om := A_om.wr W_118
      have V_om := V_om.other W_118 (Or.inl ne_om_b)
      have B_cA := B_cA.other W_118 ne_cA_b
      have S_tmp := S_b
      have S_cA := D.safeWr W_118 S_tmp S_cA
      have S_b := D.safeWr W_118 S_tmp S_b
      have D := D.wr W_118 S_tmp
      have F := F.wr W_118 (Or.inr l_b)
      refine Ow.iloadN X hx (pc := 119) (hb hby at_119) rfl ?_
      refine Ow.iconst X hx (pc := 120) (2) (hb hby at_120) (by decide) ?_
      refine Ow.icmp_le X hx (pc := 121) (pc' := 132) (hb hby at_121) (by decide) (by decide) (fun q => absurd (by decide) q) (fun h121 => ?_)
      refine Ow.aload X hx (pc := 124) (hb hby at_124) rfl rfl ?_
      refine Ow.iconst X hx (pc := 126) (2) (hb hby at_126) (by decide) ?_
      refine Ow.aload X hx (pc := 127) (hb hby at_127) rfl rfl ?_
      refine Ow.iconst X hx (pc := 129) (2) (hb hby at_129) (by decide) ?_
      refine Ow.caloadL X hx D.hZ eT B_cA 2 (.int c2) (by decide) (by decide) rfl (pc := 130) (hb hby at_130) ?_
      refine Ow.castoreL X hx D.hZ eT B_b 2 [_, _, _, _] (by decide) (by decide) rfl rfl (pc := 131) (hb hby at_131) ?_
      intro T h_131 X eT W_131 B_b
      rw [h8n c2 (by simp)] at B_b W_131
      have S := S.wr W_131
      have Sf := Sf.wr W_131
      have So := So.wr W_131
      have A_om := A_om.wr W_131
      have V_om := V_om.other W_131 (Or.inl ne_om_b)
      have B_cA := B_cA.other W_131 ne_cA_b
      have S_tmp := S_b
      have S_cA := D.safeWr W_131 S_tmp S_cA
      have S_b := D.safeWr W_131 S_tmp S_b
      have D := D.wr W_131 S_tmp
      have F := F.wr W_131 (Or.inr l_b)
      refine Ow.iloadN X hx (pc := 132) (hb hby at_132) rfl ?_
      refine Ow.iconst X hx (pc := 133) (3) (hb hby at_133) (by decide) ?_
      refine Ow.icmp_le X hx (pc := 134) (pc' := 145) (hb hby at_134) (by decide) (by decide) (fun q => absurd (by decide) q) (fun h134 => ?_)
      refine Ow.aload X hx (pc := 137) (hb hby at_137) rfl rfl ?_
      refine Ow.iconst X hx (pc := 139) (3) (hb hby at_139) (by decide) ?_
      refine Ow.aload X hx (pc := 140) (hb hby at_140) rfl rfl ?_
      refine Ow.iconst X hx (pc := 142) (3) (hb hby at_142) (by decide) ?_
      refine Ow.caloadL X hx D.hZ eT B_cA 3 (.int c3) (by decide) (by decide) rfl (pc := 143) (hb hby at_143) ?_
      refine Ow.castoreL X hx D.hZ eT B_b 3 [_, _, _, _] (by decide) (by decide) rfl rfl (pc := 144) (hb hby at_144) ?_
      intro T h_144 X eT W_144 B_b
      rw [h8n c3 (by simp)] at B_b W_144
      have S := S.wr W_144
      have Sf := Sf.wr W_144
      have So := So.wr W_144
      have A_om := A_om.wr W_144
      have V_om := V_om.other W_144 (Or.inl ne_om_b)
      have B_cA := B_cA.other W_144 ne_cA_b
      have S_tmp := S_b
      have S_cA := D.safeWr W_144 S_tmp S_cA
      have S_b := D.safeWr W_144 S_tmp S_b
      have D := D.wr W_144 S_tmp
      have F := F.wr W_144 (Or.inr l_b)
      refine Ow.iloadN X hx (pc := 145) (hb hby at_145) rfl ?_
      refine Ow.iconst X hx (pc := 146) (4) (hb hby at_146) (by decide) ?_
      refine Ow.icmp_le X hx (pc := 147) (pc' := 158) (hb hby at_147) (by decide) (by decide) (fun h147 => ?_) (fun q => absurd q (by decide))
      refine Ow.iloadN X hx (pc := 158) (hb hby at_158) rfl ?_
      refine Ow.iconst X hx (pc := 159) (5) (hb hby at_159) (by decide) ?_
      refine Ow.icmp_le X hx (pc := 160) (pc' := 171) (hb hby at_160) (by decide) (by decide) (fun h160 => ?_) (fun q => absurd q (by decide))
      refine Ow.new_ X hx D.hZ hown (ww hw 5 rfl) (ww hw 6 rfl) (ww hw 7 rfl) eT (pc := 171) (hb hby at_171) (by decide) (by decide) ?_
      intro T h_x x ha_x X eT E_x A_x D_x U_x
      have l_x : h0.size ≤ x := by rw [ha_x]; exact F.size
      have ne_om_x : om ≠ x := by rw [ha_x]; exact Nat.ne_of_lt A_om.lt
      have ne_cA_x : cA ≠ x := by rw [ha_x]; exact Nat.ne_of_lt B_cA.lt
      have ne_b_x : b ≠ x := by rw [ha_x]; exact Nat.ne_of_lt B_b.lt
      have S_x := D.safeNew E_x
      rw [← ha_x] at S_x
      have S := S.ext E_x
      have Sf := Sf.ext E_x
      have So := So.ext E_x
      have A_om := A_om.ext E_x
      have V_om := V_om.ext E_x
      have B_cA := B_cA.ext E_x
      have B_b := B_b.ext E_x
      have S_cA := D.safeExt E_x S_cA
      have S_b := D.safeExt E_x S_b
      have F := F.ext E_x
      have D := D.ext E_x
      have V0 := D_x (Or.inr (ww hw 20 rfl)) (ty := .array .byte) (by decide)
      have C0 := D_x (Or.inr (ww hw 21 rfl)) (ty := .byte) (by decide)
      refine Ow.dup X hx (pc := 174) (hb hby at_174) rfl ?_
      refine Ow.aload X hx (pc := 175) (hb hby at_175) rfl rfl ?_
      have H8 : ∀ c ∈ [c0, c1, c2, c3], ∃ k : Fin 256, c = Int32.ofNat k.val := fun c hc => h8 c (List.mem_of_mem_take (i := 4) hc)
      refine strLat X hx D.hZ hw eT hown (ww hw 8 rfl) (cs := [c0, c1, c2, c3]) A_x V0 C0 B_b S hz 4 rfl (by decide) (by decide) H8 (by rw [hml]; rfl) (pc := 177) (hb hby at_177) rfl rfl (by decide) (by decide) ?_
      intro T L kb_x X F2 St_x
      have D := D.keep F2.1 (fun y hy => by cases List.mem_singleton.mp hy; exact S_x)
      have F := F.call F2 (fun y hy => by cases List.mem_singleton.mp hy; exact Or.inr l_x)
      have S := Ow.staKeep S F2.1 (fun y hy => by cases List.mem_singleton.mp hy; exact Ow.Exa.plain A_x)
      have Sf := Ow.staKeep Sf F2.1 (fun y hy => by cases List.mem_singleton.mp hy; exact Ow.Exa.plain A_x)
      have So := Ow.staKeep So F2.1 (fun y hy => by cases List.mem_singleton.mp hy; exact Ow.Exa.plain A_x)
      have A_om := A_om.keep F2.1
      have V_om := V_om.keep F2.1 (Ow.nin1 ne_om_x)
      have B_b := B_b.keep F2.1 (Ow.nin1 ne_b_x)
      exact tail [c0, c1, c2, c3] _ T _ x _ _ b _ cA _ (Nat.le_of_ble_eq_true rfl) H8 (own_more X (by decide) (by decide)) rfl D hown F S Sf So A_om V_om B_b St_x
    · refine Ow.iloadN X hx (pc := 89) (hb hby at_89) rfl ?_
      refine Ow.newarrayL X hx D.hZ (ww hw 0 rfl) eT 5 (vs := [_, _, _, _, _]) rfl (pc := 90) (hb hby at_90) (by decide) (by decide) (by decide) (by decide) (by decide) ?_
      intro T h_b k_b b ha_b X eT E_b B_b
      have l_b : h0.size ≤ b := by rw [ha_b]; exact F.size
      have ne_om_b : om ≠ b := by rw [ha_b]; exact Nat.ne_of_lt A_om.lt
      have ne_cA_b : cA ≠ b := by rw [ha_b]; exact Nat.ne_of_lt B_cA.lt
      have S_b := D.safeNew E_b
      rw [← ha_b] at S_b
      have S := S.ext E_b
      have Sf := Sf.ext E_b
      have So := So.ext E_b
      have A_om := A_om.ext E_b
      have V_om := V_om.ext E_b
      have B_cA := B_cA.ext E_b
      have S_cA := D.safeExt E_b S_cA
      have F := F.ext E_b
      have D := D.ext E_b
      refine Ow.astore X hx (pc := 92) #[_, _, _, _, _, _, _, _, _, _, _, _] (hb hby at_92) rfl rfl ?_
      refine Ow.iloadN X hx (pc := 94) (hb hby at_94) rfl ?_
      refine Ow.if_le X hx (pc := 95) (pc' := 106) (hb hby at_95) (by decide) (by decide) (fun q => absurd (by decide) q) (fun h95 => ?_)
      refine Ow.aload X hx (pc := 98) (hb hby at_98) rfl rfl ?_
      refine Ow.iconst X hx (pc := 100) (0) (hb hby at_100) (by decide) ?_
      refine Ow.aload X hx (pc := 101) (hb hby at_101) rfl rfl ?_
      refine Ow.iconst X hx (pc := 103) (0) (hb hby at_103) (by decide) ?_
      refine Ow.caloadL X hx D.hZ eT B_cA 0 (.int c0) (by decide) (by decide) rfl (pc := 104) (hb hby at_104) ?_
      refine Ow.castoreL X hx D.hZ eT B_b 0 [_, _, _, _, _] (by decide) (by decide) rfl rfl (pc := 105) (hb hby at_105) ?_
      intro T h_105 X eT W_105 B_b
      rw [h8n c0 (by simp)] at B_b W_105
      have S := S.wr W_105
      have Sf := Sf.wr W_105
      have So := So.wr W_105
      have A_om := A_om.wr W_105
      have V_om := V_om.other W_105 (Or.inl ne_om_b)
      have B_cA := B_cA.other W_105 ne_cA_b
      have S_tmp := S_b
      have S_cA := D.safeWr W_105 S_tmp S_cA
      have S_b := D.safeWr W_105 S_tmp S_b
      have D := D.wr W_105 S_tmp
      have F := F.wr W_105 (Or.inr l_b)
      refine Ow.iloadN X hx (pc := 106) (hb hby at_106) rfl ?_
      refine Ow.iconst X hx (pc := 107) (1) (hb hby at_107) (by decide) ?_
      refine Ow.icmp_le X hx (pc := 108) (pc' := 119) (hb hby at_108) (by decide) (by decide) (fun q => absurd (by decide) q) (fun h108 => ?_)
      refine Ow.aload X hx (pc := 111) (hb hby at_111) rfl rfl ?_
      refine Ow.iconst X hx (pc := 113) (1) (hb hby at_113) (by decide) ?_
      refine Ow.aload X hx (pc := 114) (hb hby at_114) rfl rfl ?_
      refine Ow.iconst X hx (pc := 116) (1) (hb hby at_116) (by decide) ?_
      refine Ow.caloadL X hx D.hZ eT B_cA 1 (.int c1) (by decide) (by decide) rfl (pc := 117) (hb hby at_117) ?_
      refine Ow.castoreL X hx D.hZ eT B_b 1 [_, _, _, _, _] (by decide) (by decide) rfl rfl (pc := 118) (hb hby at_118) ?_
      intro T h_118 X eT W_118 B_b
      rw [h8n c1 (by simp)] at B_b W_118
      have S := S.wr W_118
      have Sf := Sf.wr W_118
      have So := So.wr W_118
      have A_om := A_om.wr W_118
      have V_om := V_om.other W_118 (Or.inl ne_om_b)
      have B_cA := B_cA.other W_118 ne_cA_b
      have S_tmp := S_b
      have S_cA := D.safeWr W_118 S_tmp S_cA
      have S_b := D.safeWr W_118 S_tmp S_b
      have D := D.wr W_118 S_tmp
      have F := F.wr W_118 (Or.inr l_b)
      refine Ow.iloadN X hx (pc := 119) (hb hby at_119) rfl ?_
      refine Ow.iconst X hx (pc := 120) (2) (hb hby at_120) (by decide) ?_
      refine Ow.icmp_le X hx (pc := 121) (pc' := 132) (hb hby at_121) (by decide) (by decide) (fun q => absurd (by decide) q) (fun h121 => ?_)
      refine Ow.aload X hx (pc := 124) (hb hby at_124) rfl rfl ?_
      refine Ow.iconst X hx (pc := 126) (2) (hb hby at_126) (by decide) ?_
      refine Ow.aload X hx (pc := 127) (hb hby at_127) rfl rfl ?_
      refine Ow.iconst X hx (pc := 129) (2) (hb hby at_129) (by decide) ?_
      refine Ow.caloadL X hx D.hZ eT B_cA 2 (.int c2) (by decide) (by decide) rfl (pc := 130) (hb hby at_130) ?_
      refine Ow.castoreL X hx D.hZ eT B_b 2 [_, _, _, _, _] (by decide) (by decide) rfl rfl (pc := 131) (hb hby at_131) ?_
      intro T h_131 X eT W_131 B_b
      rw [h8n c2 (by simp)] at B_b W_131
      have S := S.wr W_131
      have Sf := Sf.wr W_131
      have So := So.wr W_131
      have A_om := A_om.wr W_131
      have V_om := V_om.other W_131 (Or.inl ne_om_b)
      have B_cA := B_cA.other W_131 ne_cA_b
      have S_tmp := S_b
      have S_cA := D.safeWr W_131 S_tmp S_cA
      have S_b := D.safeWr W_131 S_tmp S_b
      have D := D.wr W_131 S_tmp
      have F := F.wr W_131 (Or.inr l_b)
      refine Ow.iloadN X hx (pc := 132) (hb hby at_132) rfl ?_
      refine Ow.iconst X hx (pc := 133) (3) (hb hby at_133) (by decide) ?_
      refine Ow.icmp_le X hx (pc := 134) (pc' := 145) (hb hby at_134) (by decide) (by decide) (fun q => absurd (by decide) q) (fun h134 => ?_)
      refine Ow.aload X hx (pc := 137) (hb hby at_137) rfl rfl ?_
      refine Ow.iconst X hx (pc := 139) (3) (hb hby at_139) (by decide) ?_
      refine Ow.aload X hx (pc := 140) (hb hby at_140) rfl rfl ?_
      refine Ow.iconst X hx (pc := 142) (3) (hb hby at_142) (by decide) ?_
      refine Ow.caloadL X hx D.hZ eT B_cA 3 (.int c3) (by decide) (by decide) rfl (pc := 143) (hb hby at_143) ?_
      refine Ow.castoreL X hx D.hZ eT B_b 3 [_, _, _, _, _] (by decide) (by decide) rfl rfl (pc := 144) (hb hby at_144) ?_
      intro T h_144 X eT W_144 B_b
      rw [h8n c3 (by simp)] at B_b W_144
      have S := S.wr W_144
      have Sf := Sf.wr W_144
      have So := So.wr W_144
      have A_om := A_om.wr W_144
      have V_om := V_om.other W_144 (Or.inl ne_om_b)
      have B_cA := B_cA.other W_144 ne_cA_b
      have S_tmp := S_b
      have S_cA := D.safeWr W_144 S_tmp S_cA
      have S_b := D.safeWr W_144 S_tmp S_b
      have D := D.wr W_144 S_tmp
      have F := F.wr W_144 (Or.inr l_b)
      refine Ow.iloadN X hx (pc := 145) (hb hby at_145) rfl ?_
      refine Ow.iconst X hx (pc := 146) (4) (hb hby at_146) (by decide) ?_
      refine Ow.icmp_le X hx (pc := 147) (pc' := 158) (hb hby at_147) (by decide) (by decide) (fun q => absurd (by decide) q) (fun h147 => ?_)
      refine Ow.aload X hx (pc := 150) (hb hby at_150) rfl rfl ?_
      refine Ow.iconst X hx (pc := 152) (4) (hb hby at_152) (by decide) ?_
      refine Ow.aload X hx (pc := 153) (hb hby at_153) rfl rfl ?_
      refine Ow.iconst X hx (pc := 155) (4) (hb hby at_155) (by decide) ?_
      refine Ow.caloadL X hx D.hZ eT B_cA 4 (.int c4) (by decide) (by decide) rfl (pc := 156) (hb hby at_156) ?_
      refine Ow.castoreL X hx D.hZ eT B_b 4 [_, _, _, _, _] (by decide) (by decide) rfl rfl (pc := 157) (hb hby at_157) ?_
      intro T h_157 X eT W_157 B_b
      rw [h8n c4 (by simp)] at B_b W_157
      have S := S.wr W_157
      have Sf := Sf.wr W_157
      have So := So.wr W_157
      have A_om := A_om.wr W_157
      have V_om := V_om.other W_157 (Or.inl ne_om_b)
      have B_cA := B_cA.other W_157 ne_cA_b
      have S_tmp := S_b
      have S_cA := D.safeWr W_157 S_tmp S_cA
      have S_b := D.safeWr W_157 S_tmp S_b
      have D := D.wr W_157 S_tmp
      have F := F.wr W_157 (Or.inr l_b)
      refine Ow.iloadN X hx (pc := 158) (hb hby at_158) rfl ?_
      refine Ow.iconst X hx (pc := 159) (5) (hb hby at_159) (by decide) ?_
      refine Ow.icmp_le X hx (pc := 160) (pc' := 171) (hb hby at_160) (by decide) (by decide) (fun h160 => ?_) (fun q => absurd q (by decide))
      refine Ow.new_ X hx D.hZ hown (ww hw 5 rfl) (ww hw 6 rfl) (ww hw 7 rfl) eT (pc := 171) (hb hby at_171) (by decide) (by decide) ?_
      intro T h_x x ha_x X eT E_x A_x D_x U_x
      have l_x : h0.size ≤ x := by rw [ha_x]; exact F.size
      have ne_om_x : om ≠ x := by rw [ha_x]; exact Nat.ne_of_lt A_om.lt
      have ne_cA_x : cA ≠ x := by rw [ha_x]; exact Nat.ne_of_lt B_cA.lt
      have ne_b_x : b ≠ x := by rw [ha_x]; exact Nat.ne_of_lt B_b.lt
      have S_x := D.safeNew E_x
      rw [← ha_x] at S_x
      have S := S.ext E_x
      have Sf := Sf.ext E_x
      have So := So.ext E_x
      have A_om := A_om.ext E_x
      have V_om := V_om.ext E_x
      have B_cA := B_cA.ext E_x
      have B_b := B_b.ext E_x
      have S_cA := D.safeExt E_x S_cA
      have S_b := D.safeExt E_x S_b
      have F := F.ext E_x
      have D := D.ext E_x
      have V0 := D_x (Or.inr (ww hw 20 rfl)) (ty := .array .byte) (by decide)
      have C0 := D_x (Or.inr (ww hw 21 rfl)) (ty := .byte) (by decide)
      refine Ow.dup X hx (pc := 174) (hb hby at_174) rfl ?_
      refine Ow.aload X hx (pc := 175) (hb hby at_175) rfl rfl ?_
      have H8 : ∀ c ∈ [c0, c1, c2, c3, c4], ∃ k : Fin 256, c = Int32.ofNat k.val := fun c hc => h8 c (List.mem_of_mem_take (i := 5) hc)
      refine strLat X hx D.hZ hw eT hown (ww hw 8 rfl) (cs := [c0, c1, c2, c3, c4]) A_x V0 C0 B_b S hz 5 rfl (by decide) (by decide) H8 (by rw [hml]; rfl) (pc := 177) (hb hby at_177) rfl rfl (by decide) (by decide) ?_
      intro T L kb_x X F2 St_x
      have D := D.keep F2.1 (fun y hy => by cases List.mem_singleton.mp hy; exact S_x)
      have F := F.call F2 (fun y hy => by cases List.mem_singleton.mp hy; exact Or.inr l_x)
      have S := Ow.staKeep S F2.1 (fun y hy => by cases List.mem_singleton.mp hy; exact Ow.Exa.plain A_x)
      have Sf := Ow.staKeep Sf F2.1 (fun y hy => by cases List.mem_singleton.mp hy; exact Ow.Exa.plain A_x)
      have So := Ow.staKeep So F2.1 (fun y hy => by cases List.mem_singleton.mp hy; exact Ow.Exa.plain A_x)
      have A_om := A_om.keep F2.1
      have V_om := V_om.keep F2.1 (Ow.nin1 ne_om_x)
      have B_b := B_b.keep F2.1 (Ow.nin1 ne_b_x)
      exact tail [c0, c1, c2, c3, c4] _ T _ x _ _ b _ cA _ (Nat.le_of_ble_eq_true rfl) H8 (own_more X (by decide) (by decide)) rfl D hown F S Sf So A_om V_om B_b St_x
    · refine Ow.iloadN X hx (pc := 89) (hb hby at_89) rfl ?_
      refine Ow.newarrayL X hx D.hZ (ww hw 0 rfl) eT 6 (vs := [_, _, _, _, _, _]) rfl (pc := 90) (hb hby at_90) (by decide) (by decide) (by decide) (by decide) (by decide) ?_
      intro T h_b k_b b ha_b X eT E_b B_b
      have l_b : h0.size ≤ b := by rw [ha_b]; exact F.size
      have ne_om_b : om ≠ b := by rw [ha_b]; exact Nat.ne_of_lt A_om.lt
      have ne_cA_b : cA ≠ b := by rw [ha_b]; exact Nat.ne_of_lt B_cA.lt
      have S_b := D.safeNew E_b
      rw [← ha_b] at S_b
      have S := S.ext E_b
      have Sf := Sf.ext E_b
      have So := So.ext E_b
      have A_om := A_om.ext E_b
      have V_om := V_om.ext E_b
      have B_cA := B_cA.ext E_b
      have S_cA := D.safeExt E_b S_cA
      have F := F.ext E_b
      have D := D.ext E_b
      refine Ow.astore X hx (pc := 92) #[_, _, _, _, _, _, _, _, _, _, _, _] (hb hby at_92) rfl rfl ?_
      refine Ow.iloadN X hx (pc := 94) (hb hby at_94) rfl ?_
      refine Ow.if_le X hx (pc := 95) (pc' := 106) (hb hby at_95) (by decide) (by decide) (fun q => absurd (by decide) q) (fun h95 => ?_)
      refine Ow.aload X hx (pc := 98) (hb hby at_98) rfl rfl ?_
      refine Ow.iconst X hx (pc := 100) (0) (hb hby at_100) (by decide) ?_
      refine Ow.aload X hx (pc := 101) (hb hby at_101) rfl rfl ?_
      refine Ow.iconst X hx (pc := 103) (0) (hb hby at_103) (by decide) ?_
      refine Ow.caloadL X hx D.hZ eT B_cA 0 (.int c0) (by decide) (by decide) rfl (pc := 104) (hb hby at_104) ?_
      refine Ow.castoreL X hx D.hZ eT B_b 0 [_, _, _, _, _, _] (by decide) (by decide) rfl rfl (pc := 105) (hb hby at_105) ?_
      intro T h_105 X eT W_105 B_b
      rw [h8n c0 (by simp)] at B_b W_105
      have S := S.wr W_105
      have Sf := Sf.wr W_105
      have So := So.wr W_105
      have A_om := A_om.wr W_105
      have V_om := V_om.other W_105 (Or.inl ne_om_b)
      have B_cA := B_cA.other W_105 ne_cA_b
      have S_tmp := S_b
      have S_cA := D.safeWr W_105 S_tmp S_cA
      have S_b := D.safeWr W_105 S_tmp S_b
      have D := D.wr W_105 S_tmp
      have F := F.wr W_105 (Or.inr l_b)
      refine Ow.iloadN X hx (pc := 106) (hb hby at_106) rfl ?_
      refine Ow.iconst X hx (pc := 107) (1) (hb hby at_107) (by decide) ?_
      refine Ow.icmp_le X hx (pc := 108) (pc' := 119) (hb hby at_108) (by decide) (by decide) (fun q => absurd (by decide) q) (fun h108 => ?_)
      refine Ow.aload X hx (pc := 111) (hb hby at_111) rfl rfl ?_
      refine Ow.iconst X hx (pc := 113) (1) (hb hby at_113) (by decide) ?_
      refine Ow.aload X hx (pc := 114) (hb hby at_114) rfl rfl ?_
      refine Ow.iconst X hx (pc := 116) (1) (hb hby at_116) (by decide) ?_
      refine Ow.caloadL X hx D.hZ eT B_cA 1 (.int c1) (by decide) (by decide) rfl (pc := 117) (hb hby at_117) ?_
      refine Ow.castoreL X hx D.hZ eT B_b 1 [_, _, _, _, _, _] (by decide) (by decide) rfl rfl (pc := 118) (hb hby at_118) ?_
      intro T h_118 X eT W_118 B_b
      rw [h8n c1 (by simp)] at B_b W_118
      have S := S.wr W_118
      have Sf := Sf.wr W_118
      have So := So.wr W_118
      have A_om := A_om.wr W_118
      have V_om := V_om.other W_118 (Or.inl ne_om_b)
      have B_cA := B_cA.other W_118 ne_cA_b
      have S_tmp := S_b
      have S_cA := D.safeWr W_118 S_tmp S_cA
      have S_b := D.safeWr W_118 S_tmp S_b
      have D := D.wr W_118 S_tmp
      have F := F.wr W_118 (Or.inr l_b)
      refine Ow.iloadN X hx (pc := 119) (hb hby at_119) rfl ?_
      refine Ow.iconst X hx (pc := 120) (2) (hb hby at_120) (by decide) ?_
      refine Ow.icmp_le X hx (pc := 121) (pc' := 132) (hb hby at_121) (by decide) (by decide) (fun q => absurd (by decide) q) (fun h121 => ?_)
      refine Ow.aload X hx (pc := 124) (hb hby at_124) rfl rfl ?_
      refine Ow.iconst X hx (pc := 126) (2) (hb hby at_126) (by decide) ?_
      refine Ow.aload X hx (pc := 127) (hb hby at_127) rfl rfl ?_
      refine Ow.iconst X hx (pc := 129) (2) (hb hby at_129) (by decide) ?_
      refine Ow.caloadL X hx D.hZ eT B_cA 2 (.int c2) (by decide) (by decide) rfl (pc := 130) (hb hby at_130) ?_
      refine Ow.castoreL X hx D.hZ eT B_b 2 [_, _, _, _, _, _] (by decide) (by decide) rfl rfl (pc := 131) (hb hby at_131) ?_
      intro T h_131 X eT W_131 B_b
      rw [h8n c2 (by simp)] at B_b W_131
      have S := S.wr W_131
      have Sf := Sf.wr W_131
      have So := So.wr W_131
      have A_om := A_om.wr W_131
      have V_om := V_om.other W_131 (Or.inl ne_om_b)
      have B_cA := B_cA.other W_131 ne_cA_b
      have S_tmp := S_b
      have S_cA := D.safeWr W_131 S_tmp S_cA
      have S_b := D.safeWr W_131 S_tmp S_b
      have D := D.wr W_131 S_tmp
      have F := F.wr W_131 (Or.inr l_b)
      refine Ow.iloadN X hx (pc := 132) (hb hby at_132) rfl ?_
      refine Ow.iconst X hx (pc := 133) (3) (hb hby at_133) (by decide) ?_
      refine Ow.icmp_le X hx (pc := 134) (pc' := 145) (hb hby at_134) (by decide) (by decide) (fun q => absurd (by decide) q) (fun h134 => ?_)
      refine Ow.aload X hx (pc := 137) (hb hby at_137) rfl rfl ?_
      refine Ow.iconst X hx (pc := 139) (3) (hb hby at_139) (by decide) ?_
      refine Ow.aload X hx (pc := 140) (hb hby at_140) rfl rfl ?_
      refine Ow.iconst X hx (pc := 142) (3) (hb hby at_142) (by decide) ?_
      refine Ow.caloadL X hx D.hZ eT B_cA 3 (.int c3) (by decide) (by decide) rfl (pc := 143) (hb hby at_143) ?_
      refine Ow.castoreL X hx D.hZ eT B_b 3 [_, _, _, _, _, _] (by decide) (by decide) rfl rfl (pc := 144) (hb hby at_144) ?_
      intro T h_144 X eT W_144 B_b
      rw [h8n c3 (by simp)] at B_b W_144
      have S := S.wr W_144
      have Sf := Sf.wr W_144
      have So := So.wr W_144
      have A_om := A_om.wr W_144
      have V_om := V_om.other W_144 (Or.inl ne_om_b)
      have B_cA := B_cA.other W_144 ne_cA_b
      have S_tmp := S_b
      have S_cA := D.safeWr W_144 S_tmp S_cA
      have S_b := D.safeWr W_144 S_tmp S_b
      have D := D.wr W_144 S_tmp
      have F := F.wr W_144 (Or.inr l_b)
      refine Ow.iloadN X hx (pc := 145) (hb hby at_145) rfl ?_
      refine Ow.iconst X hx (pc := 146) (4) (hb hby at_146) (by decide) ?_
      refine Ow.icmp_le X hx (pc := 147) (pc' := 158) (hb hby at_147) (by decide) (by decide) (fun q => absurd (by decide) q) (fun h147 => ?_)
      refine Ow.aload X hx (pc := 150) (hb hby at_150) rfl rfl ?_
      refine Ow.iconst X hx (pc := 152) (4) (hb hby at_152) (by decide) ?_
      refine Ow.aload X hx (pc := 153) (hb hby at_153) rfl rfl ?_
      refine Ow.iconst X hx (pc := 155) (4) (hb hby at_155) (by decide) ?_
      refine Ow.caloadL X hx D.hZ eT B_cA 4 (.int c4) (by decide) (by decide) rfl (pc := 156) (hb hby at_156) ?_
      refine Ow.castoreL X hx D.hZ eT B_b 4 [_, _, _, _, _, _] (by decide) (by decide) rfl rfl (pc := 157) (hb hby at_157) ?_
      intro T h_157 X eT W_157 B_b
      rw [h8n c4 (by simp)] at B_b W_157
      have S := S.wr W_157
      have Sf := Sf.wr W_157
      have So := So.wr W_157
      have A_om := A_om.wr W_157
      have V_om := V_om.other W_157 (Or.inl ne_om_b)
      have B_cA := B_cA.other W_157 ne_cA_b
      have S_tmp := S_b
      have S_cA := D.safeWr W_157 S_tmp S_cA
      have S_b := D.safeWr W_157 S_tmp S_b
      have D := D.wr W_157 S_tmp
      have F := F.wr W_157 (Or.inr l_b)
      refine Ow.iloadN X hx (pc := 158) (hb hby at_158) rfl ?_
      refine Ow.iconst X hx (pc := 159) (5) (hb hby at_159) (by decide) ?_
      refine Ow.icmp_le X hx (pc := 160) (pc' := 171) (hb hby at_160) (by decide) (by decide) (fun q => absurd (by decide) q) (fun h160 => ?_)
      refine Ow.aload X hx (pc := 163) (hb hby at_163) rfl rfl ?_
      refine Ow.iconst X hx (pc := 165) (5) (hb hby at_165) (by decide) ?_
      refine Ow.aload X hx (pc := 166) (hb hby at_166) rfl rfl ?_
      refine Ow.iconst X hx (pc := 168) (5) (hb hby at_168) (by decide) ?_
      refine Ow.caloadL X hx D.hZ eT B_cA 5 (.int c5) (by decide) (by decide) rfl (pc := 169) (hb hby at_169) ?_
      refine Ow.castoreL X hx D.hZ eT B_b 5 [_, _, _, _, _, _] (by decide) (by decide) rfl rfl (pc := 170) (hb hby at_170) ?_
      intro T h_170 X eT W_170 B_b
      rw [h8n c5 (by simp)] at B_b W_170
      have S := S.wr W_170
      have Sf := Sf.wr W_170
      have So := So.wr W_170
      have A_om := A_om.wr W_170
      have V_om := V_om.other W_170 (Or.inl ne_om_b)
      have B_cA := B_cA.other W_170 ne_cA_b
      have S_tmp := S_b
      have S_cA := D.safeWr W_170 S_tmp S_cA
      have S_b := D.safeWr W_170 S_tmp S_b
      have D := D.wr W_170 S_tmp
      have F := F.wr W_170 (Or.inr l_b)
      refine Ow.new_ X hx D.hZ hown (ww hw 5 rfl) (ww hw 6 rfl) (ww hw 7 rfl) eT (pc := 171) (hb hby at_171) (by decide) (by decide) ?_
      intro T h_x x ha_x X eT E_x A_x D_x U_x
      have l_x : h0.size ≤ x := by rw [ha_x]; exact F.size
      have ne_om_x : om ≠ x := by rw [ha_x]; exact Nat.ne_of_lt A_om.lt
      have ne_cA_x : cA ≠ x := by rw [ha_x]; exact Nat.ne_of_lt B_cA.lt
      have ne_b_x : b ≠ x := by rw [ha_x]; exact Nat.ne_of_lt B_b.lt
      have S_x := D.safeNew E_x
      rw [← ha_x] at S_x
      have S := S.ext E_x
      have Sf := Sf.ext E_x
      have So := So.ext E_x
      have A_om := A_om.ext E_x
      have V_om := V_om.ext E_x
      have B_cA := B_cA.ext E_x
      have B_b := B_b.ext E_x
      have S_cA := D.safeExt E_x S_cA
      have S_b := D.safeExt E_x S_b
      have F := F.ext E_x
      have D := D.ext E_x
      have V0 := D_x (Or.inr (ww hw 20 rfl)) (ty := .array .byte) (by decide)
      have C0 := D_x (Or.inr (ww hw 21 rfl)) (ty := .byte) (by decide)
      refine Ow.dup X hx (pc := 174) (hb hby at_174) rfl ?_
      refine Ow.aload X hx (pc := 175) (hb hby at_175) rfl rfl ?_
      have H8 : ∀ c ∈ [c0, c1, c2, c3, c4, c5], ∃ k : Fin 256, c = Int32.ofNat k.val := fun c hc => h8 c (List.mem_of_mem_take (i := 6) hc)
      refine strLat X hx D.hZ hw eT hown (ww hw 8 rfl) (cs := [c0, c1, c2, c3, c4, c5]) A_x V0 C0 B_b S hz 6 rfl (by decide) (by decide) H8 (by rw [hml]; rfl) (pc := 177) (hb hby at_177) rfl rfl (by decide) (by decide) ?_
      intro T L kb_x X F2 St_x
      have D := D.keep F2.1 (fun y hy => by cases List.mem_singleton.mp hy; exact S_x)
      have F := F.call F2 (fun y hy => by cases List.mem_singleton.mp hy; exact Or.inr l_x)
      have S := Ow.staKeep S F2.1 (fun y hy => by cases List.mem_singleton.mp hy; exact Ow.Exa.plain A_x)
      have Sf := Ow.staKeep Sf F2.1 (fun y hy => by cases List.mem_singleton.mp hy; exact Ow.Exa.plain A_x)
      have So := Ow.staKeep So F2.1 (fun y hy => by cases List.mem_singleton.mp hy; exact Ow.Exa.plain A_x)
      have A_om := A_om.keep F2.1
      have V_om := V_om.keep F2.1 (Ow.nin1 ne_om_x)
      have B_b := B_b.keep F2.1 (Ow.nin1 ne_b_x)
      exact tail [c0, c1, c2, c3, c4, c5] _ T _ x _ _ b _ cA _ (Nat.le_of_ble_eq_true rfl) H8 (own_more X (by decide) (by decide)) rfl D hown F S Sf So A_om V_om B_b St_x
  · intro cs vm0 T h xs t kb b kc cA L hc6 h8 X eT D hown F S Sf So A_om V_om B_b St
    refine Ow.astore X hx (pc := 180) #[_, _, _, _, _, _, _, _, _, _, _, _] (hb hby at_180) rfl rfl ?_
    refine Ow.aload X hx (pc := 182) (hb hby at_182) rfl rfl ?_
    refine Ow.iconst X hx (pc := 184) (0) (hb hby at_184) (by decide) ?_
    refine Ow.callSP X hx D.hZ (c_firstSlash l Z a0 hw h b kc cs B_b hc6 0) rfl rfl eT hown (ww hw 26 rfl) (ww hw 27 rfl) (ww hw 3 rfl) (ww hw 28 rfl) (by decide) pd31 (by rw [hml]; rfl) (argsL := [_, _]) rfl rfl rfl (pc := 185) (hb hby at_185) rfl rfl (by decide) (by decide) ?_   -- com/example/mortise/mortise/pack/NamespacedPathOfPinLaw.firstSlash:([CI)I
    intro T X eT
    dsimp only [Option.toList_some, Option.toList_none, List.cons_append, List.nil_append]
    refine Ow.istore X hx (pc := 188) #[_, _, _, _, _, _, _, _, _, _, _, _] (hb hby at_188) rfl ?_
    obtain ⟨fi, hfi⟩ : ∃ q, q = own_fs cs 0 := ⟨_, rfl⟩
    rw [← hfi]
    refine Ow.joinI X eT (fun v => v = if fi < 0 then -1 else own_fs cs (fi + 1)) 208 ?_ (fun J => ?_)
    rotate_left
    · refine Ow.iload X hx (pc := 190) (hb hby at_190) rfl ?_
      refine Ow.if_ge X hx (pc := 192) (pc' := 199) (hb hby at_192) (by decide) (by decide) (fun h192 => ?_) (fun h192 => ?_)
      · refine Ow.aload X hx (pc := 199) (hb hby at_199) rfl rfl ?_
        refine Ow.iload X hx (pc := 201) (hb hby at_201) rfl ?_
        refine Ow.iconst X hx (pc := 203) (1) (hb hby at_203) (by decide) ?_
        refine Ow.iadd X hx (pc := 204) (hb hby at_204) ?_
        refine Ow.callSP X hx D.hZ (c_firstSlash l Z a0 hw h b kc cs B_b hc6 _) rfl rfl eT hown (ww hw 26 rfl) (ww hw 27 rfl) (ww hw 3 rfl) (ww hw 28 rfl) (by decide) pd31 (by rw [hml]; rfl) (argsL := [_, _]) rfl rfl rfl (pc := 205) (hb hby at_205) rfl rfl (by decide) (by decide) ?_   -- com/example/mortise/mortise/pack/NamespacedPathOfPinLaw.firstSlash:([CI)I
        intro T X eT
        dsimp only [Option.toList_some, Option.toList_none, List.cons_append, List.nil_append]
        exact J _ T X eT (by rw [if_neg h192])
      · refine Ow.iconst X hx (pc := 195) (-1) (hb hby at_195) (by decide) ?_
        refine Ow.goto X hx (pc := 196) (pc' := 208) (hb hby at_196) (by decide) (by decide) ?_
        exact J _ T X eT (by rw [if_pos h192])
    rintro se T X eT hse
    refine Ow.istore X hx (pc := 208) #[_, _, _, _, _, _, _, _, _, _, _, _] (hb hby at_208) rfl ?_
    refine Ow.joinI X eT (fun v => v = if ¬ fi < 1 ∧ ¬ se < fi + 2 then 1 else 0) 230 ?_ (fun J => ?_)
    rotate_left
    · refine Ow.iload X hx (pc := 210) (hb hby at_210) rfl ?_
      refine Ow.iconst X hx (pc := 212) (1) (hb hby at_212) (by decide) ?_
      refine Ow.icmp_lt X hx (pc := 213) (pc' := 229) (hb hby at_213) (by decide) (by decide) (fun h213 => ?_) (fun h213 => ?_)
      · refine Ow.iconst X hx (pc := 229) (0) (hb hby at_229) (by decide) ?_
        exact J _ T X eT (by rw [if_neg (fun r => r.1 h213)])
      · refine Ow.iload X hx (pc := 216) (hb hby at_216) rfl ?_
        refine Ow.iload X hx (pc := 218) (hb hby at_218) rfl ?_
        refine Ow.iconst X hx (pc := 220) (2) (hb hby at_220) (by decide) ?_
        refine Ow.iadd X hx (pc := 221) (hb hby at_221) ?_
        refine Ow.icmp_lt X hx (pc := 222) (pc' := 229) (hb hby at_222) (by decide) (by decide) (fun h222 => ?_) (fun h222 => ?_)
        · refine Ow.iconst X hx (pc := 229) (0) (hb hby at_229) (by decide) ?_
          exact J _ T X eT (by rw [if_neg (fun r => r.2 h222)])
        · refine Ow.iconst X hx (pc := 225) (1) (hb hby at_225) (by decide) ?_
          refine Ow.goto X hx (pc := 226) (pc' := 230) (hb hby at_226) (by decide) (by decide) ?_
          exact J _ T X eT (by rw [if_pos ⟨h213, h222⟩])
    rintro ha T X eT hha
    obtain ⟨k1, k2⟩ := own_plain cs hc6 h8 fi se hfi hse
    rw [k1] at hha
    obtain ⟨bs, hbs⟩ : ∃ q, q = (cs.map fun c => c.toInt8.toInt32) := ⟨_, rfl⟩
    rw [← hbs] at k2 hha St
    have hbl : bs.length = cs.length := by rw [hbs]; simp
    have hfit := own_fit cs h8
    rw [← hbs] at hfit
    refine Ow.istore X hx (pc := 230) #[_, _, _, _, _, _, _, _, _, _, _, _] (hb hby at_230) rfl ?_
    refine Ow.aload X hx (pc := 232) (hb hby at_232) rfl rfl ?_
    by_cases hneg : own_after bs < 0
    · refine Ow.callSP X hx D.hZ (c_ofE l Z a0 hw h z xs t om kb bs S hz So St (by omega) hneg) rfl rfl eT hown (ww hw 32 rfl) (ww hw 33 rfl) (ww hw 34 rfl) (ww hw 35 rfl) (by decide) pd32 (by rw [hml]; rfl) (argsL := [_]) rfl rfl rfl (pc := 234) (hb hby at_234) rfl rfl (by decide) (by decide) ?_   -- com/example/mortise/mortise/pack/NamespacedPath.of:(Ljava/lang/String;)Ljava/util/Optional;
      intro T X eT
      dsimp only [Option.toList_some, Option.toList_none, List.cons_append, List.nil_append]
      refine Ow.astore X hx (pc := 237) #[_, _, _, _, _, _, _, _, _, _, _, _] (hb hby at_237) rfl rfl ?_
      refine Ow.aload X hx (pc := 239) (hb hby at_239) rfl rfl ?_
      refine Ow.callVP X hx D.hZ (c_isPresentN l Z a0 hw h om V_om) rfl rfl eT hown (ww hw 85 rfl) (ww hw 86 rfl) (ww hw 88 rfl) (ww hw 87 rfl) (ww hw 82 rfl) (ww hw 89 rfl) (by decide) pd4 (by rw [hml]; rfl) A_om (argsL := []) rfl rfl rfl (pc := 241) (hb hby at_241) rfl rfl (by decide) (by decide) ?_   -- java/util/Optional.isPresent:()Z
      intro T X eT
      dsimp only [Option.toList_some, Option.toList_none, List.cons_append, List.nil_append]
      refine Ow.iload X hx (pc := 244) (hb hby at_244) rfl ?_
      refine Ow.icmp_eq X hx (pc := 246) (pc' := 251) (hb hby at_246) (by decide) (by decide) (fun h246 => ?_) (fun q => (q (by rw [hha, if_pos hneg])).elim)
      refine Ow.iload X hx (pc := 251) (hb hby at_251) rfl ?_
      refine Ow.if_ne X hx (pc := 253) (pc' := 258) (hb hby at_253) (by decide) (by decide) (fun q => absurd (hha.trans (if_pos hneg)) q) (fun h253 => ?_)
      refine Ow.iconst X hx (pc := 256) (1) (hb hby at_256) (by decide) ?_
      exact Ow.nreturnW X hx eT D hEL hlk hret (Or.inl rfl) (hb hby at_257) ⟨rfl, by rw [eT]; exact F⟩ (by decide) (by decide)
    · have hpos := k2.resolve_left hneg
      obtain ⟨a, b2, e1, -, e3, z1, z2, z3⟩ := own_two (by omega) hneg
      rw [hpos.1] at e1
      rw [hpos.2] at e3
      have e4 : ha = 1 := hha.trans (if_neg hneg)
      refine Ow.callSW X hx (c_ofP l Z a0 hw hEL h z fm xs t kb bs S hz Sf hfm St hfit (by omega) a b2 (hpos.1.trans e1) (hpos.2.trans e3) z1 z2 z3) eT D hEL (fun _ q => nomatch q) hown (ww hw 32 rfl) (ww hw 33 rfl) (ww hw 34 rfl) (ww hw 35 rfl) (by decide) pd32 (by rw [hml]; rfl) (argsL := [_]) rfl rfl rfl (pc := 234) (hb hby at_234) rfl rfl (by decide) (by decide) ?_
      rintro _ vm1 T L X ⟨o, np, y1, y2, y3, t1, t2, t3, j1, j2, j3, rfl, F2, A_o, V_o, A_np, F_top, F_namespace, F_below, St1, St2, St3⟩ D hown C1
      dsimp only [Option.toList_some, Option.toList_none, List.cons_append, List.nil_append]
      have E2 := Ow.Keep.ext0 F2.1
      have F := F.call F2 (fun _ q => nomatch q)
      have S := S.ext E2
      have Sf := Sf.ext E2
      have B_b := B_b.ext E2
      obtain ⟨hh, ehh⟩ : ∃ q, q = T.heap := ⟨_, rfl⟩
      rw [← ehh] at F D S Sf B_b A_o V_o A_np F_top F_namespace F_below St1 St2 St3
      have eT : T.heap = hh := ehh.symm
      obtain ⟨q1, q2, q3⟩ := own_part cs h8 0 a (by omega) (by omega) _ (by rw [← hbs])
      obtain ⟨r1, r2, r3⟩ := own_part cs h8 (a + 1) b2 (by omega) (by omega) _ (by rw [← hbs])
      obtain ⟨s1, s2, s3⟩ := own_part cs h8 (b2 + 1) cs.length (by omega) (Nat.le_refl _) (bs.drop (b2 + 1)) (by rw [← hbs, List.take_of_length_le (by simp [hbl])])
      refine Ow.astore X hx (pc := 237) #[_, _, _, _, _, _, _, _, _, _, _, _] (hb hby at_237) rfl rfl ?_
      refine Ow.aload X hx (pc := 239) (hb hby at_239) rfl rfl ?_
      refine Ow.callVP X hx D.hZ (c_isPresentR l Z a0 hw hh o np V_o) rfl rfl eT hown (ww hw 85 rfl) (ww hw 86 rfl) (ww hw 88 rfl) (ww hw 87 rfl) (ww hw 82 rfl) (ww hw 89 rfl) (by decide) pd4 (by rw [hml]; rfl) A_o (argsL := []) rfl rfl rfl (pc := 241) (hb hby at_241) rfl rfl (by decide) (by decide) ?_   -- java/util/Optional.isPresent:()Z
      intro T X eT
      dsimp only [Option.toList_some, Option.toList_none, List.cons_append, List.nil_append]
      refine Ow.iload X hx (pc := 244) (hb hby at_244) rfl ?_
      refine Ow.icmp_eq X hx (pc := 246) (pc' := 251) (hb hby at_246) (by decide) (by decide) (fun h246 => ?_) (fun q => (q e4.symm).elim)
      refine Ow.iload X hx (pc := 251) (hb hby at_251) rfl ?_
      refine Ow.if_ne X hx (pc := 253) (pc' := 258) (hb hby at_253) (by decide) (by decide) (fun h253 => ?_) (fun q => absurd (e4.symm.trans q) (by decide))
      refine Ow.aload X hx (pc := 258) (hb hby at_258) rfl rfl ?_
      refine Ow.callVP X hx D.hZ (c_get l Z a0 hw hh o np V_o) rfl rfl eT hown (ww hw 183 rfl) (ww hw 184 rfl) (ww hw 186 rfl) (ww hw 185 rfl) (ww hw 82 rfl) (ww hw 187 rfl) (by decide) pd33 (by rw [hml]; rfl) A_o (argsL := []) rfl rfl rfl (pc := 260) (hb hby at_260) rfl rfl (by decide) (by decide) ?_   -- java/util/Optional.get:()Ljava/lang/Object;
      intro T X eT
      dsimp only [Option.toList_some, Option.toList_none, List.cons_append, List.nil_append]
      refine Ow.checkcast X hx D.hZ hown (ww hw 188 rfl) eT (Ins.of_exa A_np (ww hw 189 rfl)) (pc := 263) (hb hby at_263) ?_
      intro T X eT
      refine Ow.astore X hx (pc := 266) #[_, _, _, _, _, _, _, _, _, _, _, _] (hb hby at_266) rfl rfl ?_
      refine Ow.aload X hx (pc := 268) (hb hby at_268) rfl rfl ?_
      refine Ow.callVP X hx D.hZ (c_top l Z a0 hw hh np y1 F_top) rfl rfl eT hown (ww hw 190 rfl) (ww hw 191 rfl) (ww hw 193 rfl) (ww hw 192 rfl) (ww hw 34 rfl) (ww hw 194 rfl) (by decide) pd34 (by rw [hml]; rfl) A_np (argsL := []) rfl rfl rfl (pc := 270) (hb hby at_270) rfl rfl (by decide) (by decide) ?_   -- com/example/mortise/mortise/pack/NamespacedPath.top:()Ljava/lang/String;
      intro T X eT
      dsimp only [Option.toList_some, Option.toList_none, List.cons_append, List.nil_append]
      refine Ow.aload X hx (pc := 273) (hb hby at_273) rfl rfl ?_
      refine Ow.iconst X hx (pc := 275) (0) (hb hby at_275) (by decide) ?_
      refine Ow.iload X hx (pc := 276) (hb hby at_276) rfl ?_
      rw [e1]
      refine Ow.callSP X hx D.hZ (c_same l Z a0 hw hh z fm S hz Sf hfm y1 t1 j1 _ St1 b kc cs B_b hc6 0 q2 q3 a (by omega) q1) rfl rfl eT hown (ww hw 195 rfl) (ww hw 196 rfl) (ww hw 3 rfl) (ww hw 197 rfl) (by decide) pd29 (by rw [hml]; rfl) (argsL := [_, _, _, _]) rfl rfl rfl (pc := 278) (hb hby at_278) rfl rfl (by decide) (by decide) ?_   -- com/example/mortise/mortise/pack/NamespacedPathOfPinLaw.same:(Ljava/lang/String;[CII)Z
      intro T X eT
      dsimp only [Option.toList_some, Option.toList_none, List.cons_append, List.nil_append]
      refine Ow.if_eq X hx (pc := 281) (pc' := 325) (hb hby at_281) (by decide) (by decide) (fun q => absurd q (by decide)) (fun h281 => ?_)
      refine Ow.aload X hx (pc := 284) (hb hby at_284) rfl rfl ?_
      refine Ow.callVP X hx D.hZ (c_namespace l Z a0 hw hh np y2 F_namespace) rfl rfl eT hown (ww hw 216 rfl) (ww hw 217 rfl) (ww hw 219 rfl) (ww hw 218 rfl) (ww hw 34 rfl) (ww hw 220 rfl) (by decide) pd34 (by rw [hml]; rfl) A_np (argsL := []) rfl rfl rfl (pc := 286) (hb hby at_286) rfl rfl (by decide) (by decide) ?_   -- com/example/mortise/mortise/pack/NamespacedPath.namespace:()Ljava/lang/String;
      intro T X eT
      dsimp only [Option.toList_some, Option.toList_none, List.cons_append, List.nil_append]
      refine Ow.aload X hx (pc := 289) (hb hby at_289) rfl rfl ?_
      refine Ow.iload X hx (pc := 291) (hb hby at_291) rfl ?_
      refine Ow.iconst X hx (pc := 293) (1) (hb hby at_293) (by decide) ?_
      refine Ow.iadd X hx (pc := 294) (hb hby at_294) ?_
      rw [Ow.n_one]
      refine Ow.iload X hx (pc := 295) (hb hby at_295) rfl ?_
      rw [e3]
      refine Ow.callSP X hx D.hZ (c_same l Z a0 hw hh z fm S hz Sf hfm y2 t2 j2 _ St2 b kc cs B_b hc6 (a + 1) r2 r3 b2 (by omega) r1) rfl rfl eT hown (ww hw 195 rfl) (ww hw 196 rfl) (ww hw 3 rfl) (ww hw 197 rfl) (by decide) pd29 (by rw [hml]; rfl) (argsL := [_, _, _, _]) rfl rfl rfl (pc := 297) (hb hby at_297) rfl rfl (by decide) (by decide) ?_   -- com/example/mortise/mortise/pack/NamespacedPathOfPinLaw.same:(Ljava/lang/String;[CII)Z
      intro T X eT
      dsimp only [Option.toList_some, Option.toList_none, List.cons_append, List.nil_append]
      refine Ow.if_eq X hx (pc := 300) (pc' := 325) (hb hby at_300) (by decide) (by decide) (fun q => absurd q (by decide)) (fun h300 => ?_)
      refine Ow.aload X hx (pc := 303) (hb hby at_303) rfl rfl ?_
      refine Ow.callVP X hx D.hZ (c_below l Z a0 hw hh np y3 F_below) rfl rfl eT hown (ww hw 221 rfl) (ww hw 222 rfl) (ww hw 224 rfl) (ww hw 223 rfl) (ww hw 34 rfl) (ww hw 225 rfl) (by decide) pd34 (by rw [hml]; rfl) A_np (argsL := []) rfl rfl rfl (pc := 305) (hb hby at_305) rfl rfl (by decide) (by decide) ?_   -- com/example/mortise/mortise/pack/NamespacedPath.below:()Ljava/lang/String;
      intro T X eT
      dsimp only [Option.toList_some, Option.toList_none, List.cons_append, List.nil_append]
      refine Ow.aload X hx (pc := 308) (hb hby at_308) rfl rfl ?_
      refine Ow.iload X hx (pc := 310) (hb hby at_310) rfl ?_
      refine Ow.iconst X hx (pc := 312) (1) (hb hby at_312) (by decide) ?_
      refine Ow.iadd X hx (pc := 313) (hb hby at_313) ?_
      rw [Ow.n_one]
      refine Ow.iloadN X hx (pc := 314) (hb hby at_314) rfl ?_
      refine Ow.callSP X hx D.hZ (c_same l Z a0 hw hh z fm S hz Sf hfm y3 t3 j3 _ St3 b kc cs B_b hc6 (b2 + 1) s2 s3 cs.length (by omega) s1) rfl rfl eT hown (ww hw 195 rfl) (ww hw 196 rfl) (ww hw 3 rfl) (ww hw 197 rfl) (by decide) pd29 (by rw [hml]; rfl) (argsL := [_, _, _, _]) rfl rfl rfl (pc := 315) (hb hby at_315) rfl rfl (by decide) (by decide) ?_   -- com/example/mortise/mortise/pack/NamespacedPathOfPinLaw.same:(Ljava/lang/String;[CII)Z
      intro T X eT
      dsimp only [Option.toList_some, Option.toList_none, List.cons_append, List.nil_append]
      refine Ow.if_eq X hx (pc := 318) (pc' := 325) (hb hby at_318) (by decide) (by decide) (fun q => absurd q (by decide)) (fun h318 => ?_)
      refine Ow.iconst X hx (pc := 321) (1) (hb hby at_321) (by decide) ?_
      refine Ow.goto X hx (pc := 322) (pc' := 326) (hb hby at_322) (by decide) (by decide) ?_
      exact Ow.nreturnW X hx eT D hEL hlk hret (Or.inl rfl) (hb hby at_326) ⟨rfl, by rw [eT]; exact F⟩ (by decide) (by decide)
theorem own_eqN {args : Array Value} {s : State} {t : Term} (h : (Cond.eq t .null).value args s none s [] = some true) : t.eval args s none [] s = some .null := by
  simp only [Cond.value, Term.eval] at h
  cases ht : t.eval args s none [] s with
  | none => simp [ht] at h
  | some v => cases v <;> simp [ht] at h ⊢
set_option maxRecDepth 65536 in
set_option maxHeartbeats 40000000 in
theorem comes_1 {Post : Tables → Env → Array Value → State → Outcome → State → Prop} (hpost : ∀ tb e args s v u, (limb_1_1.after args s (.returned v) u = true ∧ limb_1_2.after args s (.returned v) u = true ∧ True) → ReturnedEndW s (.returned v) u (Jvm.fieldLocs frame_1_writes args s ++ Jvm.arrayLocs frame_1_arrays args s ++ Jvm.staticLocs frame_1_statics s) 48 5312 → Post tb e args s (.returned v) u) :
    ArmFor flags0 classFile x code maxLocals ret World_1 tables_1 room_1 Calls_1 rest_1 Pre_1 Post := by
  intro l hfl _ _ p e ha hc hk s m args below hf hA hF happ hP
  obtain ⟨hcalls, hrest, hpre⟩ := hP
  obtain ⟨-, -, -, hnamed, -, -, -, hat⟩ := (Spec.applies_iff hf).mp happ
  obtain ⟨hg, hnar⟩ := and_e (Cond.before_iff.mp (show (Jvm.Cond.and given_1 narrow_1).before args s = true from hpre))
  obtain ⟨g0, g1⟩ := and_e hg
  obtain ⟨q0, g2⟩ := and_e g1
  obtain ⟨q1, g3⟩ := and_e g2
  have q2 := g3
  obtain ⟨w0, w1, w2, rfl⟩ : ∃ w0 w1 w2 : Value, args = #[w0, w1, w2] := by
    have hs : args.size = 3 := by simpa [Cond.value, given_1] using g0
    obtain ⟨L⟩ := args
    match L, hs with
    | [w0, w1, w2], _ => exact ⟨w0, w1, w2, rfl⟩
  have hw := fun d (hd : d ∈ tables_1) => atoms_spec (ws := Jvm.Cond.code x code maxLocals ret :: tables_1) hat d (List.mem_cons_of_mem _ hd)
  obtain ⟨hsets, hown0⟩ := atoms_of _ (rest_1_c_eq ▸ (show rest_1_c.before _ s = true from hrest))
  have hfit : Fit s := fun {y c} hc i hi => by
    obtain ⟨ha, rfl⟩ := Array.getElem?_eq_some_iff.mp hc
    have q := List.all_eq_true.mp ((Array.all_eq_true_iff_forall_mem.mp hF) _ (Array.getElem_mem ha)) i (List.mem_range.mpr hi)
    simpa [Array.getElem?_eq_getElem hi] using q
  obtain ⟨i0, e0⟩ := is_v q0
  obtain rfl : w0 = (.int i0) := Option.some.inj e0
  obtain ⟨i1, e1⟩ := is_v q1
  obtain rfl : w1 = (.int i1) := Option.some.inj e1
  obtain ⟨i2, e2⟩ := is_v q2
  obtain rfl : w2 = (.int i2) := Option.some.inj e2
  have n5 := not_v (Cond.before_iff.mp (hsets _ (List.mem_of_getElem? (i := 2) rfl)))
  obtain ⟨z, ez⟩ := is_v (Cond.before_iff.mp (hsets _ (List.mem_of_getElem? (i := 1) rfl)))
  have S : Sta s s.heap "java/lang/String" "COMPACT_STRINGS" "Z" (.int z) := Sta.start ez (Or.inl (hsets _ (List.mem_of_getElem? (i := 0) rfl)))
  have hz : ¬ (z = (0 : Int32)) := gotF (Cond.eq_ints ez (Term.int_eval (0))) n5
  obtain ⟨fm, efm, hfm⟩ := isR_v (Cond.before_iff.mp (hsets _ (List.mem_of_getElem? (i := 8) rfl)))
  have Sf : Sta s s.heap "jdk/internal/util/Preconditions" "SIOOBE_FORMATTER" "Ljava/util/function/BiFunction;" fm := Sta.start efm (Or.inl (hsets _ (List.mem_of_getElem? (i := 7) rfl)))
  have xom := Cond.before_iff.mp (hsets _ (List.mem_of_getElem? (i := 11) rfl))
  obtain ⟨om, eom⟩ := exa_v xom
  have A_om := Exa.start eom xom
  have So : Sta s s.heap "java/util/Optional" "EMPTY" "Ljava/util/Optional;" (.ref om) := Sta.start eom (Or.inl (hsets _ (List.mem_of_getElem? (i := 10) rfl)))
  have V_om : Fld s s.heap om "java/util/Optional" "value" "Ljava/lang/Object;" .null := Fld.start (by rw [← fld_at eom]; exact own_eqN (Cond.before_iff.mp (hsets _ (List.mem_of_getElem? (i := 12) rfl))))
  have hEL : EW s _ EL := EW.cons (ww hw 157 rfl) (by decide) (EW.cons (ww hw 162 rfl) (by decide) (EW.cons (ww hw 163 rfl) (by decide) (EW.cons (ww hw 18 rfl) (by decide) (EW.cons (ww hw 226 rfl) (by decide) (EW.nil)))))
  have H : CHv s EL s.vm s.heap := CHv.start hEL hcalls.1 (hsets _ (List.mem_of_getElem? (i := 2) rfl)) (ww hw 19 rfl) (ww hw 6 rfl)
  obtain ⟨n, o, h1, h2, h3, _, L, rfl, ⟨rfl, F⟩, -, hq⟩ := law_w l s _ hw hEL s.heap z i0 i1 i2 fm om S hz Sf hfm So A_om V_om tables_1 p e ha hc hk s m _ below hf ((Spec.applies_iff_loose hf).mp happ).1 ⟨rfl, State.Warmed39.refl s, rfl, H, fun _ q => nomatch q⟩ trivial
  refine ⟨n, _, h1, h2, h3, hpost _ _ _ _ _ _ ⟨Cond.after_iff.mpr rfl, Cond.after_iff.mpr (eq_i res_at (Term.int_eval (1)) rfl), trivial⟩ ⟨hq.1, hq.2.1, hq.2.2.1, (hq.2.2.2.sift fun y hy => Or.inr (F.fr y hy)).mono (by decide) (by decide)⟩⟩
theorem main_1_1 : Claimed_1_1 := comes_1 fun _ _ _ _ _ _ h hF => ⟨h.1, hF⟩
theorem main_1_2 : Claimed_1_2 := comes_1 fun _ _ _ _ _ _ h hF => ⟨h.2.1, hF⟩
end Jvm.Pilot.@@N@@
namespace Jvm.Pilot.@@N@@
open Jvm Jvm.ClassFile Sem Op Lib Jvm.Free Jvm.Stand Jvm.Pilot.@@N@@.Jvm.D
/-! MADE BY PROGRAM (witnessworld.py) out of the Statement's table words and the real class files: 26 classes; the members and pool entries that the words name. The judged class is class 1, her method 1. -/
namespace start1
open Jvm.ClassFile
def u (s : String) : CpInfo := .utf8 (stringToUtf16 s)
/-- a pool by its gaps: so many unusable entries, then the entry; so many at the end -/
def gap : Nat → List CpInfo → List CpInfo
  | 0, r => r
  | n + 1, r => .unusable :: gap n r
def poolList (es : List (Nat × CpInfo)) (last : Nat) : List CpInfo := es.foldr (fun e r => gap e.1 (e.2 :: r)) (gap last [])
def pool (es : List (Nat × CpInfo)) (last : Nat) : Array CpInfo := ⟨poolList es last⟩
def fileOf (pool : Array CpInfo) (this : Nat) (attrs : Array Attribute := #[]) (ms : Array MethodInfo := #[]) (fl : Nat := 33) (sup : Nat := 0) (ifs : Array Nat := #[]) (fds : Array FieldInfo := #[]) : ClassFile where
  minorVersion := 0
  majorVersion := 65
  constantPool := pool
  accessFlags := fl
  thisClass := this
  superClass := sup
  interfaces := ifs
  fields := fds
  methods := ms
  attributes := attrs
def plain (name : String) (sup : Option ClassId) : Class where
  name := name
  kind := .ordinary
  loader := none
  accessFlags := 33
  super := sup
  interfaces := #[]
  cf := none
  fields := #[]
  methods := #[]
  instanceTypes := #[]
  staticTypes := #[]
  resolved := #[]
  callSites := []
  init := .initialized
  statics := none
  mirror := none

def pool0 : Array CpInfo := pool [(5, u "<init>"), (0, u "()V"), (1, .class_ 10), (1, u "java/lang/Object")] 113

def k0c0 : Code := { maxStack := 0, maxLocals := 1, code := object_method_1_code, exceptionTable := #[], attributes := #[] }
def k0m0 : Method := { name := "<init>", desc := "()V", sig := { parameters := [], returnType := none }, accessFlags := 1, code := some k0c0 }
/-- java/lang/Object -/
def k0 : Class := { plain "java/lang/Object" none with
  accessFlags := 33
  interfaces := #[]
  cf := some (fileOf pool0 8 #[] #[{ accessFlags := 1, nameIndex := 5, descriptorIndex := 6, attributes := #[] }] 33 0 #[] #[])
  fields := #[]
  methods := #[k0m0]
  instanceTypes := #[]
  staticTypes := #[]
  resolved := Array.replicate 124 none
  statics := none }

def pool1 : Array CpInfo := pool [(2, .class_ 4), (1, u "java/lang/Object"), (0, u "<init>"), (0, u "()V"), (0, .methodref 8 9), (0, .class_ 10), (0, .nameAndType 11 12), (0, u "com/example/mortise/mortise/pack/NamespacedPathOfPinLaw"), (0, u "pick"), (0, u "(III)C"), (0, .class_ 14), (0, u "java/lang/String"), (0, .methodref 13 16), (0, .nameAndType 5 17), (0, u "([C)V"), (0, .methodref 8 19), (0, .nameAndType 20 21), (0, u "firstSlash"), (0, u "([CI)I"), (0, .methodref 23 24), (0, .class_ 25), (0, .nameAndType 26 27), (0, u "com/example/mortise/mortise/pack/NamespacedPath"), (0, u "of"), (0, u "(Ljava/lang/String;)Ljava/util/Optional;"), (0, .methodref 29 30), (0, .class_ 31), (0, .nameAndType 32 33), (0, u "java/util/Optional"), (0, u "isPresent"), (0, u "()Z"), (0, .methodref 29 35), (0, .nameAndType 36 37), (0, u "get"), (0, u "()Ljava/lang/Object;"), (0, .methodref 23 39), (0, .nameAndType 40 41), (0, u "top"), (0, u "()Ljava/lang/String;"), (0, .methodref 8 43), (0, .nameAndType 44 45), (0, u "same"), (0, u "(Ljava/lang/String;[CII)Z"), (0, .methodref 23 47), (0, .nameAndType 48 41), (0, u "namespace"), (0, .methodref 23 50), (0, .nameAndType 51 41), (0, u "below"), (0, .methodref 8 53), (0, .nameAndType 54 55), (0, u "slashAt"), (0, u "([CII)Z"), (0, .methodref 13 57), (0, .nameAndType 58 59), (0, u "length"), (0, u "()I"), (0, .methodref 13 61), (0, .nameAndType 62 63), (0, u "charAt"), (0, u "(I)C"), (0, .methodref 8 65), (0, .nameAndType 66 45), (0, u "eq"), (2, u "law"), (0, u "(III)Z")] 5

def k1m0 : Method := { name := "<init>", desc := "()V", sig := { parameters := [], returnType := none }, accessFlags := 1, code := none }
def k1c1 : Code := { maxStack := 6, maxLocals := 12, code := code, exceptionTable := #[], attributes := #[] }
def k1m1 : Method := { name := "law", desc := "(III)Z", sig := { parameters := [.int, .int, .int], returnType := some .boolean }, accessFlags := 9, code := some k1c1 }
def k1c2 : Code := { maxStack := 2, maxLocals := 3, code := method_3_code, exceptionTable := #[], attributes := #[] }
def k1m2 : Method := { name := "pick", desc := "(III)C", sig := { parameters := [.int, .int, .int], returnType := some .char }, accessFlags := 10, code := some k1c2 }
def k1c3 : Code := { maxStack := 2, maxLocals := 3, code := method_4_code, exceptionTable := #[], attributes := #[] }
def k1m3 : Method := { name := "slashAt", desc := "([CII)Z", sig := { parameters := [(.array .char), .int, .int], returnType := some .boolean }, accessFlags := 10, code := some k1c3 }
def k1c4 : Code := { maxStack := 3, maxLocals := 2, code := method_5_code, exceptionTable := #[], attributes := #[] }
def k1m4 : Method := { name := "firstSlash", desc := "([CI)I", sig := { parameters := [(.array .char), .int], returnType := some .int }, accessFlags := 10, code := some k1c4 }
def k1c5 : Code := { maxStack := 4, maxLocals := 4, code := method_6_code, exceptionTable := #[], attributes := #[] }
def k1m5 : Method := { name := "eq", desc := "(Ljava/lang/String;[CII)Z", sig := { parameters := [(.object "java/lang/String"), (.array .char), .int, .int], returnType := some .boolean }, accessFlags := 10, code := some k1c5 }
def k1c6 : Code := { maxStack := 4, maxLocals := 4, code := method_7_code, exceptionTable := #[], attributes := #[] }
def k1m6 : Method := { name := "same", desc := "(Ljava/lang/String;[CII)Z", sig := { parameters := [(.object "java/lang/String"), (.array .char), .int, .int], returnType := some .boolean }, accessFlags := 10, code := some k1c6 }
/-- com/example/mortise/mortise/pack/NamespacedPathOfPinLaw -/
def k1 : Class := { plain "com/example/mortise/mortise/pack/NamespacedPathOfPinLaw" (some 0) with
  accessFlags := 49
  interfaces := #[]
  cf := some (fileOf pool1 8 #[] #[{ accessFlags := 1, nameIndex := 5, descriptorIndex := 6, attributes := #[] }, { accessFlags := 9, nameIndex := 69, descriptorIndex := 70, attributes := #[] }, { accessFlags := 10, nameIndex := 11, descriptorIndex := 12, attributes := #[] }, { accessFlags := 10, nameIndex := 54, descriptorIndex := 55, attributes := #[] }, { accessFlags := 10, nameIndex := 20, descriptorIndex := 21, attributes := #[] }, { accessFlags := 10, nameIndex := 66, descriptorIndex := 45, attributes := #[] }, { accessFlags := 10, nameIndex := 44, descriptorIndex := 45, attributes := #[] }] 49 2 #[] #[])
  fields := #[]
  methods := #[k1m0, k1m1, k1m2, k1m3, k1m4, k1m5, k1m6]
  instanceTypes := #[]
  staticTypes := #[]
  resolved := Array.replicate 76 none
  statics := none }

def pool2 : Array CpInfo := pool [(1, .class_ 2), (0, u "java/io/Serializable"), (0, .class_ 4), (0, u "java/lang/Object")] 2

/-- java/io/Serializable -/
def k2 : Class := { plain "java/io/Serializable" (some 0) with
  accessFlags := 1537
  interfaces := #[]
  cf := some (fileOf pool2 1 #[] #[] 1537 3 #[] #[])
  fields := #[]
  methods := #[]
  instanceTypes := #[]
  staticTypes := #[]
  resolved := Array.replicate 7 none
  statics := none }

def pool3 : Array CpInfo := pool [(1, .class_ 2), (0, u "java/lang/Comparable"), (0, .class_ 4), (0, u "java/lang/Object")] 7

/-- java/lang/Comparable -/
def k3 : Class := { plain "java/lang/Comparable" (some 0) with
  accessFlags := 1537
  interfaces := #[]
  cf := some (fileOf pool3 1 #[] #[] 1537 3 #[] #[])
  fields := #[]
  methods := #[]
  instanceTypes := #[]
  staticTypes := #[]
  resolved := Array.replicate 12 none
  statics := none }

def pool4 : Array CpInfo := pool [(2, .class_ 4), (1, u "java/lang/CharSequence"), (42, .class_ 48), (0, u "java/lang/CharSequence$1CodePointIterator"), (10, .class_ 60), (0, u "java/lang/CharSequence$1CharIterator"), (5, .class_ 67), (0, u "java/lang/Object")] 63

/-- java/lang/CharSequence -/
def k4 : Class := { plain "java/lang/CharSequence" (some 0) with
  accessFlags := 1537
  interfaces := #[]
  cf := some (fileOf pool4 2 #[.nestMembers #[47, 59]] #[] 1537 66 #[] #[])
  fields := #[]
  methods := #[]
  instanceTypes := #[]
  staticTypes := #[]
  resolved := Array.replicate 131 none
  statics := none }

def pool5 : Array CpInfo := pool [(1, .class_ 2), (0, u "java/lang/constant/Constable"), (0, .class_ 4), (0, u "java/lang/Object")] 6

/-- java/lang/constant/Constable -/
def k5 : Class := { plain "java/lang/constant/Constable" (some 0) with
  accessFlags := 1537
  interfaces := #[]
  cf := some (fileOf pool5 1 #[] #[] 1537 3 #[] #[])
  fields := #[]
  methods := #[]
  instanceTypes := #[]
  staticTypes := #[]
  resolved := Array.replicate 11 none
  statics := none }

def pool6 : Array CpInfo := pool [(1, .class_ 2), (0, u "java/lang/constant/ConstantDesc"), (0, .class_ 4), (0, u "java/lang/Object")] 32

/-- java/lang/constant/ConstantDesc -/
def k6 : Class := { plain "java/lang/constant/ConstantDesc" (some 0) with
  accessFlags := 1537
  interfaces := #[]
  cf := some (fileOf pool6 1 #[] #[] 1537 3 #[] #[])
  fields := #[]
  methods := #[]
  instanceTypes := #[]
  staticTypes := #[]
  resolved := Array.replicate 37 none
  statics := none }

def pool7 : Array CpInfo := pool [(1, .methodref 2 3), (0, .class_ 4), (0, .nameAndType 5 6), (0, u "java/lang/Object"), (0, u "<init>"), (0, u "()V"), (0, .string 8), (0, u ""), (0, .fieldref 10 11), (0, .class_ 12), (0, .nameAndType 13 14), (0, u "java/lang/String"), (0, u "value"), (0, u "[B"), (0, .fieldref 10 16), (0, .nameAndType 17 18), (0, u "coder"), (0, u "B"), (2, u "hash"), (0, u "I"), (2, u "hashIsZero"), (0, u "Z"), (0, .methodref 10 28), (0, .nameAndType 5 29), (0, u "([CIILjava/lang/Void;)V"), (8, .fieldref 10 39), (0, .nameAndType 40 26), (0, u "COMPACT_STRINGS"), (1, .class_ 44), (1, u "java/lang/StringUTF16"), (0, u "compress"), (1, .methodref 42 48), (0, .nameAndType 49 50), (0, u "coderFromArrayLen"), (0, u "([BI)B"), (56, .class_ 109), (1, u "java/lang/StringLatin1"), (32, u "()Z"), (34, .methodref 42 178), (0, .nameAndType 45 179), (0, u "([CII)[B"), (31, u "([BB)V"), (122, u "()I"), (0, .methodref 10 336), (0, .nameAndType 17 337), (0, u "()B"), (25, u "([BI)C"), (27, u "(II)V"), (35, u "(I)C"), (64, .methodref 10 493), (0, .nameAndType 494 142), (0, u "isLatin1"), (0, .methodref 107 496), (0, .nameAndType 497 363), (0, u "charAt"), (3, u "checkIndex"), (3, .methodref 10 506), (0, .nameAndType 507 334), (0, u "length"), (5, u "checkFromToIndex"), (7, .methodref 10 522), (0, .nameAndType 523 524), (0, u "checkBoundsBeginEnd"), (0, u "(III)V"), (50, .class_ 576), (0, u "java/lang/CharSequence"), (22, u "CASE_INSENSITIVE_ORDER"), (0, u "Ljava/util/Comparator;"), (32, .methodref 10 634), (0, .nameAndType 635 636), (0, u "indexOf"), (0, u "(II)I"), (0, .methodref 107 638), (0, .nameAndType 635 639), (0, u "([BIII)I"), (41, .methodref 10 682), (0, .nameAndType 683 684), (0, u "substring"), (0, u "(II)Ljava/lang/String;"), (0, .methodref 107 686), (0, .nameAndType 687 688), (0, u "newString"), (0, u "([BII)Ljava/lang/String;"), (76, u "(I)I"), (126, u "(I)Ljava/lang/String;"), (117, u "([C)V"), (42, .fieldref 1054 1055), (0, .class_ 1056), (0, .nameAndType 1057 1058), (0, u "jdk/internal/util/Preconditions"), (0, u "SIOOBE_FORMATTER"), (0, u "Ljava/util/function/BiFunction;"), (0, .methodref 1054 1060), (0, .nameAndType 501 1061), (0, u "(IILjava/util/function/BiFunction;)I"), (0, .methodref 1054 1063), (0, .nameAndType 513 1064), (0, u "(IIILjava/util/function/BiFunction;)I"), (36, u "serialPersistentFields"), (0, u "[Ljava/io/ObjectStreamField;"), (0, .class_ 1104), (0, u "java/lang/String$CaseInsensitiveComparator"), (1, .class_ 1107), (0, u "java/io/Serializable"), (0, .class_ 1109), (0, u "java/lang/Comparable"), (0, .class_ 1111), (0, u "java/lang/constant/Constable"), (0, .class_ 1113), (0, u "java/lang/constant/ConstantDesc"), (2, u "serialVersionUID"), (0, u "J"), (3, u "REPL"), (0, u "C"), (2, u "LATIN1"), (1, u "UTF16")] 323

def k7m0 : Method := { name := "<init>", desc := "()V", sig := { parameters := [], returnType := none }, accessFlags := 1, code := none }
def k7c1 : Code := { maxStack := 5, maxLocals := 2, code := jdk_42_method_3_code, exceptionTable := #[], attributes := #[] }
def k7m1 : Method := { name := "<init>", desc := "([C)V", sig := { parameters := [(.array .char)], returnType := none }, accessFlags := 1, code := some k7c1 }
def k7c2 : Code := { maxStack := 2, maxLocals := 1, code := jdk_42_method_54_code, exceptionTable := #[], attributes := #[] }
def k7m2 : Method := { name := "length", desc := "()I", sig := { parameters := [], returnType := some .int }, accessFlags := 1, code := some k7c2 }
def k7c3 : Code := { maxStack := 2, maxLocals := 2, code := jdk_42_method_56_code, exceptionTable := #[], attributes := #[] }
def k7m3 : Method := { name := "charAt", desc := "(I)C", sig := { parameters := [.int], returnType := some .char }, accessFlags := 1, code := some k7c3 }
def k7c4 : Code := { maxStack := 3, maxLocals := 2, code := jdk_42_method_79_code, exceptionTable := #[], attributes := #[] }
def k7m4 : Method := { name := "indexOf", desc := "(I)I", sig := { parameters := [.int], returnType := some .int }, accessFlags := 1, code := some k7c4 }
def k7c5 : Code := { maxStack := 4, maxLocals := 3, code := jdk_42_method_80_code, exceptionTable := #[], attributes := #[] }
def k7m5 : Method := { name := "indexOf", desc := "(II)I", sig := { parameters := [.int, .int], returnType := some .int }, accessFlags := 1, code := some k7c5 }
def k7c6 : Code := { maxStack := 3, maxLocals := 2, code := jdk_42_method_91_code, exceptionTable := #[], attributes := #[] }
def k7m6 : Method := { name := "substring", desc := "(I)Ljava/lang/String;", sig := { parameters := [.int], returnType := some (.object "java/lang/String") }, accessFlags := 1, code := some k7c6 }
def k7c7 : Code := { maxStack := 3, maxLocals := 5, code := jdk_42_method_92_code, exceptionTable := #[], attributes := #[] }
def k7m7 : Method := { name := "substring", desc := "(II)Ljava/lang/String;", sig := { parameters := [.int, .int], returnType := some (.object "java/lang/String") }, accessFlags := 1, code := some k7c7 }
def k7c8 : Code := { maxStack := 4, maxLocals := 6, code := jdk_42_method_149_code, exceptionTable := #[], attributes := #[] }
def k7m8 : Method := { name := "<init>", desc := "([CIILjava/lang/Void;)V", sig := { parameters := [(.array .char), .int, .int, (.object "java/lang/Void")], returnType := none }, accessFlags := 2, code := some k7c8 }
def k7c9 : Code := { maxStack := 2, maxLocals := 3, code := jdk_42_method_151_code, exceptionTable := #[], attributes := #[] }
def k7m9 : Method := { name := "<init>", desc := "([BB)V", sig := { parameters := [(.array .byte), .byte], returnType := none }, accessFlags := 0, code := some k7c9 }
def k7c10 : Code := { maxStack := 1, maxLocals := 1, code := jdk_42_method_152_code, exceptionTable := #[], attributes := #[] }
def k7m10 : Method := { name := "coder", desc := "()B", sig := { parameters := [], returnType := some .byte }, accessFlags := 0, code := some k7c10 }
def k7c11 : Code := { maxStack := 1, maxLocals := 1, code := jdk_42_method_154_code, exceptionTable := #[], attributes := #[] }
def k7m11 : Method := { name := "isLatin1", desc := "()Z", sig := { parameters := [], returnType := some .boolean }, accessFlags := 0, code := some k7c11 }
def k7c12 : Code := { maxStack := 3, maxLocals := 2, code := jdk_42_method_155_code, exceptionTable := #[], attributes := #[] }
def k7m12 : Method := { name := "checkIndex", desc := "(II)V", sig := { parameters := [.int, .int], returnType := none }, accessFlags := 8, code := some k7c12 }
def k7c13 : Code := { maxStack := 4, maxLocals := 3, code := jdk_42_method_158_code, exceptionTable := #[], attributes := #[] }
def k7m13 : Method := { name := "checkBoundsBeginEnd", desc := "(III)V", sig := { parameters := [.int, .int, .int], returnType := none }, accessFlags := 8, code := some k7c13 }
/-- java/lang/String -/
def k7 : Class := { plain "java/lang/String" (some 0) with
  accessFlags := 49
  interfaces := #[2, 3, 4, 5, 6]
  cf := some (fileOf pool7 10 #[.nestMembers #[1103]] #[{ accessFlags := 1, nameIndex := 5, descriptorIndex := 6, attributes := #[] }, { accessFlags := 1, nameIndex := 5, descriptorIndex := 1010, attributes := #[] }, { accessFlags := 1, nameIndex := 507, descriptorIndex := 334, attributes := #[] }, { accessFlags := 1, nameIndex := 497, descriptorIndex := 427, attributes := #[] }, { accessFlags := 1, nameIndex := 635, descriptorIndex := 765, attributes := #[] }, { accessFlags := 1, nameIndex := 635, descriptorIndex := 636, attributes := #[] }, { accessFlags := 1, nameIndex := 683, descriptorIndex := 892, attributes := #[] }, { accessFlags := 1, nameIndex := 683, descriptorIndex := 684, attributes := #[] }, { accessFlags := 2, nameIndex := 5, descriptorIndex := 29, attributes := #[] }, { accessFlags := 0, nameIndex := 5, descriptorIndex := 211, attributes := #[] }, { accessFlags := 0, nameIndex := 17, descriptorIndex := 337, attributes := #[] }, { accessFlags := 0, nameIndex := 494, descriptorIndex := 142, attributes := #[] }, { accessFlags := 8, nameIndex := 501, descriptorIndex := 391, attributes := #[] }, { accessFlags := 8, nameIndex := 523, descriptorIndex := 524, attributes := #[] }] 49 2 #[1106, 1108, 575, 1110, 1112] #[{ accessFlags := 18, nameIndex := 13, descriptorIndex := 14, attributes := #[] }, { accessFlags := 18, nameIndex := 17, descriptorIndex := 18, attributes := #[] }, { accessFlags := 2, nameIndex := 21, descriptorIndex := 22, attributes := #[] }, { accessFlags := 2, nameIndex := 25, descriptorIndex := 26, attributes := #[] }, { accessFlags := 26, nameIndex := 1116, descriptorIndex := 1117, attributes := #[] }, { accessFlags := 24, nameIndex := 40, descriptorIndex := 26, attributes := #[] }, { accessFlags := 26, nameIndex := 1101, descriptorIndex := 1102, attributes := #[] }, { accessFlags := 26, nameIndex := 1121, descriptorIndex := 1122, attributes := #[] }, { accessFlags := 25, nameIndex := 599, descriptorIndex := 600, attributes := #[] }, { accessFlags := 24, nameIndex := 1125, descriptorIndex := 18, attributes := #[] }, { accessFlags := 24, nameIndex := 1127, descriptorIndex := 18, attributes := #[] }])
  fields := #[{ name := "value", type := (.array .byte), accessFlags := 18, slot := 0, constantValue := 0 }, { name := "coder", type := .byte, accessFlags := 18, slot := 1, constantValue := 0 }, { name := "hash", type := .int, accessFlags := 2, slot := 2, constantValue := 0 }, { name := "hashIsZero", type := .boolean, accessFlags := 2, slot := 3, constantValue := 0 }, { name := "serialVersionUID", type := .long, accessFlags := 26, slot := 0, constantValue := 0 }, { name := "COMPACT_STRINGS", type := .boolean, accessFlags := 24, slot := 1, constantValue := 0 }, { name := "serialPersistentFields", type := (.array (.object "java/io/ObjectStreamField")), accessFlags := 26, slot := 2, constantValue := 0 }, { name := "REPL", type := .char, accessFlags := 26, slot := 3, constantValue := 0 }, { name := "CASE_INSENSITIVE_ORDER", type := (.object "java/util/Comparator"), accessFlags := 25, slot := 4, constantValue := 0 }, { name := "LATIN1", type := .byte, accessFlags := 24, slot := 5, constantValue := 0 }, { name := "UTF16", type := .byte, accessFlags := 24, slot := 6, constantValue := 0 }]
  methods := #[k7m0, k7m1, k7m2, k7m3, k7m4, k7m5, k7m6, k7m7, k7m8, k7m9, k7m10, k7m11, k7m12, k7m13]
  instanceTypes := #[(.array .byte), .byte, .int, .boolean]
  staticTypes := #[.long, .boolean, (.array (.object "java/io/ObjectStreamField")), .char, (.object "java/util/Comparator"), .byte, .byte]
  resolved := Array.replicate 1451 none
  statics := some 0 }

def pool8 : Array CpInfo := pool [(1, .methodref 2 3), (0, .class_ 4), (0, .nameAndType 5 6), (0, u "java/lang/Object"), (0, u "<init>"), (0, u "()V"), (0, .class_ 8), (0, u "java/lang/Record")] 13

def k8c0 : Code := { maxStack := 1, maxLocals := 1, code := jdk_30_method_1_code, exceptionTable := #[], attributes := #[] }
def k8m0 : Method := { name := "<init>", desc := "()V", sig := { parameters := [], returnType := none }, accessFlags := 4, code := some k8c0 }
/-- java/lang/Record -/
def k8 : Class := { plain "java/lang/Record" (some 0) with
  accessFlags := 1057
  interfaces := #[]
  cf := some (fileOf pool8 7 #[] #[{ accessFlags := 4, nameIndex := 5, descriptorIndex := 6, attributes := #[] }] 1057 2 #[] #[])
  fields := #[]
  methods := #[k8m0]
  instanceTypes := #[]
  staticTypes := #[]
  resolved := Array.replicate 22 none
  statics := none }

def pool9 : Array CpInfo := pool [(1, .methodref 2 3), (0, .class_ 4), (0, .nameAndType 5 6), (0, u "java/lang/Record"), (0, u "<init>"), (0, u "()V"), (0, .string 8), (0, u "top"), (0, .methodref 10 11), (0, .class_ 12), (0, .nameAndType 13 14), (0, u "java/util/Objects"), (0, u "requireNonNull"), (0, u "(Ljava/lang/Object;Ljava/lang/String;)Ljava/lang/Object;"), (0, .string 16), (0, u "namespace"), (0, .string 18), (0, u "below"), (0, .fieldref 20 21), (0, .class_ 22), (0, .nameAndType 8 23), (0, u "com/example/mortise/mortise/pack/NamespacedPath"), (0, u "Ljava/lang/String;"), (0, .fieldref 20 25), (0, .nameAndType 16 23), (0, .fieldref 20 27), (0, .nameAndType 18 23), (0, .methodref 20 29), (0, .nameAndType 30 31), (0, u "afterNamespace"), (0, u "(Ljava/lang/String;)I"), (0, .methodref 33 34), (0, .class_ 35), (0, .nameAndType 36 37), (0, u "java/util/Optional"), (0, u "empty"), (0, u "()Ljava/util/Optional;"), (0, .methodref 39 40), (0, .class_ 41), (0, .nameAndType 42 43), (0, u "java/lang/String"), (0, u "indexOf"), (0, u "(I)I"), (0, .methodref 39 45), (0, .nameAndType 46 47), (0, u "substring"), (0, u "(II)Ljava/lang/String;"), (0, .methodref 39 49), (0, .nameAndType 46 50), (0, u "(I)Ljava/lang/String;"), (0, .methodref 20 52), (0, .nameAndType 5 53), (0, u "(Ljava/lang/String;Ljava/lang/String;Ljava/lang/String;)V"), (0, .methodref 33 55), (0, .nameAndType 56 57), (0, u "of"), (0, u "(Ljava/lang/Object;)Ljava/util/Optional;"), (11, .methodref 39 70), (0, .nameAndType 42 71), (0, u "(II)I"), (15, u "(Ljava/lang/String;)Ljava/util/Optional;"), (5, u "()Ljava/lang/String;")] 23

def k9c0 : Code := { maxStack := 2, maxLocals := 4, code := prog_5_method_1_code, exceptionTable := #[], attributes := #[] }
def k9m0 : Method := { name := "<init>", desc := "(Ljava/lang/String;Ljava/lang/String;Ljava/lang/String;)V", sig := { parameters := [(.object "java/lang/String"), (.object "java/lang/String"), (.object "java/lang/String")], returnType := none }, accessFlags := 1, code := some k9c0 }
def k9c1 : Code := { maxStack := 7, maxLocals := 3, code := prog_5_method_2_code, exceptionTable := #[], attributes := #[] }
def k9m1 : Method := { name := "of", desc := "(Ljava/lang/String;)Ljava/util/Optional;", sig := { parameters := [(.object "java/lang/String")], returnType := some (.object "java/util/Optional") }, accessFlags := 9, code := some k9c1 }
def k9c2 : Code := { maxStack := 4, maxLocals := 3, code := prog_5_method_4_code, exceptionTable := #[], attributes := #[] }
def k9m2 : Method := { name := "afterNamespace", desc := "(Ljava/lang/String;)I", sig := { parameters := [(.object "java/lang/String")], returnType := some .int }, accessFlags := 8, code := some k9c2 }
def k9c3 : Code := { maxStack := 1, maxLocals := 1, code := prog_5_method_8_code, exceptionTable := #[], attributes := #[] }
def k9m3 : Method := { name := "top", desc := "()Ljava/lang/String;", sig := { parameters := [], returnType := some (.object "java/lang/String") }, accessFlags := 1, code := some k9c3 }
def k9c4 : Code := { maxStack := 1, maxLocals := 1, code := prog_5_method_9_code, exceptionTable := #[], attributes := #[] }
def k9m4 : Method := { name := "namespace", desc := "()Ljava/lang/String;", sig := { parameters := [], returnType := some (.object "java/lang/String") }, accessFlags := 1, code := some k9c4 }
def k9c5 : Code := { maxStack := 1, maxLocals := 1, code := prog_5_method_10_code, exceptionTable := #[], attributes := #[] }
def k9m5 : Method := { name := "below", desc := "()Ljava/lang/String;", sig := { parameters := [], returnType := some (.object "java/lang/String") }, accessFlags := 1, code := some k9c5 }
/-- com/example/mortise/mortise/pack/NamespacedPath -/
def k9 : Class := { plain "com/example/mortise/mortise/pack/NamespacedPath" (some 8) with
  accessFlags := 49
  interfaces := #[]
  cf := some (fileOf pool9 20 #[] #[{ accessFlags := 1, nameIndex := 5, descriptorIndex := 53, attributes := #[] }, { accessFlags := 9, nameIndex := 56, descriptorIndex := 87, attributes := #[] }, { accessFlags := 8, nameIndex := 30, descriptorIndex := 31, attributes := #[] }, { accessFlags := 1, nameIndex := 8, descriptorIndex := 93, attributes := #[] }, { accessFlags := 1, nameIndex := 16, descriptorIndex := 93, attributes := #[] }, { accessFlags := 1, nameIndex := 18, descriptorIndex := 93, attributes := #[] }] 49 2 #[] #[{ accessFlags := 18, nameIndex := 8, descriptorIndex := 23, attributes := #[] }, { accessFlags := 18, nameIndex := 16, descriptorIndex := 23, attributes := #[] }, { accessFlags := 18, nameIndex := 18, descriptorIndex := 23, attributes := #[] }])
  fields := #[{ name := "top", type := (.object "java/lang/String"), accessFlags := 18, slot := 0, constantValue := 0 }, { name := "namespace", type := (.object "java/lang/String"), accessFlags := 18, slot := 1, constantValue := 0 }, { name := "below", type := (.object "java/lang/String"), accessFlags := 18, slot := 2, constantValue := 0 }]
  methods := #[k9m0, k9m1, k9m2, k9m3, k9m4, k9m5]
  instanceTypes := #[(.object "java/lang/String"), (.object "java/lang/String"), (.object "java/lang/String")]
  staticTypes := #[]
  resolved := Array.replicate 117 none
  statics := none }

def pool10 : Array CpInfo := pool [(1, .class_ 2), (0, u "java/lang/String"), (1, .class_ 6), (1, u "java/lang/Object"), (0, u "<init>"), (0, u "()V"), (0, .methodref 1 10), (0, .nameAndType 11 12), (0, u "checkIndex"), (0, u "(II)V"), (1, .class_ 16), (1, u "java/lang/StringLatin1"), (21, .methodref 39 40), (0, .class_ 41), (0, .nameAndType 42 43), (0, u "java/lang/Math"), (0, u "min"), (0, u "(II)I"), (9, u "([BI)C"), (34, .methodref 14 89), (0, .nameAndType 90 91), (0, u "canEncode"), (0, u "(I)Z"), (0, .methodref 39 93), (0, .nameAndType 94 43), (0, u "max"), (0, .methodref 14 96), (0, .nameAndType 97 98), (0, u "indexOfChar"), (0, u "([BIII)I"), (2, u "indexOf"), (10, .methodref 1 113), (0, .nameAndType 7 114), (0, u "([BB)V"), (6, u "$assertionsDisabled"), (0, u "Z"), (8, .class_ 133), (1, u "java/util/Arrays"), (17, .string 152), (0, u ""), (43, u "newString"), (0, u "([BII)Ljava/lang/String;"), (23, .class_ 223), (1, u "java/lang/StringLatin1$LinesSpliterator"), (8, .methodref 131 233), (0, .nameAndType 234 235), (0, u "copyOfRange"), (0, u "([BII)[B"), (16, u "charAt"), (137, .class_ 391), (0, u "java/lang/StringLatin1$CharsSpliterator")] 3

def k10m0 : Method := { name := "<init>", desc := "()V", sig := { parameters := [], returnType := none }, accessFlags := 0, code := none }
def k10c1 : Code := { maxStack := 2, maxLocals := 2, code := jdk_43_method_2_code, exceptionTable := #[], attributes := #[] }
def k10m1 : Method := { name := "charAt", desc := "([BI)C", sig := { parameters := [(.array .byte), .int], returnType := some .char }, accessFlags := 9, code := some k10c1 }
def k10c2 : Code := { maxStack := 2, maxLocals := 1, code := jdk_43_method_4_code, exceptionTable := #[], attributes := #[] }
def k10m2 : Method := { name := "canEncode", desc := "(I)Z", sig := { parameters := [.int], returnType := some .boolean }, accessFlags := 9, code := some k10c2 }
def k10c3 : Code := { maxStack := 4, maxLocals := 4, code := jdk_43_method_22_code, exceptionTable := #[], attributes := #[] }
def k10m3 : Method := { name := "indexOf", desc := "([BIII)I", sig := { parameters := [(.array .byte), .int, .int, .int], returnType := some .int }, accessFlags := 9, code := some k10c3 }
def k10c4 : Code := { maxStack := 2, maxLocals := 6, code := jdk_43_method_23_code, exceptionTable := #[], attributes := #[] }
def k10m4 : Method := { name := "indexOfChar", desc := "([BIII)I", sig := { parameters := [(.array .byte), .int, .int, .int], returnType := some .int }, accessFlags := 10, code := some k10c4 }
def k10c5 : Code := { maxStack := 6, maxLocals := 3, code := jdk_43_method_47_code, exceptionTable := #[], attributes := #[] }
def k10m5 : Method := { name := "newString", desc := "([BII)Ljava/lang/String;", sig := { parameters := [(.array .byte), .int, .int], returnType := some (.object "java/lang/String") }, accessFlags := 9, code := some k10c5 }
/-- java/lang/StringLatin1 -/
def k10 : Class := { plain "java/lang/StringLatin1" (some 0) with
  accessFlags := 48
  interfaces := #[]
  cf := some (fileOf pool10 14 #[.nestMembers #[390, 221]] #[{ accessFlags := 0, nameIndex := 7, descriptorIndex := 8, attributes := #[] }, { accessFlags := 9, nameIndex := 252, descriptorIndex := 53, attributes := #[] }, { accessFlags := 9, nameIndex := 90, descriptorIndex := 91, attributes := #[] }, { accessFlags := 9, nameIndex := 101, descriptorIndex := 98, attributes := #[] }, { accessFlags := 10, nameIndex := 97, descriptorIndex := 98, attributes := #[] }, { accessFlags := 9, nameIndex := 196, descriptorIndex := 197, attributes := #[] }] 48 4 #[] #[{ accessFlags := 4120, nameIndex := 121, descriptorIndex := 122, attributes := #[] }])
  fields := #[{ name := "$assertionsDisabled", type := .boolean, accessFlags := 4120, slot := 0, constantValue := 0 }]
  methods := #[k10m0, k10m1, k10m2, k10m3, k10m4, k10m5]
  instanceTypes := #[]
  staticTypes := #[.boolean]
  resolved := Array.replicate 395 none
  statics := none }

def pool11 : Array CpInfo := pool [(1, .class_ 2), (0, u "java/lang/Math"), (1, .class_ 6), (1, u "java/lang/Object"), (0, u "<init>"), (0, u "()V"), (89, .class_ 100), (1, u "java/lang/Math$RandomNumberGeneratorHolder"), (71, u "negativeZeroFloatBits"), (0, u "J"), (2, u "negativeZeroDoubleBits"), (21, u "max"), (2, u "min"), (43, u "$assertionsDisabled"), (0, u "Z"), (88, u "(II)I"), (2, u "twoToTheDoubleScaleDown"), (0, u "D"), (4, u "twoToTheDoubleScaleUp"), (9, u "E"), (3, u "PI"), (2, u "TAU"), (2, u "DEGREES_TO_RADIANS"), (0, u "RADIANS_TO_DEGREES")] 94

def k11m0 : Method := { name := "<init>", desc := "()V", sig := { parameters := [], returnType := none }, accessFlags := 2, code := none }
def k11c1 : Code := { maxStack := 2, maxLocals := 2, code := jdk_29_method_65_code, exceptionTable := #[], attributes := #[] }
def k11m1 : Method := { name := "max", desc := "(II)I", sig := { parameters := [.int, .int], returnType := some .int }, accessFlags := 9, code := some k11c1 }
def k11c2 : Code := { maxStack := 2, maxLocals := 2, code := jdk_29_method_69_code, exceptionTable := #[], attributes := #[] }
def k11m2 : Method := { name := "min", desc := "(II)I", sig := { parameters := [.int, .int], returnType := some .int }, accessFlags := 9, code := some k11c2 }
/-- java/lang/Math -/
def k11 : Class := { plain "java/lang/Math" (some 0) with
  accessFlags := 49
  interfaces := #[]
  cf := some (fileOf pool11 1 #[.nestMembers #[98]] #[{ accessFlags := 2, nameIndex := 7, descriptorIndex := 8, attributes := #[] }, { accessFlags := 9, nameIndex := 198, descriptorIndex := 335, attributes := #[] }, { accessFlags := 9, nameIndex := 201, descriptorIndex := 335, attributes := #[] }] 49 4 #[] #[{ accessFlags := 25, nameIndex := 354, descriptorIndex := 339, attributes := #[] }, { accessFlags := 25, nameIndex := 358, descriptorIndex := 339, attributes := #[] }, { accessFlags := 25, nameIndex := 361, descriptorIndex := 339, attributes := #[] }, { accessFlags := 26, nameIndex := 364, descriptorIndex := 339, attributes := #[] }, { accessFlags := 26, nameIndex := 365, descriptorIndex := 339, attributes := #[] }, { accessFlags := 26, nameIndex := 172, descriptorIndex := 173, attributes := #[] }, { accessFlags := 26, nameIndex := 176, descriptorIndex := 173, attributes := #[] }, { accessFlags := 8, nameIndex := 344, descriptorIndex := 339, attributes := #[] }, { accessFlags := 8, nameIndex := 338, descriptorIndex := 339, attributes := #[] }, { accessFlags := 4120, nameIndex := 245, descriptorIndex := 246, attributes := #[] }])
  fields := #[{ name := "E", type := .double, accessFlags := 25, slot := 0, constantValue := 0 }, { name := "PI", type := .double, accessFlags := 25, slot := 1, constantValue := 0 }, { name := "TAU", type := .double, accessFlags := 25, slot := 2, constantValue := 0 }, { name := "DEGREES_TO_RADIANS", type := .double, accessFlags := 26, slot := 3, constantValue := 0 }, { name := "RADIANS_TO_DEGREES", type := .double, accessFlags := 26, slot := 4, constantValue := 0 }, { name := "negativeZeroFloatBits", type := .long, accessFlags := 26, slot := 5, constantValue := 0 }, { name := "negativeZeroDoubleBits", type := .long, accessFlags := 26, slot := 6, constantValue := 0 }, { name := "twoToTheDoubleScaleUp", type := .double, accessFlags := 8, slot := 7, constantValue := 0 }, { name := "twoToTheDoubleScaleDown", type := .double, accessFlags := 8, slot := 8, constantValue := 0 }, { name := "$assertionsDisabled", type := .boolean, accessFlags := 4120, slot := 9, constantValue := 0 }]
  methods := #[k11m0, k11m1, k11m2]
  instanceTypes := #[]
  staticTypes := #[.double, .double, .double, .double, .double, .long, .long, .double, .double, .boolean]
  resolved := Array.replicate 460 none
  statics := none }

def pool12 : Array CpInfo := pool [(1, .fieldref 2 3), (0, .class_ 4), (0, .nameAndType 5 6), (0, u "java/util/Optional"), (0, u "EMPTY"), (0, u "Ljava/util/Optional;"), (0, .methodref 8 9), (0, .class_ 10), (0, .nameAndType 11 12), (0, u "java/lang/Object"), (0, u "<init>"), (0, u "()V"), (0, .fieldref 2 14), (0, .nameAndType 15 16), (0, u "value"), (0, u "Ljava/lang/Object;"), (0, .methodref 18 19), (0, .class_ 20), (0, .nameAndType 21 22), (0, u "java/util/Objects"), (0, u "requireNonNull"), (0, u "(Ljava/lang/Object;)Ljava/lang/Object;"), (0, .methodref 2 24), (0, .nameAndType 11 25), (0, u "(Ljava/lang/Object;)V"), (20, u "()Z"), (8, u "empty"), (0, u "()Ljava/util/Optional;"), (8, u "(Ljava/lang/Object;)Ljava/util/Optional;"), (2, u "isPresent"), (4, u "get"), (0, u "()Ljava/lang/Object;"), (7, u "of")] 104

def k12c0 : Code := { maxStack := 1, maxLocals := 1, code := jdk_32_method_1_code, exceptionTable := #[], attributes := #[] }
def k12m0 : Method := { name := "empty", desc := "()Ljava/util/Optional;", sig := { parameters := [], returnType := some (.object "java/util/Optional") }, accessFlags := 9, code := some k12c0 }
def k12c1 : Code := { maxStack := 2, maxLocals := 2, code := jdk_32_method_2_code, exceptionTable := #[], attributes := #[] }
def k12m1 : Method := { name := "<init>", desc := "(Ljava/lang/Object;)V", sig := { parameters := [(.object "java/lang/Object")], returnType := none }, accessFlags := 2, code := some k12c1 }
def k12c2 : Code := { maxStack := 3, maxLocals := 1, code := jdk_32_method_3_code, exceptionTable := #[], attributes := #[] }
def k12m2 : Method := { name := "of", desc := "(Ljava/lang/Object;)Ljava/util/Optional;", sig := { parameters := [(.object "java/lang/Object")], returnType := some (.object "java/util/Optional") }, accessFlags := 9, code := some k12c2 }
def k12c3 : Code := { maxStack := 3, maxLocals := 1, code := jdk_32_method_5_code, exceptionTable := #[], attributes := #[] }
def k12m3 : Method := { name := "get", desc := "()Ljava/lang/Object;", sig := { parameters := [], returnType := some (.object "java/lang/Object") }, accessFlags := 1, code := some k12c3 }
def k12c4 : Code := { maxStack := 1, maxLocals := 1, code := jdk_32_method_6_code, exceptionTable := #[], attributes := #[] }
def k12m4 : Method := { name := "isPresent", desc := "()Z", sig := { parameters := [], returnType := some .boolean }, accessFlags := 1, code := some k12c4 }
/-- java/util/Optional -/
def k12 : Class := { plain "java/util/Optional" (some 0) with
  accessFlags := 49
  interfaces := #[]
  cf := some (fileOf pool12 2 #[] #[{ accessFlags := 9, nameIndex := 55, descriptorIndex := 56, attributes := #[] }, { accessFlags := 2, nameIndex := 11, descriptorIndex := 25, attributes := #[] }, { accessFlags := 9, nameIndex := 82, descriptorIndex := 65, attributes := #[] }, { accessFlags := 1, nameIndex := 73, descriptorIndex := 74, attributes := #[] }, { accessFlags := 1, nameIndex := 68, descriptorIndex := 46, attributes := #[] }] 49 8 #[] #[{ accessFlags := 26, nameIndex := 5, descriptorIndex := 6, attributes := #[] }, { accessFlags := 18, nameIndex := 15, descriptorIndex := 16, attributes := #[] }])
  fields := #[{ name := "EMPTY", type := (.object "java/util/Optional"), accessFlags := 26, slot := 0, constantValue := 0 }, { name := "value", type := (.object "java/lang/Object"), accessFlags := 18, slot := 0, constantValue := 0 }]
  methods := #[k12m0, k12m1, k12m2, k12m3, k12m4]
  instanceTypes := #[(.object "java/lang/Object")]
  staticTypes := #[(.object "java/util/Optional")]
  resolved := Array.replicate 187 none
  statics := some 1 }

def pool13 : Array CpInfo := pool [(6, .class_ 8), (1, u "java/lang/Object"), (0, u "<init>"), (0, u "()V"), (1, .class_ 14), (1, u "java/lang/StringUTF16"), (31, u "$assertionsDisabled"), (0, u "Z"), (13, u "HI_BYTE_SHIFT"), (0, u "I"), (2, u "LO_BYTE_SHIFT"), (49, .methodref 12 116), (0, .nameAndType 117 118), (0, u "compress"), (0, u "([CI[BII)I"), (3, u "([CII)[B"), (138, u "coderFromArrayLen"), (0, u "([BI)B"), (106, .class_ 371), (1, u "java/lang/StringUTF16$LinesSpliterator"), (58, u "MAX_LENGTH"), (196, .class_ 628), (0, u "java/lang/StringUTF16$CodePointsSpliterator"), (0, .class_ 630), (0, u "java/lang/StringUTF16$CharsSpliterator")] 4

def k13m0 : Method := { name := "<init>", desc := "()V", sig := { parameters := [], returnType := none }, accessFlags := 0, code := none }
def k13c1 : Code := { maxStack := 2, maxLocals := 2, code := jdk_52_method_15_code, exceptionTable := #[], attributes := #[] }
def k13m1 : Method := { name := "coderFromArrayLen", desc := "([BI)B", sig := { parameters := [(.array .byte), .int], returnType := some .byte }, accessFlags := 8, code := some k13c1 }
def k13c2 : Code := { maxStack := 5, maxLocals := 6, code := jdk_52_method_16_code, exceptionTable := #[], attributes := #[] }
def k13m2 : Method := { name := "compress", desc := "([CII)[B", sig := { parameters := [(.array .char), .int, .int], returnType := some (.array .byte) }, accessFlags := 9, code := some k13c2 }
def k13c3 : Code := { maxStack := 3, maxLocals := 7, code := jdk_52_method_21_code, exceptionTable := #[], attributes := #[] }
def k13m3 : Method := { name := "compress", desc := "([CI[BII)I", sig := { parameters := [(.array .char), .int, (.array .byte), .int, .int], returnType := some .int }, accessFlags := 9, code := some k13c3 }
/-- java/lang/StringUTF16 -/
def k13 : Class := { plain "java/lang/StringUTF16" (some 0) with
  accessFlags := 48
  interfaces := #[]
  cf := some (fileOf pool13 12 #[.nestMembers #[627, 629, 369]] #[{ accessFlags := 0, nameIndex := 9, descriptorIndex := 10, attributes := #[] }, { accessFlags := 8, nameIndex := 261, descriptorIndex := 262, attributes := #[] }, { accessFlags := 9, nameIndex := 117, descriptorIndex := 122, attributes := #[] }, { accessFlags := 9, nameIndex := 117, descriptorIndex := 118, attributes := #[] }] 48 6 #[] #[{ accessFlags := 26, nameIndex := 61, descriptorIndex := 62, attributes := #[] }, { accessFlags := 26, nameIndex := 65, descriptorIndex := 62, attributes := #[] }, { accessFlags := 24, nameIndex := 430, descriptorIndex := 62, attributes := #[] }, { accessFlags := 4120, nameIndex := 46, descriptorIndex := 47, attributes := #[] }])
  fields := #[{ name := "HI_BYTE_SHIFT", type := .int, accessFlags := 26, slot := 0, constantValue := 0 }, { name := "LO_BYTE_SHIFT", type := .int, accessFlags := 26, slot := 1, constantValue := 0 }, { name := "MAX_LENGTH", type := .int, accessFlags := 24, slot := 2, constantValue := 0 }, { name := "$assertionsDisabled", type := .boolean, accessFlags := 4120, slot := 3, constantValue := 0 }]
  methods := #[k13m0, k13m1, k13m2, k13m3]
  instanceTypes := #[]
  staticTypes := #[.int, .int, .int, .boolean]
  resolved := Array.replicate 635 none
  statics := none }

def pool14 : Array CpInfo := pool [(2, .class_ 4), (1, u "java/lang/Object"), (0, u "<init>"), (0, u "()V"), (17, .class_ 26), (1, u "jdk/internal/util/Preconditions"), (6, u "checkIndex"), (13, u "checkFromToIndex"), (7, .class_ 56), (0, u "jdk/internal/util/Preconditions$4"), (57, .class_ 115), (0, u "jdk/internal/util/Preconditions$1"), (7, u "SIOOBE_FORMATTER"), (0, u "Ljava/util/function/BiFunction;"), (0, .class_ 126), (0, u "jdk/internal/util/Preconditions$2"), (3, u "AIOOBE_FORMATTER"), (0, .class_ 132), (0, u "jdk/internal/util/Preconditions$3"), (3, u "IOOBE_FORMATTER"), (41, u "(IILjava/util/function/BiFunction;)I"), (4, u "(IIILjava/util/function/BiFunction;)I")] 10

def k14m0 : Method := { name := "<init>", desc := "()V", sig := { parameters := [], returnType := none }, accessFlags := 1, code := none }
def k14c1 : Code := { maxStack := 3, maxLocals := 3, code := jdk_41_method_11_code, exceptionTable := #[], attributes := #[] }
def k14m1 : Method := { name := "checkIndex", desc := "(IILjava/util/function/BiFunction;)I", sig := { parameters := [.int, .int, (.object "java/util/function/BiFunction")], returnType := some .int }, accessFlags := 9, code := some k14c1 }
def k14c2 : Code := { maxStack := 4, maxLocals := 4, code := jdk_41_method_12_code, exceptionTable := #[], attributes := #[] }
def k14m2 : Method := { name := "checkFromToIndex", desc := "(IIILjava/util/function/BiFunction;)I", sig := { parameters := [.int, .int, .int, (.object "java/util/function/BiFunction")], returnType := some .int }, accessFlags := 9, code := some k14c2 }
/-- jdk/internal/util/Preconditions -/
def k14 : Class := { plain "jdk/internal/util/Preconditions" (some 0) with
  accessFlags := 33
  interfaces := #[]
  cf := some (fileOf pool14 24 #[.nestMembers #[55, 131, 125, 114]] #[{ accessFlags := 1, nameIndex := 5, descriptorIndex := 6, attributes := #[] }, { accessFlags := 9, nameIndex := 33, descriptorIndex := 178, attributes := #[] }, { accessFlags := 9, nameIndex := 47, descriptorIndex := 183, attributes := #[] }] 33 2 #[] #[{ accessFlags := 25, nameIndex := 123, descriptorIndex := 124, attributes := #[] }, { accessFlags := 25, nameIndex := 130, descriptorIndex := 124, attributes := #[] }, { accessFlags := 25, nameIndex := 136, descriptorIndex := 124, attributes := #[] }])
  fields := #[{ name := "SIOOBE_FORMATTER", type := (.object "java/util/function/BiFunction"), accessFlags := 25, slot := 0, constantValue := 0 }, { name := "AIOOBE_FORMATTER", type := (.object "java/util/function/BiFunction"), accessFlags := 25, slot := 1, constantValue := 0 }, { name := "IOOBE_FORMATTER", type := (.object "java/util/function/BiFunction"), accessFlags := 25, slot := 2, constantValue := 0 }]
  methods := #[k14m0, k14m1, k14m2]
  instanceTypes := #[]
  staticTypes := #[(.object "java/util/function/BiFunction"), (.object "java/util/function/BiFunction"), (.object "java/util/function/BiFunction")]
  resolved := Array.replicate 194 none
  statics := some 2 }

def pool15 : Array CpInfo := pool [(2, .class_ 4), (1, u "java/lang/Object"), (0, u "<init>"), (0, u "()V"), (7, .class_ 16), (1, u "java/util/Arrays"), (57, .class_ 76), (1, u "java/util/Arrays$NaturalOrder"), (36, .class_ 115), (1, u "java/util/Arrays$LegacyMergeSort"), (1, u "Z"), (21, u "copyOfRange"), (10, .methodref 151 152), (0, .class_ 153), (0, .nameAndType 154 155), (0, u "java/lang/System"), (0, u "arraycopy"), (0, u "(Ljava/lang/Object;ILjava/lang/Object;II)V"), (148, .methodref 305 306), (0, .class_ 307), (0, .nameAndType 308 309), (0, u "java/lang/Math"), (0, u "min"), (0, u "(II)I"), (29, .methodref 14 340), (0, .nameAndType 341 342), (0, u "copyOfRangeByte"), (0, u "([BII)[B"), (0, .methodref 14 344), (0, .nameAndType 345 346), (0, u "checkLength"), (0, u "(II)V"), (28, .class_ 376), (0, u "java/util/Arrays$ArrayList"), (68, u "$assertionsDisabled"), (269, u "MIN_ARRAY_SORT_GRAN"), (0, u "I"), (2, u "INSERTIONSORT_THRESHOLD"), (255, .class_ 976), (0, u "java/util/Arrays$ArrayItr")] 52

def k15m0 : Method := { name := "<init>", desc := "()V", sig := { parameters := [], returnType := none }, accessFlags := 2, code := none }
def k15c1 : Code := { maxStack := 4, maxLocals := 2, code := jdk_65_method_131_code, exceptionTable := #[], attributes := #[] }
def k15m1 : Method := { name := "checkLength", desc := "(II)V", sig := { parameters := [.int, .int], returnType := none }, accessFlags := 10, code := some k15c1 }
def k15c2 : Code := { maxStack := 3, maxLocals := 3, code := jdk_65_method_132_code, exceptionTable := #[], attributes := #[] }
def k15m2 : Method := { name := "copyOfRange", desc := "([BII)[B", sig := { parameters := [(.array .byte), .int, .int], returnType := some (.array .byte) }, accessFlags := 9, code := some k15c2 }
def k15c3 : Code := { maxStack := 6, maxLocals := 5, code := jdk_65_method_133_code, exceptionTable := #[], attributes := #[] }
def k15m3 : Method := { name := "copyOfRangeByte", desc := "([BII)[B", sig := { parameters := [(.array .byte), .int, .int], returnType := some (.array .byte) }, accessFlags := 10, code := some k15c3 }
/-- java/util/Arrays -/
def k15 : Class := { plain "java/util/Arrays" (some 0) with
  accessFlags := 49
  interfaces := #[]
  cf := some (fileOf pool15 14 #[.nestMembers #[975, 375, 113, 74]] #[{ accessFlags := 2, nameIndex := 5, descriptorIndex := 6, attributes := #[] }, { accessFlags := 10, nameIndex := 345, descriptorIndex := 346, attributes := #[] }, { accessFlags := 9, nameIndex := 139, descriptorIndex := 342, attributes := #[] }, { accessFlags := 10, nameIndex := 341, descriptorIndex := 342, attributes := #[] }] 49 2 #[] #[{ accessFlags := 26, nameIndex := 715, descriptorIndex := 716, attributes := #[] }, { accessFlags := 26, nameIndex := 719, descriptorIndex := 716, attributes := #[] }, { accessFlags := 4120, nameIndex := 445, descriptorIndex := 117, attributes := #[] }])
  fields := #[{ name := "MIN_ARRAY_SORT_GRAN", type := .int, accessFlags := 26, slot := 0, constantValue := 0 }, { name := "INSERTIONSORT_THRESHOLD", type := .int, accessFlags := 26, slot := 1, constantValue := 0 }, { name := "$assertionsDisabled", type := .boolean, accessFlags := 4120, slot := 2, constantValue := 0 }]
  methods := #[k15m0, k15m1, k15m2, k15m3]
  instanceTypes := #[]
  staticTypes := #[.int, .int, .boolean]
  resolved := Array.replicate 1029 none
  statics := none }

def pool16 : Array CpInfo := pool [(2, .class_ 4), (1, u "java/lang/Object"), (0, u "<init>"), (0, u "()V"), (1, .class_ 10), (1, u "java/lang/System"), (0, u "allowSecurityManager"), (0, u "I"), (16, u "cons"), (0, u "Ljava/io/Console;"), (77, .class_ 110), (1, u "java/lang/System$CallersHolder"), (43, u "initialErrStream"), (0, u "Ljava/io/PrintStream;"), (19, u "security"), (0, u "Ljava/lang/SecurityManager;"), (31, .class_ 209), (0, u "java/lang/System$1"), (7, u "props"), (0, u "Ljava/util/Properties;"), (2, u "lineSeparator"), (0, u "Ljava/lang/String;"), (96, .class_ 321), (1, u "java/lang/System$LoggerFinder"), (5, .class_ 328), (0, u "java/lang/System$Logger"), (67, u "err"), (2, u "out"), (91, u "notSupportedJnuEncoding"), (15, u "in"), (17, u "initialIn"), (0, u "Ljava/io/InputStream;"), (35, u "bootLayer"), (0, u "Ljava/lang/ModuleLayer;"), (99, .class_ 664), (0, u "java/lang/System$2"), (9, u "NEVER"), (2, u "MAYBE"), (49, u "arraycopy"), (0, u "(Ljava/lang/Object;ILjava/lang/Object;II)V"), (72, .class_ 802), (0, u "java/lang/System$Logger$Level")] 31

def k16m0 : Method := { name := "<init>", desc := "()V", sig := { parameters := [], returnType := none }, accessFlags := 2, code := none }
def k16m1 : Method := { name := "arraycopy", desc := "(Ljava/lang/Object;ILjava/lang/Object;II)V", sig := { parameters := [(.object "java/lang/Object"), .int, (.object "java/lang/Object"), .int, .int], returnType := none }, accessFlags := 265, code := none }
/-- java/lang/System -/
def k16 : Class := { plain "java/lang/System" (some 0) with
  accessFlags := 49
  interfaces := #[]
  cf := some (fileOf pool16 8 #[.nestMembers #[319, 327, 801, 108, 663, 208]] #[{ accessFlags := 2, nameIndex := 5, descriptorIndex := 6, attributes := #[] }, { accessFlags := 265, nameIndex := 727, descriptorIndex := 728, attributes := #[] }] 49 2 #[] #[{ accessFlags := 25, nameIndex := 507, descriptorIndex := 526, attributes := #[] }, { accessFlags := 25, nameIndex := 399, descriptorIndex := 155, attributes := #[] }, { accessFlags := 25, nameIndex := 396, descriptorIndex := 155, attributes := #[] }, { accessFlags := 10, nameIndex := 525, descriptorIndex := 526, attributes := #[] }, { accessFlags := 26, nameIndex := 674, descriptorIndex := 12, attributes := #[] }, { accessFlags := 26, nameIndex := 677, descriptorIndex := 12, attributes := #[] }, { accessFlags := 10, nameIndex := 11, descriptorIndex := 12, attributes := #[] }, { accessFlags := 74, nameIndex := 175, descriptorIndex := 176, attributes := #[] }, { accessFlags := 10, nameIndex := 491, descriptorIndex := 222, attributes := #[] }, { accessFlags := 74, nameIndex := 29, descriptorIndex := 30, attributes := #[] }, { accessFlags := 74, nameIndex := 154, descriptorIndex := 155, attributes := #[] }, { accessFlags := 10, nameIndex := 217, descriptorIndex := 218, attributes := #[] }, { accessFlags := 10, nameIndex := 221, descriptorIndex := 222, attributes := #[] }, { accessFlags := 8, nameIndex := 562, descriptorIndex := 563, attributes := #[] }])
  fields := #[{ name := "in", type := (.object "java/io/InputStream"), accessFlags := 25, slot := 0, constantValue := 0 }, { name := "out", type := (.object "java/io/PrintStream"), accessFlags := 25, slot := 1, constantValue := 0 }, { name := "err", type := (.object "java/io/PrintStream"), accessFlags := 25, slot := 2, constantValue := 0 }, { name := "initialIn", type := (.object "java/io/InputStream"), accessFlags := 10, slot := 3, constantValue := 0 }, { name := "NEVER", type := .int, accessFlags := 26, slot := 4, constantValue := 0 }, { name := "MAYBE", type := .int, accessFlags := 26, slot := 5, constantValue := 0 }, { name := "allowSecurityManager", type := .int, accessFlags := 10, slot := 6, constantValue := 0 }, { name := "security", type := (.object "java/lang/SecurityManager"), accessFlags := 74, slot := 7, constantValue := 0 }, { name := "notSupportedJnuEncoding", type := (.object "java/lang/String"), accessFlags := 10, slot := 8, constantValue := 0 }, { name := "cons", type := (.object "java/io/Console"), accessFlags := 74, slot := 9, constantValue := 0 }, { name := "initialErrStream", type := (.object "java/io/PrintStream"), accessFlags := 74, slot := 10, constantValue := 0 }, { name := "props", type := (.object "java/util/Properties"), accessFlags := 10, slot := 11, constantValue := 0 }, { name := "lineSeparator", type := (.object "java/lang/String"), accessFlags := 10, slot := 12, constantValue := 0 }, { name := "bootLayer", type := (.object "java/lang/ModuleLayer"), accessFlags := 8, slot := 13, constantValue := 0 }]
  methods := #[k16m0, k16m1]
  instanceTypes := #[]
  staticTypes := #[(.object "java/io/InputStream"), (.object "java/io/PrintStream"), (.object "java/io/PrintStream"), (.object "java/io/InputStream"), .int, .int, .int, (.object "java/lang/SecurityManager"), (.object "java/lang/String"), (.object "java/io/Console"), (.object "java/io/PrintStream"), (.object "java/util/Properties"), (.object "java/lang/String"), (.object "java/lang/ModuleLayer")]
  resolved := Array.replicate 834 none
  statics := none }

def pool17 : Array CpInfo := pool [(2, .class_ 4), (1, u "java/lang/Object"), (0, u "<init>"), (0, u "()V"), (35, .class_ 44), (1, u "java/util/Objects"), (0, u "requireNonNull"), (0, u "(Ljava/lang/Object;)Ljava/lang/Object;"), (47, u "(Ljava/lang/Object;Ljava/lang/String;)Ljava/lang/Object;")] 89

def k17m0 : Method := { name := "<init>", desc := "()V", sig := { parameters := [], returnType := none }, accessFlags := 2, code := none }
def k17c1 : Code := { maxStack := 2, maxLocals := 1, code := jdk_31_method_10_code, exceptionTable := #[], attributes := #[] }
def k17m1 : Method := { name := "requireNonNull", desc := "(Ljava/lang/Object;)Ljava/lang/Object;", sig := { parameters := [(.object "java/lang/Object")], returnType := some (.object "java/lang/Object") }, accessFlags := 9, code := some k17c1 }
def k17c2 : Code := { maxStack := 3, maxLocals := 2, code := jdk_31_method_11_code, exceptionTable := #[], attributes := #[] }
def k17m2 : Method := { name := "requireNonNull", desc := "(Ljava/lang/Object;Ljava/lang/String;)Ljava/lang/Object;", sig := { parameters := [(.object "java/lang/Object"), (.object "java/lang/String")], returnType := some (.object "java/lang/Object") }, accessFlags := 9, code := some k17c2 }
/-- java/util/Objects -/
def k17 : Class := { plain "java/util/Objects" (some 0) with
  accessFlags := 49
  interfaces := #[]
  cf := some (fileOf pool17 42 #[] #[{ accessFlags := 2, nameIndex := 5, descriptorIndex := 6, attributes := #[] }, { accessFlags := 9, nameIndex := 45, descriptorIndex := 46, attributes := #[] }, { accessFlags := 9, nameIndex := 45, descriptorIndex := 94, attributes := #[] }] 49 2 #[] #[])
  fields := #[]
  methods := #[k17m0, k17m1, k17m2]
  instanceTypes := #[]
  staticTypes := #[]
  resolved := Array.replicate 184 none
  statics := none }

def pool18 : Array CpInfo := pool [(9, u "<init>"), (6, .class_ 18), (1, u "java/lang/Object"), (0, u "()V"), (1, .class_ 23), (1, u "jdk/internal/util/ArraysSupport"), (0, u "LOG2_ARRAY_LONG_INDEX_SCALE"), (0, u "I"), (2, u "U"), (0, u "Ljdk/internal/misc/Unsafe;"), (8, u "BIG_ENDIAN"), (0, u "Z"), (8, u "LOG2_BYTE_BIT_SIZE"), (4, u "LOG2_ARRAY_INT_INDEX_SCALE"), (54, u "JLA"), (0, u "Ljdk/internal/access/JavaLangAccess;"), (11, u "LOG2_ARRAY_BOOLEAN_INDEX_SCALE"), (9, u "LOG2_ARRAY_BYTE_INDEX_SCALE"), (5, u "LOG2_ARRAY_CHAR_INDEX_SCALE"), (5, u "LOG2_ARRAY_SHORT_INDEX_SCALE"), (18, u "LOG2_ARRAY_FLOAT_INDEX_SCALE"), (24, u "LOG2_ARRAY_DOUBLE_INDEX_SCALE"), (89, u "T_BOOLEAN"), (2, u "T_CHAR"), (1, u "T_FLOAT"), (1, u "T_DOUBLE"), (1, u "T_BYTE"), (1, u "T_SHORT"), (1, u "T_INT"), (1, u "T_LONG"), (1, u "SOFT_MAX_ARRAY_LENGTH")] 83

def k18m0 : Method := { name := "<init>", desc := "()V", sig := { parameters := [], returnType := none }, accessFlags := 2, code := none }
/-- jdk/internal/util/ArraysSupport -/
def k18 : Class := { plain "jdk/internal/util/ArraysSupport" (some 0) with
  accessFlags := 33
  interfaces := #[]
  cf := some (fileOf pool18 21 #[] #[{ accessFlags := 2, nameIndex := 9, descriptorIndex := 19, attributes := #[] }] 33 16 #[] #[{ accessFlags := 24, nameIndex := 28, descriptorIndex := 29, attributes := #[] }, { accessFlags := 26, nameIndex := 38, descriptorIndex := 39, attributes := #[] }, { accessFlags := 25, nameIndex := 121, descriptorIndex := 25, attributes := #[] }, { accessFlags := 25, nameIndex := 131, descriptorIndex := 25, attributes := #[] }, { accessFlags := 25, nameIndex := 137, descriptorIndex := 25, attributes := #[] }, { accessFlags := 25, nameIndex := 143, descriptorIndex := 25, attributes := #[] }, { accessFlags := 25, nameIndex := 53, descriptorIndex := 25, attributes := #[] }, { accessFlags := 25, nameIndex := 24, descriptorIndex := 25, attributes := #[] }, { accessFlags := 25, nameIndex := 162, descriptorIndex := 25, attributes := #[] }, { accessFlags := 25, nameIndex := 187, descriptorIndex := 25, attributes := #[] }, { accessFlags := 26, nameIndex := 48, descriptorIndex := 25, attributes := #[] }, { accessFlags := 25, nameIndex := 277, descriptorIndex := 25, attributes := #[] }, { accessFlags := 25, nameIndex := 280, descriptorIndex := 25, attributes := #[] }, { accessFlags := 25, nameIndex := 282, descriptorIndex := 25, attributes := #[] }, { accessFlags := 25, nameIndex := 284, descriptorIndex := 25, attributes := #[] }, { accessFlags := 25, nameIndex := 286, descriptorIndex := 25, attributes := #[] }, { accessFlags := 25, nameIndex := 288, descriptorIndex := 25, attributes := #[] }, { accessFlags := 25, nameIndex := 290, descriptorIndex := 25, attributes := #[] }, { accessFlags := 25, nameIndex := 292, descriptorIndex := 25, attributes := #[] }, { accessFlags := 26, nameIndex := 108, descriptorIndex := 109, attributes := #[] }, { accessFlags := 25, nameIndex := 294, descriptorIndex := 25, attributes := #[] }])
  fields := #[{ name := "U", type := (.object "jdk/internal/misc/Unsafe"), accessFlags := 24, slot := 0, constantValue := 0 }, { name := "BIG_ENDIAN", type := .boolean, accessFlags := 26, slot := 1, constantValue := 0 }, { name := "LOG2_ARRAY_BOOLEAN_INDEX_SCALE", type := .int, accessFlags := 25, slot := 2, constantValue := 0 }, { name := "LOG2_ARRAY_BYTE_INDEX_SCALE", type := .int, accessFlags := 25, slot := 3, constantValue := 0 }, { name := "LOG2_ARRAY_CHAR_INDEX_SCALE", type := .int, accessFlags := 25, slot := 4, constantValue := 0 }, { name := "LOG2_ARRAY_SHORT_INDEX_SCALE", type := .int, accessFlags := 25, slot := 5, constantValue := 0 }, { name := "LOG2_ARRAY_INT_INDEX_SCALE", type := .int, accessFlags := 25, slot := 6, constantValue := 0 }, { name := "LOG2_ARRAY_LONG_INDEX_SCALE", type := .int, accessFlags := 25, slot := 7, constantValue := 0 }, { name := "LOG2_ARRAY_FLOAT_INDEX_SCALE", type := .int, accessFlags := 25, slot := 8, constantValue := 0 }, { name := "LOG2_ARRAY_DOUBLE_INDEX_SCALE", type := .int, accessFlags := 25, slot := 9, constantValue := 0 }, { name := "LOG2_BYTE_BIT_SIZE", type := .int, accessFlags := 26, slot := 10, constantValue := 0 }, { name := "T_BOOLEAN", type := .int, accessFlags := 25, slot := 11, constantValue := 0 }, { name := "T_CHAR", type := .int, accessFlags := 25, slot := 12, constantValue := 0 }, { name := "T_FLOAT", type := .int, accessFlags := 25, slot := 13, constantValue := 0 }, { name := "T_DOUBLE", type := .int, accessFlags := 25, slot := 14, constantValue := 0 }, { name := "T_BYTE", type := .int, accessFlags := 25, slot := 15, constantValue := 0 }, { name := "T_SHORT", type := .int, accessFlags := 25, slot := 16, constantValue := 0 }, { name := "T_INT", type := .int, accessFlags := 25, slot := 17, constantValue := 0 }, { name := "T_LONG", type := .int, accessFlags := 25, slot := 18, constantValue := 0 }, { name := "JLA", type := (.object "jdk/internal/access/JavaLangAccess"), accessFlags := 26, slot := 19, constantValue := 0 }, { name := "SOFT_MAX_ARRAY_LENGTH", type := .int, accessFlags := 25, slot := 20, constantValue := 0 }]
  methods := #[k18m0]
  instanceTypes := #[]
  staticTypes := #[(.object "jdk/internal/misc/Unsafe"), .boolean, .int, .int, .int, .int, .int, .int, .int, .int, .int, .int, .int, .int, .int, .int, .int, .int, .int, (.object "jdk/internal/access/JavaLangAccess"), .int]
  resolved := Array.replicate 378 none
  statics := none }

def pool19 : Array CpInfo := pool [(1, u "java/lang/Cloneable"), (0, .class_ 1), (0, u "java/lang/Object"), (0, .class_ 3)] 3

/-- java/lang/Cloneable -/
def k19 : Class := { plain "java/lang/Cloneable" (some 0) with
  accessFlags := 1537
  interfaces := #[]
  cf := some (fileOf pool19 2 #[] #[] 1537 4 #[] #[])
  fields := #[]
  methods := #[]
  instanceTypes := #[]
  staticTypes := #[]
  resolved := Array.replicate 8 none
  statics := none }

/-- the primitive byte -/
def k20 : Class := { plain "byte" none with kind := .primitive 'B', accessFlags := 0x411 }
/-- [B -/
def k21 : Class := { plain "[B" (some 0) with kind := .array 20 .byte, interfaces := #[19, 2], accessFlags := 1041 }

/-- the primitive char -/
def k22 : Class := { plain "char" none with kind := .primitive 'C', accessFlags := 0x411 }
/-- [C -/
def k23 : Class := { plain "[C" (some 0) with kind := .array 22 .char, interfaces := #[19, 2], accessFlags := 1041 }

/-- the primitive int -/
def k24 : Class := { plain "int" none with kind := .primitive 'I', accessFlags := 0x411 }
/-- [I -/
def k25 : Class := { plain "[I" (some 0) with kind := .array 24 .int, interfaces := #[19, 2], accessFlags := 1041 }

def heap : Heap := #[{ cls := 7, slots := #[.long 0, .int 1, .null, .int 0, .null, .int 0, .int 0], vm := .statics 7 },
  { cls := 12, slots := #[.ref 3], vm := .statics 12 },
  { cls := 14, slots := #[.null, .null, .null], vm := .statics 14 },
  { cls := 12, slots := #[.null], vm := .none }]
def classes : Array Class := #[k0, k1, k2, k3, k4, k5, k6, k7, k8, k9, k10, k11, k12, k13, k14, k15, k16, k17, k18, k19, k20, k21, k22, k23, k24, k25]
def interned : List (Array UInt16 × Addr) := []
def slotsUsed : Nat := 12
def theMethod : MethodId := ⟨1, 1⟩
def args0 : Array Value := #[.int 5, .int 6, .int 7]
def aboutOver (below : List Frame) : State where
  vm := { classes := classes, interned := interned.toArray }
  heap := heap
  slotsUsed := slotsUsed
  threads := #[{ frames := .invoking theMethod args0 :: below }]
def below0 : List Frame := [.native { method := ⟨0, 0⟩, args := #[] }]
def about1 : State := aboutOver below0
def p0 : Program := .bare "" "" ""
def e0 : Env := launch0.env 0 0 0
theorem w_frames : about1.frames = Frame.invoking theMethod args0 :: below0 := rfl
set_option maxRecDepth 65536 in
theorem w_args : argsFit about1.vm theMethod args0 = true := by decide +kernel
set_option maxRecDepth 65536 in
theorem w_heap : heapFits about1 = true := by decide +kernel
set_option maxRecDepth 65536 in
theorem w_runnable : about1.curStatus? = some .runnable := by decide +kernel
set_option maxRecDepth 65536 in
theorem w_alone : about1.alone = true := by decide +kernel
set_option maxRecDepth 65536 in
theorem w_named : about1.methodNamed? x = some theMethod := by decide +kernel
set_option maxRecDepth 65536 in
theorem w_hears : about1.hears theMethod below0 = true := by decide +kernel
set_option maxRecDepth 65536 in
theorem w_ripe : about1.ripe theMethod args0 below0 = true := by decide +kernel
theorem w_running : about1.status = .running := rfl
set_option maxRecDepth 65536 in
theorem w_room : about1.hasRoom e0.platform room_1 = true :=
  launch0.hasRoom_least _ room_1 (by decide +kernel) (by decide +kernel) (by decide +kernel) (by decide +kernel) (by decide +kernel) (by decide +kernel)
theorem allAtoms_all (ts : List Jvm.Cond) (a : Array Jvm.Value) (st : Jvm.State) : (allAtoms ts).before a st = ts.all (fun c => c.before a st) := by
  induction ts with
  | nil => rfl
  | cons c t ih =>
    show (Jvm.Cond.and c (allAtoms t)).before a st = _
    rw [Jvm.Cond.before_and, ih, List.all_cons]
def words1 : List Jvm.Cond := Jvm.Cond.code x code maxLocals ret :: tables_1
/-- a 'code' word, met by the world's own term for the bytes: nothing is compared byte by byte -/
theorem code_word {y : MethodName} {bytes : ByteArray} {mx : Nat} {rt : Option FieldType} {a : Array Value} {s : State} {m : MethodId} {meth : Method} {c : Code} (h1 : s.methodNamed? y = some m) (h2 : s.vm.method? m = some meth) (h3 : meth.code = some c) (h4 : c.code = bytes)
    (h5 : (c.maxLocals == mx && c.exceptionTable.isEmpty && decide (c.maxStack ≤ mostOperands) && decide (meth.sig.returnType = rt) && !meth.locks && decide (parseMethodDescriptor y.desc = some meth.sig)) = true) : (Jvm.Cond.code y bytes mx rt).before a s = true := by
  simp only [Bool.and_eq_true, beq_iff_eq, Bool.not_eq_true', decide_eq_true_eq] at h5
  obtain ⟨⟨⟨⟨⟨g1, g2⟩, g3⟩, g4⟩, g5⟩, g6⟩ := h5
  simp [Cond.before, Cond.holds, Cond.value, h1, h2, h3, h4, g1, g2, g3, g4, g5, g6]
def isCode : Jvm.Cond → Bool
  | .code _ _ _ _ => true
  | _ => false
theorem all_split {L : List Jvm.Cond} {P : Jvm.Cond → Bool} (h1 : L.all (fun c => isCode c || P c) = true) (h2 : ∀ c ∈ L.filter isCode, P c = true) : L.all P = true := by
  refine List.all_eq_true.mpr fun c hc => ?_
  have h := List.all_eq_true.mp h1 c hc
  rcases Bool.eq_false_or_eq_true (isCode c) with hi | hi
  · exact h2 c (List.mem_filter.mpr ⟨hc, hi⟩)
  · simpa [hi] using h
set_option maxRecDepth 65536 in
theorem w_c0 : (Jvm.Cond.code x code maxLocals ret).before args0 about1 = true := code_word (m := ⟨1, 1⟩) (meth := k1m1) (c := k1c1) (by decide +kernel) rfl rfl rfl (by decide +kernel)
set_option maxRecDepth 65536 in
theorem w_c1 : (Jvm.Cond.code ({ cls := "com/example/mortise/mortise/pack/NamespacedPathOfPinLaw", name := "pick", desc := "(III)C" } : Jvm.MethodName) method_3_code (3 : Nat) (Option.some Jvm.ClassFile.FieldType.char)).before args0 about1 = true := code_word (m := ⟨1, 2⟩) (meth := k1m2) (c := k1c2) (by decide +kernel) rfl rfl rfl (by decide +kernel)
set_option maxRecDepth 65536 in
theorem w_c2 : (Jvm.Cond.code ({ cls := "java/lang/String", name := "<init>", desc := "([C)V" } : Jvm.MethodName) jdk_42_method_3_code (2 : Nat) (Option.none : Option Jvm.ClassFile.FieldType)).before args0 about1 = true := code_word (m := ⟨7, 1⟩) (meth := k7m1) (c := k7c1) (by decide +kernel) rfl rfl rfl (by decide +kernel)
set_option maxRecDepth 65536 in
theorem w_c3 : (Jvm.Cond.code ({ cls := "java/lang/String", name := "<init>", desc := "([CIILjava/lang/Void;)V" } : Jvm.MethodName) jdk_42_method_149_code (6 : Nat) (Option.none : Option Jvm.ClassFile.FieldType)).before args0 about1 = true := code_word (m := ⟨7, 8⟩) (meth := k7m8) (c := k7c8) (by decide +kernel) rfl rfl rfl (by decide +kernel)
set_option maxRecDepth 65536 in
theorem w_c4 : (Jvm.Cond.code ({ cls := "java/lang/Object", name := "<init>", desc := "()V" } : Jvm.MethodName) object_method_1_code (1 : Nat) (Option.none : Option Jvm.ClassFile.FieldType)).before args0 about1 = true := code_word (m := ⟨0, 0⟩) (meth := k0m0) (c := k0c0) (by decide +kernel) rfl rfl rfl (by decide +kernel)
set_option maxRecDepth 65536 in
theorem w_c5 : (Jvm.Cond.code ({ cls := "com/example/mortise/mortise/pack/NamespacedPathOfPinLaw", name := "firstSlash", desc := "([CI)I" } : Jvm.MethodName) method_5_code (2 : Nat) (Option.some Jvm.ClassFile.FieldType.int)).before args0 about1 = true := code_word (m := ⟨1, 4⟩) (meth := k1m4) (c := k1c4) (by decide +kernel) rfl rfl rfl (by decide +kernel)
set_option maxRecDepth 65536 in
theorem w_c6 : (Jvm.Cond.code ({ cls := "com/example/mortise/mortise/pack/NamespacedPathOfPinLaw", name := "slashAt", desc := "([CII)Z" } : Jvm.MethodName) method_4_code (3 : Nat) (Option.some Jvm.ClassFile.FieldType.boolean)).before args0 about1 = true := code_word (m := ⟨1, 3⟩) (meth := k1m3) (c := k1c3) (by decide +kernel) rfl rfl rfl (by decide +kernel)
set_option maxRecDepth 65536 in
theorem w_c7 : (Jvm.Cond.code ({ cls := "com/example/mortise/mortise/pack/NamespacedPath", name := "of", desc := "(Ljava/lang/String;)Ljava/util/Optional;" } : Jvm.MethodName) prog_5_method_2_code (3 : Nat) (Option.some (Jvm.ClassFile.FieldType.object "java/util/Optional"))).before args0 about1 = true := code_word (m := ⟨9, 1⟩) (meth := k9m1) (c := k9c1) (by decide +kernel) rfl rfl rfl (by decide +kernel)
set_option maxRecDepth 65536 in
theorem w_c8 : (Jvm.Cond.code ({ cls := "com/example/mortise/mortise/pack/NamespacedPath", name := "afterNamespace", desc := "(Ljava/lang/String;)I" } : Jvm.MethodName) prog_5_method_4_code (3 : Nat) (Option.some Jvm.ClassFile.FieldType.int)).before args0 about1 = true := code_word (m := ⟨9, 2⟩) (meth := k9m2) (c := k9c2) (by decide +kernel) rfl rfl rfl (by decide +kernel)
set_option maxRecDepth 65536 in
theorem w_c9 : (Jvm.Cond.code ({ cls := "java/lang/String", name := "indexOf", desc := "(I)I" } : Jvm.MethodName) jdk_42_method_79_code (2 : Nat) (Option.some Jvm.ClassFile.FieldType.int)).before args0 about1 = true := code_word (m := ⟨7, 4⟩) (meth := k7m4) (c := k7c4) (by decide +kernel) rfl rfl rfl (by decide +kernel)
set_option maxRecDepth 65536 in
theorem w_c10 : (Jvm.Cond.code ({ cls := "java/lang/String", name := "indexOf", desc := "(II)I" } : Jvm.MethodName) jdk_42_method_80_code (3 : Nat) (Option.some Jvm.ClassFile.FieldType.int)).before args0 about1 = true := code_word (m := ⟨7, 5⟩) (meth := k7m5) (c := k7c5) (by decide +kernel) rfl rfl rfl (by decide +kernel)
set_option maxRecDepth 65536 in
theorem w_c11 : (Jvm.Cond.code ({ cls := "java/lang/String", name := "isLatin1", desc := "()Z" } : Jvm.MethodName) jdk_42_method_154_code (1 : Nat) (Option.some Jvm.ClassFile.FieldType.boolean)).before args0 about1 = true := code_word (m := ⟨7, 11⟩) (meth := k7m11) (c := k7c11) (by decide +kernel) rfl rfl rfl (by decide +kernel)
set_option maxRecDepth 65536 in
theorem w_c12 : (Jvm.Cond.code ({ cls := "java/lang/String", name := "length", desc := "()I" } : Jvm.MethodName) jdk_42_method_54_code (1 : Nat) (Option.some Jvm.ClassFile.FieldType.int)).before args0 about1 = true := code_word (m := ⟨7, 2⟩) (meth := k7m2) (c := k7c2) (by decide +kernel) rfl rfl rfl (by decide +kernel)
set_option maxRecDepth 65536 in
theorem w_c13 : (Jvm.Cond.code ({ cls := "java/lang/String", name := "coder", desc := "()B" } : Jvm.MethodName) jdk_42_method_152_code (1 : Nat) (Option.some Jvm.ClassFile.FieldType.byte)).before args0 about1 = true := code_word (m := ⟨7, 10⟩) (meth := k7m10) (c := k7c10) (by decide +kernel) rfl rfl rfl (by decide +kernel)
set_option maxRecDepth 65536 in
theorem w_c14 : (Jvm.Cond.code ({ cls := "java/lang/StringLatin1", name := "indexOf", desc := "([BIII)I" } : Jvm.MethodName) jdk_43_method_22_code (4 : Nat) (Option.some Jvm.ClassFile.FieldType.int)).before args0 about1 = true := code_word (m := ⟨10, 3⟩) (meth := k10m3) (c := k10c3) (by decide +kernel) rfl rfl rfl (by decide +kernel)
set_option maxRecDepth 65536 in
theorem w_c15 : (Jvm.Cond.code ({ cls := "java/lang/StringLatin1", name := "canEncode", desc := "(I)Z" } : Jvm.MethodName) jdk_43_method_4_code (1 : Nat) (Option.some Jvm.ClassFile.FieldType.boolean)).before args0 about1 = true := code_word (m := ⟨10, 2⟩) (meth := k10m2) (c := k10c2) (by decide +kernel) rfl rfl rfl (by decide +kernel)
set_option maxRecDepth 65536 in
theorem w_c16 : (Jvm.Cond.code ({ cls := "java/lang/Math", name := "max", desc := "(II)I" } : Jvm.MethodName) jdk_29_method_65_code (2 : Nat) (Option.some Jvm.ClassFile.FieldType.int)).before args0 about1 = true := code_word (m := ⟨11, 1⟩) (meth := k11m1) (c := k11c1) (by decide +kernel) rfl rfl rfl (by decide +kernel)
set_option maxRecDepth 65536 in
theorem w_c17 : (Jvm.Cond.code ({ cls := "java/lang/Math", name := "min", desc := "(II)I" } : Jvm.MethodName) jdk_29_method_69_code (2 : Nat) (Option.some Jvm.ClassFile.FieldType.int)).before args0 about1 = true := code_word (m := ⟨11, 2⟩) (meth := k11m2) (c := k11c2) (by decide +kernel) rfl rfl rfl (by decide +kernel)
set_option maxRecDepth 65536 in
theorem w_c18 : (Jvm.Cond.code ({ cls := "java/util/Optional", name := "empty", desc := "()Ljava/util/Optional;" } : Jvm.MethodName) jdk_32_method_1_code (1 : Nat) (Option.some (Jvm.ClassFile.FieldType.object "java/util/Optional"))).before args0 about1 = true := code_word (m := ⟨12, 0⟩) (meth := k12m0) (c := k12c0) (by decide +kernel) rfl rfl rfl (by decide +kernel)
set_option maxRecDepth 65536 in
theorem w_c19 : (Jvm.Cond.code ({ cls := "java/util/Optional", name := "isPresent", desc := "()Z" } : Jvm.MethodName) jdk_32_method_6_code (1 : Nat) (Option.some Jvm.ClassFile.FieldType.boolean)).before args0 about1 = true := code_word (m := ⟨12, 4⟩) (meth := k12m4) (c := k12c4) (by decide +kernel) rfl rfl rfl (by decide +kernel)
set_option maxRecDepth 65536 in
theorem w_c20 : (Jvm.Cond.code ({ cls := "java/lang/StringUTF16", name := "compress", desc := "([CII)[B" } : Jvm.MethodName) jdk_52_method_16_code (6 : Nat) (Option.some (Jvm.ClassFile.FieldType.array Jvm.ClassFile.FieldType.byte))).before args0 about1 = true := code_word (m := ⟨13, 2⟩) (meth := k13m2) (c := k13c2) (by decide +kernel) rfl rfl rfl (by decide +kernel)
set_option maxRecDepth 65536 in
theorem w_c21 : (Jvm.Cond.code ({ cls := "java/lang/StringUTF16", name := "compress", desc := "([CI[BII)I" } : Jvm.MethodName) jdk_52_method_21_code (7 : Nat) (Option.some Jvm.ClassFile.FieldType.int)).before args0 about1 = true := code_word (m := ⟨13, 3⟩) (meth := k13m3) (c := k13c3) (by decide +kernel) rfl rfl rfl (by decide +kernel)
set_option maxRecDepth 65536 in
theorem w_c22 : (Jvm.Cond.code ({ cls := "java/lang/StringUTF16", name := "coderFromArrayLen", desc := "([BI)B" } : Jvm.MethodName) jdk_52_method_15_code (2 : Nat) (Option.some Jvm.ClassFile.FieldType.byte)).before args0 about1 = true := code_word (m := ⟨13, 1⟩) (meth := k13m1) (c := k13c1) (by decide +kernel) rfl rfl rfl (by decide +kernel)
set_option maxRecDepth 65536 in
theorem w_c23 : (Jvm.Cond.code ({ cls := "java/lang/StringLatin1", name := "indexOfChar", desc := "([BIII)I" } : Jvm.MethodName) jdk_43_method_23_code (6 : Nat) (Option.some Jvm.ClassFile.FieldType.int)).before args0 about1 = true := code_word (m := ⟨10, 4⟩) (meth := k10m4) (c := k10c4) (by decide +kernel) rfl rfl rfl (by decide +kernel)
set_option maxRecDepth 65536 in
theorem w_c24 : (Jvm.Cond.code ({ cls := "java/lang/String", name := "substring", desc := "(II)Ljava/lang/String;" } : Jvm.MethodName) jdk_42_method_92_code (5 : Nat) (Option.some (Jvm.ClassFile.FieldType.object "java/lang/String"))).before args0 about1 = true := code_word (m := ⟨7, 7⟩) (meth := k7m7) (c := k7c7) (by decide +kernel) rfl rfl rfl (by decide +kernel)
set_option maxRecDepth 65536 in
theorem w_c25 : (Jvm.Cond.code ({ cls := "java/lang/String", name := "checkBoundsBeginEnd", desc := "(III)V" } : Jvm.MethodName) jdk_42_method_158_code (3 : Nat) (Option.none : Option Jvm.ClassFile.FieldType)).before args0 about1 = true := code_word (m := ⟨7, 13⟩) (meth := k7m13) (c := k7c13) (by decide +kernel) rfl rfl rfl (by decide +kernel)
set_option maxRecDepth 65536 in
theorem w_c26 : (Jvm.Cond.code ({ cls := "jdk/internal/util/Preconditions", name := "checkFromToIndex", desc := "(IIILjava/util/function/BiFunction;)I" } : Jvm.MethodName) jdk_41_method_12_code (4 : Nat) (Option.some Jvm.ClassFile.FieldType.int)).before args0 about1 = true := code_word (m := ⟨14, 2⟩) (meth := k14m2) (c := k14c2) (by decide +kernel) rfl rfl rfl (by decide +kernel)
set_option maxRecDepth 65536 in
theorem w_c27 : (Jvm.Cond.code ({ cls := "java/lang/StringLatin1", name := "newString", desc := "([BII)Ljava/lang/String;" } : Jvm.MethodName) jdk_43_method_47_code (3 : Nat) (Option.some (Jvm.ClassFile.FieldType.object "java/lang/String"))).before args0 about1 = true := code_word (m := ⟨10, 5⟩) (meth := k10m5) (c := k10c5) (by decide +kernel) rfl rfl rfl (by decide +kernel)
set_option maxRecDepth 65536 in
theorem w_c28 : (Jvm.Cond.code ({ cls := "java/util/Arrays", name := "copyOfRange", desc := "([BII)[B" } : Jvm.MethodName) jdk_65_method_132_code (3 : Nat) (Option.some (Jvm.ClassFile.FieldType.array Jvm.ClassFile.FieldType.byte))).before args0 about1 = true := code_word (m := ⟨15, 2⟩) (meth := k15m2) (c := k15c2) (by decide +kernel) rfl rfl rfl (by decide +kernel)
set_option maxRecDepth 65536 in
theorem w_c29 : (Jvm.Cond.code ({ cls := "java/util/Arrays", name := "copyOfRangeByte", desc := "([BII)[B" } : Jvm.MethodName) jdk_65_method_133_code (5 : Nat) (Option.some (Jvm.ClassFile.FieldType.array Jvm.ClassFile.FieldType.byte))).before args0 about1 = true := code_word (m := ⟨15, 3⟩) (meth := k15m3) (c := k15c3) (by decide +kernel) rfl rfl rfl (by decide +kernel)
set_option maxRecDepth 65536 in
theorem w_c30 : (Jvm.Cond.code ({ cls := "java/util/Arrays", name := "checkLength", desc := "(II)V" } : Jvm.MethodName) jdk_65_method_131_code (2 : Nat) (Option.none : Option Jvm.ClassFile.FieldType)).before args0 about1 = true := code_word (m := ⟨15, 1⟩) (meth := k15m1) (c := k15c1) (by decide +kernel) rfl rfl rfl (by decide +kernel)
set_option maxRecDepth 65536 in
theorem w_c31 : (Jvm.Cond.code ({ cls := "java/lang/String", name := "<init>", desc := "([BB)V" } : Jvm.MethodName) jdk_42_method_151_code (3 : Nat) (Option.none : Option Jvm.ClassFile.FieldType)).before args0 about1 = true := code_word (m := ⟨7, 9⟩) (meth := k7m9) (c := k7c9) (by decide +kernel) rfl rfl rfl (by decide +kernel)
set_option maxRecDepth 65536 in
theorem w_c32 : (Jvm.Cond.code ({ cls := "java/lang/String", name := "substring", desc := "(I)Ljava/lang/String;" } : Jvm.MethodName) jdk_42_method_91_code (2 : Nat) (Option.some (Jvm.ClassFile.FieldType.object "java/lang/String"))).before args0 about1 = true := code_word (m := ⟨7, 6⟩) (meth := k7m6) (c := k7c6) (by decide +kernel) rfl rfl rfl (by decide +kernel)
set_option maxRecDepth 65536 in
theorem w_c33 : (Jvm.Cond.code ({ cls := "com/example/mortise/mortise/pack/NamespacedPath", name := "<init>", desc := "(Ljava/lang/String;Ljava/lang/String;Ljava/lang/String;)V" } : Jvm.MethodName) prog_5_method_1_code (4 : Nat) (Option.none : Option Jvm.ClassFile.FieldType)).before args0 about1 = true := code_word (m := ⟨9, 0⟩) (meth := k9m0) (c := k9c0) (by decide +kernel) rfl rfl rfl (by decide +kernel)
set_option maxRecDepth 65536 in
theorem w_c34 : (Jvm.Cond.code ({ cls := "java/lang/Record", name := "<init>", desc := "()V" } : Jvm.MethodName) jdk_30_method_1_code (1 : Nat) (Option.none : Option Jvm.ClassFile.FieldType)).before args0 about1 = true := code_word (m := ⟨8, 0⟩) (meth := k8m0) (c := k8c0) (by decide +kernel) rfl rfl rfl (by decide +kernel)
set_option maxRecDepth 65536 in
theorem w_c35 : (Jvm.Cond.code ({ cls := "java/util/Objects", name := "requireNonNull", desc := "(Ljava/lang/Object;Ljava/lang/String;)Ljava/lang/Object;" } : Jvm.MethodName) jdk_31_method_11_code (2 : Nat) (Option.some (Jvm.ClassFile.FieldType.object "java/lang/Object"))).before args0 about1 = true := code_word (m := ⟨17, 2⟩) (meth := k17m2) (c := k17c2) (by decide +kernel) rfl rfl rfl (by decide +kernel)
set_option maxRecDepth 65536 in
theorem w_c36 : (Jvm.Cond.code ({ cls := "java/util/Optional", name := "of", desc := "(Ljava/lang/Object;)Ljava/util/Optional;" } : Jvm.MethodName) jdk_32_method_3_code (1 : Nat) (Option.some (Jvm.ClassFile.FieldType.object "java/util/Optional"))).before args0 about1 = true := code_word (m := ⟨12, 2⟩) (meth := k12m2) (c := k12c2) (by decide +kernel) rfl rfl rfl (by decide +kernel)
set_option maxRecDepth 65536 in
theorem w_c37 : (Jvm.Cond.code ({ cls := "java/util/Objects", name := "requireNonNull", desc := "(Ljava/lang/Object;)Ljava/lang/Object;" } : Jvm.MethodName) jdk_31_method_10_code (1 : Nat) (Option.some (Jvm.ClassFile.FieldType.object "java/lang/Object"))).before args0 about1 = true := code_word (m := ⟨17, 1⟩) (meth := k17m1) (c := k17c1) (by decide +kernel) rfl rfl rfl (by decide +kernel)
set_option maxRecDepth 65536 in
theorem w_c38 : (Jvm.Cond.code ({ cls := "java/util/Optional", name := "<init>", desc := "(Ljava/lang/Object;)V" } : Jvm.MethodName) jdk_32_method_2_code (2 : Nat) (Option.none : Option Jvm.ClassFile.FieldType)).before args0 about1 = true := code_word (m := ⟨12, 1⟩) (meth := k12m1) (c := k12c1) (by decide +kernel) rfl rfl rfl (by decide +kernel)
set_option maxRecDepth 65536 in
theorem w_c39 : (Jvm.Cond.code ({ cls := "java/util/Optional", name := "get", desc := "()Ljava/lang/Object;" } : Jvm.MethodName) jdk_32_method_5_code (1 : Nat) (Option.some (Jvm.ClassFile.FieldType.object "java/lang/Object"))).before args0 about1 = true := code_word (m := ⟨12, 3⟩) (meth := k12m3) (c := k12c3) (by decide +kernel) rfl rfl rfl (by decide +kernel)
set_option maxRecDepth 65536 in
theorem w_c40 : (Jvm.Cond.code ({ cls := "com/example/mortise/mortise/pack/NamespacedPath", name := "top", desc := "()Ljava/lang/String;" } : Jvm.MethodName) prog_5_method_8_code (1 : Nat) (Option.some (Jvm.ClassFile.FieldType.object "java/lang/String"))).before args0 about1 = true := code_word (m := ⟨9, 3⟩) (meth := k9m3) (c := k9c3) (by decide +kernel) rfl rfl rfl (by decide +kernel)
set_option maxRecDepth 65536 in
theorem w_c41 : (Jvm.Cond.code ({ cls := "com/example/mortise/mortise/pack/NamespacedPathOfPinLaw", name := "same", desc := "(Ljava/lang/String;[CII)Z" } : Jvm.MethodName) method_7_code (4 : Nat) (Option.some Jvm.ClassFile.FieldType.boolean)).before args0 about1 = true := code_word (m := ⟨1, 6⟩) (meth := k1m6) (c := k1c6) (by decide +kernel) rfl rfl rfl (by decide +kernel)
set_option maxRecDepth 65536 in
theorem w_c42 : (Jvm.Cond.code ({ cls := "com/example/mortise/mortise/pack/NamespacedPathOfPinLaw", name := "eq", desc := "(Ljava/lang/String;[CII)Z" } : Jvm.MethodName) method_6_code (4 : Nat) (Option.some Jvm.ClassFile.FieldType.boolean)).before args0 about1 = true := code_word (m := ⟨1, 5⟩) (meth := k1m5) (c := k1c5) (by decide +kernel) rfl rfl rfl (by decide +kernel)
set_option maxRecDepth 65536 in
theorem w_c43 : (Jvm.Cond.code ({ cls := "java/lang/String", name := "charAt", desc := "(I)C" } : Jvm.MethodName) jdk_42_method_56_code (2 : Nat) (Option.some Jvm.ClassFile.FieldType.char)).before args0 about1 = true := code_word (m := ⟨7, 3⟩) (meth := k7m3) (c := k7c3) (by decide +kernel) rfl rfl rfl (by decide +kernel)
set_option maxRecDepth 65536 in
theorem w_c44 : (Jvm.Cond.code ({ cls := "java/lang/StringLatin1", name := "charAt", desc := "([BI)C" } : Jvm.MethodName) jdk_43_method_2_code (2 : Nat) (Option.some Jvm.ClassFile.FieldType.char)).before args0 about1 = true := code_word (m := ⟨10, 1⟩) (meth := k10m1) (c := k10c1) (by decide +kernel) rfl rfl rfl (by decide +kernel)
set_option maxRecDepth 65536 in
theorem w_c45 : (Jvm.Cond.code ({ cls := "java/lang/String", name := "checkIndex", desc := "(II)V" } : Jvm.MethodName) jdk_42_method_155_code (2 : Nat) (Option.none : Option Jvm.ClassFile.FieldType)).before args0 about1 = true := code_word (m := ⟨7, 12⟩) (meth := k7m12) (c := k7c12) (by decide +kernel) rfl rfl rfl (by decide +kernel)
set_option maxRecDepth 65536 in
theorem w_c46 : (Jvm.Cond.code ({ cls := "jdk/internal/util/Preconditions", name := "checkIndex", desc := "(IILjava/util/function/BiFunction;)I" } : Jvm.MethodName) jdk_41_method_11_code (3 : Nat) (Option.some Jvm.ClassFile.FieldType.int)).before args0 about1 = true := code_word (m := ⟨14, 1⟩) (meth := k14m1) (c := k14c1) (by decide +kernel) rfl rfl rfl (by decide +kernel)
set_option maxRecDepth 65536 in
theorem w_c47 : (Jvm.Cond.code ({ cls := "com/example/mortise/mortise/pack/NamespacedPath", name := "namespace", desc := "()Ljava/lang/String;" } : Jvm.MethodName) prog_5_method_9_code (1 : Nat) (Option.some (Jvm.ClassFile.FieldType.object "java/lang/String"))).before args0 about1 = true := code_word (m := ⟨9, 4⟩) (meth := k9m4) (c := k9c4) (by decide +kernel) rfl rfl rfl (by decide +kernel)
set_option maxRecDepth 65536 in
theorem w_c48 : (Jvm.Cond.code ({ cls := "com/example/mortise/mortise/pack/NamespacedPath", name := "below", desc := "()Ljava/lang/String;" } : Jvm.MethodName) prog_5_method_10_code (1 : Nat) (Option.some (Jvm.ClassFile.FieldType.object "java/lang/String"))).before args0 about1 = true := code_word (m := ⟨9, 5⟩) (meth := k9m5) (c := k9c5) (by decide +kernel) rfl rfl rfl (by decide +kernel)
def codes1 : List Jvm.Cond := [Jvm.Cond.code x code maxLocals ret, Jvm.Cond.code ({ cls := "com/example/mortise/mortise/pack/NamespacedPathOfPinLaw", name := "pick", desc := "(III)C" } : Jvm.MethodName) method_3_code (3 : Nat) (Option.some Jvm.ClassFile.FieldType.char), Jvm.Cond.code ({ cls := "java/lang/String", name := "<init>", desc := "([C)V" } : Jvm.MethodName) jdk_42_method_3_code (2 : Nat) (Option.none : Option Jvm.ClassFile.FieldType), Jvm.Cond.code ({ cls := "java/lang/String", name := "<init>", desc := "([CIILjava/lang/Void;)V" } : Jvm.MethodName) jdk_42_method_149_code (6 : Nat) (Option.none : Option Jvm.ClassFile.FieldType), Jvm.Cond.code ({ cls := "java/lang/Object", name := "<init>", desc := "()V" } : Jvm.MethodName) object_method_1_code (1 : Nat) (Option.none : Option Jvm.ClassFile.FieldType), Jvm.Cond.code ({ cls := "com/example/mortise/mortise/pack/NamespacedPathOfPinLaw", name := "firstSlash", desc := "([CI)I" } : Jvm.MethodName) method_5_code (2 : Nat) (Option.some Jvm.ClassFile.FieldType.int), Jvm.Cond.code ({ cls := "com/example/mortise/mortise/pack/NamespacedPathOfPinLaw", name := "slashAt", desc := "([CII)Z" } : Jvm.MethodName) method_4_code (3 : Nat) (Option.some Jvm.ClassFile.FieldType.boolean), Jvm.Cond.code ({ cls := "com/example/mortise/mortise/pack/NamespacedPath", name := "of", desc := "(Ljava/lang/String;)Ljava/util/Optional;" } : Jvm.MethodName) prog_5_method_2_code (3 : Nat) (Option.some (Jvm.ClassFile.FieldType.object "java/util/Optional")), Jvm.Cond.code ({ cls := "com/example/mortise/mortise/pack/NamespacedPath", name := "afterNamespace", desc := "(Ljava/lang/String;)I" } : Jvm.MethodName) prog_5_method_4_code (3 : Nat) (Option.some Jvm.ClassFile.FieldType.int), Jvm.Cond.code ({ cls := "java/lang/String", name := "indexOf", desc := "(I)I" } : Jvm.MethodName) jdk_42_method_79_code (2 : Nat) (Option.some Jvm.ClassFile.FieldType.int), Jvm.Cond.code ({ cls := "java/lang/String", name := "indexOf", desc := "(II)I" } : Jvm.MethodName) jdk_42_method_80_code (3 : Nat) (Option.some Jvm.ClassFile.FieldType.int), Jvm.Cond.code ({ cls := "java/lang/String", name := "isLatin1", desc := "()Z" } : Jvm.MethodName) jdk_42_method_154_code (1 : Nat) (Option.some Jvm.ClassFile.FieldType.boolean), Jvm.Cond.code ({ cls := "java/lang/String", name := "length", desc := "()I" } : Jvm.MethodName) jdk_42_method_54_code (1 : Nat) (Option.some Jvm.ClassFile.FieldType.int), Jvm.Cond.code ({ cls := "java/lang/String", name := "coder", desc := "()B" } : Jvm.MethodName) jdk_42_method_152_code (1 : Nat) (Option.some Jvm.ClassFile.FieldType.byte), Jvm.Cond.code ({ cls := "java/lang/StringLatin1", name := "indexOf", desc := "([BIII)I" } : Jvm.MethodName) jdk_43_method_22_code (4 : Nat) (Option.some Jvm.ClassFile.FieldType.int), Jvm.Cond.code ({ cls := "java/lang/StringLatin1", name := "canEncode", desc := "(I)Z" } : Jvm.MethodName) jdk_43_method_4_code (1 : Nat) (Option.some Jvm.ClassFile.FieldType.boolean), Jvm.Cond.code ({ cls := "java/lang/Math", name := "max", desc := "(II)I" } : Jvm.MethodName) jdk_29_method_65_code (2 : Nat) (Option.some Jvm.ClassFile.FieldType.int), Jvm.Cond.code ({ cls := "java/lang/Math", name := "min", desc := "(II)I" } : Jvm.MethodName) jdk_29_method_69_code (2 : Nat) (Option.some Jvm.ClassFile.FieldType.int), Jvm.Cond.code ({ cls := "java/util/Optional", name := "empty", desc := "()Ljava/util/Optional;" } : Jvm.MethodName) jdk_32_method_1_code (1 : Nat) (Option.some (Jvm.ClassFile.FieldType.object "java/util/Optional")), Jvm.Cond.code ({ cls := "java/util/Optional", name := "isPresent", desc := "()Z" } : Jvm.MethodName) jdk_32_method_6_code (1 : Nat) (Option.some Jvm.ClassFile.FieldType.boolean), Jvm.Cond.code ({ cls := "java/lang/StringUTF16", name := "compress", desc := "([CII)[B" } : Jvm.MethodName) jdk_52_method_16_code (6 : Nat) (Option.some (Jvm.ClassFile.FieldType.array Jvm.ClassFile.FieldType.byte)), Jvm.Cond.code ({ cls := "java/lang/StringUTF16", name := "compress", desc := "([CI[BII)I" } : Jvm.MethodName) jdk_52_method_21_code (7 : Nat) (Option.some Jvm.ClassFile.FieldType.int), Jvm.Cond.code ({ cls := "java/lang/StringUTF16", name := "coderFromArrayLen", desc := "([BI)B" } : Jvm.MethodName) jdk_52_method_15_code (2 : Nat) (Option.some Jvm.ClassFile.FieldType.byte), Jvm.Cond.code ({ cls := "java/lang/StringLatin1", name := "indexOfChar", desc := "([BIII)I" } : Jvm.MethodName) jdk_43_method_23_code (6 : Nat) (Option.some Jvm.ClassFile.FieldType.int), Jvm.Cond.code ({ cls := "java/lang/String", name := "substring", desc := "(II)Ljava/lang/String;" } : Jvm.MethodName) jdk_42_method_92_code (5 : Nat) (Option.some (Jvm.ClassFile.FieldType.object "java/lang/String")), Jvm.Cond.code ({ cls := "java/lang/String", name := "checkBoundsBeginEnd", desc := "(III)V" } : Jvm.MethodName) jdk_42_method_158_code (3 : Nat) (Option.none : Option Jvm.ClassFile.FieldType), Jvm.Cond.code ({ cls := "jdk/internal/util/Preconditions", name := "checkFromToIndex", desc := "(IIILjava/util/function/BiFunction;)I" } : Jvm.MethodName) jdk_41_method_12_code (4 : Nat) (Option.some Jvm.ClassFile.FieldType.int), Jvm.Cond.code ({ cls := "java/lang/StringLatin1", name := "newString", desc := "([BII)Ljava/lang/String;" } : Jvm.MethodName) jdk_43_method_47_code (3 : Nat) (Option.some (Jvm.ClassFile.FieldType.object "java/lang/String")), Jvm.Cond.code ({ cls := "java/util/Arrays", name := "copyOfRange", desc := "([BII)[B" } : Jvm.MethodName) jdk_65_method_132_code (3 : Nat) (Option.some (Jvm.ClassFile.FieldType.array Jvm.ClassFile.FieldType.byte)), Jvm.Cond.code ({ cls := "java/util/Arrays", name := "copyOfRangeByte", desc := "([BII)[B" } : Jvm.MethodName) jdk_65_method_133_code (5 : Nat) (Option.some (Jvm.ClassFile.FieldType.array Jvm.ClassFile.FieldType.byte)), Jvm.Cond.code ({ cls := "java/util/Arrays", name := "checkLength", desc := "(II)V" } : Jvm.MethodName) jdk_65_method_131_code (2 : Nat) (Option.none : Option Jvm.ClassFile.FieldType), Jvm.Cond.code ({ cls := "java/lang/String", name := "<init>", desc := "([BB)V" } : Jvm.MethodName) jdk_42_method_151_code (3 : Nat) (Option.none : Option Jvm.ClassFile.FieldType), Jvm.Cond.code ({ cls := "java/lang/String", name := "substring", desc := "(I)Ljava/lang/String;" } : Jvm.MethodName) jdk_42_method_91_code (2 : Nat) (Option.some (Jvm.ClassFile.FieldType.object "java/lang/String")), Jvm.Cond.code ({ cls := "com/example/mortise/mortise/pack/NamespacedPath", name := "<init>", desc := "(Ljava/lang/String;Ljava/lang/String;Ljava/lang/String;)V" } : Jvm.MethodName) prog_5_method_1_code (4 : Nat) (Option.none : Option Jvm.ClassFile.FieldType), Jvm.Cond.code ({ cls := "java/lang/Record", name := "<init>", desc := "()V" } : Jvm.MethodName) jdk_30_method_1_code (1 : Nat) (Option.none : Option Jvm.ClassFile.FieldType), Jvm.Cond.code ({ cls := "java/util/Objects", name := "requireNonNull", desc := "(Ljava/lang/Object;Ljava/lang/String;)Ljava/lang/Object;" } : Jvm.MethodName) jdk_31_method_11_code (2 : Nat) (Option.some (Jvm.ClassFile.FieldType.object "java/lang/Object")), Jvm.Cond.code ({ cls := "java/util/Optional", name := "of", desc := "(Ljava/lang/Object;)Ljava/util/Optional;" } : Jvm.MethodName) jdk_32_method_3_code (1 : Nat) (Option.some (Jvm.ClassFile.FieldType.object "java/util/Optional")), Jvm.Cond.code ({ cls := "java/util/Objects", name := "requireNonNull", desc := "(Ljava/lang/Object;)Ljava/lang/Object;" } : Jvm.MethodName) jdk_31_method_10_code (1 : Nat) (Option.some (Jvm.ClassFile.FieldType.object "java/lang/Object")), Jvm.Cond.code ({ cls := "java/util/Optional", name := "<init>", desc := "(Ljava/lang/Object;)V" } : Jvm.MethodName) jdk_32_method_2_code (2 : Nat) (Option.none : Option Jvm.ClassFile.FieldType), Jvm.Cond.code ({ cls := "java/util/Optional", name := "get", desc := "()Ljava/lang/Object;" } : Jvm.MethodName) jdk_32_method_5_code (1 : Nat) (Option.some (Jvm.ClassFile.FieldType.object "java/lang/Object")), Jvm.Cond.code ({ cls := "com/example/mortise/mortise/pack/NamespacedPath", name := "top", desc := "()Ljava/lang/String;" } : Jvm.MethodName) prog_5_method_8_code (1 : Nat) (Option.some (Jvm.ClassFile.FieldType.object "java/lang/String")), Jvm.Cond.code ({ cls := "com/example/mortise/mortise/pack/NamespacedPathOfPinLaw", name := "same", desc := "(Ljava/lang/String;[CII)Z" } : Jvm.MethodName) method_7_code (4 : Nat) (Option.some Jvm.ClassFile.FieldType.boolean), Jvm.Cond.code ({ cls := "com/example/mortise/mortise/pack/NamespacedPathOfPinLaw", name := "eq", desc := "(Ljava/lang/String;[CII)Z" } : Jvm.MethodName) method_6_code (4 : Nat) (Option.some Jvm.ClassFile.FieldType.boolean), Jvm.Cond.code ({ cls := "java/lang/String", name := "charAt", desc := "(I)C" } : Jvm.MethodName) jdk_42_method_56_code (2 : Nat) (Option.some Jvm.ClassFile.FieldType.char), Jvm.Cond.code ({ cls := "java/lang/StringLatin1", name := "charAt", desc := "([BI)C" } : Jvm.MethodName) jdk_43_method_2_code (2 : Nat) (Option.some Jvm.ClassFile.FieldType.char), Jvm.Cond.code ({ cls := "java/lang/String", name := "checkIndex", desc := "(II)V" } : Jvm.MethodName) jdk_42_method_155_code (2 : Nat) (Option.none : Option Jvm.ClassFile.FieldType), Jvm.Cond.code ({ cls := "jdk/internal/util/Preconditions", name := "checkIndex", desc := "(IILjava/util/function/BiFunction;)I" } : Jvm.MethodName) jdk_41_method_11_code (3 : Nat) (Option.some Jvm.ClassFile.FieldType.int), Jvm.Cond.code ({ cls := "com/example/mortise/mortise/pack/NamespacedPath", name := "namespace", desc := "()Ljava/lang/String;" } : Jvm.MethodName) prog_5_method_9_code (1 : Nat) (Option.some (Jvm.ClassFile.FieldType.object "java/lang/String")), Jvm.Cond.code ({ cls := "com/example/mortise/mortise/pack/NamespacedPath", name := "below", desc := "()Ljava/lang/String;" } : Jvm.MethodName) prog_5_method_10_code (1 : Nat) (Option.some (Jvm.ClassFile.FieldType.object "java/lang/String"))]
set_option maxRecDepth 65536 in
theorem codes_eq : words1.filter isCode = codes1 := rfl
theorem w_codes : ∀ c ∈ words1.filter isCode, c.before args0 about1 = true := by
  rw [codes_eq]
  intro c hc
  simp only [codes1, List.mem_cons, List.not_mem_nil, or_false] at hc
  rcases hc with rfl | rfl | rfl | rfl | rfl | rfl | rfl | rfl | rfl | rfl | rfl | rfl | rfl | rfl | rfl | rfl | rfl | rfl | rfl | rfl | rfl | rfl | rfl | rfl | rfl | rfl | rfl | rfl | rfl | rfl | rfl | rfl | rfl | rfl | rfl | rfl | rfl | rfl | rfl | rfl | rfl | rfl | rfl | rfl | rfl | rfl | rfl | rfl | rfl
  · exact w_c0
  · exact w_c1
  · exact w_c2
  · exact w_c3
  · exact w_c4
  · exact w_c5
  · exact w_c6
  · exact w_c7
  · exact w_c8
  · exact w_c9
  · exact w_c10
  · exact w_c11
  · exact w_c12
  · exact w_c13
  · exact w_c14
  · exact w_c15
  · exact w_c16
  · exact w_c17
  · exact w_c18
  · exact w_c19
  · exact w_c20
  · exact w_c21
  · exact w_c22
  · exact w_c23
  · exact w_c24
  · exact w_c25
  · exact w_c26
  · exact w_c27
  · exact w_c28
  · exact w_c29
  · exact w_c30
  · exact w_c31
  · exact w_c32
  · exact w_c33
  · exact w_c34
  · exact w_c35
  · exact w_c36
  · exact w_c37
  · exact w_c38
  · exact w_c39
  · exact w_c40
  · exact w_c41
  · exact w_c42
  · exact w_c43
  · exact w_c44
  · exact w_c45
  · exact w_c46
  · exact w_c47
  · exact w_c48
set_option maxRecDepth 65536 in
theorem w_t1 : (words1.take 24).all (fun c => isCode c || c.before args0 about1) = true := by decide +kernel
set_option maxRecDepth 65536 in
theorem w_t2 : ((words1.drop 24).take 24).all (fun c => isCode c || c.before args0 about1) = true := by decide +kernel
set_option maxRecDepth 65536 in
theorem w_t3 : (((words1.drop 24).drop 24).take 24).all (fun c => isCode c || c.before args0 about1) = true := by decide +kernel
set_option maxRecDepth 65536 in
theorem w_t4 : ((((words1.drop 24).drop 24).drop 24).take 24).all (fun c => isCode c || c.before args0 about1) = true := by decide +kernel
set_option maxRecDepth 65536 in
theorem w_t5 : (((((words1.drop 24).drop 24).drop 24).drop 24).take 24).all (fun c => isCode c || c.before args0 about1) = true := by decide +kernel
set_option maxRecDepth 65536 in
theorem w_t6 : ((((((words1.drop 24).drop 24).drop 24).drop 24).drop 24).take 24).all (fun c => isCode c || c.before args0 about1) = true := by decide +kernel
set_option maxRecDepth 65536 in
theorem w_t7 : (((((((words1.drop 24).drop 24).drop 24).drop 24).drop 24).drop 24).take 24).all (fun c => isCode c || c.before args0 about1) = true := by decide +kernel
set_option maxRecDepth 65536 in
theorem w_t8 : ((((((((words1.drop 24).drop 24).drop 24).drop 24).drop 24).drop 24).drop 24).take 24).all (fun c => isCode c || c.before args0 about1) = true := by decide +kernel
set_option maxRecDepth 65536 in
theorem w_t9 : (((((((((words1.drop 24).drop 24).drop 24).drop 24).drop 24).drop 24).drop 24).drop 24).take 24).all (fun c => isCode c || c.before args0 about1) = true := by decide +kernel
set_option maxRecDepth 65536 in
theorem w_t10 : (((((((((words1.drop 24).drop 24).drop 24).drop 24).drop 24).drop 24).drop 24).drop 24).drop 24).all (fun c => isCode c || c.before args0 about1) = true := by decide +kernel
theorem w_tables : (allAtoms (Jvm.Cond.code x code maxLocals ret :: tables_1)).before args0 about1 = true := by
  rw [allAtoms_all]
  show words1.all (fun c => c.before args0 about1) = true
  refine all_split ?_ w_codes
  rw [← List.take_append_drop 24 words1, List.all_append, w_t1, ← List.take_append_drop 24 (words1.drop 24), List.all_append, w_t2, ← List.take_append_drop 24 ((words1.drop 24).drop 24), List.all_append, w_t3, ← List.take_append_drop 24 (((words1.drop 24).drop 24).drop 24), List.all_append, w_t4, ← List.take_append_drop 24 ((((words1.drop 24).drop 24).drop 24).drop 24), List.all_append, w_t5, ← List.take_append_drop 24 (((((words1.drop 24).drop 24).drop 24).drop 24).drop 24), List.all_append, w_t6, ← List.take_append_drop 24 ((((((words1.drop 24).drop 24).drop 24).drop 24).drop 24).drop 24), List.all_append, w_t7, ← List.take_append_drop 24 (((((((words1.drop 24).drop 24).drop 24).drop 24).drop 24).drop 24).drop 24), List.all_append, w_t8, ← List.take_append_drop 24 ((((((((words1.drop 24).drop 24).drop 24).drop 24).drop 24).drop 24).drop 24).drop 24), List.all_append, w_t9, w_t10]
  rfl
set_option maxRecDepth 65536 in
theorem w_rest : rest_1_c.before args0 about1 = true := by decide +kernel
set_option maxRecDepth 65536 in
theorem w_case : (Jvm.Cond.and given_1 narrow_1).before args0 about1 = true := by decide +kernel
set_option maxRecDepth 65536 in
theorem w_consts : constsHeld consts_1 about1 := Jvm.Lit.constsHeldB_iff.mp (by decide +kernel)
theorem w_applies : (headSpec (Jvm.Cond.code x code maxLocals ret :: tables_1) room_1).applies x e0.platform about1 = true :=
  (Spec.applies_iff w_frames).mpr ⟨w_running, w_runnable, w_alone, w_named, w_hears, w_ripe, w_room, w_tables⟩
theorem atStart : AtStart classFile x code maxLocals ret World_1 tables_1 room_1 Calls_1 rest_1 Pre_1 launch0 p0 e0 about1 theMethod args0 below0 :=
  ⟨lists_1, trivial, launch0.admits_env _ _ _, launch0.least_env, fairChoices_fair.cas, fairChoices_fair.clock, w_frames, w_args, w_heap, w_applies, ⟨w_consts, trivial⟩, w_rest, w_case⟩
end start1
theorem witness_1 : WitnessClaimed_1 := ⟨start1.p0, start1.e0, start1.about1, start1.theMethod, start1.args0, start1.below0, start1.atStart⟩
end Jvm.Pilot.@@N@@
